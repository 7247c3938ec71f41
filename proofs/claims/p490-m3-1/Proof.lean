import JvmDerived
import JvmDerived.Pilot.@@N@@Statement
import JvmDerived.Pilot.@@N@@Code
set_option linter.unusedVariables false
set_option linter.unusedSimpArgs false
@@BLOCK:NumsL.lean.txt@@
/- laws to paste: Road.backV, Road.eqW, Road.chN, Road.codOf (cut by pick.py; bodies as the Statement names them) -/
namespace Jvm.Pilot.@@N@@
namespace StrChars
open Jvm Sem ClassFile Op Lib Jvm.Stand Jvm.Free.XT Jvm.Free.ALB Jvm.Free.JM Jvm.Free
open Jvm.Lib.Cold (StaticIs)
/-- a char array whose places are chars -/
def Ch (a : Addr) (A : Cell) (U : State) : Prop := Arr .char a A U ∧ Typed .char A
theorem Ch.mv {a : Addr} {A : Cell} {U U' : State} (h : Ch a A U) (hal : U.vm.Alike U'.vm) (hh : U'.heap = U.heap) : Ch a A U' := ⟨h.1.mv hal hh, h.2⟩
theorem Ch.keep {a : Addr} {A : Cell} {U U' : State} (h : Ch a A U) (hal : U.vm.Alike U'.vm) (hk : U'.heap[a]? = some A) : Ch a A U' := ⟨h.1.keep hal hk, h.2⟩
/-- what place i of a char[]'s cell holds -/
def cv (A : Cell) (i : Nat) : Int32 := match A.slots[i]? with | some (.int x) => x | _ => 0
theorem Ch.get {a : Addr} {A : Cell} {U : State} (h : Ch a A U) {i : Nat} (hi : i < A.slots.size) : A.slots[i]? = some (.int (cv A i)) := by
  have e := Array.getElem?_eq_getElem hi
  have f := h.2 i _ e
  unfold cv; rw [e]
  generalize A.slots[i] = v at f
  cases v <;> simp [fits] at f ⊢
/-- the byte that i2b leaves of a char -/
def lo8 (x : Int32) : Int32 := x.toInt8.toInt32
theorem fits_lo8 (y : Int32) : fits .byte (.int (lo8 y)) = true := by
  have h1 := y.toInt8.le_toInt
  have h2 := y.toInt8.toInt_lt
  simp only [lo8, fits, Bool.and_eq_true, decide_eq_true_eq, Int32.le_iff_toInt_le, Int8.toInt_toInt32, show (-128 : Int32).toInt = -128 from by decide, show (127 : Int32).toInt = 127 from by decide]
  omega
/-- A' is A but that each place j of lo .. hi - 1 holds f j -/
def Laid (A A' : Cell) (lo hi : Nat) (f : Nat → Value) : Prop := A'.cls = A.cls ∧ A'.vm = A.vm ∧ A'.slots.size = A.slots.size ∧ ∀ i, A'.slots[i]? = if lo ≤ i ∧ i < hi then some (f i) else A.slots[i]?
theorem Laid.zero (A : Cell) (lo : Nat) (f : Nat → Value) : Laid A A lo (lo + 0) f := ⟨rfl, rfl, rfl, fun i => by rw [if_neg (by omega)]⟩
theorem Laid.step {A Ak : Cell} {lo k : Nat} {f : Nat → Value} {v : Value} (h : Laid A Ak lo k f) (hlo : lo ≤ k) (hk : k < Ak.slots.size) (hv : v = f k) : Laid A (Ak.setSlot k v) lo (k + 1) f := by
  refine ⟨h.1, h.2.1, by simpa [Cell.setSlot] using h.2.2.1, fun i => ?_⟩
  by_cases e : k = i
  · subst e; rw [Cell.slots_setSlot_self v hk, if_pos (by omega), hv]
  · rw [Cell.slots_setSlot_ne v e, h.2.2.2 i]
    by_cases q : lo ≤ i ∧ i < k
    · rw [if_pos q, if_pos (by omega)]
    · rw [if_neg q, if_neg (by omega)]
def U16 : String := "java/lang/StringUTF16"
namespace Cmp5
def yN : MethodName := ⟨"java/lang/StringUTF16", "compress", "([CI[BII)I"⟩
abbrev yB : ByteArray := jdk_52_method_21_code
theorem d0 : decode yB 0 = .ok (.iconst 0, 1) := by decide +kernel
theorem d1 : decode yB 1 = .ok (.istore 5, 2) := by decide +kernel
theorem d3 : decode yB 3 = .ok (.iload 5, 2) := by decide +kernel
theorem d5 : decode yB 5 = .ok (.iload 4, 2) := by decide +kernel
theorem d7 : decode yB 7 = .ok (.if_icmp (.ge) 37, 3) := by decide +kernel
theorem d10 : decode yB 10 = .ok (.aload_n 0, 1) := by decide +kernel
theorem d11 : decode yB 11 = .ok (.iload_n 1, 1) := by decide +kernel
theorem d12 : decode yB 12 = .ok (.caload, 1) := by decide +kernel
theorem d13 : decode yB 13 = .ok (.istore 6, 2) := by decide +kernel
theorem d15 : decode yB 15 = .ok (.iload 6, 2) := by decide +kernel
theorem d17 : decode yB 17 = .ok (.sipush 255, 3) := by decide +kernel
theorem d20 : decode yB 20 = .ok (.if_icmp (.le) 6, 3) := by decide +kernel
theorem d26 : decode yB 26 = .ok (.aload_n 2, 1) := by decide +kernel
theorem d27 : decode yB 27 = .ok (.iload_n 3, 1) := by decide +kernel
theorem d28 : decode yB 28 = .ok (.iload 6, 2) := by decide +kernel
theorem d30 : decode yB 30 = .ok (.i2b, 1) := by decide +kernel
theorem d31 : decode yB 31 = .ok (.bastore, 1) := by decide +kernel
theorem d32 : decode yB 32 = .ok (.iinc 1 1, 3) := by decide +kernel
theorem d35 : decode yB 35 = .ok (.iinc 3 1, 3) := by decide +kernel
theorem d38 : decode yB 38 = .ok (.iinc 5 1, 3) := by decide +kernel
theorem d41 : decode yB 41 = .ok (.goto (-38), 3) := by decide +kernel
theorem d44 : decode yB 44 = .ok (.iload 4, 2) := by decide +kernel
theorem d46 : decode yB 46 = .ok (.ireturn, 1) := by decide +kernel
def site : List Cond := []
def tab : Cond := tabOf yN yB 7 (some .int) site
def P (b : Addr) (A : Cell) (d : Addr) (B : Cell) (o q len : Nat) (args : Array Value) (s : State) : Prop := args = #[.ref b, .int (Int32.ofNat o), .ref d, .int (Int32.ofNat q), .int (Int32.ofNat len)] ∧ Ch b A s ∧ Arr .byte d B s ∧ b ≠ d ∧ o + len ≤ A.slots.size ∧ q + len ≤ B.slots.size ∧ ∀ i, i < len → ¬ 255 < cv A (o + i)
def E (b : Addr) (A : Cell) (d : Addr) (B : Cell) (o q len : Nat) (r : Option Value) (s u : State) : Prop := r = some (.int (Int32.ofNat len)) ∧ ∃ B', Put d B' s u ∧ Laid B B' q (q + len) (fun j => Value.int (lo8 (cv A (o + (j - q)))))
/-- no char of the range above 255: len; the places written hold each char's low byte -/
theorem law (l : Launch) (b : Addr) (A : Cell) (d : Addr) (B : Cell) (o q len : Nat) : Law l yN 5 5 0 0 yB 7 (some .int) site (P b A d B o q len) (E b A d B o q len) (copyLocs d q len) 0 0 := by
  refine Law.of_walk (plainFor_of_name (by decide +kernel)) (by decide +kernel) (by decide +kernel) (by decide) (fun _ _ h => by rw [h.1]; rfl) (fun _ U U' hal hh h => ⟨h.1, h.2.1.mv hal hh, h.2.2.1.mv hal hh, h.2.2.2⟩) (fun r U U' V V' h1 hal h2 h => ⟨h.1, h.2.elim fun B' q => ⟨B', q.1.mv h1 h2, q.2⟩⟩) ?_
  intro p e s m args below meth c s₁ X0 hexec hbytes hml hret hlk hnm hown hh0 W hP
  obtain ⟨rfl, hA, hB, hne, l1, l2, hp⟩ := hP
  have c1 : Steps p.tables e below (s₁.setTop (entryFrame m #[.ref b, .int (Int32.ofNat o), .ref d, .int (Int32.ofNat q), .int (Int32.ofNat len)] 7)) (s₁.setTop (mkF m 0 #[.val (.ref b), .val (.int (Int32.ofNat o)), .val (.ref d), .val (.int (Int32.ofNat q)), .val (.int (Int32.ofNat len)), .unset, .unset] [])) := entry rfl
  have hA0 := hA.1.mv X0.warmed.alike hh0
  have hB0 := hB.mv X0.warmed.alike hh0
  have a31 := hA.1.2.2.2
  have c2 : Steps p.tables e below (s₁.setTop (entryFrame m #[.ref b, .int (Int32.ofNat o), .ref d, .int (Int32.ofNat q), .int (Int32.ofNat len)] 7)) (s₁.setTop (mkF m 3 #[.val (.ref b), .val (.int (Int32.ofNat o)), .val (.ref d), .val (.int (Int32.ofNat q)), .val (.int (Int32.ofNat len)), .val (.int 0), .unset] [])) := c1.trans (by
    refine iconstV X0.here hexec rfl 0 (hb hbytes d0) (by decide) ?_
    refine XS.istore X0.here hexec rfl (hb hbytes d1) rfl rfl ?_
    exact Steps.refl _)
  have loop : ∀ (r i : Nat), i + r = len → ∀ (z : Slot), (z = .unset ∨ ∃ w, z = .val w ∧ w.category = 1) → ∀ (Tl : State) (Bk : Cell), Stand p l e { frames := 0, locals := 0, cells := 0, slots := 0 } s m #[.ref b, .int (Int32.ofNat o), .ref d, .int (Int32.ofNat q), .int (Int32.ofNat len)] below meth c Tl ([] ++ copyLocs d q i) 0 0 → Put d Bk s₁ Tl → Laid B Bk q (q + i) (fun j => Value.int (lo8 (cv A (o + (j - q))))) →
      Steps p.tables e below (s₁.setTop (entryFrame m #[.ref b, .int (Int32.ofNat o), .ref d, .int (Int32.ofNat q), .int (Int32.ofNat len)] 7)) (Tl.setTop (mkF m 3 #[.val (.ref b), .val (.int (Int32.ofNat (o + i))), .val (.ref d), .val (.int (Int32.ofNat (q + i))), .val (.int (Int32.ofNat len)), .val (.int (Int32.ofNat i)), z] [])) → ∃ (T' : State) (B' : Cell) (z' : Slot), Stand p l e { frames := 0, locals := 0, cells := 0, slots := 0 } s m #[.ref b, .int (Int32.ofNat o), .ref d, .int (Int32.ofNat q), .int (Int32.ofNat len)] below meth c T' ([] ++ copyLocs d q len) 0 0 ∧ Put d B' s₁ T' ∧ Laid B B' q (q + len) (fun j => Value.int (lo8 (cv A (o + (j - q))))) ∧
      Steps p.tables e below (s₁.setTop (entryFrame m #[.ref b, .int (Int32.ofNat o), .ref d, .int (Int32.ofNat q), .int (Int32.ofNat len)] 7)) (T'.setTop (mkF m 3 #[.val (.ref b), .val (.int (Int32.ofNat (o + len))), .val (.ref d), .val (.int (Int32.ofNat (q + len))), .val (.int (Int32.ofNat len)), .val (.int (Int32.ofNat len)), z'] [])) := by
    intro r
    induction r with
    | zero =>
      intro i hi z hz Tl Bk Xl pl fl cl
      have hil : i = len := by omega
      rw [hil] at Xl fl cl
      exact ⟨Tl, Bk, z, Xl, pl, fl, cl⟩
    | succ r ih =>
      intro i hi z hz Tl Bk Xl pl fl cl
      have all := X0.warmed.alike.symm.trans Xl.warmed.alike
      have hAl := hA0.keep all (pl.other hne hA0.1)
      have hBk := hB0.like all pl.1 fl.1 fl.2.1 fl.2.2.1
      have hlt : q + i < Bk.slots.size := by rw [fl.2.2.1]; omega
      have c3 : Steps p.tables e below (s₁.setTop (entryFrame m #[.ref b, .int (Int32.ofNat o), .ref d, .int (Int32.ofNat q), .int (Int32.ofNat len)] 7)) (Tl.setTop (mkF m 12 #[.val (.ref b), .val (.int (Int32.ofNat (o + i))), .val (.ref d), .val (.int (Int32.ofNat (q + i))), .val (.int (Int32.ofNat len)), .val (.int (Int32.ofNat i)), z] [.int (Int32.ofNat (o + i)), .ref b])) := cl.trans (by
        refine XS.iload Xl.here hexec rfl (hb hbytes d3) rfl ?_
        refine XS.iload Xl.here hexec rfl (hb hbytes d5) rfl ?_
        refine XS.icmpNo Xl.here hexec rfl (hb hbytes d7) rfl (ii_ge_f (lt32 (by omega) (by omega))) ?_
        refine XS.aloadN Xl.here hexec rfl (hb hbytes d10) rfl rfl ?_
        refine XS.iloadN Xl.here hexec rfl (hb hbytes d11) rfl ?_
        exact Steps.refl _)
      have c4 : Steps p.tables e below (s₁.setTop (entryFrame m #[.ref b, .int (Int32.ofNat o), .ref d, .int (Int32.ofNat q), .int (Int32.ofNat len)] 7)) (Tl.setTop (mkF m 13 #[.val (.ref b), .val (.int (Int32.ofNat (o + i))), .val (.ref d), .val (.int (Int32.ofNat (q + i))), .val (.int (Int32.ofNat len)), .val (.int (Int32.ofNat i)), z] [.int (cv A (o + i))])) := c3.trans (by
        refine Xl.aget hexec hAl rfl (hA.get (i := o + i) (by omega)) rfl rfl (hb hbytes d12) ?_
        exact Steps.refl _)
      have c5 : Steps p.tables e below (s₁.setTop (entryFrame m #[.ref b, .int (Int32.ofNat o), .ref d, .int (Int32.ofNat q), .int (Int32.ofNat len)] 7)) (Tl.setTop (mkF m 15 #[.val (.ref b), .val (.int (Int32.ofNat (o + i))), .val (.ref d), .val (.int (Int32.ofNat (q + i))), .val (.int (Int32.ofNat len)), .val (.int (Int32.ofNat i)), .val (.int (cv A (o + i)))] [])) := c4.trans (by
        refine XS.istoreS Xl.here hexec rfl (hb hbytes d13) rfl rfl hz ?_
        exact Steps.refl _)
      have c6 : Steps p.tables e below (s₁.setTop (entryFrame m #[.ref b, .int (Int32.ofNat o), .ref d, .int (Int32.ofNat q), .int (Int32.ofNat len)] 7)) (Tl.setTop (mkF m 31 #[.val (.ref b), .val (.int (Int32.ofNat (o + i))), .val (.ref d), .val (.int (Int32.ofNat (q + i))), .val (.int (Int32.ofNat len)), .val (.int (Int32.ofNat i)), .val (.int (cv A (o + i)))] [.int (lo8 (cv A (o + i))), .int (Int32.ofNat (q + i)), .ref d])) := c5.trans (by
        refine XS.iload Xl.here hexec rfl (hb hbytes d15) rfl ?_
        refine sipushV Xl.here hexec rfl 255 (hb hbytes d17) (by decide) ?_
        refine XS.icmpYes Xl.here hexec rfl (pc0 := 20) rfl (hb hbytes d20) rfl (ii_le_t (hp i (by omega))) (by decide) rfl ?_
        refine XS.aloadN Xl.here hexec rfl (hb hbytes d26) rfl rfl ?_
        refine XS.iloadN Xl.here hexec rfl (hb hbytes d27) rfl ?_
        refine XS.iload Xl.here hexec rfl (hb hbytes d28) rfl ?_
        refine i2b Xl.here hexec rfl (hb hbytes d30) rfl ?_
        exact Steps.refl _)
      obtain ⟨T7, X7, p7, st7⟩ := Xl.aput hexec hBk rfl hlt rfl (fits_lo8 (cv A (o + i))) (g := (mkF m 31 #[.val (.ref b), .val (.int (Int32.ofNat (o + i))), .val (.ref d), .val (.int (Int32.ofNat (q + i))), .val (.int (Int32.ofNat len)), .val (.int (Int32.ofNat i)), .val (.int (cv A (o + i)))] [.int (lo8 (cv A (o + i))), .int (Int32.ofNat (q + i)), .ref d])) rfl (rest := []) rfl (hb hbytes d31)
      have c8 : Steps p.tables e below (s₁.setTop (entryFrame m #[.ref b, .int (Int32.ofNat o), .ref d, .int (Int32.ofNat q), .int (Int32.ofNat len)] 7)) (T7.setTop (mkF m 32 #[.val (.ref b), .val (.int (Int32.ofNat (o + i))), .val (.ref d), .val (.int (Int32.ofNat (q + i))), .val (.int (Int32.ofNat len)), .val (.int (Int32.ofNat i)), .val (.int (cv A (o + i)))] [])) := c6.trans (st7 _ (Steps.refl _))
      have c9 : Steps p.tables e below (s₁.setTop (entryFrame m #[.ref b, .int (Int32.ofNat o), .ref d, .int (Int32.ofNat q), .int (Int32.ofNat len)] 7)) (T7.setTop (mkF m 3 #[.val (.ref b), .val (.int (Int32.ofNat (o + i) + 1)), .val (.ref d), .val (.int (Int32.ofNat (q + i) + 1)), .val (.int (Int32.ofNat len)), .val (.int (Int32.ofNat i + 1)), .val (.int (cv A (o + i)))] [])) := c8.trans (by
        refine iincV X7.here hexec rfl 1 (hb hbytes d32) (by decide) rfl rfl ?_
        refine iincV X7.here hexec rfl 1 (hb hbytes d35) (by decide) rfl rfl ?_
        refine iincV X7.here hexec rfl 1 (hb hbytes d38) (by decide) rfl rfl ?_
        refine XS.goto X7.here hexec rfl (pc0 := 41) rfl (hb hbytes d41) (by decide) rfl ?_
        exact Steps.refl _)
      have c10 : Steps p.tables e below (s₁.setTop (entryFrame m #[.ref b, .int (Int32.ofNat o), .ref d, .int (Int32.ofNat q), .int (Int32.ofNat len)] 7)) (T7.setTop (mkF m 3 #[.val (.ref b), .val (.int (Int32.ofNat (o + (i + 1)))), .val (.ref d), .val (.int (Int32.ofNat (q + (i + 1)))), .val (.int (Int32.ofNat len)), .val (.int (Int32.ofNat (i + 1))), .val (.int (cv A (o + i)))] [])) := by
        have := c9
        rw [succ32, succ32, succ32] at this
        exact this
      exact ih (i + 1) (by omega) _ (Or.inr ⟨_, rfl, rfl⟩) T7 _ (by rw [copyLocs_step, ← List.append_assoc]; exact X7) (pl.trans p7) (fl.step (by omega) hlt (by simp)) c10
  obtain ⟨T9, B9, z9, X9, p9, f9, g9⟩ := loop len 0 (by omega) .unset (Or.inl rfl) s₁ B (by simpa [copyLocs] using X0) ⟨hB0.1, fun _ _ => rfl, rfl⟩ (Laid.zero _ _ _) c2
  have c11 : Steps p.tables e below (s₁.setTop (entryFrame m #[.ref b, .int (Int32.ofNat o), .ref d, .int (Int32.ofNat q), .int (Int32.ofNat len)] 7)) (T9.setTop (mkF m 46 #[.val (.ref b), .val (.int (Int32.ofNat (o + len))), .val (.ref d), .val (.int (Int32.ofNat (q + len))), .val (.int (Int32.ofNat len)), .val (.int (Int32.ofNat len)), z9] [.int (Int32.ofNat len)])) := g9.trans (by
    refine XS.iload X9.here hexec rfl (hb hbytes d3) rfl ?_
    refine XS.iload X9.here hexec rfl (hb hbytes d5) rfl ?_
    refine XS.icmpYes X9.here hexec rfl (pc0 := 7) rfl (hb hbytes d7) rfl (ii_ge_t (nlt32 (by omega) (Nat.le_refl _))) (by decide) rfl ?_
    refine XS.iload X9.here hexec rfl (hb hbytes d44) rfl ?_
    exact Steps.refl _)
  exact ⟨T9, some (.int (Int32.ofNat len)), _, _, _, X9, by simp, rfl, rfl, (fun h => by cases h), ⟨rfl, B9, p9.from hh0, f9⟩, fun fs hl => c11.trans (X9.ireturnOut hexec hret rfl (Or.inl rfl) (hb hbytes d46) hl)⟩
end Cmp5
namespace Cmp3
def yN : MethodName := ⟨"java/lang/StringUTF16", "compress", "([CII)[B"⟩
abbrev yB : ByteArray := jdk_52_method_16_code
theorem d0 : decode yB 0 = .ok (.iload_n 2, 1) := by decide +kernel
theorem d1 : decode yB 1 = .ok (.newarray .byte, 2) := by decide +kernel
theorem d3 : decode yB 3 = .ok (.astore_n 3, 1) := by decide +kernel
theorem d4 : decode yB 4 = .ok (.aload_n 0, 1) := by decide +kernel
theorem d5 : decode yB 5 = .ok (.iload_n 1, 1) := by decide +kernel
theorem d6 : decode yB 6 = .ok (.aload_n 3, 1) := by decide +kernel
theorem d7 : decode yB 7 = .ok (.iconst 0, 1) := by decide +kernel
theorem d8 : decode yB 8 = .ok (.iload_n 2, 1) := by decide +kernel
theorem d9 : decode yB 9 = .ok (.invokestatic 115, 3) := by decide +kernel
theorem d12 : decode yB 12 = .ok (.istore 4, 2) := by decide +kernel
theorem d14 : decode yB 14 = .ok (.iload 4, 2) := by decide +kernel
theorem d16 : decode yB 16 = .ok (.iload_n 2, 1) := by decide +kernel
theorem d17 : decode yB 17 = .ok (.if_icmp (.eq) 40, 3) := by decide +kernel
theorem d57 : decode yB 57 = .ok (.aload_n 3, 1) := by decide +kernel
theorem d58 : decode yB 58 = .ok (.areturn, 1) := by decide +kernel
def site : List Cond := [.arrayClass .byte, Cmp5.tab] ++ staticW U16 115 Cmp5.yN
def tab : Cond := tabOf yN yB 6 (some (.array .byte)) site
def P (b : Addr) (A : Cell) (o len : Nat) (args : Array Value) (s : State) : Prop := args = #[.ref b, .int (Int32.ofNat o), .int (Int32.ofNat len)] ∧ Ch b A s ∧ o + len ≤ A.slots.size ∧ len ≤ 536870912 ∧ ∀ i, i < len → ¬ 255 < cv A (o + i)
def E (b : Addr) (A : Cell) (o len : Nat) (r : Option Value) (s u : State) : Prop := NewArr .byte "[B" len (fun j => .int (lo8 (cv A (o + j)))) r s u ∧ u.heap.size = s.heap.size + 1
/-- no char of the range above 255: a new byte[] of their low bytes -/
theorem law (l : Launch) (b : Addr) (A : Cell) (o len : Nat) : Law l yN 3 3 1 18 yB 6 (some (.array .byte)) site (P b A o len) (E b A o len) [] 1 len := by
  refine Law.of_walk (plainFor_of_name (by decide +kernel)) (by decide +kernel) (by decide +kernel) (by decide) (fun _ _ h => by rw [h.1]; rfl) (fun _ U U' hal hh h => ⟨h.1, h.2.1.mv hal hh, h.2.2⟩) (fun r U U' V V' h1 hal h2 h => ⟨NewArr.mv r U U' V V' h1 hal h2 h.1, by rw [h1, h2]; exact h.2⟩) ?_
  intro p e s m args below meth c s₁ X0 hexec hbytes hml hret hlk hnm hown hh0 W hP
  obtain ⟨rfl, hA, l1, l2, hp⟩ := hP
  have a31 := hA.1.2.2.2
  have c1 : Steps p.tables e below (s₁.setTop (entryFrame m #[.ref b, .int (Int32.ofNat o), .int (Int32.ofNat len)] 6)) (s₁.setTop (mkF m 0 #[.val (.ref b), .val (.int (Int32.ofNat o)), .val (.int (Int32.ofNat len)), .unset, .unset, .unset] [])) := entry rfl
  have c2 : Steps p.tables e below (s₁.setTop (entryFrame m #[.ref b, .int (Int32.ofNat o), .int (Int32.ofNat len)] 6)) (s₁.setTop (mkF m 1 #[.val (.ref b), .val (.int (Int32.ofNat o)), .val (.int (Int32.ofNat len)), .unset, .unset, .unset] [.int (Int32.ofNat len)])) := c1.trans (by
    refine XS.iloadN X0.here hexec rfl (hb hbytes d0) rfl ?_
    exact Steps.refl _)
  obtain ⟨T3, B3, X3, ba3, bs3, bv3, bh3, bf3, st3⟩ := X0.anew hexec (atype := .byte) (wk W (.arrayClass .byte)) rfl (by show len * 1 ≤ _; omega) (by omega) (g := (mkF m 1 #[.val (.ref b), .val (.int (Int32.ofNat o)), .val (.int (Int32.ofNat len)), .unset, .unset, .unset] [.int (Int32.ofNat len)])) rfl (hb hbytes d1) (rest := []) rfl (Nat.le_refl _) (by show 0 + len ≤ len; omega)
  rw [hh0] at ba3 st3
  have kp3 : XT.Kept s T3 := (XT.Kept.of_eq hh0).push bh3
  have hA3 := hA.keep X3.warmed.alike (kp3 _ _ hA.1.1)
  have hne : b ≠ s.heap.size := hA.1.ne
  have c4 : Steps p.tables e below (s₁.setTop (entryFrame m #[.ref b, .int (Int32.ofNat o), .int (Int32.ofNat len)] 6)) (T3.setTop (mkF m 3 #[.val (.ref b), .val (.int (Int32.ofNat o)), .val (.int (Int32.ofNat len)), .unset, .unset, .unset] [.ref s.heap.size])) := c2.trans (st3 _ (Steps.refl _))
  have c5 : Steps p.tables e below (s₁.setTop (entryFrame m #[.ref b, .int (Int32.ofNat o), .int (Int32.ofNat len)] 6)) (T3.setTop (mkF m 9 #[.val (.ref b), .val (.int (Int32.ofNat o)), .val (.int (Int32.ofNat len)), .val (.ref s.heap.size), .unset, .unset] [.int (Int32.ofNat len), .int 0, .ref s.heap.size, .int (Int32.ofNat o), .ref b])) := c4.trans (by
    refine XS.astoreN X3.here hexec rfl (hb hbytes d3) rfl rfl rfl ?_
    refine XS.aloadN X3.here hexec rfl (hb hbytes d4) rfl rfl ?_
    refine XS.iloadN X3.here hexec rfl (hb hbytes d5) rfl ?_
    refine XS.aloadN X3.here hexec rfl (hb hbytes d6) rfl rfl ?_
    refine iconstV X3.here hexec rfl 0 (hb hbytes d7) (by decide) ?_
    refine XS.iloadN X3.here hexec rfl (hb hbytes d8) rfl ?_
    exact Steps.refl _)
  obtain ⟨v6, T6, X6, E6, g6⟩ := X3.callS hexec (Cmp5.law l b A s.heap.size B3 o 0 len) hown (wks W (staticW U16 115 Cmp5.yN)) (wk W Cmp5.tab) (W := 0) (Nat.le_of_ble_eq_true rfl) (Nat.le_of_ble_eq_true rfl) (Nat.le_refl _) (by show 0 + len + 0 ≤ len; omega) (g := (mkF m 9 #[.val (.ref b), .val (.int (Int32.ofNat o)), .val (.int (Int32.ofNat len)), .val (.ref s.heap.size), .unset, .unset] [.int (Int32.ofNat len), .int (Int32.ofNat 0), .ref s.heap.size, .int (Int32.ofNat o), .ref b])) rfl (by rw [hml]; rfl) c5 (argsL := [.ref b, .int (Int32.ofNat o), .ref s.heap.size, .int (Int32.ofNat 0), .int (Int32.ofNat len)]) (rest := []) rfl rfl (by show 2 * 0 + 0 ≤ _; decide) (hb hbytes d9) (⟨rfl, hA3, ba3, hne, l1, by rw [bs3]; simp, hp⟩)
  obtain ⟨rfl, B6, p6, f6⟩ := E6
  have c7 : Steps p.tables e below (s₁.setTop (entryFrame m #[.ref b, .int (Int32.ofNat o), .int (Int32.ofNat len)] 6)) (T6.setTop (mkF m 12 #[.val (.ref b), .val (.int (Int32.ofNat o)), .val (.int (Int32.ofNat len)), .val (.ref s.heap.size), .unset, .unset] [.int (Int32.ofNat len)])) := g6
  have c8 : Steps p.tables e below (s₁.setTop (entryFrame m #[.ref b, .int (Int32.ofNat o), .int (Int32.ofNat len)] 6)) (T6.setTop (mkF m 58 #[.val (.ref b), .val (.int (Int32.ofNat o)), .val (.int (Int32.ofNat len)), .val (.ref s.heap.size), .val (.int (Int32.ofNat len)), .unset] [.ref s.heap.size])) := c7.trans (by
    refine XS.istore X6.here hexec rfl (hb hbytes d12) rfl rfl ?_
    refine XS.iload X6.here hexec rfl (hb hbytes d14) rfl ?_
    refine XS.iloadN X6.here hexec rfl (hb hbytes d16) rfl ?_
    refine XS.icmpYes X6.here hexec rfl (pc0 := 17) rfl (hb hbytes d17) rfl (ii_eq_t rfl) (by decide) rfl ?_
    refine XS.aloadN X6.here hexec rfl (hb hbytes d57) rfl rfl ?_
    exact Steps.refl _)
  have X8 := X6.wide (L' := []) (cells' := 1) (slots' := len) (fun x hx hlt => by
    simp only [List.nil_append, copyLocs, List.mem_map, List.mem_range] at hx
    obtain ⟨i, -, rfl⟩ := hx
    exact absurd hlt (Nat.lt_irrefl _)) (Nat.le_refl _) (by omega)
  exact ⟨T6, some (.ref s.heap.size), _, _, _, X8, rfl, rfl, rfl, (fun h => by cases h), ⟨⟨rfl, B6, ba3.like (X3.warmed.alike.symm.trans X6.warmed.alike) p6.1 f6.1 f6.2.1 f6.2.2.1, f6.2.1.trans bv3, by rw [X6.warmed.alike.findClass, f6.1]; exact bf3, by rw [f6.2.2.1, bs3]; simp, fun j hj => by rw [f6.2.2.2 j, if_pos (by omega)]; rfl, kp3.put p6 (Nat.le_refl _)⟩, by rw [p6.2.2, bh3, hh0]; simp⟩, fun fs hl => c8.trans (X8.areturnOut hexec rfl hret rfl (hb hbytes d58) hl)⟩
end Cmp3
namespace CodL
def yN : MethodName := ⟨"java/lang/StringUTF16", "coderFromArrayLen", "([BI)B"⟩
abbrev yB : ByteArray := jdk_52_method_15_code
theorem d0 : decode yB 0 = .ok (.iload_n 1, 1) := by decide +kernel
theorem d1 : decode yB 1 = .ok (.aload_n 0, 1) := by decide +kernel
theorem d2 : decode yB 2 = .ok (.arraylength, 1) := by decide +kernel
theorem d3 : decode yB 3 = .ok (.isub, 1) := by decide +kernel
theorem d4 : decode yB 4 = .ok (.bipush 31, 2) := by decide +kernel
theorem d6 : decode yB 6 = .ok (.iushr, 1) := by decide +kernel
theorem d7 : decode yB 7 = .ok (.i2b, 1) := by decide +kernel
theorem d8 : decode yB 8 = .ok (.ireturn, 1) := by decide +kernel
def site : List Cond := []
def tab : Cond := tabOf yN yB 2 (some .byte) site
def P (d : Addr) (B : Cell) (args : Array Value) (s : State) : Prop := args = #[.ref d, .int (Int32.ofNat B.slots.size)] ∧ Arr .byte d B s
def E (r : Option Value) (s u : State) : Prop := XT.PureE (some (.int 0)) r s u
/-- an array as long as the number of chars: LATIN1 -/
theorem law (l : Launch) (d : Addr) (B : Cell) : Law l yN 2 2 0 0 yB 2 (some .byte) site (P d B) E [] 0 0 := by
  refine Law.of_walk (plainFor_of_name (by decide +kernel)) (by decide +kernel) (by decide +kernel) (by decide) (fun _ _ h => by rw [h.1]; rfl) (fun _ U U' hal hh h => ⟨h.1, h.2.mv hal hh⟩) (fun r U U' V V' h1 hal h2 h => XT.PureE.mv r U U' V V' h1 hal h2 h) ?_
  intro p e s m args below meth c s₁ X0 hexec hbytes hml hret hlk hnm hown hh0 W hP
  obtain ⟨rfl, hB⟩ := hP
  have hB0 := hB.mv X0.warmed.alike hh0
  have c1 : Steps p.tables e below (s₁.setTop (entryFrame m #[.ref d, .int (Int32.ofNat B.slots.size)] 2)) (s₁.setTop (mkF m 0 #[.val (.ref d), .val (.int (Int32.ofNat B.slots.size))] [])) := entry rfl
  have c2 : Steps p.tables e below (s₁.setTop (entryFrame m #[.ref d, .int (Int32.ofNat B.slots.size)] 2)) (s₁.setTop (mkF m 2 #[.val (.ref d), .val (.int (Int32.ofNat B.slots.size))] [.ref d, .int (Int32.ofNat B.slots.size)])) := c1.trans (by
    refine XS.iloadN X0.here hexec rfl (hb hbytes d0) rfl ?_
    refine XS.aloadN X0.here hexec rfl (hb hbytes d1) rfl rfl ?_
    exact Steps.refl _)
  have c3 : Steps p.tables e below (s₁.setTop (entryFrame m #[.ref d, .int (Int32.ofNat B.slots.size)] 2)) (s₁.setTop (mkF m 8 #[.val (.ref d), .val (.int (Int32.ofNat B.slots.size))] [.int (lo8 (ushr (Int32.ofNat B.slots.size - Int32.ofNat B.slots.size) 31))])) := c2.trans (by
    refine X0.alen hexec hB0 rfl rfl (hb hbytes d2) ?_
    refine XS.isub X0.here hexec rfl (hb hbytes d3) rfl ?_
    refine bipushV X0.here hexec rfl 31 (hb hbytes d4) (by decide) ?_
    refine iushr X0.here hexec rfl (hb hbytes d6) rfl ?_
    refine i2b X0.here hexec rfl (hb hbytes d7) rfl ?_
    exact Steps.refl _)
  have e0 : lo8 (ushr (Int32.ofNat B.slots.size - Int32.ofNat B.slots.size) 31) = 0 := by rw [Int32.sub_self]; decide
  rw [e0] at c3
  exact ⟨s₁, some (.int 0), _, _, _, X0, rfl, rfl, rfl, (fun h => by cases h), ⟨rfl, hh0⟩, fun fs hl => c3.trans (X0.ireturnOut hexec hret rfl (Or.inr (Or.inr (Or.inl rfl))) (hb hbytes d8) hl)⟩
end CodL
/-- the String at a is Latin-1 over a new byte[] (the heap's one new cell): the low bytes of the len chars of A from o on; every cell but a is kept -/
def Got (a : Addr) (D : Cell) (fV fC : Field) (A : Cell) (o len : Nat) (r : Option Value) (s u : State) : Prop := r = none ∧ ∃ D' V : Cell, Blank "java/lang/String" a D' u ∧ Same D D' [fV.slot, fC.slot] ∧ D'.slots[fV.slot]? = some (.ref s.heap.size) ∧ D'.slots[fC.slot]? = some (.int 0) ∧ Arr .byte s.heap.size V u ∧ V.vm = .none ∧ u.vm.findClass "[B" = some V.cls ∧ V.slots.size = len ∧ (∀ j, j < len → V.slots[j]? = some (.int (lo8 (cv A (o + j))))) ∧ (∀ (y : Addr) (c : Cell), y ≠ a → s.heap[y]? = some c → u.heap[y]? = some c) ∧ u.heap.size = s.heap.size + 1
theorem Got.mv {a : Addr} {D A : Cell} {fV fC : Field} {o len : Nat} : ∀ r (U U' V V' : State), U'.heap = U.heap → V.vm.Alike V'.vm → V'.heap = V.heap → Got a D fV fC A o len r U V → Got a D fV fC A o len r U' V' :=
  fun r U U' V V' h1 hal h2 ⟨e0, D', X, a1, a2, a3, a4, a5, a6, a7, a8, a9, a10, a11⟩ => ⟨e0, D', X, a1.mv hal h2, a2, by rw [h1]; exact a3, a4, by rw [h1]; exact a5.mv hal h2, a6, by rw [hal.findClass]; exact a7, a8, a9, by rw [h1, h2]; exact a10, by rw [h1, h2]; exact a11⟩
namespace New4
def yN : MethodName := ⟨"java/lang/String", "<init>", "([CIILjava/lang/Void;)V"⟩
abbrev yB : ByteArray := jdk_42_method_149_code
theorem d0 : decode yB 0 = .ok (.aload_n 0, 1) := by decide +kernel
theorem d1 : decode yB 1 = .ok (.invokespecial 1, 3) := by decide +kernel
theorem d4 : decode yB 4 = .ok (.iload_n 3, 1) := by decide +kernel
theorem d5 : decode yB 5 = .ok (.ifCond (.ne) 22, 3) := by decide +kernel
theorem d27 : decode yB 27 = .ok (.getstatic 38, 3) := by decide +kernel
theorem d30 : decode yB 30 = .ok (.ifCond (.eq) 28, 3) := by decide +kernel
theorem d33 : decode yB 33 = .ok (.aload_n 1, 1) := by decide +kernel
theorem d34 : decode yB 34 = .ok (.iload_n 2, 1) := by decide +kernel
theorem d35 : decode yB 35 = .ok (.iload_n 3, 1) := by decide +kernel
theorem d36 : decode yB 36 = .ok (.invokestatic 177, 3) := by decide +kernel
theorem d39 : decode yB 39 = .ok (.astore 5, 2) := by decide +kernel
theorem d41 : decode yB 41 = .ok (.aload_n 0, 1) := by decide +kernel
theorem d42 : decode yB 42 = .ok (.aload 5, 2) := by decide +kernel
theorem d44 : decode yB 44 = .ok (.iload_n 3, 1) := by decide +kernel
theorem d45 : decode yB 45 = .ok (.invokestatic 47, 3) := by decide +kernel
theorem d48 : decode yB 48 = .ok (.putfield 15, 3) := by decide +kernel
theorem d51 : decode yB 51 = .ok (.aload_n 0, 1) := by decide +kernel
theorem d52 : decode yB 52 = .ok (.aload 5, 2) := by decide +kernel
theorem d54 : decode yB 54 = .ok (.putfield 9, 3) := by decide +kernel
theorem d57 : decode yB 57 = .ok (.return_, 1) := by decide +kernel
def site : List Cond := [.fieldLink "java/lang/String" 38 "java/lang/String" "COMPACT_STRINGS" "Z", Cmp3.tab, CodL.tab, .laysFinal "java/lang/String" "java/lang/String" "value" "[B", .fieldLink "java/lang/String" 9 "java/lang/String" "value" "[B", .laysFinal "java/lang/String" "java/lang/String" "coder" "B", .fieldLink "java/lang/String" 15 "java/lang/String" "coder" "B"] ++ objW "java/lang/String" 1 ++ staticW "java/lang/String" 177 Cmp3.yN ++ staticW "java/lang/String" 47 CodL.yN
def tab : Cond := tabOf yN yB 6 none site
def P (a : Addr) (D : Cell) (fV fC : Field) (b : Addr) (A : Cell) (z : Int32) (o len : Nat) (args : Array Value) (s : State) : Prop := args = #[.ref a, .ref b, .int (Int32.ofNat o), .int (Int32.ofNat len), .null] ∧ Blank "java/lang/String" a D s ∧ Found "java/lang/String" "value" "[B" fV s ∧ Found "java/lang/String" "coder" "B" fC s ∧ Ch b A s ∧ StaticIs s "java/lang/String" "COMPACT_STRINGS" "Z" (.int z) ∧ ¬ z = 0 ∧ 0 < len ∧ o + len ≤ A.slots.size ∧ len ≤ 536870912 ∧ ∀ i, i < len → ¬ 255 < cv A (o + i)
def E (a : Addr) (D : Cell) (fV fC : Field) (A : Cell) (o len : Nat) (r : Option Value) (s u : State) : Prop := Got a D fV fC A o len r s u
/-- len > 0, no char of the range above 255: a Latin-1 String of their low bytes -/
theorem law (l : Launch) (a : Addr) (D : Cell) (fV fC : Field) (b : Addr) (A : Cell) (z : Int32) (o len : Nat) : Law l yN 5 4 2 35 yB 6 none site (P a D fV fC b A z o len) (E a D fV fC A o len) [⟨a, fC.slot⟩, ⟨a, fV.slot⟩] 1 len := by
  refine Law.of_walk (plainFor_of_name (by decide +kernel)) (by decide +kernel) (by decide +kernel) (by decide) (fun _ _ h => by rw [h.1]; rfl) (fun _ U U' hal hh h => ⟨h.1, h.2.1.mv hal hh, h.2.2.1.al hal, h.2.2.2.1.al hal, h.2.2.2.2.1.mv hal hh, h.2.2.2.2.2.1.there hal hh, h.2.2.2.2.2.2⟩) (fun r U U' V V' h1 hal h2 h => Got.mv r U U' V V' h1 hal h2 h) ?_
  intro p e s m args below meth c s₁ X0 hexec hbytes hml hret hlk hnm hown hh0 W hP
  obtain ⟨rfl, hB, f1, f2, hA, s1, hz, l0, l1, l2, hp⟩ := hP
  have a31 := hA.1.2.2.2
  have c1 : Steps p.tables e below (s₁.setTop (entryFrame m #[.ref a, .ref b, .int (Int32.ofNat o), .int (Int32.ofNat len), .null] 6)) (s₁.setTop (mkF m 0 #[.val (.ref a), .val (.ref b), .val (.int (Int32.ofNat o)), .val (.int (Int32.ofNat len)), .val .null, .unset] [])) := entry rfl
  have c2 : Steps p.tables e below (s₁.setTop (entryFrame m #[.ref a, .ref b, .int (Int32.ofNat o), .int (Int32.ofNat len), .null] 6)) (s₁.setTop (mkF m 1 #[.val (.ref a), .val (.ref b), .val (.int (Int32.ofNat o)), .val (.int (Int32.ofNat len)), .val .null, .unset] [.ref a])) := c1.trans (by
    refine XS.aloadN X0.here hexec rfl (hb hbytes d0) rfl rfl ?_
    exact Steps.refl _)
  obtain ⟨T3, X3, q3, st3⟩ := X0.oinit hexec hown (wks W (objW "java/lang/String" 1)) (g := (mkF m 1 #[.val (.ref a), .val (.ref b), .val (.int (Int32.ofNat o)), .val (.int (Int32.ofNat len)), .val .null, .unset] [.ref a])) rfl (by rw [hml]; rfl) (rest := []) rfl (hb hbytes d1) (W := 0) (by show 2 * 0 + 0 ≤ _; decide) (Nat.le_of_ble_eq_true rfl) (Nat.le_of_ble_eq_true rfl)
  have hh3 := q3.trans hh0
  have c4 : Steps p.tables e below (s₁.setTop (entryFrame m #[.ref a, .ref b, .int (Int32.ofNat o), .int (Int32.ofNat len), .null] 6)) (T3.setTop (mkF m 27 #[.val (.ref a), .val (.ref b), .val (.int (Int32.ofNat o)), .val (.int (Int32.ofNat len)), .val .null, .unset] [])) := (c2.trans (st3 _ (Steps.refl _))).trans (by
    refine XS.iloadN X3.here hexec rfl (hb hbytes d4) rfl ?_
    refine XS.ifYes X3.here hexec rfl (pc0 := 5) rfl (hb hbytes d5) rfl (i0_ne_t (nz32 (by omega) l0)) (by decide) rfl ?_
    exact Steps.refl _)
  obtain ⟨T5, X5, q5, st5⟩ := X3.sget hexec hown (wk W (.fieldLink "java/lang/String" 38 "java/lang/String" "COMPACT_STRINGS" "Z")) s1 (fun _ _ h => by rw [hh3]; exact h) (g := (mkF m 27 #[.val (.ref a), .val (.ref b), .val (.int (Int32.ofNat o)), .val (.int (Int32.ofNat len)), .val .null, .unset] [])) rfl (hb hbytes d27)
  have hh5 := q5.trans hh3
  have c6 : Steps p.tables e below (s₁.setTop (entryFrame m #[.ref a, .ref b, .int (Int32.ofNat o), .int (Int32.ofNat len), .null] 6)) (T5.setTop (mkF m 30 #[.val (.ref a), .val (.ref b), .val (.int (Int32.ofNat o)), .val (.int (Int32.ofNat len)), .val .null, .unset] [.int z])) := c4.trans (st5 _ (Steps.refl _))
  have c7 : Steps p.tables e below (s₁.setTop (entryFrame m #[.ref a, .ref b, .int (Int32.ofNat o), .int (Int32.ofNat len), .null] 6)) (T5.setTop (mkF m 36 #[.val (.ref a), .val (.ref b), .val (.int (Int32.ofNat o)), .val (.int (Int32.ofNat len)), .val .null, .unset] [.int (Int32.ofNat len), .int (Int32.ofNat o), .ref b])) := c6.trans (by
    refine XS.ifNo X5.here hexec rfl (hb hbytes d30) rfl (i0_eq_f hz) ?_
    refine XS.aloadN X5.here hexec rfl (hb hbytes d33) rfl rfl ?_
    refine XS.iloadN X5.here hexec rfl (hb hbytes d34) rfl ?_
    refine XS.iloadN X5.here hexec rfl (hb hbytes d35) rfl ?_
    exact Steps.refl _)
  obtain ⟨v8, T8, X8, E8, g8⟩ := X5.callS hexec (Cmp3.law l b A o len) hown (wks W (staticW "java/lang/String" 177 Cmp3.yN)) (wk W Cmp3.tab) (W := 0) (Nat.le_of_ble_eq_true rfl) (Nat.le_of_ble_eq_true rfl) (Nat.le_refl _) (by show 0 + len ≤ len; omega) (g := (mkF m 36 #[.val (.ref a), .val (.ref b), .val (.int (Int32.ofNat o)), .val (.int (Int32.ofNat len)), .val .null, .unset] [.int (Int32.ofNat len), .int (Int32.ofNat o), .ref b])) rfl (by rw [hml]; rfl) c7 (argsL := [.ref b, .int (Int32.ofNat o), .int (Int32.ofNat len)]) (rest := []) rfl rfl (by show 2 * 0 + 0 ≤ _; decide) (hb hbytes d36) (⟨rfl, hA.mv X5.warmed.alike hh5, l1, l2, hp⟩)
  obtain ⟨e8, z8⟩ := E8
  obtain ⟨rfl, N, n1, n2, n3, n4, n5, n6⟩ := NewArr.mv _ T5 s _ _ hh5.symm (Vm.Alike.refl _) rfl e8
  rw [hh5] at z8
  have hB1 := hB.keep X8.warmed.alike (n6 _ _ hB.1)
  have hne : s.heap.size ≠ a := (Nat.ne_of_lt (Array.getElem?_eq_some_iff.mp hB.1).1).symm
  have c9 : Steps p.tables e below (s₁.setTop (entryFrame m #[.ref a, .ref b, .int (Int32.ofNat o), .int (Int32.ofNat len), .null] 6)) (T8.setTop (mkF m 39 #[.val (.ref a), .val (.ref b), .val (.int (Int32.ofNat o)), .val (.int (Int32.ofNat len)), .val .null, .unset] [.ref s.heap.size])) := g8
  have c10 : Steps p.tables e below (s₁.setTop (entryFrame m #[.ref a, .ref b, .int (Int32.ofNat o), .int (Int32.ofNat len), .null] 6)) (T8.setTop (mkF m 45 #[.val (.ref a), .val (.ref b), .val (.int (Int32.ofNat o)), .val (.int (Int32.ofNat len)), .val .null, .val (.ref s.heap.size)] [.int (Int32.ofNat N.slots.size), .ref s.heap.size, .ref a])) := by
    have hc : Steps p.tables e below (s₁.setTop (entryFrame m #[.ref a, .ref b, .int (Int32.ofNat o), .int (Int32.ofNat len), .null] 6)) (T8.setTop (mkF m 45 #[.val (.ref a), .val (.ref b), .val (.int (Int32.ofNat o)), .val (.int (Int32.ofNat len)), .val .null, .val (.ref s.heap.size)] [.int (Int32.ofNat len), .ref s.heap.size, .ref a])) := c9.trans (by
      refine XS.astore X8.here hexec rfl (hb hbytes d39) rfl rfl rfl ?_
      refine XS.aloadN X8.here hexec rfl (hb hbytes d41) rfl rfl ?_
      refine XS.aload X8.here hexec rfl (hb hbytes d42) rfl rfl ?_
      refine XS.iloadN X8.here hexec rfl (hb hbytes d44) rfl ?_
      exact Steps.refl _)
    rw [n4]; exact hc
  obtain ⟨v11, T11, X11, E11, g11⟩ := X8.callS hexec (CodL.law l s.heap.size N) hown (wks W (staticW "java/lang/String" 47 CodL.yN)) (wk W CodL.tab) (W := 1) (Nat.le_of_ble_eq_true rfl) (Nat.le_of_ble_eq_true rfl) (Nat.le_refl _) (by show 0 + len + 0 ≤ len; omega) (g := (mkF m 45 #[.val (.ref a), .val (.ref b), .val (.int (Int32.ofNat o)), .val (.int (Int32.ofNat len)), .val .null, .val (.ref s.heap.size)] [.int (Int32.ofNat N.slots.size), .ref s.heap.size, .ref a])) rfl (by rw [hml]; rfl) c10 (argsL := [.ref s.heap.size, .int (Int32.ofNat N.slots.size)]) (rest := [.ref a]) rfl rfl (by show 2 * 0 + (1 + 0) ≤ _; decide) (hb hbytes d45) (⟨rfl, n1⟩)
  obtain ⟨rfl, q11⟩ := E11
  have hB11 := hB1.mv (X8.warmed.alike.symm.trans X11.warmed.alike) q11
  have c12 : Steps p.tables e below (s₁.setTop (entryFrame m #[.ref a, .ref b, .int (Int32.ofNat o), .int (Int32.ofNat len), .null] 6)) (T11.setTop (mkF m 48 #[.val (.ref a), .val (.ref b), .val (.int (Int32.ofNat o)), .val (.int (Int32.ofNat len)), .val .null, .val (.ref s.heap.size)] [.int 0, .ref a])) := g11
  obtain ⟨T13, X13, p13, bl13, sl13, st13⟩ := X11.finit hexec hown (wk W (.fieldLink "java/lang/String" 15 "java/lang/String" "coder" "B")) (Or.inr ⟨_, (wk W (.laysFinal "java/lang/String" "java/lang/String" "coder" "B"))⟩) (Or.inl ⟨rfl, hnm⟩) f2 (Or.inl rfl) hB11 (t := .byte) (by decide +kernel) rfl (g := (mkF m 48 #[.val (.ref a), .val (.ref b), .val (.int (Int32.ofNat o)), .val (.int (Int32.ofNat len)), .val .null, .val (.ref s.heap.size)] [.int 0, .ref a])) rfl (rest := []) rfl (hb hbytes d48)
  have c14 : Steps p.tables e below (s₁.setTop (entryFrame m #[.ref a, .ref b, .int (Int32.ofNat o), .int (Int32.ofNat len), .null] 6)) (T13.setTop (mkF m 54 #[.val (.ref a), .val (.ref b), .val (.int (Int32.ofNat o)), .val (.int (Int32.ofNat len)), .val .null, .val (.ref s.heap.size)] [.ref s.heap.size, .ref a])) := (c12.trans (st13 _ (Steps.refl _))).trans (by
    refine XS.aloadN X13.here hexec rfl (hb hbytes d51) rfl rfl ?_
    refine XS.aload X13.here hexec rfl (hb hbytes d52) rfl rfl ?_
    exact Steps.refl _)
  obtain ⟨T15, X15, p15, bl15, sl15, st15⟩ := X13.finit hexec hown (wk W (.fieldLink "java/lang/String" 9 "java/lang/String" "value" "[B")) (Or.inr ⟨_, (wk W (.laysFinal "java/lang/String" "java/lang/String" "value" "[B"))⟩) (Or.inl ⟨rfl, hnm⟩) f1 (Or.inl rfl) bl13 (t := (.array .byte)) (by decide +kernel) rfl (g := (mkF m 54 #[.val (.ref a), .val (.ref b), .val (.int (Int32.ofNat o)), .val (.int (Int32.ofNat len)), .val .null, .val (.ref s.heap.size)] [.ref s.heap.size, .ref a])) rfl (rest := []) rfl (hb hbytes d54)
  have c16 : Steps p.tables e below (s₁.setTop (entryFrame m #[.ref a, .ref b, .int (Int32.ofNat o), .int (Int32.ofNat len), .null] 6)) (T15.setTop (mkF m 57 #[.val (.ref a), .val (.ref b), .val (.int (Int32.ofNat o)), .val (.int (Int32.ofNat len)), .val .null, .val (.ref s.heap.size)] [])) := c14.trans (st15 _ (Steps.refl _))
  have ap := apart (Or.inr ⟨_, (wk W (.laysFinal "java/lang/String" "java/lang/String" "value" "[B"))⟩) (Or.inr ⟨_, (wk W (.laysFinal "java/lang/String" "java/lang/String" "coder" "B"))⟩) f1 f2 (t₁ := .array .byte) (t₂ := .byte) (by decide +kernel) (by decide +kernel) (by decide)
  have al := X8.warmed.alike.symm.trans X15.warmed.alike
  have n7 : T11.heap[s.heap.size]? = some N := by rw [q11]; exact n1.1
  exact ⟨T15, none, _, _, _, X15, by simp, rfl, by omega, (fun _ => rfl), ⟨rfl, _, N, bl15, ((Same.refl D _).set _ (by simp)).set _ (by simp), sl15, (Cell.slots_setSlot_ne _ ap).trans sl13, n1.keep al (p15.other hne (p13.other hne n7)), n2, by rw [al.findClass]; exact n3, n4, n5, fun y c h1 h2 => p15.other h1 (p13.other h1 (by rw [q11]; exact n6 y c h2)), by rw [p15.2.2, p13.2.2, q11]; exact z8⟩, fun fs hl => c16.trans (X15.returnOut hexec hret (hb hbytes d57) hl)⟩
end New4
namespace New1
def yN : MethodName := ⟨"java/lang/String", "<init>", "([C)V"⟩
abbrev yB : ByteArray := jdk_42_method_3_code
theorem d0 : decode yB 0 = .ok (.aload_n 0, 1) := by decide +kernel
theorem d1 : decode yB 1 = .ok (.aload_n 1, 1) := by decide +kernel
theorem d2 : decode yB 2 = .ok (.iconst 0, 1) := by decide +kernel
theorem d3 : decode yB 3 = .ok (.aload_n 1, 1) := by decide +kernel
theorem d4 : decode yB 4 = .ok (.arraylength, 1) := by decide +kernel
theorem d5 : decode yB 5 = .ok (.aconst_null, 1) := by decide +kernel
theorem d6 : decode yB 6 = .ok (.invokespecial 27, 3) := by decide +kernel
theorem d9 : decode yB 9 = .ok (.return_, 1) := by decide +kernel
def site : List Cond := [New4.tab] ++ initW "java/lang/String" 27 New4.yN
def tab : Cond := tabOf yN yB 2 none site
def P (a : Addr) (D : Cell) (fV fC : Field) (b : Addr) (A : Cell) (z : Int32) (args : Array Value) (s : State) : Prop := args = #[.ref a, .ref b] ∧ Blank "java/lang/String" a D s ∧ Found "java/lang/String" "value" "[B" fV s ∧ Found "java/lang/String" "coder" "B" fC s ∧ Ch b A s ∧ StaticIs s "java/lang/String" "COMPACT_STRINGS" "Z" (.int z) ∧ ¬ z = 0 ∧ 0 < A.slots.size ∧ A.slots.size ≤ 536870912 ∧ ∀ i, i < A.slots.size → ¬ 255 < cv A i
def E (a : Addr) (D : Cell) (fV fC : Field) (A : Cell) (r : Option Value) (s u : State) : Prop := Got a D fV fC A 0 A.slots.size r s u
/-- new String(chars), not empty, no char above 255: a Latin-1 String of their low bytes -/
theorem law (l : Launch) (a : Addr) (D : Cell) (fV fC : Field) (b : Addr) (A : Cell) (z : Int32) : Law l yN 2 1 3 52 yB 2 none site (P a D fV fC b A z) (E a D fV fC A) [⟨a, fC.slot⟩, ⟨a, fV.slot⟩] 1 A.slots.size := by
  refine Law.of_walk (plainFor_of_name (by decide +kernel)) (by decide +kernel) (by decide +kernel) (by decide) (fun _ _ h => by rw [h.1]; rfl) (fun _ U U' hal hh h => ⟨h.1, h.2.1.mv hal hh, h.2.2.1.al hal, h.2.2.2.1.al hal, h.2.2.2.2.1.mv hal hh, h.2.2.2.2.2.1.there hal hh, h.2.2.2.2.2.2⟩) (fun r U U' V V' h1 hal h2 h => Got.mv r U U' V V' h1 hal h2 h) ?_
  intro p e s m args below meth c s₁ X0 hexec hbytes hml hret hlk hnm hown hh0 W hP
  obtain ⟨rfl, hB, f1, f2, hA, s1, hz, l0, l2, hp⟩ := hP
  have c1 : Steps p.tables e below (s₁.setTop (entryFrame m #[.ref a, .ref b] 2)) (s₁.setTop (mkF m 0 #[.val (.ref a), .val (.ref b)] [])) := entry rfl
  have c2 : Steps p.tables e below (s₁.setTop (entryFrame m #[.ref a, .ref b] 2)) (s₁.setTop (mkF m 6 #[.val (.ref a), .val (.ref b)] [.null, .int (Int32.ofNat A.slots.size), .int 0, .ref b, .ref a])) := c1.trans (by
    refine XS.aloadN X0.here hexec rfl (hb hbytes d0) rfl rfl ?_
    refine XS.aloadN X0.here hexec rfl (hb hbytes d1) rfl rfl ?_
    refine iconstV X0.here hexec rfl 0 (hb hbytes d2) (by decide) ?_
    refine XS.aloadN X0.here hexec rfl (hb hbytes d3) rfl rfl ?_
    refine X0.alen hexec (hA.1.mv X0.warmed.alike hh0) rfl rfl (hb hbytes d4) ?_
    refine XS.aconstNull X0.here hexec rfl (hb hbytes d5) ?_
    exact Steps.refl _)
  obtain ⟨v3, T3, X3, E3, g3⟩ := X0.callN hexec (New4.law l a D fV fC b A z 0 A.slots.size) rfl hown (wks W (initW "java/lang/String" 27 New4.yN)) (W New4.tab (by simp only [site, List.mem_cons, List.mem_append, true_or, or_true])) (W := 0) (Nat.le_of_ble_eq_true rfl) (Nat.le_of_ble_eq_true rfl) (Nat.le_refl _) (by show 0 + A.slots.size ≤ A.slots.size; omega) (g := (mkF m 6 #[.val (.ref a), .val (.ref b)] [.null, .int (Int32.ofNat A.slots.size), .int (Int32.ofNat 0), .ref b, .ref a])) rfl (by rw [hml]; rfl) c2 (argsL := [.ref b, .int (Int32.ofNat 0), .int (Int32.ofNat A.slots.size), .null]) (rest := []) rfl rfl (by show 2 * 0 + 0 ≤ _; decide) (hb hbytes d6) (⟨rfl, hB.mv X0.warmed.alike hh0, f1.al X0.warmed.alike, f2.al X0.warmed.alike, hA.mv X0.warmed.alike hh0, s1.there X0.warmed.alike hh0, hz, l0, by omega, l2, fun i hi => by rw [Nat.zero_add]; exact hp i hi⟩)
  have e0 := Got.mv _ s₁ s _ _ hh0.symm (Vm.Alike.refl _) rfl E3
  obtain rfl := e0.1
  have c4 : Steps p.tables e below (s₁.setTop (entryFrame m #[.ref a, .ref b] 2)) (T3.setTop (mkF m 9 #[.val (.ref a), .val (.ref b)] [])) := g3
  exact ⟨T3, none, _, _, _, X3, by simp, rfl, by omega, (fun _ => rfl), e0, fun fs hl => c4.trans (X3.returnOut hexec hret (hb hbytes d9) hl)⟩
theorem pays {l : Launch} {R : Room} {p : Program} {e : Env} {below : List Frame} {s : State} {sargs : Array Value} {len W : Nat} (a : Addr) (D : Cell) (fV fC : Field) (b : Addr) (A : Cell) (z : Int32) (htab : tab.before sargs s = true) (hfr : 4 ≤ R.frames) (hlo : W + 65 ≤ R.locals) :
    Back l R p e below s sargs yN len W (fun A₁ a₁ => A₁.cells + 1 ≤ R.cells ∧ A₁.slots + A.slots.size ≤ R.slots ∧ P a D fV fC b A z a₁ A₁.U) (fun A₁ _ v₁ B₁ => E a D fV fC A v₁ A₁.U B₁.U ∧ B₁.locs = A₁.locs ++ [⟨a, fC.slot⟩, ⟨a, fV.slot⟩] ∧ B₁.cells = A₁.cells + 1 ∧ B₁.slots = A₁.slots + A.slots.size) :=
  (law l a D fV fC b A z).pays htab hfr (by omega)
end New1
/-- the byte, read back as charAt reads it, is the char -/
theorem lo8_mask {x : Int32} (h0 : ¬ x < 0) (h1 : ¬ 255 < x) : lo8 x &&& 255 = x := by
  have t : ∀ k : Fin 256, lo8 (Int32.ofNat k.val) &&& 255 = Int32.ofNat k.val := by decide +kernel
  rw [Int32.lt_iff_toInt_lt] at h0 h1
  have e0 : (0 : Int32).toInt = 0 := rfl
  have e1 : (255 : Int32).toInt = 255 := rfl
  obtain ⟨k, hk⟩ : ∃ k : Nat, x.toInt = k := ⟨x.toInt.toNat, by omega⟩
  have hx : x = Int32.ofNat k := Int32.toInt_inj.mp (by rw [hk, Int32.toInt_ofNat_small (by omega)])
  rw [hx]
  exact t ⟨k, by omega⟩
end StrChars
namespace StrChars.Road
open Jvm Sem ClassFile Op Lib Jvm.Stand Jvm.Free Jvm.Free.XT
open Jvm.Lib.Cold (StaticIs)
abbrev ST : String := "java/lang/String"
/-- every table word that New1's law asks, flat -/
abbrev words : List Jvm.Cond := [.code New1.yN New1.yB 2 none, .initialized ST, .methodLink ST 27 New4.yN, .instanceMethod New4.yN,
  .code New4.yN New4.yB 6 none, .fieldLink ST 38 ST "COMPACT_STRINGS" "Z", .laysFinal ST ST "value" "[B", .fieldLink ST 9 ST "value" "[B", .laysFinal ST ST "coder" "B", .fieldLink ST 15 ST "coder" "B",
  .methodLink ST 1 Lib.objectInit, .instanceMethod Lib.objectInit, .code Lib.objectInit ⟨#[0xb1]⟩ 1 none, .methodLink ST 177 Cmp3.yN, .static Cmp3.yN, .methodLink ST 47 CodL.yN, .static CodL.yN,
  .code Cmp3.yN Cmp3.yB 6 (some (.array .byte)), .initialized U16, .arrayClass .byte, .methodLink U16 115 Cmp5.yN, .static Cmp5.yN, .code Cmp5.yN Cmp5.yB 7 (some .int), .code CodL.yN CodL.yB 2 (some .byte)]
theorem tab_of {a : Array Value} {s : State} (h : ∀ w ∈ words, w.before a s = true) : New1.tab.before a s = true := by
  have h5 : Cmp5.tab.before a s = true := unparts (wk h (.code Cmp5.yN Cmp5.yB 7 (some .int))) (wks h (.initialized Cmp5.yN.cls :: Cmp5.site))
  have hc : CodL.tab.before a s = true := unparts (wk h (.code CodL.yN CodL.yB 2 (some .byte))) (wks h (.initialized CodL.yN.cls :: CodL.site))
  have q5 : ∀ w ∈ Cmp5.tab :: words, w.before a s = true := fun w hw => (List.mem_cons.mp hw).elim (fun e => e ▸ h5) (h w)
  have h3 : Cmp3.tab.before a s = true := unparts (wk q5 (.code Cmp3.yN Cmp3.yB 6 (some (.array .byte)))) (wks q5 (.initialized Cmp3.yN.cls :: Cmp3.site))
  have q3 : ∀ w ∈ Cmp3.tab :: CodL.tab :: words, w.before a s = true := fun w hw => (List.mem_cons.mp hw).elim (fun e => e ▸ h3) fun hw => (List.mem_cons.mp hw).elim (fun e => e ▸ hc) (h w)
  have h4 : New4.tab.before a s = true := unparts (wk q3 (.code New4.yN New4.yB 6 none)) (wks q3 (.initialized New4.yN.cls :: New4.site))
  have q4 : ∀ w ∈ New4.tab :: words, w.before a s = true := fun w hw => (List.mem_cons.mp hw).elim (fun e => e ▸ h4) (h w)
  exact unparts (wk q4 (.code New1.yN New1.yB 2 none)) (wks q4 (.initialized New1.yN.cls :: New1.site))
/-- the words ride from the start Z to the walk's own state -/
theorem moved {Z s : State} {a0 args : Array Value} (hZ : Z.Warmed39 s.vm) (hw : ∀ d ∈ words, d.before a0 Z = true) : ∀ d ∈ words, d.before args s = true := fun d hd => by
  have q := hw d hd
  have t : ∀ d ∈ words, d = .arrayClass .byte ∨ (d.onTables && d.keepsFace) = true := by decide +kernel
  rcases t d hd with rfl | t
  · exact RoadKit.mvA hZ q
  · exact RoadKit.mv hZ q t
/-- WHAT COMES BACK, over the tables of the start Z: h the heap at the call, h' behind it -/
def Q (Z : State) (x : Addr) (A : Cell) (h : Heap) (v : Option Value) (h' : Heap) (L : List Loc) : Prop := v = none ∧ (∀ y ∈ L, y.base = x) ∧ RoadKit.Keep h h' [x] ∧ h'.size = h.size + 1 ∧ RoadKit.Exa Z h' x ST ∧ RoadKit.Fld Z h' x ST "value" "[B" (.ref h.size) ∧ RoadKit.Fld Z h' x ST "coder" "B" (.int 0) ∧
  (∃ V : Cell, RoadKit.Arr Z h' h.size V .byte ∧ V.vm = .none ∧ Z.vm.findClass "[B" = some V.cls ∧ V.slots.size = A.slots.size ∧ ∀ j, j < A.slots.size → V.slots[j]? = some (.int (lo8 (cv A j)))) ∧
  ∀ (O n d : String) (w : Value), RoadKit.Fld Z h x O n d w → RoadKit.slotOf Z O n d ≠ RoadKit.slotOf Z ST "value" "[B" → RoadKit.slotOf Z O n d ≠ RoadKit.slotOf Z ST "coder" "B" → RoadKit.Fld Z h' x O n d w
/-- **new String(chars) AT A CALL, IN THE ROAD'S FORM**: for specialBack behind newO: x the fresh String, b the char[] with the cell A -/
theorem back {p : Program} {l : Launch} {e : Env} {R : Room} {s : State} {args : Array Value} {below : List Frame} {len W : Nat} {Z : State} {a0 : Array Value} {h : Heap} (hZ : Z.Warmed39 s.vm) (hw : ∀ d ∈ words, d.before a0 Z = true) {kI : Nat} (wi : (Jvm.Cond.instantiable ST kI).before a0 Z = true)
    {x b : Addr} {A : Cell} {z : Int32} {v0 c0 : Value} (E : RoadKit.Exa Z h x ST) (V : RoadKit.Fld Z h x ST "value" "[B" v0) (C : RoadKit.Fld Z h x ST "coder" "B" c0) (K : RoadKit.Arr Z h b A .char) (hty : Typed .char A) (S : RoadKit.Sta Z h ST "COMPACT_STRINGS" "Z" (.int z)) (hz : ¬ z = 0)
    (l0 : 0 < A.slots.size) (l2 : A.slots.size ≤ 536870912) (hp : ∀ i, i < A.slots.size → ¬ 255 < cv A i) (hfr : 4 ≤ R.frames) (hlo : W + 65 ≤ R.locals) :
    Back l R p e below s args New1.yN len W (fun P a => a = #[.ref x, .ref b] ∧ P.U.heap = h ∧ P.cells + 1 ≤ R.cells ∧ P.slots + A.slots.size ≤ R.slots)
      (fun P _ v B => ∃ L, Q Z x A h v B.U.heap L ∧ B.locs = P.locs ++ L ∧ B.cells = P.cells + 1 ∧ B.slots = P.slots + A.slots.size) := by
  intro m meth c P g ig mk a X hg hsize hdg hW hn hp'
  obtain ⟨rfl, rfl, r1, r2⟩ := hp'
  have al : Z.vm.Alike P.U.vm := hZ.alike.trans X.warmed.alike
  obtain ⟨D, cfV, kV, iV, fV, hD, gV, stV, knV, obV, asV, slV⟩ := id V
  obtain ⟨D', cfC, kC, iC, fC, hD', gC, stC, -, -, asC, slC⟩ := id C
  cases hD.symm.trans hD'
  obtain ⟨D2, kD, e1, e2, e3, e4, e5⟩ := id E
  cases hD.symm.trans e1
  obtain ⟨c2, k2, i1, i2, i3, -⟩ := Cond.instantiable_spec wi
  cases e2.symm.trans i1
  cases e3.symm.trans i2
  obtain ⟨kU, u1, u2⟩ := al.2.2 _ _ e3
  have hB : Blank ST x D P.U := ⟨hD, ⟨knV, fun q hq => by rw [hq] at obV; cases obV⟩, by rw [al.findClass]; exact e2, kU, u1, by rw [u2]; exact i3, by rw [u2]; exact e5 i3⟩
  have F1 : Found ST "value" "[B" fV P.U := ⟨SBG.found_only al ⟨cfV, kV, iV, gV⟩, stV⟩
  have F2 : Found ST "coder" "B" fC P.U := ⟨SBG.found_only al ⟨cfC, kC, iC, gC⟩, stC⟩
  have hA : Ch b A P.U := ⟨⟨K.1, State.isArrayOf_alike al K.2.1, K.2.2, by omega⟩, hty⟩
  have hS : StaticIs P.U ST "COMPACT_STRINGS" "Z" (.int z) := by
    obtain ⟨cfS, iS, kS, fS, st, cS, t1, t2, t3, t4, t5, t6, t7⟩ := S
    exact StaticIs.there (s := { Z with heap := P.U.heap }) ⟨cfS, iS, kS, fS, st, cS, t1, t2, t3, t4, t5, (fun q => by rw [q] at t6; cases t6), t7⟩ al rfl
  obtain ⟨v, B, X', ⟨⟨hv, E', V', q1, q2, q3, q4, q5, q6, q7, q8, q9, q10, q11⟩, hl, hc, hs⟩, st⟩ := New1.pays x D fV fC b A z (tab_of (moved hZ hw)) hfr hlo m meth c P g ig mk _ X hg hsize hdg hW hn ⟨r1, r2, rfl, hB, F1, F2, hA, hS, hz, l0, l2, hp⟩
  have al' : Z.vm.Alike B.U.vm := hZ.alike.trans X'.warmed.alike
  have hsz : E'.slots.size = D.slots.size := by
    obtain ⟨-, -, -, kB, w1, w2, w3⟩ := q1
    obtain ⟨kB', y1, y2⟩ := al'.2.2 _ _ e3
    rw [q2.2.1] at w1
    cases w1.symm.trans y1
    rw [w3, e5 i3, y2]
  refine ⟨v, B, X', ⟨_, ⟨hv, ?_, ⟨by omega, fun y cy hy hn' => q10 y cy (by simpa using hn') hy, fun y cy hy => ?_⟩, q11, ⟨E', _, q1.1, by rw [q2.2.1]; exact e2, by rw [q2.2.1]; exact e3, by rw [q2.1]; exact obV, fun _ => by rw [hsz]; exact e5 i3⟩,
    ⟨E', cfV, kV, iV, fV, q1.1, gV, stV, by rw [q2.1]; exact knV, by rw [q2.1]; exact obV, by rw [q2.2.1]; exact asV, q3⟩, ⟨E', cfC, kC, iC, fC, q1.1, gC, stC, by rw [q2.1]; exact knV, by rw [q2.1]; exact obV, by rw [q2.2.1]; exact asC, q4⟩,
    ⟨V', ⟨q5.1, State.isArrayOf_alike al'.symm q5.2.1, q5.2.2.1⟩, q6, by rw [← al'.findClass]; exact q7, q8, fun j hj => by have := q9 j hj; rwa [Nat.zero_add] at this⟩, fun O n d w F n1 n2 => ?_⟩, hl, hc, hs⟩, st⟩
  · intro y hy
    simp only [List.mem_cons, List.not_mem_nil, or_false] at hy
    rcases hy with rfl | rfl <;> rfl
  · by_cases q : y = x
    · subst q
      cases hD.symm.trans hy
      exact ⟨E', q1.1, q2.2.1, q2.1, hsz⟩
    · exact ⟨cy, q10 y cy q hy, rfl, rfl, rfl⟩
  · obtain ⟨D3, cf, k, i, f, g1, g2, g3, g4, g5, g6, g7⟩ := F
    cases hD.symm.trans g1
    simp only [RoadKit.slotOf, g2, gV, gC, Option.map_some, Option.getD_some] at n1 n2
    exact ⟨E', cf, k, i, f, q1.1, g2, g3, by rw [q2.1]; exact g4, by rw [q2.1]; exact g5, by rw [q2.2.1]; exact g6, by rw [q2.2.2 f.slot (by simp [n1, n2])]; exact g7⟩
end StrChars.Road
namespace StrChars.Road
open Jvm Sem ClassFile Op Lib Jvm.Stand Jvm.Free Jvm.Free.XT
/-- WHAT COMES BACK, the byte[] as a list of values -/
def QA (Z : State) (x : Addr) (zn : Int32) (cs : List Int32) (h : Heap) (v : Option Value) (h' : Heap) (L : List Loc) : Prop := v = none ∧ (∀ y ∈ L, y.base = x) ∧ RoadKit.Keep h h' [x] ∧ h'.size = h.size + 1 ∧ RoadKit.Exa Z h' x ST ∧ RoadKit.Fld Z h' x ST "value" "[B" (.ref h.size) ∧ RoadKit.Fld Z h' x ST "coder" "B" (.int 0) ∧
  (∃ kb, Z.vm.findClass "[B" = some kb ∧ RoadKit.Arv Z h' h.size kb .byte zn (cs.map fun c => .int (lo8 c)) (.int 0)) ∧
  ∀ (O n d : String) (w : Value), RoadKit.Fld Z h x O n d w → RoadKit.slotOf Z O n d ≠ RoadKit.slotOf Z ST "value" "[B" → RoadKit.slotOf Z O n d ≠ RoadKit.slotOf Z ST "coder" "B" → RoadKit.Fld Z h' x O n d w
/-- **new String(chars) AT A CALL, THE ARRAYS AS LISTS**: the char[] at b holds cs, not empty, no char above 255 -/
theorem backArv {p : Program} {l : Launch} {e : Env} {R : Room} {s : State} {args : Array Value} {below : List Frame} {len W : Nat} {Z : State} {a0 : Array Value} {h : Heap} (hZ : Z.Warmed39 s.vm) (hw : ∀ d ∈ words, d.before a0 Z = true) {kI : Nat} (wi : (Jvm.Cond.instantiable ST kI).before a0 Z = true)
    {x b : Addr} {k : ClassId} {zn z : Int32} {cs : List Int32} {dv v0 c0 : Value} (E : RoadKit.Exa Z h x ST) (V : RoadKit.Fld Z h x ST "value" "[B" v0) (C : RoadKit.Fld Z h x ST "coder" "B" c0) (K : RoadKit.Arv Z h b k .char zn (cs.map Value.int) dv) (S : RoadKit.Sta Z h ST "COMPACT_STRINGS" "Z" (.int z)) (hz : ¬ z = 0)
    (hlen : zn.toNatClampNeg = cs.length) (h0 : 0 < cs.length) (hbig : cs.length ≤ 536870912) (hall : ∀ c ∈ cs, ¬ 255 < c) (hfr : 4 ≤ R.frames) (hlo : W + 65 ≤ R.locals) :
    Back l R p e below s args New1.yN len W (fun P a => a = #[.ref x, .ref b] ∧ P.U.heap = h ∧ P.cells + 1 ≤ R.cells ∧ P.slots + cs.length ≤ R.slots)
      (fun P _ v B => ∃ L, QA Z x zn cs h v B.U.heap L ∧ B.locs = P.locs ++ L ∧ B.cells = P.cells + 1 ∧ B.slots = P.slots + cs.length) := by
  obtain ⟨A, K1, K2, K3, K4, K5, K6⟩ := K
  have e : A.slots.size = cs.length := K3.trans hlen
  have hat : ∀ (i : Nat) (hi : i < cs.length), A.slots[i]? = some (.int cs[i]) := fun i hi => by rw [K5 i (by omega)]; simp [List.getD_eq_getElem?_getD, hi]
  have hcv : ∀ (i : Nat) (hi : i < cs.length), cv A i = cs[i] := fun i hi => by unfold cv; rw [hat i hi]
  have hty : Typed .char A := fun i v hv => by
    have hi : i < A.slots.size := (Array.getElem?_eq_some_iff.mp hv).1
    have q := K5 i hi
    rw [hv] at q
    rw [Option.some.inj q]
    exact K6 i hi
  refine Back.mono (back hZ hw wi E V C K1 hty S hz (by omega) (by omega) (fun i hi => by rw [hcv i (by omega)]; exact hall _ (List.getElem_mem _)) hfr hlo) (fun P a hp => ⟨hp.1, hp.2.1, hp.2.2.1, by rw [e]; exact hp.2.2.2⟩) (fun P a v B hp hq => ?_)
  obtain ⟨L, ⟨q1, q2, q3, q4, q5, q6, q7, ⟨V', v1, v2, v3, v4, v5⟩, q9⟩, hl, hc, hs⟩ := hq
  refine ⟨L, ⟨q1, q2, q3, q4, q5, q6, q7, ⟨V'.cls, v3, V', v1, rfl, by rw [v4, e, hlen], K4, fun i hi => ?_, fun i hi => ?_⟩, q9⟩, hl, hc, by rw [hs, e]⟩
  · have hi' : i < cs.length := by omega
    rw [v5 i (by omega), hcv i hi']; simp [List.getD_eq_getElem?_getD, hi']
  · have hi' : i < cs.length := by omega
    simp only [List.getD_eq_getElem?_getD, List.getElem?_map, List.getElem?_eq_getElem hi', Option.map_some, Option.getD_some]
    exact fits_lo8 _
end StrChars.Road
namespace StrChars.Road
open Jvm Sem ClassFile Op Lib Jvm.Stand Jvm.Free Jvm.Free.XT
/-- WHAT COMES BACK, in the writer's own shape -/
def QV (Z : State) (x : Addr) (N : Int32) (bs : List Int32) (h : Heap) (n0 : Nat) (v : Option Value) (h' : Heap) (L : List Loc) : Prop := v = none ∧ RoadKit.Fr n0 L ∧ RoadKit.Keep h h' [x] ∧ RoadKit.Exa Z h' x ST ∧ RoadKit.Fld Z h' x ST "coder" "B" (.int 0) ∧
  ∃ (t : Addr) (kb : ClassId), n0 ≤ t ∧ h.size ≤ t ∧ ¬ t = x ∧ RoadKit.Fld Z h' x ST "value" "[B" (.ref t) ∧ RoadKit.Arv Z h' t kb .byte N (bs.map Value.int) (.int 0)
/-- **new String(chars) AT A CALL, FOR THE WRITER**: a char[] of n known ints, each 0 to 255 -/
theorem backV {p : Program} {l : Launch} {e : Env} {R : Room} {s : State} {args : Array Value} {below : List Frame} {len W : Nat} {Z : State} {a0 : Array Value} {h : Heap} (hZ : Z.Warmed39 s.vm) (hw : ∀ d ∈ words, d.before a0 Z = true) {kI : Nat} (wi : (Jvm.Cond.instantiable ST kI).before a0 Z = true)
    {x b : Addr} {kC : ClassId} {cs bs : List Int32} {d v0 c0 : Value} {z N : Int32} {n n0 : Nat} (hx0 : n0 ≤ x) (hh0 : n0 ≤ h.size) (E : RoadKit.Exa Z h x ST) (V : RoadKit.Fld Z h x ST "value" "[B" v0) (C : RoadKit.Fld Z h x ST "coder" "B" c0) (K : RoadKit.Arv Z h b kC .char N (cs.map Value.int) d) (S : RoadKit.Sta Z h ST "COMPACT_STRINGS" "Z" (.int z)) (hz : ¬ z = 0)
    (hn : cs.length = n) (hN : N = Int32.ofNat n) (l0 : 0 < n) (l2 : n ≤ 4000) (hp : ∀ c ∈ cs, ¬ c < 0 ∧ ¬ (255 : Int32) < c) (hb : bs = cs.map (fun c => c.toInt8.toInt32)) (hfr : 4 ≤ R.frames) (hlo : W + 65 ≤ R.locals) :
    Back l R p e below s args (⟨"java/lang/String", "<init>", "([C)V"⟩ : MethodName) len W (fun P a => a = #[.ref x, .ref b] ∧ P.U.heap = h ∧ P.cells + 1 ≤ R.cells ∧ P.slots + n ≤ R.slots)
      (fun P _ v B => ∃ L, QV Z x N bs h n0 v B.U.heap L ∧ B.locs = P.locs ++ L ∧ B.cells = P.cells + 1 ∧ B.slots = P.slots + n) := by
  subst hn hN hb
  refine Back.mono (backArv hZ hw wi E V C K S hz (n32 (by omega)) l0 (by omega) (fun c hc => (hp c hc).2) hfr hlo) (fun P a hp => hp) (fun P a v B hp hq => ?_)
  obtain ⟨L, ⟨q1, q2, q3, q4, q5, q6, q7, ⟨kb, v1, v2⟩, q9⟩, hl, hc, hs⟩ := hq
  exact ⟨L, ⟨q1, fun y hy => by rw [q2 y hy]; exact hx0, q3, q5, q7, h.size, kb, hh0, Nat.le_refl _, Nat.ne_of_gt E.lt, q6, by rw [List.map_map]; exact v2⟩, hl, hc, hs⟩
end StrChars.Road
namespace StrChars
open Jvm Sem ClassFile Op Lib Jvm.Stand Jvm.Free.XT Jvm.Free.ALB Jvm.Free.JM Jvm.Free
open Jvm.Lib.Cold (StaticIs)
def hi8 (x : Int32) : Int32 := lo8 (x >>> ((8 : Int32) &&& 31))
/-- what StringUTF16.getChar makes of two bytes -/
def pairCh (u v : Int32) : Int32 := (((u &&& 255) <<< ((0 : Int32) &&& 31)) ||| ((v &&& 255) <<< ((8 : Int32) &&& 31))).toUInt32.toUInt16.toUInt32.toInt32
theorem lo8_and (x : Int32) : (lo8 x &&& 255).toBitVec.toNat = x.toBitVec.toNat % 256 := by
  have h : (lo8 x).toBitVec = (x.toBitVec.signExtend 8).signExtend 32 := by rw [lo8, Int8.toBitVec_toInt32, Int32.toBitVec_toInt8]
  rw [Int32.toBitVec_and, BitVec.toNat_and, h]
  have e : ((x.toBitVec.signExtend 8).signExtend 32).toNat % 256 = x.toBitVec.toNat % 256 := by
    rw [BitVec.toNat_signExtend]
    have hlt := x.toBitVec.isLt
    simp only [BitVec.toNat_setWidth, BitVec.toNat_signExtend]
    split <;> split <;> omega
  rw [← e]
  exact Nat.and_two_pow_sub_one_eq_mod _ 8
theorem pair_says {c : Int32} (h0 : ¬ c < 0) (h1 : ¬ 65535 < c) : pairCh (lo8 c) (hi8 c) = c := by
  rw [Int32.lt_iff_toInt_lt] at h0 h1
  have e0 : (0 : Int32).toInt = 0 := rfl
  have e1 : (65535 : Int32).toInt = 65535 := rfl
  have hc : c.toInt = c.toBitVec.toNat := by
    have := c.toBitVec.isLt
    have e : c.toInt = c.toBitVec.toInt := rfl
    rw [e] at h0 h1
    rw [e]
    rw [BitVec.toInt_eq_toNat_cond] at h0 h1 ⊢
    split at h0 <;> split <;> omega
  have hn : c.toBitVec.toNat < 65536 := by omega
  have a1 := lo8_and c
  have a2 : (hi8 c &&& 255).toBitVec.toNat = c.toBitVec.toNat / 256 := by
    rw [hi8, lo8_and]
    have e : ((8 : Int32) &&& 31) = 8 := by decide
    rw [e, Int32.toBitVec_shiftRight]
    have e2 : ((8 : Int32).toBitVec.smod 32) = 8#32 := by decide
    rw [e2, BitVec.sshiftRight_eq', BitVec.toNat_sshiftRight_of_msb_false (by rw [BitVec.msb_eq_false_iff_two_mul_lt]; omega)]
    show c.toBitVec.toNat >>> 8 % 256 = _
    rw [Nat.shiftRight_eq_div_pow]
    omega
  unfold pairCh
  apply Int32.toBitVec_inj.mp
  apply BitVec.eq_of_toNat_eq
  have f0 : ((0 : Int32) &&& 31) = 0 := by decide
  have f8 : ((8 : Int32) &&& 31) = 8 := by decide
  rw [f0, f8]
  have g : (((lo8 c &&& 255) <<< (0 : Int32)) ||| ((hi8 c &&& 255) <<< (8 : Int32))).toBitVec.toNat = c.toBitVec.toNat := by
    rw [Int32.toBitVec_or, Int32.toBitVec_shiftLeft, Int32.toBitVec_shiftLeft]
    have s0 : ((0 : Int32).toBitVec.smod 32) = 0#32 := by decide
    have s8 : ((8 : Int32).toBitVec.smod 32) = 8#32 := by decide
    rw [s0, s8, BitVec.toNat_or]
    simp only [BitVec.shiftLeft_eq', BitVec.toNat_shiftLeft, a1, a2]
    show (c.toBitVec.toNat % 256) <<< 0 % 2 ^ 32 ||| (c.toBitVec.toNat / 256) <<< 8 % 2 ^ 32 = _
    rw [Nat.shiftLeft_zero, Nat.mod_eq_of_lt (show c.toBitVec.toNat % 256 < 2 ^ 32 by omega), Nat.mod_eq_of_lt (show (c.toBitVec.toNat / 256) <<< 8 < 2 ^ 32 by rw [Nat.shiftLeft_eq]; omega), Nat.or_comm, ← Nat.shiftLeft_add_eq_or_of_lt (by omega), Nat.shiftLeft_eq]
    omega
  show BitVec.toNat (((((lo8 c &&& 255) <<< (0 : Int32)) ||| ((hi8 c &&& 255) <<< (8 : Int32))).toBitVec.setWidth 16).setWidth 32) = _
  rw [BitVec.toNat_setWidth, BitVec.toNat_setWidth, g]
  omega
end StrChars
namespace StrChars
open Jvm Sem ClassFile Op Lib Jvm.Stand Jvm.Free.XT Jvm.Free.ALB Jvm.Free.JM Jvm.Free
open Jvm.Lib.Cold (StaticIs)
/-- charAt's cast of a byte read back -/
def chr8 (u : Int32) : Int32 := (u &&& 255).toUInt32.toUInt16.toUInt32.toInt32
theorem chr8_lo8 {c : Int32} (h0 : ¬ c < 0) (h1 : ¬ 255 < c) : chr8 (lo8 c) = c := by
  have t : ∀ k : Fin 256, (Int32.ofNat k.val).toUInt32.toUInt16.toUInt32.toInt32 = Int32.ofNat k.val := by decide +kernel
  unfold chr8
  rw [lo8_mask h0 h1]
  rw [Int32.lt_iff_toInt_lt] at h0 h1
  have e0 : (0 : Int32).toInt = 0 := rfl
  have e1 : (255 : Int32).toInt = 255 := rfl
  obtain ⟨k, hk⟩ : ∃ k : Nat, c.toInt = k := ⟨c.toInt.toNat, by omega⟩
  have hx : c = Int32.ofNat k := Int32.toInt_inj.mp (by rw [hk, Int32.toInt_ofNat_small (by omega)])
  rw [hx]
  exact t ⟨k, by omega⟩
theorem narrow_ch {c : Int32} (h0 : ¬ c < 0) (h1 : ¬ 65535 < c) : narrow .char (.int c) = .int c := by
  have q : narrow .char (.int (pairCh (lo8 c) (hi8 c))) = .int (pairCh (lo8 c) (hi8 c)) := narrow_c _
  rwa [pair_says h0 h1] at q
/-- the array's cell V codes the n chars f 0 .. f (n - 1) by the coder cd, as the JDK does: coder 1 just where some char is above 255 -/
def Cod (cd : Int32) (n : Nat) (f : Nat → Int32) (V : Cell) : Prop := (cd = 0 ∧ V.slots.size = n ∧ ∀ j, j < n → V.slots[j]? = some (.int (lo8 (f j))) ∧ ¬ 255 < f j) ∨ (cd = 1 ∧ V.slots.size = 2 * n ∧ (∀ j, j < n → V.slots[2 * j]? = some (.int (lo8 (f j))) ∧ V.slots[2 * j + 1]? = some (.int (hi8 (f j)))) ∧ ∃ j, j < n ∧ 255 < f j)
theorem Cod.cd {cd : Int32} {n : Nat} {f : Nat → Int32} {V : Cell} (h : Cod cd n f V) : cd = 0 ∨ cd = 1 := h.imp (fun q => q.1) fun q => q.1
/-- **x is a String of the n chars f 0 .. f (n - 1)**, Latin-1 or UTF-16; its array at t has the cell V -/
def Txt (x t : Addr) (V : Cell) (cd : Int32) (n : Nat) (f : Nat → Int32) (U : State) : Prop := Exact "java/lang/String" x U ∧ Has x "java/lang/String" "value" "[B" (.ref t) U ∧ Has x "java/lang/String" "coder" "B" (.int cd) U ∧ XT.Arr .byte t V U ∧ Cod cd n f V ∧ ∀ j, j < n → ¬ f j < 0 ∧ ¬ 65535 < f j
theorem Txt.mv {x t : Addr} {V : Cell} {cd : Int32} {n : Nat} {f : Nat → Int32} {U U' : State} (h : Txt x t V cd n f U) (hal : U.vm.Alike U'.vm) (hh : U'.heap = U.heap) : Txt x t V cd n f U' := ⟨h.1.mv hal hh, h.2.1.mv hal hh, h.2.2.1.mv hal hh, h.2.2.2.1.mv hal hh, h.2.2.2.2⟩
namespace IsL
def yN : MethodName := ⟨"java/lang/String", "isLatin1", "()Z"⟩
abbrev yB : ByteArray := jdk_42_method_154_code
theorem d0 : decode yB 0 = .ok (.getstatic 38, 3) := by decide +kernel
theorem d3 : decode yB 3 = .ok (.ifCond (.eq) 14, 3) := by decide +kernel
theorem d6 : decode yB 6 = .ok (.aload_n 0, 1) := by decide +kernel
theorem d7 : decode yB 7 = .ok (.getfield 15, 3) := by decide +kernel
theorem d10 : decode yB 10 = .ok (.ifCond (.ne) 7, 3) := by decide +kernel
theorem d13 : decode yB 13 = .ok (.iconst 1, 1) := by decide +kernel
theorem d14 : decode yB 14 = .ok (.goto 4, 3) := by decide +kernel
theorem d17 : decode yB 17 = .ok (.iconst 0, 1) := by decide +kernel
theorem d18 : decode yB 18 = .ok (.ireturn, 1) := by decide +kernel
def site : List Cond := [.fieldLink "java/lang/String" 38 "java/lang/String" "COMPACT_STRINGS" "Z", .fieldLink "java/lang/String" 15 "java/lang/String" "coder" "B"]
def tab : Cond := tabOf yN yB 1 (some .boolean) site
def P (x : Addr) (cd z : Int32) (args : Array Value) (s : State) : Prop := args = #[.ref x] ∧ Has x "java/lang/String" "coder" "B" (.int cd) s ∧ (cd = 0 ∨ cd = 1) ∧ StaticIs s "java/lang/String" "COMPACT_STRINGS" "Z" (.int z) ∧ ¬ z = 0
def E (cd : Int32) (r : Option Value) (s u : State) : Prop := XT.PureE (some (.int (1 - cd))) r s u
theorem law (l : Launch) (x : Addr) (cd z : Int32) : Law l yN 1 0 0 0 yB 1 (some .boolean) site (P x cd z) (E cd) [] 0 0 := by
  refine Law.of_walk (plainFor_of_name (by decide +kernel)) (by decide +kernel) (by decide +kernel) (by decide) (fun _ _ h => by rw [h.1]; rfl) (fun _ U U' hal hh h => ⟨h.1, h.2.1.mv hal hh, h.2.2.1, h.2.2.2.1.there hal hh, h.2.2.2.2⟩) (fun r U U' V V' h1 hal h2 h => XT.PureE.mv r U U' V V' h1 hal h2 h) ?_
  intro p e s m args below meth c s₁ X0 hexec hbytes hml hret hlk hnm hown hh0 W hP
  obtain ⟨rfl, hx, hc, s1, hz⟩ := hP
  have c1 : Steps p.tables e below (s₁.setTop (entryFrame m #[.ref x] 1)) (s₁.setTop (mkF m 0 #[.val (.ref x)] [])) := entry rfl
  obtain ⟨T2, X2, q2, st2⟩ := X0.sget hexec hown (wk W (.fieldLink "java/lang/String" 38 "java/lang/String" "COMPACT_STRINGS" "Z")) s1 (fun _ _ h => by rw [hh0]; exact h) (g := (mkF m 0 #[.val (.ref x)] [])) rfl (hb hbytes d0)
  have hh2 := q2.trans hh0
  have c3 : Steps p.tables e below (s₁.setTop (entryFrame m #[.ref x] 1)) (T2.setTop (mkF m 7 #[.val (.ref x)] [.ref x])) := (c1.trans (st2 _ (Steps.refl _))).trans (by
    refine XS.ifNo X2.here hexec rfl (hb hbytes d3) rfl (i0_eq_f hz) ?_
    refine XS.aloadN X2.here hexec rfl (hb hbytes d6) rfl rfl ?_
    exact Steps.refl _)
  obtain ⟨T4, X4, q4, st4⟩ := X2.hget hexec hown (wk W (.fieldLink "java/lang/String" 15 "java/lang/String" "coder" "B")) (hx.mv X2.warmed.alike hh2) (g := (mkF m 7 #[.val (.ref x)] [.ref x])) rfl (rest := []) rfl (hb hbytes d7)
  have c5 : Steps p.tables e below (s₁.setTop (entryFrame m #[.ref x] 1)) (T4.setTop (mkF m 10 #[.val (.ref x)] [.int cd])) := c3.trans (st4 _ (Steps.refl _))
  have c6 : Steps p.tables e below (s₁.setTop (entryFrame m #[.ref x] 1)) (T4.setTop (mkF m 18 #[.val (.ref x)] [.int (1 - cd)])) := by
    rcases hc with rfl | rfl
    · exact c5.trans (by
        refine XS.ifNo X4.here hexec rfl (hb hbytes d10) rfl (i0_ne_f rfl) ?_
        refine iconstV X4.here hexec rfl 1 (hb hbytes d13) (by decide) ?_
        refine XS.goto X4.here hexec rfl (pc0 := 14) rfl (hb hbytes d14) (by decide) rfl ?_
        exact Steps.refl _)
    · exact c5.trans (by
        refine XS.ifYes X4.here hexec rfl (pc0 := 10) rfl (hb hbytes d10) rfl (i0_ne_t (by decide)) (by decide) rfl ?_
        refine iconstV X4.here hexec rfl 0 (hb hbytes d17) (by decide) ?_
        exact Steps.refl _)
  exact ⟨T4, some (.int (1 - cd)), _, _, _, X4, rfl, rfl, rfl, (fun h => by cases h), ⟨rfl, q4.trans hh2⟩, fun fs hl => c6.trans (X4.ireturnOut hexec hret (by rcases hc with rfl | rfl <;> rfl) (Or.inr (Or.inl rfl)) (hb hbytes d18) hl)⟩
end IsL
namespace LChA
def yN : MethodName := ⟨"java/lang/StringLatin1", "charAt", "([BI)C"⟩
abbrev yB : ByteArray := jdk_43_method_2_code
theorem d0 : decode yB 0 = .ok (.iload_n 1, 1) := by decide +kernel
theorem d1 : decode yB 1 = .ok (.aload_n 0, 1) := by decide +kernel
theorem d2 : decode yB 2 = .ok (.arraylength, 1) := by decide +kernel
theorem d3 : decode yB 3 = .ok (.invokestatic 9, 3) := by decide +kernel
theorem d6 : decode yB 6 = .ok (.aload_n 0, 1) := by decide +kernel
theorem d7 : decode yB 7 = .ok (.iload_n 1, 1) := by decide +kernel
theorem d8 : decode yB 8 = .ok (.baload, 1) := by decide +kernel
theorem d9 : decode yB 9 = .ok (.sipush 255, 3) := by decide +kernel
theorem d12 : decode yB 12 = .ok (.iand, 1) := by decide +kernel
theorem d13 : decode yB 13 = .ok (.i2c, 1) := by decide +kernel
theorem d14 : decode yB 14 = .ok (.ireturn, 1) := by decide +kernel
def site : List Cond := [JO.Str_checkIndex.tab] ++ staticW "java/lang/StringLatin1" 9 JO.Str_checkIndex.yN
def tab : Cond := tabOf yN yB 2 (some .char) site
def P (t : Addr) (V : Cell) (i : Nat) (u : Int32) (fm : Value) (args : Array Value) (s : State) : Prop := args = #[.ref t, .int (Int32.ofNat i)] ∧ XT.Arr .byte t V s ∧ V.slots[i]? = some (.int u) ∧ (StaticIs s "jdk/internal/util/Preconditions" "SIOOBE_FORMATTER" "Ljava/util/function/BiFunction;" fm ∧ fm.isRef = true)
def E (u : Int32) (r : Option Value) (s w : State) : Prop := XT.PureE (some (.int (chr8 u))) r s w
theorem law (l : Launch) (t : Addr) (V : Cell) (i : Nat) (u : Int32) (fm : Value) : Law l yN 2 2 2 27 yB 2 (some .char) site (P t V i u fm) (E u) [] 0 0 := by
  refine Law.of_walk (plainFor_of_name (by decide +kernel)) (by decide +kernel) (by decide +kernel) (by decide) (fun _ _ h => by rw [h.1]; rfl) (fun _ U U' hal hh h => ⟨h.1, h.2.1.mv hal hh, h.2.2.1, h.2.2.2.1.there hal hh, h.2.2.2.2⟩) (fun r U U' V V' h1 hal h2 h => XT.PureE.mv r U U' V V' h1 hal h2 h) ?_
  intro p e s m args below meth c s₁ X0 hexec hbytes hml hret hlk hnm hown hh0 W hP
  obtain ⟨rfl, hV, hu, s1, rf⟩ := hP
  have v31 := hV.2.2.2
  have hi : i < V.slots.size := (Array.getElem?_eq_some_iff.mp hu).1
  have c1 : Steps p.tables e below (s₁.setTop (entryFrame m #[.ref t, .int (Int32.ofNat i)] 2)) (s₁.setTop (mkF m 0 #[.val (.ref t), .val (.int (Int32.ofNat i))] [])) := entry rfl
  have c2 : Steps p.tables e below (s₁.setTop (entryFrame m #[.ref t, .int (Int32.ofNat i)] 2)) (s₁.setTop (mkF m 3 #[.val (.ref t), .val (.int (Int32.ofNat i))] [.int (Int32.ofNat V.slots.size), .int (Int32.ofNat i)])) := c1.trans (by
    refine XS.iloadN X0.here hexec rfl (hb hbytes d0) rfl ?_
    refine XS.aloadN X0.here hexec rfl (hb hbytes d1) rfl rfl ?_
    refine X0.alen hexec (hV.mv X0.warmed.alike hh0) rfl rfl (hb hbytes d2) ?_
    exact Steps.refl _)
  obtain ⟨v3, T3, X3, E3, g3⟩ := X0.callS hexec (JO.Str_checkIndex.law l (Int32.ofNat i) (Int32.ofNat V.slots.size) fm) hown (wks W (staticW "java/lang/StringLatin1" 9 JO.Str_checkIndex.yN)) (wk W JO.Str_checkIndex.tab) (W := 0) (Nat.le_of_ble_eq_true rfl) (Nat.le_of_ble_eq_true rfl) (Nat.le_refl _) (Nat.le_refl _) (g := (mkF m 3 #[.val (.ref t), .val (.int (Int32.ofNat i))] [.int (Int32.ofNat V.slots.size), .int (Int32.ofNat i)])) rfl (by rw [hml]; rfl) c2 (argsL := [.int (Int32.ofNat i), .int (Int32.ofNat V.slots.size)]) (rest := []) rfl rfl (by show 2 * 0 + 0 ≤ _; decide) (hb hbytes d3) (⟨rfl, rf, s1.there X0.warmed.alike hh0, Int32.ofNat_not_neg (by omega), lt32 v31 hi⟩)
  obtain ⟨rfl, q3⟩ := E3
  have hh3 := q3.trans hh0
  have c4 : Steps p.tables e below (s₁.setTop (entryFrame m #[.ref t, .int (Int32.ofNat i)] 2)) (T3.setTop (mkF m 14 #[.val (.ref t), .val (.int (Int32.ofNat i))] [.int (chr8 u)])) := Steps.trans g3 (by
    refine XS.aloadN X3.here hexec rfl (hb hbytes d6) rfl rfl ?_
    refine XS.iloadN X3.here hexec rfl (hb hbytes d7) rfl ?_
    refine X3.aget hexec (hV.mv X3.warmed.alike hh3) rfl hu rfl rfl (hb hbytes d8) ?_
    refine sipushV X3.here hexec rfl 255 (hb hbytes d9) (by decide) ?_
    refine XS.iand X3.here hexec rfl (hb hbytes d12) rfl ?_
    refine i2c X3.here hexec rfl (hb hbytes d13) rfl ?_
    exact Steps.refl _)
  exact ⟨T3, some (.int (chr8 u)), _, _, _, X3, rfl, rfl, rfl, (fun h => by cases h), ⟨rfl, hh3⟩, fun fs hl => c4.trans (X3.ireturnOut hexec hret (narrow_c _) (Or.inr (Or.inr (Or.inr (Or.inl rfl)))) (hb hbytes d14) hl)⟩
end LChA
end StrChars
namespace StrChars.Road
open Jvm Sem ClassFile Op Lib Jvm.Stand Jvm.Free Jvm.Free.XT
open Jvm.Lib.Cold (StaticIs)
theorem consq {a : Array Value} {s : State} {c : Jvm.Cond} {L : List Jvm.Cond} (h0 : c.before a s = true) (h : ∀ w ∈ L, w.before a s = true) : ∀ w ∈ c :: L, w.before a s = true := fun w hw => (List.mem_cons.mp hw).elim (fun e => e ▸ h0) (h w)
/-- the bytes of the chars cs, low before high -/
def wideBytes : List Int32 → List Value
  | [] => []
  | c :: cs => .int (lo8 c) :: .int (hi8 c) :: wideBytes cs
theorem wide_lo (d : Value) : ∀ (cs : List Int32) (j : Nat), j < cs.length → (wideBytes cs).getD (2 * j) d = .int (lo8 (cs.getD j 0))
  | [], j, h => absurd h (Nat.not_lt_zero j)
  | c :: cs, 0, _ => rfl
  | c :: cs, j + 1, h => by
    have q := wide_lo d cs j (by simpa using h)
    rw [show 2 * (j + 1) = 2 * j + 1 + 1 from by omega]
    simpa [wideBytes] using q
theorem wide_hi (d : Value) : ∀ (cs : List Int32) (j : Nat), j < cs.length → (wideBytes cs).getD (2 * j + 1) d = .int (hi8 (cs.getD j 0))
  | [], j, h => absurd h (Nat.not_lt_zero j)
  | c :: cs, 0, _ => rfl
  | c :: cs, j + 1, h => by
    have q := wide_hi d cs j (by simpa using h)
    rw [show 2 * (j + 1) + 1 = 2 * j + 1 + 1 + 1 from by omega]
    simpa [wideBytes] using q
theorem low_at (d : Value) (cs : List Int32) (j : Nat) (h : j < cs.length) : (cs.map fun c => Value.int (lo8 c)).getD j d = .int (lo8 (cs.getD j 0)) := by
  simp [List.getD_eq_getElem?_getD, h]
/-- an array of N2 bytes vs codes the chars cs by the coder cd -/
def CodA (cs : List Int32) (cd N2 : Int32) (vs : List Value) : Prop := (cd = 0 ∧ N2 = Int32.ofNat cs.length ∧ vs = (cs.map fun c => Value.int (lo8 c)) ∧ ∀ c ∈ cs, ¬ 255 < c) ∨ (cd = 1 ∧ N2 = Int32.ofNat (2 * cs.length) ∧ vs = wideBytes cs ∧ ∃ c ∈ cs, 255 < c)
theorem CodA.cod {cs : List Int32} {cd N2 : Int32} {vs : List Value} {V : Cell} (h : CodA cs cd N2 vs) (hn : 2 * cs.length < 2 ^ 31) (hs : V.slots.size = N2.toNatClampNeg) (hv : RoadKit.Has V vs (.int 0)) : Cod cd cs.length (fun j => cs.getD j 0) V := by
  rcases h with ⟨rfl, rfl, rfl, h⟩ | ⟨rfl, rfl, rfl, c, hc, hw⟩
  · rw [n32 (by omega)] at hs
    exact Or.inl ⟨rfl, hs, fun j hj => ⟨by rw [hv j (by omega), low_at _ _ _ hj], by
      have e : cs.getD j 0 = cs[j] := by simp [List.getD_eq_getElem?_getD, hj]
      show ¬ 255 < cs.getD j 0
      rw [e]; exact h _ (List.getElem_mem _)⟩⟩
  · rw [n32 (by omega)] at hs
    obtain ⟨j, hj, rfl⟩ := List.getElem_of_mem hc
    exact Or.inr ⟨rfl, hs, fun j hj => ⟨by rw [hv _ (by omega), wide_lo _ _ _ hj], by rw [hv _ (by omega), wide_hi _ _ _ hj]⟩, j, hj, by
      have e : cs.getD j 0 = cs[j] := by simp [List.getD_eq_getElem?_getD, hj]
      show 255 < cs.getD j 0
      rw [e]; exact hw⟩
/-- an object of exactly java/lang/String, its two fields found: as the laws ask it -/
theorem strObj {Z U : State} {a0 : Array Value} {kI : Nat} (wi : (Jvm.Cond.instantiable ST kI).before a0 Z = true) (al : Z.vm.Alike U.vm) {x : Addr} {v0 c0 : Value} (E : RoadKit.Exa Z U.heap x ST) (V : RoadKit.Fld Z U.heap x ST "value" "[B" v0) (C : RoadKit.Fld Z U.heap x ST "coder" "B" c0) :
    ∃ (D : Cell) (fV fC : Field), Blank ST x D U ∧ Found ST "value" "[B" fV U ∧ Found ST "coder" "B" fC U ∧ D.slots[fV.slot]? = some v0 ∧ D.slots[fC.slot]? = some c0 ∧ RoadKit.slotOf Z ST "value" "[B" = fV.slot ∧ RoadKit.slotOf Z ST "coder" "B" = fC.slot := by
  obtain ⟨D, cfV, kV, iV, fV, hD, gV, stV, knV, obV, asV, slV⟩ := V
  obtain ⟨D', cfC, kC, iC, fC, hD', gC, stC, -, -, asC, slC⟩ := C
  cases hD.symm.trans hD'
  obtain ⟨D2, kD, e1, e2, e3, e4, e5⟩ := E
  cases hD.symm.trans e1
  obtain ⟨c2, k2, i1, i2, i3, -⟩ := Cond.instantiable_spec wi
  cases e2.symm.trans i1
  cases e3.symm.trans i2
  obtain ⟨kU, u1, u2⟩ := al.2.2 _ _ e3
  exact ⟨D, fV, fC, ⟨hD, ⟨knV, fun q hq => by rw [hq] at obV; cases obV⟩, by rw [al.findClass]; exact e2, kU, u1, by rw [u2]; exact i3, by rw [u2]; exact e5 i3⟩, ⟨SBG.found_only al ⟨cfV, kV, iV, gV⟩, stV⟩, ⟨SBG.found_only al ⟨cfC, kC, iC, gC⟩, stC⟩, slV, slC, by simp [RoadKit.slotOf, gV], by simp [RoadKit.slotOf, gC]⟩
theorem sta_is {Z U : State} (al : Z.vm.Alike U.vm) {C n d : String} {v : Value} (S : RoadKit.Sta Z U.heap C n d v) : StaticIs U C n d v := by
  obtain ⟨cfS, iS, kS, fS, st, cS, t1, t2, t3, t4, t5, t6, t7⟩ := S
  exact StaticIs.there (s := { Z with heap := U.heap }) ⟨cfS, iS, kS, fS, st, cS, t1, t2, t3, t4, t5, (fun q => by rw [q] at t6; cases t6), t7⟩ al rfl
end StrChars.Road
namespace StrChars
open Jvm Sem ClassFile Op Lib Jvm.Stand Jvm.Free.XT Jvm.Free.ALB Jvm.Free.JM Jvm.Free
open Jvm.Lib.Cold (StaticIs)
/-- what place i of a byte[]'s cell holds -/
def yv (A : Cell) (i : Nat) : Int32 := match A.slots[i]? with | some (.int x) => x | _ => 0
theorem yv_get {a : Addr} {A : Cell} {U : State} (h : XT.Arr .byte a A U) (ht : Typed .byte A) {i : Nat} (hi : i < A.slots.size) : A.slots[i]? = some (.int (yv A i)) := by
  have e := Array.getElem?_eq_getElem hi
  have f := ht i _ e
  unfold yv; rw [e]
  generalize A.slots[i] = v at f
  cases v <;> simp [fits] at f ⊢
/-- the two arrays are equal, place for place -/
def EqC (A B : Cell) : Prop := A.slots.size = B.slots.size ∧ ∀ i, i < A.slots.size → yv A i = yv B i
/-- a boolean that says whether p -/
def Says01 (q : Prop) (r : Option Value) (s u : State) : Prop := ∃ v : Int32, r = some (.int v) ∧ u.heap = s.heap ∧ ((v = 1 ∧ q) ∨ (v = 0 ∧ ¬ q))
theorem Says01.mv {q : Prop} : ∀ r (U U' V V' : State), U'.heap = U.heap → V.vm.Alike V'.vm → V'.heap = V.heap → Says01 q r U V → Says01 q r U' V' :=
  fun r U U' V V' h1 _ h2 ⟨v, a, b, c⟩ => ⟨v, a, by rw [h1, h2]; exact b, c⟩
namespace LEq
def yN : MethodName := ⟨"java/lang/StringLatin1", "equals", "([B[B)Z"⟩
abbrev yB : ByteArray := jdk_43_method_13_code
theorem d0 : decode yB 0 = .ok (.aload_n 0, 1) := by decide +kernel
theorem d1 : decode yB 1 = .ok (.arraylength, 1) := by decide +kernel
theorem d2 : decode yB 2 = .ok (.aload_n 1, 1) := by decide +kernel
theorem d3 : decode yB 3 = .ok (.arraylength, 1) := by decide +kernel
theorem d4 : decode yB 4 = .ok (.if_icmp (.ne) 30, 3) := by decide +kernel
theorem d7 : decode yB 7 = .ok (.iconst 0, 1) := by decide +kernel
theorem d8 : decode yB 8 = .ok (.istore_n 2, 1) := by decide +kernel
theorem d9 : decode yB 9 = .ok (.iload_n 2, 1) := by decide +kernel
theorem d10 : decode yB 10 = .ok (.aload_n 0, 1) := by decide +kernel
theorem d11 : decode yB 11 = .ok (.arraylength, 1) := by decide +kernel
theorem d12 : decode yB 12 = .ok (.if_icmp (.ge) 20, 3) := by decide +kernel
theorem d15 : decode yB 15 = .ok (.aload_n 0, 1) := by decide +kernel
theorem d16 : decode yB 16 = .ok (.iload_n 2, 1) := by decide +kernel
theorem d17 : decode yB 17 = .ok (.baload, 1) := by decide +kernel
theorem d18 : decode yB 18 = .ok (.aload_n 1, 1) := by decide +kernel
theorem d19 : decode yB 19 = .ok (.iload_n 2, 1) := by decide +kernel
theorem d20 : decode yB 20 = .ok (.baload, 1) := by decide +kernel
theorem d21 : decode yB 21 = .ok (.if_icmp (.eq) 5, 3) := by decide +kernel
theorem d24 : decode yB 24 = .ok (.iconst 0, 1) := by decide +kernel
theorem d25 : decode yB 25 = .ok (.ireturn, 1) := by decide +kernel
theorem d26 : decode yB 26 = .ok (.iinc 2 1, 3) := by decide +kernel
theorem d29 : decode yB 29 = .ok (.goto (-20), 3) := by decide +kernel
theorem d32 : decode yB 32 = .ok (.iconst 1, 1) := by decide +kernel
theorem d33 : decode yB 33 = .ok (.ireturn, 1) := by decide +kernel
theorem d34 : decode yB 34 = .ok (.iconst 0, 1) := by decide +kernel
theorem d35 : decode yB 35 = .ok (.ireturn, 1) := by decide +kernel
def site : List Cond := []
def tab : Cond := tabOf yN yB 3 (some .boolean) site
def P (a : Addr) (A : Cell) (b : Addr) (B : Cell) (args : Array Value) (s : State) : Prop := args = #[.ref a, .ref b] ∧ XT.Arr .byte a A s ∧ Typed .byte A ∧ XT.Arr .byte b B s ∧ Typed .byte B
/-- whether two byte[] are equal, place for place -/
theorem law (l : Launch) (a : Addr) (A : Cell) (b : Addr) (B : Cell) : Law l yN 2 2 0 0 yB 3 (some .boolean) site (P a A b B) (Says01 (EqC A B)) [] 0 0 := by
  refine Law.of_walk (plainFor_of_name (by decide +kernel)) (by decide +kernel) (by decide +kernel) (by decide) (fun _ _ h => by rw [h.1]; rfl) (fun _ U U' hal hh h => ⟨h.1, h.2.1.mv hal hh, h.2.2.1, h.2.2.2.1.mv hal hh, h.2.2.2.2⟩) (fun r U U' V V' h1 hal h2 h => Says01.mv r U U' V V' h1 hal h2 h) ?_
  intro p e s m args below meth c s₁ X0 hexec hbytes hml hret hlk hnm hown hh0 W hP
  obtain ⟨rfl, hA, tA, hB, tB⟩ := hP
  have a31 := hA.2.2.2
  have b31 := hB.2.2.2
  have hA0 := hA.mv X0.warmed.alike hh0
  have hB0 := hB.mv X0.warmed.alike hh0
  have c1 : Steps p.tables e below (s₁.setTop (entryFrame m #[.ref a, .ref b] 3)) (s₁.setTop (mkF m 0 #[.val (.ref a), .val (.ref b), .unset] [])) := entry rfl
  have c2 : Steps p.tables e below (s₁.setTop (entryFrame m #[.ref a, .ref b] 3)) (s₁.setTop (mkF m 4 #[.val (.ref a), .val (.ref b), .unset] [.int (Int32.ofNat B.slots.size), .int (Int32.ofNat A.slots.size)])) := c1.trans (by
    refine XS.aloadN X0.here hexec rfl (hb hbytes d0) rfl rfl ?_
    refine X0.alen hexec hA0 rfl rfl (hb hbytes d1) ?_
    refine XS.aloadN X0.here hexec rfl (hb hbytes d2) rfl rfl ?_
    refine X0.alen hexec hB0 rfl rfl (hb hbytes d3) ?_
    exact Steps.refl _)
  by_cases hs : A.slots.size = B.slots.size
  · have c3 : Steps p.tables e below (s₁.setTop (entryFrame m #[.ref a, .ref b] 3)) (s₁.setTop (mkF m 9 #[.val (.ref a), .val (.ref b), .val (.int 0)] [])) := c2.trans (by
      refine XS.icmpNo X0.here hexec rfl (hb hbytes d4) rfl (ii_ne_f (by rw [hs])) ?_
      refine iconstV X0.here hexec rfl 0 (hb hbytes d7) (by decide) ?_
      refine XS.istoreN X0.here hexec rfl (hb hbytes d8) rfl rfl ?_
      exact Steps.refl _)
    have loop : ∀ (r i : Nat), i + r = A.slots.size → (∀ j, j < i → yv A j = yv B j) → Steps p.tables e below (s₁.setTop (entryFrame m #[.ref a, .ref b] 3)) (s₁.setTop (mkF m 9 #[.val (.ref a), .val (.ref b), .val (.int (Int32.ofNat i))] [])) → ∃ (pc : Nat) (Ls : Array Slot) (v : Int32), (pc = 25 ∨ pc = 33) ∧ ((v = 1 ∧ EqC A B) ∨ (v = 0 ∧ ¬ EqC A B)) ∧ Steps p.tables e below (s₁.setTop (entryFrame m #[.ref a, .ref b] 3)) (s₁.setTop (mkF m pc Ls [.int v])) := by
      intro r
      induction r with
      | zero =>
        intro i hi he cl
        exact ⟨33, _, 1, Or.inr rfl, Or.inl ⟨rfl, hs, fun j hj => he j (by omega)⟩, cl.trans (by
          refine XS.iloadN X0.here hexec rfl (hb hbytes d9) rfl ?_
          refine XS.aloadN X0.here hexec rfl (hb hbytes d10) rfl rfl ?_
          refine X0.alen hexec hA0 rfl rfl (hb hbytes d11) ?_
          refine XS.icmpYes X0.here hexec rfl (pc0 := 12) rfl (hb hbytes d12) rfl (ii_ge_t (nlt32 (by omega) (by omega))) (by decide) rfl ?_
          refine iconstV X0.here hexec rfl 1 (hb hbytes d32) (by decide) ?_
          exact Steps.refl _)⟩
      | succ r ih =>
        intro i hi he cl
        have c4 : Steps p.tables e below (s₁.setTop (entryFrame m #[.ref a, .ref b] 3)) (s₁.setTop (mkF m 21 #[.val (.ref a), .val (.ref b), .val (.int (Int32.ofNat i))] [.int (yv B i), .int (yv A i)])) := cl.trans (by
          refine XS.iloadN X0.here hexec rfl (hb hbytes d9) rfl ?_
          refine XS.aloadN X0.here hexec rfl (hb hbytes d10) rfl rfl ?_
          refine X0.alen hexec hA0 rfl rfl (hb hbytes d11) ?_
          refine XS.icmpNo X0.here hexec rfl (hb hbytes d12) rfl (ii_ge_f (lt32 (by omega) (by omega))) ?_
          refine XS.aloadN X0.here hexec rfl (hb hbytes d15) rfl rfl ?_
          refine XS.iloadN X0.here hexec rfl (hb hbytes d16) rfl ?_
          refine X0.aget hexec hA0 rfl (yv_get hA tA (i := i) (by omega)) rfl rfl (hb hbytes d17) ?_
          refine XS.aloadN X0.here hexec rfl (hb hbytes d18) rfl rfl ?_
          refine XS.iloadN X0.here hexec rfl (hb hbytes d19) rfl ?_
          refine X0.aget hexec hB0 rfl (yv_get hB tB (i := i) (by omega)) rfl rfl (hb hbytes d20) ?_
          exact Steps.refl _)
        by_cases hv : yv A i = yv B i
        · have c5 : Steps p.tables e below (s₁.setTop (entryFrame m #[.ref a, .ref b] 3)) (s₁.setTop (mkF m 9 #[.val (.ref a), .val (.ref b), .val (.int (Int32.ofNat i + 1))] [])) := c4.trans (by
            refine XS.icmpYes X0.here hexec rfl (pc0 := 21) rfl (hb hbytes d21) rfl (ii_eq_t hv) (by decide) rfl ?_
            refine iincV X0.here hexec rfl 1 (hb hbytes d26) (by decide) rfl rfl ?_
            refine XS.goto X0.here hexec rfl (pc0 := 29) rfl (hb hbytes d29) (by decide) rfl ?_
            exact Steps.refl _)
          rw [succ32] at c5
          exact ih (i + 1) (by omega) (fun j hj => by
            by_cases e : j = i
            · rw [e]; exact hv
            · exact he j (by omega)) c5
        · exact ⟨25, _, 0, Or.inl rfl, Or.inr ⟨rfl, fun q => hv (q.2 i (by omega))⟩, c4.trans (by
            refine XS.icmpNo X0.here hexec rfl (hb hbytes d21) rfl (ii_eq_f hv) ?_
            refine iconstV X0.here hexec rfl 0 (hb hbytes d24) (by decide) ?_
            exact Steps.refl _)⟩
    obtain ⟨pc, Ls, v, hpc, hv, cz⟩ := loop A.slots.size 0 (by omega) (fun j hj => absurd hj (Nat.not_lt_zero j)) c3
    have nv : narrow .boolean (.int v) = .int v := by rcases hv with ⟨rfl, -⟩ | ⟨rfl, -⟩ <;> rfl
    rcases hpc with rfl | rfl
    · exact ⟨s₁, some (.int v), _, _, _, X0, rfl, rfl, rfl, (fun h => by cases h), ⟨v, rfl, hh0, hv⟩, fun fs hl => cz.trans (X0.ireturnOut hexec hret nv (Or.inr (Or.inl rfl)) (hb hbytes d25) hl)⟩
    · exact ⟨s₁, some (.int v), _, _, _, X0, rfl, rfl, rfl, (fun h => by cases h), ⟨v, rfl, hh0, hv⟩, fun fs hl => cz.trans (X0.ireturnOut hexec hret nv (Or.inr (Or.inl rfl)) (hb hbytes d33) hl)⟩
  · have c3 : Steps p.tables e below (s₁.setTop (entryFrame m #[.ref a, .ref b] 3)) (s₁.setTop (mkF m 35 #[.val (.ref a), .val (.ref b), .unset] [.int 0])) := c2.trans (by
      refine XS.icmpYes X0.here hexec rfl (pc0 := 4) rfl (hb hbytes d4) rfl (ii_ne_t (ne32 a31 b31 hs)) (by decide) rfl ?_
      refine iconstV X0.here hexec rfl 0 (hb hbytes d34) (by decide) ?_
      exact Steps.refl _)
    exact ⟨s₁, some (.int 0), _, _, _, X0, rfl, rfl, rfl, (fun h => by cases h), ⟨0, rfl, hh0, Or.inr ⟨rfl, fun q => hs q.1⟩⟩, fun fs hl => c3.trans (X0.ireturnOut hexec hret rfl (Or.inr (Or.inl rfl)) (hb hbytes d35) hl)⟩
end LEq
theorem Cod.ty {cd : Int32} {n : Nat} {f : Nat → Int32} {V : Cell} (h : Cod cd n f V) : Typed .byte V := fun i v hv => by
  have hi : i < V.slots.size := (Array.getElem?_eq_some_iff.mp hv).1
  rcases h with ⟨-, k1, k2⟩ | ⟨-, k1, k2, -⟩
  · rw [(k2 i (by omega)).1] at hv; cases hv; exact fits_lo8 _
  · rcases Nat.mod_two_eq_zero_or_one i with e | e
    · obtain ⟨j, rfl⟩ : ∃ j, i = 2 * j := ⟨i / 2, by omega⟩
      rw [(k2 j (by omega)).1] at hv; cases hv; exact fits_lo8 _
    · obtain ⟨j, rfl⟩ : ∃ j, i = 2 * j + 1 := ⟨i / 2, by omega⟩
      rw [(k2 j (by omega)).2] at hv; cases hv; exact fits_lo8 _
/-- the same text -/
def SameT (n : Nat) (f : Nat → Int32) (k : Nat) (g : Nat → Int32) : Prop := n = k ∧ ∀ j, j < n → f j = g j
theorem lo8_inj {x y : Int32} (h0 : ¬ x < 0) (h1 : ¬ 255 < x) (k0 : ¬ y < 0) (k1 : ¬ 255 < y) (h : lo8 x = lo8 y) : x = y := by
  rw [← lo8_mask h0 h1, ← lo8_mask k0 k1, h]
/-- arrays coded by one coder are equal just where the texts are -/
theorem Cod.eqv {cd : Int32} {n k : Nat} {f g : Nat → Int32} {V V' : Cell} (h : Cod cd n f V) (h' : Cod cd k g V') (hf : ∀ j, j < n → ¬ f j < 0 ∧ ¬ 65535 < f j) (hg : ∀ j, j < k → ¬ g j < 0 ∧ ¬ 65535 < g j) : EqC V V' ↔ SameT n f k g := by
  have yvv : ∀ {W : Cell} {i : Nat} {x : Int32}, W.slots[i]? = some (.int x) → yv W i = x := fun q => by unfold yv; rw [q]
  rcases h with ⟨rfl, k1, k2⟩ | ⟨rfl, k1, k2, -⟩
  · rcases h' with ⟨-, m1, m2⟩ | ⟨e, -⟩
    · constructor
      · rintro ⟨e1, e2⟩
        refine ⟨by omega, fun j hj => ?_⟩
        have q := e2 j (by omega)
        rw [yvv (k2 j hj).1, yvv (m2 j (by omega)).1] at q
        exact lo8_inj (hf j hj).1 (k2 j hj).2 (hg j (by omega)).1 (m2 j (by omega)).2 q
      · rintro ⟨rfl, e2⟩
        refine ⟨by omega, fun j hj => ?_⟩
        rw [yvv (k2 j (by omega)).1, yvv (m2 j (by omega)).1, e2 j (by omega)]
    · exact absurd e (by decide)
  · rcases h' with ⟨e, -⟩ | ⟨-, m1, m2, -⟩
    · exact absurd e (by decide)
    · constructor
      · rintro ⟨e1, e2⟩
        refine ⟨by omega, fun j hj => ?_⟩
        have q1 := e2 (2 * j) (by omega)
        have q2 := e2 (2 * j + 1) (by omega)
        rw [yvv (k2 j hj).1, yvv (m2 j (by omega)).1] at q1
        rw [yvv (k2 j hj).2, yvv (m2 j (by omega)).2] at q2
        rw [← pair_says (hf j hj).1 (hf j hj).2, ← pair_says (hg j (by omega)).1 (hg j (by omega)).2, q1, q2]
      · rintro ⟨rfl, e2⟩
        refine ⟨by omega, fun i hi => ?_⟩
        rcases Nat.mod_two_eq_zero_or_one i with e | e
        · obtain ⟨j, rfl⟩ : ∃ j, i = 2 * j := ⟨i / 2, by omega⟩
          rw [yvv (k2 j (by omega)).1, yvv (m2 j (by omega)).1, e2 j (by omega)]
        · obtain ⟨j, rfl⟩ : ∃ j, i = 2 * j + 1 := ⟨i / 2, by omega⟩
          rw [yvv (k2 j (by omega)).2, yvv (m2 j (by omega)).2, e2 j (by omega)]
/-- two codings differ: so do the texts -/
theorem Cod.dif {cd cd' : Int32} {n k : Nat} {f g : Nat → Int32} {V V' : Cell} (h : Cod cd n f V) (h' : Cod cd' k g V') (hne : ¬ cd = cd') : ¬ SameT n f k g := by
  rintro ⟨rfl, e⟩
  rcases h with ⟨rfl, -, k2⟩ | ⟨rfl, -, -, j, hj, hw⟩
  · rcases h' with ⟨rfl, -⟩ | ⟨-, -, -, j, hj, hw⟩
    · exact hne rfl
    · exact (k2 j hj).2 (by rw [e j hj]; exact hw)
  · rcases h' with ⟨-, -, m2⟩ | ⟨rfl, -⟩
    · exact (m2 j hj).2 (by rw [← e j hj]; exact hw)
    · exact hne rfl
/-- an object of exactly C is an instance of C -/
theorem cinst {p : Program} {l : Launch} {e : Env} {R : Room} {s : State} {m : MethodId} {args : Array Value} {below : List Frame} {meth : Method} {c : Code} {T : State} {locs : List Loc} {cells slots : Nat} (X : Stand p l e R s m args below meth c T locs cells slots) (hexec : p.tables.exec = Jvm.exec) {own C : String} {index : Nat} (hown : s.vm.findClass own = some m.cls) (hlink : (Cond.classLink own index C).before args s = true) {a : Addr} (hE : Exact C a T)
    {g : JFrame} (hg : g.method = m) {rest : List Value} (hstack : g.stack = .ref a :: rest) (hdg : decode c.code g.pc = .ok (.instanceof index, 3)) :
    ∃ T', Stand p l e R s m args below meth c T' locs cells slots ∧ T'.heap = T.heap ∧ ∀ target, Steps p.tables e below (T'.setTop { g with pc := g.pc + 3, stack := .int 1 :: rest }) target → Steps p.tables e below (T.setTop g) target := by
  obtain ⟨cB, h1, D, h2, h3, h4⟩ := hE
  have h1' : s.vm.findClass C = some cB := by rw [← X.warmed.alike.findClass]; exact h1
  obtain ⟨vm', X', st⟩ := X.instanceofYes hexec hown hlink h2 h4 h1' (by rw [h3]; exact Jvm.Free.SB.assignable_self _ _) hg hstack hdg
  exact ⟨_, X', rfl, st⟩
theorem cself {p : Program} {l : Launch} {e : Env} {R : Room} {s : State} {m : MethodId} {args : Array Value} {below : List Frame} {meth : Method} {c : Code} {T : State} {locs : List Loc} {cells slots : Nat} (X : Stand p l e R s m args below meth c T locs cells slots) (hexec : p.tables.exec = Jvm.exec) {own C : String} {index : Nat} (hown : s.vm.findClass own = some m.cls) (hlink : (Cond.classLink own index C).before args s = true) {a : Addr} (hE : Exact C a T)
    {g : JFrame} (hg : g.method = m) {rest : List Value} (hstack : g.stack = .ref a :: rest) (hdg : decode c.code g.pc = .ok (.checkcast index, 3)) :
    ∃ T', Stand p l e R s m args below meth c T' locs cells slots ∧ T'.heap = T.heap ∧ ∀ target, Steps p.tables e below (T'.setTop { g with pc := g.pc + 3, stack := .ref a :: rest }) target → Steps p.tables e below (T.setTop g) target := by
  obtain ⟨cB, h1, D, h2, h3, h4⟩ := hE
  have h1' : s.vm.findClass C = some cB := by rw [← X.warmed.alike.findClass]; exact h1
  obtain ⟨vm', X', st⟩ := X.checkcastYes hexec hown hlink h2 h4 h1' (by rw [h3]; exact Jvm.Free.SB.assignable_self _ _) hg hstack hdg
  exact ⟨_, X', rfl, fun t h => st t (by rw [← hstack] at h; exact h)⟩
namespace SEq
def yN : MethodName := ⟨"java/lang/String", "equals", "(Ljava/lang/Object;)Z"⟩
abbrev yB : ByteArray := jdk_42_method_66_code
theorem d0 : decode yB 0 = .ok (.aload_n 0, 1) := by decide +kernel
theorem d1 : decode yB 1 = .ok (.aload_n 1, 1) := by decide +kernel
theorem d2 : decode yB 2 = .ok (.if_acmp (.ne) 5, 3) := by decide +kernel
theorem d5 : decode yB 5 = .ok (.iconst 1, 1) := by decide +kernel
theorem d6 : decode yB 6 = .ok (.ireturn, 1) := by decide +kernel
theorem d7 : decode yB 7 = .ok (.aload_n 1, 1) := by decide +kernel
theorem d8 : decode yB 8 = .ok (.instanceof 10, 3) := by decide +kernel
theorem d11 : decode yB 11 = .ok (.ifCond (.eq) 43, 3) := by decide +kernel
theorem d14 : decode yB 14 = .ok (.aload_n 1, 1) := by decide +kernel
theorem d15 : decode yB 15 = .ok (.checkcast 10, 3) := by decide +kernel
theorem d18 : decode yB 18 = .ok (.astore_n 2, 1) := by decide +kernel
theorem d19 : decode yB 19 = .ok (.getstatic 38, 3) := by decide +kernel
theorem d22 : decode yB 22 = .ok (.ifCond (.eq) 14, 3) := by decide +kernel
theorem d25 : decode yB 25 = .ok (.aload_n 0, 1) := by decide +kernel
theorem d26 : decode yB 26 = .ok (.getfield 15, 3) := by decide +kernel
theorem d29 : decode yB 29 = .ok (.aload_n 2, 1) := by decide +kernel
theorem d30 : decode yB 30 = .ok (.getfield 15, 3) := by decide +kernel
theorem d33 : decode yB 33 = .ok (.if_icmp (.ne) 21, 3) := by decide +kernel
theorem d36 : decode yB 36 = .ok (.aload_n 0, 1) := by decide +kernel
theorem d37 : decode yB 37 = .ok (.getfield 9, 3) := by decide +kernel
theorem d40 : decode yB 40 = .ok (.aload_n 2, 1) := by decide +kernel
theorem d41 : decode yB 41 = .ok (.getfield 9, 3) := by decide +kernel
theorem d44 : decode yB 44 = .ok (.invokestatic 541, 3) := by decide +kernel
theorem d47 : decode yB 47 = .ok (.ifCond (.eq) 7, 3) := by decide +kernel
theorem d50 : decode yB 50 = .ok (.iconst 1, 1) := by decide +kernel
theorem d51 : decode yB 51 = .ok (.goto 4, 3) := by decide +kernel
theorem d54 : decode yB 54 = .ok (.iconst 0, 1) := by decide +kernel
theorem d55 : decode yB 55 = .ok (.ireturn, 1) := by decide +kernel
def site : List Cond := [.classLink "java/lang/String" 10 "java/lang/String", .fieldLink "java/lang/String" 38 "java/lang/String" "COMPACT_STRINGS" "Z", .fieldLink "java/lang/String" 15 "java/lang/String" "coder" "B", .fieldLink "java/lang/String" 9 "java/lang/String" "value" "[B", LEq.tab] ++ staticW "java/lang/String" 541 LEq.yN
def tab : Cond := tabOf yN yB 3 (some .boolean) site
def P (x t : Addr) (V : Cell) (cd : Int32) (n : Nat) (f : Nat → Int32) (y t' : Addr) (V' : Cell) (cd' : Int32) (k : Nat) (g : Nat → Int32) (z : Int32) (args : Array Value) (s : State) : Prop := args = #[.ref x, .ref y] ∧ Txt x t V cd n f s ∧ Txt y t' V' cd' k g s ∧ StaticIs s "java/lang/String" "COMPACT_STRINGS" "Z" (.int z) ∧ ¬ z = 0
/-- equals(Object) of two Strings: whether the texts are the same -/
theorem law (l : Launch) (x t : Addr) (V : Cell) (cd : Int32) (n : Nat) (f : Nat → Int32) (y t' : Addr) (V' : Cell) (cd' : Int32) (k : Nat) (g : Nat → Int32) (z : Int32) : Law l yN 2 1 1 14 yB 3 (some .boolean) site (P x t V cd n f y t' V' cd' k g z) (Says01 (SameT n f k g)) [] 0 0 := by
  refine Law.of_walk (plainFor_of_name (by decide +kernel)) (by decide +kernel) (by decide +kernel) (by decide) (fun _ _ h => by rw [h.1]; rfl) (fun _ U U' hal hh h => ⟨h.1, h.2.1.mv hal hh, h.2.2.1.mv hal hh, h.2.2.2.1.there hal hh, h.2.2.2.2⟩) (fun r U U' V V' h1 hal h2 h => Says01.mv r U U' V V' h1 hal h2 h) ?_
  intro p e s m args below meth c s₁ X0 hexec hbytes hml hret hlk hnm hown hh0 W hP
  obtain ⟨rfl, hx, hy, s1, hz⟩ := hP
  have c1 : Steps p.tables e below (s₁.setTop (entryFrame m #[.ref x, .ref y] 3)) (s₁.setTop (mkF m 2 #[.val (.ref x), .val (.ref y), .unset] [.ref y, .ref x])) := Steps.trans (entry rfl) (by
    show Steps p.tables e below (s₁.setTop (mkF m 0 #[.val (.ref x), .val (.ref y), .unset] [])) _
    refine XS.aloadN X0.here hexec rfl (hb hbytes d0) rfl rfl ?_
    refine XS.aloadN X0.here hexec rfl (hb hbytes d1) rfl rfl ?_
    exact Steps.refl _)
  by_cases hxy : x = y
  · have c2 : Steps p.tables e below (s₁.setTop (entryFrame m #[.ref x, .ref y] 3)) (s₁.setTop (mkF m 6 #[.val (.ref x), .val (.ref y), .unset] [.int 1])) := c1.trans (by
      refine acmpNo X0.here hexec rfl (hb hbytes d2) rfl rfl rfl (by simp [acmp, hxy]) ?_
      refine iconstV X0.here hexec rfl 1 (hb hbytes d5) (by decide) ?_
      exact Steps.refl _)
    subst hxy
    have ec : cd = cd' := by
      obtain ⟨D, fd, a1, a2, a3⟩ := hx.2.2.1
      obtain ⟨D', fd', b1, b2, b3⟩ := hy.2.2.1
      cases a1.symm.trans b1
      obtain ⟨q1, q2, q3, q4⟩ := a2.1
      obtain ⟨r1, r2, r3, r4⟩ := b2.1
      cases q4.symm.trans r4
      cases a3.symm.trans b3; rfl
    have et : t = t' := by
      obtain ⟨D, fd, a1, a2, a3⟩ := hx.2.1
      obtain ⟨D', fd', b1, b2, b3⟩ := hy.2.1
      cases a1.symm.trans b1
      obtain ⟨q1, q2, q3, q4⟩ := a2.1
      obtain ⟨r1, r2, r3, r4⟩ := b2.1
      cases q4.symm.trans r4
      cases a3.symm.trans b3; rfl
    subst ec et
    have ev : V = V' := by cases hx.2.2.2.1.1.symm.trans hy.2.2.2.1.1; rfl
    subst ev
    have hs : SameT n f k g := (Cod.eqv hx.2.2.2.2.1 hy.2.2.2.2.1 hx.2.2.2.2.2 hy.2.2.2.2.2).mp ⟨rfl, fun _ _ => rfl⟩
    exact ⟨s₁, some (.int 1), _, _, _, X0, rfl, rfl, rfl, (fun h => by cases h), ⟨1, rfl, hh0, Or.inl ⟨rfl, hs⟩⟩, fun fs hl => c2.trans (X0.ireturnOut hexec hret rfl (Or.inr (Or.inl rfl)) (hb hbytes d6) hl)⟩
  · have c2 : Steps p.tables e below (s₁.setTop (entryFrame m #[.ref x, .ref y] 3)) (s₁.setTop (mkF m 8 #[.val (.ref x), .val (.ref y), .unset] [.ref y])) := c1.trans (by
      refine acmpYes X0.here hexec rfl (pc0 := 2) rfl (hb hbytes d2) rfl rfl rfl (by simp [acmp, hxy]) (by decide) rfl ?_
      refine XS.aloadN X0.here hexec rfl (hb hbytes d7) rfl rfl ?_
      exact Steps.refl _)
    obtain ⟨T3, X3, q3, st3⟩ := cinst X0 hexec hown (wk W (.classLink "java/lang/String" 10 "java/lang/String")) (hy.mv X0.warmed.alike hh0).1 (g := (mkF m 8 #[.val (.ref x), .val (.ref y), .unset] [.ref y])) rfl (rest := []) rfl (hb hbytes d8)
    have hh3 := q3.trans hh0
    have c4 : Steps p.tables e below (s₁.setTop (entryFrame m #[.ref x, .ref y] 3)) (T3.setTop (mkF m 15 #[.val (.ref x), .val (.ref y), .unset] [.ref y])) := (c2.trans (st3 _ (Steps.refl _))).trans (by
      refine XS.ifNo X3.here hexec rfl (hb hbytes d11) rfl (i0_eq_f (by decide)) ?_
      refine XS.aloadN X3.here hexec rfl (hb hbytes d14) rfl rfl ?_
      exact Steps.refl _)
    obtain ⟨T5, X5, q5, st5⟩ := cself X3 hexec hown (wk W (.classLink "java/lang/String" 10 "java/lang/String")) (hy.mv X3.warmed.alike hh3).1 (g := (mkF m 15 #[.val (.ref x), .val (.ref y), .unset] [.ref y])) rfl (rest := []) rfl (hb hbytes d15)
    have hh5 := q5.trans hh3
    have c6 : Steps p.tables e below (s₁.setTop (entryFrame m #[.ref x, .ref y] 3)) (T5.setTop (mkF m 19 #[.val (.ref x), .val (.ref y), .val (.ref y)] [])) := (c4.trans (st5 _ (Steps.refl _))).trans (by
      refine XS.astoreN X5.here hexec rfl (hb hbytes d18) rfl rfl rfl ?_
      exact Steps.refl _)
    obtain ⟨T7, X7, q7, st7⟩ := X5.sget hexec hown (wk W (.fieldLink "java/lang/String" 38 "java/lang/String" "COMPACT_STRINGS" "Z")) s1 (fun _ _ h => by rw [hh5]; exact h) (g := (mkF m 19 #[.val (.ref x), .val (.ref y), .val (.ref y)] [])) rfl (hb hbytes d19)
    have hh7 := q7.trans hh5
    have c8 : Steps p.tables e below (s₁.setTop (entryFrame m #[.ref x, .ref y] 3)) (T7.setTop (mkF m 26 #[.val (.ref x), .val (.ref y), .val (.ref y)] [.ref x])) := (c6.trans (st7 _ (Steps.refl _))).trans (by
      refine XS.ifNo X7.here hexec rfl (hb hbytes d22) rfl (i0_eq_f hz) ?_
      refine XS.aloadN X7.here hexec rfl (hb hbytes d25) rfl rfl ?_
      exact Steps.refl _)
    obtain ⟨T9, X9, q9, st9⟩ := X7.hget hexec hown (wk W (.fieldLink "java/lang/String" 15 "java/lang/String" "coder" "B")) (hx.mv X7.warmed.alike hh7).2.2.1 (g := (mkF m 26 #[.val (.ref x), .val (.ref y), .val (.ref y)] [.ref x])) rfl (rest := []) rfl (hb hbytes d26)
    have hh9 := q9.trans hh7
    have c10 : Steps p.tables e below (s₁.setTop (entryFrame m #[.ref x, .ref y] 3)) (T9.setTop (mkF m 30 #[.val (.ref x), .val (.ref y), .val (.ref y)] [.ref y, .int cd])) := (c8.trans (st9 _ (Steps.refl _))).trans (by
      refine XS.aloadN X9.here hexec rfl (hb hbytes d29) rfl rfl ?_
      exact Steps.refl _)
    obtain ⟨T11, X11, q11, st11⟩ := X9.hget hexec hown (wk W (.fieldLink "java/lang/String" 15 "java/lang/String" "coder" "B")) (hy.mv X9.warmed.alike hh9).2.2.1 (g := (mkF m 30 #[.val (.ref x), .val (.ref y), .val (.ref y)] [.ref y, .int cd])) rfl (rest := [.int cd]) rfl (hb hbytes d30)
    have hh11 := q11.trans hh9
    have c12 : Steps p.tables e below (s₁.setTop (entryFrame m #[.ref x, .ref y] 3)) (T11.setTop (mkF m 33 #[.val (.ref x), .val (.ref y), .val (.ref y)] [.int cd', .int cd])) := c10.trans (st11 _ (Steps.refl _))
    by_cases hcd : cd = cd'
    · subst hcd
      have c13 : Steps p.tables e below (s₁.setTop (entryFrame m #[.ref x, .ref y] 3)) (T11.setTop (mkF m 37 #[.val (.ref x), .val (.ref y), .val (.ref y)] [.ref x])) := c12.trans (by
        refine XS.icmpNo X11.here hexec rfl (hb hbytes d33) rfl (ii_ne_f rfl) ?_
        refine XS.aloadN X11.here hexec rfl (hb hbytes d36) rfl rfl ?_
        exact Steps.refl _)
      obtain ⟨T14, X14, q14, st14⟩ := X11.hget hexec hown (wk W (.fieldLink "java/lang/String" 9 "java/lang/String" "value" "[B")) (hx.mv X11.warmed.alike hh11).2.1 (g := (mkF m 37 #[.val (.ref x), .val (.ref y), .val (.ref y)] [.ref x])) rfl (rest := []) rfl (hb hbytes d37)
      have hh14 := q14.trans hh11
      have c15 : Steps p.tables e below (s₁.setTop (entryFrame m #[.ref x, .ref y] 3)) (T14.setTop (mkF m 41 #[.val (.ref x), .val (.ref y), .val (.ref y)] [.ref y, .ref t])) := (c13.trans (st14 _ (Steps.refl _))).trans (by
        refine XS.aloadN X14.here hexec rfl (hb hbytes d40) rfl rfl ?_
        exact Steps.refl _)
      obtain ⟨T16, X16, q16, st16⟩ := X14.hget hexec hown (wk W (.fieldLink "java/lang/String" 9 "java/lang/String" "value" "[B")) (hy.mv X14.warmed.alike hh14).2.1 (g := (mkF m 41 #[.val (.ref x), .val (.ref y), .val (.ref y)] [.ref y, .ref t])) rfl (rest := [.ref t]) rfl (hb hbytes d41)
      have hh16 := q16.trans hh14
      have c17 : Steps p.tables e below (s₁.setTop (entryFrame m #[.ref x, .ref y] 3)) (T16.setTop (mkF m 44 #[.val (.ref x), .val (.ref y), .val (.ref y)] [.ref t', .ref t])) := c15.trans (st16 _ (Steps.refl _))
      obtain ⟨v18, T18, X18, E18, g18⟩ := X16.callS hexec (LEq.law l t V t' V') hown (wks W (staticW "java/lang/String" 541 LEq.yN)) (wk W LEq.tab) (W := 0) (Nat.le_of_ble_eq_true rfl) (Nat.le_of_ble_eq_true rfl) (Nat.le_refl _) (Nat.le_refl _) (g := (mkF m 44 #[.val (.ref x), .val (.ref y), .val (.ref y)] [.ref t', .ref t])) rfl (by rw [hml]; rfl) c17 (argsL := [.ref t, .ref t']) (rest := []) rfl rfl (by show 2 * 0 + 0 ≤ _; decide) (hb hbytes d44) (⟨rfl, hx.2.2.2.1.mv X16.warmed.alike hh16, hx.2.2.2.2.1.ty, hy.2.2.2.1.mv X16.warmed.alike hh16, hy.2.2.2.2.1.ty⟩)
      obtain ⟨v, rfl, q18, hv⟩ := E18
      have iff := Cod.eqv hx.2.2.2.2.1 hy.2.2.2.2.1 hx.2.2.2.2.2 hy.2.2.2.2.2
      rcases hv with ⟨rfl, he⟩ | ⟨rfl, he⟩
      · have c19 : Steps p.tables e below (s₁.setTop (entryFrame m #[.ref x, .ref y] 3)) (T18.setTop (mkF m 55 #[.val (.ref x), .val (.ref y), .val (.ref y)] [.int 1])) := Steps.trans g18 (by
          refine XS.ifNo X18.here hexec rfl (hb hbytes d47) rfl (i0_eq_f (by decide)) ?_
          refine iconstV X18.here hexec rfl 1 (hb hbytes d50) (by decide) ?_
          refine XS.goto X18.here hexec rfl (pc0 := 51) rfl (hb hbytes d51) (by decide) rfl ?_
          exact Steps.refl _)
        exact ⟨T18, some (.int 1), _, _, _, X18, rfl, rfl, rfl, (fun h => by cases h), ⟨1, rfl, q18.trans hh16, Or.inl ⟨rfl, iff.mp he⟩⟩, fun fs hl => c19.trans (X18.ireturnOut hexec hret rfl (Or.inr (Or.inl rfl)) (hb hbytes d55) hl)⟩
      · have c19 : Steps p.tables e below (s₁.setTop (entryFrame m #[.ref x, .ref y] 3)) (T18.setTop (mkF m 55 #[.val (.ref x), .val (.ref y), .val (.ref y)] [.int 0])) := Steps.trans g18 (by
          refine XS.ifYes X18.here hexec rfl (pc0 := 47) rfl (hb hbytes d47) rfl (i0_eq_t rfl) (by decide) rfl ?_
          refine iconstV X18.here hexec rfl 0 (hb hbytes d54) (by decide) ?_
          exact Steps.refl _)
        exact ⟨T18, some (.int 0), _, _, _, X18, rfl, rfl, rfl, (fun h => by cases h), ⟨0, rfl, q18.trans hh16, Or.inr ⟨rfl, fun q => he (iff.mpr q)⟩⟩, fun fs hl => c19.trans (X18.ireturnOut hexec hret rfl (Or.inr (Or.inl rfl)) (hb hbytes d55) hl)⟩
    · have c13 : Steps p.tables e below (s₁.setTop (entryFrame m #[.ref x, .ref y] 3)) (T11.setTop (mkF m 55 #[.val (.ref x), .val (.ref y), .val (.ref y)] [.int 0])) := c12.trans (by
        refine XS.icmpYes X11.here hexec rfl (pc0 := 33) rfl (hb hbytes d33) rfl (ii_ne_t hcd) (by decide) rfl ?_
        refine iconstV X11.here hexec rfl 0 (hb hbytes d54) (by decide) ?_
        exact Steps.refl _)
      exact ⟨T11, some (.int 0), _, _, _, X11, rfl, rfl, rfl, (fun h => by cases h), ⟨0, rfl, hh11, Or.inr ⟨rfl, Cod.dif hx.2.2.2.2.1 hy.2.2.2.2.1 hcd⟩⟩, fun fs hl => c13.trans (X11.ireturnOut hexec hret rfl (Or.inr (Or.inl rfl)) (hb hbytes d55) hl)⟩
theorem pays {l : Launch} {R : Room} {p : Program} {e : Env} {below : List Frame} {s : State} {sargs : Array Value} {len W : Nat} (x t : Addr) (V : Cell) (cd : Int32) (n : Nat) (f : Nat → Int32) (y t' : Addr) (V' : Cell) (cd' : Int32) (k : Nat) (g : Nat → Int32) (z : Int32) (htab : tab.before sargs s = true) (hfr : 2 ≤ R.frames) (hlo : W + 28 ≤ R.locals) :
    Back l R p e below s sargs yN len W (fun A₁ a₁ => A₁.cells + 0 ≤ R.cells ∧ A₁.slots + 0 ≤ R.slots ∧ P x t V cd n f y t' V' cd' k g z a₁ A₁.U) (fun A₁ _ v₁ B₁ => Says01 (SameT n f k g) v₁ A₁.U B₁.U ∧ B₁.locs = A₁.locs ++ [] ∧ B₁.cells = A₁.cells + 0 ∧ B₁.slots = A₁.slots + 0) :=
  (law l x t V cd n f y t' V' cd' k g z).pays htab hfr (by omega)
end SEq
end StrChars
namespace StrChars.Road
open Jvm Sem ClassFile Op Lib Jvm.Stand Jvm.Free Jvm.Free.XT
open Jvm.Lib.Cold (StaticIs)
/-- the words of String.equals(Object) -/
abbrev wordsEq : List Jvm.Cond := [.code SEq.yN SEq.yB 3 (some .boolean), .initialized ST, .classLink ST 10 ST, .fieldLink ST 38 ST "COMPACT_STRINGS" "Z", .fieldLink ST 15 ST "coder" "B", .fieldLink ST 9 ST "value" "[B", .methodLink ST 541 LEq.yN, .static LEq.yN, .code LEq.yN LEq.yB 3 (some .boolean), .initialized "java/lang/StringLatin1"]
theorem tabEq_of {a : Array Value} {s : State} (h : ∀ w ∈ wordsEq, w.before a s = true) : SEq.tab.before a s = true := by
  have hl : LEq.tab.before a s = true := unparts (wk h (.code LEq.yN LEq.yB 3 (some .boolean))) (wks h (.initialized LEq.yN.cls :: LEq.site))
  have q := consq hl h
  exact unparts (wk q (.code SEq.yN SEq.yB 3 (some .boolean))) (wks q (.initialized SEq.yN.cls :: SEq.site))
theorem movedEq {Z s : State} {a0 args : Array Value} (hZ : Z.Warmed39 s.vm) (hw : ∀ d ∈ wordsEq, d.before a0 Z = true) : ∀ d ∈ wordsEq, d.before args s = true := fun d hd => by
  have t : ∀ d ∈ wordsEq, (d.onTables && d.keepsFace) = true := by decide +kernel
  exact RoadKit.mv hZ (hw d hd) (t d hd)
/-- the road's facts of a String, as the laws ask it -/
theorem txt_of {Z U : State} {a0 : Array Value} {kI : Nat} (wi : (Jvm.Cond.instantiable ST kI).before a0 Z = true) (al : Z.vm.Alike U.vm) {x t : Addr} {kb : ClassId} {cs : List Int32} {cd N2 : Int32} {vs : List Value} (E : RoadKit.Exa Z U.heap x ST) (V : RoadKit.Fld Z U.heap x ST "value" "[B" (.ref t)) (C : RoadKit.Fld Z U.heap x ST "coder" "B" (.int cd)) (K : RoadKit.Arv Z U.heap t kb .byte N2 vs (.int 0)) (hc : CodA cs cd N2 vs) (hb : ∀ c ∈ cs, ¬ c < 0 ∧ ¬ (65535 : Int32) < c) (l2 : cs.length ≤ 4000) :
    ∃ A, Txt x t A cd cs.length (fun j => cs.getD j 0) U := by
  obtain ⟨A, K1, K2, K3, K4, K5, K6⟩ := K
  have hcod := hc.cod (by omega) K3 K5
  obtain ⟨D, fV, fC, hB, F1, F2, g1, g2, -, -⟩ := strObj wi al E V C
  exact ⟨A, ⟨_, hB.2.2.1, D, hB.1, rfl, by cases q : D.vm <;> first | rfl | exact absurd q (hB.2.1.2 _)⟩, Has.of hB F1 g1, Has.of hB F2 g2, ⟨K1.1, State.isArrayOf_alike al K1.2.1, K1.2.2, by rcases hcod with ⟨-, q, -⟩ | ⟨-, q, -⟩ <;> omega⟩, hcod, fun j hj => by
    have e : cs.getD j 0 = cs[j] := by simp [List.getD_eq_getElem?_getD, hj]
    show ¬ cs.getD j 0 < 0 ∧ ¬ 65535 < cs.getD j 0
    rw [e]; exact hb _ (List.getElem_mem _)⟩
theorem same_list (cs ds : List Int32) : SameT cs.length (fun j => cs.getD j 0) ds.length (fun j => ds.getD j 0) ↔ cs = ds := by
  constructor
  · rintro ⟨e, q⟩
    refine List.ext_getElem e fun j h1 h2 => ?_
    have := q j h1
    simpa [List.getD_eq_getElem?_getD, h1, h2] using this
  · rintro rfl
    exact ⟨rfl, fun _ _ => rfl⟩
/-- **equals(Object) OF TWO SUCH STRINGS**: 1 just where the chars are the same -/
theorem eqW {p : Program} {l : Launch} {e : Env} {R : Room} {s : State} {args : Array Value} {below : List Frame} {len W : Nat} {Z : State} {a0 : Array Value} {h : Heap} (hZ : Z.Warmed39 s.vm) (hw : ∀ d ∈ wordsEq, d.before a0 Z = true) {kI : Nat} (wi : (Jvm.Cond.instantiable ST kI).before a0 Z = true)
    {x t : Addr} {kb : ClassId} {cs : List Int32} {cd N2 : Int32} {vs : List Value} (E : RoadKit.Exa Z h x ST) (V : RoadKit.Fld Z h x ST "value" "[B" (.ref t)) (C : RoadKit.Fld Z h x ST "coder" "B" (.int cd)) (K : RoadKit.Arv Z h t kb .byte N2 vs (.int 0)) (hc : CodA cs cd N2 vs) (hb : ∀ c ∈ cs, ¬ c < 0 ∧ ¬ (65535 : Int32) < c) (l2 : cs.length ≤ 4000)
    {y t' : Addr} {kb' : ClassId} {ds : List Int32} {cd' N2' : Int32} {vs' : List Value} (E' : RoadKit.Exa Z h y ST) (V' : RoadKit.Fld Z h y ST "value" "[B" (.ref t')) (C' : RoadKit.Fld Z h y ST "coder" "B" (.int cd')) (K' : RoadKit.Arv Z h t' kb' .byte N2' vs' (.int 0)) (hc' : CodA ds cd' N2' vs') (hb' : ∀ c ∈ ds, ¬ c < 0 ∧ ¬ (65535 : Int32) < c) (l2' : ds.length ≤ 4000)
    {z : Int32} (S : RoadKit.Sta Z h ST "COMPACT_STRINGS" "Z" (.int z)) (hz : ¬ z = 0) (hfr : 2 ≤ R.frames) (hlo : W + 28 ≤ R.locals) :
    Back l R p e below s args (⟨"java/lang/String", "equals", "(Ljava/lang/Object;)Z"⟩ : MethodName) len W (fun P a => a = #[.ref x, .ref y] ∧ P.U.heap = h ∧ P.cells + 0 ≤ R.cells ∧ P.slots + 0 ≤ R.slots)
      (fun P _ v B => ∃ L, (((v = some (.int 1) ∧ cs = ds) ∨ (v = some (.int 0) ∧ ¬ cs = ds)) ∧ L = [] ∧ B.U.heap = h) ∧ B.locs = P.locs ++ L ∧ B.cells = P.cells + 0 ∧ B.slots = P.slots + 0) := by
  intro m meth c P g ig mk a X hg hsize hdg hW hn hp'
  obtain ⟨rfl, rfl, r1, r2⟩ := hp'
  have al : Z.vm.Alike P.U.vm := hZ.alike.trans X.warmed.alike
  obtain ⟨A, hx⟩ := txt_of wi al E V C K hc hb l2
  obtain ⟨A', hy⟩ := txt_of wi al E' V' C' K' hc' hb' l2'
  obtain ⟨v, B, X', ⟨⟨w, hv, hh, hq⟩, hl, hk, hs⟩, st⟩ := SEq.pays x t A cd cs.length (fun j => cs.getD j 0) y t' A' cd' ds.length (fun j => ds.getD j 0) z (tabEq_of (movedEq hZ hw)) hfr hlo m meth c P g ig mk _ X hg hsize hdg hW hn ⟨r1, r2, rfl, hx, hy, sta_is al S, hz⟩
  refine ⟨v, B, X', ⟨[], ⟨?_, rfl, hh⟩, hl, hk, hs⟩, st⟩
  rcases hq with ⟨rfl, q⟩ | ⟨rfl, q⟩
  · exact Or.inl ⟨hv, (same_list cs ds).mp q⟩
  · exact Or.inr ⟨hv, fun e => q ((same_list cs ds).mpr e)⟩
end StrChars.Road
namespace StrChars
open Jvm Sem ClassFile Op Lib Jvm.Stand Jvm.Free.XT Jvm.Free.ALB Jvm.Free.JM Jvm.Free
open Jvm.Lib.Cold (StaticIs)
namespace ChN
def yN : MethodName := ⟨"java/lang/String", "charAt", "(I)C"⟩
abbrev yB : ByteArray := jdk_42_method_56_code
theorem d0 : decode yB 0 = .ok (.aload_n 0, 1) := by decide +kernel
theorem d1 : decode yB 1 = .ok (.invokevirtual 492, 3) := by decide +kernel
theorem d4 : decode yB 4 = .ok (.ifCond (.eq) 12, 3) := by decide +kernel
theorem d7 : decode yB 7 = .ok (.aload_n 0, 1) := by decide +kernel
theorem d8 : decode yB 8 = .ok (.getfield 9, 3) := by decide +kernel
theorem d11 : decode yB 11 = .ok (.iload_n 1, 1) := by decide +kernel
theorem d12 : decode yB 12 = .ok (.invokestatic 495, 3) := by decide +kernel
theorem d15 : decode yB 15 = .ok (.ireturn, 1) := by decide +kernel
def site : List Cond := [.fieldLink "java/lang/String" 9 "java/lang/String" "value" "[B", IsL.tab, LChA.tab] ++ virtW "java/lang/String" 492 "java/lang/String" IsL.yN IsL.yN ++ staticW "java/lang/String" 495 LChA.yN
def tab : Cond := tabOf yN yB 2 (some .char) site
def P (x t : Addr) (V : Cell) (n : Nat) (f : Nat → Int32) (z : Int32) (fm : Value) (i : Nat) (args : Array Value) (s : State) : Prop := args = #[.ref x, .int (Int32.ofNat i)] ∧ Txt x t V 0 n f s ∧ i < n ∧ StaticIs s "java/lang/String" "COMPACT_STRINGS" "Z" (.int z) ∧ ¬ z = 0 ∧ StaticIs s "jdk/internal/util/Preconditions" "SIOOBE_FORMATTER" "Ljava/util/function/BiFunction;" fm ∧ fm.isRef = true
def E (f : Nat → Int32) (i : Nat) (r : Option Value) (s u : State) : Prop := XT.PureE (some (.int (f i))) r s u
/-- charAt(i) of a Latin-1 String of n chars, i < n: f i -/
theorem law (l : Launch) (x t : Addr) (V : Cell) (n : Nat) (f : Nat → Int32) (z : Int32) (fm : Value) (i : Nat) : Law l yN 2 1 3 40 yB 2 (some .char) site (P x t V n f z fm i) (E f i) [] 0 0 := by
  refine Law.of_walk (plainFor_of_name (by decide +kernel)) (by decide +kernel) (by decide +kernel) (by decide) (fun _ _ h => by rw [h.1]; rfl) (fun _ U U' hal hh h => ⟨h.1, h.2.1.mv hal hh, h.2.2.1, h.2.2.2.1.there hal hh, h.2.2.2.2.1, h.2.2.2.2.2.1.there hal hh, h.2.2.2.2.2.2⟩) (fun r U U' V V' h1 hal h2 h => XT.PureE.mv r U U' V V' h1 hal h2 h) ?_
  intro p e s m args below meth c s₁ X0 hexec hbytes hml hret hlk hnm hown hh0 W hP
  obtain ⟨rfl, hx, hi, s1, hz, s3, rf⟩ := hP
  have v31 := hx.2.2.2.1.2.2.2
  have hr := hx.2.2.2.2.2 i hi
  have hx0 := hx.mv X0.warmed.alike hh0
  have c1 : Steps p.tables e below (s₁.setTop (entryFrame m #[.ref x, .int (Int32.ofNat i)] 2)) (s₁.setTop (mkF m 1 #[.val (.ref x), .val (.int (Int32.ofNat i))] [.ref x])) := Steps.trans (entry rfl) (by
    show Steps p.tables e below (s₁.setTop (mkF m 0 #[.val (.ref x), .val (.int (Int32.ofNat i))] [])) _
    refine XS.aloadN X0.here hexec rfl (hb hbytes d0) rfl rfl ?_
    exact Steps.refl _)
  obtain ⟨v2, T2, X2, E2, g2⟩ := X0.callV hexec (IsL.law l x 0 z) hown (wks W (virtW "java/lang/String" 492 "java/lang/String" IsL.yN IsL.yN)) rfl (by decide) (wk W IsL.tab) (W := 0) (Nat.le_of_ble_eq_true rfl) (Nat.le_of_ble_eq_true rfl) (Nat.le_refl _) (Nat.le_refl _) (hx0.1.fc X0.warmed.alike) hx0.1.is (g := (mkF m 1 #[.val (.ref x), .val (.int (Int32.ofNat i))] [.ref x])) rfl (by rw [hml]; rfl) c1 (argsL := []) (rest := []) rfl rfl (by show 2 * 0 + 0 ≤ _; decide) (hb hbytes d1) (⟨rfl, hx0.2.2.1, hx.2.2.2.2.1.cd, s1.there X0.warmed.alike hh0, hz⟩)
  obtain ⟨rfl, q2⟩ := E2
  have hh2 := q2.trans hh0
  have hx2 := hx.mv X2.warmed.alike hh2
  obtain ⟨-, k1, k2⟩ | ⟨k0, -⟩ := hx.2.2.2.2.1
  · have c3 : Steps p.tables e below (s₁.setTop (entryFrame m #[.ref x, .int (Int32.ofNat i)] 2)) (T2.setTop (mkF m 8 #[.val (.ref x), .val (.int (Int32.ofNat i))] [.ref x])) := Steps.trans g2 (by
      refine XS.ifNo X2.here hexec rfl (hb hbytes d4) rfl (i0_eq_f (by decide)) ?_
      refine XS.aloadN X2.here hexec rfl (hb hbytes d7) rfl rfl ?_
      exact Steps.refl _)
    obtain ⟨T4, X4, q4, st4⟩ := X2.hget hexec hown (wk W (.fieldLink "java/lang/String" 9 "java/lang/String" "value" "[B")) hx2.2.1 (g := (mkF m 8 #[.val (.ref x), .val (.int (Int32.ofNat i))] [.ref x])) rfl (rest := []) rfl (hb hbytes d8)
    have hh4 := q4.trans hh2
    have c5 : Steps p.tables e below (s₁.setTop (entryFrame m #[.ref x, .int (Int32.ofNat i)] 2)) (T4.setTop (mkF m 12 #[.val (.ref x), .val (.int (Int32.ofNat i))] [.int (Int32.ofNat i), .ref t])) := (c3.trans (st4 _ (Steps.refl _))).trans (by
      refine XS.iloadN X4.here hexec rfl (hb hbytes d11) rfl ?_
      exact Steps.refl _)
    obtain ⟨v6, T6, X6, E6, g6⟩ := X4.callS hexec (LChA.law l t V i (lo8 (f i)) fm) hown (wks W (staticW "java/lang/String" 495 LChA.yN)) (wk W LChA.tab) (W := 0) (Nat.le_of_ble_eq_true rfl) (Nat.le_of_ble_eq_true rfl) (Nat.le_refl _) (Nat.le_refl _) (g := (mkF m 12 #[.val (.ref x), .val (.int (Int32.ofNat i))] [.int (Int32.ofNat i), .ref t])) rfl (by rw [hml]; rfl) c5 (argsL := [.ref t, .int (Int32.ofNat i)]) (rest := []) rfl rfl (by show 2 * 0 + 0 ≤ _; decide) (hb hbytes d12) (⟨rfl, hx.2.2.2.1.mv X4.warmed.alike hh4, (k2 i hi).1, s3.there X4.warmed.alike hh4, rf⟩)
    obtain ⟨rfl, q6⟩ := E6
    rw [chr8_lo8 hr.1 (k2 i hi).2] at g6
    exact ⟨T6, some (.int (f i)), _, _, _, X6, rfl, rfl, rfl, (fun h => by cases h), ⟨rfl, q6.trans hh4⟩, fun fs hl => Steps.trans g6 (X6.ireturnOut hexec hret (narrow_ch hr.1 hr.2) (Or.inr (Or.inr (Or.inr (Or.inl rfl)))) (hb hbytes d15) hl)⟩
  · exact absurd k0 (by decide)
theorem pays {l : Launch} {R : Room} {p : Program} {e : Env} {below : List Frame} {s : State} {sargs : Array Value} {len W : Nat} (x t : Addr) (V : Cell) (n : Nat) (f : Nat → Int32) (z : Int32) (fm : Value) (i : Nat) (htab : tab.before sargs s = true) (hfr : 4 ≤ R.frames) (hlo : W + 53 ≤ R.locals) :
    Back l R p e below s sargs yN len W (fun A₁ a₁ => A₁.cells + 0 ≤ R.cells ∧ A₁.slots + 0 ≤ R.slots ∧ P x t V n f z fm i a₁ A₁.U) (fun A₁ _ v₁ B₁ => E f i v₁ A₁.U B₁.U ∧ B₁.locs = A₁.locs ++ [] ∧ B₁.cells = A₁.cells + 0 ∧ B₁.slots = A₁.slots + 0) :=
  (law l x t V n f z fm i).pays htab hfr (by omega)
end ChN
end StrChars
namespace StrChars.Road
open Jvm Sem ClassFile Op Lib Jvm.Stand Jvm.Free Jvm.Free.XT
open Jvm.Lib.Cold (StaticIs)
/-- the words of String.charAt(int), the Latin-1 road alone -/
abbrev wordsChN : List Jvm.Cond := [.code ChN.yN ChN.yB 2 (some .char), .initialized ST, .fieldLink ST 9 ST "value" "[B", .fieldLink ST 38 ST "COMPACT_STRINGS" "Z", .fieldLink ST 15 ST "coder" "B", .code IsL.yN IsL.yB 1 (some .boolean), .methodLink ST 492 IsL.yN, .declares IsL.yN, .selects ST IsL.yN IsL.yN, .instanceMethod IsL.yN,
  .methodLink ST 495 LChA.yN, .static LChA.yN, .code LChA.yN LChA.yB 2 (some .char), .initialized "java/lang/StringLatin1", .methodLink "java/lang/StringLatin1" 9 JO.Str_checkIndex.yN, .static JO.Str_checkIndex.yN, .code JO.Str_checkIndex.yN JO.Str_checkIndex.yB 2 none,
  .fieldLink ST 1053 "jdk/internal/util/Preconditions" "SIOOBE_FORMATTER" "Ljava/util/function/BiFunction;", .methodLink ST 1059 JC.PreCheck.yN, .static JC.PreCheck.yN, .code JC.PreCheck.yN JC.PreCheck.yB 3 (some .int), .initialized "jdk/internal/util/Preconditions"]
theorem tabChN_of {a : Array Value} {s : State} (h : ∀ w ∈ wordsChN, w.before a s = true) : ChN.tab.before a s = true := by
  have hp : JC.PreCheck.tab.before a s = true := unparts (wk h (.code JC.PreCheck.yN JC.PreCheck.yB 3 (some .int))) (wks h (.initialized JC.PreCheck.yN.cls :: JC.PreCheck.site))
  have qk := consq hp h
  have hk : JO.Str_checkIndex.tab.before a s = true := unparts (wk qk (.code JO.Str_checkIndex.yN JO.Str_checkIndex.yB 2 none)) (wks qk (.initialized JO.Str_checkIndex.yN.cls :: JO.Str_checkIndex.site))
  have ql := consq hk h
  have hl : LChA.tab.before a s = true := unparts (wk ql (.code LChA.yN LChA.yB 2 (some .char))) (wks ql (.initialized LChA.yN.cls :: LChA.site))
  have hi : IsL.tab.before a s = true := unparts (wk h (.code IsL.yN IsL.yB 1 (some .boolean))) (wks h (.initialized IsL.yN.cls :: IsL.site))
  have q := consq hi (consq hl h)
  exact unparts (wk q (.code ChN.yN ChN.yB 2 (some .char))) (wks q (.initialized ChN.yN.cls :: ChN.site))
theorem movedChN {Z s : State} {a0 args : Array Value} (hZ : Z.Warmed39 s.vm) (hw : ∀ d ∈ wordsChN, d.before a0 Z = true) : ∀ d ∈ wordsChN, d.before args s = true := fun d hd => by
  have t : ∀ d ∈ wordsChN, (d.onTables && d.keepsFace) = true := by decide +kernel
  exact RoadKit.mv hZ (hw d hd) (t d hd)
/-- **charAt(i) OF A LATIN-1 STRING**, i < n: the char -/
theorem chN {p : Program} {l : Launch} {e : Env} {R : Room} {s : State} {args : Array Value} {below : List Frame} {len W : Nat} {Z : State} {a0 : Array Value} {h : Heap} (hZ : Z.Warmed39 s.vm) (hw : ∀ d ∈ wordsChN, d.before a0 Z = true) {kI : Nat} (wi : (Jvm.Cond.instantiable ST kI).before a0 Z = true)
    {x t : Addr} {kb : ClassId} {cs : List Int32} {N2 z : Int32} {vs : List Value} {fm : Value} {i : Nat} {j : Int32} (E : RoadKit.Exa Z h x ST) (V : RoadKit.Fld Z h x ST "value" "[B" (.ref t)) (C : RoadKit.Fld Z h x ST "coder" "B" (.int 0)) (K : RoadKit.Arv Z h t kb .byte N2 vs (.int 0)) (hc : CodA cs 0 N2 vs) (hb : ∀ c ∈ cs, ¬ c < 0 ∧ ¬ (65535 : Int32) < c)
    (S : RoadKit.Sta Z h ST "COMPACT_STRINGS" "Z" (.int z)) (hz : ¬ z = 0) (F : RoadKit.Sta Z h "jdk/internal/util/Preconditions" "SIOOBE_FORMATTER" "Ljava/util/function/BiFunction;" fm) (rf : fm.isRef = true) (l2 : cs.length ≤ 4000) (hi : i < cs.length) (hj : j = Int32.ofNat i) (hfr : 4 ≤ R.frames) (hlo : W + 53 ≤ R.locals) :
    Back l R p e below s args (⟨"java/lang/String", "charAt", "(I)C"⟩ : MethodName) len W (fun P a => a = #[.ref x, .int j] ∧ P.U.heap = h ∧ P.cells + 0 ≤ R.cells ∧ P.slots + 0 ≤ R.slots)
      (fun P _ v B => ∃ L, (v = some (.int (cs.getD i 0)) ∧ L = [] ∧ B.U.heap = h) ∧ B.locs = P.locs ++ L ∧ B.cells = P.cells + 0 ∧ B.slots = P.slots + 0) := by
  subst hj
  intro m meth c P g ig mk a X hg hsize hdg hW hn hp'
  obtain ⟨rfl, rfl, r1, r2⟩ := hp'
  have al : Z.vm.Alike P.U.vm := hZ.alike.trans X.warmed.alike
  obtain ⟨A, hx⟩ := txt_of wi al E V C K hc hb l2
  obtain ⟨v, B, X', ⟨⟨hv, hh⟩, hl, hk, hs⟩, st⟩ := ChN.pays x t A cs.length (fun j => cs.getD j 0) z fm i (tabChN_of (movedChN hZ hw)) hfr hlo m meth c P g ig mk _ X hg hsize hdg hW hn ⟨r1, r2, rfl, hx, hi, sta_is al S, hz, sta_is al F, rf⟩
  exact ⟨v, B, X', ⟨[], ⟨hv, rfl, hh⟩, hl, hk, hs⟩, st⟩
/-- what backV says of its String, as the contracts of this text ask it: cs's low bytes, coder 0 -/
theorem codOf {cs : List Int32} {n : Nat} (hn : cs.length = n) (hb : ∀ c ∈ cs, ¬ 255 < c) : CodA cs 0 (Int32.ofNat n) ((cs.map lo8).map Value.int) := Or.inl ⟨rfl, by rw [hn], by simp [List.map_map, Function.comp_def], hb⟩
end StrChars.Road
end Jvm.Pilot.@@N@@
namespace Jvm.RoadKit
open Sem ClassFile Op Lib Jvm.Stand Jvm.Free Jvm.LawKit
section New
variable {p : Program} {l : Launch} {e : Env} {R : Room} {s : State} {m : MethodId} {args : Array Value} {below : List Frame} {meth : Method} {c : Code} {T : State} {locs : List Loc} {cells slots : Nat}
theorem retI (X : Stand p l e R s m args below meth c T locs cells slots) (hx : p.tables.exec = Jvm.exec) {pc : Nat} {Ls : Array Slot} {z : Int32} {rest : List Value} (hret : meth.sig.returnType = some .int) (hd : decode c.code pc = .ok (.ireturn, 1)) {fs : List Frame}
    (hl : ∀ (f : JFrame) (acts : List Action), f.method = m → f.locked = none → f.entered = [] → (doReturn e (T.setTop f) acts (some (.int z))).1 = T.setFrames fs) : Steps p.tables e below (T.setTop (mkF m pc Ls (.int z :: rest))) (T.setFrames fs) := by
  have hm' : T.vm.method? m = some meth := X.method'
  have hn : narrow .int (.int z) = .int z := rfl
  show Steps p.tables e below (T.setTop { method := m, pc := pc, locals := Ls, stack := _ :: rest, locked := none }) _
  jvm_step X.here [X.here.top, hx, hd, hm', hret, hn]
  first | (intro acts; rw [hl _ acts rfl rfl rfl]) | rw [hl _ _ rfl rfl rfl]
  exact Steps.refl _
end New
/-- the run has come from where P looks on to this frame -/
def Go (p : Program) (e : Env) (below : List Frame) (P : State → Prop) (T : State) (g : JFrame) : Prop := ∀ t, Steps p.tables e below (T.setTop g) t → P t
/-- where roads that move the state meet: one of them has come to this frame (wide: it may have interned) -/
def PosW (p : Program) (l : Launch) (e : Env) (R : Room) (s : State) (m : MethodId) (args : Array Value) (below : List Frame) (meth : Method) (c : Code) (P : State → Prop) (Z : State) (n0 : Nat) (own : String) (EL : List (String × Nat)) (h0 hf : Heap) (ws : List Addr) (cells slots : Nat) (g : JFrame) (K : Heap → Prop) : Prop :=
  ∃ (vm : Vm) (T : State) (locs : List Loc) (k : Nat), Stand p l e R (s.setVm vm) m args below meth c T locs cells slots ∧ Fr n0 locs ∧ Keep hf T.heap ws ∧ s.Since vm k ∧ k ≤ T.heap.size ∧ Z.Warmed39 vm ∧ vm.findClass own = some m.cls ∧ CHr Z EL s.vm h0 vm T.heap ∧ Go p e below P T g ∧ K T.heap
def PosN (p : Program) (l : Launch) (e : Env) (R : Room) (s : State) (m : MethodId) (args : Array Value) (below : List Frame) (meth : Method) (c : Code) (P : State → Prop) (n0 : Nat) (hf : Heap) (ws : List Addr) (cells slots : Nat) (g : JFrame) (K : Heap → Prop) : Prop :=
  ∃ (T : State) (locs : List Loc), Stand p l e R s m args below meth c T locs cells slots ∧ Fr n0 locs ∧ Keep hf T.heap ws ∧ Go p e below P T g ∧ K T.heap
theorem oldLe {Z : State} {n0 : Nat} {h : Heap} (O : Old Z n0 h) : n0 ≤ h.size := O.1 ▸ O.2.1
theorem ownNarRef {t : FieldType} {v : Value} (h : v.isRef = true) : narrow t v = v := by
  rcases ref_cases h with rfl | ⟨_, rfl⟩ <;> cases t <;> rfl
theorem fits_refV {C : String} {v : Value} (h : v.isRef = true) : fits (.object C) v = true := by
  rcases ref_cases h with rfl | ⟨_, rfl⟩ <;> rfl
end Jvm.RoadKit
namespace Jvm.Pilot.@@N@@
open Jvm Jvm.ClassFile Sem Op Lib Jvm.Free Jvm.Stand Jvm.LawKit Jvm.RoadKit Bundle Jvm.Pilot.@@N@@.Jvm.D
theorem eq_int {args : Array Value} {first s : State} {o : Option Outcome} {idx : List Nat} {a b : Term} {x : Value} {z : Int32} (ha : a.eval args first o idx s = some x) (hb : b.eval args first o idx s = some (.int z)) (h : (Jvm.Cond.eq a b).value args first o s idx = some true) : x = .int z := by
  cases x <;> simp [Cond.value, ha, hb] at h ⊢ <;> exact h
theorem nar_b0 : nar .boolean 0 = 0 := by decide
theorem nar_b1 : nar .boolean 1 = 1 := by decide
theorem nar_b8 (x : Int32) : nar .byte (x.toInt8.toInt32) = x.toInt8.toInt32 := by show (x.toInt8.toInt32).toInt8.toInt32 = x.toInt8.toInt32; simp
theorem eq_I {args : Array Value} {first s : State} {o : Option Outcome} {idx : List Nat} {a b : Term} {x y : Int32} (ha : a.eval args first o idx s = some (.int x)) (hb : b.eval args first o idx s = some (.int y)) : (Jvm.Cond.eq a b).value args first o s idx = some (decide (x = y)) := by simp [Cond.value, ha, hb]
theorem chr255 (x : Int32) : nar .char ((x &&& (255 : Int32)).toUInt32.toUInt16.toUInt32.toInt32) = ((x &&& (255 : Int32)).toUInt32.toUInt16.toUInt32.toInt32) ∧ ¬ ((x &&& (255 : Int32)).toUInt32.toUInt16.toUInt32.toInt32) < 0 ∧ ¬ (255 : Int32) < ((x &&& (255 : Int32)).toUInt32.toUInt16.toUInt32.toInt32) := by
  have t : ∀ k : Fin 256, nar .char ((Int32.ofNat k.val).toUInt32.toUInt16.toUInt32.toInt32) = ((Int32.ofNat k.val).toUInt32.toUInt16.toUInt32.toInt32) ∧ ¬ ((Int32.ofNat k.val).toUInt32.toUInt16.toUInt32.toInt32) < 0 ∧ ¬ (255 : Int32) < ((Int32.ofNat k.val).toUInt32.toUInt16.toUInt32.toInt32) := by decide +kernel
  have h : (x &&& 255).toBitVec.toNat < 256 := by
    simp only [Int32.toBitVec_and, BitVec.toNat_and]
    exact Nat.lt_succ_of_le Nat.and_le_right
  have e : (x &&& 255) = Int32.ofNat (x &&& 255).toBitVec.toNat := by
    apply Int32.toBitVec_inj.mp
    show _ = BitVec.ofNat 32 _
    rw [BitVec.ofNat_toNat]; simp
  rw [e]
  exact t ⟨_, h⟩
abbrev EL0 : List (String × Nat) := [("com/example/toekit/toekit/cli/Arguments", 203), ("com/example/toekit/toekit/cli/Arguments", 205), ("com/example/toekit/toekit/cli/ArgumentsIsHelpPinLaw", 23), ("com/example/toekit/toekit/cli/ArgumentsIsHelpPinLaw", 31), ("java/lang/String", 7)]
theorem wS_of {Z : State} {a0 : Array Value} (hw : ∀ d ∈ tables_1, d.before a0 Z = true) : ∀ a ∈ Bundle.stringAtoms, a.before a0 Z = true := by
  intro a ha
  simp only [Bundle.stringAtoms, List.mem_cons, List.not_mem_nil, or_false] at ha
  rcases ha with rfl | rfl | rfl | rfl | rfl | rfl | rfl
  · exact (hw _ (List.mem_of_getElem? (i := 10) rfl))
  · exact (hw _ (List.mem_of_getElem? (i := 9) rfl))
  · exact (hw _ (List.mem_of_getElem? (i := 23) rfl))
  · exact (hw _ (List.mem_of_getElem? (i := 24) rfl))
  · exact (hw _ (List.mem_of_getElem? (i := 25) rfl))
  · exact (hw _ (List.mem_of_getElem? (i := 26) rfl))
  · exact (hw _ (List.mem_of_getElem? (i := 27) rfl))
theorem safeNull {Z : State} {EL : List (String × Nat)} {vm : Vm} {h : Heap} {x : Addr} (hal : Z.vm.Alike vm) (E : Exa Z h x "java/lang/String") (F : Fld Z h x "java/lang/String" "value" "[B" .null) : Safe Z EL vm h x := fun B => by
  obtain ⟨p, -, u, a, -, q, -, G, hx⟩ := B
  rcases hx with hx | hx
  · subst hx
    obtain ⟨cell, cf, k, i, f, f1, f2, f3, f4, f5, f6, f7⟩ := F
    obtain ⟨cS, ⟨⟨s1, s2, s3, ⟨cv, kv, iv, s4, s4'⟩, s5, s6, s7, s8, s9⟩, -⟩, -⟩ := G
    obtain ⟨kv', z4⟩ := ff_back (U := Wst Z vm h) hal s4
    cases f2.symm.trans z4
    have s1' : h[q.sa]? = some q.sC := s1
    cases f1.symm.trans s1'
    cases f7.symm.trans s8
  · subst hx
    obtain ⟨cell, k, e1, e2, e3, -, -⟩ := E
    have s10' : h[q.sd]? = some q.SA := G.hd
    cases e1.symm.trans s10'
    obtain ⟨cS, -, -, f, -⟩ := G
    have f' : vm.findClass "[B" = some q.SA.cls := f
    rw [hal.findClass] at f'
    obtain ⟨k1, q1, q2⟩ := Vm.findClass_spec f'
    obtain ⟨k2, q3, q4⟩ := Vm.findClass_spec e2
    cases q1.symm.trans q3
    exact absurd (q2.symm.trans q4) (by decide)
theorem w_backV {Z : State} {a0 : Array Value} (hw : ∀ d ∈ tables_1, d.before a0 Z = true) : ∀ d ∈ StrChars.Road.words, d.before a0 Z = true := fun d hd => hw d ((by decide +kernel : ∀ d ∈ StrChars.Road.words, d ∈ tables_1) d hd)
theorem w_chN {Z : State} {a0 : Array Value} (hw : ∀ d ∈ tables_1, d.before a0 Z = true) : ∀ d ∈ StrChars.Road.wordsChN, d.before a0 Z = true := fun d hd => hw d ((by decide +kernel : ∀ d ∈ StrChars.Road.wordsChN, d ∈ tables_1) d hd)
theorem w_eqW {Z : State} {a0 : Array Value} (hw : ∀ d ∈ tables_1, d.before a0 Z = true) : ∀ d ∈ StrChars.Road.wordsEq, d.before a0 Z = true := fun d hd => hw d ((by decide +kernel : ∀ d ∈ StrChars.Road.wordsEq, d ∈ tables_1) d hd)
theorem upC {cs : List Int32} (h : ∀ c ∈ cs, ¬ c < 0 ∧ ¬ (255 : Int32) < c) : ∀ c ∈ cs, ¬ c < 0 ∧ ¬ (65535 : Int32) < c := fun c hc => ⟨(h c hc).1, fun q => (h c hc).2 (by rw [Int32.lt_iff_toInt_lt] at q ⊢; have e1 : (65535 : Int32).toInt = 65535 := rfl; have e2 : (255 : Int32).toInt = 255 := rfl; omega)⟩
theorem hcod {cs : List Int32} (h : ∀ c ∈ cs, ¬ c < 0 ∧ ¬ (255 : Int32) < c) : StrChars.Road.CodA cs 0 (Int32.ofNat cs.length) ((cs.map StrChars.lo8).map Value.int) := StrChars.Road.codOf rfl fun c hc => (h c hc).2
def eqI (cs ds : List Int32) : Int32 := if cs = ds then 1 else 0
theorem pn_47582652 : plainName "java/lang/String" = true := by first | (simp [plainName, overriddenIn]; done) | decide +kernel
theorem ef_strE4 (m : MethodId) (x0 : Addr) (x1 : Addr) (x2 : Int32) (x3 : Int32) : entryFrame m #[(.ref x0), (.ref x1), (.int x2), (.int x3), .null] 6 = mkF m 0 #[.val (.ref x0), .val (.ref x1), .val (.int x2), .val (.int x3), .val .null, .unset] [] := by first | (simp [entryFrame, mkF, argsToLocals, Value.category]; done) | rfl
theorem d4_0 : decode jdk_42_method_149_code 0 = .ok (.aload_n 0, 1) := by decide +kernel
theorem d4_1 : decode jdk_42_method_149_code 1 = .ok (.invokespecial 1, 3) := by decide +kernel
theorem d4_4 : decode jdk_42_method_149_code 4 = .ok (.iload_n 3, 1) := by decide +kernel
theorem d4_5 : decode jdk_42_method_149_code 5 = .ok (.ifCond .ne 22, 3) := by decide +kernel
theorem d4_8 : decode jdk_42_method_149_code 8 = .ok (.aload_n 0, 1) := by decide +kernel
theorem d4_9 : decode jdk_42_method_149_code 9 = .ok (.ldc 7, 2) := by decide +kernel
theorem d4_11 : decode jdk_42_method_149_code 11 = .ok (.getfield 9, 3) := by decide +kernel
theorem d4_14 : decode jdk_42_method_149_code 14 = .ok (.putfield 9, 3) := by decide +kernel
theorem d4_17 : decode jdk_42_method_149_code 17 = .ok (.aload_n 0, 1) := by decide +kernel
theorem d4_18 : decode jdk_42_method_149_code 18 = .ok (.ldc 7, 2) := by decide +kernel
theorem d4_20 : decode jdk_42_method_149_code 20 = .ok (.getfield 15, 3) := by decide +kernel
theorem d4_23 : decode jdk_42_method_149_code 23 = .ok (.putfield 15, 3) := by decide +kernel
theorem d4_26 : decode jdk_42_method_149_code 26 = .ok (.return_, 1) := by decide +kernel
def Q_strE4 (Z : State) (x : Addr) (b : Addr) (h0 : Heap) (n0 : Nat) (rv_ : Option Value) (rh_ : Heap) (rL_ : List Loc) : Prop := ∃ t : Addr, ∃ kb : ClassId, (rv_ = none) ∧ (Fr n0 rL_) ∧ (Keep h0 rh_ [x]) ∧ (Exa Z rh_ x "java/lang/String") ∧ (Fld Z rh_ x "java/lang/String" "coder" "B" (.int (0 : Int32))) ∧ (Fld Z rh_ x "java/lang/String" "value" "[B" (.ref t)) ∧ (Arv Z rh_ t kb .byte (Int32.ofNat ([] : List Int32).length) ((([] : List Int32).map StrChars.lo8).map Value.int) (.int (0 : Int32)))
set_option maxRecDepth 65536 in
set_option maxHeartbeats 40000000 in
theorem strE4 (l : Launch) (Z : State) (a0 : Array Value) (hw : ∀ d ∈ tables_1, d.before a0 Z = true) (ws : List Jvm.Cond) (x : Addr) (b : Addr) (h0 : Heap) (n0 : Nat) (O0 : Old Z n0 h0) (hEL : EW Z a0 EL0) (P0 : Exa Z h0 x "java/lang/String") (P1 : Fld Z h0 x "java/lang/String" "value" "[B" .null) (P2 : Fld Z h0 x "java/lang/String" "coder" "B" (.int (0 : Int32))) (P3 : n0 ≤ x) :
    MetFree l (⟨"java/lang/String", "<init>", "([CIILjava/lang/Void;)V"⟩ : MethodName) (head1 (Jvm.Cond.code (⟨"java/lang/String", "<init>", "([CIILjava/lang/Void;)V"⟩ : MethodName) jdk_42_method_149_code 6 none :: ws) ({ frames := 1, cells := 4, slots := 8, locals := 12 } : Room)) (fun a_ U_ => a_ = #[(.ref x), (.ref b), (.int (0 : Int32)), (.int (0 : Int32)), .null] ∧ Z.Warmed39 U_.vm ∧ U_.heap = h0 ∧ CHv Z EL0 U_.vm h0) (fun _ _ _ _ _ => True) (fun _ U_ o_ U_' => ∃ v_ L_, o_ = .returned v_ ∧ Q_strE4 Z x b h0 n0 v_ U_'.heap L_ ∧ CHr Z EL0 U_.vm U_.heap U_'.vm U_'.heap ∧ ReturnedEndW U_ o_ U_' L_ ({ frames := 1, cells := 4, slots := 8, locals := 12 } : Room).cells ({ frames := 1, cells := 4, slots := 8, locals := 12 } : Room).slots) := by
  refine MetFree.of_bodySF (plainFor_of_name pn_47582652) hisR ?_
  intro p e s m args below meth c s₁ Bd hml0 hP0 hK
  obtain ⟨rfl, hZ, hh, hCH⟩ := hP0
  have hx := Bd.exec
  have hby := Bd.bytes
  have hml : c.maxLocals = 6 := hml0
  have hown : s.vm.findClass "java/lang/String" = some m.cls := findClass_of_methodNamed Bd.named
  have hnm := (name_of_methodNamed Bd.named Bd.method).1
  have hS0 : s.Since s.vm 0 := (State.WarmedH.refl s).since 0
  have hk0 : 0 ≤ h0.size := Nat.zero_le _
  have C0 : CHr Z EL0 s.vm h0 s.vm h0 := CHr.refl hCH
  have X0 : Stand p l e ({ frames := 1, cells := 4, slots := 8, locals := 12 } : Room) (s.setVm s.vm) m #[(.ref x), (.ref b), (.int (0 : Int32)), (.int (0 : Int32)), .null] below meth c s₁ [] 0 0 := Stand.of_body Bd
  have e0 : s₁.heap = h0 := by rw [← hh, Bd.state]; rfl
  have N0 := Fr.nil n0
  obtain ⟨P, hP, R0⟩ : ∃ P : State → Prop, (∀ t_, P t_ → Steps p.tables e below (s₁.setTop (entryFrame m #[(.ref x), (.ref b), (.int (0 : Int32)), (.int (0 : Int32)), .null] 6)) t_) ∧ Go p e below P s₁ (mkF m 0 #[.val (.ref x), .val (.ref b), .val (.int (0 : Int32)), .val (.int (0 : Int32)), .val .null, .unset] []) := ⟨_, fun _ h => h, fun t_ k_ => castTop (ef_strE4 m x b (0 : Int32) (0 : Int32)) k_⟩
  have Sw1 : Safe Z EL0 _ _ x := (safeNull hZ.alike P0 P1)
  have R2 : Go p e below P s₁ (mkF m 1 #[.val (.ref x), .val (.ref b), .val (.int (0 : Int32)), .val (.int (0 : Int32)), .val .null, .unset] [(.ref x)]) := fun t_ k_ => R0 t_ (XS.aloadN X0.here hx rfl (hb hby d4_0) rfl rfl k_)
  obtain ⟨T3, X3, e3, st3⟩ := initO X0 hx hZ hown (hw _ (List.mem_of_getElem? (i := 19) rfl)) (hw _ (List.mem_of_getElem? (i := 20) rfl)) (hw _ (List.mem_of_getElem? (i := 21) rfl)) e0 (g := (mkF m 1 #[.val (.ref x), .val (.ref b), .val (.int (0 : Int32)), .val (.int (0 : Int32)), .val .null, .unset] [(.ref x)])) rfl (by rw [hml]; rfl) rfl (hb hby d4_1) (by decide) (W := 0) (by show 2 * 0 + _ ≤ _; exact Nat.le_of_eq rfl) (by decide)
  have R4 : Go p e below P T3 (mkF m 4 #[.val (.ref x), .val (.ref b), .val (.int (0 : Int32)), .val (.int (0 : Int32)), .val .null, .unset] []) := fun t_ k_ => R2 t_ (st3 t_ k_)
  have R5 : Go p e below P T3 (mkF m 5 #[.val (.ref x), .val (.ref b), .val (.int (0 : Int32)), .val (.int (0 : Int32)), .val .null, .unset] [(.int (0 : Int32))]) := fun t_ k_ => R4 t_ (XS.iloadN X3.here hx rfl (hb hby d4_4) rfl k_)
  have R6 : Go p e below P T3 (mkF m 8 #[.val (.ref x), .val (.ref b), .val (.int (0 : Int32)), .val (.int (0 : Int32)), .val .null, .unset] []) := fun t_ k_ => R5 t_ (XS.ifNo X3.here hx rfl (hb hby d4_5) rfl ((if0 _ _).trans (teq rfl).2) k_)
  have R7 : Go p e below P T3 (mkF m 9 #[.val (.ref x), .val (.ref b), .val (.int (0 : Int32)), .val (.int (0 : Int32)), .val .null, .unset] [(.ref x)]) := fun t_ k_ => R6 t_ (XS.aloadN X3.here hx rfl (hb hby d4_8) rfl rfl k_)
  obtain ⟨a8, T8, h8, k8x, t8, kb8, X8, e8, E8, hS8, hk8, hZ, hown, E18, F18, F28, A18, la8, lb8, hC8, hL8, hne8, st8⟩ := ldcCH X3 hx hZ hown (hw _ (List.mem_of_getElem? (i := 22) rfl)) (wS_of hw) e3 hS0 hk0 hEL (List.mem_of_getElem? (i := 4) rfl) C0.1 (text := "") (vs := ((([] : List Int32).map StrChars.lo8).map Value.int)) (z := (Int32.ofNat ([] : List Int32).length)) ⟨by decide, by first | rfl | decide +kernel⟩ (by decide) (by decide) (g := (mkF m 9 #[.val (.ref x), .val (.ref b), .val (.int (0 : Int32)), .val (.int (0 : Int32)), .val .null, .unset] [(.ref x)])) rfl (hb hby d4_9) (n := 0) (by decide) (by decide) (by decide) (by decide)
  have O8 := O0.ext E8
  have C9 := C0.trans hC8
  have R10 : Go p e below P T8 (mkF m 11 #[.val (.ref x), .val (.ref b), .val (.int (0 : Int32)), .val (.int (0 : Int32)), .val .null, .unset] [(.ref a8), (.ref x)]) := fun t_ k_ => R7 t_ (st8 t_ k_)
  obtain ⟨T11, X11, e11, st11⟩ := getF X8 hx hZ hown (host := "") (Or.inl (hw _ (List.mem_of_getElem? (i := 28) rfl))) Via.refl e8 F28 (g := (mkF m 11 #[.val (.ref x), .val (.ref b), .val (.int (0 : Int32)), .val (.int (0 : Int32)), .val .null, .unset] [(.ref a8), (.ref x)])) rfl rfl (hb hby d4_11)
  have R12 : Go p e below P T11 (mkF m 14 #[.val (.ref x), .val (.ref b), .val (.int (0 : Int32)), .val (.int (0 : Int32)), .val .null, .unset] [(.ref t8), (.ref x)]) := fun t_ k_ => R10 t_ (st11 t_ k_)
  have f13 := (P0.ext E8)
  have f14 := (P1.ext E8)
  obtain ⟨T15, h15, X15, e15, W15, st15⟩ := putF X11 hx hZ hown (host := "") (Or.inl (hw _ (List.mem_of_getElem? (i := 28) rfl))) Via.refl e11 f14 f13 (Or.inr ⟨(hw _ (List.mem_of_getElem? (i := 24) rfl)), rfl, hnm⟩) (hw _ (List.mem_of_getElem? (i := 9) rfl)) (ty := (.array .byte)) (by decide) rfl rfl (g := (mkF m 14 #[.val (.ref x), .val (.ref b), .val (.int (0 : Int32)), .val (.int (0 : Int32)), .val .null, .unset] [(.ref t8), (.ref x)])) rfl rfl (hb hby d4_14)
  have f17 := (hC8.safe P0.lt Sw1)
  have Sw16 : Safe Z EL0 _ _ x := f17
  have N15 := Fr.snoc X15 N0 P3
  have Fw15 := f14.same W15
  have O15 := O8.wr W15 P3
  have C18 := C9.trans (CHr.wr W15 Sw16 C9.1)
  have hk18 := Nat.le_trans hk8 (Keep.of_wr W15).1
  have R19 : Go p e below P T15 (mkF m 17 #[.val (.ref x), .val (.ref b), .val (.int (0 : Int32)), .val (.int (0 : Int32)), .val .null, .unset] []) := fun t_ k_ => R12 t_ (st15 t_ k_)
  have R20 : Go p e below P T15 (mkF m 18 #[.val (.ref x), .val (.ref b), .val (.int (0 : Int32)), .val (.int (0 : Int32)), .val .null, .unset] [(.ref x)]) := fun t_ k_ => R19 t_ (XS.aloadN X15.here hx rfl (hb hby d4_17) rfl rfl k_)
  obtain ⟨a21, T21, h21, k21x, t21, kb21, X21, e21, E21, hS21, hk21, hZ, hown, E121, F121, F221, A121, la21, lb21, hC21, hL21, hne21, st21⟩ := ldcCH X15 hx hZ hown (hw _ (List.mem_of_getElem? (i := 22) rfl)) (wS_of hw) e15 hS8 hk18 hEL (List.mem_of_getElem? (i := 4) rfl) C18.1 (text := "") (vs := ((([] : List Int32).map StrChars.lo8).map Value.int)) (z := (Int32.ofNat ([] : List Int32).length)) ⟨by decide, by first | rfl | decide +kernel⟩ (by decide) (by decide) (g := (mkF m 18 #[.val (.ref x), .val (.ref b), .val (.int (0 : Int32)), .val (.int (0 : Int32)), .val .null, .unset] [(.ref x)])) rfl (hb hby d4_18) (n := 0) (by decide) (by decide) (by decide) (by decide)
  have O21 := O15.ext E21
  have C22 := C18.trans hC21
  have R23 : Go p e below P T21 (mkF m 20 #[.val (.ref x), .val (.ref b), .val (.int (0 : Int32)), .val (.int (0 : Int32)), .val .null, .unset] [(.ref a21), (.ref x)]) := fun t_ k_ => R20 t_ (st21 t_ k_)
  obtain ⟨T24, X24, e24, st24⟩ := getF X21 hx hZ hown (host := "") (Or.inl (hw _ (List.mem_of_getElem? (i := 29) rfl))) Via.refl e21 F121 (g := (mkF m 20 #[.val (.ref x), .val (.ref b), .val (.int (0 : Int32)), .val (.int (0 : Int32)), .val .null, .unset] [(.ref a21), (.ref x)])) rfl rfl (hb hby d4_20)
  have R25 : Go p e below P T24 (mkF m 23 #[.val (.ref x), .val (.ref b), .val (.int (0 : Int32)), .val (.int (0 : Int32)), .val .null, .unset] [(.int (0 : Int32)), (.ref x)]) := fun t_ k_ => R23 t_ (st24 t_ k_)
  have f26 := ((f13.wr W15).ext E21)
  have f27 := (((P2.ext E8).other W15 (Or.inr (slot_ne (Or.inr (hw _ (List.mem_of_getElem? (i := 25) rfl))) (Or.inr (hw _ (List.mem_of_getElem? (i := 24) rfl))) (by decide) (t := .byte) (t' := (.array .byte)) (by decide) (by decide)))).ext E21)
  obtain ⟨T28, h28, X28, e28, W28, st28⟩ := putFN X24 hx hZ hown (hw _ (List.mem_of_getElem? (i := 29) rfl)) Via.refl e24 f27 f26 (Or.inr ⟨(hw _ (List.mem_of_getElem? (i := 25) rfl)), rfl, hnm⟩) (hw _ (List.mem_of_getElem? (i := 9) rfl)) (ty := .byte) (v' := (.int (0 : Int32))) (by decide) rfl rfl (g := (mkF m 23 #[.val (.ref x), .val (.ref b), .val (.int (0 : Int32)), .val (.int (0 : Int32)), .val .null, .unset] [(.int (0 : Int32)), (.ref x)])) rfl rfl (hb hby d4_23)
  have f30 := (hC21.safe (f13.wr W15).lt (Safe.wr W15 Sw16 C9.1 Sw16))
  have Sw29 : Safe Z EL0 _ _ x := f30
  have N28 := Fr.snoc X28 N15 P3
  have Fw28 := f27.same W28
  have O28 := O21.wr W28 P3
  have C31 := C22.trans (CHr.wr W28 Sw29 C22.1)
  have hk31 := Nat.le_trans hk21 (Keep.of_wr W28).1
  have R32 : Go p e below P T28 (mkF m 26 #[.val (.ref x), .val (.ref b), .val (.int (0 : Int32)), .val (.int (0 : Int32)), .val .null, .unset] []) := fun t_ k_ => R25 t_ (st28 t_ k_)
  obtain ⟨fs, hr, hrun, hended, hend⟩ := X28.leaveW hS21 (by rw [e28]; exact hk31 : _ ≤ T28.heap.size) (v := none) (fun _ => rfl)
  have f33 := (f26.wr W28)
  have f34 := ((Fw15.ext E21).other W28 (Or.inr (slot_ne (Or.inr (hw _ (List.mem_of_getElem? (i := 24) rfl))) (Or.inr (hw _ (List.mem_of_getElem? (i := 25) rfl))) (by decide) (t := (.array .byte)) (t' := .byte) (by decide) (by decide))))
  have f35 := (((A18.other W15 (Ne.symm (hne8 _ Sw16).2)).ext E21).other W28 (Ne.symm (hne8 _ Sw16).2))
  have hCe := C31.trans (CHv.at X28 hZ hEL C31.1)
  exact ⟨_, _, hP _ (R32 _ (X28.returnOut hx Bd.returns (hb hby d4_26) hr)), hrun, hended, _, _, rfl, ⟨t8, kb8, rfl, N28, (e28.symm ▸ (((((Keep.refl h0 [x]).ext E8).wr W15 (Or.inl (List.mem_of_getElem? (i := 0) rfl))).ext E21).wr W28 (Or.inl (List.mem_of_getElem? (i := 0) rfl)))), (e28.symm ▸ f33), (e28.symm ▸ Fw28), (e28.symm ▸ f34), (e28.symm ▸ f35)⟩, (by show CHr Z EL0 s.vm s.heap T28.vm T28.heap; rw [hh, e28]; exact hCe), ⟨hend.1, hend.2.1, hend.2.2.1, hend.2.2.2.mono (by decide) (by decide)⟩⟩
theorem ef_strE1 (m : MethodId) (x0 : Addr) (x1 : Addr) : entryFrame m #[(.ref x0), (.ref x1)] 2 = mkF m 0 #[.val (.ref x0), .val (.ref x1)] [] := by first | (simp [entryFrame, mkF, argsToLocals, Value.category]; done) | rfl
theorem d3_0 : decode jdk_42_method_3_code 0 = .ok (.aload_n 0, 1) := by decide +kernel
theorem d3_1 : decode jdk_42_method_3_code 1 = .ok (.aload_n 1, 1) := by decide +kernel
theorem d3_2 : decode jdk_42_method_3_code 2 = .ok (.iconst 0, 1) := by decide +kernel
theorem d3_3 : decode jdk_42_method_3_code 3 = .ok (.aload_n 1, 1) := by decide +kernel
theorem d3_4 : decode jdk_42_method_3_code 4 = .ok (.arraylength, 1) := by decide +kernel
theorem d3_5 : decode jdk_42_method_3_code 5 = .ok (.aconst_null, 1) := by decide +kernel
theorem d3_6 : decode jdk_42_method_3_code 6 = .ok (.invokespecial 27, 3) := by decide +kernel
theorem pd_91162829 : parseMethodDescriptor "([CIILjava/lang/Void;)V" = some ⟨[(.array .char), .int, .int, (.object "java/lang/Void")], none⟩ := by decide +kernel
theorem d3_9 : decode jdk_42_method_3_code 9 = .ok (.return_, 1) := by decide +kernel
def Q_strE1 (Z : State) (x : Addr) (b : Addr) (kc : ClassId) (h0 : Heap) (n0 : Nat) (rv_ : Option Value) (rh_ : Heap) (rL_ : List Loc) : Prop := ∃ t : Addr, ∃ kb : ClassId, (rv_ = none) ∧ (Fr n0 rL_) ∧ (Keep h0 rh_ [x]) ∧ (Exa Z rh_ x "java/lang/String") ∧ (Fld Z rh_ x "java/lang/String" "coder" "B" (.int (0 : Int32))) ∧ (Fld Z rh_ x "java/lang/String" "value" "[B" (.ref t)) ∧ (Arv Z rh_ t kb .byte (Int32.ofNat ([] : List Int32).length) ((([] : List Int32).map StrChars.lo8).map Value.int) (.int (0 : Int32)))
set_option maxRecDepth 65536 in
set_option maxHeartbeats 40000000 in
theorem strE1 (l : Launch) (Z : State) (a0 : Array Value) (hw : ∀ d ∈ tables_1, d.before a0 Z = true) (ws : List Jvm.Cond) (x : Addr) (b : Addr) (kc : ClassId) (h0 : Heap) (n0 : Nat) (O0 : Old Z n0 h0) (hEL : EW Z a0 EL0) (P0 : Exa Z h0 x "java/lang/String") (P1 : Fld Z h0 x "java/lang/String" "value" "[B" .null) (P2 : Fld Z h0 x "java/lang/String" "coder" "B" (.int (0 : Int32))) (P3 : n0 ≤ x) (P4 : Arv Z h0 b kc .char (0 : Int32) [] (.int (0 : Int32))) :
    MetFree l (⟨"java/lang/String", "<init>", "([C)V"⟩ : MethodName) (head1 (Jvm.Cond.code (⟨"java/lang/String", "<init>", "([C)V"⟩ : MethodName) jdk_42_method_3_code 2 none :: ws) ({ frames := 2, cells := 4, slots := 8, locals := 29 } : Room)) (fun a_ U_ => a_ = #[(.ref x), (.ref b)] ∧ Z.Warmed39 U_.vm ∧ U_.heap = h0 ∧ CHv Z EL0 U_.vm h0) (fun _ _ _ _ _ => True) (fun _ U_ o_ U_' => ∃ v_ L_, o_ = .returned v_ ∧ Q_strE1 Z x b kc h0 n0 v_ U_'.heap L_ ∧ CHr Z EL0 U_.vm U_.heap U_'.vm U_'.heap ∧ ReturnedEndW U_ o_ U_' L_ ({ frames := 2, cells := 4, slots := 8, locals := 29 } : Room).cells ({ frames := 2, cells := 4, slots := 8, locals := 29 } : Room).slots) := by
  refine MetFree.of_bodySF (plainFor_of_name pn_47582652) hisR ?_
  intro p e s m args below meth c s₁ Bd hml0 hP0 hK
  obtain ⟨rfl, hZ, hh, hCH⟩ := hP0
  have hx := Bd.exec
  have hby := Bd.bytes
  have hml : c.maxLocals = 2 := hml0
  have hown : s.vm.findClass "java/lang/String" = some m.cls := findClass_of_methodNamed Bd.named
  have hnm := (name_of_methodNamed Bd.named Bd.method).1
  have hS0 : s.Since s.vm 0 := (State.WarmedH.refl s).since 0
  have hk0 : 0 ≤ h0.size := Nat.zero_le _
  have C0 : CHr Z EL0 s.vm h0 s.vm h0 := CHr.refl hCH
  have X0 : Stand p l e ({ frames := 2, cells := 4, slots := 8, locals := 29 } : Room) (s.setVm s.vm) m #[(.ref x), (.ref b)] below meth c s₁ [] 0 0 := Stand.of_body Bd
  have e0 : s₁.heap = h0 := by rw [← hh, Bd.state]; rfl
  have N0 := Fr.nil n0
  obtain ⟨P, hP, R0⟩ : ∃ P : State → Prop, (∀ t_, P t_ → Steps p.tables e below (s₁.setTop (entryFrame m #[(.ref x), (.ref b)] 2)) t_) ∧ Go p e below P s₁ (mkF m 0 #[.val (.ref x), .val (.ref b)] []) := ⟨_, fun _ h => h, fun t_ k_ => castTop (ef_strE1 m x b) k_⟩
  have R36 : Go p e below P s₁ (mkF m 1 #[.val (.ref x), .val (.ref b)] [(.ref x)]) := fun t_ k_ => R0 t_ (XS.aloadN X0.here hx rfl (hb hby d3_0) rfl rfl k_)
  have R37 : Go p e below P s₁ (mkF m 2 #[.val (.ref x), .val (.ref b)] [(.ref b), (.ref x)]) := fun t_ k_ => R36 t_ (XS.aloadN X0.here hx rfl (hb hby d3_1) rfl rfl k_)
  have R38 : Go p e below P s₁ (mkF m 3 #[.val (.ref x), .val (.ref b)] [(.int (0 : Int32)), (.ref b), (.ref x)]) := fun t_ k_ => R37 t_ (XS.iconst X0.here hx rfl (hb hby d3_2) k_)
  have R39 : Go p e below P s₁ (mkF m 4 #[.val (.ref x), .val (.ref b)] [(.ref b), (.int (0 : Int32)), (.ref b), (.ref x)]) := fun t_ k_ => R38 t_ (XS.aloadN X0.here hx rfl (hb hby d3_3) rfl rfl k_)
  obtain ⟨cl40, cl40A, -, cl40S, cl40N, -, -⟩ := id P4
  have R41 : Go p e below P s₁ (mkF m 5 #[.val (.ref x), .val (.ref b)] [(.int (0 : Int32)), (.int (0 : Int32)), (.ref b), (.ref x)]) := fun t_ k_ => R39 t_ (X0.arraylength hx (by rw [e0]; exact cl40A.1) (State.isArrayOf_alike hZ.alike cl40A.2.1) (g := (mkF m 4 #[.val (.ref x), .val (.ref b)] [(.ref b), (.int (0 : Int32)), (.ref b), (.ref x)])) rfl rfl (hb hby d3_4) t_ (by rw [len_of cl40S cl40N]; exact k_))
  have R42 : Go p e below P s₁ (mkF m 6 #[.val (.ref x), .val (.ref b)] [.null, (.int (0 : Int32)), (.int (0 : Int32)), (.ref b), (.ref x)]) := fun t_ k_ => R41 t_ (XS.aconstNull X0.here hx rfl (hb hby d3_5) k_)
  obtain ⟨rv43, _, ⟨T43, L43, k43, n43⟩, -, X43, hT43, hG43, ⟨Lc43, hQ43, l43, y43, z43, hC43⟩, st43⟩ := X0.specialBackS hx (y := (⟨"java/lang/String", "<init>", "([CIILjava/lang/Void;)V"⟩ : MethodName)) rfl hown (mvT hZ (hw _ (List.mem_of_getElem? (i := 15) rfl))) (mvT hZ (hw _ (List.mem_of_getElem? (i := 16) rfl))) (mvT hZ (hw _ (List.mem_of_getElem? (i := 18) rfl))) (by decide) (backOfSH (W := 0) (strE4 l Z a0 hw [] x b h0 n0 O0 hEL P0 P1 P2 P3) hZ (hw _ (List.mem_of_getElem? (i := 18) rfl)) (hw _ (List.mem_of_getElem? (i := 10) rfl)) (by decide) (by decide) hEL C0.1) (g := (mkF m 6 #[.val (.ref x), .val (.ref b)] [.null, (.int (0 : Int32)), (.int (0 : Int32)), (.ref b), (.ref x)])) rfl (by rw [hml]; rfl) (Steps.refl _) (a := x) (argsL := [(.ref b), (.int (0 : Int32)), (.int (0 : Int32)), .null]) (rest := []) (lenOf pd_91162829 rfl) rfl (by show 2 * 0 + _ ≤ _; exact Nat.le_of_eq rfl) (hb hby d3_6) (fun _ _ => ⟨rfl, e0, (by decide : 0 + 4 ≤ _), (by decide : 0 + 8 ≤ _)⟩)
  dsimp only [Pt.U, Pt.locs, Pt.cells, Pt.slots] at X43 hT43 hG43 l43 y43 z43 hC43 st43 hQ43
  subst l43 y43 z43
  obtain ⟨X43, hS43, hZ, hown⟩ := rebS hS0 (by rw [e0]; exact hk0) X43 hT43 hG43 hZ hown
  have hk43 : T43.heap.size ≤ T43.heap.size := Nat.le_refl _
  obtain ⟨t_43, kb_43, rfl, N43q, K43, p43_0, p43_1, p43_2, p43_3⟩ := hQ43
  have N43 := Fr.app N0 N43q
  have O43 := O0.keep K43 (allS P3 all0)
  have C44 := C0.trans hC43
  have R45 : Go p e below P T43 (mkF m 9 #[.val (.ref x), .val (.ref b)] []) := fun t_ k_ => R42 t_ (st43.trans k_)
  obtain ⟨fs, hr, hrun, hended, hend⟩ := X43.leaveW hS43 (by rw [(rfl : T43.heap = T43.heap)]; exact hk43 : _ ≤ T43.heap.size) (v := none) (fun _ => rfl)
  have hCe := C44.trans (CHv.at X43 hZ hEL C44.1)
  exact ⟨_, _, hP _ (R45 _ (X43.returnOut hx Bd.returns (hb hby d3_9) hr)), hrun, hended, _, _, rfl, ⟨t_43, kb_43, rfl, N43, ((Keep.refl h0 [x]).trans K43 (allS (Or.inl (List.mem_of_getElem? (i := 0) rfl)) all0)), p43_0, p43_1, p43_2, p43_3⟩, (by show CHr Z EL0 s.vm s.heap T43.vm T43.heap; rw [hh, (rfl : T43.heap = T43.heap)]; exact hCe), ⟨hend.1, hend.2.1, hend.2.2.1, hend.2.2.2.mono (by decide) (by decide)⟩⟩
def strL (n c0 c1 c2 c3 c4 c5 c6 : Int32) : List Int32 := if n = 0 then [] else if n = 1 then [c0] else if n = 2 then [c0, c1] else if n = 3 then [c0, c1, c2] else if n = 4 then [c0, c1, c2, c3] else if n = 5 then [c0, c1, c2, c3, c4] else if n = 6 then [c0, c1, c2, c3, c4, c5] else [c0, c1, c2, c3, c4, c5, c6]
theorem strL_ok {n c0 c1 c2 c3 c4 c5 c6 : Int32} (h0 : nar .char c0 = c0 ∧ ¬ c0 < 0 ∧ ¬ (255 : Int32) < c0) (h1 : nar .char c1 = c1 ∧ ¬ c1 < 0 ∧ ¬ (255 : Int32) < c1) (h2 : nar .char c2 = c2 ∧ ¬ c2 < 0 ∧ ¬ (255 : Int32) < c2) (h3 : nar .char c3 = c3 ∧ ¬ c3 < 0 ∧ ¬ (255 : Int32) < c3) (h4 : nar .char c4 = c4 ∧ ¬ c4 < 0 ∧ ¬ (255 : Int32) < c4) (h5 : nar .char c5 = c5 ∧ ¬ c5 < 0 ∧ ¬ (255 : Int32) < c5) (h6 : nar .char c6 = c6 ∧ ¬ c6 < 0 ∧ ¬ (255 : Int32) < c6) : ∀ c ∈ strL n c0 c1 c2 c3 c4 c5 c6, ¬ c < 0 ∧ ¬ (255 : Int32) < c := by
  intro c hc
  unfold strL at hc
  repeat' split at hc
  all_goals simp only [List.mem_cons, List.not_mem_nil, or_false] at hc
  all_goals (try (rcases hc with hc | hc | hc | hc | hc | hc | hc))
  all_goals (try subst hc)
  all_goals first | exact hc.elim | exact h0.2 | exact h1.2 | exact h2.2 | exact h3.2 | exact h4.2 | exact h5.2 | exact h6.2
theorem strL_len {n c0 c1 c2 c3 c4 c5 c6 : Int32} : (strL n c0 c1 c2 c3 c4 c5 c6).length ≤ 4000 := by
  unfold strL
  repeat' split
  all_goals simp
theorem pn_83775497 : plainName "com/example/toekit/toekit/cli/ArgumentsIsHelpPinLaw" = true := by first | (simp [plainName, overriddenIn]; done) | decide +kernel
theorem ef_make_ (m : MethodId) (x0 : Int32) (x1 : Int32) (x2 : Int32) (x3 : Int32) (x4 : Int32) (x5 : Int32) (x6 : Int32) (x7 : Int32) : entryFrame m #[(.int x0), (.int x1), (.int x2), (.int x3), (.int x4), (.int x5), (.int x6), (.int x7)] 8 = mkF m 0 #[.val (.int x0), .val (.int x1), .val (.int x2), .val (.int x3), .val (.int x4), .val (.int x5), .val (.int x6), .val (.int x7)] [] := by first | (simp [entryFrame, mkF, argsToLocals, Value.category]; done) | rfl
theorem d2_0 : decode method_4_code 0 = .ok (.iload_n 0, 1) := by decide +kernel
theorem d2_1 : decode method_4_code 1 = .ok (.ifCond .ne 14, 3) := by decide +kernel
theorem d2_4 : decode method_4_code 4 = .ok (.new 26, 3) := by decide +kernel
theorem d2_7 : decode method_4_code 7 = .ok (.dup, 1) := by decide +kernel
theorem d2_8 : decode method_4_code 8 = .ok (.iconst 0, 1) := by decide +kernel
theorem d2_9 : decode method_4_code 9 = .ok (.newarray .char, 2) := by decide +kernel
theorem d2_11 : decode method_4_code 11 = .ok (.invokespecial 35, 3) := by decide +kernel
theorem pd_42155922 : parseMethodDescriptor "([C)V" = some ⟨[(.array .char)], none⟩ := by decide +kernel
theorem d2_14 : decode method_4_code 14 = .ok (.areturn, 1) := by decide +kernel
theorem d2_15 : decode method_4_code 15 = .ok (.iload_n 0, 1) := by decide +kernel
theorem d2_16 : decode method_4_code 16 = .ok (.iconst 1, 1) := by decide +kernel
theorem d2_17 : decode method_4_code 17 = .ok (.if_icmp .ne 18, 3) := by decide +kernel
theorem d2_20 : decode method_4_code 20 = .ok (.new 26, 3) := by decide +kernel
theorem d2_23 : decode method_4_code 23 = .ok (.dup, 1) := by decide +kernel
theorem d2_24 : decode method_4_code 24 = .ok (.iconst 1, 1) := by decide +kernel
theorem d2_25 : decode method_4_code 25 = .ok (.newarray .char, 2) := by decide +kernel
theorem d2_27 : decode method_4_code 27 = .ok (.dup, 1) := by decide +kernel
theorem d2_28 : decode method_4_code 28 = .ok (.iconst 0, 1) := by decide +kernel
theorem d2_29 : decode method_4_code 29 = .ok (.iload_n 1, 1) := by decide +kernel
theorem d2_30 : decode method_4_code 30 = .ok (.castore, 1) := by decide +kernel
theorem d2_31 : decode method_4_code 31 = .ok (.invokespecial 35, 3) := by decide +kernel
theorem d2_34 : decode method_4_code 34 = .ok (.areturn, 1) := by decide +kernel
theorem d2_35 : decode method_4_code 35 = .ok (.iload_n 0, 1) := by decide +kernel
theorem d2_36 : decode method_4_code 36 = .ok (.iconst 2, 1) := by decide +kernel
theorem d2_37 : decode method_4_code 37 = .ok (.if_icmp .ne 22, 3) := by decide +kernel
theorem d2_40 : decode method_4_code 40 = .ok (.new 26, 3) := by decide +kernel
theorem d2_43 : decode method_4_code 43 = .ok (.dup, 1) := by decide +kernel
theorem d2_44 : decode method_4_code 44 = .ok (.iconst 2, 1) := by decide +kernel
theorem d2_45 : decode method_4_code 45 = .ok (.newarray .char, 2) := by decide +kernel
theorem d2_47 : decode method_4_code 47 = .ok (.dup, 1) := by decide +kernel
theorem d2_48 : decode method_4_code 48 = .ok (.iconst 0, 1) := by decide +kernel
theorem d2_49 : decode method_4_code 49 = .ok (.iload_n 1, 1) := by decide +kernel
theorem d2_50 : decode method_4_code 50 = .ok (.castore, 1) := by decide +kernel
theorem d2_51 : decode method_4_code 51 = .ok (.dup, 1) := by decide +kernel
theorem d2_52 : decode method_4_code 52 = .ok (.iconst 1, 1) := by decide +kernel
theorem d2_53 : decode method_4_code 53 = .ok (.iload_n 2, 1) := by decide +kernel
theorem d2_54 : decode method_4_code 54 = .ok (.castore, 1) := by decide +kernel
theorem d2_55 : decode method_4_code 55 = .ok (.invokespecial 35, 3) := by decide +kernel
theorem d2_58 : decode method_4_code 58 = .ok (.areturn, 1) := by decide +kernel
theorem d2_59 : decode method_4_code 59 = .ok (.iload_n 0, 1) := by decide +kernel
theorem d2_60 : decode method_4_code 60 = .ok (.iconst 3, 1) := by decide +kernel
theorem d2_61 : decode method_4_code 61 = .ok (.if_icmp .ne 26, 3) := by decide +kernel
theorem d2_64 : decode method_4_code 64 = .ok (.new 26, 3) := by decide +kernel
theorem d2_67 : decode method_4_code 67 = .ok (.dup, 1) := by decide +kernel
theorem d2_68 : decode method_4_code 68 = .ok (.iconst 3, 1) := by decide +kernel
theorem d2_69 : decode method_4_code 69 = .ok (.newarray .char, 2) := by decide +kernel
theorem d2_71 : decode method_4_code 71 = .ok (.dup, 1) := by decide +kernel
theorem d2_72 : decode method_4_code 72 = .ok (.iconst 0, 1) := by decide +kernel
theorem d2_73 : decode method_4_code 73 = .ok (.iload_n 1, 1) := by decide +kernel
theorem d2_74 : decode method_4_code 74 = .ok (.castore, 1) := by decide +kernel
theorem d2_75 : decode method_4_code 75 = .ok (.dup, 1) := by decide +kernel
theorem d2_76 : decode method_4_code 76 = .ok (.iconst 1, 1) := by decide +kernel
theorem d2_77 : decode method_4_code 77 = .ok (.iload_n 2, 1) := by decide +kernel
theorem d2_78 : decode method_4_code 78 = .ok (.castore, 1) := by decide +kernel
theorem d2_79 : decode method_4_code 79 = .ok (.dup, 1) := by decide +kernel
theorem d2_80 : decode method_4_code 80 = .ok (.iconst 2, 1) := by decide +kernel
theorem d2_81 : decode method_4_code 81 = .ok (.iload_n 3, 1) := by decide +kernel
theorem d2_82 : decode method_4_code 82 = .ok (.castore, 1) := by decide +kernel
theorem d2_83 : decode method_4_code 83 = .ok (.invokespecial 35, 3) := by decide +kernel
theorem d2_86 : decode method_4_code 86 = .ok (.areturn, 1) := by decide +kernel
theorem d2_87 : decode method_4_code 87 = .ok (.iload_n 0, 1) := by decide +kernel
theorem d2_88 : decode method_4_code 88 = .ok (.iconst 4, 1) := by decide +kernel
theorem d2_89 : decode method_4_code 89 = .ok (.if_icmp .ne 31, 3) := by decide +kernel
theorem d2_92 : decode method_4_code 92 = .ok (.new 26, 3) := by decide +kernel
theorem d2_95 : decode method_4_code 95 = .ok (.dup, 1) := by decide +kernel
theorem d2_96 : decode method_4_code 96 = .ok (.iconst 4, 1) := by decide +kernel
theorem d2_97 : decode method_4_code 97 = .ok (.newarray .char, 2) := by decide +kernel
theorem d2_99 : decode method_4_code 99 = .ok (.dup, 1) := by decide +kernel
theorem d2_100 : decode method_4_code 100 = .ok (.iconst 0, 1) := by decide +kernel
theorem d2_101 : decode method_4_code 101 = .ok (.iload_n 1, 1) := by decide +kernel
theorem d2_102 : decode method_4_code 102 = .ok (.castore, 1) := by decide +kernel
theorem d2_103 : decode method_4_code 103 = .ok (.dup, 1) := by decide +kernel
theorem d2_104 : decode method_4_code 104 = .ok (.iconst 1, 1) := by decide +kernel
theorem d2_105 : decode method_4_code 105 = .ok (.iload_n 2, 1) := by decide +kernel
theorem d2_106 : decode method_4_code 106 = .ok (.castore, 1) := by decide +kernel
theorem d2_107 : decode method_4_code 107 = .ok (.dup, 1) := by decide +kernel
theorem d2_108 : decode method_4_code 108 = .ok (.iconst 2, 1) := by decide +kernel
theorem d2_109 : decode method_4_code 109 = .ok (.iload_n 3, 1) := by decide +kernel
theorem d2_110 : decode method_4_code 110 = .ok (.castore, 1) := by decide +kernel
theorem d2_111 : decode method_4_code 111 = .ok (.dup, 1) := by decide +kernel
theorem d2_112 : decode method_4_code 112 = .ok (.iconst 3, 1) := by decide +kernel
theorem d2_113 : decode method_4_code 113 = .ok (.iload 4, 2) := by decide +kernel
theorem d2_115 : decode method_4_code 115 = .ok (.castore, 1) := by decide +kernel
theorem d2_116 : decode method_4_code 116 = .ok (.invokespecial 35, 3) := by decide +kernel
theorem d2_119 : decode method_4_code 119 = .ok (.areturn, 1) := by decide +kernel
theorem d2_120 : decode method_4_code 120 = .ok (.iload_n 0, 1) := by decide +kernel
theorem d2_121 : decode method_4_code 121 = .ok (.iconst 5, 1) := by decide +kernel
theorem d2_122 : decode method_4_code 122 = .ok (.if_icmp .ne 36, 3) := by decide +kernel
theorem d2_125 : decode method_4_code 125 = .ok (.new 26, 3) := by decide +kernel
theorem d2_128 : decode method_4_code 128 = .ok (.dup, 1) := by decide +kernel
theorem d2_129 : decode method_4_code 129 = .ok (.iconst 5, 1) := by decide +kernel
theorem d2_130 : decode method_4_code 130 = .ok (.newarray .char, 2) := by decide +kernel
theorem d2_132 : decode method_4_code 132 = .ok (.dup, 1) := by decide +kernel
theorem d2_133 : decode method_4_code 133 = .ok (.iconst 0, 1) := by decide +kernel
theorem d2_134 : decode method_4_code 134 = .ok (.iload_n 1, 1) := by decide +kernel
theorem d2_135 : decode method_4_code 135 = .ok (.castore, 1) := by decide +kernel
theorem d2_136 : decode method_4_code 136 = .ok (.dup, 1) := by decide +kernel
theorem d2_137 : decode method_4_code 137 = .ok (.iconst 1, 1) := by decide +kernel
theorem d2_138 : decode method_4_code 138 = .ok (.iload_n 2, 1) := by decide +kernel
theorem d2_139 : decode method_4_code 139 = .ok (.castore, 1) := by decide +kernel
theorem d2_140 : decode method_4_code 140 = .ok (.dup, 1) := by decide +kernel
theorem d2_141 : decode method_4_code 141 = .ok (.iconst 2, 1) := by decide +kernel
theorem d2_142 : decode method_4_code 142 = .ok (.iload_n 3, 1) := by decide +kernel
theorem d2_143 : decode method_4_code 143 = .ok (.castore, 1) := by decide +kernel
theorem d2_144 : decode method_4_code 144 = .ok (.dup, 1) := by decide +kernel
theorem d2_145 : decode method_4_code 145 = .ok (.iconst 3, 1) := by decide +kernel
theorem d2_146 : decode method_4_code 146 = .ok (.iload 4, 2) := by decide +kernel
theorem d2_148 : decode method_4_code 148 = .ok (.castore, 1) := by decide +kernel
theorem d2_149 : decode method_4_code 149 = .ok (.dup, 1) := by decide +kernel
theorem d2_150 : decode method_4_code 150 = .ok (.iconst 4, 1) := by decide +kernel
theorem d2_151 : decode method_4_code 151 = .ok (.iload 5, 2) := by decide +kernel
theorem d2_153 : decode method_4_code 153 = .ok (.castore, 1) := by decide +kernel
theorem d2_154 : decode method_4_code 154 = .ok (.invokespecial 35, 3) := by decide +kernel
theorem d2_157 : decode method_4_code 157 = .ok (.areturn, 1) := by decide +kernel
theorem d2_158 : decode method_4_code 158 = .ok (.iload_n 0, 1) := by decide +kernel
theorem d2_159 : decode method_4_code 159 = .ok (.bipush 6, 2) := by decide +kernel
theorem d2_161 : decode method_4_code 161 = .ok (.if_icmp .ne 42, 3) := by decide +kernel
theorem d2_164 : decode method_4_code 164 = .ok (.new 26, 3) := by decide +kernel
theorem d2_167 : decode method_4_code 167 = .ok (.dup, 1) := by decide +kernel
theorem d2_168 : decode method_4_code 168 = .ok (.bipush 6, 2) := by decide +kernel
theorem d2_170 : decode method_4_code 170 = .ok (.newarray .char, 2) := by decide +kernel
theorem d2_172 : decode method_4_code 172 = .ok (.dup, 1) := by decide +kernel
theorem d2_173 : decode method_4_code 173 = .ok (.iconst 0, 1) := by decide +kernel
theorem d2_174 : decode method_4_code 174 = .ok (.iload_n 1, 1) := by decide +kernel
theorem d2_175 : decode method_4_code 175 = .ok (.castore, 1) := by decide +kernel
theorem d2_176 : decode method_4_code 176 = .ok (.dup, 1) := by decide +kernel
theorem d2_177 : decode method_4_code 177 = .ok (.iconst 1, 1) := by decide +kernel
theorem d2_178 : decode method_4_code 178 = .ok (.iload_n 2, 1) := by decide +kernel
theorem d2_179 : decode method_4_code 179 = .ok (.castore, 1) := by decide +kernel
theorem d2_180 : decode method_4_code 180 = .ok (.dup, 1) := by decide +kernel
theorem d2_181 : decode method_4_code 181 = .ok (.iconst 2, 1) := by decide +kernel
theorem d2_182 : decode method_4_code 182 = .ok (.iload_n 3, 1) := by decide +kernel
theorem d2_183 : decode method_4_code 183 = .ok (.castore, 1) := by decide +kernel
theorem d2_184 : decode method_4_code 184 = .ok (.dup, 1) := by decide +kernel
theorem d2_185 : decode method_4_code 185 = .ok (.iconst 3, 1) := by decide +kernel
theorem d2_186 : decode method_4_code 186 = .ok (.iload 4, 2) := by decide +kernel
theorem d2_188 : decode method_4_code 188 = .ok (.castore, 1) := by decide +kernel
theorem d2_189 : decode method_4_code 189 = .ok (.dup, 1) := by decide +kernel
theorem d2_190 : decode method_4_code 190 = .ok (.iconst 4, 1) := by decide +kernel
theorem d2_191 : decode method_4_code 191 = .ok (.iload 5, 2) := by decide +kernel
theorem d2_193 : decode method_4_code 193 = .ok (.castore, 1) := by decide +kernel
theorem d2_194 : decode method_4_code 194 = .ok (.dup, 1) := by decide +kernel
theorem d2_195 : decode method_4_code 195 = .ok (.iconst 5, 1) := by decide +kernel
theorem d2_196 : decode method_4_code 196 = .ok (.iload 6, 2) := by decide +kernel
theorem d2_198 : decode method_4_code 198 = .ok (.castore, 1) := by decide +kernel
theorem d2_199 : decode method_4_code 199 = .ok (.invokespecial 35, 3) := by decide +kernel
theorem d2_202 : decode method_4_code 202 = .ok (.areturn, 1) := by decide +kernel
theorem d2_203 : decode method_4_code 203 = .ok (.new 26, 3) := by decide +kernel
theorem d2_206 : decode method_4_code 206 = .ok (.dup, 1) := by decide +kernel
theorem d2_207 : decode method_4_code 207 = .ok (.bipush 7, 2) := by decide +kernel
theorem d2_209 : decode method_4_code 209 = .ok (.newarray .char, 2) := by decide +kernel
theorem d2_211 : decode method_4_code 211 = .ok (.dup, 1) := by decide +kernel
theorem d2_212 : decode method_4_code 212 = .ok (.iconst 0, 1) := by decide +kernel
theorem d2_213 : decode method_4_code 213 = .ok (.iload_n 1, 1) := by decide +kernel
theorem d2_214 : decode method_4_code 214 = .ok (.castore, 1) := by decide +kernel
theorem d2_215 : decode method_4_code 215 = .ok (.dup, 1) := by decide +kernel
theorem d2_216 : decode method_4_code 216 = .ok (.iconst 1, 1) := by decide +kernel
theorem d2_217 : decode method_4_code 217 = .ok (.iload_n 2, 1) := by decide +kernel
theorem d2_218 : decode method_4_code 218 = .ok (.castore, 1) := by decide +kernel
theorem d2_219 : decode method_4_code 219 = .ok (.dup, 1) := by decide +kernel
theorem d2_220 : decode method_4_code 220 = .ok (.iconst 2, 1) := by decide +kernel
theorem d2_221 : decode method_4_code 221 = .ok (.iload_n 3, 1) := by decide +kernel
theorem d2_222 : decode method_4_code 222 = .ok (.castore, 1) := by decide +kernel
theorem d2_223 : decode method_4_code 223 = .ok (.dup, 1) := by decide +kernel
theorem d2_224 : decode method_4_code 224 = .ok (.iconst 3, 1) := by decide +kernel
theorem d2_225 : decode method_4_code 225 = .ok (.iload 4, 2) := by decide +kernel
theorem d2_227 : decode method_4_code 227 = .ok (.castore, 1) := by decide +kernel
theorem d2_228 : decode method_4_code 228 = .ok (.dup, 1) := by decide +kernel
theorem d2_229 : decode method_4_code 229 = .ok (.iconst 4, 1) := by decide +kernel
theorem d2_230 : decode method_4_code 230 = .ok (.iload 5, 2) := by decide +kernel
theorem d2_232 : decode method_4_code 232 = .ok (.castore, 1) := by decide +kernel
theorem d2_233 : decode method_4_code 233 = .ok (.dup, 1) := by decide +kernel
theorem d2_234 : decode method_4_code 234 = .ok (.iconst 5, 1) := by decide +kernel
theorem d2_235 : decode method_4_code 235 = .ok (.iload 6, 2) := by decide +kernel
theorem d2_237 : decode method_4_code 237 = .ok (.castore, 1) := by decide +kernel
theorem d2_238 : decode method_4_code 238 = .ok (.dup, 1) := by decide +kernel
theorem d2_239 : decode method_4_code 239 = .ok (.bipush 6, 2) := by decide +kernel
theorem d2_241 : decode method_4_code 241 = .ok (.iload 7, 2) := by decide +kernel
theorem d2_243 : decode method_4_code 243 = .ok (.castore, 1) := by decide +kernel
theorem d2_244 : decode method_4_code 244 = .ok (.invokespecial 35, 3) := by decide +kernel
theorem d2_247 : decode method_4_code 247 = .ok (.areturn, 1) := by decide +kernel
def Q_make_ (Z : State) (n : Int32) (c0 : Int32) (c1 : Int32) (c2 : Int32) (c3 : Int32) (c4 : Int32) (c5 : Int32) (c6 : Int32) (zc : Int32) (h0 : Heap) (n0 : Nat) (rv_ : Option Value) (rh_ : Heap) (rL_ : List Loc) : Prop := ∃ x : Addr, ∃ t : Addr, ∃ kb : ClassId, (rv_ = some (.ref x)) ∧ (Fr n0 rL_) ∧ (Keep h0 rh_ []) ∧ (h0.size ≤ x) ∧ (Exa Z rh_ x "java/lang/String") ∧ (Fld Z rh_ x "java/lang/String" "coder" "B" (.int (0 : Int32))) ∧ (Fld Z rh_ x "java/lang/String" "value" "[B" (.ref t)) ∧ (Arv Z rh_ t kb .byte (Int32.ofNat (strL n c0 c1 c2 c3 c4 c5 c6).length) (((strL n c0 c1 c2 c3 c4 c5 c6).map StrChars.lo8).map Value.int) (.int (0 : Int32)))
set_option maxRecDepth 65536 in
set_option maxHeartbeats 40000000 in
theorem make_ (l : Launch) (Z : State) (a0 : Array Value) (hw : ∀ d ∈ tables_1, d.before a0 Z = true) (ws : List Jvm.Cond) (n : Int32) (c0 : Int32) (c1 : Int32) (c2 : Int32) (c3 : Int32) (c4 : Int32) (c5 : Int32) (c6 : Int32) (zc : Int32) (h0 : Heap) (n0 : Nat) (O0 : Old Z n0 h0) (hEL : EW Z a0 EL0) (P0 : Sta Z Z.heap "java/lang/String" "COMPACT_STRINGS" "Z" (.int zc)) (P1 : ¬ zc = 0) (P2 : nar .char c0 = c0 ∧ ¬ c0 < 0 ∧ ¬ (255 : Int32) < c0) (P3 : nar .char c1 = c1 ∧ ¬ c1 < 0 ∧ ¬ (255 : Int32) < c1) (P4 : nar .char c2 = c2 ∧ ¬ c2 < 0 ∧ ¬ (255 : Int32) < c2) (P5 : nar .char c3 = c3 ∧ ¬ c3 < 0 ∧ ¬ (255 : Int32) < c3) (P6 : nar .char c4 = c4 ∧ ¬ c4 < 0 ∧ ¬ (255 : Int32) < c4) (P7 : nar .char c5 = c5 ∧ ¬ c5 < 0 ∧ ¬ (255 : Int32) < c5) (P8 : nar .char c6 = c6 ∧ ¬ c6 < 0 ∧ ¬ (255 : Int32) < c6) :
    MetFree l (⟨"com/example/toekit/toekit/cli/ArgumentsIsHelpPinLaw", "make", "(ICCCCCCC)Ljava/lang/String;"⟩ : MethodName) (head1 (Jvm.Cond.code (⟨"com/example/toekit/toekit/cli/ArgumentsIsHelpPinLaw", "make", "(ICCCCCCC)Ljava/lang/String;"⟩ : MethodName) method_4_code 8 (some (.object "java/lang/String")) :: ws) ({ frames := 4, cells := 6, slots := 18, locals := 66 } : Room)) (fun a_ U_ => a_ = #[(.int n), (.int c0), (.int c1), (.int c2), (.int c3), (.int c4), (.int c5), (.int c6)] ∧ Z.Warmed39 U_.vm ∧ U_.heap = h0 ∧ CHv Z EL0 U_.vm h0) (fun _ _ _ _ _ => True) (fun _ U_ o_ U_' => ∃ v_ L_, o_ = .returned v_ ∧ Q_make_ Z n c0 c1 c2 c3 c4 c5 c6 zc h0 n0 v_ U_'.heap L_ ∧ CHr Z EL0 U_.vm U_.heap U_'.vm U_'.heap ∧ ReturnedEndW U_ o_ U_' L_ ({ frames := 4, cells := 6, slots := 18, locals := 66 } : Room).cells ({ frames := 4, cells := 6, slots := 18, locals := 66 } : Room).slots) := by
  have hzc := P1
  have hch0 := P2
  have hch1 := P3
  have hch2 := P4
  have hch3 := P5
  have hch4 := P6
  have hch5 := P7
  have hch6 := P8
  refine MetFree.of_bodySF (plainFor_of_name pn_83775497) hisR ?_
  intro p e s m args below meth c s₁ Bd hml0 hP0 hK
  obtain ⟨rfl, hZ, hh, hCH⟩ := hP0
  have hx := Bd.exec
  have hby := Bd.bytes
  have hml : c.maxLocals = 8 := hml0
  have hown : s.vm.findClass "com/example/toekit/toekit/cli/ArgumentsIsHelpPinLaw" = some m.cls := findClass_of_methodNamed Bd.named
  have hnm := (name_of_methodNamed Bd.named Bd.method).1
  have hS0 : s.Since s.vm 0 := (State.WarmedH.refl s).since 0
  have hk0 : 0 ≤ h0.size := Nat.zero_le _
  have C0 : CHr Z EL0 s.vm h0 s.vm h0 := CHr.refl hCH
  have X0 : Stand p l e ({ frames := 4, cells := 6, slots := 18, locals := 66 } : Room) (s.setVm s.vm) m #[(.int n), (.int c0), (.int c1), (.int c2), (.int c3), (.int c4), (.int c5), (.int c6)] below meth c s₁ [] 0 0 := Stand.of_body Bd
  have e0 : s₁.heap = h0 := by rw [← hh, Bd.state]; rfl
  have N0 := Fr.nil n0
  obtain ⟨P, hP, R0⟩ : ∃ P : State → Prop, (∀ t_, P t_ → Steps p.tables e below (s₁.setTop (entryFrame m #[(.int n), (.int c0), (.int c1), (.int c2), (.int c3), (.int c4), (.int c5), (.int c6)] 8)) t_) ∧ Go p e below P s₁ (mkF m 0 #[.val (.int n), .val (.int c0), .val (.int c1), .val (.int c2), .val (.int c3), .val (.int c4), .val (.int c5), .val (.int c6)] []) := ⟨_, fun _ h => h, fun t_ k_ => castTop (ef_make_ m n c0 c1 c2 c3 c4 c5 c6) k_⟩
  have R46 : Go p e below P s₁ (mkF m 1 #[.val (.int n), .val (.int c0), .val (.int c1), .val (.int c2), .val (.int c3), .val (.int c4), .val (.int c5), .val (.int c6)] [(.int n)]) := fun t_ k_ => R0 t_ (XS.iloadN X0.here hx rfl (hb hby d2_0) rfl k_)
  by_cases hc47 : n = (0 : Int32)
  · have R48 : Go p e below P s₁ (mkF m 4 #[.val (.int n), .val (.int c0), .val (.int c1), .val (.int c2), .val (.int c3), .val (.int c4), .val (.int c5), .val (.int c6)] []) := fun t_ k_ => R46 t_ (XS.ifNo X0.here hx rfl (hb hby d2_1) rfl ((if0 _ _).trans (teq hc47).2) k_)
    obtain ⟨T49, h49, X49, e49, E49, A49, D49, -, st49⟩ := newO X0 hx hZ hown (hw _ (List.mem_of_getElem? (i := 8) rfl)) (hw _ (List.mem_of_getElem? (i := 9) rfl)) (hw _ (List.mem_of_getElem? (i := 10) rfl)) e0 (g := (mkF m 4 #[.val (.int n), .val (.int c0), .val (.int c1), .val (.int c2), .val (.int c3), .val (.int c4), .val (.int c5), .val (.int c6)] [])) rfl (hb hby d2_4) (by decide) (by decide)
    obtain ⟨b49, g49⟩ : ∃ z, z = h0.size := ⟨_, rfl⟩
    rw [← g49] at A49 D49 st49
    have O49 := O0.ext E49
    have C50 := C0.trans (CHr.ext E49 C0.1)
    have hk50 := Nat.le_trans hk0 E49.1
    have Sb49 : Safe Z EL0 _ _ _ := Safe.ext E49 C0.1 (Safe.new (Nat.le_of_eq g49.symm))
    have F49_24 : Fld Z h49 b49 "java/lang/String" "value" "[B" .null := D49 (Or.inr (hw _ (List.mem_of_getElem? (i := 24) rfl))) (ty := (.array .byte)) (by decide)
    have F49_25 : Fld Z h49 b49 "java/lang/String" "coder" "B" (.int (0 : Int32)) := D49 (Or.inr (hw _ (List.mem_of_getElem? (i := 25) rfl))) (ty := .byte) (by decide)
    have R51 : Go p e below P T49 (mkF m 7 #[.val (.int n), .val (.int c0), .val (.int c1), .val (.int c2), .val (.int c3), .val (.int c4), .val (.int c5), .val (.int c6)] [(.ref b49)]) := fun t_ k_ => R48 t_ (st49 t_ k_)
    have R52 : Go p e below P T49 (mkF m 8 #[.val (.int n), .val (.int c0), .val (.int c1), .val (.int c2), .val (.int c3), .val (.int c4), .val (.int c5), .val (.int c6)] [(.ref b49), (.ref b49)]) := fun t_ k_ => R51 t_ (XS.dup X49.here hx rfl (hb hby d2_7) rfl rfl k_)
    have R53 : Go p e below P T49 (mkF m 9 #[.val (.int n), .val (.int c0), .val (.int c1), .val (.int c2), .val (.int c3), .val (.int c4), .val (.int c5), .val (.int c6)] [(.int (0 : Int32)), (.ref b49), (.ref b49)]) := fun t_ k_ => R52 t_ (XS.iconst X49.here hx rfl (hb hby d2_8) k_)
    obtain ⟨T54, h54, k54, X54, e54, E54, A54, st54⟩ := newP X49 hx hZ (hw _ (List.mem_of_getElem? (i := 11) rfl)) e49 (g := (mkF m 9 #[.val (.int n), .val (.int c0), .val (.int c1), .val (.int c2), .val (.int c3), .val (.int c4), .val (.int c5), .val (.int c6)] [(.int (0 : Int32)), (.ref b49), (.ref b49)])) rfl (hb hby d2_9) rfl (by decide) (cap := 0) (by decide) (by decide) (by decide) (by decide)
    obtain ⟨b54, g54⟩ : ∃ z, z = h49.size := ⟨_, rfl⟩
    rw [← g54] at A54 st54
    have O54 := O49.ext E54
    have V54 : Arv Z h54 b54 k54 .char (0 : Int32) [] (.int (0 : Int32)) := (Arv.new A54 (by decide)).pad (pad_rep [] (.int (0 : Int32)) 0)
    have C55 := C50.trans (CHr.ext E54 C50.1)
    have hk55 := Nat.le_trans hk50 E54.1
    have Sb54 : Safe Z EL0 _ _ _ := Safe.ext E54 C50.1 (Safe.new (Nat.le_of_eq g54.symm))
    have R56 : Go p e below P T54 (mkF m 11 #[.val (.int n), .val (.int c0), .val (.int c1), .val (.int c2), .val (.int c3), .val (.int c4), .val (.int c5), .val (.int c6)] [(.ref b54), (.ref b49), (.ref b49)]) := fun t_ k_ => R53 t_ (st54 t_ k_)
    have f57 := (A49.ext E54)
    have f58 := (F49_24.ext E54)
    have f59 := (F49_25.ext E54)
    obtain ⟨rv60, _, ⟨T60, L60, k60, n60⟩, -, X60, hT60, hG60, ⟨Lc60, hQ60, l60, y60, z60, hC60⟩, st60⟩ := X54.specialBackS hx (y := (⟨"java/lang/String", "<init>", "([C)V"⟩ : MethodName)) rfl hown (mvT hZ (hw _ (List.mem_of_getElem? (i := 12) rfl))) (mvT hZ (hw _ (List.mem_of_getElem? (i := 13) rfl))) (mvT hZ (hw _ (List.mem_of_getElem? (i := 14) rfl))) (by decide) (backOfSH (W := 1) (strE1 l Z a0 hw [] b49 b54 k54 h54 n0 O54 hEL f57 f58 f59 (Nat.le_trans (oldLe O0) (Nat.le_of_eq g49.symm)) V54) hZ (hw _ (List.mem_of_getElem? (i := 14) rfl)) (hw _ (List.mem_of_getElem? (i := 10) rfl)) (by decide) (by decide) hEL C55.1) (g := (mkF m 11 #[.val (.int n), .val (.int c0), .val (.int c1), .val (.int c2), .val (.int c3), .val (.int c4), .val (.int c5), .val (.int c6)] [(.ref b54), (.ref b49), (.ref b49)])) rfl (by rw [hml]; rfl) (Steps.refl _) (a := b49) (argsL := [(.ref b54)]) (rest := [(.ref b49)]) (lenOf pd_42155922 rfl) rfl (by show 2 * 0 + _ ≤ _; exact Nat.le_of_eq rfl) (hb hby d2_11) (fun _ _ => ⟨rfl, e54, (by decide : 2 + 4 ≤ _), (by decide : 4 + 8 ≤ _)⟩)
    dsimp only [Pt.U, Pt.locs, Pt.cells, Pt.slots] at X60 hT60 hG60 l60 y60 z60 hC60 st60 hQ60
    subst l60 y60 z60
    obtain ⟨X60, hS60, hZ, hown⟩ := rebS hS0 (by rw [e54]; exact hk55) X60 hT60 hG60 hZ hown
    have hk60 : T60.heap.size ≤ T60.heap.size := Nat.le_refl _
    obtain ⟨t_60, kb_60, rfl, N60q, K60, p60_0, p60_1, p60_2, p60_3⟩ := hQ60
    have N60 := Fr.app N0 N60q
    have O60 := O54.keep K60 (allS (Nat.le_trans (oldLe O0) (Nat.le_of_eq g49.symm)) all0)
    have C61 := C55.trans hC60
    have R62 : Go p e below P T60 (mkF m 14 #[.val (.int n), .val (.int c0), .val (.int c1), .val (.int c2), .val (.int c3), .val (.int c4), .val (.int c5), .val (.int c6)] [(.ref b49)]) := fun t_ k_ => R56 t_ (st60.trans k_)
    obtain ⟨fs, hr, hrun, hended, hend⟩ := X60.leaveW hS60 (by rw [(rfl : T60.heap = T60.heap)]; exact hk60 : _ ≤ T60.heap.size) (v := some (.ref b49)) (fun h => by rw [Bd.returns] at h; cases h)
    have hCe := C61.trans (CHv.at X60 hZ hEL C61.1)
    exact ⟨_, _, hP _ (R62 _ (retOut X60 hx Bd.returns rfl (Or.inr (Or.inr (Or.inr (Or.inr ⟨rfl, rfl, rfl⟩)))) (hb hby d2_14) hr)), hrun, hended, _, _, rfl, ⟨b49, t_60, kb_60, rfl, N60, ((((Keep.refl h0 []).ext E49).ext E54).trans K60 (allS (Or.inr (Nat.le_of_eq g49.symm)) all0)), (Nat.le_of_eq g49.symm), p60_0, p60_1, p60_2, (by rw [show strL n c0 c1 c2 c3 c4 c5 c6 = [] from by simp [strL, hc47]]; exact p60_3)⟩, (by show CHr Z EL0 s.vm s.heap T60.vm T60.heap; rw [hh, (rfl : T60.heap = T60.heap)]; exact hCe), ⟨hend.1, hend.2.1, hend.2.2.1, hend.2.2.2.mono (by decide) (by decide)⟩⟩
  · have R63 : Go p e below P s₁ (mkF m 15 #[.val (.int n), .val (.int c0), .val (.int c1), .val (.int c2), .val (.int c3), .val (.int c4), .val (.int c5), .val (.int c6)] []) := fun t_ k_ => R46 t_ (XS.ifYes X0.here hx rfl (pc0 := 1) (pc' := 15) rfl (hb hby d2_1) rfl ((if0 _ _).trans (feq hc47).2) (by decide) (by decide) k_)
    have R64 : Go p e below P s₁ (mkF m 16 #[.val (.int n), .val (.int c0), .val (.int c1), .val (.int c2), .val (.int c3), .val (.int c4), .val (.int c5), .val (.int c6)] [(.int n)]) := fun t_ k_ => R63 t_ (XS.iloadN X0.here hx rfl (hb hby d2_15) rfl k_)
    have R65 : Go p e below P s₁ (mkF m 17 #[.val (.int n), .val (.int c0), .val (.int c1), .val (.int c2), .val (.int c3), .val (.int c4), .val (.int c5), .val (.int c6)] [(.int (1 : Int32)), (.int n)]) := fun t_ k_ => R64 t_ (XS.iconst X0.here hx rfl (hb hby d2_16) k_)
    by_cases hc66 : n = (1 : Int32)
    · have R67 : Go p e below P s₁ (mkF m 20 #[.val (.int n), .val (.int c0), .val (.int c1), .val (.int c2), .val (.int c3), .val (.int c4), .val (.int c5), .val (.int c6)] []) := fun t_ k_ => R65 t_ (XS.icmpNo X0.here hx rfl (hb hby d2_17) rfl (teq hc66).2 k_)
      obtain ⟨T68, h68, X68, e68, E68, A68, D68, -, st68⟩ := newO X0 hx hZ hown (hw _ (List.mem_of_getElem? (i := 8) rfl)) (hw _ (List.mem_of_getElem? (i := 9) rfl)) (hw _ (List.mem_of_getElem? (i := 10) rfl)) e0 (g := (mkF m 20 #[.val (.int n), .val (.int c0), .val (.int c1), .val (.int c2), .val (.int c3), .val (.int c4), .val (.int c5), .val (.int c6)] [])) rfl (hb hby d2_20) (by decide) (by decide)
      obtain ⟨b68, g68⟩ : ∃ z, z = h0.size := ⟨_, rfl⟩
      rw [← g68] at A68 D68 st68
      have O68 := O0.ext E68
      have C69 := C0.trans (CHr.ext E68 C0.1)
      have hk69 := Nat.le_trans hk0 E68.1
      have Sb68 : Safe Z EL0 _ _ _ := Safe.ext E68 C0.1 (Safe.new (Nat.le_of_eq g68.symm))
      have F68_24 : Fld Z h68 b68 "java/lang/String" "value" "[B" .null := D68 (Or.inr (hw _ (List.mem_of_getElem? (i := 24) rfl))) (ty := (.array .byte)) (by decide)
      have F68_25 : Fld Z h68 b68 "java/lang/String" "coder" "B" (.int (0 : Int32)) := D68 (Or.inr (hw _ (List.mem_of_getElem? (i := 25) rfl))) (ty := .byte) (by decide)
      have R70 : Go p e below P T68 (mkF m 23 #[.val (.int n), .val (.int c0), .val (.int c1), .val (.int c2), .val (.int c3), .val (.int c4), .val (.int c5), .val (.int c6)] [(.ref b68)]) := fun t_ k_ => R67 t_ (st68 t_ k_)
      have R71 : Go p e below P T68 (mkF m 24 #[.val (.int n), .val (.int c0), .val (.int c1), .val (.int c2), .val (.int c3), .val (.int c4), .val (.int c5), .val (.int c6)] [(.ref b68), (.ref b68)]) := fun t_ k_ => R70 t_ (XS.dup X68.here hx rfl (hb hby d2_23) rfl rfl k_)
      have R72 : Go p e below P T68 (mkF m 25 #[.val (.int n), .val (.int c0), .val (.int c1), .val (.int c2), .val (.int c3), .val (.int c4), .val (.int c5), .val (.int c6)] [(.int (1 : Int32)), (.ref b68), (.ref b68)]) := fun t_ k_ => R71 t_ (XS.iconst X68.here hx rfl (hb hby d2_24) k_)
      obtain ⟨T73, h73, k73, X73, e73, E73, A73, st73⟩ := newP X68 hx hZ (hw _ (List.mem_of_getElem? (i := 11) rfl)) e68 (g := (mkF m 25 #[.val (.int n), .val (.int c0), .val (.int c1), .val (.int c2), .val (.int c3), .val (.int c4), .val (.int c5), .val (.int c6)] [(.int (1 : Int32)), (.ref b68), (.ref b68)])) rfl (hb hby d2_25) rfl (by decide) (cap := 1) (by decide) (by decide) (by decide) (by decide)
      obtain ⟨b73, g73⟩ : ∃ z, z = h68.size := ⟨_, rfl⟩
      rw [← g73] at A73 st73
      have O73 := O68.ext E73
      have V73 : Arv Z h73 b73 k73 .char (1 : Int32) [(.int (0 : Int32))] (.int (0 : Int32)) := (Arv.new A73 (by decide)).pad (pad_rep [] (.int (0 : Int32)) 1)
      have C74 := C69.trans (CHr.ext E73 C69.1)
      have hk74 := Nat.le_trans hk69 E73.1
      have Sb73 : Safe Z EL0 _ _ _ := Safe.ext E73 C69.1 (Safe.new (Nat.le_of_eq g73.symm))
      have R75 : Go p e below P T73 (mkF m 27 #[.val (.int n), .val (.int c0), .val (.int c1), .val (.int c2), .val (.int c3), .val (.int c4), .val (.int c5), .val (.int c6)] [(.ref b73), (.ref b68), (.ref b68)]) := fun t_ k_ => R72 t_ (st73 t_ k_)
      have R76 : Go p e below P T73 (mkF m 28 #[.val (.int n), .val (.int c0), .val (.int c1), .val (.int c2), .val (.int c3), .val (.int c4), .val (.int c5), .val (.int c6)] [(.ref b73), (.ref b73), (.ref b68), (.ref b68)]) := fun t_ k_ => R75 t_ (XS.dup X73.here hx rfl (hb hby d2_27) rfl rfl k_)
      have R77 : Go p e below P T73 (mkF m 29 #[.val (.int n), .val (.int c0), .val (.int c1), .val (.int c2), .val (.int c3), .val (.int c4), .val (.int c5), .val (.int c6)] [(.int (0 : Int32)), (.ref b73), (.ref b73), (.ref b68), (.ref b68)]) := fun t_ k_ => R76 t_ (XS.iconst X73.here hx rfl (hb hby d2_28) k_)
      have R78 : Go p e below P T73 (mkF m 30 #[.val (.int n), .val (.int c0), .val (.int c1), .val (.int c2), .val (.int c3), .val (.int c4), .val (.int c5), .val (.int c6)] [(.int c0), (.int (0 : Int32)), (.ref b73), (.ref b73), (.ref b68), (.ref b68)]) := fun t_ k_ => R77 t_ (XS.iloadN X73.here hx rfl (hb hby d2_29) rfl k_)
      obtain ⟨cl79, cl79A, cl79q, cl79S, cl79N, cl79H, cl79G⟩ := id V73
      obtain ⟨T80, h80, X80, e80, W80, st80⟩ := stC X73 hx hZ e73 cl79A (j := (0 : Int32)) (inb_of cl79S ⟨by decide, by decide⟩) (g := (mkF m 30 #[.val (.int n), .val (.int c0), .val (.int c1), .val (.int c2), .val (.int c3), .val (.int c4), .val (.int c5), .val (.int c6)] [(.int c0), (.int (0 : Int32)), (.ref b73), (.ref b73), (.ref b68), (.ref b68)])) rfl rfl (hb hby d2_30)
      have V80 : Arv Z h80 b73 k73 .char (1 : Int32) [(.int (nar .char c0))] (.int (0 : Int32)) := Arv.set cl79A cl79q cl79S cl79N cl79H cl79G (fits_nar_char _) W80 0 rfl (Nat.le_of_ble_eq_true rfl)
      have Sw81 : Safe Z EL0 _ _ b73 := Sb73
      have N80 := Fr.snoc X80 N0 (Nat.le_trans (oldLe O68) (Nat.le_of_eq g73.symm))
      have O80 := O73.wr W80 (Nat.le_trans (oldLe O68) (Nat.le_of_eq g73.symm))
      have V80s : Arv Z h80 b73 k73 .char (1 : Int32) [(.int c0)] (.int (0 : Int32)) := by have q := V80; rw [hch0.1] at q; exact q
      have C82 := C74.trans (CHr.wr W80 Sw81 C74.1)
      have hk82 := Nat.le_trans hk74 (Keep.of_wr W80).1
      have R83 : Go p e below P T80 (mkF m 31 #[.val (.int n), .val (.int c0), .val (.int c1), .val (.int c2), .val (.int c3), .val (.int c4), .val (.int c5), .val (.int c6)] [(.ref b73), (.ref b68), (.ref b68)]) := fun t_ k_ => R78 t_ (st80 t_ k_)
      have f84 := ((A68.ext E73).wr W80)
      have f85 := ((F68_24.ext E73).other W80 (Or.inl (Nat.ne_of_lt (Nat.lt_of_lt_of_le A68.lt (Nat.le_of_eq g73.symm)))))
      have f86 := ((F68_25.ext E73).other W80 (Or.inl (Nat.ne_of_lt (Nat.lt_of_lt_of_le A68.lt (Nat.le_of_eq g73.symm)))))
      have f88 := (Safe.wr W80 Sw81 C74.1 (Safe.ext E73 C69.1 Sb68))
      have Sw87 : Safe Z EL0 _ _ b68 := f88
      obtain ⟨rv89, _, ⟨T89, L89, k89, n89⟩, -, X89, ⟨Lc89, hQ89, l89, y89, z89⟩, st89⟩ := X80.specialBack hx (y := (⟨"java/lang/String", "<init>", "([C)V"⟩ : MethodName)) rfl hown (mvT hZ (hw _ (List.mem_of_getElem? (i := 12) rfl))) (mvT hZ (hw _ (List.mem_of_getElem? (i := 13) rfl))) (mvT hZ (hw _ (List.mem_of_getElem? (i := 14) rfl))) (by decide) (StrChars.Road.backV (W := 1) hZ (w_backV hw) (kI := 4) (hw _ (List.mem_of_getElem? (i := 9) rfl)) (cs := ([c0] : List Int32)) (bs := ([c0] : List Int32).map (fun c => c.toInt8.toInt32)) (n := 1) (Nat.le_trans (oldLe O0) (Nat.le_of_eq g68.symm)) (oldLe O80) f84 f85 f86 V80s (P0.ext O80.2) hzc rfl rfl (by decide) (by decide) (by intro c hc; simp only [List.mem_cons, List.not_mem_nil, or_false] at hc; subst hc; exact hch0.2) rfl (by decide) (by decide)) (g := (mkF m 31 #[.val (.int n), .val (.int c0), .val (.int c1), .val (.int c2), .val (.int c3), .val (.int c4), .val (.int c5), .val (.int c6)] [(.ref b73), (.ref b68), (.ref b68)])) rfl (by rw [hml]; rfl) (Steps.refl _) (a := b68) (argsL := [(.ref b73)]) (rest := [(.ref b68)]) (lenOf pd_42155922 rfl) rfl (by show 2 * 0 + _ ≤ _; exact Nat.le_of_eq rfl) (hb hby d2_31) (fun _ _ => ⟨rfl, e80, (by decide : 2 + 1 ≤ _), (by decide : 5 + 1 ≤ _)⟩)
      dsimp only [Pt.U, Pt.locs, Pt.cells, Pt.slots] at X89 l89 y89 z89 st89 hQ89
      subst l89 y89 z89
      obtain ⟨rfl, N89q, K89, pE89, pC89, t89, kb89, -, lt89, tn89, pV89, pA89⟩ := hQ89
      have N89 := Fr.app N80 N89q
      have O89 := O80.keep K89 (allS (Nat.le_trans (oldLe O0) (Nat.le_of_eq g68.symm)) all0)
      have C90 := C82.trans (CHr.keep K89 (sfS Sw87 sf0) C82.1)
      have hk90 := Nat.le_trans hk82 K89.1
      have pB89 : Arv Z T89.heap t89 kb89 .byte (Int32.ofNat ([c0] : List Int32).length) ((([c0] : List Int32).map StrChars.lo8).map Value.int) (.int (0 : Int32)) := pA89
      have R91 : Go p e below P T89 (mkF m 34 #[.val (.int n), .val (.int c0), .val (.int c1), .val (.int c2), .val (.int c3), .val (.int c4), .val (.int c5), .val (.int c6)] [(.ref b68)]) := fun t_ k_ => R83 t_ (st89.trans k_)
      obtain ⟨fs, hr, hrun, hended, hend⟩ := X89.leaveW hS0 (by rw [(rfl : T89.heap = T89.heap)]; exact hk90 : _ ≤ T89.heap.size) (v := some (.ref b68)) (fun h => by rw [Bd.returns] at h; cases h)
      have hCe := C90.trans (CHv.at X89 hZ hEL C90.1)
      exact ⟨_, _, hP _ (R91 _ (retOut X89 hx Bd.returns rfl (Or.inr (Or.inr (Or.inr (Or.inr ⟨rfl, rfl, rfl⟩)))) (hb hby d2_34) hr)), hrun, hended, _, _, rfl, ⟨b68, t89, kb89, rfl, N89, (((((Keep.refl h0 []).ext E68).ext E73).wr W80 (Or.inr (Nat.le_trans ((Keep.refl h0 []).ext E68).1 (Nat.le_of_eq g73.symm)))).trans K89 (allS (Or.inr (Nat.le_of_eq g68.symm)) all0)), (Nat.le_of_eq g68.symm), pE89, pC89, pV89, (by rw [show strL n c0 c1 c2 c3 c4 c5 c6 = [c0] from by simp [strL, hc47, hc66]]; exact pB89)⟩, (by show CHr Z EL0 s.vm s.heap T89.vm T89.heap; rw [hh, (rfl : T89.heap = T89.heap)]; exact hCe), ⟨hend.1, hend.2.1, hend.2.2.1, hend.2.2.2.mono (by decide) (by decide)⟩⟩
    · have R92 : Go p e below P s₁ (mkF m 35 #[.val (.int n), .val (.int c0), .val (.int c1), .val (.int c2), .val (.int c3), .val (.int c4), .val (.int c5), .val (.int c6)] []) := fun t_ k_ => R65 t_ (XS.icmpYes X0.here hx rfl (pc0 := 17) (pc' := 35) rfl (hb hby d2_17) rfl (feq hc66).2 (by decide) (by decide) k_)
      have R93 : Go p e below P s₁ (mkF m 36 #[.val (.int n), .val (.int c0), .val (.int c1), .val (.int c2), .val (.int c3), .val (.int c4), .val (.int c5), .val (.int c6)] [(.int n)]) := fun t_ k_ => R92 t_ (XS.iloadN X0.here hx rfl (hb hby d2_35) rfl k_)
      have R94 : Go p e below P s₁ (mkF m 37 #[.val (.int n), .val (.int c0), .val (.int c1), .val (.int c2), .val (.int c3), .val (.int c4), .val (.int c5), .val (.int c6)] [(.int (2 : Int32)), (.int n)]) := fun t_ k_ => R93 t_ (XS.iconst X0.here hx rfl (hb hby d2_36) k_)
      by_cases hc95 : n = (2 : Int32)
      · have R96 : Go p e below P s₁ (mkF m 40 #[.val (.int n), .val (.int c0), .val (.int c1), .val (.int c2), .val (.int c3), .val (.int c4), .val (.int c5), .val (.int c6)] []) := fun t_ k_ => R94 t_ (XS.icmpNo X0.here hx rfl (hb hby d2_37) rfl (teq hc95).2 k_)
        obtain ⟨T97, h97, X97, e97, E97, A97, D97, -, st97⟩ := newO X0 hx hZ hown (hw _ (List.mem_of_getElem? (i := 8) rfl)) (hw _ (List.mem_of_getElem? (i := 9) rfl)) (hw _ (List.mem_of_getElem? (i := 10) rfl)) e0 (g := (mkF m 40 #[.val (.int n), .val (.int c0), .val (.int c1), .val (.int c2), .val (.int c3), .val (.int c4), .val (.int c5), .val (.int c6)] [])) rfl (hb hby d2_40) (by decide) (by decide)
        obtain ⟨b97, g97⟩ : ∃ z, z = h0.size := ⟨_, rfl⟩
        rw [← g97] at A97 D97 st97
        have O97 := O0.ext E97
        have C98 := C0.trans (CHr.ext E97 C0.1)
        have hk98 := Nat.le_trans hk0 E97.1
        have Sb97 : Safe Z EL0 _ _ _ := Safe.ext E97 C0.1 (Safe.new (Nat.le_of_eq g97.symm))
        have F97_24 : Fld Z h97 b97 "java/lang/String" "value" "[B" .null := D97 (Or.inr (hw _ (List.mem_of_getElem? (i := 24) rfl))) (ty := (.array .byte)) (by decide)
        have F97_25 : Fld Z h97 b97 "java/lang/String" "coder" "B" (.int (0 : Int32)) := D97 (Or.inr (hw _ (List.mem_of_getElem? (i := 25) rfl))) (ty := .byte) (by decide)
        have R99 : Go p e below P T97 (mkF m 43 #[.val (.int n), .val (.int c0), .val (.int c1), .val (.int c2), .val (.int c3), .val (.int c4), .val (.int c5), .val (.int c6)] [(.ref b97)]) := fun t_ k_ => R96 t_ (st97 t_ k_)
        have R100 : Go p e below P T97 (mkF m 44 #[.val (.int n), .val (.int c0), .val (.int c1), .val (.int c2), .val (.int c3), .val (.int c4), .val (.int c5), .val (.int c6)] [(.ref b97), (.ref b97)]) := fun t_ k_ => R99 t_ (XS.dup X97.here hx rfl (hb hby d2_43) rfl rfl k_)
        have R101 : Go p e below P T97 (mkF m 45 #[.val (.int n), .val (.int c0), .val (.int c1), .val (.int c2), .val (.int c3), .val (.int c4), .val (.int c5), .val (.int c6)] [(.int (2 : Int32)), (.ref b97), (.ref b97)]) := fun t_ k_ => R100 t_ (XS.iconst X97.here hx rfl (hb hby d2_44) k_)
        obtain ⟨T102, h102, k102, X102, e102, E102, A102, st102⟩ := newP X97 hx hZ (hw _ (List.mem_of_getElem? (i := 11) rfl)) e97 (g := (mkF m 45 #[.val (.int n), .val (.int c0), .val (.int c1), .val (.int c2), .val (.int c3), .val (.int c4), .val (.int c5), .val (.int c6)] [(.int (2 : Int32)), (.ref b97), (.ref b97)])) rfl (hb hby d2_45) rfl (by decide) (cap := 2) (by decide) (by decide) (by decide) (by decide)
        obtain ⟨b102, g102⟩ : ∃ z, z = h97.size := ⟨_, rfl⟩
        rw [← g102] at A102 st102
        have O102 := O97.ext E102
        have V102 : Arv Z h102 b102 k102 .char (2 : Int32) [(.int (0 : Int32)), (.int (0 : Int32))] (.int (0 : Int32)) := (Arv.new A102 (by decide)).pad (pad_rep [] (.int (0 : Int32)) 2)
        have C103 := C98.trans (CHr.ext E102 C98.1)
        have hk103 := Nat.le_trans hk98 E102.1
        have Sb102 : Safe Z EL0 _ _ _ := Safe.ext E102 C98.1 (Safe.new (Nat.le_of_eq g102.symm))
        have R104 : Go p e below P T102 (mkF m 47 #[.val (.int n), .val (.int c0), .val (.int c1), .val (.int c2), .val (.int c3), .val (.int c4), .val (.int c5), .val (.int c6)] [(.ref b102), (.ref b97), (.ref b97)]) := fun t_ k_ => R101 t_ (st102 t_ k_)
        have R105 : Go p e below P T102 (mkF m 48 #[.val (.int n), .val (.int c0), .val (.int c1), .val (.int c2), .val (.int c3), .val (.int c4), .val (.int c5), .val (.int c6)] [(.ref b102), (.ref b102), (.ref b97), (.ref b97)]) := fun t_ k_ => R104 t_ (XS.dup X102.here hx rfl (hb hby d2_47) rfl rfl k_)
        have R106 : Go p e below P T102 (mkF m 49 #[.val (.int n), .val (.int c0), .val (.int c1), .val (.int c2), .val (.int c3), .val (.int c4), .val (.int c5), .val (.int c6)] [(.int (0 : Int32)), (.ref b102), (.ref b102), (.ref b97), (.ref b97)]) := fun t_ k_ => R105 t_ (XS.iconst X102.here hx rfl (hb hby d2_48) k_)
        have R107 : Go p e below P T102 (mkF m 50 #[.val (.int n), .val (.int c0), .val (.int c1), .val (.int c2), .val (.int c3), .val (.int c4), .val (.int c5), .val (.int c6)] [(.int c0), (.int (0 : Int32)), (.ref b102), (.ref b102), (.ref b97), (.ref b97)]) := fun t_ k_ => R106 t_ (XS.iloadN X102.here hx rfl (hb hby d2_49) rfl k_)
        obtain ⟨cl108, cl108A, cl108q, cl108S, cl108N, cl108H, cl108G⟩ := id V102
        obtain ⟨T109, h109, X109, e109, W109, st109⟩ := stC X102 hx hZ e102 cl108A (j := (0 : Int32)) (inb_of cl108S ⟨by decide, by decide⟩) (g := (mkF m 50 #[.val (.int n), .val (.int c0), .val (.int c1), .val (.int c2), .val (.int c3), .val (.int c4), .val (.int c5), .val (.int c6)] [(.int c0), (.int (0 : Int32)), (.ref b102), (.ref b102), (.ref b97), (.ref b97)])) rfl rfl (hb hby d2_50)
        have V109 : Arv Z h109 b102 k102 .char (2 : Int32) [(.int (nar .char c0)), (.int (0 : Int32))] (.int (0 : Int32)) := Arv.set cl108A cl108q cl108S cl108N cl108H cl108G (fits_nar_char _) W109 0 rfl (Nat.le_of_ble_eq_true rfl)
        have Sw110 : Safe Z EL0 _ _ b102 := Sb102
        have N109 := Fr.snoc X109 N0 (Nat.le_trans (oldLe O97) (Nat.le_of_eq g102.symm))
        have O109 := O102.wr W109 (Nat.le_trans (oldLe O97) (Nat.le_of_eq g102.symm))
        have V109s : Arv Z h109 b102 k102 .char (2 : Int32) [(.int c0), (.int (0 : Int32))] (.int (0 : Int32)) := by have q := V109; rw [hch0.1] at q; exact q
        have C111 := C103.trans (CHr.wr W109 Sw110 C103.1)
        have hk111 := Nat.le_trans hk103 (Keep.of_wr W109).1
        have R112 : Go p e below P T109 (mkF m 51 #[.val (.int n), .val (.int c0), .val (.int c1), .val (.int c2), .val (.int c3), .val (.int c4), .val (.int c5), .val (.int c6)] [(.ref b102), (.ref b97), (.ref b97)]) := fun t_ k_ => R107 t_ (st109 t_ k_)
        have R113 : Go p e below P T109 (mkF m 52 #[.val (.int n), .val (.int c0), .val (.int c1), .val (.int c2), .val (.int c3), .val (.int c4), .val (.int c5), .val (.int c6)] [(.ref b102), (.ref b102), (.ref b97), (.ref b97)]) := fun t_ k_ => R112 t_ (XS.dup X109.here hx rfl (hb hby d2_51) rfl rfl k_)
        have R114 : Go p e below P T109 (mkF m 53 #[.val (.int n), .val (.int c0), .val (.int c1), .val (.int c2), .val (.int c3), .val (.int c4), .val (.int c5), .val (.int c6)] [(.int (1 : Int32)), (.ref b102), (.ref b102), (.ref b97), (.ref b97)]) := fun t_ k_ => R113 t_ (XS.iconst X109.here hx rfl (hb hby d2_52) k_)
        have R115 : Go p e below P T109 (mkF m 54 #[.val (.int n), .val (.int c0), .val (.int c1), .val (.int c2), .val (.int c3), .val (.int c4), .val (.int c5), .val (.int c6)] [(.int c1), (.int (1 : Int32)), (.ref b102), (.ref b102), (.ref b97), (.ref b97)]) := fun t_ k_ => R114 t_ (XS.iloadN X109.here hx rfl (hb hby d2_53) rfl k_)
        obtain ⟨cl116, cl116A, cl116q, cl116S, cl116N, cl116H, cl116G⟩ := id V109s
        obtain ⟨T117, h117, X117, e117, W117, st117⟩ := stC X109 hx hZ e109 cl116A (j := (1 : Int32)) (inb_of cl116S ⟨by decide, by decide⟩) (g := (mkF m 54 #[.val (.int n), .val (.int c0), .val (.int c1), .val (.int c2), .val (.int c3), .val (.int c4), .val (.int c5), .val (.int c6)] [(.int c1), (.int (1 : Int32)), (.ref b102), (.ref b102), (.ref b97), (.ref b97)])) rfl rfl (hb hby d2_54)
        have V117 : Arv Z h117 b102 k102 .char (2 : Int32) [(.int c0), (.int (nar .char c1))] (.int (0 : Int32)) := Arv.set cl116A cl116q cl116S cl116N cl116H cl116G (fits_nar_char _) W117 1 rfl (Nat.le_of_ble_eq_true rfl)
        have f119 := (Safe.wr W109 Sw110 C103.1 Sw110)
        have Sw118 : Safe Z EL0 _ _ b102 := f119
        have N117 := Fr.snoc X117 N109 (Nat.le_trans (oldLe O97) (Nat.le_of_eq g102.symm))
        have O117 := O109.wr W117 (Nat.le_trans (oldLe O97) (Nat.le_of_eq g102.symm))
        have V117s : Arv Z h117 b102 k102 .char (2 : Int32) [(.int c0), (.int c1)] (.int (0 : Int32)) := by have q := V117; rw [hch1.1] at q; exact q
        have C120 := C111.trans (CHr.wr W117 Sw118 C111.1)
        have hk120 := Nat.le_trans hk111 (Keep.of_wr W117).1
        have R121 : Go p e below P T117 (mkF m 55 #[.val (.int n), .val (.int c0), .val (.int c1), .val (.int c2), .val (.int c3), .val (.int c4), .val (.int c5), .val (.int c6)] [(.ref b102), (.ref b97), (.ref b97)]) := fun t_ k_ => R115 t_ (st117 t_ k_)
        have f122 := (((A97.ext E102).wr W109).wr W117)
        have f123 := (((F97_24.ext E102).other W109 (Or.inl (Nat.ne_of_lt (Nat.lt_of_lt_of_le A97.lt (Nat.le_of_eq g102.symm))))).other W117 (Or.inl (Nat.ne_of_lt (Nat.lt_of_lt_of_le A97.lt (Nat.le_of_eq g102.symm)))))
        have f124 := (((F97_25.ext E102).other W109 (Or.inl (Nat.ne_of_lt (Nat.lt_of_lt_of_le A97.lt (Nat.le_of_eq g102.symm))))).other W117 (Or.inl (Nat.ne_of_lt (Nat.lt_of_lt_of_le A97.lt (Nat.le_of_eq g102.symm)))))
        have f126 := (Safe.wr W117 Sw118 C111.1 (Safe.wr W109 Sw110 C103.1 (Safe.ext E102 C98.1 Sb97)))
        have Sw125 : Safe Z EL0 _ _ b97 := f126
        obtain ⟨rv127, _, ⟨T127, L127, k127, n127⟩, -, X127, ⟨Lc127, hQ127, l127, y127, z127⟩, st127⟩ := X117.specialBack hx (y := (⟨"java/lang/String", "<init>", "([C)V"⟩ : MethodName)) rfl hown (mvT hZ (hw _ (List.mem_of_getElem? (i := 12) rfl))) (mvT hZ (hw _ (List.mem_of_getElem? (i := 13) rfl))) (mvT hZ (hw _ (List.mem_of_getElem? (i := 14) rfl))) (by decide) (StrChars.Road.backV (W := 1) hZ (w_backV hw) (kI := 4) (hw _ (List.mem_of_getElem? (i := 9) rfl)) (cs := ([c0, c1] : List Int32)) (bs := ([c0, c1] : List Int32).map (fun c => c.toInt8.toInt32)) (n := 2) (Nat.le_trans (oldLe O0) (Nat.le_of_eq g97.symm)) (oldLe O117) f122 f123 f124 V117s (P0.ext O117.2) hzc rfl rfl (by decide) (by decide) (by intro c hc; simp only [List.mem_cons, List.not_mem_nil, or_false] at hc; rcases hc with rfl | rfl <;> first | exact hch0.2 | exact hch1.2) rfl (by decide) (by decide)) (g := (mkF m 55 #[.val (.int n), .val (.int c0), .val (.int c1), .val (.int c2), .val (.int c3), .val (.int c4), .val (.int c5), .val (.int c6)] [(.ref b102), (.ref b97), (.ref b97)])) rfl (by rw [hml]; rfl) (Steps.refl _) (a := b97) (argsL := [(.ref b102)]) (rest := [(.ref b97)]) (lenOf pd_42155922 rfl) rfl (by show 2 * 0 + _ ≤ _; exact Nat.le_of_eq rfl) (hb hby d2_55) (fun _ _ => ⟨rfl, e117, (by decide : 2 + 1 ≤ _), (by decide : 6 + 2 ≤ _)⟩)
        dsimp only [Pt.U, Pt.locs, Pt.cells, Pt.slots] at X127 l127 y127 z127 st127 hQ127
        subst l127 y127 z127
        obtain ⟨rfl, N127q, K127, pE127, pC127, t127, kb127, -, lt127, tn127, pV127, pA127⟩ := hQ127
        have N127 := Fr.app N117 N127q
        have O127 := O117.keep K127 (allS (Nat.le_trans (oldLe O0) (Nat.le_of_eq g97.symm)) all0)
        have C128 := C120.trans (CHr.keep K127 (sfS Sw125 sf0) C120.1)
        have hk128 := Nat.le_trans hk120 K127.1
        have pB127 : Arv Z T127.heap t127 kb127 .byte (Int32.ofNat ([c0, c1] : List Int32).length) ((([c0, c1] : List Int32).map StrChars.lo8).map Value.int) (.int (0 : Int32)) := pA127
        have R129 : Go p e below P T127 (mkF m 58 #[.val (.int n), .val (.int c0), .val (.int c1), .val (.int c2), .val (.int c3), .val (.int c4), .val (.int c5), .val (.int c6)] [(.ref b97)]) := fun t_ k_ => R121 t_ (st127.trans k_)
        obtain ⟨fs, hr, hrun, hended, hend⟩ := X127.leaveW hS0 (by rw [(rfl : T127.heap = T127.heap)]; exact hk128 : _ ≤ T127.heap.size) (v := some (.ref b97)) (fun h => by rw [Bd.returns] at h; cases h)
        have hCe := C128.trans (CHv.at X127 hZ hEL C128.1)
        exact ⟨_, _, hP _ (R129 _ (retOut X127 hx Bd.returns rfl (Or.inr (Or.inr (Or.inr (Or.inr ⟨rfl, rfl, rfl⟩)))) (hb hby d2_58) hr)), hrun, hended, _, _, rfl, ⟨b97, t127, kb127, rfl, N127, ((((((Keep.refl h0 []).ext E97).ext E102).wr W109 (Or.inr (Nat.le_trans ((Keep.refl h0 []).ext E97).1 (Nat.le_of_eq g102.symm)))).wr W117 (Or.inr (Nat.le_trans ((Keep.refl h0 []).ext E97).1 (Nat.le_of_eq g102.symm)))).trans K127 (allS (Or.inr (Nat.le_of_eq g97.symm)) all0)), (Nat.le_of_eq g97.symm), pE127, pC127, pV127, (by rw [show strL n c0 c1 c2 c3 c4 c5 c6 = [c0, c1] from by simp [strL, hc47, hc66, hc95]]; exact pB127)⟩, (by show CHr Z EL0 s.vm s.heap T127.vm T127.heap; rw [hh, (rfl : T127.heap = T127.heap)]; exact hCe), ⟨hend.1, hend.2.1, hend.2.2.1, hend.2.2.2.mono (by decide) (by decide)⟩⟩
      · have R130 : Go p e below P s₁ (mkF m 59 #[.val (.int n), .val (.int c0), .val (.int c1), .val (.int c2), .val (.int c3), .val (.int c4), .val (.int c5), .val (.int c6)] []) := fun t_ k_ => R94 t_ (XS.icmpYes X0.here hx rfl (pc0 := 37) (pc' := 59) rfl (hb hby d2_37) rfl (feq hc95).2 (by decide) (by decide) k_)
        have R131 : Go p e below P s₁ (mkF m 60 #[.val (.int n), .val (.int c0), .val (.int c1), .val (.int c2), .val (.int c3), .val (.int c4), .val (.int c5), .val (.int c6)] [(.int n)]) := fun t_ k_ => R130 t_ (XS.iloadN X0.here hx rfl (hb hby d2_59) rfl k_)
        have R132 : Go p e below P s₁ (mkF m 61 #[.val (.int n), .val (.int c0), .val (.int c1), .val (.int c2), .val (.int c3), .val (.int c4), .val (.int c5), .val (.int c6)] [(.int (3 : Int32)), (.int n)]) := fun t_ k_ => R131 t_ (XS.iconst X0.here hx rfl (hb hby d2_60) k_)
        by_cases hc133 : n = (3 : Int32)
        · have R134 : Go p e below P s₁ (mkF m 64 #[.val (.int n), .val (.int c0), .val (.int c1), .val (.int c2), .val (.int c3), .val (.int c4), .val (.int c5), .val (.int c6)] []) := fun t_ k_ => R132 t_ (XS.icmpNo X0.here hx rfl (hb hby d2_61) rfl (teq hc133).2 k_)
          obtain ⟨T135, h135, X135, e135, E135, A135, D135, -, st135⟩ := newO X0 hx hZ hown (hw _ (List.mem_of_getElem? (i := 8) rfl)) (hw _ (List.mem_of_getElem? (i := 9) rfl)) (hw _ (List.mem_of_getElem? (i := 10) rfl)) e0 (g := (mkF m 64 #[.val (.int n), .val (.int c0), .val (.int c1), .val (.int c2), .val (.int c3), .val (.int c4), .val (.int c5), .val (.int c6)] [])) rfl (hb hby d2_64) (by decide) (by decide)
          obtain ⟨b135, g135⟩ : ∃ z, z = h0.size := ⟨_, rfl⟩
          rw [← g135] at A135 D135 st135
          have O135 := O0.ext E135
          have C136 := C0.trans (CHr.ext E135 C0.1)
          have hk136 := Nat.le_trans hk0 E135.1
          have Sb135 : Safe Z EL0 _ _ _ := Safe.ext E135 C0.1 (Safe.new (Nat.le_of_eq g135.symm))
          have F135_24 : Fld Z h135 b135 "java/lang/String" "value" "[B" .null := D135 (Or.inr (hw _ (List.mem_of_getElem? (i := 24) rfl))) (ty := (.array .byte)) (by decide)
          have F135_25 : Fld Z h135 b135 "java/lang/String" "coder" "B" (.int (0 : Int32)) := D135 (Or.inr (hw _ (List.mem_of_getElem? (i := 25) rfl))) (ty := .byte) (by decide)
          have R137 : Go p e below P T135 (mkF m 67 #[.val (.int n), .val (.int c0), .val (.int c1), .val (.int c2), .val (.int c3), .val (.int c4), .val (.int c5), .val (.int c6)] [(.ref b135)]) := fun t_ k_ => R134 t_ (st135 t_ k_)
          have R138 : Go p e below P T135 (mkF m 68 #[.val (.int n), .val (.int c0), .val (.int c1), .val (.int c2), .val (.int c3), .val (.int c4), .val (.int c5), .val (.int c6)] [(.ref b135), (.ref b135)]) := fun t_ k_ => R137 t_ (XS.dup X135.here hx rfl (hb hby d2_67) rfl rfl k_)
          have R139 : Go p e below P T135 (mkF m 69 #[.val (.int n), .val (.int c0), .val (.int c1), .val (.int c2), .val (.int c3), .val (.int c4), .val (.int c5), .val (.int c6)] [(.int (3 : Int32)), (.ref b135), (.ref b135)]) := fun t_ k_ => R138 t_ (XS.iconst X135.here hx rfl (hb hby d2_68) k_)
          obtain ⟨T140, h140, k140, X140, e140, E140, A140, st140⟩ := newP X135 hx hZ (hw _ (List.mem_of_getElem? (i := 11) rfl)) e135 (g := (mkF m 69 #[.val (.int n), .val (.int c0), .val (.int c1), .val (.int c2), .val (.int c3), .val (.int c4), .val (.int c5), .val (.int c6)] [(.int (3 : Int32)), (.ref b135), (.ref b135)])) rfl (hb hby d2_69) rfl (by decide) (cap := 3) (by decide) (by decide) (by decide) (by decide)
          obtain ⟨b140, g140⟩ : ∃ z, z = h135.size := ⟨_, rfl⟩
          rw [← g140] at A140 st140
          have O140 := O135.ext E140
          have V140 : Arv Z h140 b140 k140 .char (3 : Int32) [(.int (0 : Int32)), (.int (0 : Int32)), (.int (0 : Int32))] (.int (0 : Int32)) := (Arv.new A140 (by decide)).pad (pad_rep [] (.int (0 : Int32)) 3)
          have C141 := C136.trans (CHr.ext E140 C136.1)
          have hk141 := Nat.le_trans hk136 E140.1
          have Sb140 : Safe Z EL0 _ _ _ := Safe.ext E140 C136.1 (Safe.new (Nat.le_of_eq g140.symm))
          have R142 : Go p e below P T140 (mkF m 71 #[.val (.int n), .val (.int c0), .val (.int c1), .val (.int c2), .val (.int c3), .val (.int c4), .val (.int c5), .val (.int c6)] [(.ref b140), (.ref b135), (.ref b135)]) := fun t_ k_ => R139 t_ (st140 t_ k_)
          have R143 : Go p e below P T140 (mkF m 72 #[.val (.int n), .val (.int c0), .val (.int c1), .val (.int c2), .val (.int c3), .val (.int c4), .val (.int c5), .val (.int c6)] [(.ref b140), (.ref b140), (.ref b135), (.ref b135)]) := fun t_ k_ => R142 t_ (XS.dup X140.here hx rfl (hb hby d2_71) rfl rfl k_)
          have R144 : Go p e below P T140 (mkF m 73 #[.val (.int n), .val (.int c0), .val (.int c1), .val (.int c2), .val (.int c3), .val (.int c4), .val (.int c5), .val (.int c6)] [(.int (0 : Int32)), (.ref b140), (.ref b140), (.ref b135), (.ref b135)]) := fun t_ k_ => R143 t_ (XS.iconst X140.here hx rfl (hb hby d2_72) k_)
          have R145 : Go p e below P T140 (mkF m 74 #[.val (.int n), .val (.int c0), .val (.int c1), .val (.int c2), .val (.int c3), .val (.int c4), .val (.int c5), .val (.int c6)] [(.int c0), (.int (0 : Int32)), (.ref b140), (.ref b140), (.ref b135), (.ref b135)]) := fun t_ k_ => R144 t_ (XS.iloadN X140.here hx rfl (hb hby d2_73) rfl k_)
          obtain ⟨cl146, cl146A, cl146q, cl146S, cl146N, cl146H, cl146G⟩ := id V140
          obtain ⟨T147, h147, X147, e147, W147, st147⟩ := stC X140 hx hZ e140 cl146A (j := (0 : Int32)) (inb_of cl146S ⟨by decide, by decide⟩) (g := (mkF m 74 #[.val (.int n), .val (.int c0), .val (.int c1), .val (.int c2), .val (.int c3), .val (.int c4), .val (.int c5), .val (.int c6)] [(.int c0), (.int (0 : Int32)), (.ref b140), (.ref b140), (.ref b135), (.ref b135)])) rfl rfl (hb hby d2_74)
          have V147 : Arv Z h147 b140 k140 .char (3 : Int32) [(.int (nar .char c0)), (.int (0 : Int32)), (.int (0 : Int32))] (.int (0 : Int32)) := Arv.set cl146A cl146q cl146S cl146N cl146H cl146G (fits_nar_char _) W147 0 rfl (Nat.le_of_ble_eq_true rfl)
          have Sw148 : Safe Z EL0 _ _ b140 := Sb140
          have N147 := Fr.snoc X147 N0 (Nat.le_trans (oldLe O135) (Nat.le_of_eq g140.symm))
          have O147 := O140.wr W147 (Nat.le_trans (oldLe O135) (Nat.le_of_eq g140.symm))
          have V147s : Arv Z h147 b140 k140 .char (3 : Int32) [(.int c0), (.int (0 : Int32)), (.int (0 : Int32))] (.int (0 : Int32)) := by have q := V147; rw [hch0.1] at q; exact q
          have C149 := C141.trans (CHr.wr W147 Sw148 C141.1)
          have hk149 := Nat.le_trans hk141 (Keep.of_wr W147).1
          have R150 : Go p e below P T147 (mkF m 75 #[.val (.int n), .val (.int c0), .val (.int c1), .val (.int c2), .val (.int c3), .val (.int c4), .val (.int c5), .val (.int c6)] [(.ref b140), (.ref b135), (.ref b135)]) := fun t_ k_ => R145 t_ (st147 t_ k_)
          have R151 : Go p e below P T147 (mkF m 76 #[.val (.int n), .val (.int c0), .val (.int c1), .val (.int c2), .val (.int c3), .val (.int c4), .val (.int c5), .val (.int c6)] [(.ref b140), (.ref b140), (.ref b135), (.ref b135)]) := fun t_ k_ => R150 t_ (XS.dup X147.here hx rfl (hb hby d2_75) rfl rfl k_)
          have R152 : Go p e below P T147 (mkF m 77 #[.val (.int n), .val (.int c0), .val (.int c1), .val (.int c2), .val (.int c3), .val (.int c4), .val (.int c5), .val (.int c6)] [(.int (1 : Int32)), (.ref b140), (.ref b140), (.ref b135), (.ref b135)]) := fun t_ k_ => R151 t_ (XS.iconst X147.here hx rfl (hb hby d2_76) k_)
          have R153 : Go p e below P T147 (mkF m 78 #[.val (.int n), .val (.int c0), .val (.int c1), .val (.int c2), .val (.int c3), .val (.int c4), .val (.int c5), .val (.int c6)] [(.int c1), (.int (1 : Int32)), (.ref b140), (.ref b140), (.ref b135), (.ref b135)]) := fun t_ k_ => R152 t_ (XS.iloadN X147.here hx rfl (hb hby d2_77) rfl k_)
          obtain ⟨cl154, cl154A, cl154q, cl154S, cl154N, cl154H, cl154G⟩ := id V147s
          obtain ⟨T155, h155, X155, e155, W155, st155⟩ := stC X147 hx hZ e147 cl154A (j := (1 : Int32)) (inb_of cl154S ⟨by decide, by decide⟩) (g := (mkF m 78 #[.val (.int n), .val (.int c0), .val (.int c1), .val (.int c2), .val (.int c3), .val (.int c4), .val (.int c5), .val (.int c6)] [(.int c1), (.int (1 : Int32)), (.ref b140), (.ref b140), (.ref b135), (.ref b135)])) rfl rfl (hb hby d2_78)
          have V155 : Arv Z h155 b140 k140 .char (3 : Int32) [(.int c0), (.int (nar .char c1)), (.int (0 : Int32))] (.int (0 : Int32)) := Arv.set cl154A cl154q cl154S cl154N cl154H cl154G (fits_nar_char _) W155 1 rfl (Nat.le_of_ble_eq_true rfl)
          have f157 := (Safe.wr W147 Sw148 C141.1 Sw148)
          have Sw156 : Safe Z EL0 _ _ b140 := f157
          have N155 := Fr.snoc X155 N147 (Nat.le_trans (oldLe O135) (Nat.le_of_eq g140.symm))
          have O155 := O147.wr W155 (Nat.le_trans (oldLe O135) (Nat.le_of_eq g140.symm))
          have V155s : Arv Z h155 b140 k140 .char (3 : Int32) [(.int c0), (.int c1), (.int (0 : Int32))] (.int (0 : Int32)) := by have q := V155; rw [hch1.1] at q; exact q
          have C158 := C149.trans (CHr.wr W155 Sw156 C149.1)
          have hk158 := Nat.le_trans hk149 (Keep.of_wr W155).1
          have R159 : Go p e below P T155 (mkF m 79 #[.val (.int n), .val (.int c0), .val (.int c1), .val (.int c2), .val (.int c3), .val (.int c4), .val (.int c5), .val (.int c6)] [(.ref b140), (.ref b135), (.ref b135)]) := fun t_ k_ => R153 t_ (st155 t_ k_)
          have R160 : Go p e below P T155 (mkF m 80 #[.val (.int n), .val (.int c0), .val (.int c1), .val (.int c2), .val (.int c3), .val (.int c4), .val (.int c5), .val (.int c6)] [(.ref b140), (.ref b140), (.ref b135), (.ref b135)]) := fun t_ k_ => R159 t_ (XS.dup X155.here hx rfl (hb hby d2_79) rfl rfl k_)
          have R161 : Go p e below P T155 (mkF m 81 #[.val (.int n), .val (.int c0), .val (.int c1), .val (.int c2), .val (.int c3), .val (.int c4), .val (.int c5), .val (.int c6)] [(.int (2 : Int32)), (.ref b140), (.ref b140), (.ref b135), (.ref b135)]) := fun t_ k_ => R160 t_ (XS.iconst X155.here hx rfl (hb hby d2_80) k_)
          have R162 : Go p e below P T155 (mkF m 82 #[.val (.int n), .val (.int c0), .val (.int c1), .val (.int c2), .val (.int c3), .val (.int c4), .val (.int c5), .val (.int c6)] [(.int c2), (.int (2 : Int32)), (.ref b140), (.ref b140), (.ref b135), (.ref b135)]) := fun t_ k_ => R161 t_ (XS.iloadN X155.here hx rfl (hb hby d2_81) rfl k_)
          obtain ⟨cl163, cl163A, cl163q, cl163S, cl163N, cl163H, cl163G⟩ := id V155s
          obtain ⟨T164, h164, X164, e164, W164, st164⟩ := stC X155 hx hZ e155 cl163A (j := (2 : Int32)) (inb_of cl163S ⟨by decide, by decide⟩) (g := (mkF m 82 #[.val (.int n), .val (.int c0), .val (.int c1), .val (.int c2), .val (.int c3), .val (.int c4), .val (.int c5), .val (.int c6)] [(.int c2), (.int (2 : Int32)), (.ref b140), (.ref b140), (.ref b135), (.ref b135)])) rfl rfl (hb hby d2_82)
          have V164 : Arv Z h164 b140 k140 .char (3 : Int32) [(.int c0), (.int c1), (.int (nar .char c2))] (.int (0 : Int32)) := Arv.set cl163A cl163q cl163S cl163N cl163H cl163G (fits_nar_char _) W164 2 rfl (Nat.le_of_ble_eq_true rfl)
          have f166 := (Safe.wr W155 Sw156 C149.1 Sw156)
          have Sw165 : Safe Z EL0 _ _ b140 := f166
          have N164 := Fr.snoc X164 N155 (Nat.le_trans (oldLe O135) (Nat.le_of_eq g140.symm))
          have O164 := O155.wr W164 (Nat.le_trans (oldLe O135) (Nat.le_of_eq g140.symm))
          have V164s : Arv Z h164 b140 k140 .char (3 : Int32) [(.int c0), (.int c1), (.int c2)] (.int (0 : Int32)) := by have q := V164; rw [hch2.1] at q; exact q
          have C167 := C158.trans (CHr.wr W164 Sw165 C158.1)
          have hk167 := Nat.le_trans hk158 (Keep.of_wr W164).1
          have R168 : Go p e below P T164 (mkF m 83 #[.val (.int n), .val (.int c0), .val (.int c1), .val (.int c2), .val (.int c3), .val (.int c4), .val (.int c5), .val (.int c6)] [(.ref b140), (.ref b135), (.ref b135)]) := fun t_ k_ => R162 t_ (st164 t_ k_)
          have f169 := ((((A135.ext E140).wr W147).wr W155).wr W164)
          have f170 := ((((F135_24.ext E140).other W147 (Or.inl (Nat.ne_of_lt (Nat.lt_of_lt_of_le A135.lt (Nat.le_of_eq g140.symm))))).other W155 (Or.inl (Nat.ne_of_lt (Nat.lt_of_lt_of_le A135.lt (Nat.le_of_eq g140.symm))))).other W164 (Or.inl (Nat.ne_of_lt (Nat.lt_of_lt_of_le A135.lt (Nat.le_of_eq g140.symm)))))
          have f171 := ((((F135_25.ext E140).other W147 (Or.inl (Nat.ne_of_lt (Nat.lt_of_lt_of_le A135.lt (Nat.le_of_eq g140.symm))))).other W155 (Or.inl (Nat.ne_of_lt (Nat.lt_of_lt_of_le A135.lt (Nat.le_of_eq g140.symm))))).other W164 (Or.inl (Nat.ne_of_lt (Nat.lt_of_lt_of_le A135.lt (Nat.le_of_eq g140.symm)))))
          have f173 := (Safe.wr W164 Sw165 C158.1 (Safe.wr W155 Sw156 C149.1 (Safe.wr W147 Sw148 C141.1 (Safe.ext E140 C136.1 Sb135))))
          have Sw172 : Safe Z EL0 _ _ b135 := f173
          obtain ⟨rv174, _, ⟨T174, L174, k174, n174⟩, -, X174, ⟨Lc174, hQ174, l174, y174, z174⟩, st174⟩ := X164.specialBack hx (y := (⟨"java/lang/String", "<init>", "([C)V"⟩ : MethodName)) rfl hown (mvT hZ (hw _ (List.mem_of_getElem? (i := 12) rfl))) (mvT hZ (hw _ (List.mem_of_getElem? (i := 13) rfl))) (mvT hZ (hw _ (List.mem_of_getElem? (i := 14) rfl))) (by decide) (StrChars.Road.backV (W := 1) hZ (w_backV hw) (kI := 4) (hw _ (List.mem_of_getElem? (i := 9) rfl)) (cs := ([c0, c1, c2] : List Int32)) (bs := ([c0, c1, c2] : List Int32).map (fun c => c.toInt8.toInt32)) (n := 3) (Nat.le_trans (oldLe O0) (Nat.le_of_eq g135.symm)) (oldLe O164) f169 f170 f171 V164s (P0.ext O164.2) hzc rfl rfl (by decide) (by decide) (by intro c hc; simp only [List.mem_cons, List.not_mem_nil, or_false] at hc; rcases hc with rfl | rfl | rfl <;> first | exact hch0.2 | exact hch1.2 | exact hch2.2) rfl (by decide) (by decide)) (g := (mkF m 83 #[.val (.int n), .val (.int c0), .val (.int c1), .val (.int c2), .val (.int c3), .val (.int c4), .val (.int c5), .val (.int c6)] [(.ref b140), (.ref b135), (.ref b135)])) rfl (by rw [hml]; rfl) (Steps.refl _) (a := b135) (argsL := [(.ref b140)]) (rest := [(.ref b135)]) (lenOf pd_42155922 rfl) rfl (by show 2 * 0 + _ ≤ _; exact Nat.le_of_eq rfl) (hb hby d2_83) (fun _ _ => ⟨rfl, e164, (by decide : 2 + 1 ≤ _), (by decide : 7 + 3 ≤ _)⟩)
          dsimp only [Pt.U, Pt.locs, Pt.cells, Pt.slots] at X174 l174 y174 z174 st174 hQ174
          subst l174 y174 z174
          obtain ⟨rfl, N174q, K174, pE174, pC174, t174, kb174, -, lt174, tn174, pV174, pA174⟩ := hQ174
          have N174 := Fr.app N164 N174q
          have O174 := O164.keep K174 (allS (Nat.le_trans (oldLe O0) (Nat.le_of_eq g135.symm)) all0)
          have C175 := C167.trans (CHr.keep K174 (sfS Sw172 sf0) C167.1)
          have hk175 := Nat.le_trans hk167 K174.1
          have pB174 : Arv Z T174.heap t174 kb174 .byte (Int32.ofNat ([c0, c1, c2] : List Int32).length) ((([c0, c1, c2] : List Int32).map StrChars.lo8).map Value.int) (.int (0 : Int32)) := pA174
          have R176 : Go p e below P T174 (mkF m 86 #[.val (.int n), .val (.int c0), .val (.int c1), .val (.int c2), .val (.int c3), .val (.int c4), .val (.int c5), .val (.int c6)] [(.ref b135)]) := fun t_ k_ => R168 t_ (st174.trans k_)
          obtain ⟨fs, hr, hrun, hended, hend⟩ := X174.leaveW hS0 (by rw [(rfl : T174.heap = T174.heap)]; exact hk175 : _ ≤ T174.heap.size) (v := some (.ref b135)) (fun h => by rw [Bd.returns] at h; cases h)
          have hCe := C175.trans (CHv.at X174 hZ hEL C175.1)
          exact ⟨_, _, hP _ (R176 _ (retOut X174 hx Bd.returns rfl (Or.inr (Or.inr (Or.inr (Or.inr ⟨rfl, rfl, rfl⟩)))) (hb hby d2_86) hr)), hrun, hended, _, _, rfl, ⟨b135, t174, kb174, rfl, N174, (((((((Keep.refl h0 []).ext E135).ext E140).wr W147 (Or.inr (Nat.le_trans ((Keep.refl h0 []).ext E135).1 (Nat.le_of_eq g140.symm)))).wr W155 (Or.inr (Nat.le_trans ((Keep.refl h0 []).ext E135).1 (Nat.le_of_eq g140.symm)))).wr W164 (Or.inr (Nat.le_trans ((Keep.refl h0 []).ext E135).1 (Nat.le_of_eq g140.symm)))).trans K174 (allS (Or.inr (Nat.le_of_eq g135.symm)) all0)), (Nat.le_of_eq g135.symm), pE174, pC174, pV174, (by rw [show strL n c0 c1 c2 c3 c4 c5 c6 = [c0, c1, c2] from by simp [strL, hc47, hc66, hc95, hc133]]; exact pB174)⟩, (by show CHr Z EL0 s.vm s.heap T174.vm T174.heap; rw [hh, (rfl : T174.heap = T174.heap)]; exact hCe), ⟨hend.1, hend.2.1, hend.2.2.1, hend.2.2.2.mono (by decide) (by decide)⟩⟩
        · have R177 : Go p e below P s₁ (mkF m 87 #[.val (.int n), .val (.int c0), .val (.int c1), .val (.int c2), .val (.int c3), .val (.int c4), .val (.int c5), .val (.int c6)] []) := fun t_ k_ => R132 t_ (XS.icmpYes X0.here hx rfl (pc0 := 61) (pc' := 87) rfl (hb hby d2_61) rfl (feq hc133).2 (by decide) (by decide) k_)
          have R178 : Go p e below P s₁ (mkF m 88 #[.val (.int n), .val (.int c0), .val (.int c1), .val (.int c2), .val (.int c3), .val (.int c4), .val (.int c5), .val (.int c6)] [(.int n)]) := fun t_ k_ => R177 t_ (XS.iloadN X0.here hx rfl (hb hby d2_87) rfl k_)
          have R179 : Go p e below P s₁ (mkF m 89 #[.val (.int n), .val (.int c0), .val (.int c1), .val (.int c2), .val (.int c3), .val (.int c4), .val (.int c5), .val (.int c6)] [(.int (4 : Int32)), (.int n)]) := fun t_ k_ => R178 t_ (XS.iconst X0.here hx rfl (hb hby d2_88) k_)
          by_cases hc180 : n = (4 : Int32)
          · have R181 : Go p e below P s₁ (mkF m 92 #[.val (.int n), .val (.int c0), .val (.int c1), .val (.int c2), .val (.int c3), .val (.int c4), .val (.int c5), .val (.int c6)] []) := fun t_ k_ => R179 t_ (XS.icmpNo X0.here hx rfl (hb hby d2_89) rfl (teq hc180).2 k_)
            obtain ⟨T182, h182, X182, e182, E182, A182, D182, -, st182⟩ := newO X0 hx hZ hown (hw _ (List.mem_of_getElem? (i := 8) rfl)) (hw _ (List.mem_of_getElem? (i := 9) rfl)) (hw _ (List.mem_of_getElem? (i := 10) rfl)) e0 (g := (mkF m 92 #[.val (.int n), .val (.int c0), .val (.int c1), .val (.int c2), .val (.int c3), .val (.int c4), .val (.int c5), .val (.int c6)] [])) rfl (hb hby d2_92) (by decide) (by decide)
            obtain ⟨b182, g182⟩ : ∃ z, z = h0.size := ⟨_, rfl⟩
            rw [← g182] at A182 D182 st182
            have O182 := O0.ext E182
            have C183 := C0.trans (CHr.ext E182 C0.1)
            have hk183 := Nat.le_trans hk0 E182.1
            have Sb182 : Safe Z EL0 _ _ _ := Safe.ext E182 C0.1 (Safe.new (Nat.le_of_eq g182.symm))
            have F182_24 : Fld Z h182 b182 "java/lang/String" "value" "[B" .null := D182 (Or.inr (hw _ (List.mem_of_getElem? (i := 24) rfl))) (ty := (.array .byte)) (by decide)
            have F182_25 : Fld Z h182 b182 "java/lang/String" "coder" "B" (.int (0 : Int32)) := D182 (Or.inr (hw _ (List.mem_of_getElem? (i := 25) rfl))) (ty := .byte) (by decide)
            have R184 : Go p e below P T182 (mkF m 95 #[.val (.int n), .val (.int c0), .val (.int c1), .val (.int c2), .val (.int c3), .val (.int c4), .val (.int c5), .val (.int c6)] [(.ref b182)]) := fun t_ k_ => R181 t_ (st182 t_ k_)
            have R185 : Go p e below P T182 (mkF m 96 #[.val (.int n), .val (.int c0), .val (.int c1), .val (.int c2), .val (.int c3), .val (.int c4), .val (.int c5), .val (.int c6)] [(.ref b182), (.ref b182)]) := fun t_ k_ => R184 t_ (XS.dup X182.here hx rfl (hb hby d2_95) rfl rfl k_)
            have R186 : Go p e below P T182 (mkF m 97 #[.val (.int n), .val (.int c0), .val (.int c1), .val (.int c2), .val (.int c3), .val (.int c4), .val (.int c5), .val (.int c6)] [(.int (4 : Int32)), (.ref b182), (.ref b182)]) := fun t_ k_ => R185 t_ (XS.iconst X182.here hx rfl (hb hby d2_96) k_)
            obtain ⟨T187, h187, k187, X187, e187, E187, A187, st187⟩ := newP X182 hx hZ (hw _ (List.mem_of_getElem? (i := 11) rfl)) e182 (g := (mkF m 97 #[.val (.int n), .val (.int c0), .val (.int c1), .val (.int c2), .val (.int c3), .val (.int c4), .val (.int c5), .val (.int c6)] [(.int (4 : Int32)), (.ref b182), (.ref b182)])) rfl (hb hby d2_97) rfl (by decide) (cap := 4) (by decide) (by decide) (by decide) (by decide)
            obtain ⟨b187, g187⟩ : ∃ z, z = h182.size := ⟨_, rfl⟩
            rw [← g187] at A187 st187
            have O187 := O182.ext E187
            have V187 : Arv Z h187 b187 k187 .char (4 : Int32) [(.int (0 : Int32)), (.int (0 : Int32)), (.int (0 : Int32)), (.int (0 : Int32))] (.int (0 : Int32)) := (Arv.new A187 (by decide)).pad (pad_rep [] (.int (0 : Int32)) 4)
            have C188 := C183.trans (CHr.ext E187 C183.1)
            have hk188 := Nat.le_trans hk183 E187.1
            have Sb187 : Safe Z EL0 _ _ _ := Safe.ext E187 C183.1 (Safe.new (Nat.le_of_eq g187.symm))
            have R189 : Go p e below P T187 (mkF m 99 #[.val (.int n), .val (.int c0), .val (.int c1), .val (.int c2), .val (.int c3), .val (.int c4), .val (.int c5), .val (.int c6)] [(.ref b187), (.ref b182), (.ref b182)]) := fun t_ k_ => R186 t_ (st187 t_ k_)
            have R190 : Go p e below P T187 (mkF m 100 #[.val (.int n), .val (.int c0), .val (.int c1), .val (.int c2), .val (.int c3), .val (.int c4), .val (.int c5), .val (.int c6)] [(.ref b187), (.ref b187), (.ref b182), (.ref b182)]) := fun t_ k_ => R189 t_ (XS.dup X187.here hx rfl (hb hby d2_99) rfl rfl k_)
            have R191 : Go p e below P T187 (mkF m 101 #[.val (.int n), .val (.int c0), .val (.int c1), .val (.int c2), .val (.int c3), .val (.int c4), .val (.int c5), .val (.int c6)] [(.int (0 : Int32)), (.ref b187), (.ref b187), (.ref b182), (.ref b182)]) := fun t_ k_ => R190 t_ (XS.iconst X187.here hx rfl (hb hby d2_100) k_)
            have R192 : Go p e below P T187 (mkF m 102 #[.val (.int n), .val (.int c0), .val (.int c1), .val (.int c2), .val (.int c3), .val (.int c4), .val (.int c5), .val (.int c6)] [(.int c0), (.int (0 : Int32)), (.ref b187), (.ref b187), (.ref b182), (.ref b182)]) := fun t_ k_ => R191 t_ (XS.iloadN X187.here hx rfl (hb hby d2_101) rfl k_)
            obtain ⟨cl193, cl193A, cl193q, cl193S, cl193N, cl193H, cl193G⟩ := id V187
            obtain ⟨T194, h194, X194, e194, W194, st194⟩ := stC X187 hx hZ e187 cl193A (j := (0 : Int32)) (inb_of cl193S ⟨by decide, by decide⟩) (g := (mkF m 102 #[.val (.int n), .val (.int c0), .val (.int c1), .val (.int c2), .val (.int c3), .val (.int c4), .val (.int c5), .val (.int c6)] [(.int c0), (.int (0 : Int32)), (.ref b187), (.ref b187), (.ref b182), (.ref b182)])) rfl rfl (hb hby d2_102)
            have V194 : Arv Z h194 b187 k187 .char (4 : Int32) [(.int (nar .char c0)), (.int (0 : Int32)), (.int (0 : Int32)), (.int (0 : Int32))] (.int (0 : Int32)) := Arv.set cl193A cl193q cl193S cl193N cl193H cl193G (fits_nar_char _) W194 0 rfl (Nat.le_of_ble_eq_true rfl)
            have Sw195 : Safe Z EL0 _ _ b187 := Sb187
            have N194 := Fr.snoc X194 N0 (Nat.le_trans (oldLe O182) (Nat.le_of_eq g187.symm))
            have O194 := O187.wr W194 (Nat.le_trans (oldLe O182) (Nat.le_of_eq g187.symm))
            have V194s : Arv Z h194 b187 k187 .char (4 : Int32) [(.int c0), (.int (0 : Int32)), (.int (0 : Int32)), (.int (0 : Int32))] (.int (0 : Int32)) := by have q := V194; rw [hch0.1] at q; exact q
            have C196 := C188.trans (CHr.wr W194 Sw195 C188.1)
            have hk196 := Nat.le_trans hk188 (Keep.of_wr W194).1
            have R197 : Go p e below P T194 (mkF m 103 #[.val (.int n), .val (.int c0), .val (.int c1), .val (.int c2), .val (.int c3), .val (.int c4), .val (.int c5), .val (.int c6)] [(.ref b187), (.ref b182), (.ref b182)]) := fun t_ k_ => R192 t_ (st194 t_ k_)
            have R198 : Go p e below P T194 (mkF m 104 #[.val (.int n), .val (.int c0), .val (.int c1), .val (.int c2), .val (.int c3), .val (.int c4), .val (.int c5), .val (.int c6)] [(.ref b187), (.ref b187), (.ref b182), (.ref b182)]) := fun t_ k_ => R197 t_ (XS.dup X194.here hx rfl (hb hby d2_103) rfl rfl k_)
            have R199 : Go p e below P T194 (mkF m 105 #[.val (.int n), .val (.int c0), .val (.int c1), .val (.int c2), .val (.int c3), .val (.int c4), .val (.int c5), .val (.int c6)] [(.int (1 : Int32)), (.ref b187), (.ref b187), (.ref b182), (.ref b182)]) := fun t_ k_ => R198 t_ (XS.iconst X194.here hx rfl (hb hby d2_104) k_)
            have R200 : Go p e below P T194 (mkF m 106 #[.val (.int n), .val (.int c0), .val (.int c1), .val (.int c2), .val (.int c3), .val (.int c4), .val (.int c5), .val (.int c6)] [(.int c1), (.int (1 : Int32)), (.ref b187), (.ref b187), (.ref b182), (.ref b182)]) := fun t_ k_ => R199 t_ (XS.iloadN X194.here hx rfl (hb hby d2_105) rfl k_)
            obtain ⟨cl201, cl201A, cl201q, cl201S, cl201N, cl201H, cl201G⟩ := id V194s
            obtain ⟨T202, h202, X202, e202, W202, st202⟩ := stC X194 hx hZ e194 cl201A (j := (1 : Int32)) (inb_of cl201S ⟨by decide, by decide⟩) (g := (mkF m 106 #[.val (.int n), .val (.int c0), .val (.int c1), .val (.int c2), .val (.int c3), .val (.int c4), .val (.int c5), .val (.int c6)] [(.int c1), (.int (1 : Int32)), (.ref b187), (.ref b187), (.ref b182), (.ref b182)])) rfl rfl (hb hby d2_106)
            have V202 : Arv Z h202 b187 k187 .char (4 : Int32) [(.int c0), (.int (nar .char c1)), (.int (0 : Int32)), (.int (0 : Int32))] (.int (0 : Int32)) := Arv.set cl201A cl201q cl201S cl201N cl201H cl201G (fits_nar_char _) W202 1 rfl (Nat.le_of_ble_eq_true rfl)
            have f204 := (Safe.wr W194 Sw195 C188.1 Sw195)
            have Sw203 : Safe Z EL0 _ _ b187 := f204
            have N202 := Fr.snoc X202 N194 (Nat.le_trans (oldLe O182) (Nat.le_of_eq g187.symm))
            have O202 := O194.wr W202 (Nat.le_trans (oldLe O182) (Nat.le_of_eq g187.symm))
            have V202s : Arv Z h202 b187 k187 .char (4 : Int32) [(.int c0), (.int c1), (.int (0 : Int32)), (.int (0 : Int32))] (.int (0 : Int32)) := by have q := V202; rw [hch1.1] at q; exact q
            have C205 := C196.trans (CHr.wr W202 Sw203 C196.1)
            have hk205 := Nat.le_trans hk196 (Keep.of_wr W202).1
            have R206 : Go p e below P T202 (mkF m 107 #[.val (.int n), .val (.int c0), .val (.int c1), .val (.int c2), .val (.int c3), .val (.int c4), .val (.int c5), .val (.int c6)] [(.ref b187), (.ref b182), (.ref b182)]) := fun t_ k_ => R200 t_ (st202 t_ k_)
            have R207 : Go p e below P T202 (mkF m 108 #[.val (.int n), .val (.int c0), .val (.int c1), .val (.int c2), .val (.int c3), .val (.int c4), .val (.int c5), .val (.int c6)] [(.ref b187), (.ref b187), (.ref b182), (.ref b182)]) := fun t_ k_ => R206 t_ (XS.dup X202.here hx rfl (hb hby d2_107) rfl rfl k_)
            have R208 : Go p e below P T202 (mkF m 109 #[.val (.int n), .val (.int c0), .val (.int c1), .val (.int c2), .val (.int c3), .val (.int c4), .val (.int c5), .val (.int c6)] [(.int (2 : Int32)), (.ref b187), (.ref b187), (.ref b182), (.ref b182)]) := fun t_ k_ => R207 t_ (XS.iconst X202.here hx rfl (hb hby d2_108) k_)
            have R209 : Go p e below P T202 (mkF m 110 #[.val (.int n), .val (.int c0), .val (.int c1), .val (.int c2), .val (.int c3), .val (.int c4), .val (.int c5), .val (.int c6)] [(.int c2), (.int (2 : Int32)), (.ref b187), (.ref b187), (.ref b182), (.ref b182)]) := fun t_ k_ => R208 t_ (XS.iloadN X202.here hx rfl (hb hby d2_109) rfl k_)
            obtain ⟨cl210, cl210A, cl210q, cl210S, cl210N, cl210H, cl210G⟩ := id V202s
            obtain ⟨T211, h211, X211, e211, W211, st211⟩ := stC X202 hx hZ e202 cl210A (j := (2 : Int32)) (inb_of cl210S ⟨by decide, by decide⟩) (g := (mkF m 110 #[.val (.int n), .val (.int c0), .val (.int c1), .val (.int c2), .val (.int c3), .val (.int c4), .val (.int c5), .val (.int c6)] [(.int c2), (.int (2 : Int32)), (.ref b187), (.ref b187), (.ref b182), (.ref b182)])) rfl rfl (hb hby d2_110)
            have V211 : Arv Z h211 b187 k187 .char (4 : Int32) [(.int c0), (.int c1), (.int (nar .char c2)), (.int (0 : Int32))] (.int (0 : Int32)) := Arv.set cl210A cl210q cl210S cl210N cl210H cl210G (fits_nar_char _) W211 2 rfl (Nat.le_of_ble_eq_true rfl)
            have f213 := (Safe.wr W202 Sw203 C196.1 Sw203)
            have Sw212 : Safe Z EL0 _ _ b187 := f213
            have N211 := Fr.snoc X211 N202 (Nat.le_trans (oldLe O182) (Nat.le_of_eq g187.symm))
            have O211 := O202.wr W211 (Nat.le_trans (oldLe O182) (Nat.le_of_eq g187.symm))
            have V211s : Arv Z h211 b187 k187 .char (4 : Int32) [(.int c0), (.int c1), (.int c2), (.int (0 : Int32))] (.int (0 : Int32)) := by have q := V211; rw [hch2.1] at q; exact q
            have C214 := C205.trans (CHr.wr W211 Sw212 C205.1)
            have hk214 := Nat.le_trans hk205 (Keep.of_wr W211).1
            have R215 : Go p e below P T211 (mkF m 111 #[.val (.int n), .val (.int c0), .val (.int c1), .val (.int c2), .val (.int c3), .val (.int c4), .val (.int c5), .val (.int c6)] [(.ref b187), (.ref b182), (.ref b182)]) := fun t_ k_ => R209 t_ (st211 t_ k_)
            have R216 : Go p e below P T211 (mkF m 112 #[.val (.int n), .val (.int c0), .val (.int c1), .val (.int c2), .val (.int c3), .val (.int c4), .val (.int c5), .val (.int c6)] [(.ref b187), (.ref b187), (.ref b182), (.ref b182)]) := fun t_ k_ => R215 t_ (XS.dup X211.here hx rfl (hb hby d2_111) rfl rfl k_)
            have R217 : Go p e below P T211 (mkF m 113 #[.val (.int n), .val (.int c0), .val (.int c1), .val (.int c2), .val (.int c3), .val (.int c4), .val (.int c5), .val (.int c6)] [(.int (3 : Int32)), (.ref b187), (.ref b187), (.ref b182), (.ref b182)]) := fun t_ k_ => R216 t_ (XS.iconst X211.here hx rfl (hb hby d2_112) k_)
            have R218 : Go p e below P T211 (mkF m 115 #[.val (.int n), .val (.int c0), .val (.int c1), .val (.int c2), .val (.int c3), .val (.int c4), .val (.int c5), .val (.int c6)] [(.int c3), (.int (3 : Int32)), (.ref b187), (.ref b187), (.ref b182), (.ref b182)]) := fun t_ k_ => R217 t_ (XS.iload X211.here hx rfl (hb hby d2_113) rfl k_)
            obtain ⟨cl219, cl219A, cl219q, cl219S, cl219N, cl219H, cl219G⟩ := id V211s
            obtain ⟨T220, h220, X220, e220, W220, st220⟩ := stC X211 hx hZ e211 cl219A (j := (3 : Int32)) (inb_of cl219S ⟨by decide, by decide⟩) (g := (mkF m 115 #[.val (.int n), .val (.int c0), .val (.int c1), .val (.int c2), .val (.int c3), .val (.int c4), .val (.int c5), .val (.int c6)] [(.int c3), (.int (3 : Int32)), (.ref b187), (.ref b187), (.ref b182), (.ref b182)])) rfl rfl (hb hby d2_115)
            have V220 : Arv Z h220 b187 k187 .char (4 : Int32) [(.int c0), (.int c1), (.int c2), (.int (nar .char c3))] (.int (0 : Int32)) := Arv.set cl219A cl219q cl219S cl219N cl219H cl219G (fits_nar_char _) W220 3 rfl (Nat.le_of_ble_eq_true rfl)
            have f222 := (Safe.wr W211 Sw212 C205.1 Sw212)
            have Sw221 : Safe Z EL0 _ _ b187 := f222
            have N220 := Fr.snoc X220 N211 (Nat.le_trans (oldLe O182) (Nat.le_of_eq g187.symm))
            have O220 := O211.wr W220 (Nat.le_trans (oldLe O182) (Nat.le_of_eq g187.symm))
            have V220s : Arv Z h220 b187 k187 .char (4 : Int32) [(.int c0), (.int c1), (.int c2), (.int c3)] (.int (0 : Int32)) := by have q := V220; rw [hch3.1] at q; exact q
            have C223 := C214.trans (CHr.wr W220 Sw221 C214.1)
            have hk223 := Nat.le_trans hk214 (Keep.of_wr W220).1
            have R224 : Go p e below P T220 (mkF m 116 #[.val (.int n), .val (.int c0), .val (.int c1), .val (.int c2), .val (.int c3), .val (.int c4), .val (.int c5), .val (.int c6)] [(.ref b187), (.ref b182), (.ref b182)]) := fun t_ k_ => R218 t_ (st220 t_ k_)
            have f225 := (((((A182.ext E187).wr W194).wr W202).wr W211).wr W220)
            have f226 := (((((F182_24.ext E187).other W194 (Or.inl (Nat.ne_of_lt (Nat.lt_of_lt_of_le A182.lt (Nat.le_of_eq g187.symm))))).other W202 (Or.inl (Nat.ne_of_lt (Nat.lt_of_lt_of_le A182.lt (Nat.le_of_eq g187.symm))))).other W211 (Or.inl (Nat.ne_of_lt (Nat.lt_of_lt_of_le A182.lt (Nat.le_of_eq g187.symm))))).other W220 (Or.inl (Nat.ne_of_lt (Nat.lt_of_lt_of_le A182.lt (Nat.le_of_eq g187.symm)))))
            have f227 := (((((F182_25.ext E187).other W194 (Or.inl (Nat.ne_of_lt (Nat.lt_of_lt_of_le A182.lt (Nat.le_of_eq g187.symm))))).other W202 (Or.inl (Nat.ne_of_lt (Nat.lt_of_lt_of_le A182.lt (Nat.le_of_eq g187.symm))))).other W211 (Or.inl (Nat.ne_of_lt (Nat.lt_of_lt_of_le A182.lt (Nat.le_of_eq g187.symm))))).other W220 (Or.inl (Nat.ne_of_lt (Nat.lt_of_lt_of_le A182.lt (Nat.le_of_eq g187.symm)))))
            have f229 := (Safe.wr W220 Sw221 C214.1 (Safe.wr W211 Sw212 C205.1 (Safe.wr W202 Sw203 C196.1 (Safe.wr W194 Sw195 C188.1 (Safe.ext E187 C183.1 Sb182)))))
            have Sw228 : Safe Z EL0 _ _ b182 := f229
            obtain ⟨rv230, _, ⟨T230, L230, k230, n230⟩, -, X230, ⟨Lc230, hQ230, l230, y230, z230⟩, st230⟩ := X220.specialBack hx (y := (⟨"java/lang/String", "<init>", "([C)V"⟩ : MethodName)) rfl hown (mvT hZ (hw _ (List.mem_of_getElem? (i := 12) rfl))) (mvT hZ (hw _ (List.mem_of_getElem? (i := 13) rfl))) (mvT hZ (hw _ (List.mem_of_getElem? (i := 14) rfl))) (by decide) (StrChars.Road.backV (W := 1) hZ (w_backV hw) (kI := 4) (hw _ (List.mem_of_getElem? (i := 9) rfl)) (cs := ([c0, c1, c2, c3] : List Int32)) (bs := ([c0, c1, c2, c3] : List Int32).map (fun c => c.toInt8.toInt32)) (n := 4) (Nat.le_trans (oldLe O0) (Nat.le_of_eq g182.symm)) (oldLe O220) f225 f226 f227 V220s (P0.ext O220.2) hzc rfl rfl (by decide) (by decide) (by intro c hc; simp only [List.mem_cons, List.not_mem_nil, or_false] at hc; rcases hc with rfl | rfl | rfl | rfl <;> first | exact hch0.2 | exact hch1.2 | exact hch2.2 | exact hch3.2) rfl (by decide) (by decide)) (g := (mkF m 116 #[.val (.int n), .val (.int c0), .val (.int c1), .val (.int c2), .val (.int c3), .val (.int c4), .val (.int c5), .val (.int c6)] [(.ref b187), (.ref b182), (.ref b182)])) rfl (by rw [hml]; rfl) (Steps.refl _) (a := b182) (argsL := [(.ref b187)]) (rest := [(.ref b182)]) (lenOf pd_42155922 rfl) rfl (by show 2 * 0 + _ ≤ _; exact Nat.le_of_eq rfl) (hb hby d2_116) (fun _ _ => ⟨rfl, e220, (by decide : 2 + 1 ≤ _), (by decide : 8 + 4 ≤ _)⟩)
            dsimp only [Pt.U, Pt.locs, Pt.cells, Pt.slots] at X230 l230 y230 z230 st230 hQ230
            subst l230 y230 z230
            obtain ⟨rfl, N230q, K230, pE230, pC230, t230, kb230, -, lt230, tn230, pV230, pA230⟩ := hQ230
            have N230 := Fr.app N220 N230q
            have O230 := O220.keep K230 (allS (Nat.le_trans (oldLe O0) (Nat.le_of_eq g182.symm)) all0)
            have C231 := C223.trans (CHr.keep K230 (sfS Sw228 sf0) C223.1)
            have hk231 := Nat.le_trans hk223 K230.1
            have pB230 : Arv Z T230.heap t230 kb230 .byte (Int32.ofNat ([c0, c1, c2, c3] : List Int32).length) ((([c0, c1, c2, c3] : List Int32).map StrChars.lo8).map Value.int) (.int (0 : Int32)) := pA230
            have R232 : Go p e below P T230 (mkF m 119 #[.val (.int n), .val (.int c0), .val (.int c1), .val (.int c2), .val (.int c3), .val (.int c4), .val (.int c5), .val (.int c6)] [(.ref b182)]) := fun t_ k_ => R224 t_ (st230.trans k_)
            obtain ⟨fs, hr, hrun, hended, hend⟩ := X230.leaveW hS0 (by rw [(rfl : T230.heap = T230.heap)]; exact hk231 : _ ≤ T230.heap.size) (v := some (.ref b182)) (fun h => by rw [Bd.returns] at h; cases h)
            have hCe := C231.trans (CHv.at X230 hZ hEL C231.1)
            exact ⟨_, _, hP _ (R232 _ (retOut X230 hx Bd.returns rfl (Or.inr (Or.inr (Or.inr (Or.inr ⟨rfl, rfl, rfl⟩)))) (hb hby d2_119) hr)), hrun, hended, _, _, rfl, ⟨b182, t230, kb230, rfl, N230, ((((((((Keep.refl h0 []).ext E182).ext E187).wr W194 (Or.inr (Nat.le_trans ((Keep.refl h0 []).ext E182).1 (Nat.le_of_eq g187.symm)))).wr W202 (Or.inr (Nat.le_trans ((Keep.refl h0 []).ext E182).1 (Nat.le_of_eq g187.symm)))).wr W211 (Or.inr (Nat.le_trans ((Keep.refl h0 []).ext E182).1 (Nat.le_of_eq g187.symm)))).wr W220 (Or.inr (Nat.le_trans ((Keep.refl h0 []).ext E182).1 (Nat.le_of_eq g187.symm)))).trans K230 (allS (Or.inr (Nat.le_of_eq g182.symm)) all0)), (Nat.le_of_eq g182.symm), pE230, pC230, pV230, (by rw [show strL n c0 c1 c2 c3 c4 c5 c6 = [c0, c1, c2, c3] from by simp [strL, hc47, hc66, hc95, hc133, hc180]]; exact pB230)⟩, (by show CHr Z EL0 s.vm s.heap T230.vm T230.heap; rw [hh, (rfl : T230.heap = T230.heap)]; exact hCe), ⟨hend.1, hend.2.1, hend.2.2.1, hend.2.2.2.mono (by decide) (by decide)⟩⟩
          · have R233 : Go p e below P s₁ (mkF m 120 #[.val (.int n), .val (.int c0), .val (.int c1), .val (.int c2), .val (.int c3), .val (.int c4), .val (.int c5), .val (.int c6)] []) := fun t_ k_ => R179 t_ (XS.icmpYes X0.here hx rfl (pc0 := 89) (pc' := 120) rfl (hb hby d2_89) rfl (feq hc180).2 (by decide) (by decide) k_)
            have R234 : Go p e below P s₁ (mkF m 121 #[.val (.int n), .val (.int c0), .val (.int c1), .val (.int c2), .val (.int c3), .val (.int c4), .val (.int c5), .val (.int c6)] [(.int n)]) := fun t_ k_ => R233 t_ (XS.iloadN X0.here hx rfl (hb hby d2_120) rfl k_)
            have R235 : Go p e below P s₁ (mkF m 122 #[.val (.int n), .val (.int c0), .val (.int c1), .val (.int c2), .val (.int c3), .val (.int c4), .val (.int c5), .val (.int c6)] [(.int (5 : Int32)), (.int n)]) := fun t_ k_ => R234 t_ (XS.iconst X0.here hx rfl (hb hby d2_121) k_)
            by_cases hc236 : n = (5 : Int32)
            · have R237 : Go p e below P s₁ (mkF m 125 #[.val (.int n), .val (.int c0), .val (.int c1), .val (.int c2), .val (.int c3), .val (.int c4), .val (.int c5), .val (.int c6)] []) := fun t_ k_ => R235 t_ (XS.icmpNo X0.here hx rfl (hb hby d2_122) rfl (teq hc236).2 k_)
              obtain ⟨T238, h238, X238, e238, E238, A238, D238, -, st238⟩ := newO X0 hx hZ hown (hw _ (List.mem_of_getElem? (i := 8) rfl)) (hw _ (List.mem_of_getElem? (i := 9) rfl)) (hw _ (List.mem_of_getElem? (i := 10) rfl)) e0 (g := (mkF m 125 #[.val (.int n), .val (.int c0), .val (.int c1), .val (.int c2), .val (.int c3), .val (.int c4), .val (.int c5), .val (.int c6)] [])) rfl (hb hby d2_125) (by decide) (by decide)
              obtain ⟨b238, g238⟩ : ∃ z, z = h0.size := ⟨_, rfl⟩
              rw [← g238] at A238 D238 st238
              have O238 := O0.ext E238
              have C239 := C0.trans (CHr.ext E238 C0.1)
              have hk239 := Nat.le_trans hk0 E238.1
              have Sb238 : Safe Z EL0 _ _ _ := Safe.ext E238 C0.1 (Safe.new (Nat.le_of_eq g238.symm))
              have F238_24 : Fld Z h238 b238 "java/lang/String" "value" "[B" .null := D238 (Or.inr (hw _ (List.mem_of_getElem? (i := 24) rfl))) (ty := (.array .byte)) (by decide)
              have F238_25 : Fld Z h238 b238 "java/lang/String" "coder" "B" (.int (0 : Int32)) := D238 (Or.inr (hw _ (List.mem_of_getElem? (i := 25) rfl))) (ty := .byte) (by decide)
              have R240 : Go p e below P T238 (mkF m 128 #[.val (.int n), .val (.int c0), .val (.int c1), .val (.int c2), .val (.int c3), .val (.int c4), .val (.int c5), .val (.int c6)] [(.ref b238)]) := fun t_ k_ => R237 t_ (st238 t_ k_)
              have R241 : Go p e below P T238 (mkF m 129 #[.val (.int n), .val (.int c0), .val (.int c1), .val (.int c2), .val (.int c3), .val (.int c4), .val (.int c5), .val (.int c6)] [(.ref b238), (.ref b238)]) := fun t_ k_ => R240 t_ (XS.dup X238.here hx rfl (hb hby d2_128) rfl rfl k_)
              have R242 : Go p e below P T238 (mkF m 130 #[.val (.int n), .val (.int c0), .val (.int c1), .val (.int c2), .val (.int c3), .val (.int c4), .val (.int c5), .val (.int c6)] [(.int (5 : Int32)), (.ref b238), (.ref b238)]) := fun t_ k_ => R241 t_ (XS.iconst X238.here hx rfl (hb hby d2_129) k_)
              obtain ⟨T243, h243, k243, X243, e243, E243, A243, st243⟩ := newP X238 hx hZ (hw _ (List.mem_of_getElem? (i := 11) rfl)) e238 (g := (mkF m 130 #[.val (.int n), .val (.int c0), .val (.int c1), .val (.int c2), .val (.int c3), .val (.int c4), .val (.int c5), .val (.int c6)] [(.int (5 : Int32)), (.ref b238), (.ref b238)])) rfl (hb hby d2_130) rfl (by decide) (cap := 5) (by decide) (by decide) (by decide) (by decide)
              obtain ⟨b243, g243⟩ : ∃ z, z = h238.size := ⟨_, rfl⟩
              rw [← g243] at A243 st243
              have O243 := O238.ext E243
              have V243 : Arv Z h243 b243 k243 .char (5 : Int32) [(.int (0 : Int32)), (.int (0 : Int32)), (.int (0 : Int32)), (.int (0 : Int32)), (.int (0 : Int32))] (.int (0 : Int32)) := (Arv.new A243 (by decide)).pad (pad_rep [] (.int (0 : Int32)) 5)
              have C244 := C239.trans (CHr.ext E243 C239.1)
              have hk244 := Nat.le_trans hk239 E243.1
              have Sb243 : Safe Z EL0 _ _ _ := Safe.ext E243 C239.1 (Safe.new (Nat.le_of_eq g243.symm))
              have R245 : Go p e below P T243 (mkF m 132 #[.val (.int n), .val (.int c0), .val (.int c1), .val (.int c2), .val (.int c3), .val (.int c4), .val (.int c5), .val (.int c6)] [(.ref b243), (.ref b238), (.ref b238)]) := fun t_ k_ => R242 t_ (st243 t_ k_)
              have R246 : Go p e below P T243 (mkF m 133 #[.val (.int n), .val (.int c0), .val (.int c1), .val (.int c2), .val (.int c3), .val (.int c4), .val (.int c5), .val (.int c6)] [(.ref b243), (.ref b243), (.ref b238), (.ref b238)]) := fun t_ k_ => R245 t_ (XS.dup X243.here hx rfl (hb hby d2_132) rfl rfl k_)
              have R247 : Go p e below P T243 (mkF m 134 #[.val (.int n), .val (.int c0), .val (.int c1), .val (.int c2), .val (.int c3), .val (.int c4), .val (.int c5), .val (.int c6)] [(.int (0 : Int32)), (.ref b243), (.ref b243), (.ref b238), (.ref b238)]) := fun t_ k_ => R246 t_ (XS.iconst X243.here hx rfl (hb hby d2_133) k_)
              have R248 : Go p e below P T243 (mkF m 135 #[.val (.int n), .val (.int c0), .val (.int c1), .val (.int c2), .val (.int c3), .val (.int c4), .val (.int c5), .val (.int c6)] [(.int c0), (.int (0 : Int32)), (.ref b243), (.ref b243), (.ref b238), (.ref b238)]) := fun t_ k_ => R247 t_ (XS.iloadN X243.here hx rfl (hb hby d2_134) rfl k_)
              obtain ⟨cl249, cl249A, cl249q, cl249S, cl249N, cl249H, cl249G⟩ := id V243
              obtain ⟨T250, h250, X250, e250, W250, st250⟩ := stC X243 hx hZ e243 cl249A (j := (0 : Int32)) (inb_of cl249S ⟨by decide, by decide⟩) (g := (mkF m 135 #[.val (.int n), .val (.int c0), .val (.int c1), .val (.int c2), .val (.int c3), .val (.int c4), .val (.int c5), .val (.int c6)] [(.int c0), (.int (0 : Int32)), (.ref b243), (.ref b243), (.ref b238), (.ref b238)])) rfl rfl (hb hby d2_135)
              have V250 : Arv Z h250 b243 k243 .char (5 : Int32) [(.int (nar .char c0)), (.int (0 : Int32)), (.int (0 : Int32)), (.int (0 : Int32)), (.int (0 : Int32))] (.int (0 : Int32)) := Arv.set cl249A cl249q cl249S cl249N cl249H cl249G (fits_nar_char _) W250 0 rfl (Nat.le_of_ble_eq_true rfl)
              have Sw251 : Safe Z EL0 _ _ b243 := Sb243
              have N250 := Fr.snoc X250 N0 (Nat.le_trans (oldLe O238) (Nat.le_of_eq g243.symm))
              have O250 := O243.wr W250 (Nat.le_trans (oldLe O238) (Nat.le_of_eq g243.symm))
              have V250s : Arv Z h250 b243 k243 .char (5 : Int32) [(.int c0), (.int (0 : Int32)), (.int (0 : Int32)), (.int (0 : Int32)), (.int (0 : Int32))] (.int (0 : Int32)) := by have q := V250; rw [hch0.1] at q; exact q
              have C252 := C244.trans (CHr.wr W250 Sw251 C244.1)
              have hk252 := Nat.le_trans hk244 (Keep.of_wr W250).1
              have R253 : Go p e below P T250 (mkF m 136 #[.val (.int n), .val (.int c0), .val (.int c1), .val (.int c2), .val (.int c3), .val (.int c4), .val (.int c5), .val (.int c6)] [(.ref b243), (.ref b238), (.ref b238)]) := fun t_ k_ => R248 t_ (st250 t_ k_)
              have R254 : Go p e below P T250 (mkF m 137 #[.val (.int n), .val (.int c0), .val (.int c1), .val (.int c2), .val (.int c3), .val (.int c4), .val (.int c5), .val (.int c6)] [(.ref b243), (.ref b243), (.ref b238), (.ref b238)]) := fun t_ k_ => R253 t_ (XS.dup X250.here hx rfl (hb hby d2_136) rfl rfl k_)
              have R255 : Go p e below P T250 (mkF m 138 #[.val (.int n), .val (.int c0), .val (.int c1), .val (.int c2), .val (.int c3), .val (.int c4), .val (.int c5), .val (.int c6)] [(.int (1 : Int32)), (.ref b243), (.ref b243), (.ref b238), (.ref b238)]) := fun t_ k_ => R254 t_ (XS.iconst X250.here hx rfl (hb hby d2_137) k_)
              have R256 : Go p e below P T250 (mkF m 139 #[.val (.int n), .val (.int c0), .val (.int c1), .val (.int c2), .val (.int c3), .val (.int c4), .val (.int c5), .val (.int c6)] [(.int c1), (.int (1 : Int32)), (.ref b243), (.ref b243), (.ref b238), (.ref b238)]) := fun t_ k_ => R255 t_ (XS.iloadN X250.here hx rfl (hb hby d2_138) rfl k_)
              obtain ⟨cl257, cl257A, cl257q, cl257S, cl257N, cl257H, cl257G⟩ := id V250s
              obtain ⟨T258, h258, X258, e258, W258, st258⟩ := stC X250 hx hZ e250 cl257A (j := (1 : Int32)) (inb_of cl257S ⟨by decide, by decide⟩) (g := (mkF m 139 #[.val (.int n), .val (.int c0), .val (.int c1), .val (.int c2), .val (.int c3), .val (.int c4), .val (.int c5), .val (.int c6)] [(.int c1), (.int (1 : Int32)), (.ref b243), (.ref b243), (.ref b238), (.ref b238)])) rfl rfl (hb hby d2_139)
              have V258 : Arv Z h258 b243 k243 .char (5 : Int32) [(.int c0), (.int (nar .char c1)), (.int (0 : Int32)), (.int (0 : Int32)), (.int (0 : Int32))] (.int (0 : Int32)) := Arv.set cl257A cl257q cl257S cl257N cl257H cl257G (fits_nar_char _) W258 1 rfl (Nat.le_of_ble_eq_true rfl)
              have f260 := (Safe.wr W250 Sw251 C244.1 Sw251)
              have Sw259 : Safe Z EL0 _ _ b243 := f260
              have N258 := Fr.snoc X258 N250 (Nat.le_trans (oldLe O238) (Nat.le_of_eq g243.symm))
              have O258 := O250.wr W258 (Nat.le_trans (oldLe O238) (Nat.le_of_eq g243.symm))
              have V258s : Arv Z h258 b243 k243 .char (5 : Int32) [(.int c0), (.int c1), (.int (0 : Int32)), (.int (0 : Int32)), (.int (0 : Int32))] (.int (0 : Int32)) := by have q := V258; rw [hch1.1] at q; exact q
              have C261 := C252.trans (CHr.wr W258 Sw259 C252.1)
              have hk261 := Nat.le_trans hk252 (Keep.of_wr W258).1
              have R262 : Go p e below P T258 (mkF m 140 #[.val (.int n), .val (.int c0), .val (.int c1), .val (.int c2), .val (.int c3), .val (.int c4), .val (.int c5), .val (.int c6)] [(.ref b243), (.ref b238), (.ref b238)]) := fun t_ k_ => R256 t_ (st258 t_ k_)
              have R263 : Go p e below P T258 (mkF m 141 #[.val (.int n), .val (.int c0), .val (.int c1), .val (.int c2), .val (.int c3), .val (.int c4), .val (.int c5), .val (.int c6)] [(.ref b243), (.ref b243), (.ref b238), (.ref b238)]) := fun t_ k_ => R262 t_ (XS.dup X258.here hx rfl (hb hby d2_140) rfl rfl k_)
              have R264 : Go p e below P T258 (mkF m 142 #[.val (.int n), .val (.int c0), .val (.int c1), .val (.int c2), .val (.int c3), .val (.int c4), .val (.int c5), .val (.int c6)] [(.int (2 : Int32)), (.ref b243), (.ref b243), (.ref b238), (.ref b238)]) := fun t_ k_ => R263 t_ (XS.iconst X258.here hx rfl (hb hby d2_141) k_)
              have R265 : Go p e below P T258 (mkF m 143 #[.val (.int n), .val (.int c0), .val (.int c1), .val (.int c2), .val (.int c3), .val (.int c4), .val (.int c5), .val (.int c6)] [(.int c2), (.int (2 : Int32)), (.ref b243), (.ref b243), (.ref b238), (.ref b238)]) := fun t_ k_ => R264 t_ (XS.iloadN X258.here hx rfl (hb hby d2_142) rfl k_)
              obtain ⟨cl266, cl266A, cl266q, cl266S, cl266N, cl266H, cl266G⟩ := id V258s
              obtain ⟨T267, h267, X267, e267, W267, st267⟩ := stC X258 hx hZ e258 cl266A (j := (2 : Int32)) (inb_of cl266S ⟨by decide, by decide⟩) (g := (mkF m 143 #[.val (.int n), .val (.int c0), .val (.int c1), .val (.int c2), .val (.int c3), .val (.int c4), .val (.int c5), .val (.int c6)] [(.int c2), (.int (2 : Int32)), (.ref b243), (.ref b243), (.ref b238), (.ref b238)])) rfl rfl (hb hby d2_143)
              have V267 : Arv Z h267 b243 k243 .char (5 : Int32) [(.int c0), (.int c1), (.int (nar .char c2)), (.int (0 : Int32)), (.int (0 : Int32))] (.int (0 : Int32)) := Arv.set cl266A cl266q cl266S cl266N cl266H cl266G (fits_nar_char _) W267 2 rfl (Nat.le_of_ble_eq_true rfl)
              have f269 := (Safe.wr W258 Sw259 C252.1 Sw259)
              have Sw268 : Safe Z EL0 _ _ b243 := f269
              have N267 := Fr.snoc X267 N258 (Nat.le_trans (oldLe O238) (Nat.le_of_eq g243.symm))
              have O267 := O258.wr W267 (Nat.le_trans (oldLe O238) (Nat.le_of_eq g243.symm))
              have V267s : Arv Z h267 b243 k243 .char (5 : Int32) [(.int c0), (.int c1), (.int c2), (.int (0 : Int32)), (.int (0 : Int32))] (.int (0 : Int32)) := by have q := V267; rw [hch2.1] at q; exact q
              have C270 := C261.trans (CHr.wr W267 Sw268 C261.1)
              have hk270 := Nat.le_trans hk261 (Keep.of_wr W267).1
              have R271 : Go p e below P T267 (mkF m 144 #[.val (.int n), .val (.int c0), .val (.int c1), .val (.int c2), .val (.int c3), .val (.int c4), .val (.int c5), .val (.int c6)] [(.ref b243), (.ref b238), (.ref b238)]) := fun t_ k_ => R265 t_ (st267 t_ k_)
              have R272 : Go p e below P T267 (mkF m 145 #[.val (.int n), .val (.int c0), .val (.int c1), .val (.int c2), .val (.int c3), .val (.int c4), .val (.int c5), .val (.int c6)] [(.ref b243), (.ref b243), (.ref b238), (.ref b238)]) := fun t_ k_ => R271 t_ (XS.dup X267.here hx rfl (hb hby d2_144) rfl rfl k_)
              have R273 : Go p e below P T267 (mkF m 146 #[.val (.int n), .val (.int c0), .val (.int c1), .val (.int c2), .val (.int c3), .val (.int c4), .val (.int c5), .val (.int c6)] [(.int (3 : Int32)), (.ref b243), (.ref b243), (.ref b238), (.ref b238)]) := fun t_ k_ => R272 t_ (XS.iconst X267.here hx rfl (hb hby d2_145) k_)
              have R274 : Go p e below P T267 (mkF m 148 #[.val (.int n), .val (.int c0), .val (.int c1), .val (.int c2), .val (.int c3), .val (.int c4), .val (.int c5), .val (.int c6)] [(.int c3), (.int (3 : Int32)), (.ref b243), (.ref b243), (.ref b238), (.ref b238)]) := fun t_ k_ => R273 t_ (XS.iload X267.here hx rfl (hb hby d2_146) rfl k_)
              obtain ⟨cl275, cl275A, cl275q, cl275S, cl275N, cl275H, cl275G⟩ := id V267s
              obtain ⟨T276, h276, X276, e276, W276, st276⟩ := stC X267 hx hZ e267 cl275A (j := (3 : Int32)) (inb_of cl275S ⟨by decide, by decide⟩) (g := (mkF m 148 #[.val (.int n), .val (.int c0), .val (.int c1), .val (.int c2), .val (.int c3), .val (.int c4), .val (.int c5), .val (.int c6)] [(.int c3), (.int (3 : Int32)), (.ref b243), (.ref b243), (.ref b238), (.ref b238)])) rfl rfl (hb hby d2_148)
              have V276 : Arv Z h276 b243 k243 .char (5 : Int32) [(.int c0), (.int c1), (.int c2), (.int (nar .char c3)), (.int (0 : Int32))] (.int (0 : Int32)) := Arv.set cl275A cl275q cl275S cl275N cl275H cl275G (fits_nar_char _) W276 3 rfl (Nat.le_of_ble_eq_true rfl)
              have f278 := (Safe.wr W267 Sw268 C261.1 Sw268)
              have Sw277 : Safe Z EL0 _ _ b243 := f278
              have N276 := Fr.snoc X276 N267 (Nat.le_trans (oldLe O238) (Nat.le_of_eq g243.symm))
              have O276 := O267.wr W276 (Nat.le_trans (oldLe O238) (Nat.le_of_eq g243.symm))
              have V276s : Arv Z h276 b243 k243 .char (5 : Int32) [(.int c0), (.int c1), (.int c2), (.int c3), (.int (0 : Int32))] (.int (0 : Int32)) := by have q := V276; rw [hch3.1] at q; exact q
              have C279 := C270.trans (CHr.wr W276 Sw277 C270.1)
              have hk279 := Nat.le_trans hk270 (Keep.of_wr W276).1
              have R280 : Go p e below P T276 (mkF m 149 #[.val (.int n), .val (.int c0), .val (.int c1), .val (.int c2), .val (.int c3), .val (.int c4), .val (.int c5), .val (.int c6)] [(.ref b243), (.ref b238), (.ref b238)]) := fun t_ k_ => R274 t_ (st276 t_ k_)
              have R281 : Go p e below P T276 (mkF m 150 #[.val (.int n), .val (.int c0), .val (.int c1), .val (.int c2), .val (.int c3), .val (.int c4), .val (.int c5), .val (.int c6)] [(.ref b243), (.ref b243), (.ref b238), (.ref b238)]) := fun t_ k_ => R280 t_ (XS.dup X276.here hx rfl (hb hby d2_149) rfl rfl k_)
              have R282 : Go p e below P T276 (mkF m 151 #[.val (.int n), .val (.int c0), .val (.int c1), .val (.int c2), .val (.int c3), .val (.int c4), .val (.int c5), .val (.int c6)] [(.int (4 : Int32)), (.ref b243), (.ref b243), (.ref b238), (.ref b238)]) := fun t_ k_ => R281 t_ (XS.iconst X276.here hx rfl (hb hby d2_150) k_)
              have R283 : Go p e below P T276 (mkF m 153 #[.val (.int n), .val (.int c0), .val (.int c1), .val (.int c2), .val (.int c3), .val (.int c4), .val (.int c5), .val (.int c6)] [(.int c4), (.int (4 : Int32)), (.ref b243), (.ref b243), (.ref b238), (.ref b238)]) := fun t_ k_ => R282 t_ (XS.iload X276.here hx rfl (hb hby d2_151) rfl k_)
              obtain ⟨cl284, cl284A, cl284q, cl284S, cl284N, cl284H, cl284G⟩ := id V276s
              obtain ⟨T285, h285, X285, e285, W285, st285⟩ := stC X276 hx hZ e276 cl284A (j := (4 : Int32)) (inb_of cl284S ⟨by decide, by decide⟩) (g := (mkF m 153 #[.val (.int n), .val (.int c0), .val (.int c1), .val (.int c2), .val (.int c3), .val (.int c4), .val (.int c5), .val (.int c6)] [(.int c4), (.int (4 : Int32)), (.ref b243), (.ref b243), (.ref b238), (.ref b238)])) rfl rfl (hb hby d2_153)
              have V285 : Arv Z h285 b243 k243 .char (5 : Int32) [(.int c0), (.int c1), (.int c2), (.int c3), (.int (nar .char c4))] (.int (0 : Int32)) := Arv.set cl284A cl284q cl284S cl284N cl284H cl284G (fits_nar_char _) W285 4 rfl (Nat.le_of_ble_eq_true rfl)
              have f287 := (Safe.wr W276 Sw277 C270.1 Sw277)
              have Sw286 : Safe Z EL0 _ _ b243 := f287
              have N285 := Fr.snoc X285 N276 (Nat.le_trans (oldLe O238) (Nat.le_of_eq g243.symm))
              have O285 := O276.wr W285 (Nat.le_trans (oldLe O238) (Nat.le_of_eq g243.symm))
              have V285s : Arv Z h285 b243 k243 .char (5 : Int32) [(.int c0), (.int c1), (.int c2), (.int c3), (.int c4)] (.int (0 : Int32)) := by have q := V285; rw [hch4.1] at q; exact q
              have C288 := C279.trans (CHr.wr W285 Sw286 C279.1)
              have hk288 := Nat.le_trans hk279 (Keep.of_wr W285).1
              have R289 : Go p e below P T285 (mkF m 154 #[.val (.int n), .val (.int c0), .val (.int c1), .val (.int c2), .val (.int c3), .val (.int c4), .val (.int c5), .val (.int c6)] [(.ref b243), (.ref b238), (.ref b238)]) := fun t_ k_ => R283 t_ (st285 t_ k_)
              have f290 := ((((((A238.ext E243).wr W250).wr W258).wr W267).wr W276).wr W285)
              have f291 := ((((((F238_24.ext E243).other W250 (Or.inl (Nat.ne_of_lt (Nat.lt_of_lt_of_le A238.lt (Nat.le_of_eq g243.symm))))).other W258 (Or.inl (Nat.ne_of_lt (Nat.lt_of_lt_of_le A238.lt (Nat.le_of_eq g243.symm))))).other W267 (Or.inl (Nat.ne_of_lt (Nat.lt_of_lt_of_le A238.lt (Nat.le_of_eq g243.symm))))).other W276 (Or.inl (Nat.ne_of_lt (Nat.lt_of_lt_of_le A238.lt (Nat.le_of_eq g243.symm))))).other W285 (Or.inl (Nat.ne_of_lt (Nat.lt_of_lt_of_le A238.lt (Nat.le_of_eq g243.symm)))))
              have f292 := ((((((F238_25.ext E243).other W250 (Or.inl (Nat.ne_of_lt (Nat.lt_of_lt_of_le A238.lt (Nat.le_of_eq g243.symm))))).other W258 (Or.inl (Nat.ne_of_lt (Nat.lt_of_lt_of_le A238.lt (Nat.le_of_eq g243.symm))))).other W267 (Or.inl (Nat.ne_of_lt (Nat.lt_of_lt_of_le A238.lt (Nat.le_of_eq g243.symm))))).other W276 (Or.inl (Nat.ne_of_lt (Nat.lt_of_lt_of_le A238.lt (Nat.le_of_eq g243.symm))))).other W285 (Or.inl (Nat.ne_of_lt (Nat.lt_of_lt_of_le A238.lt (Nat.le_of_eq g243.symm)))))
              have f294 := (Safe.wr W285 Sw286 C279.1 (Safe.wr W276 Sw277 C270.1 (Safe.wr W267 Sw268 C261.1 (Safe.wr W258 Sw259 C252.1 (Safe.wr W250 Sw251 C244.1 (Safe.ext E243 C239.1 Sb238))))))
              have Sw293 : Safe Z EL0 _ _ b238 := f294
              obtain ⟨rv295, _, ⟨T295, L295, k295, n295⟩, -, X295, ⟨Lc295, hQ295, l295, y295, z295⟩, st295⟩ := X285.specialBack hx (y := (⟨"java/lang/String", "<init>", "([C)V"⟩ : MethodName)) rfl hown (mvT hZ (hw _ (List.mem_of_getElem? (i := 12) rfl))) (mvT hZ (hw _ (List.mem_of_getElem? (i := 13) rfl))) (mvT hZ (hw _ (List.mem_of_getElem? (i := 14) rfl))) (by decide) (StrChars.Road.backV (W := 1) hZ (w_backV hw) (kI := 4) (hw _ (List.mem_of_getElem? (i := 9) rfl)) (cs := ([c0, c1, c2, c3, c4] : List Int32)) (bs := ([c0, c1, c2, c3, c4] : List Int32).map (fun c => c.toInt8.toInt32)) (n := 5) (Nat.le_trans (oldLe O0) (Nat.le_of_eq g238.symm)) (oldLe O285) f290 f291 f292 V285s (P0.ext O285.2) hzc rfl rfl (by decide) (by decide) (by intro c hc; simp only [List.mem_cons, List.not_mem_nil, or_false] at hc; rcases hc with rfl | rfl | rfl | rfl | rfl <;> first | exact hch0.2 | exact hch1.2 | exact hch2.2 | exact hch3.2 | exact hch4.2) rfl (by decide) (by decide)) (g := (mkF m 154 #[.val (.int n), .val (.int c0), .val (.int c1), .val (.int c2), .val (.int c3), .val (.int c4), .val (.int c5), .val (.int c6)] [(.ref b243), (.ref b238), (.ref b238)])) rfl (by rw [hml]; rfl) (Steps.refl _) (a := b238) (argsL := [(.ref b243)]) (rest := [(.ref b238)]) (lenOf pd_42155922 rfl) rfl (by show 2 * 0 + _ ≤ _; exact Nat.le_of_eq rfl) (hb hby d2_154) (fun _ _ => ⟨rfl, e285, (by decide : 2 + 1 ≤ _), (by decide : 9 + 5 ≤ _)⟩)
              dsimp only [Pt.U, Pt.locs, Pt.cells, Pt.slots] at X295 l295 y295 z295 st295 hQ295
              subst l295 y295 z295
              obtain ⟨rfl, N295q, K295, pE295, pC295, t295, kb295, -, lt295, tn295, pV295, pA295⟩ := hQ295
              have N295 := Fr.app N285 N295q
              have O295 := O285.keep K295 (allS (Nat.le_trans (oldLe O0) (Nat.le_of_eq g238.symm)) all0)
              have C296 := C288.trans (CHr.keep K295 (sfS Sw293 sf0) C288.1)
              have hk296 := Nat.le_trans hk288 K295.1
              have pB295 : Arv Z T295.heap t295 kb295 .byte (Int32.ofNat ([c0, c1, c2, c3, c4] : List Int32).length) ((([c0, c1, c2, c3, c4] : List Int32).map StrChars.lo8).map Value.int) (.int (0 : Int32)) := pA295
              have R297 : Go p e below P T295 (mkF m 157 #[.val (.int n), .val (.int c0), .val (.int c1), .val (.int c2), .val (.int c3), .val (.int c4), .val (.int c5), .val (.int c6)] [(.ref b238)]) := fun t_ k_ => R289 t_ (st295.trans k_)
              obtain ⟨fs, hr, hrun, hended, hend⟩ := X295.leaveW hS0 (by rw [(rfl : T295.heap = T295.heap)]; exact hk296 : _ ≤ T295.heap.size) (v := some (.ref b238)) (fun h => by rw [Bd.returns] at h; cases h)
              have hCe := C296.trans (CHv.at X295 hZ hEL C296.1)
              exact ⟨_, _, hP _ (R297 _ (retOut X295 hx Bd.returns rfl (Or.inr (Or.inr (Or.inr (Or.inr ⟨rfl, rfl, rfl⟩)))) (hb hby d2_157) hr)), hrun, hended, _, _, rfl, ⟨b238, t295, kb295, rfl, N295, (((((((((Keep.refl h0 []).ext E238).ext E243).wr W250 (Or.inr (Nat.le_trans ((Keep.refl h0 []).ext E238).1 (Nat.le_of_eq g243.symm)))).wr W258 (Or.inr (Nat.le_trans ((Keep.refl h0 []).ext E238).1 (Nat.le_of_eq g243.symm)))).wr W267 (Or.inr (Nat.le_trans ((Keep.refl h0 []).ext E238).1 (Nat.le_of_eq g243.symm)))).wr W276 (Or.inr (Nat.le_trans ((Keep.refl h0 []).ext E238).1 (Nat.le_of_eq g243.symm)))).wr W285 (Or.inr (Nat.le_trans ((Keep.refl h0 []).ext E238).1 (Nat.le_of_eq g243.symm)))).trans K295 (allS (Or.inr (Nat.le_of_eq g238.symm)) all0)), (Nat.le_of_eq g238.symm), pE295, pC295, pV295, (by rw [show strL n c0 c1 c2 c3 c4 c5 c6 = [c0, c1, c2, c3, c4] from by simp [strL, hc47, hc66, hc95, hc133, hc180, hc236]]; exact pB295)⟩, (by show CHr Z EL0 s.vm s.heap T295.vm T295.heap; rw [hh, (rfl : T295.heap = T295.heap)]; exact hCe), ⟨hend.1, hend.2.1, hend.2.2.1, hend.2.2.2.mono (by decide) (by decide)⟩⟩
            · have R298 : Go p e below P s₁ (mkF m 158 #[.val (.int n), .val (.int c0), .val (.int c1), .val (.int c2), .val (.int c3), .val (.int c4), .val (.int c5), .val (.int c6)] []) := fun t_ k_ => R235 t_ (XS.icmpYes X0.here hx rfl (pc0 := 122) (pc' := 158) rfl (hb hby d2_122) rfl (feq hc236).2 (by decide) (by decide) k_)
              have R299 : Go p e below P s₁ (mkF m 159 #[.val (.int n), .val (.int c0), .val (.int c1), .val (.int c2), .val (.int c3), .val (.int c4), .val (.int c5), .val (.int c6)] [(.int n)]) := fun t_ k_ => R298 t_ (XS.iloadN X0.here hx rfl (hb hby d2_158) rfl k_)
              have R300 : Go p e below P s₁ (mkF m 161 #[.val (.int n), .val (.int c0), .val (.int c1), .val (.int c2), .val (.int c3), .val (.int c4), .val (.int c5), .val (.int c6)] [(.int (6 : Int32)), (.int n)]) := fun t_ k_ => R299 t_ (XS.bipush X0.here hx rfl (hb hby d2_159) k_)
              by_cases hc301 : n = (6 : Int32)
              · have R302 : Go p e below P s₁ (mkF m 164 #[.val (.int n), .val (.int c0), .val (.int c1), .val (.int c2), .val (.int c3), .val (.int c4), .val (.int c5), .val (.int c6)] []) := fun t_ k_ => R300 t_ (XS.icmpNo X0.here hx rfl (hb hby d2_161) rfl (teq hc301).2 k_)
                obtain ⟨T303, h303, X303, e303, E303, A303, D303, -, st303⟩ := newO X0 hx hZ hown (hw _ (List.mem_of_getElem? (i := 8) rfl)) (hw _ (List.mem_of_getElem? (i := 9) rfl)) (hw _ (List.mem_of_getElem? (i := 10) rfl)) e0 (g := (mkF m 164 #[.val (.int n), .val (.int c0), .val (.int c1), .val (.int c2), .val (.int c3), .val (.int c4), .val (.int c5), .val (.int c6)] [])) rfl (hb hby d2_164) (by decide) (by decide)
                obtain ⟨b303, g303⟩ : ∃ z, z = h0.size := ⟨_, rfl⟩
                rw [← g303] at A303 D303 st303
                have O303 := O0.ext E303
                have C304 := C0.trans (CHr.ext E303 C0.1)
                have hk304 := Nat.le_trans hk0 E303.1
                have Sb303 : Safe Z EL0 _ _ _ := Safe.ext E303 C0.1 (Safe.new (Nat.le_of_eq g303.symm))
                have F303_24 : Fld Z h303 b303 "java/lang/String" "value" "[B" .null := D303 (Or.inr (hw _ (List.mem_of_getElem? (i := 24) rfl))) (ty := (.array .byte)) (by decide)
                have F303_25 : Fld Z h303 b303 "java/lang/String" "coder" "B" (.int (0 : Int32)) := D303 (Or.inr (hw _ (List.mem_of_getElem? (i := 25) rfl))) (ty := .byte) (by decide)
                have R305 : Go p e below P T303 (mkF m 167 #[.val (.int n), .val (.int c0), .val (.int c1), .val (.int c2), .val (.int c3), .val (.int c4), .val (.int c5), .val (.int c6)] [(.ref b303)]) := fun t_ k_ => R302 t_ (st303 t_ k_)
                have R306 : Go p e below P T303 (mkF m 168 #[.val (.int n), .val (.int c0), .val (.int c1), .val (.int c2), .val (.int c3), .val (.int c4), .val (.int c5), .val (.int c6)] [(.ref b303), (.ref b303)]) := fun t_ k_ => R305 t_ (XS.dup X303.here hx rfl (hb hby d2_167) rfl rfl k_)
                have R307 : Go p e below P T303 (mkF m 170 #[.val (.int n), .val (.int c0), .val (.int c1), .val (.int c2), .val (.int c3), .val (.int c4), .val (.int c5), .val (.int c6)] [(.int (6 : Int32)), (.ref b303), (.ref b303)]) := fun t_ k_ => R306 t_ (XS.bipush X303.here hx rfl (hb hby d2_168) k_)
                obtain ⟨T308, h308, k308, X308, e308, E308, A308, st308⟩ := newP X303 hx hZ (hw _ (List.mem_of_getElem? (i := 11) rfl)) e303 (g := (mkF m 170 #[.val (.int n), .val (.int c0), .val (.int c1), .val (.int c2), .val (.int c3), .val (.int c4), .val (.int c5), .val (.int c6)] [(.int (6 : Int32)), (.ref b303), (.ref b303)])) rfl (hb hby d2_170) rfl (by decide) (cap := 6) (by decide) (by decide) (by decide) (by decide)
                obtain ⟨b308, g308⟩ : ∃ z, z = h303.size := ⟨_, rfl⟩
                rw [← g308] at A308 st308
                have O308 := O303.ext E308
                have V308 : Arv Z h308 b308 k308 .char (6 : Int32) [(.int (0 : Int32)), (.int (0 : Int32)), (.int (0 : Int32)), (.int (0 : Int32)), (.int (0 : Int32)), (.int (0 : Int32))] (.int (0 : Int32)) := (Arv.new A308 (by decide)).pad (pad_rep [] (.int (0 : Int32)) 6)
                have C309 := C304.trans (CHr.ext E308 C304.1)
                have hk309 := Nat.le_trans hk304 E308.1
                have Sb308 : Safe Z EL0 _ _ _ := Safe.ext E308 C304.1 (Safe.new (Nat.le_of_eq g308.symm))
                have R310 : Go p e below P T308 (mkF m 172 #[.val (.int n), .val (.int c0), .val (.int c1), .val (.int c2), .val (.int c3), .val (.int c4), .val (.int c5), .val (.int c6)] [(.ref b308), (.ref b303), (.ref b303)]) := fun t_ k_ => R307 t_ (st308 t_ k_)
                have R311 : Go p e below P T308 (mkF m 173 #[.val (.int n), .val (.int c0), .val (.int c1), .val (.int c2), .val (.int c3), .val (.int c4), .val (.int c5), .val (.int c6)] [(.ref b308), (.ref b308), (.ref b303), (.ref b303)]) := fun t_ k_ => R310 t_ (XS.dup X308.here hx rfl (hb hby d2_172) rfl rfl k_)
                have R312 : Go p e below P T308 (mkF m 174 #[.val (.int n), .val (.int c0), .val (.int c1), .val (.int c2), .val (.int c3), .val (.int c4), .val (.int c5), .val (.int c6)] [(.int (0 : Int32)), (.ref b308), (.ref b308), (.ref b303), (.ref b303)]) := fun t_ k_ => R311 t_ (XS.iconst X308.here hx rfl (hb hby d2_173) k_)
                have R313 : Go p e below P T308 (mkF m 175 #[.val (.int n), .val (.int c0), .val (.int c1), .val (.int c2), .val (.int c3), .val (.int c4), .val (.int c5), .val (.int c6)] [(.int c0), (.int (0 : Int32)), (.ref b308), (.ref b308), (.ref b303), (.ref b303)]) := fun t_ k_ => R312 t_ (XS.iloadN X308.here hx rfl (hb hby d2_174) rfl k_)
                obtain ⟨cl314, cl314A, cl314q, cl314S, cl314N, cl314H, cl314G⟩ := id V308
                obtain ⟨T315, h315, X315, e315, W315, st315⟩ := stC X308 hx hZ e308 cl314A (j := (0 : Int32)) (inb_of cl314S ⟨by decide, by decide⟩) (g := (mkF m 175 #[.val (.int n), .val (.int c0), .val (.int c1), .val (.int c2), .val (.int c3), .val (.int c4), .val (.int c5), .val (.int c6)] [(.int c0), (.int (0 : Int32)), (.ref b308), (.ref b308), (.ref b303), (.ref b303)])) rfl rfl (hb hby d2_175)
                have V315 : Arv Z h315 b308 k308 .char (6 : Int32) [(.int (nar .char c0)), (.int (0 : Int32)), (.int (0 : Int32)), (.int (0 : Int32)), (.int (0 : Int32)), (.int (0 : Int32))] (.int (0 : Int32)) := Arv.set cl314A cl314q cl314S cl314N cl314H cl314G (fits_nar_char _) W315 0 rfl (Nat.le_of_ble_eq_true rfl)
                have Sw316 : Safe Z EL0 _ _ b308 := Sb308
                have N315 := Fr.snoc X315 N0 (Nat.le_trans (oldLe O303) (Nat.le_of_eq g308.symm))
                have O315 := O308.wr W315 (Nat.le_trans (oldLe O303) (Nat.le_of_eq g308.symm))
                have V315s : Arv Z h315 b308 k308 .char (6 : Int32) [(.int c0), (.int (0 : Int32)), (.int (0 : Int32)), (.int (0 : Int32)), (.int (0 : Int32)), (.int (0 : Int32))] (.int (0 : Int32)) := by have q := V315; rw [hch0.1] at q; exact q
                have C317 := C309.trans (CHr.wr W315 Sw316 C309.1)
                have hk317 := Nat.le_trans hk309 (Keep.of_wr W315).1
                have R318 : Go p e below P T315 (mkF m 176 #[.val (.int n), .val (.int c0), .val (.int c1), .val (.int c2), .val (.int c3), .val (.int c4), .val (.int c5), .val (.int c6)] [(.ref b308), (.ref b303), (.ref b303)]) := fun t_ k_ => R313 t_ (st315 t_ k_)
                have R319 : Go p e below P T315 (mkF m 177 #[.val (.int n), .val (.int c0), .val (.int c1), .val (.int c2), .val (.int c3), .val (.int c4), .val (.int c5), .val (.int c6)] [(.ref b308), (.ref b308), (.ref b303), (.ref b303)]) := fun t_ k_ => R318 t_ (XS.dup X315.here hx rfl (hb hby d2_176) rfl rfl k_)
                have R320 : Go p e below P T315 (mkF m 178 #[.val (.int n), .val (.int c0), .val (.int c1), .val (.int c2), .val (.int c3), .val (.int c4), .val (.int c5), .val (.int c6)] [(.int (1 : Int32)), (.ref b308), (.ref b308), (.ref b303), (.ref b303)]) := fun t_ k_ => R319 t_ (XS.iconst X315.here hx rfl (hb hby d2_177) k_)
                have R321 : Go p e below P T315 (mkF m 179 #[.val (.int n), .val (.int c0), .val (.int c1), .val (.int c2), .val (.int c3), .val (.int c4), .val (.int c5), .val (.int c6)] [(.int c1), (.int (1 : Int32)), (.ref b308), (.ref b308), (.ref b303), (.ref b303)]) := fun t_ k_ => R320 t_ (XS.iloadN X315.here hx rfl (hb hby d2_178) rfl k_)
                obtain ⟨cl322, cl322A, cl322q, cl322S, cl322N, cl322H, cl322G⟩ := id V315s
                obtain ⟨T323, h323, X323, e323, W323, st323⟩ := stC X315 hx hZ e315 cl322A (j := (1 : Int32)) (inb_of cl322S ⟨by decide, by decide⟩) (g := (mkF m 179 #[.val (.int n), .val (.int c0), .val (.int c1), .val (.int c2), .val (.int c3), .val (.int c4), .val (.int c5), .val (.int c6)] [(.int c1), (.int (1 : Int32)), (.ref b308), (.ref b308), (.ref b303), (.ref b303)])) rfl rfl (hb hby d2_179)
                have V323 : Arv Z h323 b308 k308 .char (6 : Int32) [(.int c0), (.int (nar .char c1)), (.int (0 : Int32)), (.int (0 : Int32)), (.int (0 : Int32)), (.int (0 : Int32))] (.int (0 : Int32)) := Arv.set cl322A cl322q cl322S cl322N cl322H cl322G (fits_nar_char _) W323 1 rfl (Nat.le_of_ble_eq_true rfl)
                have f325 := (Safe.wr W315 Sw316 C309.1 Sw316)
                have Sw324 : Safe Z EL0 _ _ b308 := f325
                have N323 := Fr.snoc X323 N315 (Nat.le_trans (oldLe O303) (Nat.le_of_eq g308.symm))
                have O323 := O315.wr W323 (Nat.le_trans (oldLe O303) (Nat.le_of_eq g308.symm))
                have V323s : Arv Z h323 b308 k308 .char (6 : Int32) [(.int c0), (.int c1), (.int (0 : Int32)), (.int (0 : Int32)), (.int (0 : Int32)), (.int (0 : Int32))] (.int (0 : Int32)) := by have q := V323; rw [hch1.1] at q; exact q
                have C326 := C317.trans (CHr.wr W323 Sw324 C317.1)
                have hk326 := Nat.le_trans hk317 (Keep.of_wr W323).1
                have R327 : Go p e below P T323 (mkF m 180 #[.val (.int n), .val (.int c0), .val (.int c1), .val (.int c2), .val (.int c3), .val (.int c4), .val (.int c5), .val (.int c6)] [(.ref b308), (.ref b303), (.ref b303)]) := fun t_ k_ => R321 t_ (st323 t_ k_)
                have R328 : Go p e below P T323 (mkF m 181 #[.val (.int n), .val (.int c0), .val (.int c1), .val (.int c2), .val (.int c3), .val (.int c4), .val (.int c5), .val (.int c6)] [(.ref b308), (.ref b308), (.ref b303), (.ref b303)]) := fun t_ k_ => R327 t_ (XS.dup X323.here hx rfl (hb hby d2_180) rfl rfl k_)
                have R329 : Go p e below P T323 (mkF m 182 #[.val (.int n), .val (.int c0), .val (.int c1), .val (.int c2), .val (.int c3), .val (.int c4), .val (.int c5), .val (.int c6)] [(.int (2 : Int32)), (.ref b308), (.ref b308), (.ref b303), (.ref b303)]) := fun t_ k_ => R328 t_ (XS.iconst X323.here hx rfl (hb hby d2_181) k_)
                have R330 : Go p e below P T323 (mkF m 183 #[.val (.int n), .val (.int c0), .val (.int c1), .val (.int c2), .val (.int c3), .val (.int c4), .val (.int c5), .val (.int c6)] [(.int c2), (.int (2 : Int32)), (.ref b308), (.ref b308), (.ref b303), (.ref b303)]) := fun t_ k_ => R329 t_ (XS.iloadN X323.here hx rfl (hb hby d2_182) rfl k_)
                obtain ⟨cl331, cl331A, cl331q, cl331S, cl331N, cl331H, cl331G⟩ := id V323s
                obtain ⟨T332, h332, X332, e332, W332, st332⟩ := stC X323 hx hZ e323 cl331A (j := (2 : Int32)) (inb_of cl331S ⟨by decide, by decide⟩) (g := (mkF m 183 #[.val (.int n), .val (.int c0), .val (.int c1), .val (.int c2), .val (.int c3), .val (.int c4), .val (.int c5), .val (.int c6)] [(.int c2), (.int (2 : Int32)), (.ref b308), (.ref b308), (.ref b303), (.ref b303)])) rfl rfl (hb hby d2_183)
                have V332 : Arv Z h332 b308 k308 .char (6 : Int32) [(.int c0), (.int c1), (.int (nar .char c2)), (.int (0 : Int32)), (.int (0 : Int32)), (.int (0 : Int32))] (.int (0 : Int32)) := Arv.set cl331A cl331q cl331S cl331N cl331H cl331G (fits_nar_char _) W332 2 rfl (Nat.le_of_ble_eq_true rfl)
                have f334 := (Safe.wr W323 Sw324 C317.1 Sw324)
                have Sw333 : Safe Z EL0 _ _ b308 := f334
                have N332 := Fr.snoc X332 N323 (Nat.le_trans (oldLe O303) (Nat.le_of_eq g308.symm))
                have O332 := O323.wr W332 (Nat.le_trans (oldLe O303) (Nat.le_of_eq g308.symm))
                have V332s : Arv Z h332 b308 k308 .char (6 : Int32) [(.int c0), (.int c1), (.int c2), (.int (0 : Int32)), (.int (0 : Int32)), (.int (0 : Int32))] (.int (0 : Int32)) := by have q := V332; rw [hch2.1] at q; exact q
                have C335 := C326.trans (CHr.wr W332 Sw333 C326.1)
                have hk335 := Nat.le_trans hk326 (Keep.of_wr W332).1
                have R336 : Go p e below P T332 (mkF m 184 #[.val (.int n), .val (.int c0), .val (.int c1), .val (.int c2), .val (.int c3), .val (.int c4), .val (.int c5), .val (.int c6)] [(.ref b308), (.ref b303), (.ref b303)]) := fun t_ k_ => R330 t_ (st332 t_ k_)
                have R337 : Go p e below P T332 (mkF m 185 #[.val (.int n), .val (.int c0), .val (.int c1), .val (.int c2), .val (.int c3), .val (.int c4), .val (.int c5), .val (.int c6)] [(.ref b308), (.ref b308), (.ref b303), (.ref b303)]) := fun t_ k_ => R336 t_ (XS.dup X332.here hx rfl (hb hby d2_184) rfl rfl k_)
                have R338 : Go p e below P T332 (mkF m 186 #[.val (.int n), .val (.int c0), .val (.int c1), .val (.int c2), .val (.int c3), .val (.int c4), .val (.int c5), .val (.int c6)] [(.int (3 : Int32)), (.ref b308), (.ref b308), (.ref b303), (.ref b303)]) := fun t_ k_ => R337 t_ (XS.iconst X332.here hx rfl (hb hby d2_185) k_)
                have R339 : Go p e below P T332 (mkF m 188 #[.val (.int n), .val (.int c0), .val (.int c1), .val (.int c2), .val (.int c3), .val (.int c4), .val (.int c5), .val (.int c6)] [(.int c3), (.int (3 : Int32)), (.ref b308), (.ref b308), (.ref b303), (.ref b303)]) := fun t_ k_ => R338 t_ (XS.iload X332.here hx rfl (hb hby d2_186) rfl k_)
                obtain ⟨cl340, cl340A, cl340q, cl340S, cl340N, cl340H, cl340G⟩ := id V332s
                obtain ⟨T341, h341, X341, e341, W341, st341⟩ := stC X332 hx hZ e332 cl340A (j := (3 : Int32)) (inb_of cl340S ⟨by decide, by decide⟩) (g := (mkF m 188 #[.val (.int n), .val (.int c0), .val (.int c1), .val (.int c2), .val (.int c3), .val (.int c4), .val (.int c5), .val (.int c6)] [(.int c3), (.int (3 : Int32)), (.ref b308), (.ref b308), (.ref b303), (.ref b303)])) rfl rfl (hb hby d2_188)
                have V341 : Arv Z h341 b308 k308 .char (6 : Int32) [(.int c0), (.int c1), (.int c2), (.int (nar .char c3)), (.int (0 : Int32)), (.int (0 : Int32))] (.int (0 : Int32)) := Arv.set cl340A cl340q cl340S cl340N cl340H cl340G (fits_nar_char _) W341 3 rfl (Nat.le_of_ble_eq_true rfl)
                have f343 := (Safe.wr W332 Sw333 C326.1 Sw333)
                have Sw342 : Safe Z EL0 _ _ b308 := f343
                have N341 := Fr.snoc X341 N332 (Nat.le_trans (oldLe O303) (Nat.le_of_eq g308.symm))
                have O341 := O332.wr W341 (Nat.le_trans (oldLe O303) (Nat.le_of_eq g308.symm))
                have V341s : Arv Z h341 b308 k308 .char (6 : Int32) [(.int c0), (.int c1), (.int c2), (.int c3), (.int (0 : Int32)), (.int (0 : Int32))] (.int (0 : Int32)) := by have q := V341; rw [hch3.1] at q; exact q
                have C344 := C335.trans (CHr.wr W341 Sw342 C335.1)
                have hk344 := Nat.le_trans hk335 (Keep.of_wr W341).1
                have R345 : Go p e below P T341 (mkF m 189 #[.val (.int n), .val (.int c0), .val (.int c1), .val (.int c2), .val (.int c3), .val (.int c4), .val (.int c5), .val (.int c6)] [(.ref b308), (.ref b303), (.ref b303)]) := fun t_ k_ => R339 t_ (st341 t_ k_)
                have R346 : Go p e below P T341 (mkF m 190 #[.val (.int n), .val (.int c0), .val (.int c1), .val (.int c2), .val (.int c3), .val (.int c4), .val (.int c5), .val (.int c6)] [(.ref b308), (.ref b308), (.ref b303), (.ref b303)]) := fun t_ k_ => R345 t_ (XS.dup X341.here hx rfl (hb hby d2_189) rfl rfl k_)
                have R347 : Go p e below P T341 (mkF m 191 #[.val (.int n), .val (.int c0), .val (.int c1), .val (.int c2), .val (.int c3), .val (.int c4), .val (.int c5), .val (.int c6)] [(.int (4 : Int32)), (.ref b308), (.ref b308), (.ref b303), (.ref b303)]) := fun t_ k_ => R346 t_ (XS.iconst X341.here hx rfl (hb hby d2_190) k_)
                have R348 : Go p e below P T341 (mkF m 193 #[.val (.int n), .val (.int c0), .val (.int c1), .val (.int c2), .val (.int c3), .val (.int c4), .val (.int c5), .val (.int c6)] [(.int c4), (.int (4 : Int32)), (.ref b308), (.ref b308), (.ref b303), (.ref b303)]) := fun t_ k_ => R347 t_ (XS.iload X341.here hx rfl (hb hby d2_191) rfl k_)
                obtain ⟨cl349, cl349A, cl349q, cl349S, cl349N, cl349H, cl349G⟩ := id V341s
                obtain ⟨T350, h350, X350, e350, W350, st350⟩ := stC X341 hx hZ e341 cl349A (j := (4 : Int32)) (inb_of cl349S ⟨by decide, by decide⟩) (g := (mkF m 193 #[.val (.int n), .val (.int c0), .val (.int c1), .val (.int c2), .val (.int c3), .val (.int c4), .val (.int c5), .val (.int c6)] [(.int c4), (.int (4 : Int32)), (.ref b308), (.ref b308), (.ref b303), (.ref b303)])) rfl rfl (hb hby d2_193)
                have V350 : Arv Z h350 b308 k308 .char (6 : Int32) [(.int c0), (.int c1), (.int c2), (.int c3), (.int (nar .char c4)), (.int (0 : Int32))] (.int (0 : Int32)) := Arv.set cl349A cl349q cl349S cl349N cl349H cl349G (fits_nar_char _) W350 4 rfl (Nat.le_of_ble_eq_true rfl)
                have f352 := (Safe.wr W341 Sw342 C335.1 Sw342)
                have Sw351 : Safe Z EL0 _ _ b308 := f352
                have N350 := Fr.snoc X350 N341 (Nat.le_trans (oldLe O303) (Nat.le_of_eq g308.symm))
                have O350 := O341.wr W350 (Nat.le_trans (oldLe O303) (Nat.le_of_eq g308.symm))
                have V350s : Arv Z h350 b308 k308 .char (6 : Int32) [(.int c0), (.int c1), (.int c2), (.int c3), (.int c4), (.int (0 : Int32))] (.int (0 : Int32)) := by have q := V350; rw [hch4.1] at q; exact q
                have C353 := C344.trans (CHr.wr W350 Sw351 C344.1)
                have hk353 := Nat.le_trans hk344 (Keep.of_wr W350).1
                have R354 : Go p e below P T350 (mkF m 194 #[.val (.int n), .val (.int c0), .val (.int c1), .val (.int c2), .val (.int c3), .val (.int c4), .val (.int c5), .val (.int c6)] [(.ref b308), (.ref b303), (.ref b303)]) := fun t_ k_ => R348 t_ (st350 t_ k_)
                have R355 : Go p e below P T350 (mkF m 195 #[.val (.int n), .val (.int c0), .val (.int c1), .val (.int c2), .val (.int c3), .val (.int c4), .val (.int c5), .val (.int c6)] [(.ref b308), (.ref b308), (.ref b303), (.ref b303)]) := fun t_ k_ => R354 t_ (XS.dup X350.here hx rfl (hb hby d2_194) rfl rfl k_)
                have R356 : Go p e below P T350 (mkF m 196 #[.val (.int n), .val (.int c0), .val (.int c1), .val (.int c2), .val (.int c3), .val (.int c4), .val (.int c5), .val (.int c6)] [(.int (5 : Int32)), (.ref b308), (.ref b308), (.ref b303), (.ref b303)]) := fun t_ k_ => R355 t_ (XS.iconst X350.here hx rfl (hb hby d2_195) k_)
                have R357 : Go p e below P T350 (mkF m 198 #[.val (.int n), .val (.int c0), .val (.int c1), .val (.int c2), .val (.int c3), .val (.int c4), .val (.int c5), .val (.int c6)] [(.int c5), (.int (5 : Int32)), (.ref b308), (.ref b308), (.ref b303), (.ref b303)]) := fun t_ k_ => R356 t_ (XS.iload X350.here hx rfl (hb hby d2_196) rfl k_)
                obtain ⟨cl358, cl358A, cl358q, cl358S, cl358N, cl358H, cl358G⟩ := id V350s
                obtain ⟨T359, h359, X359, e359, W359, st359⟩ := stC X350 hx hZ e350 cl358A (j := (5 : Int32)) (inb_of cl358S ⟨by decide, by decide⟩) (g := (mkF m 198 #[.val (.int n), .val (.int c0), .val (.int c1), .val (.int c2), .val (.int c3), .val (.int c4), .val (.int c5), .val (.int c6)] [(.int c5), (.int (5 : Int32)), (.ref b308), (.ref b308), (.ref b303), (.ref b303)])) rfl rfl (hb hby d2_198)
                have V359 : Arv Z h359 b308 k308 .char (6 : Int32) [(.int c0), (.int c1), (.int c2), (.int c3), (.int c4), (.int (nar .char c5))] (.int (0 : Int32)) := Arv.set cl358A cl358q cl358S cl358N cl358H cl358G (fits_nar_char _) W359 5 rfl (Nat.le_of_ble_eq_true rfl)
                have f361 := (Safe.wr W350 Sw351 C344.1 Sw351)
                have Sw360 : Safe Z EL0 _ _ b308 := f361
                have N359 := Fr.snoc X359 N350 (Nat.le_trans (oldLe O303) (Nat.le_of_eq g308.symm))
                have O359 := O350.wr W359 (Nat.le_trans (oldLe O303) (Nat.le_of_eq g308.symm))
                have V359s : Arv Z h359 b308 k308 .char (6 : Int32) [(.int c0), (.int c1), (.int c2), (.int c3), (.int c4), (.int c5)] (.int (0 : Int32)) := by have q := V359; rw [hch5.1] at q; exact q
                have C362 := C353.trans (CHr.wr W359 Sw360 C353.1)
                have hk362 := Nat.le_trans hk353 (Keep.of_wr W359).1
                have R363 : Go p e below P T359 (mkF m 199 #[.val (.int n), .val (.int c0), .val (.int c1), .val (.int c2), .val (.int c3), .val (.int c4), .val (.int c5), .val (.int c6)] [(.ref b308), (.ref b303), (.ref b303)]) := fun t_ k_ => R357 t_ (st359 t_ k_)
                have f364 := (((((((A303.ext E308).wr W315).wr W323).wr W332).wr W341).wr W350).wr W359)
                have f365 := (((((((F303_24.ext E308).other W315 (Or.inl (Nat.ne_of_lt (Nat.lt_of_lt_of_le A303.lt (Nat.le_of_eq g308.symm))))).other W323 (Or.inl (Nat.ne_of_lt (Nat.lt_of_lt_of_le A303.lt (Nat.le_of_eq g308.symm))))).other W332 (Or.inl (Nat.ne_of_lt (Nat.lt_of_lt_of_le A303.lt (Nat.le_of_eq g308.symm))))).other W341 (Or.inl (Nat.ne_of_lt (Nat.lt_of_lt_of_le A303.lt (Nat.le_of_eq g308.symm))))).other W350 (Or.inl (Nat.ne_of_lt (Nat.lt_of_lt_of_le A303.lt (Nat.le_of_eq g308.symm))))).other W359 (Or.inl (Nat.ne_of_lt (Nat.lt_of_lt_of_le A303.lt (Nat.le_of_eq g308.symm)))))
                have f366 := (((((((F303_25.ext E308).other W315 (Or.inl (Nat.ne_of_lt (Nat.lt_of_lt_of_le A303.lt (Nat.le_of_eq g308.symm))))).other W323 (Or.inl (Nat.ne_of_lt (Nat.lt_of_lt_of_le A303.lt (Nat.le_of_eq g308.symm))))).other W332 (Or.inl (Nat.ne_of_lt (Nat.lt_of_lt_of_le A303.lt (Nat.le_of_eq g308.symm))))).other W341 (Or.inl (Nat.ne_of_lt (Nat.lt_of_lt_of_le A303.lt (Nat.le_of_eq g308.symm))))).other W350 (Or.inl (Nat.ne_of_lt (Nat.lt_of_lt_of_le A303.lt (Nat.le_of_eq g308.symm))))).other W359 (Or.inl (Nat.ne_of_lt (Nat.lt_of_lt_of_le A303.lt (Nat.le_of_eq g308.symm)))))
                have f368 := (Safe.wr W359 Sw360 C353.1 (Safe.wr W350 Sw351 C344.1 (Safe.wr W341 Sw342 C335.1 (Safe.wr W332 Sw333 C326.1 (Safe.wr W323 Sw324 C317.1 (Safe.wr W315 Sw316 C309.1 (Safe.ext E308 C304.1 Sb303)))))))
                have Sw367 : Safe Z EL0 _ _ b303 := f368
                obtain ⟨rv369, _, ⟨T369, L369, k369, n369⟩, -, X369, ⟨Lc369, hQ369, l369, y369, z369⟩, st369⟩ := X359.specialBack hx (y := (⟨"java/lang/String", "<init>", "([C)V"⟩ : MethodName)) rfl hown (mvT hZ (hw _ (List.mem_of_getElem? (i := 12) rfl))) (mvT hZ (hw _ (List.mem_of_getElem? (i := 13) rfl))) (mvT hZ (hw _ (List.mem_of_getElem? (i := 14) rfl))) (by decide) (StrChars.Road.backV (W := 1) hZ (w_backV hw) (kI := 4) (hw _ (List.mem_of_getElem? (i := 9) rfl)) (cs := ([c0, c1, c2, c3, c4, c5] : List Int32)) (bs := ([c0, c1, c2, c3, c4, c5] : List Int32).map (fun c => c.toInt8.toInt32)) (n := 6) (Nat.le_trans (oldLe O0) (Nat.le_of_eq g303.symm)) (oldLe O359) f364 f365 f366 V359s (P0.ext O359.2) hzc rfl rfl (by decide) (by decide) (by intro c hc; simp only [List.mem_cons, List.not_mem_nil, or_false] at hc; rcases hc with rfl | rfl | rfl | rfl | rfl | rfl <;> first | exact hch0.2 | exact hch1.2 | exact hch2.2 | exact hch3.2 | exact hch4.2 | exact hch5.2) rfl (by decide) (by decide)) (g := (mkF m 199 #[.val (.int n), .val (.int c0), .val (.int c1), .val (.int c2), .val (.int c3), .val (.int c4), .val (.int c5), .val (.int c6)] [(.ref b308), (.ref b303), (.ref b303)])) rfl (by rw [hml]; rfl) (Steps.refl _) (a := b303) (argsL := [(.ref b308)]) (rest := [(.ref b303)]) (lenOf pd_42155922 rfl) rfl (by show 2 * 0 + _ ≤ _; exact Nat.le_of_eq rfl) (hb hby d2_199) (fun _ _ => ⟨rfl, e359, (by decide : 2 + 1 ≤ _), (by decide : 10 + 6 ≤ _)⟩)
                dsimp only [Pt.U, Pt.locs, Pt.cells, Pt.slots] at X369 l369 y369 z369 st369 hQ369
                subst l369 y369 z369
                obtain ⟨rfl, N369q, K369, pE369, pC369, t369, kb369, -, lt369, tn369, pV369, pA369⟩ := hQ369
                have N369 := Fr.app N359 N369q
                have O369 := O359.keep K369 (allS (Nat.le_trans (oldLe O0) (Nat.le_of_eq g303.symm)) all0)
                have C370 := C362.trans (CHr.keep K369 (sfS Sw367 sf0) C362.1)
                have hk370 := Nat.le_trans hk362 K369.1
                have pB369 : Arv Z T369.heap t369 kb369 .byte (Int32.ofNat ([c0, c1, c2, c3, c4, c5] : List Int32).length) ((([c0, c1, c2, c3, c4, c5] : List Int32).map StrChars.lo8).map Value.int) (.int (0 : Int32)) := pA369
                have R371 : Go p e below P T369 (mkF m 202 #[.val (.int n), .val (.int c0), .val (.int c1), .val (.int c2), .val (.int c3), .val (.int c4), .val (.int c5), .val (.int c6)] [(.ref b303)]) := fun t_ k_ => R363 t_ (st369.trans k_)
                obtain ⟨fs, hr, hrun, hended, hend⟩ := X369.leaveW hS0 (by rw [(rfl : T369.heap = T369.heap)]; exact hk370 : _ ≤ T369.heap.size) (v := some (.ref b303)) (fun h => by rw [Bd.returns] at h; cases h)
                have hCe := C370.trans (CHv.at X369 hZ hEL C370.1)
                exact ⟨_, _, hP _ (R371 _ (retOut X369 hx Bd.returns rfl (Or.inr (Or.inr (Or.inr (Or.inr ⟨rfl, rfl, rfl⟩)))) (hb hby d2_202) hr)), hrun, hended, _, _, rfl, ⟨b303, t369, kb369, rfl, N369, ((((((((((Keep.refl h0 []).ext E303).ext E308).wr W315 (Or.inr (Nat.le_trans ((Keep.refl h0 []).ext E303).1 (Nat.le_of_eq g308.symm)))).wr W323 (Or.inr (Nat.le_trans ((Keep.refl h0 []).ext E303).1 (Nat.le_of_eq g308.symm)))).wr W332 (Or.inr (Nat.le_trans ((Keep.refl h0 []).ext E303).1 (Nat.le_of_eq g308.symm)))).wr W341 (Or.inr (Nat.le_trans ((Keep.refl h0 []).ext E303).1 (Nat.le_of_eq g308.symm)))).wr W350 (Or.inr (Nat.le_trans ((Keep.refl h0 []).ext E303).1 (Nat.le_of_eq g308.symm)))).wr W359 (Or.inr (Nat.le_trans ((Keep.refl h0 []).ext E303).1 (Nat.le_of_eq g308.symm)))).trans K369 (allS (Or.inr (Nat.le_of_eq g303.symm)) all0)), (Nat.le_of_eq g303.symm), pE369, pC369, pV369, (by rw [show strL n c0 c1 c2 c3 c4 c5 c6 = [c0, c1, c2, c3, c4, c5] from by simp [strL, hc47, hc66, hc95, hc133, hc180, hc236, hc301]]; exact pB369)⟩, (by show CHr Z EL0 s.vm s.heap T369.vm T369.heap; rw [hh, (rfl : T369.heap = T369.heap)]; exact hCe), ⟨hend.1, hend.2.1, hend.2.2.1, hend.2.2.2.mono (by decide) (by decide)⟩⟩
              · have R372 : Go p e below P s₁ (mkF m 203 #[.val (.int n), .val (.int c0), .val (.int c1), .val (.int c2), .val (.int c3), .val (.int c4), .val (.int c5), .val (.int c6)] []) := fun t_ k_ => R300 t_ (XS.icmpYes X0.here hx rfl (pc0 := 161) (pc' := 203) rfl (hb hby d2_161) rfl (feq hc301).2 (by decide) (by decide) k_)
                obtain ⟨T373, h373, X373, e373, E373, A373, D373, -, st373⟩ := newO X0 hx hZ hown (hw _ (List.mem_of_getElem? (i := 8) rfl)) (hw _ (List.mem_of_getElem? (i := 9) rfl)) (hw _ (List.mem_of_getElem? (i := 10) rfl)) e0 (g := (mkF m 203 #[.val (.int n), .val (.int c0), .val (.int c1), .val (.int c2), .val (.int c3), .val (.int c4), .val (.int c5), .val (.int c6)] [])) rfl (hb hby d2_203) (by decide) (by decide)
                obtain ⟨b373, g373⟩ : ∃ z, z = h0.size := ⟨_, rfl⟩
                rw [← g373] at A373 D373 st373
                have O373 := O0.ext E373
                have C374 := C0.trans (CHr.ext E373 C0.1)
                have hk374 := Nat.le_trans hk0 E373.1
                have Sb373 : Safe Z EL0 _ _ _ := Safe.ext E373 C0.1 (Safe.new (Nat.le_of_eq g373.symm))
                have F373_24 : Fld Z h373 b373 "java/lang/String" "value" "[B" .null := D373 (Or.inr (hw _ (List.mem_of_getElem? (i := 24) rfl))) (ty := (.array .byte)) (by decide)
                have F373_25 : Fld Z h373 b373 "java/lang/String" "coder" "B" (.int (0 : Int32)) := D373 (Or.inr (hw _ (List.mem_of_getElem? (i := 25) rfl))) (ty := .byte) (by decide)
                have R375 : Go p e below P T373 (mkF m 206 #[.val (.int n), .val (.int c0), .val (.int c1), .val (.int c2), .val (.int c3), .val (.int c4), .val (.int c5), .val (.int c6)] [(.ref b373)]) := fun t_ k_ => R372 t_ (st373 t_ k_)
                have R376 : Go p e below P T373 (mkF m 207 #[.val (.int n), .val (.int c0), .val (.int c1), .val (.int c2), .val (.int c3), .val (.int c4), .val (.int c5), .val (.int c6)] [(.ref b373), (.ref b373)]) := fun t_ k_ => R375 t_ (XS.dup X373.here hx rfl (hb hby d2_206) rfl rfl k_)
                have R377 : Go p e below P T373 (mkF m 209 #[.val (.int n), .val (.int c0), .val (.int c1), .val (.int c2), .val (.int c3), .val (.int c4), .val (.int c5), .val (.int c6)] [(.int (7 : Int32)), (.ref b373), (.ref b373)]) := fun t_ k_ => R376 t_ (XS.bipush X373.here hx rfl (hb hby d2_207) k_)
                obtain ⟨T378, h378, k378, X378, e378, E378, A378, st378⟩ := newP X373 hx hZ (hw _ (List.mem_of_getElem? (i := 11) rfl)) e373 (g := (mkF m 209 #[.val (.int n), .val (.int c0), .val (.int c1), .val (.int c2), .val (.int c3), .val (.int c4), .val (.int c5), .val (.int c6)] [(.int (7 : Int32)), (.ref b373), (.ref b373)])) rfl (hb hby d2_209) rfl (by decide) (cap := 7) (by decide) (by decide) (by decide) (by decide)
                obtain ⟨b378, g378⟩ : ∃ z, z = h373.size := ⟨_, rfl⟩
                rw [← g378] at A378 st378
                have O378 := O373.ext E378
                have V378 : Arv Z h378 b378 k378 .char (7 : Int32) [(.int (0 : Int32)), (.int (0 : Int32)), (.int (0 : Int32)), (.int (0 : Int32)), (.int (0 : Int32)), (.int (0 : Int32)), (.int (0 : Int32))] (.int (0 : Int32)) := (Arv.new A378 (by decide)).pad (pad_rep [] (.int (0 : Int32)) 7)
                have C379 := C374.trans (CHr.ext E378 C374.1)
                have hk379 := Nat.le_trans hk374 E378.1
                have Sb378 : Safe Z EL0 _ _ _ := Safe.ext E378 C374.1 (Safe.new (Nat.le_of_eq g378.symm))
                have R380 : Go p e below P T378 (mkF m 211 #[.val (.int n), .val (.int c0), .val (.int c1), .val (.int c2), .val (.int c3), .val (.int c4), .val (.int c5), .val (.int c6)] [(.ref b378), (.ref b373), (.ref b373)]) := fun t_ k_ => R377 t_ (st378 t_ k_)
                have R381 : Go p e below P T378 (mkF m 212 #[.val (.int n), .val (.int c0), .val (.int c1), .val (.int c2), .val (.int c3), .val (.int c4), .val (.int c5), .val (.int c6)] [(.ref b378), (.ref b378), (.ref b373), (.ref b373)]) := fun t_ k_ => R380 t_ (XS.dup X378.here hx rfl (hb hby d2_211) rfl rfl k_)
                have R382 : Go p e below P T378 (mkF m 213 #[.val (.int n), .val (.int c0), .val (.int c1), .val (.int c2), .val (.int c3), .val (.int c4), .val (.int c5), .val (.int c6)] [(.int (0 : Int32)), (.ref b378), (.ref b378), (.ref b373), (.ref b373)]) := fun t_ k_ => R381 t_ (XS.iconst X378.here hx rfl (hb hby d2_212) k_)
                have R383 : Go p e below P T378 (mkF m 214 #[.val (.int n), .val (.int c0), .val (.int c1), .val (.int c2), .val (.int c3), .val (.int c4), .val (.int c5), .val (.int c6)] [(.int c0), (.int (0 : Int32)), (.ref b378), (.ref b378), (.ref b373), (.ref b373)]) := fun t_ k_ => R382 t_ (XS.iloadN X378.here hx rfl (hb hby d2_213) rfl k_)
                obtain ⟨cl384, cl384A, cl384q, cl384S, cl384N, cl384H, cl384G⟩ := id V378
                obtain ⟨T385, h385, X385, e385, W385, st385⟩ := stC X378 hx hZ e378 cl384A (j := (0 : Int32)) (inb_of cl384S ⟨by decide, by decide⟩) (g := (mkF m 214 #[.val (.int n), .val (.int c0), .val (.int c1), .val (.int c2), .val (.int c3), .val (.int c4), .val (.int c5), .val (.int c6)] [(.int c0), (.int (0 : Int32)), (.ref b378), (.ref b378), (.ref b373), (.ref b373)])) rfl rfl (hb hby d2_214)
                have V385 : Arv Z h385 b378 k378 .char (7 : Int32) [(.int (nar .char c0)), (.int (0 : Int32)), (.int (0 : Int32)), (.int (0 : Int32)), (.int (0 : Int32)), (.int (0 : Int32)), (.int (0 : Int32))] (.int (0 : Int32)) := Arv.set cl384A cl384q cl384S cl384N cl384H cl384G (fits_nar_char _) W385 0 rfl (Nat.le_of_ble_eq_true rfl)
                have Sw386 : Safe Z EL0 _ _ b378 := Sb378
                have N385 := Fr.snoc X385 N0 (Nat.le_trans (oldLe O373) (Nat.le_of_eq g378.symm))
                have O385 := O378.wr W385 (Nat.le_trans (oldLe O373) (Nat.le_of_eq g378.symm))
                have V385s : Arv Z h385 b378 k378 .char (7 : Int32) [(.int c0), (.int (0 : Int32)), (.int (0 : Int32)), (.int (0 : Int32)), (.int (0 : Int32)), (.int (0 : Int32)), (.int (0 : Int32))] (.int (0 : Int32)) := by have q := V385; rw [hch0.1] at q; exact q
                have C387 := C379.trans (CHr.wr W385 Sw386 C379.1)
                have hk387 := Nat.le_trans hk379 (Keep.of_wr W385).1
                have R388 : Go p e below P T385 (mkF m 215 #[.val (.int n), .val (.int c0), .val (.int c1), .val (.int c2), .val (.int c3), .val (.int c4), .val (.int c5), .val (.int c6)] [(.ref b378), (.ref b373), (.ref b373)]) := fun t_ k_ => R383 t_ (st385 t_ k_)
                have R389 : Go p e below P T385 (mkF m 216 #[.val (.int n), .val (.int c0), .val (.int c1), .val (.int c2), .val (.int c3), .val (.int c4), .val (.int c5), .val (.int c6)] [(.ref b378), (.ref b378), (.ref b373), (.ref b373)]) := fun t_ k_ => R388 t_ (XS.dup X385.here hx rfl (hb hby d2_215) rfl rfl k_)
                have R390 : Go p e below P T385 (mkF m 217 #[.val (.int n), .val (.int c0), .val (.int c1), .val (.int c2), .val (.int c3), .val (.int c4), .val (.int c5), .val (.int c6)] [(.int (1 : Int32)), (.ref b378), (.ref b378), (.ref b373), (.ref b373)]) := fun t_ k_ => R389 t_ (XS.iconst X385.here hx rfl (hb hby d2_216) k_)
                have R391 : Go p e below P T385 (mkF m 218 #[.val (.int n), .val (.int c0), .val (.int c1), .val (.int c2), .val (.int c3), .val (.int c4), .val (.int c5), .val (.int c6)] [(.int c1), (.int (1 : Int32)), (.ref b378), (.ref b378), (.ref b373), (.ref b373)]) := fun t_ k_ => R390 t_ (XS.iloadN X385.here hx rfl (hb hby d2_217) rfl k_)
                obtain ⟨cl392, cl392A, cl392q, cl392S, cl392N, cl392H, cl392G⟩ := id V385s
                obtain ⟨T393, h393, X393, e393, W393, st393⟩ := stC X385 hx hZ e385 cl392A (j := (1 : Int32)) (inb_of cl392S ⟨by decide, by decide⟩) (g := (mkF m 218 #[.val (.int n), .val (.int c0), .val (.int c1), .val (.int c2), .val (.int c3), .val (.int c4), .val (.int c5), .val (.int c6)] [(.int c1), (.int (1 : Int32)), (.ref b378), (.ref b378), (.ref b373), (.ref b373)])) rfl rfl (hb hby d2_218)
                have V393 : Arv Z h393 b378 k378 .char (7 : Int32) [(.int c0), (.int (nar .char c1)), (.int (0 : Int32)), (.int (0 : Int32)), (.int (0 : Int32)), (.int (0 : Int32)), (.int (0 : Int32))] (.int (0 : Int32)) := Arv.set cl392A cl392q cl392S cl392N cl392H cl392G (fits_nar_char _) W393 1 rfl (Nat.le_of_ble_eq_true rfl)
                have f395 := (Safe.wr W385 Sw386 C379.1 Sw386)
                have Sw394 : Safe Z EL0 _ _ b378 := f395
                have N393 := Fr.snoc X393 N385 (Nat.le_trans (oldLe O373) (Nat.le_of_eq g378.symm))
                have O393 := O385.wr W393 (Nat.le_trans (oldLe O373) (Nat.le_of_eq g378.symm))
                have V393s : Arv Z h393 b378 k378 .char (7 : Int32) [(.int c0), (.int c1), (.int (0 : Int32)), (.int (0 : Int32)), (.int (0 : Int32)), (.int (0 : Int32)), (.int (0 : Int32))] (.int (0 : Int32)) := by have q := V393; rw [hch1.1] at q; exact q
                have C396 := C387.trans (CHr.wr W393 Sw394 C387.1)
                have hk396 := Nat.le_trans hk387 (Keep.of_wr W393).1
                have R397 : Go p e below P T393 (mkF m 219 #[.val (.int n), .val (.int c0), .val (.int c1), .val (.int c2), .val (.int c3), .val (.int c4), .val (.int c5), .val (.int c6)] [(.ref b378), (.ref b373), (.ref b373)]) := fun t_ k_ => R391 t_ (st393 t_ k_)
                have R398 : Go p e below P T393 (mkF m 220 #[.val (.int n), .val (.int c0), .val (.int c1), .val (.int c2), .val (.int c3), .val (.int c4), .val (.int c5), .val (.int c6)] [(.ref b378), (.ref b378), (.ref b373), (.ref b373)]) := fun t_ k_ => R397 t_ (XS.dup X393.here hx rfl (hb hby d2_219) rfl rfl k_)
                have R399 : Go p e below P T393 (mkF m 221 #[.val (.int n), .val (.int c0), .val (.int c1), .val (.int c2), .val (.int c3), .val (.int c4), .val (.int c5), .val (.int c6)] [(.int (2 : Int32)), (.ref b378), (.ref b378), (.ref b373), (.ref b373)]) := fun t_ k_ => R398 t_ (XS.iconst X393.here hx rfl (hb hby d2_220) k_)
                have R400 : Go p e below P T393 (mkF m 222 #[.val (.int n), .val (.int c0), .val (.int c1), .val (.int c2), .val (.int c3), .val (.int c4), .val (.int c5), .val (.int c6)] [(.int c2), (.int (2 : Int32)), (.ref b378), (.ref b378), (.ref b373), (.ref b373)]) := fun t_ k_ => R399 t_ (XS.iloadN X393.here hx rfl (hb hby d2_221) rfl k_)
                obtain ⟨cl401, cl401A, cl401q, cl401S, cl401N, cl401H, cl401G⟩ := id V393s
                obtain ⟨T402, h402, X402, e402, W402, st402⟩ := stC X393 hx hZ e393 cl401A (j := (2 : Int32)) (inb_of cl401S ⟨by decide, by decide⟩) (g := (mkF m 222 #[.val (.int n), .val (.int c0), .val (.int c1), .val (.int c2), .val (.int c3), .val (.int c4), .val (.int c5), .val (.int c6)] [(.int c2), (.int (2 : Int32)), (.ref b378), (.ref b378), (.ref b373), (.ref b373)])) rfl rfl (hb hby d2_222)
                have V402 : Arv Z h402 b378 k378 .char (7 : Int32) [(.int c0), (.int c1), (.int (nar .char c2)), (.int (0 : Int32)), (.int (0 : Int32)), (.int (0 : Int32)), (.int (0 : Int32))] (.int (0 : Int32)) := Arv.set cl401A cl401q cl401S cl401N cl401H cl401G (fits_nar_char _) W402 2 rfl (Nat.le_of_ble_eq_true rfl)
                have f404 := (Safe.wr W393 Sw394 C387.1 Sw394)
                have Sw403 : Safe Z EL0 _ _ b378 := f404
                have N402 := Fr.snoc X402 N393 (Nat.le_trans (oldLe O373) (Nat.le_of_eq g378.symm))
                have O402 := O393.wr W402 (Nat.le_trans (oldLe O373) (Nat.le_of_eq g378.symm))
                have V402s : Arv Z h402 b378 k378 .char (7 : Int32) [(.int c0), (.int c1), (.int c2), (.int (0 : Int32)), (.int (0 : Int32)), (.int (0 : Int32)), (.int (0 : Int32))] (.int (0 : Int32)) := by have q := V402; rw [hch2.1] at q; exact q
                have C405 := C396.trans (CHr.wr W402 Sw403 C396.1)
                have hk405 := Nat.le_trans hk396 (Keep.of_wr W402).1
                have R406 : Go p e below P T402 (mkF m 223 #[.val (.int n), .val (.int c0), .val (.int c1), .val (.int c2), .val (.int c3), .val (.int c4), .val (.int c5), .val (.int c6)] [(.ref b378), (.ref b373), (.ref b373)]) := fun t_ k_ => R400 t_ (st402 t_ k_)
                have R407 : Go p e below P T402 (mkF m 224 #[.val (.int n), .val (.int c0), .val (.int c1), .val (.int c2), .val (.int c3), .val (.int c4), .val (.int c5), .val (.int c6)] [(.ref b378), (.ref b378), (.ref b373), (.ref b373)]) := fun t_ k_ => R406 t_ (XS.dup X402.here hx rfl (hb hby d2_223) rfl rfl k_)
                have R408 : Go p e below P T402 (mkF m 225 #[.val (.int n), .val (.int c0), .val (.int c1), .val (.int c2), .val (.int c3), .val (.int c4), .val (.int c5), .val (.int c6)] [(.int (3 : Int32)), (.ref b378), (.ref b378), (.ref b373), (.ref b373)]) := fun t_ k_ => R407 t_ (XS.iconst X402.here hx rfl (hb hby d2_224) k_)
                have R409 : Go p e below P T402 (mkF m 227 #[.val (.int n), .val (.int c0), .val (.int c1), .val (.int c2), .val (.int c3), .val (.int c4), .val (.int c5), .val (.int c6)] [(.int c3), (.int (3 : Int32)), (.ref b378), (.ref b378), (.ref b373), (.ref b373)]) := fun t_ k_ => R408 t_ (XS.iload X402.here hx rfl (hb hby d2_225) rfl k_)
                obtain ⟨cl410, cl410A, cl410q, cl410S, cl410N, cl410H, cl410G⟩ := id V402s
                obtain ⟨T411, h411, X411, e411, W411, st411⟩ := stC X402 hx hZ e402 cl410A (j := (3 : Int32)) (inb_of cl410S ⟨by decide, by decide⟩) (g := (mkF m 227 #[.val (.int n), .val (.int c0), .val (.int c1), .val (.int c2), .val (.int c3), .val (.int c4), .val (.int c5), .val (.int c6)] [(.int c3), (.int (3 : Int32)), (.ref b378), (.ref b378), (.ref b373), (.ref b373)])) rfl rfl (hb hby d2_227)
                have V411 : Arv Z h411 b378 k378 .char (7 : Int32) [(.int c0), (.int c1), (.int c2), (.int (nar .char c3)), (.int (0 : Int32)), (.int (0 : Int32)), (.int (0 : Int32))] (.int (0 : Int32)) := Arv.set cl410A cl410q cl410S cl410N cl410H cl410G (fits_nar_char _) W411 3 rfl (Nat.le_of_ble_eq_true rfl)
                have f413 := (Safe.wr W402 Sw403 C396.1 Sw403)
                have Sw412 : Safe Z EL0 _ _ b378 := f413
                have N411 := Fr.snoc X411 N402 (Nat.le_trans (oldLe O373) (Nat.le_of_eq g378.symm))
                have O411 := O402.wr W411 (Nat.le_trans (oldLe O373) (Nat.le_of_eq g378.symm))
                have V411s : Arv Z h411 b378 k378 .char (7 : Int32) [(.int c0), (.int c1), (.int c2), (.int c3), (.int (0 : Int32)), (.int (0 : Int32)), (.int (0 : Int32))] (.int (0 : Int32)) := by have q := V411; rw [hch3.1] at q; exact q
                have C414 := C405.trans (CHr.wr W411 Sw412 C405.1)
                have hk414 := Nat.le_trans hk405 (Keep.of_wr W411).1
                have R415 : Go p e below P T411 (mkF m 228 #[.val (.int n), .val (.int c0), .val (.int c1), .val (.int c2), .val (.int c3), .val (.int c4), .val (.int c5), .val (.int c6)] [(.ref b378), (.ref b373), (.ref b373)]) := fun t_ k_ => R409 t_ (st411 t_ k_)
                have R416 : Go p e below P T411 (mkF m 229 #[.val (.int n), .val (.int c0), .val (.int c1), .val (.int c2), .val (.int c3), .val (.int c4), .val (.int c5), .val (.int c6)] [(.ref b378), (.ref b378), (.ref b373), (.ref b373)]) := fun t_ k_ => R415 t_ (XS.dup X411.here hx rfl (hb hby d2_228) rfl rfl k_)
                have R417 : Go p e below P T411 (mkF m 230 #[.val (.int n), .val (.int c0), .val (.int c1), .val (.int c2), .val (.int c3), .val (.int c4), .val (.int c5), .val (.int c6)] [(.int (4 : Int32)), (.ref b378), (.ref b378), (.ref b373), (.ref b373)]) := fun t_ k_ => R416 t_ (XS.iconst X411.here hx rfl (hb hby d2_229) k_)
                have R418 : Go p e below P T411 (mkF m 232 #[.val (.int n), .val (.int c0), .val (.int c1), .val (.int c2), .val (.int c3), .val (.int c4), .val (.int c5), .val (.int c6)] [(.int c4), (.int (4 : Int32)), (.ref b378), (.ref b378), (.ref b373), (.ref b373)]) := fun t_ k_ => R417 t_ (XS.iload X411.here hx rfl (hb hby d2_230) rfl k_)
                obtain ⟨cl419, cl419A, cl419q, cl419S, cl419N, cl419H, cl419G⟩ := id V411s
                obtain ⟨T420, h420, X420, e420, W420, st420⟩ := stC X411 hx hZ e411 cl419A (j := (4 : Int32)) (inb_of cl419S ⟨by decide, by decide⟩) (g := (mkF m 232 #[.val (.int n), .val (.int c0), .val (.int c1), .val (.int c2), .val (.int c3), .val (.int c4), .val (.int c5), .val (.int c6)] [(.int c4), (.int (4 : Int32)), (.ref b378), (.ref b378), (.ref b373), (.ref b373)])) rfl rfl (hb hby d2_232)
                have V420 : Arv Z h420 b378 k378 .char (7 : Int32) [(.int c0), (.int c1), (.int c2), (.int c3), (.int (nar .char c4)), (.int (0 : Int32)), (.int (0 : Int32))] (.int (0 : Int32)) := Arv.set cl419A cl419q cl419S cl419N cl419H cl419G (fits_nar_char _) W420 4 rfl (Nat.le_of_ble_eq_true rfl)
                have f422 := (Safe.wr W411 Sw412 C405.1 Sw412)
                have Sw421 : Safe Z EL0 _ _ b378 := f422
                have N420 := Fr.snoc X420 N411 (Nat.le_trans (oldLe O373) (Nat.le_of_eq g378.symm))
                have O420 := O411.wr W420 (Nat.le_trans (oldLe O373) (Nat.le_of_eq g378.symm))
                have V420s : Arv Z h420 b378 k378 .char (7 : Int32) [(.int c0), (.int c1), (.int c2), (.int c3), (.int c4), (.int (0 : Int32)), (.int (0 : Int32))] (.int (0 : Int32)) := by have q := V420; rw [hch4.1] at q; exact q
                have C423 := C414.trans (CHr.wr W420 Sw421 C414.1)
                have hk423 := Nat.le_trans hk414 (Keep.of_wr W420).1
                have R424 : Go p e below P T420 (mkF m 233 #[.val (.int n), .val (.int c0), .val (.int c1), .val (.int c2), .val (.int c3), .val (.int c4), .val (.int c5), .val (.int c6)] [(.ref b378), (.ref b373), (.ref b373)]) := fun t_ k_ => R418 t_ (st420 t_ k_)
                have R425 : Go p e below P T420 (mkF m 234 #[.val (.int n), .val (.int c0), .val (.int c1), .val (.int c2), .val (.int c3), .val (.int c4), .val (.int c5), .val (.int c6)] [(.ref b378), (.ref b378), (.ref b373), (.ref b373)]) := fun t_ k_ => R424 t_ (XS.dup X420.here hx rfl (hb hby d2_233) rfl rfl k_)
                have R426 : Go p e below P T420 (mkF m 235 #[.val (.int n), .val (.int c0), .val (.int c1), .val (.int c2), .val (.int c3), .val (.int c4), .val (.int c5), .val (.int c6)] [(.int (5 : Int32)), (.ref b378), (.ref b378), (.ref b373), (.ref b373)]) := fun t_ k_ => R425 t_ (XS.iconst X420.here hx rfl (hb hby d2_234) k_)
                have R427 : Go p e below P T420 (mkF m 237 #[.val (.int n), .val (.int c0), .val (.int c1), .val (.int c2), .val (.int c3), .val (.int c4), .val (.int c5), .val (.int c6)] [(.int c5), (.int (5 : Int32)), (.ref b378), (.ref b378), (.ref b373), (.ref b373)]) := fun t_ k_ => R426 t_ (XS.iload X420.here hx rfl (hb hby d2_235) rfl k_)
                obtain ⟨cl428, cl428A, cl428q, cl428S, cl428N, cl428H, cl428G⟩ := id V420s
                obtain ⟨T429, h429, X429, e429, W429, st429⟩ := stC X420 hx hZ e420 cl428A (j := (5 : Int32)) (inb_of cl428S ⟨by decide, by decide⟩) (g := (mkF m 237 #[.val (.int n), .val (.int c0), .val (.int c1), .val (.int c2), .val (.int c3), .val (.int c4), .val (.int c5), .val (.int c6)] [(.int c5), (.int (5 : Int32)), (.ref b378), (.ref b378), (.ref b373), (.ref b373)])) rfl rfl (hb hby d2_237)
                have V429 : Arv Z h429 b378 k378 .char (7 : Int32) [(.int c0), (.int c1), (.int c2), (.int c3), (.int c4), (.int (nar .char c5)), (.int (0 : Int32))] (.int (0 : Int32)) := Arv.set cl428A cl428q cl428S cl428N cl428H cl428G (fits_nar_char _) W429 5 rfl (Nat.le_of_ble_eq_true rfl)
                have f431 := (Safe.wr W420 Sw421 C414.1 Sw421)
                have Sw430 : Safe Z EL0 _ _ b378 := f431
                have N429 := Fr.snoc X429 N420 (Nat.le_trans (oldLe O373) (Nat.le_of_eq g378.symm))
                have O429 := O420.wr W429 (Nat.le_trans (oldLe O373) (Nat.le_of_eq g378.symm))
                have V429s : Arv Z h429 b378 k378 .char (7 : Int32) [(.int c0), (.int c1), (.int c2), (.int c3), (.int c4), (.int c5), (.int (0 : Int32))] (.int (0 : Int32)) := by have q := V429; rw [hch5.1] at q; exact q
                have C432 := C423.trans (CHr.wr W429 Sw430 C423.1)
                have hk432 := Nat.le_trans hk423 (Keep.of_wr W429).1
                have R433 : Go p e below P T429 (mkF m 238 #[.val (.int n), .val (.int c0), .val (.int c1), .val (.int c2), .val (.int c3), .val (.int c4), .val (.int c5), .val (.int c6)] [(.ref b378), (.ref b373), (.ref b373)]) := fun t_ k_ => R427 t_ (st429 t_ k_)
                have R434 : Go p e below P T429 (mkF m 239 #[.val (.int n), .val (.int c0), .val (.int c1), .val (.int c2), .val (.int c3), .val (.int c4), .val (.int c5), .val (.int c6)] [(.ref b378), (.ref b378), (.ref b373), (.ref b373)]) := fun t_ k_ => R433 t_ (XS.dup X429.here hx rfl (hb hby d2_238) rfl rfl k_)
                have R435 : Go p e below P T429 (mkF m 241 #[.val (.int n), .val (.int c0), .val (.int c1), .val (.int c2), .val (.int c3), .val (.int c4), .val (.int c5), .val (.int c6)] [(.int (6 : Int32)), (.ref b378), (.ref b378), (.ref b373), (.ref b373)]) := fun t_ k_ => R434 t_ (XS.bipush X429.here hx rfl (hb hby d2_239) k_)
                have R436 : Go p e below P T429 (mkF m 243 #[.val (.int n), .val (.int c0), .val (.int c1), .val (.int c2), .val (.int c3), .val (.int c4), .val (.int c5), .val (.int c6)] [(.int c6), (.int (6 : Int32)), (.ref b378), (.ref b378), (.ref b373), (.ref b373)]) := fun t_ k_ => R435 t_ (XS.iload X429.here hx rfl (hb hby d2_241) rfl k_)
                obtain ⟨cl437, cl437A, cl437q, cl437S, cl437N, cl437H, cl437G⟩ := id V429s
                obtain ⟨T438, h438, X438, e438, W438, st438⟩ := stC X429 hx hZ e429 cl437A (j := (6 : Int32)) (inb_of cl437S ⟨by decide, by decide⟩) (g := (mkF m 243 #[.val (.int n), .val (.int c0), .val (.int c1), .val (.int c2), .val (.int c3), .val (.int c4), .val (.int c5), .val (.int c6)] [(.int c6), (.int (6 : Int32)), (.ref b378), (.ref b378), (.ref b373), (.ref b373)])) rfl rfl (hb hby d2_243)
                have V438 : Arv Z h438 b378 k378 .char (7 : Int32) [(.int c0), (.int c1), (.int c2), (.int c3), (.int c4), (.int c5), (.int (nar .char c6))] (.int (0 : Int32)) := Arv.set cl437A cl437q cl437S cl437N cl437H cl437G (fits_nar_char _) W438 6 rfl (Nat.le_of_ble_eq_true rfl)
                have f440 := (Safe.wr W429 Sw430 C423.1 Sw430)
                have Sw439 : Safe Z EL0 _ _ b378 := f440
                have N438 := Fr.snoc X438 N429 (Nat.le_trans (oldLe O373) (Nat.le_of_eq g378.symm))
                have O438 := O429.wr W438 (Nat.le_trans (oldLe O373) (Nat.le_of_eq g378.symm))
                have V438s : Arv Z h438 b378 k378 .char (7 : Int32) [(.int c0), (.int c1), (.int c2), (.int c3), (.int c4), (.int c5), (.int c6)] (.int (0 : Int32)) := by have q := V438; rw [hch6.1] at q; exact q
                have C441 := C432.trans (CHr.wr W438 Sw439 C432.1)
                have hk441 := Nat.le_trans hk432 (Keep.of_wr W438).1
                have R442 : Go p e below P T438 (mkF m 244 #[.val (.int n), .val (.int c0), .val (.int c1), .val (.int c2), .val (.int c3), .val (.int c4), .val (.int c5), .val (.int c6)] [(.ref b378), (.ref b373), (.ref b373)]) := fun t_ k_ => R436 t_ (st438 t_ k_)
                have f443 := ((((((((A373.ext E378).wr W385).wr W393).wr W402).wr W411).wr W420).wr W429).wr W438)
                have f444 := ((((((((F373_24.ext E378).other W385 (Or.inl (Nat.ne_of_lt (Nat.lt_of_lt_of_le A373.lt (Nat.le_of_eq g378.symm))))).other W393 (Or.inl (Nat.ne_of_lt (Nat.lt_of_lt_of_le A373.lt (Nat.le_of_eq g378.symm))))).other W402 (Or.inl (Nat.ne_of_lt (Nat.lt_of_lt_of_le A373.lt (Nat.le_of_eq g378.symm))))).other W411 (Or.inl (Nat.ne_of_lt (Nat.lt_of_lt_of_le A373.lt (Nat.le_of_eq g378.symm))))).other W420 (Or.inl (Nat.ne_of_lt (Nat.lt_of_lt_of_le A373.lt (Nat.le_of_eq g378.symm))))).other W429 (Or.inl (Nat.ne_of_lt (Nat.lt_of_lt_of_le A373.lt (Nat.le_of_eq g378.symm))))).other W438 (Or.inl (Nat.ne_of_lt (Nat.lt_of_lt_of_le A373.lt (Nat.le_of_eq g378.symm)))))
                have f445 := ((((((((F373_25.ext E378).other W385 (Or.inl (Nat.ne_of_lt (Nat.lt_of_lt_of_le A373.lt (Nat.le_of_eq g378.symm))))).other W393 (Or.inl (Nat.ne_of_lt (Nat.lt_of_lt_of_le A373.lt (Nat.le_of_eq g378.symm))))).other W402 (Or.inl (Nat.ne_of_lt (Nat.lt_of_lt_of_le A373.lt (Nat.le_of_eq g378.symm))))).other W411 (Or.inl (Nat.ne_of_lt (Nat.lt_of_lt_of_le A373.lt (Nat.le_of_eq g378.symm))))).other W420 (Or.inl (Nat.ne_of_lt (Nat.lt_of_lt_of_le A373.lt (Nat.le_of_eq g378.symm))))).other W429 (Or.inl (Nat.ne_of_lt (Nat.lt_of_lt_of_le A373.lt (Nat.le_of_eq g378.symm))))).other W438 (Or.inl (Nat.ne_of_lt (Nat.lt_of_lt_of_le A373.lt (Nat.le_of_eq g378.symm)))))
                have f447 := (Safe.wr W438 Sw439 C432.1 (Safe.wr W429 Sw430 C423.1 (Safe.wr W420 Sw421 C414.1 (Safe.wr W411 Sw412 C405.1 (Safe.wr W402 Sw403 C396.1 (Safe.wr W393 Sw394 C387.1 (Safe.wr W385 Sw386 C379.1 (Safe.ext E378 C374.1 Sb373))))))))
                have Sw446 : Safe Z EL0 _ _ b373 := f447
                obtain ⟨rv448, _, ⟨T448, L448, k448, n448⟩, -, X448, ⟨Lc448, hQ448, l448, y448, z448⟩, st448⟩ := X438.specialBack hx (y := (⟨"java/lang/String", "<init>", "([C)V"⟩ : MethodName)) rfl hown (mvT hZ (hw _ (List.mem_of_getElem? (i := 12) rfl))) (mvT hZ (hw _ (List.mem_of_getElem? (i := 13) rfl))) (mvT hZ (hw _ (List.mem_of_getElem? (i := 14) rfl))) (by decide) (StrChars.Road.backV (W := 1) hZ (w_backV hw) (kI := 4) (hw _ (List.mem_of_getElem? (i := 9) rfl)) (cs := ([c0, c1, c2, c3, c4, c5, c6] : List Int32)) (bs := ([c0, c1, c2, c3, c4, c5, c6] : List Int32).map (fun c => c.toInt8.toInt32)) (n := 7) (Nat.le_trans (oldLe O0) (Nat.le_of_eq g373.symm)) (oldLe O438) f443 f444 f445 V438s (P0.ext O438.2) hzc rfl rfl (by decide) (by decide) (by intro c hc; simp only [List.mem_cons, List.not_mem_nil, or_false] at hc; rcases hc with rfl | rfl | rfl | rfl | rfl | rfl | rfl <;> first | exact hch0.2 | exact hch1.2 | exact hch2.2 | exact hch3.2 | exact hch4.2 | exact hch5.2 | exact hch6.2) rfl (by decide) (by decide)) (g := (mkF m 244 #[.val (.int n), .val (.int c0), .val (.int c1), .val (.int c2), .val (.int c3), .val (.int c4), .val (.int c5), .val (.int c6)] [(.ref b378), (.ref b373), (.ref b373)])) rfl (by rw [hml]; rfl) (Steps.refl _) (a := b373) (argsL := [(.ref b378)]) (rest := [(.ref b373)]) (lenOf pd_42155922 rfl) rfl (by show 2 * 0 + _ ≤ _; exact Nat.le_of_eq rfl) (hb hby d2_244) (fun _ _ => ⟨rfl, e438, (by decide : 2 + 1 ≤ _), (by decide : 11 + 7 ≤ _)⟩)
                dsimp only [Pt.U, Pt.locs, Pt.cells, Pt.slots] at X448 l448 y448 z448 st448 hQ448
                subst l448 y448 z448
                obtain ⟨rfl, N448q, K448, pE448, pC448, t448, kb448, -, lt448, tn448, pV448, pA448⟩ := hQ448
                have N448 := Fr.app N438 N448q
                have O448 := O438.keep K448 (allS (Nat.le_trans (oldLe O0) (Nat.le_of_eq g373.symm)) all0)
                have C449 := C441.trans (CHr.keep K448 (sfS Sw446 sf0) C441.1)
                have hk449 := Nat.le_trans hk441 K448.1
                have pB448 : Arv Z T448.heap t448 kb448 .byte (Int32.ofNat ([c0, c1, c2, c3, c4, c5, c6] : List Int32).length) ((([c0, c1, c2, c3, c4, c5, c6] : List Int32).map StrChars.lo8).map Value.int) (.int (0 : Int32)) := pA448
                have R450 : Go p e below P T448 (mkF m 247 #[.val (.int n), .val (.int c0), .val (.int c1), .val (.int c2), .val (.int c3), .val (.int c4), .val (.int c5), .val (.int c6)] [(.ref b373)]) := fun t_ k_ => R442 t_ (st448.trans k_)
                obtain ⟨fs, hr, hrun, hended, hend⟩ := X448.leaveW hS0 (by rw [(rfl : T448.heap = T448.heap)]; exact hk449 : _ ≤ T448.heap.size) (v := some (.ref b373)) (fun h => by rw [Bd.returns] at h; cases h)
                have hCe := C449.trans (CHv.at X448 hZ hEL C449.1)
                exact ⟨_, _, hP _ (R450 _ (retOut X448 hx Bd.returns rfl (Or.inr (Or.inr (Or.inr (Or.inr ⟨rfl, rfl, rfl⟩)))) (hb hby d2_247) hr)), hrun, hended, _, _, rfl, ⟨b373, t448, kb448, rfl, N448, (((((((((((Keep.refl h0 []).ext E373).ext E378).wr W385 (Or.inr (Nat.le_trans ((Keep.refl h0 []).ext E373).1 (Nat.le_of_eq g378.symm)))).wr W393 (Or.inr (Nat.le_trans ((Keep.refl h0 []).ext E373).1 (Nat.le_of_eq g378.symm)))).wr W402 (Or.inr (Nat.le_trans ((Keep.refl h0 []).ext E373).1 (Nat.le_of_eq g378.symm)))).wr W411 (Or.inr (Nat.le_trans ((Keep.refl h0 []).ext E373).1 (Nat.le_of_eq g378.symm)))).wr W420 (Or.inr (Nat.le_trans ((Keep.refl h0 []).ext E373).1 (Nat.le_of_eq g378.symm)))).wr W429 (Or.inr (Nat.le_trans ((Keep.refl h0 []).ext E373).1 (Nat.le_of_eq g378.symm)))).wr W438 (Or.inr (Nat.le_trans ((Keep.refl h0 []).ext E373).1 (Nat.le_of_eq g378.symm)))).trans K448 (allS (Or.inr (Nat.le_of_eq g373.symm)) all0)), (Nat.le_of_eq g373.symm), pE448, pC448, pV448, (by rw [show strL n c0 c1 c2 c3 c4 c5 c6 = [c0, c1, c2, c3, c4, c5, c6] from by simp [strL, hc47, hc66, hc95, hc133, hc180, hc236, hc301]]; exact pB448)⟩, (by show CHr Z EL0 s.vm s.heap T448.vm T448.heap; rw [hh, (rfl : T448.heap = T448.heap)]; exact hCe), ⟨hend.1, hend.2.1, hend.2.2.1, hend.2.2.2.mono (by decide) (by decide)⟩⟩
theorem chr255L (y : Int64) : nar .char (nar .char ((y &&& (255 : Int64)).toInt32.toUInt32.toUInt16.toUInt32.toInt32)) = nar .char ((y &&& (255 : Int64)).toInt32.toUInt32.toUInt16.toUInt32.toInt32) ∧ ¬ nar .char ((y &&& (255 : Int64)).toInt32.toUInt32.toUInt16.toUInt32.toInt32) < 0 ∧ ¬ (255 : Int32) < nar .char ((y &&& (255 : Int64)).toInt32.toUInt32.toUInt16.toUInt32.toInt32) := by
  have t : ∀ k : Fin 256, nar .char (nar .char ((Int64.ofNat k.val).toInt32.toUInt32.toUInt16.toUInt32.toInt32)) = nar .char ((Int64.ofNat k.val).toInt32.toUInt32.toUInt16.toUInt32.toInt32) ∧ ¬ nar .char ((Int64.ofNat k.val).toInt32.toUInt32.toUInt16.toUInt32.toInt32) < 0 ∧ ¬ (255 : Int32) < nar .char ((Int64.ofNat k.val).toInt32.toUInt32.toUInt16.toUInt32.toInt32) := by decide +kernel
  have h : (y &&& 255).toBitVec.toNat < 256 := by
    simp only [Int64.toBitVec_and, BitVec.toNat_and]
    exact Nat.lt_succ_of_le Nat.and_le_right
  have e : (y &&& 255) = Int64.ofNat (y &&& 255).toBitVec.toNat := by
    apply Int64.toBitVec_inj.mp
    show _ = BitVec.ofNat 64 _
    rw [BitVec.ofNat_toNat]; simp
  rw [e]
  exact t ⟨_, h⟩
def isH (cs : List Int32) : Int32 := if cs = [45, 104] then 1 else if cs = [45, 45, 104, 101, 108, 112] then 1 else 0
def shI (n c0 c1 : Int32) : Int32 := if n = 2 ∧ c0 = 45 ∧ c1 = 104 then 1 else 0
def lgI (n c0 c1 c2 c3 c4 c5 : Int32) : Int32 := if n = 6 ∧ c0 = 45 ∧ c1 = 45 ∧ c2 = 104 ∧ c3 = 101 ∧ c4 = 108 ∧ c5 = 112 then 1 else 0
def exI (a b : Int32) : Int32 := if a = 0 then (if b = 0 then 0 else 1) else 1
theorem len8 (y : Int32) : 0 ≤ (y &&& 7).toInt ∧ (y &&& 7).toInt < 8 := by
  have e1 : (y &&& 7).toInt = y.toInt % 2 ^ 3 := Jvm.Kit.i32_mask y 7 (k := 3) (by decide) (by decide)
  omega
theorem eight {n : Int32} (h : 0 ≤ n.toInt ∧ n.toInt < 8) : n = 0 ∨ n = 1 ∨ n = 2 ∨ n = 3 ∨ n = 4 ∨ n = 5 ∨ n = 6 ∨ n = 7 := by
  have q : ∀ k : Int32, n.toInt = k.toInt → n = k := fun k e => Int32.toInt_inj.mp e
  rcases (by omega : n.toInt = 0 ∨ n.toInt = 1 ∨ n.toInt = 2 ∨ n.toInt = 3 ∨ n.toInt = 4 ∨ n.toInt = 5 ∨ n.toInt = 6 ∨ n.toInt = 7) with h | h | h | h | h | h | h | h
  · exact Or.inl (q 0 h)
  · exact Or.inr (Or.inl (q 1 h))
  · exact Or.inr (Or.inr (Or.inl (q 2 h)))
  · exact Or.inr (Or.inr (Or.inr (Or.inl (q 3 h))))
  · exact Or.inr (Or.inr (Or.inr (Or.inr (Or.inl (q 4 h)))))
  · exact Or.inr (Or.inr (Or.inr (Or.inr (Or.inr (Or.inl (q 5 h))))))
  · exact Or.inr (Or.inr (Or.inr (Or.inr (Or.inr (Or.inr (Or.inl (q 6 h)))))))
  · exact Or.inr (Or.inr (Or.inr (Or.inr (Or.inr (Or.inr (Or.inr (q 7 h)))))))
theorem own_final {n c0 c1 c2 c3 c4 c5 c6 : Int32} (h : 0 ≤ n.toInt ∧ n.toInt < 8) : isH (strL n c0 c1 c2 c3 c4 c5 c6) = exI (shI n c0 c1) (lgI n c0 c1 c2 c3 c4 c5) := by
  rcases eight h with rfl | rfl | rfl | rfl | rfl | rfl | rfl | rfl
  · simp [strL, isH, exI, shI, lgI]
  · simp [strL, isH, exI, shI, lgI]
  · by_cases q : c0 = 45 ∧ c1 = 104
    · simp [strL, isH, exI, shI, lgI, q]
    · simp [strL, isH, exI, shI, lgI, q]
  · simp [strL, isH, exI, shI, lgI]
  · simp [strL, isH, exI, shI, lgI]
  · simp [strL, isH, exI, shI, lgI]
  · by_cases q : c0 = 45 ∧ c1 = 45 ∧ c2 = 104 ∧ c3 = 101 ∧ c4 = 108 ∧ c5 = 112
    · simp [strL, isH, exI, shI, lgI, q]
    · simp [strL, isH, exI, shI, lgI, q]
  · simp [strL, isH, exI, shI, lgI]
theorem ef_pick0_ (m : MethodId) (x0 : Int64) (x1 : Int32) (x2 : Int32) (x3 : Int32) : entryFrame m #[(.long x0), (.int x1), (.int x2), (.int x3)] 5 = mkF m 0 #[.val (.long x0), .second, .val (.int x1), .val (.int x2), .val (.int x3)] [] := by first | (simp [entryFrame, mkF, argsToLocals, Value.category]; done) | rfl
theorem d1_0 : decode method_3_code 0 = .ok (.iload_n 3, 1) := by decide +kernel
theorem d1_1 : decode method_3_code 1 = .ok (.iload_n 2, 1) := by decide +kernel
theorem d1_2 : decode method_3_code 2 = .ok (.iconst 1, 1) := by decide +kernel
theorem d1_3 : decode method_3_code 3 = .ok (.iadd, 1) := by decide +kernel
theorem d1_4 : decode method_3_code 4 = .ok (.iushr, 1) := by decide +kernel
theorem d1_5 : decode method_3_code 5 = .ok (.iconst 1, 1) := by decide +kernel
theorem d1_6 : decode method_3_code 6 = .ok (.iand, 1) := by decide +kernel
theorem d1_7 : decode method_3_code 7 = .ok (.ifCond .eq 33, 3) := by decide +kernel
theorem d1_40 : decode method_3_code 40 = .ok (.lload_n 0, 1) := by decide +kernel
theorem d1_41 : decode method_3_code 41 = .ok (.bipush 8, 2) := by decide +kernel
theorem d1_43 : decode method_3_code 43 = .ok (.iload_n 2, 1) := by decide +kernel
theorem d1_44 : decode method_3_code 44 = .ok (.imul, 1) := by decide +kernel
theorem d1_45 : decode method_3_code 45 = .ok (.lushr, 1) := by decide +kernel
theorem d1_46 : decode method_3_code 46 = .ok (.ldc2_w 33, 3) := by decide +kernel
theorem d1_49 : decode method_3_code 49 = .ok (.land, 1) := by decide +kernel
theorem d1_50 : decode method_3_code 50 = .ok (.l2i, 1) := by decide +kernel
theorem d1_51 : decode method_3_code 51 = .ok (.i2c, 1) := by decide +kernel
theorem d1_52 : decode method_3_code 52 = .ok (.ireturn, 1) := by decide +kernel
theorem d1_10 : decode method_3_code 10 = .ok (.iload 4, 2) := by decide +kernel
theorem d1_12 : decode method_3_code 12 = .ok (.ifCond .eq 16, 3) := by decide +kernel
theorem d1_28 : decode method_3_code 28 = .ok (.iload_n 2, 1) := by decide +kernel
theorem d1_29 : decode method_3_code 29 = .ok (.iconst 2, 1) := by decide +kernel
theorem d1_30 : decode method_3_code 30 = .ok (.if_icmp .ge 10, 3) := by decide +kernel
theorem d1_33 : decode method_3_code 33 = .ok (.ldc 31, 2) := by decide +kernel
theorem d1_35 : decode method_3_code 35 = .ok (.iload_n 2, 1) := by decide +kernel
theorem d1_36 : decode method_3_code 36 = .ok (.invokevirtual 25, 3) := by decide +kernel
theorem pd_52681278 : parseMethodDescriptor "(I)C" = some ⟨[.int], some .char⟩ := by decide +kernel
theorem d1_39 : decode method_3_code 39 = .ok (.ireturn, 1) := by decide +kernel
theorem d1_15 : decode method_3_code 15 = .ok (.iload_n 2, 1) := by decide +kernel
theorem d1_16 : decode method_3_code 16 = .ok (.bipush 6, 2) := by decide +kernel
theorem d1_18 : decode method_3_code 18 = .ok (.if_icmp .ge 22, 3) := by decide +kernel
theorem d1_21 : decode method_3_code 21 = .ok (.ldc 23, 2) := by decide +kernel
theorem d1_23 : decode method_3_code 23 = .ok (.iload_n 2, 1) := by decide +kernel
theorem d1_24 : decode method_3_code 24 = .ok (.invokevirtual 25, 3) := by decide +kernel
theorem d1_27 : decode method_3_code 27 = .ok (.ireturn, 1) := by decide +kernel
def Q_pick0_ (Z : State) (q : Int64) (md : Int32) (lf : Int32) (zc : Int32) (fm : Value) (h0 : Heap) (n0 : Nat) (rv_ : Option Value) (rh_ : Heap) (rL_ : List Loc) : Prop := ∃ r : Int32, (rv_ = some (.int r)) ∧ (Fr n0 rL_) ∧ (Keep h0 rh_ []) ∧ (nar .char r = r ∧ ¬ r < 0 ∧ ¬ (255 : Int32) < r)
set_option maxRecDepth 65536 in
set_option maxHeartbeats 40000000 in
theorem pick0_ (l : Launch) (Z : State) (a0 : Array Value) (hw : ∀ d ∈ tables_1, d.before a0 Z = true) (ws : List Jvm.Cond) (q : Int64) (md : Int32) (lf : Int32) (zc : Int32) (fm : Value) (h0 : Heap) (n0 : Nat) (O0 : Old Z n0 h0) (hEL : EW Z a0 EL0) (P0 : Sta Z Z.heap "java/lang/String" "COMPACT_STRINGS" "Z" (.int zc)) (P1 : Sta Z Z.heap "jdk/internal/util/Preconditions" "SIOOBE_FORMATTER" "Ljava/util/function/BiFunction;" fm) (P2 : ¬ zc = 0) (P3 : fm.isRef = true) :
    MetFree l (⟨"com/example/toekit/toekit/cli/ArgumentsIsHelpPinLaw", "pick", "(JIIZ)C"⟩ : MethodName) (head1 (Jvm.Cond.code (⟨"com/example/toekit/toekit/cli/ArgumentsIsHelpPinLaw", "pick", "(JIIZ)C"⟩ : MethodName) method_3_code 5 (some .char) :: ws) ({ frames := 4, cells := 2, slots := 28, locals := 53 } : Room)) (fun a_ U_ => a_ = #[(.long q), (.int (0 : Int32)), (.int md), (.int lf)] ∧ Z.Warmed39 U_.vm ∧ U_.heap = h0 ∧ CHv Z EL0 U_.vm h0) (fun _ _ _ _ _ => True) (fun _ U_ o_ U_' => ∃ v_ L_, o_ = .returned v_ ∧ Q_pick0_ Z q md lf zc fm h0 n0 v_ U_'.heap L_ ∧ CHr Z EL0 U_.vm U_.heap U_'.vm U_'.heap ∧ ReturnedEndW U_ o_ U_' L_ ({ frames := 4, cells := 2, slots := 28, locals := 53 } : Room).cells ({ frames := 4, cells := 2, slots := 28, locals := 53 } : Room).slots) := by
  have hzc := P2
  have hfm := P3
  refine MetFree.of_bodySF (plainFor_of_name pn_83775497) hisR ?_
  intro p e s m args below meth c s₁ Bd hml0 hP0 hK
  obtain ⟨rfl, hZ, hh, hCH⟩ := hP0
  have hx := Bd.exec
  have hby := Bd.bytes
  have hml : c.maxLocals = 5 := hml0
  have hown : s.vm.findClass "com/example/toekit/toekit/cli/ArgumentsIsHelpPinLaw" = some m.cls := findClass_of_methodNamed Bd.named
  have hnm := (name_of_methodNamed Bd.named Bd.method).1
  have hS0 : s.Since s.vm 0 := (State.WarmedH.refl s).since 0
  have hk0 : 0 ≤ h0.size := Nat.zero_le _
  have C0 : CHr Z EL0 s.vm h0 s.vm h0 := CHr.refl hCH
  have X0 : Stand p l e ({ frames := 4, cells := 2, slots := 28, locals := 53 } : Room) (s.setVm s.vm) m #[(.long q), (.int (0 : Int32)), (.int md), (.int lf)] below meth c s₁ [] 0 0 := Stand.of_body Bd
  have e0 : s₁.heap = h0 := by rw [← hh, Bd.state]; rfl
  have N0 := Fr.nil n0
  obtain ⟨P, hP, R0⟩ : ∃ P : State → Prop, (∀ t_, P t_ → Steps p.tables e below (s₁.setTop (entryFrame m #[(.long q), (.int (0 : Int32)), (.int md), (.int lf)] 5)) t_) ∧ Go p e below P s₁ (mkF m 0 #[.val (.long q), .second, .val (.int (0 : Int32)), .val (.int md), .val (.int lf)] []) := ⟨_, fun _ h => h, fun t_ k_ => castTop (ef_pick0_ m q (0 : Int32) md lf) k_⟩
  have R451 : Go p e below P s₁ (mkF m 1 #[.val (.long q), .second, .val (.int (0 : Int32)), .val (.int md), .val (.int lf)] [(.int md)]) := fun t_ k_ => R0 t_ (XS.iloadN X0.here hx rfl (hb hby d1_0) rfl k_)
  have R452 : Go p e below P s₁ (mkF m 2 #[.val (.long q), .second, .val (.int (0 : Int32)), .val (.int md), .val (.int lf)] [(.int (0 : Int32)), (.int md)]) := fun t_ k_ => R451 t_ (XS.iloadN X0.here hx rfl (hb hby d1_1) rfl k_)
  have R453 : Go p e below P s₁ (mkF m 3 #[.val (.long q), .second, .val (.int (0 : Int32)), .val (.int md), .val (.int lf)] [(.int (1 : Int32)), (.int (0 : Int32)), (.int md)]) := fun t_ k_ => R452 t_ (XS.iconst X0.here hx rfl (hb hby d1_2) k_)
  have R454 : Go p e below P s₁ (mkF m 4 #[.val (.long q), .second, .val (.int (0 : Int32)), .val (.int md), .val (.int lf)] [(.int ((0 : Int32) + (1 : Int32))), (.int md)]) := fun t_ k_ => R453 t_ (XS.iadd X0.here hx rfl (hb hby d1_3) rfl k_)
  have R455 : Go p e below P s₁ (mkF m 5 #[.val (.long q), .second, .val (.int (0 : Int32)), .val (.int md), .val (.int lf)] [(.int ((md.toUInt32 >>> (((0 : Int32) + (1 : Int32)) &&& 31).toUInt32).toInt32))]) := fun t_ k_ => R454 t_ (XS.iushr X0.here hx rfl (hb hby d1_4) rfl k_)
  have R456 : Go p e below P s₁ (mkF m 6 #[.val (.long q), .second, .val (.int (0 : Int32)), .val (.int md), .val (.int lf)] [(.int (1 : Int32)), (.int ((md.toUInt32 >>> (((0 : Int32) + (1 : Int32)) &&& 31).toUInt32).toInt32))]) := fun t_ k_ => R455 t_ (XS.iconst X0.here hx rfl (hb hby d1_5) k_)
  have R457 : Go p e below P s₁ (mkF m 7 #[.val (.long q), .second, .val (.int (0 : Int32)), .val (.int md), .val (.int lf)] [(.int (((md.toUInt32 >>> (((0 : Int32) + (1 : Int32)) &&& 31).toUInt32).toInt32) &&& (1 : Int32)))]) := fun t_ k_ => R456 t_ (XS.iand X0.here hx rfl (hb hby d1_6) rfl k_)
  by_cases hc458 : (((md.toUInt32 >>> (((0 : Int32) + (1 : Int32)) &&& 31).toUInt32).toInt32) &&& (1 : Int32)) = (0 : Int32)
  · have R459 : Go p e below P s₁ (mkF m 40 #[.val (.long q), .second, .val (.int (0 : Int32)), .val (.int md), .val (.int lf)] []) := fun t_ k_ => R457 t_ (XS.ifYes X0.here hx rfl (pc0 := 7) (pc' := 40) rfl (hb hby d1_7) rfl ((if0 _ _).trans (teq hc458).1) (by decide) (by decide) k_)
    have R460 : Go p e below P s₁ (mkF m 41 #[.val (.long q), .second, .val (.int (0 : Int32)), .val (.int md), .val (.int lf)] [(.long q)]) := fun t_ k_ => R459 t_ (XS.lloadN X0.here hx rfl (hb hby d1_40) rfl k_)
    have R461 : Go p e below P s₁ (mkF m 43 #[.val (.long q), .second, .val (.int (0 : Int32)), .val (.int md), .val (.int lf)] [(.int (8 : Int32)), (.long q)]) := fun t_ k_ => R460 t_ (XS.bipush X0.here hx rfl (hb hby d1_41) k_)
    have R462 : Go p e below P s₁ (mkF m 44 #[.val (.long q), .second, .val (.int (0 : Int32)), .val (.int md), .val (.int lf)] [(.int (0 : Int32)), (.int (8 : Int32)), (.long q)]) := fun t_ k_ => R461 t_ (XS.iloadN X0.here hx rfl (hb hby d1_43) rfl k_)
    have R463 : Go p e below P s₁ (mkF m 45 #[.val (.long q), .second, .val (.int (0 : Int32)), .val (.int md), .val (.int lf)] [(.int ((8 : Int32) * (0 : Int32))), (.long q)]) := fun t_ k_ => R462 t_ (XS.imul X0.here hx rfl (hb hby d1_44) rfl k_)
    have R464 : Go p e below P s₁ (mkF m 46 #[.val (.long q), .second, .val (.int (0 : Int32)), .val (.int md), .val (.int lf)] [(.long ((q.toUInt64 >>> (((8 : Int32) * (0 : Int32)) &&& 0x3f).toInt64.toUInt64).toInt64))]) := fun t_ k_ => R463 t_ (XS.lushr X0.here hx rfl (hb hby d1_45) rfl k_)
    have R465 : Go p e below P s₁ (mkF m 49 #[.val (.long q), .second, .val (.int (0 : Int32)), .val (.int md), .val (.int lf)] [(.long (255 : Int64)), (.long ((q.toUInt64 >>> (((8 : Int32) * (0 : Int32)) &&& 0x3f).toInt64.toUInt64).toInt64))]) := fun t_ k_ => R464 t_ (X0.ldc2Long hx hown (mvT hZ (hw _ (List.mem_of_getElem? (i := 4) rfl))) (g := (mkF m 46 #[.val (.long q), .second, .val (.int (0 : Int32)), .val (.int md), .val (.int lf)] [(.long ((q.toUInt64 >>> (((8 : Int32) * (0 : Int32)) &&& 0x3f).toInt64.toUInt64).toInt64))])) rfl (hb hby d1_46) _ k_)
    have R466 : Go p e below P s₁ (mkF m 50 #[.val (.long q), .second, .val (.int (0 : Int32)), .val (.int md), .val (.int lf)] [(.long (((q.toUInt64 >>> (((8 : Int32) * (0 : Int32)) &&& 0x3f).toInt64.toUInt64).toInt64) &&& (255 : Int64)))]) := fun t_ k_ => R465 t_ (XS.land X0.here hx rfl (hb hby d1_49) rfl k_)
    have R467 : Go p e below P s₁ (mkF m 51 #[.val (.long q), .second, .val (.int (0 : Int32)), .val (.int md), .val (.int lf)] [(.int ((((q.toUInt64 >>> (((8 : Int32) * (0 : Int32)) &&& 0x3f).toInt64.toUInt64).toInt64) &&& (255 : Int64)).toInt32))]) := fun t_ k_ => R466 t_ (XS.l2i X0.here hx rfl (hb hby d1_50) rfl k_)
    have R468 : Go p e below P s₁ (mkF m 52 #[.val (.long q), .second, .val (.int (0 : Int32)), .val (.int md), .val (.int lf)] [(.int (((((q.toUInt64 >>> (((8 : Int32) * (0 : Int32)) &&& 0x3f).toInt64.toUInt64).toInt64) &&& (255 : Int64)).toInt32).toUInt32.toUInt16.toUInt32.toInt32))]) := fun t_ k_ => R467 t_ (XS.i2c X0.here hx rfl (hb hby d1_51) rfl k_)
    obtain ⟨fs, hr, hrun, hended, hend⟩ := X0.leaveW hS0 (by rw [e0]; exact hk0 : _ ≤ s₁.heap.size) (v := some (.int (nar .char (((((q.toUInt64 >>> (((8 : Int32) * (0 : Int32)) &&& 0x3f).toInt64.toUInt64).toInt64) &&& (255 : Int64)).toInt32).toUInt32.toUInt16.toUInt32.toInt32)))) (fun h => by rw [Bd.returns] at h; cases h)
    have hCe := C0.trans (CHv.at X0 hZ hEL C0.1)
    exact ⟨_, _, hP _ (R468 _ (retN X0 hx (t := .char) Bd.returns (by simp) (hb hby d1_52) hr)), hrun, hended, _, _, rfl, ⟨(nar .char (((((q.toUInt64 >>> (((8 : Int32) * (0 : Int32)) &&& 0x3f).toInt64.toUInt64).toInt64) &&& (255 : Int64)).toInt32).toUInt32.toUInt16.toUInt32.toInt32)), rfl, N0, (e0.symm ▸ (Keep.refl h0 [])), (chr255L _)⟩, (by show CHr Z EL0 s.vm s.heap s₁.vm s₁.heap; rw [hh, e0]; exact hCe), ⟨hend.1, hend.2.1, hend.2.2.1, hend.2.2.2.mono (by decide) (by decide)⟩⟩
  · have R469 : Go p e below P s₁ (mkF m 10 #[.val (.long q), .second, .val (.int (0 : Int32)), .val (.int md), .val (.int lf)] []) := fun t_ k_ => R457 t_ (XS.ifNo X0.here hx rfl (hb hby d1_7) rfl ((if0 _ _).trans (feq hc458).1) k_)
    have R470 : Go p e below P s₁ (mkF m 12 #[.val (.long q), .second, .val (.int (0 : Int32)), .val (.int md), .val (.int lf)] [(.int lf)]) := fun t_ k_ => R469 t_ (XS.iload X0.here hx rfl (hb hby d1_10) rfl k_)
    by_cases hc471 : lf = (0 : Int32)
    · have R472 : Go p e below P s₁ (mkF m 28 #[.val (.long q), .second, .val (.int (0 : Int32)), .val (.int md), .val (.int lf)] []) := fun t_ k_ => R470 t_ (XS.ifYes X0.here hx rfl (pc0 := 12) (pc' := 28) rfl (hb hby d1_12) rfl ((if0 _ _).trans (teq hc471).1) (by decide) (by decide) k_)
      have R473 : Go p e below P s₁ (mkF m 29 #[.val (.long q), .second, .val (.int (0 : Int32)), .val (.int md), .val (.int lf)] [(.int (0 : Int32))]) := fun t_ k_ => R472 t_ (XS.iloadN X0.here hx rfl (hb hby d1_28) rfl k_)
      have R474 : Go p e below P s₁ (mkF m 30 #[.val (.long q), .second, .val (.int (0 : Int32)), .val (.int md), .val (.int lf)] [(.int (2 : Int32)), (.int (0 : Int32))]) := fun t_ k_ => R473 t_ (XS.iconst X0.here hx rfl (hb hby d1_29) k_)
      have R475 : Go p e below P s₁ (mkF m 33 #[.val (.long q), .second, .val (.int (0 : Int32)), .val (.int md), .val (.int lf)] []) := fun t_ k_ => R474 t_ (XS.icmpNo X0.here hx rfl (hb hby d1_30) rfl (tlt (by decide : (0 : Int32) < (2 : Int32))).2.1 k_)
      obtain ⟨a476, T476, h476, k476x, t476, kb476, X476, e476, E476, hS476, hk476, hZ, hown, E1476, F1476, F2476, A1476, la476, lb476, hC476, hL476, hne476, st476⟩ := ldcCH X0 hx hZ hown (hw _ (List.mem_of_getElem? (i := 47) rfl)) (wS_of hw) e0 hS0 hk0 hEL (List.mem_of_getElem? (i := 3) rfl) C0.1 (text := "-h") (vs := ((([45, 104] : List Int32).map StrChars.lo8).map Value.int)) (z := (Int32.ofNat ([45, 104] : List Int32).length)) ⟨by decide, by first | rfl | decide +kernel⟩ (by decide) (by decide) (g := (mkF m 33 #[.val (.long q), .second, .val (.int (0 : Int32)), .val (.int md), .val (.int lf)] [])) rfl (hb hby d1_33) (n := 8) (by decide) (by decide) (by decide) (by decide)
      have O476 := O0.ext E476
      have C477 := C0.trans hC476
      have R478 : Go p e below P T476 (mkF m 35 #[.val (.long q), .second, .val (.int (0 : Int32)), .val (.int md), .val (.int lf)] [(.ref a476)]) := fun t_ k_ => R475 t_ (st476 t_ k_)
      have R479 : Go p e below P T476 (mkF m 36 #[.val (.long q), .second, .val (.int (0 : Int32)), .val (.int md), .val (.int lf)] [(.int (0 : Int32)), (.ref a476)]) := fun t_ k_ => R478 t_ (XS.iloadN X476.here hx rfl (hb hby d1_35) rfl k_)
      obtain ⟨cq480, kq480, q480a, q480b, q480c⟩ := isOf hZ e476 E1476
      obtain ⟨rv480, _, ⟨T480, L480, k480, n480⟩, -, X480, ⟨Lc480, hQ480, l480, y480, z480⟩, st480⟩ := X476.virtualBack hx (y := (⟨"java/lang/String", "charAt", "(I)C"⟩ : MethodName)) (z := (⟨"java/lang/String", "charAt", "(I)C"⟩ : MethodName)) hown (mvT hZ (hw _ (List.mem_of_getElem? (i := 48) rfl))) (mvT hZ (hw _ (List.mem_of_getElem? (i := 49) rfl))) (notFace_of_selects (args := #[]) (mvT hZ (hw _ (List.mem_of_getElem? (i := 51) rfl)))) (mvT hZ (hw _ (List.mem_of_getElem? (i := 51) rfl))) (mvT hZ (hw _ (List.mem_of_getElem? (i := 50) rfl))) (by decide) (StrChars.Road.chN (W := 0) hZ (w_chN hw) (kI := 4) (hw _ (List.mem_of_getElem? (i := 9) rfl)) E1476 F2476 F1476 A1476 (hcod (show ∀ c ∈ ([45, 104] : List Int32), ¬ c < 0 ∧ ¬ (255 : Int32) < c from by decide)) (upC (show ∀ c ∈ ([45, 104] : List Int32), ¬ c < 0 ∧ ¬ (255 : Int32) < c from by decide)) (P0.ext O476.2) hzc (P1.ext O476.2) hfm (by decide) (i := 0) (by decide) (j := (0 : Int32)) rfl (by decide) (by decide)) q480a q480c (g := (mkF m 36 #[.val (.long q), .second, .val (.int (0 : Int32)), .val (.int md), .val (.int lf)] [(.int (0 : Int32)), (.ref a476)])) rfl (by rw [hml]; rfl) (Steps.refl _) (argsL := [(.int (0 : Int32))]) (rest := []) (lenOf pd_52681278 rfl) rfl (by show 2 * 0 + _ ≤ _; exact Nat.le_of_eq rfl) (hb hby d1_36) (fun _ _ => ⟨rfl, e476, (by decide : 2 + 0 ≤ _), (by decide : 12 + 0 ≤ _)⟩)
      dsimp only [Pt.U, Pt.locs, Pt.cells, Pt.slots] at X480 l480 y480 z480 st480 hQ480
      subst l480 y480 z480
      obtain ⟨rfl, rfl, K480⟩ := hQ480
      try rw [List.append_nil] at X480
      have R481 : Go p e below P T480 (mkF m 39 #[.val (.long q), .second, .val (.int (0 : Int32)), .val (.int md), .val (.int lf)] [(.int (([45, 104] : List Int32).getD 0 0))]) := fun t_ k_ => R479 t_ (st480.trans k_)
      obtain ⟨fs, hr, hrun, hended, hend⟩ := X480.leaveW hS476 (by rw [K480]; exact hk476 : _ ≤ T480.heap.size) (v := some (.int (nar .char (([45, 104] : List Int32).getD 0 0)))) (fun h => by rw [Bd.returns] at h; cases h)
      have hCe := C477.trans (CHv.at X480 hZ hEL C477.1)
      exact ⟨_, _, hP _ (R481 _ (retN X480 hx (t := .char) Bd.returns (by simp) (hb hby d1_39) hr)), hrun, hended, _, _, rfl, ⟨(nar .char (([45, 104] : List Int32).getD 0 0)), rfl, N0, (K480.symm ▸ ((Keep.refl h0 []).ext E476)), (by decide)⟩, (by show CHr Z EL0 s.vm s.heap T480.vm T480.heap; rw [hh, K480]; exact hCe), ⟨hend.1, hend.2.1, hend.2.2.1, hend.2.2.2.mono (by decide) (by decide)⟩⟩
    · have R482 : Go p e below P s₁ (mkF m 15 #[.val (.long q), .second, .val (.int (0 : Int32)), .val (.int md), .val (.int lf)] []) := fun t_ k_ => R470 t_ (XS.ifNo X0.here hx rfl (hb hby d1_12) rfl ((if0 _ _).trans (feq hc471).1) k_)
      have R483 : Go p e below P s₁ (mkF m 16 #[.val (.long q), .second, .val (.int (0 : Int32)), .val (.int md), .val (.int lf)] [(.int (0 : Int32))]) := fun t_ k_ => R482 t_ (XS.iloadN X0.here hx rfl (hb hby d1_15) rfl k_)
      have R484 : Go p e below P s₁ (mkF m 18 #[.val (.long q), .second, .val (.int (0 : Int32)), .val (.int md), .val (.int lf)] [(.int (6 : Int32)), (.int (0 : Int32))]) := fun t_ k_ => R483 t_ (XS.bipush X0.here hx rfl (hb hby d1_16) k_)
      have R485 : Go p e below P s₁ (mkF m 21 #[.val (.long q), .second, .val (.int (0 : Int32)), .val (.int md), .val (.int lf)] []) := fun t_ k_ => R484 t_ (XS.icmpNo X0.here hx rfl (hb hby d1_18) rfl (tlt (by decide : (0 : Int32) < (6 : Int32))).2.1 k_)
      obtain ⟨a486, T486, h486, k486x, t486, kb486, X486, e486, E486, hS486, hk486, hZ, hown, E1486, F1486, F2486, A1486, la486, lb486, hC486, hL486, hne486, st486⟩ := ldcCH X0 hx hZ hown (hw _ (List.mem_of_getElem? (i := 79) rfl)) (wS_of hw) e0 hS0 hk0 hEL (List.mem_of_getElem? (i := 2) rfl) C0.1 (text := "--help") (vs := ((([45, 45, 104, 101, 108, 112] : List Int32).map StrChars.lo8).map Value.int)) (z := (Int32.ofNat ([45, 45, 104, 101, 108, 112] : List Int32).length)) ⟨by decide, by first | rfl | decide +kernel⟩ (by decide) (by decide) (g := (mkF m 21 #[.val (.long q), .second, .val (.int (0 : Int32)), .val (.int md), .val (.int lf)] [])) rfl (hb hby d1_21) (n := 24) (by decide) (by decide) (by decide) (by decide)
      have O486 := O0.ext E486
      have C487 := C0.trans hC486
      have R488 : Go p e below P T486 (mkF m 23 #[.val (.long q), .second, .val (.int (0 : Int32)), .val (.int md), .val (.int lf)] [(.ref a486)]) := fun t_ k_ => R485 t_ (st486 t_ k_)
      have R489 : Go p e below P T486 (mkF m 24 #[.val (.long q), .second, .val (.int (0 : Int32)), .val (.int md), .val (.int lf)] [(.int (0 : Int32)), (.ref a486)]) := fun t_ k_ => R488 t_ (XS.iloadN X486.here hx rfl (hb hby d1_23) rfl k_)
      obtain ⟨cq490, kq490, q490a, q490b, q490c⟩ := isOf hZ e486 E1486
      obtain ⟨rv490, _, ⟨T490, L490, k490, n490⟩, -, X490, ⟨Lc490, hQ490, l490, y490, z490⟩, st490⟩ := X486.virtualBack hx (y := (⟨"java/lang/String", "charAt", "(I)C"⟩ : MethodName)) (z := (⟨"java/lang/String", "charAt", "(I)C"⟩ : MethodName)) hown (mvT hZ (hw _ (List.mem_of_getElem? (i := 48) rfl))) (mvT hZ (hw _ (List.mem_of_getElem? (i := 49) rfl))) (notFace_of_selects (args := #[]) (mvT hZ (hw _ (List.mem_of_getElem? (i := 51) rfl)))) (mvT hZ (hw _ (List.mem_of_getElem? (i := 51) rfl))) (mvT hZ (hw _ (List.mem_of_getElem? (i := 50) rfl))) (by decide) (StrChars.Road.chN (W := 0) hZ (w_chN hw) (kI := 4) (hw _ (List.mem_of_getElem? (i := 9) rfl)) E1486 F2486 F1486 A1486 (hcod (show ∀ c ∈ ([45, 45, 104, 101, 108, 112] : List Int32), ¬ c < 0 ∧ ¬ (255 : Int32) < c from by decide)) (upC (show ∀ c ∈ ([45, 45, 104, 101, 108, 112] : List Int32), ¬ c < 0 ∧ ¬ (255 : Int32) < c from by decide)) (P0.ext O486.2) hzc (P1.ext O486.2) hfm (by decide) (i := 0) (by decide) (j := (0 : Int32)) rfl (by decide) (by decide)) q490a q490c (g := (mkF m 24 #[.val (.long q), .second, .val (.int (0 : Int32)), .val (.int md), .val (.int lf)] [(.int (0 : Int32)), (.ref a486)])) rfl (by rw [hml]; rfl) (Steps.refl _) (argsL := [(.int (0 : Int32))]) (rest := []) (lenOf pd_52681278 rfl) rfl (by show 2 * 0 + _ ≤ _; exact Nat.le_of_eq rfl) (hb hby d1_24) (fun _ _ => ⟨rfl, e486, (by decide : 2 + 0 ≤ _), (by decide : 28 + 0 ≤ _)⟩)
      dsimp only [Pt.U, Pt.locs, Pt.cells, Pt.slots] at X490 l490 y490 z490 st490 hQ490
      subst l490 y490 z490
      obtain ⟨rfl, rfl, K490⟩ := hQ490
      try rw [List.append_nil] at X490
      have R491 : Go p e below P T490 (mkF m 27 #[.val (.long q), .second, .val (.int (0 : Int32)), .val (.int md), .val (.int lf)] [(.int (([45, 45, 104, 101, 108, 112] : List Int32).getD 0 0))]) := fun t_ k_ => R489 t_ (st490.trans k_)
      obtain ⟨fs, hr, hrun, hended, hend⟩ := X490.leaveW hS486 (by rw [K490]; exact hk486 : _ ≤ T490.heap.size) (v := some (.int (nar .char (([45, 45, 104, 101, 108, 112] : List Int32).getD 0 0)))) (fun h => by rw [Bd.returns] at h; cases h)
      have hCe := C487.trans (CHv.at X490 hZ hEL C487.1)
      exact ⟨_, _, hP _ (R491 _ (retN X490 hx (t := .char) Bd.returns (by simp) (hb hby d1_27) hr)), hrun, hended, _, _, rfl, ⟨(nar .char (([45, 45, 104, 101, 108, 112] : List Int32).getD 0 0)), rfl, N0, (K490.symm ▸ ((Keep.refl h0 []).ext E486)), (by decide)⟩, (by show CHr Z EL0 s.vm s.heap T490.vm T490.heap; rw [hh, K490]; exact hCe), ⟨hend.1, hend.2.1, hend.2.2.1, hend.2.2.2.mono (by decide) (by decide)⟩⟩
theorem ef_pick1_ (m : MethodId) (x0 : Int64) (x1 : Int32) (x2 : Int32) (x3 : Int32) : entryFrame m #[(.long x0), (.int x1), (.int x2), (.int x3)] 5 = mkF m 0 #[.val (.long x0), .second, .val (.int x1), .val (.int x2), .val (.int x3)] [] := by first | (simp [entryFrame, mkF, argsToLocals, Value.category]; done) | rfl
def Q_pick1_ (Z : State) (q : Int64) (md : Int32) (lf : Int32) (zc : Int32) (fm : Value) (h0 : Heap) (n0 : Nat) (rv_ : Option Value) (rh_ : Heap) (rL_ : List Loc) : Prop := ∃ r : Int32, (rv_ = some (.int r)) ∧ (Fr n0 rL_) ∧ (Keep h0 rh_ []) ∧ (nar .char r = r ∧ ¬ r < 0 ∧ ¬ (255 : Int32) < r)
set_option maxRecDepth 65536 in
set_option maxHeartbeats 40000000 in
theorem pick1_ (l : Launch) (Z : State) (a0 : Array Value) (hw : ∀ d ∈ tables_1, d.before a0 Z = true) (ws : List Jvm.Cond) (q : Int64) (md : Int32) (lf : Int32) (zc : Int32) (fm : Value) (h0 : Heap) (n0 : Nat) (O0 : Old Z n0 h0) (hEL : EW Z a0 EL0) (P0 : Sta Z Z.heap "java/lang/String" "COMPACT_STRINGS" "Z" (.int zc)) (P1 : Sta Z Z.heap "jdk/internal/util/Preconditions" "SIOOBE_FORMATTER" "Ljava/util/function/BiFunction;" fm) (P2 : ¬ zc = 0) (P3 : fm.isRef = true) :
    MetFree l (⟨"com/example/toekit/toekit/cli/ArgumentsIsHelpPinLaw", "pick", "(JIIZ)C"⟩ : MethodName) (head1 (Jvm.Cond.code (⟨"com/example/toekit/toekit/cli/ArgumentsIsHelpPinLaw", "pick", "(JIIZ)C"⟩ : MethodName) method_3_code 5 (some .char) :: ws) ({ frames := 4, cells := 2, slots := 28, locals := 53 } : Room)) (fun a_ U_ => a_ = #[(.long q), (.int (1 : Int32)), (.int md), (.int lf)] ∧ Z.Warmed39 U_.vm ∧ U_.heap = h0 ∧ CHv Z EL0 U_.vm h0) (fun _ _ _ _ _ => True) (fun _ U_ o_ U_' => ∃ v_ L_, o_ = .returned v_ ∧ Q_pick1_ Z q md lf zc fm h0 n0 v_ U_'.heap L_ ∧ CHr Z EL0 U_.vm U_.heap U_'.vm U_'.heap ∧ ReturnedEndW U_ o_ U_' L_ ({ frames := 4, cells := 2, slots := 28, locals := 53 } : Room).cells ({ frames := 4, cells := 2, slots := 28, locals := 53 } : Room).slots) := by
  have hzc := P2
  have hfm := P3
  refine MetFree.of_bodySF (plainFor_of_name pn_83775497) hisR ?_
  intro p e s m args below meth c s₁ Bd hml0 hP0 hK
  obtain ⟨rfl, hZ, hh, hCH⟩ := hP0
  have hx := Bd.exec
  have hby := Bd.bytes
  have hml : c.maxLocals = 5 := hml0
  have hown : s.vm.findClass "com/example/toekit/toekit/cli/ArgumentsIsHelpPinLaw" = some m.cls := findClass_of_methodNamed Bd.named
  have hnm := (name_of_methodNamed Bd.named Bd.method).1
  have hS0 : s.Since s.vm 0 := (State.WarmedH.refl s).since 0
  have hk0 : 0 ≤ h0.size := Nat.zero_le _
  have C0 : CHr Z EL0 s.vm h0 s.vm h0 := CHr.refl hCH
  have X0 : Stand p l e ({ frames := 4, cells := 2, slots := 28, locals := 53 } : Room) (s.setVm s.vm) m #[(.long q), (.int (1 : Int32)), (.int md), (.int lf)] below meth c s₁ [] 0 0 := Stand.of_body Bd
  have e0 : s₁.heap = h0 := by rw [← hh, Bd.state]; rfl
  have N0 := Fr.nil n0
  obtain ⟨P, hP, R0⟩ : ∃ P : State → Prop, (∀ t_, P t_ → Steps p.tables e below (s₁.setTop (entryFrame m #[(.long q), (.int (1 : Int32)), (.int md), (.int lf)] 5)) t_) ∧ Go p e below P s₁ (mkF m 0 #[.val (.long q), .second, .val (.int (1 : Int32)), .val (.int md), .val (.int lf)] []) := ⟨_, fun _ h => h, fun t_ k_ => castTop (ef_pick1_ m q (1 : Int32) md lf) k_⟩
  have R492 : Go p e below P s₁ (mkF m 1 #[.val (.long q), .second, .val (.int (1 : Int32)), .val (.int md), .val (.int lf)] [(.int md)]) := fun t_ k_ => R0 t_ (XS.iloadN X0.here hx rfl (hb hby d1_0) rfl k_)
  have R493 : Go p e below P s₁ (mkF m 2 #[.val (.long q), .second, .val (.int (1 : Int32)), .val (.int md), .val (.int lf)] [(.int (1 : Int32)), (.int md)]) := fun t_ k_ => R492 t_ (XS.iloadN X0.here hx rfl (hb hby d1_1) rfl k_)
  have R494 : Go p e below P s₁ (mkF m 3 #[.val (.long q), .second, .val (.int (1 : Int32)), .val (.int md), .val (.int lf)] [(.int (1 : Int32)), (.int (1 : Int32)), (.int md)]) := fun t_ k_ => R493 t_ (XS.iconst X0.here hx rfl (hb hby d1_2) k_)
  have R495 : Go p e below P s₁ (mkF m 4 #[.val (.long q), .second, .val (.int (1 : Int32)), .val (.int md), .val (.int lf)] [(.int ((1 : Int32) + (1 : Int32))), (.int md)]) := fun t_ k_ => R494 t_ (XS.iadd X0.here hx rfl (hb hby d1_3) rfl k_)
  have R496 : Go p e below P s₁ (mkF m 5 #[.val (.long q), .second, .val (.int (1 : Int32)), .val (.int md), .val (.int lf)] [(.int ((md.toUInt32 >>> (((1 : Int32) + (1 : Int32)) &&& 31).toUInt32).toInt32))]) := fun t_ k_ => R495 t_ (XS.iushr X0.here hx rfl (hb hby d1_4) rfl k_)
  have R497 : Go p e below P s₁ (mkF m 6 #[.val (.long q), .second, .val (.int (1 : Int32)), .val (.int md), .val (.int lf)] [(.int (1 : Int32)), (.int ((md.toUInt32 >>> (((1 : Int32) + (1 : Int32)) &&& 31).toUInt32).toInt32))]) := fun t_ k_ => R496 t_ (XS.iconst X0.here hx rfl (hb hby d1_5) k_)
  have R498 : Go p e below P s₁ (mkF m 7 #[.val (.long q), .second, .val (.int (1 : Int32)), .val (.int md), .val (.int lf)] [(.int (((md.toUInt32 >>> (((1 : Int32) + (1 : Int32)) &&& 31).toUInt32).toInt32) &&& (1 : Int32)))]) := fun t_ k_ => R497 t_ (XS.iand X0.here hx rfl (hb hby d1_6) rfl k_)
  by_cases hc499 : (((md.toUInt32 >>> (((1 : Int32) + (1 : Int32)) &&& 31).toUInt32).toInt32) &&& (1 : Int32)) = (0 : Int32)
  · have R500 : Go p e below P s₁ (mkF m 40 #[.val (.long q), .second, .val (.int (1 : Int32)), .val (.int md), .val (.int lf)] []) := fun t_ k_ => R498 t_ (XS.ifYes X0.here hx rfl (pc0 := 7) (pc' := 40) rfl (hb hby d1_7) rfl ((if0 _ _).trans (teq hc499).1) (by decide) (by decide) k_)
    have R501 : Go p e below P s₁ (mkF m 41 #[.val (.long q), .second, .val (.int (1 : Int32)), .val (.int md), .val (.int lf)] [(.long q)]) := fun t_ k_ => R500 t_ (XS.lloadN X0.here hx rfl (hb hby d1_40) rfl k_)
    have R502 : Go p e below P s₁ (mkF m 43 #[.val (.long q), .second, .val (.int (1 : Int32)), .val (.int md), .val (.int lf)] [(.int (8 : Int32)), (.long q)]) := fun t_ k_ => R501 t_ (XS.bipush X0.here hx rfl (hb hby d1_41) k_)
    have R503 : Go p e below P s₁ (mkF m 44 #[.val (.long q), .second, .val (.int (1 : Int32)), .val (.int md), .val (.int lf)] [(.int (1 : Int32)), (.int (8 : Int32)), (.long q)]) := fun t_ k_ => R502 t_ (XS.iloadN X0.here hx rfl (hb hby d1_43) rfl k_)
    have R504 : Go p e below P s₁ (mkF m 45 #[.val (.long q), .second, .val (.int (1 : Int32)), .val (.int md), .val (.int lf)] [(.int ((8 : Int32) * (1 : Int32))), (.long q)]) := fun t_ k_ => R503 t_ (XS.imul X0.here hx rfl (hb hby d1_44) rfl k_)
    have R505 : Go p e below P s₁ (mkF m 46 #[.val (.long q), .second, .val (.int (1 : Int32)), .val (.int md), .val (.int lf)] [(.long ((q.toUInt64 >>> (((8 : Int32) * (1 : Int32)) &&& 0x3f).toInt64.toUInt64).toInt64))]) := fun t_ k_ => R504 t_ (XS.lushr X0.here hx rfl (hb hby d1_45) rfl k_)
    have R506 : Go p e below P s₁ (mkF m 49 #[.val (.long q), .second, .val (.int (1 : Int32)), .val (.int md), .val (.int lf)] [(.long (255 : Int64)), (.long ((q.toUInt64 >>> (((8 : Int32) * (1 : Int32)) &&& 0x3f).toInt64.toUInt64).toInt64))]) := fun t_ k_ => R505 t_ (X0.ldc2Long hx hown (mvT hZ (hw _ (List.mem_of_getElem? (i := 4) rfl))) (g := (mkF m 46 #[.val (.long q), .second, .val (.int (1 : Int32)), .val (.int md), .val (.int lf)] [(.long ((q.toUInt64 >>> (((8 : Int32) * (1 : Int32)) &&& 0x3f).toInt64.toUInt64).toInt64))])) rfl (hb hby d1_46) _ k_)
    have R507 : Go p e below P s₁ (mkF m 50 #[.val (.long q), .second, .val (.int (1 : Int32)), .val (.int md), .val (.int lf)] [(.long (((q.toUInt64 >>> (((8 : Int32) * (1 : Int32)) &&& 0x3f).toInt64.toUInt64).toInt64) &&& (255 : Int64)))]) := fun t_ k_ => R506 t_ (XS.land X0.here hx rfl (hb hby d1_49) rfl k_)
    have R508 : Go p e below P s₁ (mkF m 51 #[.val (.long q), .second, .val (.int (1 : Int32)), .val (.int md), .val (.int lf)] [(.int ((((q.toUInt64 >>> (((8 : Int32) * (1 : Int32)) &&& 0x3f).toInt64.toUInt64).toInt64) &&& (255 : Int64)).toInt32))]) := fun t_ k_ => R507 t_ (XS.l2i X0.here hx rfl (hb hby d1_50) rfl k_)
    have R509 : Go p e below P s₁ (mkF m 52 #[.val (.long q), .second, .val (.int (1 : Int32)), .val (.int md), .val (.int lf)] [(.int (((((q.toUInt64 >>> (((8 : Int32) * (1 : Int32)) &&& 0x3f).toInt64.toUInt64).toInt64) &&& (255 : Int64)).toInt32).toUInt32.toUInt16.toUInt32.toInt32))]) := fun t_ k_ => R508 t_ (XS.i2c X0.here hx rfl (hb hby d1_51) rfl k_)
    obtain ⟨fs, hr, hrun, hended, hend⟩ := X0.leaveW hS0 (by rw [e0]; exact hk0 : _ ≤ s₁.heap.size) (v := some (.int (nar .char (((((q.toUInt64 >>> (((8 : Int32) * (1 : Int32)) &&& 0x3f).toInt64.toUInt64).toInt64) &&& (255 : Int64)).toInt32).toUInt32.toUInt16.toUInt32.toInt32)))) (fun h => by rw [Bd.returns] at h; cases h)
    have hCe := C0.trans (CHv.at X0 hZ hEL C0.1)
    exact ⟨_, _, hP _ (R509 _ (retN X0 hx (t := .char) Bd.returns (by simp) (hb hby d1_52) hr)), hrun, hended, _, _, rfl, ⟨(nar .char (((((q.toUInt64 >>> (((8 : Int32) * (1 : Int32)) &&& 0x3f).toInt64.toUInt64).toInt64) &&& (255 : Int64)).toInt32).toUInt32.toUInt16.toUInt32.toInt32)), rfl, N0, (e0.symm ▸ (Keep.refl h0 [])), (chr255L _)⟩, (by show CHr Z EL0 s.vm s.heap s₁.vm s₁.heap; rw [hh, e0]; exact hCe), ⟨hend.1, hend.2.1, hend.2.2.1, hend.2.2.2.mono (by decide) (by decide)⟩⟩
  · have R510 : Go p e below P s₁ (mkF m 10 #[.val (.long q), .second, .val (.int (1 : Int32)), .val (.int md), .val (.int lf)] []) := fun t_ k_ => R498 t_ (XS.ifNo X0.here hx rfl (hb hby d1_7) rfl ((if0 _ _).trans (feq hc499).1) k_)
    have R511 : Go p e below P s₁ (mkF m 12 #[.val (.long q), .second, .val (.int (1 : Int32)), .val (.int md), .val (.int lf)] [(.int lf)]) := fun t_ k_ => R510 t_ (XS.iload X0.here hx rfl (hb hby d1_10) rfl k_)
    by_cases hc512 : lf = (0 : Int32)
    · have R513 : Go p e below P s₁ (mkF m 28 #[.val (.long q), .second, .val (.int (1 : Int32)), .val (.int md), .val (.int lf)] []) := fun t_ k_ => R511 t_ (XS.ifYes X0.here hx rfl (pc0 := 12) (pc' := 28) rfl (hb hby d1_12) rfl ((if0 _ _).trans (teq hc512).1) (by decide) (by decide) k_)
      have R514 : Go p e below P s₁ (mkF m 29 #[.val (.long q), .second, .val (.int (1 : Int32)), .val (.int md), .val (.int lf)] [(.int (1 : Int32))]) := fun t_ k_ => R513 t_ (XS.iloadN X0.here hx rfl (hb hby d1_28) rfl k_)
      have R515 : Go p e below P s₁ (mkF m 30 #[.val (.long q), .second, .val (.int (1 : Int32)), .val (.int md), .val (.int lf)] [(.int (2 : Int32)), (.int (1 : Int32))]) := fun t_ k_ => R514 t_ (XS.iconst X0.here hx rfl (hb hby d1_29) k_)
      have R516 : Go p e below P s₁ (mkF m 33 #[.val (.long q), .second, .val (.int (1 : Int32)), .val (.int md), .val (.int lf)] []) := fun t_ k_ => R515 t_ (XS.icmpNo X0.here hx rfl (hb hby d1_30) rfl (tlt (by decide : (1 : Int32) < (2 : Int32))).2.1 k_)
      obtain ⟨a517, T517, h517, k517x, t517, kb517, X517, e517, E517, hS517, hk517, hZ, hown, E1517, F1517, F2517, A1517, la517, lb517, hC517, hL517, hne517, st517⟩ := ldcCH X0 hx hZ hown (hw _ (List.mem_of_getElem? (i := 47) rfl)) (wS_of hw) e0 hS0 hk0 hEL (List.mem_of_getElem? (i := 3) rfl) C0.1 (text := "-h") (vs := ((([45, 104] : List Int32).map StrChars.lo8).map Value.int)) (z := (Int32.ofNat ([45, 104] : List Int32).length)) ⟨by decide, by first | rfl | decide +kernel⟩ (by decide) (by decide) (g := (mkF m 33 #[.val (.long q), .second, .val (.int (1 : Int32)), .val (.int md), .val (.int lf)] [])) rfl (hb hby d1_33) (n := 8) (by decide) (by decide) (by decide) (by decide)
      have O517 := O0.ext E517
      have C518 := C0.trans hC517
      have R519 : Go p e below P T517 (mkF m 35 #[.val (.long q), .second, .val (.int (1 : Int32)), .val (.int md), .val (.int lf)] [(.ref a517)]) := fun t_ k_ => R516 t_ (st517 t_ k_)
      have R520 : Go p e below P T517 (mkF m 36 #[.val (.long q), .second, .val (.int (1 : Int32)), .val (.int md), .val (.int lf)] [(.int (1 : Int32)), (.ref a517)]) := fun t_ k_ => R519 t_ (XS.iloadN X517.here hx rfl (hb hby d1_35) rfl k_)
      obtain ⟨cq521, kq521, q521a, q521b, q521c⟩ := isOf hZ e517 E1517
      obtain ⟨rv521, _, ⟨T521, L521, k521, n521⟩, -, X521, ⟨Lc521, hQ521, l521, y521, z521⟩, st521⟩ := X517.virtualBack hx (y := (⟨"java/lang/String", "charAt", "(I)C"⟩ : MethodName)) (z := (⟨"java/lang/String", "charAt", "(I)C"⟩ : MethodName)) hown (mvT hZ (hw _ (List.mem_of_getElem? (i := 48) rfl))) (mvT hZ (hw _ (List.mem_of_getElem? (i := 49) rfl))) (notFace_of_selects (args := #[]) (mvT hZ (hw _ (List.mem_of_getElem? (i := 51) rfl)))) (mvT hZ (hw _ (List.mem_of_getElem? (i := 51) rfl))) (mvT hZ (hw _ (List.mem_of_getElem? (i := 50) rfl))) (by decide) (StrChars.Road.chN (W := 0) hZ (w_chN hw) (kI := 4) (hw _ (List.mem_of_getElem? (i := 9) rfl)) E1517 F2517 F1517 A1517 (hcod (show ∀ c ∈ ([45, 104] : List Int32), ¬ c < 0 ∧ ¬ (255 : Int32) < c from by decide)) (upC (show ∀ c ∈ ([45, 104] : List Int32), ¬ c < 0 ∧ ¬ (255 : Int32) < c from by decide)) (P0.ext O517.2) hzc (P1.ext O517.2) hfm (by decide) (i := 1) (by decide) (j := (1 : Int32)) rfl (by decide) (by decide)) q521a q521c (g := (mkF m 36 #[.val (.long q), .second, .val (.int (1 : Int32)), .val (.int md), .val (.int lf)] [(.int (1 : Int32)), (.ref a517)])) rfl (by rw [hml]; rfl) (Steps.refl _) (argsL := [(.int (1 : Int32))]) (rest := []) (lenOf pd_52681278 rfl) rfl (by show 2 * 0 + _ ≤ _; exact Nat.le_of_eq rfl) (hb hby d1_36) (fun _ _ => ⟨rfl, e517, (by decide : 2 + 0 ≤ _), (by decide : 12 + 0 ≤ _)⟩)
      dsimp only [Pt.U, Pt.locs, Pt.cells, Pt.slots] at X521 l521 y521 z521 st521 hQ521
      subst l521 y521 z521
      obtain ⟨rfl, rfl, K521⟩ := hQ521
      try rw [List.append_nil] at X521
      have R522 : Go p e below P T521 (mkF m 39 #[.val (.long q), .second, .val (.int (1 : Int32)), .val (.int md), .val (.int lf)] [(.int (([45, 104] : List Int32).getD 1 0))]) := fun t_ k_ => R520 t_ (st521.trans k_)
      obtain ⟨fs, hr, hrun, hended, hend⟩ := X521.leaveW hS517 (by rw [K521]; exact hk517 : _ ≤ T521.heap.size) (v := some (.int (nar .char (([45, 104] : List Int32).getD 1 0)))) (fun h => by rw [Bd.returns] at h; cases h)
      have hCe := C518.trans (CHv.at X521 hZ hEL C518.1)
      exact ⟨_, _, hP _ (R522 _ (retN X521 hx (t := .char) Bd.returns (by simp) (hb hby d1_39) hr)), hrun, hended, _, _, rfl, ⟨(nar .char (([45, 104] : List Int32).getD 1 0)), rfl, N0, (K521.symm ▸ ((Keep.refl h0 []).ext E517)), (by decide)⟩, (by show CHr Z EL0 s.vm s.heap T521.vm T521.heap; rw [hh, K521]; exact hCe), ⟨hend.1, hend.2.1, hend.2.2.1, hend.2.2.2.mono (by decide) (by decide)⟩⟩
    · have R523 : Go p e below P s₁ (mkF m 15 #[.val (.long q), .second, .val (.int (1 : Int32)), .val (.int md), .val (.int lf)] []) := fun t_ k_ => R511 t_ (XS.ifNo X0.here hx rfl (hb hby d1_12) rfl ((if0 _ _).trans (feq hc512).1) k_)
      have R524 : Go p e below P s₁ (mkF m 16 #[.val (.long q), .second, .val (.int (1 : Int32)), .val (.int md), .val (.int lf)] [(.int (1 : Int32))]) := fun t_ k_ => R523 t_ (XS.iloadN X0.here hx rfl (hb hby d1_15) rfl k_)
      have R525 : Go p e below P s₁ (mkF m 18 #[.val (.long q), .second, .val (.int (1 : Int32)), .val (.int md), .val (.int lf)] [(.int (6 : Int32)), (.int (1 : Int32))]) := fun t_ k_ => R524 t_ (XS.bipush X0.here hx rfl (hb hby d1_16) k_)
      have R526 : Go p e below P s₁ (mkF m 21 #[.val (.long q), .second, .val (.int (1 : Int32)), .val (.int md), .val (.int lf)] []) := fun t_ k_ => R525 t_ (XS.icmpNo X0.here hx rfl (hb hby d1_18) rfl (tlt (by decide : (1 : Int32) < (6 : Int32))).2.1 k_)
      obtain ⟨a527, T527, h527, k527x, t527, kb527, X527, e527, E527, hS527, hk527, hZ, hown, E1527, F1527, F2527, A1527, la527, lb527, hC527, hL527, hne527, st527⟩ := ldcCH X0 hx hZ hown (hw _ (List.mem_of_getElem? (i := 79) rfl)) (wS_of hw) e0 hS0 hk0 hEL (List.mem_of_getElem? (i := 2) rfl) C0.1 (text := "--help") (vs := ((([45, 45, 104, 101, 108, 112] : List Int32).map StrChars.lo8).map Value.int)) (z := (Int32.ofNat ([45, 45, 104, 101, 108, 112] : List Int32).length)) ⟨by decide, by first | rfl | decide +kernel⟩ (by decide) (by decide) (g := (mkF m 21 #[.val (.long q), .second, .val (.int (1 : Int32)), .val (.int md), .val (.int lf)] [])) rfl (hb hby d1_21) (n := 24) (by decide) (by decide) (by decide) (by decide)
      have O527 := O0.ext E527
      have C528 := C0.trans hC527
      have R529 : Go p e below P T527 (mkF m 23 #[.val (.long q), .second, .val (.int (1 : Int32)), .val (.int md), .val (.int lf)] [(.ref a527)]) := fun t_ k_ => R526 t_ (st527 t_ k_)
      have R530 : Go p e below P T527 (mkF m 24 #[.val (.long q), .second, .val (.int (1 : Int32)), .val (.int md), .val (.int lf)] [(.int (1 : Int32)), (.ref a527)]) := fun t_ k_ => R529 t_ (XS.iloadN X527.here hx rfl (hb hby d1_23) rfl k_)
      obtain ⟨cq531, kq531, q531a, q531b, q531c⟩ := isOf hZ e527 E1527
      obtain ⟨rv531, _, ⟨T531, L531, k531, n531⟩, -, X531, ⟨Lc531, hQ531, l531, y531, z531⟩, st531⟩ := X527.virtualBack hx (y := (⟨"java/lang/String", "charAt", "(I)C"⟩ : MethodName)) (z := (⟨"java/lang/String", "charAt", "(I)C"⟩ : MethodName)) hown (mvT hZ (hw _ (List.mem_of_getElem? (i := 48) rfl))) (mvT hZ (hw _ (List.mem_of_getElem? (i := 49) rfl))) (notFace_of_selects (args := #[]) (mvT hZ (hw _ (List.mem_of_getElem? (i := 51) rfl)))) (mvT hZ (hw _ (List.mem_of_getElem? (i := 51) rfl))) (mvT hZ (hw _ (List.mem_of_getElem? (i := 50) rfl))) (by decide) (StrChars.Road.chN (W := 0) hZ (w_chN hw) (kI := 4) (hw _ (List.mem_of_getElem? (i := 9) rfl)) E1527 F2527 F1527 A1527 (hcod (show ∀ c ∈ ([45, 45, 104, 101, 108, 112] : List Int32), ¬ c < 0 ∧ ¬ (255 : Int32) < c from by decide)) (upC (show ∀ c ∈ ([45, 45, 104, 101, 108, 112] : List Int32), ¬ c < 0 ∧ ¬ (255 : Int32) < c from by decide)) (P0.ext O527.2) hzc (P1.ext O527.2) hfm (by decide) (i := 1) (by decide) (j := (1 : Int32)) rfl (by decide) (by decide)) q531a q531c (g := (mkF m 24 #[.val (.long q), .second, .val (.int (1 : Int32)), .val (.int md), .val (.int lf)] [(.int (1 : Int32)), (.ref a527)])) rfl (by rw [hml]; rfl) (Steps.refl _) (argsL := [(.int (1 : Int32))]) (rest := []) (lenOf pd_52681278 rfl) rfl (by show 2 * 0 + _ ≤ _; exact Nat.le_of_eq rfl) (hb hby d1_24) (fun _ _ => ⟨rfl, e527, (by decide : 2 + 0 ≤ _), (by decide : 28 + 0 ≤ _)⟩)
      dsimp only [Pt.U, Pt.locs, Pt.cells, Pt.slots] at X531 l531 y531 z531 st531 hQ531
      subst l531 y531 z531
      obtain ⟨rfl, rfl, K531⟩ := hQ531
      try rw [List.append_nil] at X531
      have R532 : Go p e below P T531 (mkF m 27 #[.val (.long q), .second, .val (.int (1 : Int32)), .val (.int md), .val (.int lf)] [(.int (([45, 45, 104, 101, 108, 112] : List Int32).getD 1 0))]) := fun t_ k_ => R530 t_ (st531.trans k_)
      obtain ⟨fs, hr, hrun, hended, hend⟩ := X531.leaveW hS527 (by rw [K531]; exact hk527 : _ ≤ T531.heap.size) (v := some (.int (nar .char (([45, 45, 104, 101, 108, 112] : List Int32).getD 1 0)))) (fun h => by rw [Bd.returns] at h; cases h)
      have hCe := C528.trans (CHv.at X531 hZ hEL C528.1)
      exact ⟨_, _, hP _ (R532 _ (retN X531 hx (t := .char) Bd.returns (by simp) (hb hby d1_27) hr)), hrun, hended, _, _, rfl, ⟨(nar .char (([45, 45, 104, 101, 108, 112] : List Int32).getD 1 0)), rfl, N0, (K531.symm ▸ ((Keep.refl h0 []).ext E527)), (by decide)⟩, (by show CHr Z EL0 s.vm s.heap T531.vm T531.heap; rw [hh, K531]; exact hCe), ⟨hend.1, hend.2.1, hend.2.2.1, hend.2.2.2.mono (by decide) (by decide)⟩⟩
theorem ef_pick2_ (m : MethodId) (x0 : Int64) (x1 : Int32) (x2 : Int32) (x3 : Int32) : entryFrame m #[(.long x0), (.int x1), (.int x2), (.int x3)] 5 = mkF m 0 #[.val (.long x0), .second, .val (.int x1), .val (.int x2), .val (.int x3)] [] := by first | (simp [entryFrame, mkF, argsToLocals, Value.category]; done) | rfl
def Q_pick2_ (Z : State) (q : Int64) (md : Int32) (lf : Int32) (zc : Int32) (fm : Value) (h0 : Heap) (n0 : Nat) (rv_ : Option Value) (rh_ : Heap) (rL_ : List Loc) : Prop := ∃ r : Int32, (rv_ = some (.int r)) ∧ (Fr n0 rL_) ∧ (Keep h0 rh_ []) ∧ (nar .char r = r ∧ ¬ r < 0 ∧ ¬ (255 : Int32) < r)
set_option maxRecDepth 65536 in
set_option maxHeartbeats 40000000 in
theorem pick2_ (l : Launch) (Z : State) (a0 : Array Value) (hw : ∀ d ∈ tables_1, d.before a0 Z = true) (ws : List Jvm.Cond) (q : Int64) (md : Int32) (lf : Int32) (zc : Int32) (fm : Value) (h0 : Heap) (n0 : Nat) (O0 : Old Z n0 h0) (hEL : EW Z a0 EL0) (P0 : Sta Z Z.heap "java/lang/String" "COMPACT_STRINGS" "Z" (.int zc)) (P1 : Sta Z Z.heap "jdk/internal/util/Preconditions" "SIOOBE_FORMATTER" "Ljava/util/function/BiFunction;" fm) (P2 : ¬ zc = 0) (P3 : fm.isRef = true) :
    MetFree l (⟨"com/example/toekit/toekit/cli/ArgumentsIsHelpPinLaw", "pick", "(JIIZ)C"⟩ : MethodName) (head1 (Jvm.Cond.code (⟨"com/example/toekit/toekit/cli/ArgumentsIsHelpPinLaw", "pick", "(JIIZ)C"⟩ : MethodName) method_3_code 5 (some .char) :: ws) ({ frames := 4, cells := 2, slots := 28, locals := 53 } : Room)) (fun a_ U_ => a_ = #[(.long q), (.int (2 : Int32)), (.int md), (.int lf)] ∧ Z.Warmed39 U_.vm ∧ U_.heap = h0 ∧ CHv Z EL0 U_.vm h0) (fun _ _ _ _ _ => True) (fun _ U_ o_ U_' => ∃ v_ L_, o_ = .returned v_ ∧ Q_pick2_ Z q md lf zc fm h0 n0 v_ U_'.heap L_ ∧ CHr Z EL0 U_.vm U_.heap U_'.vm U_'.heap ∧ ReturnedEndW U_ o_ U_' L_ ({ frames := 4, cells := 2, slots := 28, locals := 53 } : Room).cells ({ frames := 4, cells := 2, slots := 28, locals := 53 } : Room).slots) := by
  have hzc := P2
  have hfm := P3
  refine MetFree.of_bodySF (plainFor_of_name pn_83775497) hisR ?_
  intro p e s m args below meth c s₁ Bd hml0 hP0 hK
  obtain ⟨rfl, hZ, hh, hCH⟩ := hP0
  have hx := Bd.exec
  have hby := Bd.bytes
  have hml : c.maxLocals = 5 := hml0
  have hown : s.vm.findClass "com/example/toekit/toekit/cli/ArgumentsIsHelpPinLaw" = some m.cls := findClass_of_methodNamed Bd.named
  have hnm := (name_of_methodNamed Bd.named Bd.method).1
  have hS0 : s.Since s.vm 0 := (State.WarmedH.refl s).since 0
  have hk0 : 0 ≤ h0.size := Nat.zero_le _
  have C0 : CHr Z EL0 s.vm h0 s.vm h0 := CHr.refl hCH
  have X0 : Stand p l e ({ frames := 4, cells := 2, slots := 28, locals := 53 } : Room) (s.setVm s.vm) m #[(.long q), (.int (2 : Int32)), (.int md), (.int lf)] below meth c s₁ [] 0 0 := Stand.of_body Bd
  have e0 : s₁.heap = h0 := by rw [← hh, Bd.state]; rfl
  have N0 := Fr.nil n0
  obtain ⟨P, hP, R0⟩ : ∃ P : State → Prop, (∀ t_, P t_ → Steps p.tables e below (s₁.setTop (entryFrame m #[(.long q), (.int (2 : Int32)), (.int md), (.int lf)] 5)) t_) ∧ Go p e below P s₁ (mkF m 0 #[.val (.long q), .second, .val (.int (2 : Int32)), .val (.int md), .val (.int lf)] []) := ⟨_, fun _ h => h, fun t_ k_ => castTop (ef_pick2_ m q (2 : Int32) md lf) k_⟩
  have R533 : Go p e below P s₁ (mkF m 1 #[.val (.long q), .second, .val (.int (2 : Int32)), .val (.int md), .val (.int lf)] [(.int md)]) := fun t_ k_ => R0 t_ (XS.iloadN X0.here hx rfl (hb hby d1_0) rfl k_)
  have R534 : Go p e below P s₁ (mkF m 2 #[.val (.long q), .second, .val (.int (2 : Int32)), .val (.int md), .val (.int lf)] [(.int (2 : Int32)), (.int md)]) := fun t_ k_ => R533 t_ (XS.iloadN X0.here hx rfl (hb hby d1_1) rfl k_)
  have R535 : Go p e below P s₁ (mkF m 3 #[.val (.long q), .second, .val (.int (2 : Int32)), .val (.int md), .val (.int lf)] [(.int (1 : Int32)), (.int (2 : Int32)), (.int md)]) := fun t_ k_ => R534 t_ (XS.iconst X0.here hx rfl (hb hby d1_2) k_)
  have R536 : Go p e below P s₁ (mkF m 4 #[.val (.long q), .second, .val (.int (2 : Int32)), .val (.int md), .val (.int lf)] [(.int ((2 : Int32) + (1 : Int32))), (.int md)]) := fun t_ k_ => R535 t_ (XS.iadd X0.here hx rfl (hb hby d1_3) rfl k_)
  have R537 : Go p e below P s₁ (mkF m 5 #[.val (.long q), .second, .val (.int (2 : Int32)), .val (.int md), .val (.int lf)] [(.int ((md.toUInt32 >>> (((2 : Int32) + (1 : Int32)) &&& 31).toUInt32).toInt32))]) := fun t_ k_ => R536 t_ (XS.iushr X0.here hx rfl (hb hby d1_4) rfl k_)
  have R538 : Go p e below P s₁ (mkF m 6 #[.val (.long q), .second, .val (.int (2 : Int32)), .val (.int md), .val (.int lf)] [(.int (1 : Int32)), (.int ((md.toUInt32 >>> (((2 : Int32) + (1 : Int32)) &&& 31).toUInt32).toInt32))]) := fun t_ k_ => R537 t_ (XS.iconst X0.here hx rfl (hb hby d1_5) k_)
  have R539 : Go p e below P s₁ (mkF m 7 #[.val (.long q), .second, .val (.int (2 : Int32)), .val (.int md), .val (.int lf)] [(.int (((md.toUInt32 >>> (((2 : Int32) + (1 : Int32)) &&& 31).toUInt32).toInt32) &&& (1 : Int32)))]) := fun t_ k_ => R538 t_ (XS.iand X0.here hx rfl (hb hby d1_6) rfl k_)
  by_cases hc540 : (((md.toUInt32 >>> (((2 : Int32) + (1 : Int32)) &&& 31).toUInt32).toInt32) &&& (1 : Int32)) = (0 : Int32)
  · have R541 : Go p e below P s₁ (mkF m 40 #[.val (.long q), .second, .val (.int (2 : Int32)), .val (.int md), .val (.int lf)] []) := fun t_ k_ => R539 t_ (XS.ifYes X0.here hx rfl (pc0 := 7) (pc' := 40) rfl (hb hby d1_7) rfl ((if0 _ _).trans (teq hc540).1) (by decide) (by decide) k_)
    have R542 : Go p e below P s₁ (mkF m 41 #[.val (.long q), .second, .val (.int (2 : Int32)), .val (.int md), .val (.int lf)] [(.long q)]) := fun t_ k_ => R541 t_ (XS.lloadN X0.here hx rfl (hb hby d1_40) rfl k_)
    have R543 : Go p e below P s₁ (mkF m 43 #[.val (.long q), .second, .val (.int (2 : Int32)), .val (.int md), .val (.int lf)] [(.int (8 : Int32)), (.long q)]) := fun t_ k_ => R542 t_ (XS.bipush X0.here hx rfl (hb hby d1_41) k_)
    have R544 : Go p e below P s₁ (mkF m 44 #[.val (.long q), .second, .val (.int (2 : Int32)), .val (.int md), .val (.int lf)] [(.int (2 : Int32)), (.int (8 : Int32)), (.long q)]) := fun t_ k_ => R543 t_ (XS.iloadN X0.here hx rfl (hb hby d1_43) rfl k_)
    have R545 : Go p e below P s₁ (mkF m 45 #[.val (.long q), .second, .val (.int (2 : Int32)), .val (.int md), .val (.int lf)] [(.int ((8 : Int32) * (2 : Int32))), (.long q)]) := fun t_ k_ => R544 t_ (XS.imul X0.here hx rfl (hb hby d1_44) rfl k_)
    have R546 : Go p e below P s₁ (mkF m 46 #[.val (.long q), .second, .val (.int (2 : Int32)), .val (.int md), .val (.int lf)] [(.long ((q.toUInt64 >>> (((8 : Int32) * (2 : Int32)) &&& 0x3f).toInt64.toUInt64).toInt64))]) := fun t_ k_ => R545 t_ (XS.lushr X0.here hx rfl (hb hby d1_45) rfl k_)
    have R547 : Go p e below P s₁ (mkF m 49 #[.val (.long q), .second, .val (.int (2 : Int32)), .val (.int md), .val (.int lf)] [(.long (255 : Int64)), (.long ((q.toUInt64 >>> (((8 : Int32) * (2 : Int32)) &&& 0x3f).toInt64.toUInt64).toInt64))]) := fun t_ k_ => R546 t_ (X0.ldc2Long hx hown (mvT hZ (hw _ (List.mem_of_getElem? (i := 4) rfl))) (g := (mkF m 46 #[.val (.long q), .second, .val (.int (2 : Int32)), .val (.int md), .val (.int lf)] [(.long ((q.toUInt64 >>> (((8 : Int32) * (2 : Int32)) &&& 0x3f).toInt64.toUInt64).toInt64))])) rfl (hb hby d1_46) _ k_)
    have R548 : Go p e below P s₁ (mkF m 50 #[.val (.long q), .second, .val (.int (2 : Int32)), .val (.int md), .val (.int lf)] [(.long (((q.toUInt64 >>> (((8 : Int32) * (2 : Int32)) &&& 0x3f).toInt64.toUInt64).toInt64) &&& (255 : Int64)))]) := fun t_ k_ => R547 t_ (XS.land X0.here hx rfl (hb hby d1_49) rfl k_)
    have R549 : Go p e below P s₁ (mkF m 51 #[.val (.long q), .second, .val (.int (2 : Int32)), .val (.int md), .val (.int lf)] [(.int ((((q.toUInt64 >>> (((8 : Int32) * (2 : Int32)) &&& 0x3f).toInt64.toUInt64).toInt64) &&& (255 : Int64)).toInt32))]) := fun t_ k_ => R548 t_ (XS.l2i X0.here hx rfl (hb hby d1_50) rfl k_)
    have R550 : Go p e below P s₁ (mkF m 52 #[.val (.long q), .second, .val (.int (2 : Int32)), .val (.int md), .val (.int lf)] [(.int (((((q.toUInt64 >>> (((8 : Int32) * (2 : Int32)) &&& 0x3f).toInt64.toUInt64).toInt64) &&& (255 : Int64)).toInt32).toUInt32.toUInt16.toUInt32.toInt32))]) := fun t_ k_ => R549 t_ (XS.i2c X0.here hx rfl (hb hby d1_51) rfl k_)
    obtain ⟨fs, hr, hrun, hended, hend⟩ := X0.leaveW hS0 (by rw [e0]; exact hk0 : _ ≤ s₁.heap.size) (v := some (.int (nar .char (((((q.toUInt64 >>> (((8 : Int32) * (2 : Int32)) &&& 0x3f).toInt64.toUInt64).toInt64) &&& (255 : Int64)).toInt32).toUInt32.toUInt16.toUInt32.toInt32)))) (fun h => by rw [Bd.returns] at h; cases h)
    have hCe := C0.trans (CHv.at X0 hZ hEL C0.1)
    exact ⟨_, _, hP _ (R550 _ (retN X0 hx (t := .char) Bd.returns (by simp) (hb hby d1_52) hr)), hrun, hended, _, _, rfl, ⟨(nar .char (((((q.toUInt64 >>> (((8 : Int32) * (2 : Int32)) &&& 0x3f).toInt64.toUInt64).toInt64) &&& (255 : Int64)).toInt32).toUInt32.toUInt16.toUInt32.toInt32)), rfl, N0, (e0.symm ▸ (Keep.refl h0 [])), (chr255L _)⟩, (by show CHr Z EL0 s.vm s.heap s₁.vm s₁.heap; rw [hh, e0]; exact hCe), ⟨hend.1, hend.2.1, hend.2.2.1, hend.2.2.2.mono (by decide) (by decide)⟩⟩
  · have R551 : Go p e below P s₁ (mkF m 10 #[.val (.long q), .second, .val (.int (2 : Int32)), .val (.int md), .val (.int lf)] []) := fun t_ k_ => R539 t_ (XS.ifNo X0.here hx rfl (hb hby d1_7) rfl ((if0 _ _).trans (feq hc540).1) k_)
    have R552 : Go p e below P s₁ (mkF m 12 #[.val (.long q), .second, .val (.int (2 : Int32)), .val (.int md), .val (.int lf)] [(.int lf)]) := fun t_ k_ => R551 t_ (XS.iload X0.here hx rfl (hb hby d1_10) rfl k_)
    by_cases hc553 : lf = (0 : Int32)
    · have R554 : Go p e below P s₁ (mkF m 28 #[.val (.long q), .second, .val (.int (2 : Int32)), .val (.int md), .val (.int lf)] []) := fun t_ k_ => R552 t_ (XS.ifYes X0.here hx rfl (pc0 := 12) (pc' := 28) rfl (hb hby d1_12) rfl ((if0 _ _).trans (teq hc553).1) (by decide) (by decide) k_)
      have R555 : Go p e below P s₁ (mkF m 29 #[.val (.long q), .second, .val (.int (2 : Int32)), .val (.int md), .val (.int lf)] [(.int (2 : Int32))]) := fun t_ k_ => R554 t_ (XS.iloadN X0.here hx rfl (hb hby d1_28) rfl k_)
      have R556 : Go p e below P s₁ (mkF m 30 #[.val (.long q), .second, .val (.int (2 : Int32)), .val (.int md), .val (.int lf)] [(.int (2 : Int32)), (.int (2 : Int32))]) := fun t_ k_ => R555 t_ (XS.iconst X0.here hx rfl (hb hby d1_29) k_)
      have R557 : Go p e below P s₁ (mkF m 40 #[.val (.long q), .second, .val (.int (2 : Int32)), .val (.int md), .val (.int lf)] []) := fun t_ k_ => R556 t_ (XS.icmpYes X0.here hx rfl (pc0 := 30) (pc' := 40) rfl (hb hby d1_30) rfl (flt (by decide : ¬ ((2 : Int32) < (2 : Int32)))).2.1 (by decide) (by decide) k_)
      have R558 : Go p e below P s₁ (mkF m 41 #[.val (.long q), .second, .val (.int (2 : Int32)), .val (.int md), .val (.int lf)] [(.long q)]) := fun t_ k_ => R557 t_ (XS.lloadN X0.here hx rfl (hb hby d1_40) rfl k_)
      have R559 : Go p e below P s₁ (mkF m 43 #[.val (.long q), .second, .val (.int (2 : Int32)), .val (.int md), .val (.int lf)] [(.int (8 : Int32)), (.long q)]) := fun t_ k_ => R558 t_ (XS.bipush X0.here hx rfl (hb hby d1_41) k_)
      have R560 : Go p e below P s₁ (mkF m 44 #[.val (.long q), .second, .val (.int (2 : Int32)), .val (.int md), .val (.int lf)] [(.int (2 : Int32)), (.int (8 : Int32)), (.long q)]) := fun t_ k_ => R559 t_ (XS.iloadN X0.here hx rfl (hb hby d1_43) rfl k_)
      have R561 : Go p e below P s₁ (mkF m 45 #[.val (.long q), .second, .val (.int (2 : Int32)), .val (.int md), .val (.int lf)] [(.int ((8 : Int32) * (2 : Int32))), (.long q)]) := fun t_ k_ => R560 t_ (XS.imul X0.here hx rfl (hb hby d1_44) rfl k_)
      have R562 : Go p e below P s₁ (mkF m 46 #[.val (.long q), .second, .val (.int (2 : Int32)), .val (.int md), .val (.int lf)] [(.long ((q.toUInt64 >>> (((8 : Int32) * (2 : Int32)) &&& 0x3f).toInt64.toUInt64).toInt64))]) := fun t_ k_ => R561 t_ (XS.lushr X0.here hx rfl (hb hby d1_45) rfl k_)
      have R563 : Go p e below P s₁ (mkF m 49 #[.val (.long q), .second, .val (.int (2 : Int32)), .val (.int md), .val (.int lf)] [(.long (255 : Int64)), (.long ((q.toUInt64 >>> (((8 : Int32) * (2 : Int32)) &&& 0x3f).toInt64.toUInt64).toInt64))]) := fun t_ k_ => R562 t_ (X0.ldc2Long hx hown (mvT hZ (hw _ (List.mem_of_getElem? (i := 4) rfl))) (g := (mkF m 46 #[.val (.long q), .second, .val (.int (2 : Int32)), .val (.int md), .val (.int lf)] [(.long ((q.toUInt64 >>> (((8 : Int32) * (2 : Int32)) &&& 0x3f).toInt64.toUInt64).toInt64))])) rfl (hb hby d1_46) _ k_)
      have R564 : Go p e below P s₁ (mkF m 50 #[.val (.long q), .second, .val (.int (2 : Int32)), .val (.int md), .val (.int lf)] [(.long (((q.toUInt64 >>> (((8 : Int32) * (2 : Int32)) &&& 0x3f).toInt64.toUInt64).toInt64) &&& (255 : Int64)))]) := fun t_ k_ => R563 t_ (XS.land X0.here hx rfl (hb hby d1_49) rfl k_)
      have R565 : Go p e below P s₁ (mkF m 51 #[.val (.long q), .second, .val (.int (2 : Int32)), .val (.int md), .val (.int lf)] [(.int ((((q.toUInt64 >>> (((8 : Int32) * (2 : Int32)) &&& 0x3f).toInt64.toUInt64).toInt64) &&& (255 : Int64)).toInt32))]) := fun t_ k_ => R564 t_ (XS.l2i X0.here hx rfl (hb hby d1_50) rfl k_)
      have R566 : Go p e below P s₁ (mkF m 52 #[.val (.long q), .second, .val (.int (2 : Int32)), .val (.int md), .val (.int lf)] [(.int (((((q.toUInt64 >>> (((8 : Int32) * (2 : Int32)) &&& 0x3f).toInt64.toUInt64).toInt64) &&& (255 : Int64)).toInt32).toUInt32.toUInt16.toUInt32.toInt32))]) := fun t_ k_ => R565 t_ (XS.i2c X0.here hx rfl (hb hby d1_51) rfl k_)
      obtain ⟨fs, hr, hrun, hended, hend⟩ := X0.leaveW hS0 (by rw [e0]; exact hk0 : _ ≤ s₁.heap.size) (v := some (.int (nar .char (((((q.toUInt64 >>> (((8 : Int32) * (2 : Int32)) &&& 0x3f).toInt64.toUInt64).toInt64) &&& (255 : Int64)).toInt32).toUInt32.toUInt16.toUInt32.toInt32)))) (fun h => by rw [Bd.returns] at h; cases h)
      have hCe := C0.trans (CHv.at X0 hZ hEL C0.1)
      exact ⟨_, _, hP _ (R566 _ (retN X0 hx (t := .char) Bd.returns (by simp) (hb hby d1_52) hr)), hrun, hended, _, _, rfl, ⟨(nar .char (((((q.toUInt64 >>> (((8 : Int32) * (2 : Int32)) &&& 0x3f).toInt64.toUInt64).toInt64) &&& (255 : Int64)).toInt32).toUInt32.toUInt16.toUInt32.toInt32)), rfl, N0, (e0.symm ▸ (Keep.refl h0 [])), (chr255L _)⟩, (by show CHr Z EL0 s.vm s.heap s₁.vm s₁.heap; rw [hh, e0]; exact hCe), ⟨hend.1, hend.2.1, hend.2.2.1, hend.2.2.2.mono (by decide) (by decide)⟩⟩
    · have R567 : Go p e below P s₁ (mkF m 15 #[.val (.long q), .second, .val (.int (2 : Int32)), .val (.int md), .val (.int lf)] []) := fun t_ k_ => R552 t_ (XS.ifNo X0.here hx rfl (hb hby d1_12) rfl ((if0 _ _).trans (feq hc553).1) k_)
      have R568 : Go p e below P s₁ (mkF m 16 #[.val (.long q), .second, .val (.int (2 : Int32)), .val (.int md), .val (.int lf)] [(.int (2 : Int32))]) := fun t_ k_ => R567 t_ (XS.iloadN X0.here hx rfl (hb hby d1_15) rfl k_)
      have R569 : Go p e below P s₁ (mkF m 18 #[.val (.long q), .second, .val (.int (2 : Int32)), .val (.int md), .val (.int lf)] [(.int (6 : Int32)), (.int (2 : Int32))]) := fun t_ k_ => R568 t_ (XS.bipush X0.here hx rfl (hb hby d1_16) k_)
      have R570 : Go p e below P s₁ (mkF m 21 #[.val (.long q), .second, .val (.int (2 : Int32)), .val (.int md), .val (.int lf)] []) := fun t_ k_ => R569 t_ (XS.icmpNo X0.here hx rfl (hb hby d1_18) rfl (tlt (by decide : (2 : Int32) < (6 : Int32))).2.1 k_)
      obtain ⟨a571, T571, h571, k571x, t571, kb571, X571, e571, E571, hS571, hk571, hZ, hown, E1571, F1571, F2571, A1571, la571, lb571, hC571, hL571, hne571, st571⟩ := ldcCH X0 hx hZ hown (hw _ (List.mem_of_getElem? (i := 79) rfl)) (wS_of hw) e0 hS0 hk0 hEL (List.mem_of_getElem? (i := 2) rfl) C0.1 (text := "--help") (vs := ((([45, 45, 104, 101, 108, 112] : List Int32).map StrChars.lo8).map Value.int)) (z := (Int32.ofNat ([45, 45, 104, 101, 108, 112] : List Int32).length)) ⟨by decide, by first | rfl | decide +kernel⟩ (by decide) (by decide) (g := (mkF m 21 #[.val (.long q), .second, .val (.int (2 : Int32)), .val (.int md), .val (.int lf)] [])) rfl (hb hby d1_21) (n := 24) (by decide) (by decide) (by decide) (by decide)
      have O571 := O0.ext E571
      have C572 := C0.trans hC571
      have R573 : Go p e below P T571 (mkF m 23 #[.val (.long q), .second, .val (.int (2 : Int32)), .val (.int md), .val (.int lf)] [(.ref a571)]) := fun t_ k_ => R570 t_ (st571 t_ k_)
      have R574 : Go p e below P T571 (mkF m 24 #[.val (.long q), .second, .val (.int (2 : Int32)), .val (.int md), .val (.int lf)] [(.int (2 : Int32)), (.ref a571)]) := fun t_ k_ => R573 t_ (XS.iloadN X571.here hx rfl (hb hby d1_23) rfl k_)
      obtain ⟨cq575, kq575, q575a, q575b, q575c⟩ := isOf hZ e571 E1571
      obtain ⟨rv575, _, ⟨T575, L575, k575, n575⟩, -, X575, ⟨Lc575, hQ575, l575, y575, z575⟩, st575⟩ := X571.virtualBack hx (y := (⟨"java/lang/String", "charAt", "(I)C"⟩ : MethodName)) (z := (⟨"java/lang/String", "charAt", "(I)C"⟩ : MethodName)) hown (mvT hZ (hw _ (List.mem_of_getElem? (i := 48) rfl))) (mvT hZ (hw _ (List.mem_of_getElem? (i := 49) rfl))) (notFace_of_selects (args := #[]) (mvT hZ (hw _ (List.mem_of_getElem? (i := 51) rfl)))) (mvT hZ (hw _ (List.mem_of_getElem? (i := 51) rfl))) (mvT hZ (hw _ (List.mem_of_getElem? (i := 50) rfl))) (by decide) (StrChars.Road.chN (W := 0) hZ (w_chN hw) (kI := 4) (hw _ (List.mem_of_getElem? (i := 9) rfl)) E1571 F2571 F1571 A1571 (hcod (show ∀ c ∈ ([45, 45, 104, 101, 108, 112] : List Int32), ¬ c < 0 ∧ ¬ (255 : Int32) < c from by decide)) (upC (show ∀ c ∈ ([45, 45, 104, 101, 108, 112] : List Int32), ¬ c < 0 ∧ ¬ (255 : Int32) < c from by decide)) (P0.ext O571.2) hzc (P1.ext O571.2) hfm (by decide) (i := 2) (by decide) (j := (2 : Int32)) rfl (by decide) (by decide)) q575a q575c (g := (mkF m 24 #[.val (.long q), .second, .val (.int (2 : Int32)), .val (.int md), .val (.int lf)] [(.int (2 : Int32)), (.ref a571)])) rfl (by rw [hml]; rfl) (Steps.refl _) (argsL := [(.int (2 : Int32))]) (rest := []) (lenOf pd_52681278 rfl) rfl (by show 2 * 0 + _ ≤ _; exact Nat.le_of_eq rfl) (hb hby d1_24) (fun _ _ => ⟨rfl, e571, (by decide : 2 + 0 ≤ _), (by decide : 28 + 0 ≤ _)⟩)
      dsimp only [Pt.U, Pt.locs, Pt.cells, Pt.slots] at X575 l575 y575 z575 st575 hQ575
      subst l575 y575 z575
      obtain ⟨rfl, rfl, K575⟩ := hQ575
      try rw [List.append_nil] at X575
      have R576 : Go p e below P T575 (mkF m 27 #[.val (.long q), .second, .val (.int (2 : Int32)), .val (.int md), .val (.int lf)] [(.int (([45, 45, 104, 101, 108, 112] : List Int32).getD 2 0))]) := fun t_ k_ => R574 t_ (st575.trans k_)
      obtain ⟨fs, hr, hrun, hended, hend⟩ := X575.leaveW hS571 (by rw [K575]; exact hk571 : _ ≤ T575.heap.size) (v := some (.int (nar .char (([45, 45, 104, 101, 108, 112] : List Int32).getD 2 0)))) (fun h => by rw [Bd.returns] at h; cases h)
      have hCe := C572.trans (CHv.at X575 hZ hEL C572.1)
      exact ⟨_, _, hP _ (R576 _ (retN X575 hx (t := .char) Bd.returns (by simp) (hb hby d1_27) hr)), hrun, hended, _, _, rfl, ⟨(nar .char (([45, 45, 104, 101, 108, 112] : List Int32).getD 2 0)), rfl, N0, (K575.symm ▸ ((Keep.refl h0 []).ext E571)), (by decide)⟩, (by show CHr Z EL0 s.vm s.heap T575.vm T575.heap; rw [hh, K575]; exact hCe), ⟨hend.1, hend.2.1, hend.2.2.1, hend.2.2.2.mono (by decide) (by decide)⟩⟩
theorem ef_pick3_ (m : MethodId) (x0 : Int64) (x1 : Int32) (x2 : Int32) (x3 : Int32) : entryFrame m #[(.long x0), (.int x1), (.int x2), (.int x3)] 5 = mkF m 0 #[.val (.long x0), .second, .val (.int x1), .val (.int x2), .val (.int x3)] [] := by first | (simp [entryFrame, mkF, argsToLocals, Value.category]; done) | rfl
def Q_pick3_ (Z : State) (q : Int64) (md : Int32) (lf : Int32) (zc : Int32) (fm : Value) (h0 : Heap) (n0 : Nat) (rv_ : Option Value) (rh_ : Heap) (rL_ : List Loc) : Prop := ∃ r : Int32, (rv_ = some (.int r)) ∧ (Fr n0 rL_) ∧ (Keep h0 rh_ []) ∧ (nar .char r = r ∧ ¬ r < 0 ∧ ¬ (255 : Int32) < r)
set_option maxRecDepth 65536 in
set_option maxHeartbeats 40000000 in
theorem pick3_ (l : Launch) (Z : State) (a0 : Array Value) (hw : ∀ d ∈ tables_1, d.before a0 Z = true) (ws : List Jvm.Cond) (q : Int64) (md : Int32) (lf : Int32) (zc : Int32) (fm : Value) (h0 : Heap) (n0 : Nat) (O0 : Old Z n0 h0) (hEL : EW Z a0 EL0) (P0 : Sta Z Z.heap "java/lang/String" "COMPACT_STRINGS" "Z" (.int zc)) (P1 : Sta Z Z.heap "jdk/internal/util/Preconditions" "SIOOBE_FORMATTER" "Ljava/util/function/BiFunction;" fm) (P2 : ¬ zc = 0) (P3 : fm.isRef = true) :
    MetFree l (⟨"com/example/toekit/toekit/cli/ArgumentsIsHelpPinLaw", "pick", "(JIIZ)C"⟩ : MethodName) (head1 (Jvm.Cond.code (⟨"com/example/toekit/toekit/cli/ArgumentsIsHelpPinLaw", "pick", "(JIIZ)C"⟩ : MethodName) method_3_code 5 (some .char) :: ws) ({ frames := 4, cells := 2, slots := 28, locals := 53 } : Room)) (fun a_ U_ => a_ = #[(.long q), (.int (3 : Int32)), (.int md), (.int lf)] ∧ Z.Warmed39 U_.vm ∧ U_.heap = h0 ∧ CHv Z EL0 U_.vm h0) (fun _ _ _ _ _ => True) (fun _ U_ o_ U_' => ∃ v_ L_, o_ = .returned v_ ∧ Q_pick3_ Z q md lf zc fm h0 n0 v_ U_'.heap L_ ∧ CHr Z EL0 U_.vm U_.heap U_'.vm U_'.heap ∧ ReturnedEndW U_ o_ U_' L_ ({ frames := 4, cells := 2, slots := 28, locals := 53 } : Room).cells ({ frames := 4, cells := 2, slots := 28, locals := 53 } : Room).slots) := by
  have hzc := P2
  have hfm := P3
  refine MetFree.of_bodySF (plainFor_of_name pn_83775497) hisR ?_
  intro p e s m args below meth c s₁ Bd hml0 hP0 hK
  obtain ⟨rfl, hZ, hh, hCH⟩ := hP0
  have hx := Bd.exec
  have hby := Bd.bytes
  have hml : c.maxLocals = 5 := hml0
  have hown : s.vm.findClass "com/example/toekit/toekit/cli/ArgumentsIsHelpPinLaw" = some m.cls := findClass_of_methodNamed Bd.named
  have hnm := (name_of_methodNamed Bd.named Bd.method).1
  have hS0 : s.Since s.vm 0 := (State.WarmedH.refl s).since 0
  have hk0 : 0 ≤ h0.size := Nat.zero_le _
  have C0 : CHr Z EL0 s.vm h0 s.vm h0 := CHr.refl hCH
  have X0 : Stand p l e ({ frames := 4, cells := 2, slots := 28, locals := 53 } : Room) (s.setVm s.vm) m #[(.long q), (.int (3 : Int32)), (.int md), (.int lf)] below meth c s₁ [] 0 0 := Stand.of_body Bd
  have e0 : s₁.heap = h0 := by rw [← hh, Bd.state]; rfl
  have N0 := Fr.nil n0
  obtain ⟨P, hP, R0⟩ : ∃ P : State → Prop, (∀ t_, P t_ → Steps p.tables e below (s₁.setTop (entryFrame m #[(.long q), (.int (3 : Int32)), (.int md), (.int lf)] 5)) t_) ∧ Go p e below P s₁ (mkF m 0 #[.val (.long q), .second, .val (.int (3 : Int32)), .val (.int md), .val (.int lf)] []) := ⟨_, fun _ h => h, fun t_ k_ => castTop (ef_pick3_ m q (3 : Int32) md lf) k_⟩
  have R577 : Go p e below P s₁ (mkF m 1 #[.val (.long q), .second, .val (.int (3 : Int32)), .val (.int md), .val (.int lf)] [(.int md)]) := fun t_ k_ => R0 t_ (XS.iloadN X0.here hx rfl (hb hby d1_0) rfl k_)
  have R578 : Go p e below P s₁ (mkF m 2 #[.val (.long q), .second, .val (.int (3 : Int32)), .val (.int md), .val (.int lf)] [(.int (3 : Int32)), (.int md)]) := fun t_ k_ => R577 t_ (XS.iloadN X0.here hx rfl (hb hby d1_1) rfl k_)
  have R579 : Go p e below P s₁ (mkF m 3 #[.val (.long q), .second, .val (.int (3 : Int32)), .val (.int md), .val (.int lf)] [(.int (1 : Int32)), (.int (3 : Int32)), (.int md)]) := fun t_ k_ => R578 t_ (XS.iconst X0.here hx rfl (hb hby d1_2) k_)
  have R580 : Go p e below P s₁ (mkF m 4 #[.val (.long q), .second, .val (.int (3 : Int32)), .val (.int md), .val (.int lf)] [(.int ((3 : Int32) + (1 : Int32))), (.int md)]) := fun t_ k_ => R579 t_ (XS.iadd X0.here hx rfl (hb hby d1_3) rfl k_)
  have R581 : Go p e below P s₁ (mkF m 5 #[.val (.long q), .second, .val (.int (3 : Int32)), .val (.int md), .val (.int lf)] [(.int ((md.toUInt32 >>> (((3 : Int32) + (1 : Int32)) &&& 31).toUInt32).toInt32))]) := fun t_ k_ => R580 t_ (XS.iushr X0.here hx rfl (hb hby d1_4) rfl k_)
  have R582 : Go p e below P s₁ (mkF m 6 #[.val (.long q), .second, .val (.int (3 : Int32)), .val (.int md), .val (.int lf)] [(.int (1 : Int32)), (.int ((md.toUInt32 >>> (((3 : Int32) + (1 : Int32)) &&& 31).toUInt32).toInt32))]) := fun t_ k_ => R581 t_ (XS.iconst X0.here hx rfl (hb hby d1_5) k_)
  have R583 : Go p e below P s₁ (mkF m 7 #[.val (.long q), .second, .val (.int (3 : Int32)), .val (.int md), .val (.int lf)] [(.int (((md.toUInt32 >>> (((3 : Int32) + (1 : Int32)) &&& 31).toUInt32).toInt32) &&& (1 : Int32)))]) := fun t_ k_ => R582 t_ (XS.iand X0.here hx rfl (hb hby d1_6) rfl k_)
  by_cases hc584 : (((md.toUInt32 >>> (((3 : Int32) + (1 : Int32)) &&& 31).toUInt32).toInt32) &&& (1 : Int32)) = (0 : Int32)
  · have R585 : Go p e below P s₁ (mkF m 40 #[.val (.long q), .second, .val (.int (3 : Int32)), .val (.int md), .val (.int lf)] []) := fun t_ k_ => R583 t_ (XS.ifYes X0.here hx rfl (pc0 := 7) (pc' := 40) rfl (hb hby d1_7) rfl ((if0 _ _).trans (teq hc584).1) (by decide) (by decide) k_)
    have R586 : Go p e below P s₁ (mkF m 41 #[.val (.long q), .second, .val (.int (3 : Int32)), .val (.int md), .val (.int lf)] [(.long q)]) := fun t_ k_ => R585 t_ (XS.lloadN X0.here hx rfl (hb hby d1_40) rfl k_)
    have R587 : Go p e below P s₁ (mkF m 43 #[.val (.long q), .second, .val (.int (3 : Int32)), .val (.int md), .val (.int lf)] [(.int (8 : Int32)), (.long q)]) := fun t_ k_ => R586 t_ (XS.bipush X0.here hx rfl (hb hby d1_41) k_)
    have R588 : Go p e below P s₁ (mkF m 44 #[.val (.long q), .second, .val (.int (3 : Int32)), .val (.int md), .val (.int lf)] [(.int (3 : Int32)), (.int (8 : Int32)), (.long q)]) := fun t_ k_ => R587 t_ (XS.iloadN X0.here hx rfl (hb hby d1_43) rfl k_)
    have R589 : Go p e below P s₁ (mkF m 45 #[.val (.long q), .second, .val (.int (3 : Int32)), .val (.int md), .val (.int lf)] [(.int ((8 : Int32) * (3 : Int32))), (.long q)]) := fun t_ k_ => R588 t_ (XS.imul X0.here hx rfl (hb hby d1_44) rfl k_)
    have R590 : Go p e below P s₁ (mkF m 46 #[.val (.long q), .second, .val (.int (3 : Int32)), .val (.int md), .val (.int lf)] [(.long ((q.toUInt64 >>> (((8 : Int32) * (3 : Int32)) &&& 0x3f).toInt64.toUInt64).toInt64))]) := fun t_ k_ => R589 t_ (XS.lushr X0.here hx rfl (hb hby d1_45) rfl k_)
    have R591 : Go p e below P s₁ (mkF m 49 #[.val (.long q), .second, .val (.int (3 : Int32)), .val (.int md), .val (.int lf)] [(.long (255 : Int64)), (.long ((q.toUInt64 >>> (((8 : Int32) * (3 : Int32)) &&& 0x3f).toInt64.toUInt64).toInt64))]) := fun t_ k_ => R590 t_ (X0.ldc2Long hx hown (mvT hZ (hw _ (List.mem_of_getElem? (i := 4) rfl))) (g := (mkF m 46 #[.val (.long q), .second, .val (.int (3 : Int32)), .val (.int md), .val (.int lf)] [(.long ((q.toUInt64 >>> (((8 : Int32) * (3 : Int32)) &&& 0x3f).toInt64.toUInt64).toInt64))])) rfl (hb hby d1_46) _ k_)
    have R592 : Go p e below P s₁ (mkF m 50 #[.val (.long q), .second, .val (.int (3 : Int32)), .val (.int md), .val (.int lf)] [(.long (((q.toUInt64 >>> (((8 : Int32) * (3 : Int32)) &&& 0x3f).toInt64.toUInt64).toInt64) &&& (255 : Int64)))]) := fun t_ k_ => R591 t_ (XS.land X0.here hx rfl (hb hby d1_49) rfl k_)
    have R593 : Go p e below P s₁ (mkF m 51 #[.val (.long q), .second, .val (.int (3 : Int32)), .val (.int md), .val (.int lf)] [(.int ((((q.toUInt64 >>> (((8 : Int32) * (3 : Int32)) &&& 0x3f).toInt64.toUInt64).toInt64) &&& (255 : Int64)).toInt32))]) := fun t_ k_ => R592 t_ (XS.l2i X0.here hx rfl (hb hby d1_50) rfl k_)
    have R594 : Go p e below P s₁ (mkF m 52 #[.val (.long q), .second, .val (.int (3 : Int32)), .val (.int md), .val (.int lf)] [(.int (((((q.toUInt64 >>> (((8 : Int32) * (3 : Int32)) &&& 0x3f).toInt64.toUInt64).toInt64) &&& (255 : Int64)).toInt32).toUInt32.toUInt16.toUInt32.toInt32))]) := fun t_ k_ => R593 t_ (XS.i2c X0.here hx rfl (hb hby d1_51) rfl k_)
    obtain ⟨fs, hr, hrun, hended, hend⟩ := X0.leaveW hS0 (by rw [e0]; exact hk0 : _ ≤ s₁.heap.size) (v := some (.int (nar .char (((((q.toUInt64 >>> (((8 : Int32) * (3 : Int32)) &&& 0x3f).toInt64.toUInt64).toInt64) &&& (255 : Int64)).toInt32).toUInt32.toUInt16.toUInt32.toInt32)))) (fun h => by rw [Bd.returns] at h; cases h)
    have hCe := C0.trans (CHv.at X0 hZ hEL C0.1)
    exact ⟨_, _, hP _ (R594 _ (retN X0 hx (t := .char) Bd.returns (by simp) (hb hby d1_52) hr)), hrun, hended, _, _, rfl, ⟨(nar .char (((((q.toUInt64 >>> (((8 : Int32) * (3 : Int32)) &&& 0x3f).toInt64.toUInt64).toInt64) &&& (255 : Int64)).toInt32).toUInt32.toUInt16.toUInt32.toInt32)), rfl, N0, (e0.symm ▸ (Keep.refl h0 [])), (chr255L _)⟩, (by show CHr Z EL0 s.vm s.heap s₁.vm s₁.heap; rw [hh, e0]; exact hCe), ⟨hend.1, hend.2.1, hend.2.2.1, hend.2.2.2.mono (by decide) (by decide)⟩⟩
  · have R595 : Go p e below P s₁ (mkF m 10 #[.val (.long q), .second, .val (.int (3 : Int32)), .val (.int md), .val (.int lf)] []) := fun t_ k_ => R583 t_ (XS.ifNo X0.here hx rfl (hb hby d1_7) rfl ((if0 _ _).trans (feq hc584).1) k_)
    have R596 : Go p e below P s₁ (mkF m 12 #[.val (.long q), .second, .val (.int (3 : Int32)), .val (.int md), .val (.int lf)] [(.int lf)]) := fun t_ k_ => R595 t_ (XS.iload X0.here hx rfl (hb hby d1_10) rfl k_)
    by_cases hc597 : lf = (0 : Int32)
    · have R598 : Go p e below P s₁ (mkF m 28 #[.val (.long q), .second, .val (.int (3 : Int32)), .val (.int md), .val (.int lf)] []) := fun t_ k_ => R596 t_ (XS.ifYes X0.here hx rfl (pc0 := 12) (pc' := 28) rfl (hb hby d1_12) rfl ((if0 _ _).trans (teq hc597).1) (by decide) (by decide) k_)
      have R599 : Go p e below P s₁ (mkF m 29 #[.val (.long q), .second, .val (.int (3 : Int32)), .val (.int md), .val (.int lf)] [(.int (3 : Int32))]) := fun t_ k_ => R598 t_ (XS.iloadN X0.here hx rfl (hb hby d1_28) rfl k_)
      have R600 : Go p e below P s₁ (mkF m 30 #[.val (.long q), .second, .val (.int (3 : Int32)), .val (.int md), .val (.int lf)] [(.int (2 : Int32)), (.int (3 : Int32))]) := fun t_ k_ => R599 t_ (XS.iconst X0.here hx rfl (hb hby d1_29) k_)
      have R601 : Go p e below P s₁ (mkF m 40 #[.val (.long q), .second, .val (.int (3 : Int32)), .val (.int md), .val (.int lf)] []) := fun t_ k_ => R600 t_ (XS.icmpYes X0.here hx rfl (pc0 := 30) (pc' := 40) rfl (hb hby d1_30) rfl (flt (by decide : ¬ ((3 : Int32) < (2 : Int32)))).2.1 (by decide) (by decide) k_)
      have R602 : Go p e below P s₁ (mkF m 41 #[.val (.long q), .second, .val (.int (3 : Int32)), .val (.int md), .val (.int lf)] [(.long q)]) := fun t_ k_ => R601 t_ (XS.lloadN X0.here hx rfl (hb hby d1_40) rfl k_)
      have R603 : Go p e below P s₁ (mkF m 43 #[.val (.long q), .second, .val (.int (3 : Int32)), .val (.int md), .val (.int lf)] [(.int (8 : Int32)), (.long q)]) := fun t_ k_ => R602 t_ (XS.bipush X0.here hx rfl (hb hby d1_41) k_)
      have R604 : Go p e below P s₁ (mkF m 44 #[.val (.long q), .second, .val (.int (3 : Int32)), .val (.int md), .val (.int lf)] [(.int (3 : Int32)), (.int (8 : Int32)), (.long q)]) := fun t_ k_ => R603 t_ (XS.iloadN X0.here hx rfl (hb hby d1_43) rfl k_)
      have R605 : Go p e below P s₁ (mkF m 45 #[.val (.long q), .second, .val (.int (3 : Int32)), .val (.int md), .val (.int lf)] [(.int ((8 : Int32) * (3 : Int32))), (.long q)]) := fun t_ k_ => R604 t_ (XS.imul X0.here hx rfl (hb hby d1_44) rfl k_)
      have R606 : Go p e below P s₁ (mkF m 46 #[.val (.long q), .second, .val (.int (3 : Int32)), .val (.int md), .val (.int lf)] [(.long ((q.toUInt64 >>> (((8 : Int32) * (3 : Int32)) &&& 0x3f).toInt64.toUInt64).toInt64))]) := fun t_ k_ => R605 t_ (XS.lushr X0.here hx rfl (hb hby d1_45) rfl k_)
      have R607 : Go p e below P s₁ (mkF m 49 #[.val (.long q), .second, .val (.int (3 : Int32)), .val (.int md), .val (.int lf)] [(.long (255 : Int64)), (.long ((q.toUInt64 >>> (((8 : Int32) * (3 : Int32)) &&& 0x3f).toInt64.toUInt64).toInt64))]) := fun t_ k_ => R606 t_ (X0.ldc2Long hx hown (mvT hZ (hw _ (List.mem_of_getElem? (i := 4) rfl))) (g := (mkF m 46 #[.val (.long q), .second, .val (.int (3 : Int32)), .val (.int md), .val (.int lf)] [(.long ((q.toUInt64 >>> (((8 : Int32) * (3 : Int32)) &&& 0x3f).toInt64.toUInt64).toInt64))])) rfl (hb hby d1_46) _ k_)
      have R608 : Go p e below P s₁ (mkF m 50 #[.val (.long q), .second, .val (.int (3 : Int32)), .val (.int md), .val (.int lf)] [(.long (((q.toUInt64 >>> (((8 : Int32) * (3 : Int32)) &&& 0x3f).toInt64.toUInt64).toInt64) &&& (255 : Int64)))]) := fun t_ k_ => R607 t_ (XS.land X0.here hx rfl (hb hby d1_49) rfl k_)
      have R609 : Go p e below P s₁ (mkF m 51 #[.val (.long q), .second, .val (.int (3 : Int32)), .val (.int md), .val (.int lf)] [(.int ((((q.toUInt64 >>> (((8 : Int32) * (3 : Int32)) &&& 0x3f).toInt64.toUInt64).toInt64) &&& (255 : Int64)).toInt32))]) := fun t_ k_ => R608 t_ (XS.l2i X0.here hx rfl (hb hby d1_50) rfl k_)
      have R610 : Go p e below P s₁ (mkF m 52 #[.val (.long q), .second, .val (.int (3 : Int32)), .val (.int md), .val (.int lf)] [(.int (((((q.toUInt64 >>> (((8 : Int32) * (3 : Int32)) &&& 0x3f).toInt64.toUInt64).toInt64) &&& (255 : Int64)).toInt32).toUInt32.toUInt16.toUInt32.toInt32))]) := fun t_ k_ => R609 t_ (XS.i2c X0.here hx rfl (hb hby d1_51) rfl k_)
      obtain ⟨fs, hr, hrun, hended, hend⟩ := X0.leaveW hS0 (by rw [e0]; exact hk0 : _ ≤ s₁.heap.size) (v := some (.int (nar .char (((((q.toUInt64 >>> (((8 : Int32) * (3 : Int32)) &&& 0x3f).toInt64.toUInt64).toInt64) &&& (255 : Int64)).toInt32).toUInt32.toUInt16.toUInt32.toInt32)))) (fun h => by rw [Bd.returns] at h; cases h)
      have hCe := C0.trans (CHv.at X0 hZ hEL C0.1)
      exact ⟨_, _, hP _ (R610 _ (retN X0 hx (t := .char) Bd.returns (by simp) (hb hby d1_52) hr)), hrun, hended, _, _, rfl, ⟨(nar .char (((((q.toUInt64 >>> (((8 : Int32) * (3 : Int32)) &&& 0x3f).toInt64.toUInt64).toInt64) &&& (255 : Int64)).toInt32).toUInt32.toUInt16.toUInt32.toInt32)), rfl, N0, (e0.symm ▸ (Keep.refl h0 [])), (chr255L _)⟩, (by show CHr Z EL0 s.vm s.heap s₁.vm s₁.heap; rw [hh, e0]; exact hCe), ⟨hend.1, hend.2.1, hend.2.2.1, hend.2.2.2.mono (by decide) (by decide)⟩⟩
    · have R611 : Go p e below P s₁ (mkF m 15 #[.val (.long q), .second, .val (.int (3 : Int32)), .val (.int md), .val (.int lf)] []) := fun t_ k_ => R596 t_ (XS.ifNo X0.here hx rfl (hb hby d1_12) rfl ((if0 _ _).trans (feq hc597).1) k_)
      have R612 : Go p e below P s₁ (mkF m 16 #[.val (.long q), .second, .val (.int (3 : Int32)), .val (.int md), .val (.int lf)] [(.int (3 : Int32))]) := fun t_ k_ => R611 t_ (XS.iloadN X0.here hx rfl (hb hby d1_15) rfl k_)
      have R613 : Go p e below P s₁ (mkF m 18 #[.val (.long q), .second, .val (.int (3 : Int32)), .val (.int md), .val (.int lf)] [(.int (6 : Int32)), (.int (3 : Int32))]) := fun t_ k_ => R612 t_ (XS.bipush X0.here hx rfl (hb hby d1_16) k_)
      have R614 : Go p e below P s₁ (mkF m 21 #[.val (.long q), .second, .val (.int (3 : Int32)), .val (.int md), .val (.int lf)] []) := fun t_ k_ => R613 t_ (XS.icmpNo X0.here hx rfl (hb hby d1_18) rfl (tlt (by decide : (3 : Int32) < (6 : Int32))).2.1 k_)
      obtain ⟨a615, T615, h615, k615x, t615, kb615, X615, e615, E615, hS615, hk615, hZ, hown, E1615, F1615, F2615, A1615, la615, lb615, hC615, hL615, hne615, st615⟩ := ldcCH X0 hx hZ hown (hw _ (List.mem_of_getElem? (i := 79) rfl)) (wS_of hw) e0 hS0 hk0 hEL (List.mem_of_getElem? (i := 2) rfl) C0.1 (text := "--help") (vs := ((([45, 45, 104, 101, 108, 112] : List Int32).map StrChars.lo8).map Value.int)) (z := (Int32.ofNat ([45, 45, 104, 101, 108, 112] : List Int32).length)) ⟨by decide, by first | rfl | decide +kernel⟩ (by decide) (by decide) (g := (mkF m 21 #[.val (.long q), .second, .val (.int (3 : Int32)), .val (.int md), .val (.int lf)] [])) rfl (hb hby d1_21) (n := 24) (by decide) (by decide) (by decide) (by decide)
      have O615 := O0.ext E615
      have C616 := C0.trans hC615
      have R617 : Go p e below P T615 (mkF m 23 #[.val (.long q), .second, .val (.int (3 : Int32)), .val (.int md), .val (.int lf)] [(.ref a615)]) := fun t_ k_ => R614 t_ (st615 t_ k_)
      have R618 : Go p e below P T615 (mkF m 24 #[.val (.long q), .second, .val (.int (3 : Int32)), .val (.int md), .val (.int lf)] [(.int (3 : Int32)), (.ref a615)]) := fun t_ k_ => R617 t_ (XS.iloadN X615.here hx rfl (hb hby d1_23) rfl k_)
      obtain ⟨cq619, kq619, q619a, q619b, q619c⟩ := isOf hZ e615 E1615
      obtain ⟨rv619, _, ⟨T619, L619, k619, n619⟩, -, X619, ⟨Lc619, hQ619, l619, y619, z619⟩, st619⟩ := X615.virtualBack hx (y := (⟨"java/lang/String", "charAt", "(I)C"⟩ : MethodName)) (z := (⟨"java/lang/String", "charAt", "(I)C"⟩ : MethodName)) hown (mvT hZ (hw _ (List.mem_of_getElem? (i := 48) rfl))) (mvT hZ (hw _ (List.mem_of_getElem? (i := 49) rfl))) (notFace_of_selects (args := #[]) (mvT hZ (hw _ (List.mem_of_getElem? (i := 51) rfl)))) (mvT hZ (hw _ (List.mem_of_getElem? (i := 51) rfl))) (mvT hZ (hw _ (List.mem_of_getElem? (i := 50) rfl))) (by decide) (StrChars.Road.chN (W := 0) hZ (w_chN hw) (kI := 4) (hw _ (List.mem_of_getElem? (i := 9) rfl)) E1615 F2615 F1615 A1615 (hcod (show ∀ c ∈ ([45, 45, 104, 101, 108, 112] : List Int32), ¬ c < 0 ∧ ¬ (255 : Int32) < c from by decide)) (upC (show ∀ c ∈ ([45, 45, 104, 101, 108, 112] : List Int32), ¬ c < 0 ∧ ¬ (255 : Int32) < c from by decide)) (P0.ext O615.2) hzc (P1.ext O615.2) hfm (by decide) (i := 3) (by decide) (j := (3 : Int32)) rfl (by decide) (by decide)) q619a q619c (g := (mkF m 24 #[.val (.long q), .second, .val (.int (3 : Int32)), .val (.int md), .val (.int lf)] [(.int (3 : Int32)), (.ref a615)])) rfl (by rw [hml]; rfl) (Steps.refl _) (argsL := [(.int (3 : Int32))]) (rest := []) (lenOf pd_52681278 rfl) rfl (by show 2 * 0 + _ ≤ _; exact Nat.le_of_eq rfl) (hb hby d1_24) (fun _ _ => ⟨rfl, e615, (by decide : 2 + 0 ≤ _), (by decide : 28 + 0 ≤ _)⟩)
      dsimp only [Pt.U, Pt.locs, Pt.cells, Pt.slots] at X619 l619 y619 z619 st619 hQ619
      subst l619 y619 z619
      obtain ⟨rfl, rfl, K619⟩ := hQ619
      try rw [List.append_nil] at X619
      have R620 : Go p e below P T619 (mkF m 27 #[.val (.long q), .second, .val (.int (3 : Int32)), .val (.int md), .val (.int lf)] [(.int (([45, 45, 104, 101, 108, 112] : List Int32).getD 3 0))]) := fun t_ k_ => R618 t_ (st619.trans k_)
      obtain ⟨fs, hr, hrun, hended, hend⟩ := X619.leaveW hS615 (by rw [K619]; exact hk615 : _ ≤ T619.heap.size) (v := some (.int (nar .char (([45, 45, 104, 101, 108, 112] : List Int32).getD 3 0)))) (fun h => by rw [Bd.returns] at h; cases h)
      have hCe := C616.trans (CHv.at X619 hZ hEL C616.1)
      exact ⟨_, _, hP _ (R620 _ (retN X619 hx (t := .char) Bd.returns (by simp) (hb hby d1_27) hr)), hrun, hended, _, _, rfl, ⟨(nar .char (([45, 45, 104, 101, 108, 112] : List Int32).getD 3 0)), rfl, N0, (K619.symm ▸ ((Keep.refl h0 []).ext E615)), (by decide)⟩, (by show CHr Z EL0 s.vm s.heap T619.vm T619.heap; rw [hh, K619]; exact hCe), ⟨hend.1, hend.2.1, hend.2.2.1, hend.2.2.2.mono (by decide) (by decide)⟩⟩
theorem ef_pick4_ (m : MethodId) (x0 : Int64) (x1 : Int32) (x2 : Int32) (x3 : Int32) : entryFrame m #[(.long x0), (.int x1), (.int x2), (.int x3)] 5 = mkF m 0 #[.val (.long x0), .second, .val (.int x1), .val (.int x2), .val (.int x3)] [] := by first | (simp [entryFrame, mkF, argsToLocals, Value.category]; done) | rfl
def Q_pick4_ (Z : State) (q : Int64) (md : Int32) (lf : Int32) (zc : Int32) (fm : Value) (h0 : Heap) (n0 : Nat) (rv_ : Option Value) (rh_ : Heap) (rL_ : List Loc) : Prop := ∃ r : Int32, (rv_ = some (.int r)) ∧ (Fr n0 rL_) ∧ (Keep h0 rh_ []) ∧ (nar .char r = r ∧ ¬ r < 0 ∧ ¬ (255 : Int32) < r)
set_option maxRecDepth 65536 in
set_option maxHeartbeats 40000000 in
theorem pick4_ (l : Launch) (Z : State) (a0 : Array Value) (hw : ∀ d ∈ tables_1, d.before a0 Z = true) (ws : List Jvm.Cond) (q : Int64) (md : Int32) (lf : Int32) (zc : Int32) (fm : Value) (h0 : Heap) (n0 : Nat) (O0 : Old Z n0 h0) (hEL : EW Z a0 EL0) (P0 : Sta Z Z.heap "java/lang/String" "COMPACT_STRINGS" "Z" (.int zc)) (P1 : Sta Z Z.heap "jdk/internal/util/Preconditions" "SIOOBE_FORMATTER" "Ljava/util/function/BiFunction;" fm) (P2 : ¬ zc = 0) (P3 : fm.isRef = true) :
    MetFree l (⟨"com/example/toekit/toekit/cli/ArgumentsIsHelpPinLaw", "pick", "(JIIZ)C"⟩ : MethodName) (head1 (Jvm.Cond.code (⟨"com/example/toekit/toekit/cli/ArgumentsIsHelpPinLaw", "pick", "(JIIZ)C"⟩ : MethodName) method_3_code 5 (some .char) :: ws) ({ frames := 4, cells := 2, slots := 28, locals := 53 } : Room)) (fun a_ U_ => a_ = #[(.long q), (.int (4 : Int32)), (.int md), (.int lf)] ∧ Z.Warmed39 U_.vm ∧ U_.heap = h0 ∧ CHv Z EL0 U_.vm h0) (fun _ _ _ _ _ => True) (fun _ U_ o_ U_' => ∃ v_ L_, o_ = .returned v_ ∧ Q_pick4_ Z q md lf zc fm h0 n0 v_ U_'.heap L_ ∧ CHr Z EL0 U_.vm U_.heap U_'.vm U_'.heap ∧ ReturnedEndW U_ o_ U_' L_ ({ frames := 4, cells := 2, slots := 28, locals := 53 } : Room).cells ({ frames := 4, cells := 2, slots := 28, locals := 53 } : Room).slots) := by
  have hzc := P2
  have hfm := P3
  refine MetFree.of_bodySF (plainFor_of_name pn_83775497) hisR ?_
  intro p e s m args below meth c s₁ Bd hml0 hP0 hK
  obtain ⟨rfl, hZ, hh, hCH⟩ := hP0
  have hx := Bd.exec
  have hby := Bd.bytes
  have hml : c.maxLocals = 5 := hml0
  have hown : s.vm.findClass "com/example/toekit/toekit/cli/ArgumentsIsHelpPinLaw" = some m.cls := findClass_of_methodNamed Bd.named
  have hnm := (name_of_methodNamed Bd.named Bd.method).1
  have hS0 : s.Since s.vm 0 := (State.WarmedH.refl s).since 0
  have hk0 : 0 ≤ h0.size := Nat.zero_le _
  have C0 : CHr Z EL0 s.vm h0 s.vm h0 := CHr.refl hCH
  have X0 : Stand p l e ({ frames := 4, cells := 2, slots := 28, locals := 53 } : Room) (s.setVm s.vm) m #[(.long q), (.int (4 : Int32)), (.int md), (.int lf)] below meth c s₁ [] 0 0 := Stand.of_body Bd
  have e0 : s₁.heap = h0 := by rw [← hh, Bd.state]; rfl
  have N0 := Fr.nil n0
  obtain ⟨P, hP, R0⟩ : ∃ P : State → Prop, (∀ t_, P t_ → Steps p.tables e below (s₁.setTop (entryFrame m #[(.long q), (.int (4 : Int32)), (.int md), (.int lf)] 5)) t_) ∧ Go p e below P s₁ (mkF m 0 #[.val (.long q), .second, .val (.int (4 : Int32)), .val (.int md), .val (.int lf)] []) := ⟨_, fun _ h => h, fun t_ k_ => castTop (ef_pick4_ m q (4 : Int32) md lf) k_⟩
  have R621 : Go p e below P s₁ (mkF m 1 #[.val (.long q), .second, .val (.int (4 : Int32)), .val (.int md), .val (.int lf)] [(.int md)]) := fun t_ k_ => R0 t_ (XS.iloadN X0.here hx rfl (hb hby d1_0) rfl k_)
  have R622 : Go p e below P s₁ (mkF m 2 #[.val (.long q), .second, .val (.int (4 : Int32)), .val (.int md), .val (.int lf)] [(.int (4 : Int32)), (.int md)]) := fun t_ k_ => R621 t_ (XS.iloadN X0.here hx rfl (hb hby d1_1) rfl k_)
  have R623 : Go p e below P s₁ (mkF m 3 #[.val (.long q), .second, .val (.int (4 : Int32)), .val (.int md), .val (.int lf)] [(.int (1 : Int32)), (.int (4 : Int32)), (.int md)]) := fun t_ k_ => R622 t_ (XS.iconst X0.here hx rfl (hb hby d1_2) k_)
  have R624 : Go p e below P s₁ (mkF m 4 #[.val (.long q), .second, .val (.int (4 : Int32)), .val (.int md), .val (.int lf)] [(.int ((4 : Int32) + (1 : Int32))), (.int md)]) := fun t_ k_ => R623 t_ (XS.iadd X0.here hx rfl (hb hby d1_3) rfl k_)
  have R625 : Go p e below P s₁ (mkF m 5 #[.val (.long q), .second, .val (.int (4 : Int32)), .val (.int md), .val (.int lf)] [(.int ((md.toUInt32 >>> (((4 : Int32) + (1 : Int32)) &&& 31).toUInt32).toInt32))]) := fun t_ k_ => R624 t_ (XS.iushr X0.here hx rfl (hb hby d1_4) rfl k_)
  have R626 : Go p e below P s₁ (mkF m 6 #[.val (.long q), .second, .val (.int (4 : Int32)), .val (.int md), .val (.int lf)] [(.int (1 : Int32)), (.int ((md.toUInt32 >>> (((4 : Int32) + (1 : Int32)) &&& 31).toUInt32).toInt32))]) := fun t_ k_ => R625 t_ (XS.iconst X0.here hx rfl (hb hby d1_5) k_)
  have R627 : Go p e below P s₁ (mkF m 7 #[.val (.long q), .second, .val (.int (4 : Int32)), .val (.int md), .val (.int lf)] [(.int (((md.toUInt32 >>> (((4 : Int32) + (1 : Int32)) &&& 31).toUInt32).toInt32) &&& (1 : Int32)))]) := fun t_ k_ => R626 t_ (XS.iand X0.here hx rfl (hb hby d1_6) rfl k_)
  by_cases hc628 : (((md.toUInt32 >>> (((4 : Int32) + (1 : Int32)) &&& 31).toUInt32).toInt32) &&& (1 : Int32)) = (0 : Int32)
  · have R629 : Go p e below P s₁ (mkF m 40 #[.val (.long q), .second, .val (.int (4 : Int32)), .val (.int md), .val (.int lf)] []) := fun t_ k_ => R627 t_ (XS.ifYes X0.here hx rfl (pc0 := 7) (pc' := 40) rfl (hb hby d1_7) rfl ((if0 _ _).trans (teq hc628).1) (by decide) (by decide) k_)
    have R630 : Go p e below P s₁ (mkF m 41 #[.val (.long q), .second, .val (.int (4 : Int32)), .val (.int md), .val (.int lf)] [(.long q)]) := fun t_ k_ => R629 t_ (XS.lloadN X0.here hx rfl (hb hby d1_40) rfl k_)
    have R631 : Go p e below P s₁ (mkF m 43 #[.val (.long q), .second, .val (.int (4 : Int32)), .val (.int md), .val (.int lf)] [(.int (8 : Int32)), (.long q)]) := fun t_ k_ => R630 t_ (XS.bipush X0.here hx rfl (hb hby d1_41) k_)
    have R632 : Go p e below P s₁ (mkF m 44 #[.val (.long q), .second, .val (.int (4 : Int32)), .val (.int md), .val (.int lf)] [(.int (4 : Int32)), (.int (8 : Int32)), (.long q)]) := fun t_ k_ => R631 t_ (XS.iloadN X0.here hx rfl (hb hby d1_43) rfl k_)
    have R633 : Go p e below P s₁ (mkF m 45 #[.val (.long q), .second, .val (.int (4 : Int32)), .val (.int md), .val (.int lf)] [(.int ((8 : Int32) * (4 : Int32))), (.long q)]) := fun t_ k_ => R632 t_ (XS.imul X0.here hx rfl (hb hby d1_44) rfl k_)
    have R634 : Go p e below P s₁ (mkF m 46 #[.val (.long q), .second, .val (.int (4 : Int32)), .val (.int md), .val (.int lf)] [(.long ((q.toUInt64 >>> (((8 : Int32) * (4 : Int32)) &&& 0x3f).toInt64.toUInt64).toInt64))]) := fun t_ k_ => R633 t_ (XS.lushr X0.here hx rfl (hb hby d1_45) rfl k_)
    have R635 : Go p e below P s₁ (mkF m 49 #[.val (.long q), .second, .val (.int (4 : Int32)), .val (.int md), .val (.int lf)] [(.long (255 : Int64)), (.long ((q.toUInt64 >>> (((8 : Int32) * (4 : Int32)) &&& 0x3f).toInt64.toUInt64).toInt64))]) := fun t_ k_ => R634 t_ (X0.ldc2Long hx hown (mvT hZ (hw _ (List.mem_of_getElem? (i := 4) rfl))) (g := (mkF m 46 #[.val (.long q), .second, .val (.int (4 : Int32)), .val (.int md), .val (.int lf)] [(.long ((q.toUInt64 >>> (((8 : Int32) * (4 : Int32)) &&& 0x3f).toInt64.toUInt64).toInt64))])) rfl (hb hby d1_46) _ k_)
    have R636 : Go p e below P s₁ (mkF m 50 #[.val (.long q), .second, .val (.int (4 : Int32)), .val (.int md), .val (.int lf)] [(.long (((q.toUInt64 >>> (((8 : Int32) * (4 : Int32)) &&& 0x3f).toInt64.toUInt64).toInt64) &&& (255 : Int64)))]) := fun t_ k_ => R635 t_ (XS.land X0.here hx rfl (hb hby d1_49) rfl k_)
    have R637 : Go p e below P s₁ (mkF m 51 #[.val (.long q), .second, .val (.int (4 : Int32)), .val (.int md), .val (.int lf)] [(.int ((((q.toUInt64 >>> (((8 : Int32) * (4 : Int32)) &&& 0x3f).toInt64.toUInt64).toInt64) &&& (255 : Int64)).toInt32))]) := fun t_ k_ => R636 t_ (XS.l2i X0.here hx rfl (hb hby d1_50) rfl k_)
    have R638 : Go p e below P s₁ (mkF m 52 #[.val (.long q), .second, .val (.int (4 : Int32)), .val (.int md), .val (.int lf)] [(.int (((((q.toUInt64 >>> (((8 : Int32) * (4 : Int32)) &&& 0x3f).toInt64.toUInt64).toInt64) &&& (255 : Int64)).toInt32).toUInt32.toUInt16.toUInt32.toInt32))]) := fun t_ k_ => R637 t_ (XS.i2c X0.here hx rfl (hb hby d1_51) rfl k_)
    obtain ⟨fs, hr, hrun, hended, hend⟩ := X0.leaveW hS0 (by rw [e0]; exact hk0 : _ ≤ s₁.heap.size) (v := some (.int (nar .char (((((q.toUInt64 >>> (((8 : Int32) * (4 : Int32)) &&& 0x3f).toInt64.toUInt64).toInt64) &&& (255 : Int64)).toInt32).toUInt32.toUInt16.toUInt32.toInt32)))) (fun h => by rw [Bd.returns] at h; cases h)
    have hCe := C0.trans (CHv.at X0 hZ hEL C0.1)
    exact ⟨_, _, hP _ (R638 _ (retN X0 hx (t := .char) Bd.returns (by simp) (hb hby d1_52) hr)), hrun, hended, _, _, rfl, ⟨(nar .char (((((q.toUInt64 >>> (((8 : Int32) * (4 : Int32)) &&& 0x3f).toInt64.toUInt64).toInt64) &&& (255 : Int64)).toInt32).toUInt32.toUInt16.toUInt32.toInt32)), rfl, N0, (e0.symm ▸ (Keep.refl h0 [])), (chr255L _)⟩, (by show CHr Z EL0 s.vm s.heap s₁.vm s₁.heap; rw [hh, e0]; exact hCe), ⟨hend.1, hend.2.1, hend.2.2.1, hend.2.2.2.mono (by decide) (by decide)⟩⟩
  · have R639 : Go p e below P s₁ (mkF m 10 #[.val (.long q), .second, .val (.int (4 : Int32)), .val (.int md), .val (.int lf)] []) := fun t_ k_ => R627 t_ (XS.ifNo X0.here hx rfl (hb hby d1_7) rfl ((if0 _ _).trans (feq hc628).1) k_)
    have R640 : Go p e below P s₁ (mkF m 12 #[.val (.long q), .second, .val (.int (4 : Int32)), .val (.int md), .val (.int lf)] [(.int lf)]) := fun t_ k_ => R639 t_ (XS.iload X0.here hx rfl (hb hby d1_10) rfl k_)
    by_cases hc641 : lf = (0 : Int32)
    · have R642 : Go p e below P s₁ (mkF m 28 #[.val (.long q), .second, .val (.int (4 : Int32)), .val (.int md), .val (.int lf)] []) := fun t_ k_ => R640 t_ (XS.ifYes X0.here hx rfl (pc0 := 12) (pc' := 28) rfl (hb hby d1_12) rfl ((if0 _ _).trans (teq hc641).1) (by decide) (by decide) k_)
      have R643 : Go p e below P s₁ (mkF m 29 #[.val (.long q), .second, .val (.int (4 : Int32)), .val (.int md), .val (.int lf)] [(.int (4 : Int32))]) := fun t_ k_ => R642 t_ (XS.iloadN X0.here hx rfl (hb hby d1_28) rfl k_)
      have R644 : Go p e below P s₁ (mkF m 30 #[.val (.long q), .second, .val (.int (4 : Int32)), .val (.int md), .val (.int lf)] [(.int (2 : Int32)), (.int (4 : Int32))]) := fun t_ k_ => R643 t_ (XS.iconst X0.here hx rfl (hb hby d1_29) k_)
      have R645 : Go p e below P s₁ (mkF m 40 #[.val (.long q), .second, .val (.int (4 : Int32)), .val (.int md), .val (.int lf)] []) := fun t_ k_ => R644 t_ (XS.icmpYes X0.here hx rfl (pc0 := 30) (pc' := 40) rfl (hb hby d1_30) rfl (flt (by decide : ¬ ((4 : Int32) < (2 : Int32)))).2.1 (by decide) (by decide) k_)
      have R646 : Go p e below P s₁ (mkF m 41 #[.val (.long q), .second, .val (.int (4 : Int32)), .val (.int md), .val (.int lf)] [(.long q)]) := fun t_ k_ => R645 t_ (XS.lloadN X0.here hx rfl (hb hby d1_40) rfl k_)
      have R647 : Go p e below P s₁ (mkF m 43 #[.val (.long q), .second, .val (.int (4 : Int32)), .val (.int md), .val (.int lf)] [(.int (8 : Int32)), (.long q)]) := fun t_ k_ => R646 t_ (XS.bipush X0.here hx rfl (hb hby d1_41) k_)
      have R648 : Go p e below P s₁ (mkF m 44 #[.val (.long q), .second, .val (.int (4 : Int32)), .val (.int md), .val (.int lf)] [(.int (4 : Int32)), (.int (8 : Int32)), (.long q)]) := fun t_ k_ => R647 t_ (XS.iloadN X0.here hx rfl (hb hby d1_43) rfl k_)
      have R649 : Go p e below P s₁ (mkF m 45 #[.val (.long q), .second, .val (.int (4 : Int32)), .val (.int md), .val (.int lf)] [(.int ((8 : Int32) * (4 : Int32))), (.long q)]) := fun t_ k_ => R648 t_ (XS.imul X0.here hx rfl (hb hby d1_44) rfl k_)
      have R650 : Go p e below P s₁ (mkF m 46 #[.val (.long q), .second, .val (.int (4 : Int32)), .val (.int md), .val (.int lf)] [(.long ((q.toUInt64 >>> (((8 : Int32) * (4 : Int32)) &&& 0x3f).toInt64.toUInt64).toInt64))]) := fun t_ k_ => R649 t_ (XS.lushr X0.here hx rfl (hb hby d1_45) rfl k_)
      have R651 : Go p e below P s₁ (mkF m 49 #[.val (.long q), .second, .val (.int (4 : Int32)), .val (.int md), .val (.int lf)] [(.long (255 : Int64)), (.long ((q.toUInt64 >>> (((8 : Int32) * (4 : Int32)) &&& 0x3f).toInt64.toUInt64).toInt64))]) := fun t_ k_ => R650 t_ (X0.ldc2Long hx hown (mvT hZ (hw _ (List.mem_of_getElem? (i := 4) rfl))) (g := (mkF m 46 #[.val (.long q), .second, .val (.int (4 : Int32)), .val (.int md), .val (.int lf)] [(.long ((q.toUInt64 >>> (((8 : Int32) * (4 : Int32)) &&& 0x3f).toInt64.toUInt64).toInt64))])) rfl (hb hby d1_46) _ k_)
      have R652 : Go p e below P s₁ (mkF m 50 #[.val (.long q), .second, .val (.int (4 : Int32)), .val (.int md), .val (.int lf)] [(.long (((q.toUInt64 >>> (((8 : Int32) * (4 : Int32)) &&& 0x3f).toInt64.toUInt64).toInt64) &&& (255 : Int64)))]) := fun t_ k_ => R651 t_ (XS.land X0.here hx rfl (hb hby d1_49) rfl k_)
      have R653 : Go p e below P s₁ (mkF m 51 #[.val (.long q), .second, .val (.int (4 : Int32)), .val (.int md), .val (.int lf)] [(.int ((((q.toUInt64 >>> (((8 : Int32) * (4 : Int32)) &&& 0x3f).toInt64.toUInt64).toInt64) &&& (255 : Int64)).toInt32))]) := fun t_ k_ => R652 t_ (XS.l2i X0.here hx rfl (hb hby d1_50) rfl k_)
      have R654 : Go p e below P s₁ (mkF m 52 #[.val (.long q), .second, .val (.int (4 : Int32)), .val (.int md), .val (.int lf)] [(.int (((((q.toUInt64 >>> (((8 : Int32) * (4 : Int32)) &&& 0x3f).toInt64.toUInt64).toInt64) &&& (255 : Int64)).toInt32).toUInt32.toUInt16.toUInt32.toInt32))]) := fun t_ k_ => R653 t_ (XS.i2c X0.here hx rfl (hb hby d1_51) rfl k_)
      obtain ⟨fs, hr, hrun, hended, hend⟩ := X0.leaveW hS0 (by rw [e0]; exact hk0 : _ ≤ s₁.heap.size) (v := some (.int (nar .char (((((q.toUInt64 >>> (((8 : Int32) * (4 : Int32)) &&& 0x3f).toInt64.toUInt64).toInt64) &&& (255 : Int64)).toInt32).toUInt32.toUInt16.toUInt32.toInt32)))) (fun h => by rw [Bd.returns] at h; cases h)
      have hCe := C0.trans (CHv.at X0 hZ hEL C0.1)
      exact ⟨_, _, hP _ (R654 _ (retN X0 hx (t := .char) Bd.returns (by simp) (hb hby d1_52) hr)), hrun, hended, _, _, rfl, ⟨(nar .char (((((q.toUInt64 >>> (((8 : Int32) * (4 : Int32)) &&& 0x3f).toInt64.toUInt64).toInt64) &&& (255 : Int64)).toInt32).toUInt32.toUInt16.toUInt32.toInt32)), rfl, N0, (e0.symm ▸ (Keep.refl h0 [])), (chr255L _)⟩, (by show CHr Z EL0 s.vm s.heap s₁.vm s₁.heap; rw [hh, e0]; exact hCe), ⟨hend.1, hend.2.1, hend.2.2.1, hend.2.2.2.mono (by decide) (by decide)⟩⟩
    · have R655 : Go p e below P s₁ (mkF m 15 #[.val (.long q), .second, .val (.int (4 : Int32)), .val (.int md), .val (.int lf)] []) := fun t_ k_ => R640 t_ (XS.ifNo X0.here hx rfl (hb hby d1_12) rfl ((if0 _ _).trans (feq hc641).1) k_)
      have R656 : Go p e below P s₁ (mkF m 16 #[.val (.long q), .second, .val (.int (4 : Int32)), .val (.int md), .val (.int lf)] [(.int (4 : Int32))]) := fun t_ k_ => R655 t_ (XS.iloadN X0.here hx rfl (hb hby d1_15) rfl k_)
      have R657 : Go p e below P s₁ (mkF m 18 #[.val (.long q), .second, .val (.int (4 : Int32)), .val (.int md), .val (.int lf)] [(.int (6 : Int32)), (.int (4 : Int32))]) := fun t_ k_ => R656 t_ (XS.bipush X0.here hx rfl (hb hby d1_16) k_)
      have R658 : Go p e below P s₁ (mkF m 21 #[.val (.long q), .second, .val (.int (4 : Int32)), .val (.int md), .val (.int lf)] []) := fun t_ k_ => R657 t_ (XS.icmpNo X0.here hx rfl (hb hby d1_18) rfl (tlt (by decide : (4 : Int32) < (6 : Int32))).2.1 k_)
      obtain ⟨a659, T659, h659, k659x, t659, kb659, X659, e659, E659, hS659, hk659, hZ, hown, E1659, F1659, F2659, A1659, la659, lb659, hC659, hL659, hne659, st659⟩ := ldcCH X0 hx hZ hown (hw _ (List.mem_of_getElem? (i := 79) rfl)) (wS_of hw) e0 hS0 hk0 hEL (List.mem_of_getElem? (i := 2) rfl) C0.1 (text := "--help") (vs := ((([45, 45, 104, 101, 108, 112] : List Int32).map StrChars.lo8).map Value.int)) (z := (Int32.ofNat ([45, 45, 104, 101, 108, 112] : List Int32).length)) ⟨by decide, by first | rfl | decide +kernel⟩ (by decide) (by decide) (g := (mkF m 21 #[.val (.long q), .second, .val (.int (4 : Int32)), .val (.int md), .val (.int lf)] [])) rfl (hb hby d1_21) (n := 24) (by decide) (by decide) (by decide) (by decide)
      have O659 := O0.ext E659
      have C660 := C0.trans hC659
      have R661 : Go p e below P T659 (mkF m 23 #[.val (.long q), .second, .val (.int (4 : Int32)), .val (.int md), .val (.int lf)] [(.ref a659)]) := fun t_ k_ => R658 t_ (st659 t_ k_)
      have R662 : Go p e below P T659 (mkF m 24 #[.val (.long q), .second, .val (.int (4 : Int32)), .val (.int md), .val (.int lf)] [(.int (4 : Int32)), (.ref a659)]) := fun t_ k_ => R661 t_ (XS.iloadN X659.here hx rfl (hb hby d1_23) rfl k_)
      obtain ⟨cq663, kq663, q663a, q663b, q663c⟩ := isOf hZ e659 E1659
      obtain ⟨rv663, _, ⟨T663, L663, k663, n663⟩, -, X663, ⟨Lc663, hQ663, l663, y663, z663⟩, st663⟩ := X659.virtualBack hx (y := (⟨"java/lang/String", "charAt", "(I)C"⟩ : MethodName)) (z := (⟨"java/lang/String", "charAt", "(I)C"⟩ : MethodName)) hown (mvT hZ (hw _ (List.mem_of_getElem? (i := 48) rfl))) (mvT hZ (hw _ (List.mem_of_getElem? (i := 49) rfl))) (notFace_of_selects (args := #[]) (mvT hZ (hw _ (List.mem_of_getElem? (i := 51) rfl)))) (mvT hZ (hw _ (List.mem_of_getElem? (i := 51) rfl))) (mvT hZ (hw _ (List.mem_of_getElem? (i := 50) rfl))) (by decide) (StrChars.Road.chN (W := 0) hZ (w_chN hw) (kI := 4) (hw _ (List.mem_of_getElem? (i := 9) rfl)) E1659 F2659 F1659 A1659 (hcod (show ∀ c ∈ ([45, 45, 104, 101, 108, 112] : List Int32), ¬ c < 0 ∧ ¬ (255 : Int32) < c from by decide)) (upC (show ∀ c ∈ ([45, 45, 104, 101, 108, 112] : List Int32), ¬ c < 0 ∧ ¬ (255 : Int32) < c from by decide)) (P0.ext O659.2) hzc (P1.ext O659.2) hfm (by decide) (i := 4) (by decide) (j := (4 : Int32)) rfl (by decide) (by decide)) q663a q663c (g := (mkF m 24 #[.val (.long q), .second, .val (.int (4 : Int32)), .val (.int md), .val (.int lf)] [(.int (4 : Int32)), (.ref a659)])) rfl (by rw [hml]; rfl) (Steps.refl _) (argsL := [(.int (4 : Int32))]) (rest := []) (lenOf pd_52681278 rfl) rfl (by show 2 * 0 + _ ≤ _; exact Nat.le_of_eq rfl) (hb hby d1_24) (fun _ _ => ⟨rfl, e659, (by decide : 2 + 0 ≤ _), (by decide : 28 + 0 ≤ _)⟩)
      dsimp only [Pt.U, Pt.locs, Pt.cells, Pt.slots] at X663 l663 y663 z663 st663 hQ663
      subst l663 y663 z663
      obtain ⟨rfl, rfl, K663⟩ := hQ663
      try rw [List.append_nil] at X663
      have R664 : Go p e below P T663 (mkF m 27 #[.val (.long q), .second, .val (.int (4 : Int32)), .val (.int md), .val (.int lf)] [(.int (([45, 45, 104, 101, 108, 112] : List Int32).getD 4 0))]) := fun t_ k_ => R662 t_ (st663.trans k_)
      obtain ⟨fs, hr, hrun, hended, hend⟩ := X663.leaveW hS659 (by rw [K663]; exact hk659 : _ ≤ T663.heap.size) (v := some (.int (nar .char (([45, 45, 104, 101, 108, 112] : List Int32).getD 4 0)))) (fun h => by rw [Bd.returns] at h; cases h)
      have hCe := C660.trans (CHv.at X663 hZ hEL C660.1)
      exact ⟨_, _, hP _ (R664 _ (retN X663 hx (t := .char) Bd.returns (by simp) (hb hby d1_27) hr)), hrun, hended, _, _, rfl, ⟨(nar .char (([45, 45, 104, 101, 108, 112] : List Int32).getD 4 0)), rfl, N0, (K663.symm ▸ ((Keep.refl h0 []).ext E659)), (by decide)⟩, (by show CHr Z EL0 s.vm s.heap T663.vm T663.heap; rw [hh, K663]; exact hCe), ⟨hend.1, hend.2.1, hend.2.2.1, hend.2.2.2.mono (by decide) (by decide)⟩⟩
theorem ef_pick5_ (m : MethodId) (x0 : Int64) (x1 : Int32) (x2 : Int32) (x3 : Int32) : entryFrame m #[(.long x0), (.int x1), (.int x2), (.int x3)] 5 = mkF m 0 #[.val (.long x0), .second, .val (.int x1), .val (.int x2), .val (.int x3)] [] := by first | (simp [entryFrame, mkF, argsToLocals, Value.category]; done) | rfl
def Q_pick5_ (Z : State) (q : Int64) (md : Int32) (lf : Int32) (zc : Int32) (fm : Value) (h0 : Heap) (n0 : Nat) (rv_ : Option Value) (rh_ : Heap) (rL_ : List Loc) : Prop := ∃ r : Int32, (rv_ = some (.int r)) ∧ (Fr n0 rL_) ∧ (Keep h0 rh_ []) ∧ (nar .char r = r ∧ ¬ r < 0 ∧ ¬ (255 : Int32) < r)
set_option maxRecDepth 65536 in
set_option maxHeartbeats 40000000 in
theorem pick5_ (l : Launch) (Z : State) (a0 : Array Value) (hw : ∀ d ∈ tables_1, d.before a0 Z = true) (ws : List Jvm.Cond) (q : Int64) (md : Int32) (lf : Int32) (zc : Int32) (fm : Value) (h0 : Heap) (n0 : Nat) (O0 : Old Z n0 h0) (hEL : EW Z a0 EL0) (P0 : Sta Z Z.heap "java/lang/String" "COMPACT_STRINGS" "Z" (.int zc)) (P1 : Sta Z Z.heap "jdk/internal/util/Preconditions" "SIOOBE_FORMATTER" "Ljava/util/function/BiFunction;" fm) (P2 : ¬ zc = 0) (P3 : fm.isRef = true) :
    MetFree l (⟨"com/example/toekit/toekit/cli/ArgumentsIsHelpPinLaw", "pick", "(JIIZ)C"⟩ : MethodName) (head1 (Jvm.Cond.code (⟨"com/example/toekit/toekit/cli/ArgumentsIsHelpPinLaw", "pick", "(JIIZ)C"⟩ : MethodName) method_3_code 5 (some .char) :: ws) ({ frames := 4, cells := 2, slots := 28, locals := 53 } : Room)) (fun a_ U_ => a_ = #[(.long q), (.int (5 : Int32)), (.int md), (.int lf)] ∧ Z.Warmed39 U_.vm ∧ U_.heap = h0 ∧ CHv Z EL0 U_.vm h0) (fun _ _ _ _ _ => True) (fun _ U_ o_ U_' => ∃ v_ L_, o_ = .returned v_ ∧ Q_pick5_ Z q md lf zc fm h0 n0 v_ U_'.heap L_ ∧ CHr Z EL0 U_.vm U_.heap U_'.vm U_'.heap ∧ ReturnedEndW U_ o_ U_' L_ ({ frames := 4, cells := 2, slots := 28, locals := 53 } : Room).cells ({ frames := 4, cells := 2, slots := 28, locals := 53 } : Room).slots) := by
  have hzc := P2
  have hfm := P3
  refine MetFree.of_bodySF (plainFor_of_name pn_83775497) hisR ?_
  intro p e s m args below meth c s₁ Bd hml0 hP0 hK
  obtain ⟨rfl, hZ, hh, hCH⟩ := hP0
  have hx := Bd.exec
  have hby := Bd.bytes
  have hml : c.maxLocals = 5 := hml0
  have hown : s.vm.findClass "com/example/toekit/toekit/cli/ArgumentsIsHelpPinLaw" = some m.cls := findClass_of_methodNamed Bd.named
  have hnm := (name_of_methodNamed Bd.named Bd.method).1
  have hS0 : s.Since s.vm 0 := (State.WarmedH.refl s).since 0
  have hk0 : 0 ≤ h0.size := Nat.zero_le _
  have C0 : CHr Z EL0 s.vm h0 s.vm h0 := CHr.refl hCH
  have X0 : Stand p l e ({ frames := 4, cells := 2, slots := 28, locals := 53 } : Room) (s.setVm s.vm) m #[(.long q), (.int (5 : Int32)), (.int md), (.int lf)] below meth c s₁ [] 0 0 := Stand.of_body Bd
  have e0 : s₁.heap = h0 := by rw [← hh, Bd.state]; rfl
  have N0 := Fr.nil n0
  obtain ⟨P, hP, R0⟩ : ∃ P : State → Prop, (∀ t_, P t_ → Steps p.tables e below (s₁.setTop (entryFrame m #[(.long q), (.int (5 : Int32)), (.int md), (.int lf)] 5)) t_) ∧ Go p e below P s₁ (mkF m 0 #[.val (.long q), .second, .val (.int (5 : Int32)), .val (.int md), .val (.int lf)] []) := ⟨_, fun _ h => h, fun t_ k_ => castTop (ef_pick5_ m q (5 : Int32) md lf) k_⟩
  have R665 : Go p e below P s₁ (mkF m 1 #[.val (.long q), .second, .val (.int (5 : Int32)), .val (.int md), .val (.int lf)] [(.int md)]) := fun t_ k_ => R0 t_ (XS.iloadN X0.here hx rfl (hb hby d1_0) rfl k_)
  have R666 : Go p e below P s₁ (mkF m 2 #[.val (.long q), .second, .val (.int (5 : Int32)), .val (.int md), .val (.int lf)] [(.int (5 : Int32)), (.int md)]) := fun t_ k_ => R665 t_ (XS.iloadN X0.here hx rfl (hb hby d1_1) rfl k_)
  have R667 : Go p e below P s₁ (mkF m 3 #[.val (.long q), .second, .val (.int (5 : Int32)), .val (.int md), .val (.int lf)] [(.int (1 : Int32)), (.int (5 : Int32)), (.int md)]) := fun t_ k_ => R666 t_ (XS.iconst X0.here hx rfl (hb hby d1_2) k_)
  have R668 : Go p e below P s₁ (mkF m 4 #[.val (.long q), .second, .val (.int (5 : Int32)), .val (.int md), .val (.int lf)] [(.int ((5 : Int32) + (1 : Int32))), (.int md)]) := fun t_ k_ => R667 t_ (XS.iadd X0.here hx rfl (hb hby d1_3) rfl k_)
  have R669 : Go p e below P s₁ (mkF m 5 #[.val (.long q), .second, .val (.int (5 : Int32)), .val (.int md), .val (.int lf)] [(.int ((md.toUInt32 >>> (((5 : Int32) + (1 : Int32)) &&& 31).toUInt32).toInt32))]) := fun t_ k_ => R668 t_ (XS.iushr X0.here hx rfl (hb hby d1_4) rfl k_)
  have R670 : Go p e below P s₁ (mkF m 6 #[.val (.long q), .second, .val (.int (5 : Int32)), .val (.int md), .val (.int lf)] [(.int (1 : Int32)), (.int ((md.toUInt32 >>> (((5 : Int32) + (1 : Int32)) &&& 31).toUInt32).toInt32))]) := fun t_ k_ => R669 t_ (XS.iconst X0.here hx rfl (hb hby d1_5) k_)
  have R671 : Go p e below P s₁ (mkF m 7 #[.val (.long q), .second, .val (.int (5 : Int32)), .val (.int md), .val (.int lf)] [(.int (((md.toUInt32 >>> (((5 : Int32) + (1 : Int32)) &&& 31).toUInt32).toInt32) &&& (1 : Int32)))]) := fun t_ k_ => R670 t_ (XS.iand X0.here hx rfl (hb hby d1_6) rfl k_)
  by_cases hc672 : (((md.toUInt32 >>> (((5 : Int32) + (1 : Int32)) &&& 31).toUInt32).toInt32) &&& (1 : Int32)) = (0 : Int32)
  · have R673 : Go p e below P s₁ (mkF m 40 #[.val (.long q), .second, .val (.int (5 : Int32)), .val (.int md), .val (.int lf)] []) := fun t_ k_ => R671 t_ (XS.ifYes X0.here hx rfl (pc0 := 7) (pc' := 40) rfl (hb hby d1_7) rfl ((if0 _ _).trans (teq hc672).1) (by decide) (by decide) k_)
    have R674 : Go p e below P s₁ (mkF m 41 #[.val (.long q), .second, .val (.int (5 : Int32)), .val (.int md), .val (.int lf)] [(.long q)]) := fun t_ k_ => R673 t_ (XS.lloadN X0.here hx rfl (hb hby d1_40) rfl k_)
    have R675 : Go p e below P s₁ (mkF m 43 #[.val (.long q), .second, .val (.int (5 : Int32)), .val (.int md), .val (.int lf)] [(.int (8 : Int32)), (.long q)]) := fun t_ k_ => R674 t_ (XS.bipush X0.here hx rfl (hb hby d1_41) k_)
    have R676 : Go p e below P s₁ (mkF m 44 #[.val (.long q), .second, .val (.int (5 : Int32)), .val (.int md), .val (.int lf)] [(.int (5 : Int32)), (.int (8 : Int32)), (.long q)]) := fun t_ k_ => R675 t_ (XS.iloadN X0.here hx rfl (hb hby d1_43) rfl k_)
    have R677 : Go p e below P s₁ (mkF m 45 #[.val (.long q), .second, .val (.int (5 : Int32)), .val (.int md), .val (.int lf)] [(.int ((8 : Int32) * (5 : Int32))), (.long q)]) := fun t_ k_ => R676 t_ (XS.imul X0.here hx rfl (hb hby d1_44) rfl k_)
    have R678 : Go p e below P s₁ (mkF m 46 #[.val (.long q), .second, .val (.int (5 : Int32)), .val (.int md), .val (.int lf)] [(.long ((q.toUInt64 >>> (((8 : Int32) * (5 : Int32)) &&& 0x3f).toInt64.toUInt64).toInt64))]) := fun t_ k_ => R677 t_ (XS.lushr X0.here hx rfl (hb hby d1_45) rfl k_)
    have R679 : Go p e below P s₁ (mkF m 49 #[.val (.long q), .second, .val (.int (5 : Int32)), .val (.int md), .val (.int lf)] [(.long (255 : Int64)), (.long ((q.toUInt64 >>> (((8 : Int32) * (5 : Int32)) &&& 0x3f).toInt64.toUInt64).toInt64))]) := fun t_ k_ => R678 t_ (X0.ldc2Long hx hown (mvT hZ (hw _ (List.mem_of_getElem? (i := 4) rfl))) (g := (mkF m 46 #[.val (.long q), .second, .val (.int (5 : Int32)), .val (.int md), .val (.int lf)] [(.long ((q.toUInt64 >>> (((8 : Int32) * (5 : Int32)) &&& 0x3f).toInt64.toUInt64).toInt64))])) rfl (hb hby d1_46) _ k_)
    have R680 : Go p e below P s₁ (mkF m 50 #[.val (.long q), .second, .val (.int (5 : Int32)), .val (.int md), .val (.int lf)] [(.long (((q.toUInt64 >>> (((8 : Int32) * (5 : Int32)) &&& 0x3f).toInt64.toUInt64).toInt64) &&& (255 : Int64)))]) := fun t_ k_ => R679 t_ (XS.land X0.here hx rfl (hb hby d1_49) rfl k_)
    have R681 : Go p e below P s₁ (mkF m 51 #[.val (.long q), .second, .val (.int (5 : Int32)), .val (.int md), .val (.int lf)] [(.int ((((q.toUInt64 >>> (((8 : Int32) * (5 : Int32)) &&& 0x3f).toInt64.toUInt64).toInt64) &&& (255 : Int64)).toInt32))]) := fun t_ k_ => R680 t_ (XS.l2i X0.here hx rfl (hb hby d1_50) rfl k_)
    have R682 : Go p e below P s₁ (mkF m 52 #[.val (.long q), .second, .val (.int (5 : Int32)), .val (.int md), .val (.int lf)] [(.int (((((q.toUInt64 >>> (((8 : Int32) * (5 : Int32)) &&& 0x3f).toInt64.toUInt64).toInt64) &&& (255 : Int64)).toInt32).toUInt32.toUInt16.toUInt32.toInt32))]) := fun t_ k_ => R681 t_ (XS.i2c X0.here hx rfl (hb hby d1_51) rfl k_)
    obtain ⟨fs, hr, hrun, hended, hend⟩ := X0.leaveW hS0 (by rw [e0]; exact hk0 : _ ≤ s₁.heap.size) (v := some (.int (nar .char (((((q.toUInt64 >>> (((8 : Int32) * (5 : Int32)) &&& 0x3f).toInt64.toUInt64).toInt64) &&& (255 : Int64)).toInt32).toUInt32.toUInt16.toUInt32.toInt32)))) (fun h => by rw [Bd.returns] at h; cases h)
    have hCe := C0.trans (CHv.at X0 hZ hEL C0.1)
    exact ⟨_, _, hP _ (R682 _ (retN X0 hx (t := .char) Bd.returns (by simp) (hb hby d1_52) hr)), hrun, hended, _, _, rfl, ⟨(nar .char (((((q.toUInt64 >>> (((8 : Int32) * (5 : Int32)) &&& 0x3f).toInt64.toUInt64).toInt64) &&& (255 : Int64)).toInt32).toUInt32.toUInt16.toUInt32.toInt32)), rfl, N0, (e0.symm ▸ (Keep.refl h0 [])), (chr255L _)⟩, (by show CHr Z EL0 s.vm s.heap s₁.vm s₁.heap; rw [hh, e0]; exact hCe), ⟨hend.1, hend.2.1, hend.2.2.1, hend.2.2.2.mono (by decide) (by decide)⟩⟩
  · have R683 : Go p e below P s₁ (mkF m 10 #[.val (.long q), .second, .val (.int (5 : Int32)), .val (.int md), .val (.int lf)] []) := fun t_ k_ => R671 t_ (XS.ifNo X0.here hx rfl (hb hby d1_7) rfl ((if0 _ _).trans (feq hc672).1) k_)
    have R684 : Go p e below P s₁ (mkF m 12 #[.val (.long q), .second, .val (.int (5 : Int32)), .val (.int md), .val (.int lf)] [(.int lf)]) := fun t_ k_ => R683 t_ (XS.iload X0.here hx rfl (hb hby d1_10) rfl k_)
    by_cases hc685 : lf = (0 : Int32)
    · have R686 : Go p e below P s₁ (mkF m 28 #[.val (.long q), .second, .val (.int (5 : Int32)), .val (.int md), .val (.int lf)] []) := fun t_ k_ => R684 t_ (XS.ifYes X0.here hx rfl (pc0 := 12) (pc' := 28) rfl (hb hby d1_12) rfl ((if0 _ _).trans (teq hc685).1) (by decide) (by decide) k_)
      have R687 : Go p e below P s₁ (mkF m 29 #[.val (.long q), .second, .val (.int (5 : Int32)), .val (.int md), .val (.int lf)] [(.int (5 : Int32))]) := fun t_ k_ => R686 t_ (XS.iloadN X0.here hx rfl (hb hby d1_28) rfl k_)
      have R688 : Go p e below P s₁ (mkF m 30 #[.val (.long q), .second, .val (.int (5 : Int32)), .val (.int md), .val (.int lf)] [(.int (2 : Int32)), (.int (5 : Int32))]) := fun t_ k_ => R687 t_ (XS.iconst X0.here hx rfl (hb hby d1_29) k_)
      have R689 : Go p e below P s₁ (mkF m 40 #[.val (.long q), .second, .val (.int (5 : Int32)), .val (.int md), .val (.int lf)] []) := fun t_ k_ => R688 t_ (XS.icmpYes X0.here hx rfl (pc0 := 30) (pc' := 40) rfl (hb hby d1_30) rfl (flt (by decide : ¬ ((5 : Int32) < (2 : Int32)))).2.1 (by decide) (by decide) k_)
      have R690 : Go p e below P s₁ (mkF m 41 #[.val (.long q), .second, .val (.int (5 : Int32)), .val (.int md), .val (.int lf)] [(.long q)]) := fun t_ k_ => R689 t_ (XS.lloadN X0.here hx rfl (hb hby d1_40) rfl k_)
      have R691 : Go p e below P s₁ (mkF m 43 #[.val (.long q), .second, .val (.int (5 : Int32)), .val (.int md), .val (.int lf)] [(.int (8 : Int32)), (.long q)]) := fun t_ k_ => R690 t_ (XS.bipush X0.here hx rfl (hb hby d1_41) k_)
      have R692 : Go p e below P s₁ (mkF m 44 #[.val (.long q), .second, .val (.int (5 : Int32)), .val (.int md), .val (.int lf)] [(.int (5 : Int32)), (.int (8 : Int32)), (.long q)]) := fun t_ k_ => R691 t_ (XS.iloadN X0.here hx rfl (hb hby d1_43) rfl k_)
      have R693 : Go p e below P s₁ (mkF m 45 #[.val (.long q), .second, .val (.int (5 : Int32)), .val (.int md), .val (.int lf)] [(.int ((8 : Int32) * (5 : Int32))), (.long q)]) := fun t_ k_ => R692 t_ (XS.imul X0.here hx rfl (hb hby d1_44) rfl k_)
      have R694 : Go p e below P s₁ (mkF m 46 #[.val (.long q), .second, .val (.int (5 : Int32)), .val (.int md), .val (.int lf)] [(.long ((q.toUInt64 >>> (((8 : Int32) * (5 : Int32)) &&& 0x3f).toInt64.toUInt64).toInt64))]) := fun t_ k_ => R693 t_ (XS.lushr X0.here hx rfl (hb hby d1_45) rfl k_)
      have R695 : Go p e below P s₁ (mkF m 49 #[.val (.long q), .second, .val (.int (5 : Int32)), .val (.int md), .val (.int lf)] [(.long (255 : Int64)), (.long ((q.toUInt64 >>> (((8 : Int32) * (5 : Int32)) &&& 0x3f).toInt64.toUInt64).toInt64))]) := fun t_ k_ => R694 t_ (X0.ldc2Long hx hown (mvT hZ (hw _ (List.mem_of_getElem? (i := 4) rfl))) (g := (mkF m 46 #[.val (.long q), .second, .val (.int (5 : Int32)), .val (.int md), .val (.int lf)] [(.long ((q.toUInt64 >>> (((8 : Int32) * (5 : Int32)) &&& 0x3f).toInt64.toUInt64).toInt64))])) rfl (hb hby d1_46) _ k_)
      have R696 : Go p e below P s₁ (mkF m 50 #[.val (.long q), .second, .val (.int (5 : Int32)), .val (.int md), .val (.int lf)] [(.long (((q.toUInt64 >>> (((8 : Int32) * (5 : Int32)) &&& 0x3f).toInt64.toUInt64).toInt64) &&& (255 : Int64)))]) := fun t_ k_ => R695 t_ (XS.land X0.here hx rfl (hb hby d1_49) rfl k_)
      have R697 : Go p e below P s₁ (mkF m 51 #[.val (.long q), .second, .val (.int (5 : Int32)), .val (.int md), .val (.int lf)] [(.int ((((q.toUInt64 >>> (((8 : Int32) * (5 : Int32)) &&& 0x3f).toInt64.toUInt64).toInt64) &&& (255 : Int64)).toInt32))]) := fun t_ k_ => R696 t_ (XS.l2i X0.here hx rfl (hb hby d1_50) rfl k_)
      have R698 : Go p e below P s₁ (mkF m 52 #[.val (.long q), .second, .val (.int (5 : Int32)), .val (.int md), .val (.int lf)] [(.int (((((q.toUInt64 >>> (((8 : Int32) * (5 : Int32)) &&& 0x3f).toInt64.toUInt64).toInt64) &&& (255 : Int64)).toInt32).toUInt32.toUInt16.toUInt32.toInt32))]) := fun t_ k_ => R697 t_ (XS.i2c X0.here hx rfl (hb hby d1_51) rfl k_)
      obtain ⟨fs, hr, hrun, hended, hend⟩ := X0.leaveW hS0 (by rw [e0]; exact hk0 : _ ≤ s₁.heap.size) (v := some (.int (nar .char (((((q.toUInt64 >>> (((8 : Int32) * (5 : Int32)) &&& 0x3f).toInt64.toUInt64).toInt64) &&& (255 : Int64)).toInt32).toUInt32.toUInt16.toUInt32.toInt32)))) (fun h => by rw [Bd.returns] at h; cases h)
      have hCe := C0.trans (CHv.at X0 hZ hEL C0.1)
      exact ⟨_, _, hP _ (R698 _ (retN X0 hx (t := .char) Bd.returns (by simp) (hb hby d1_52) hr)), hrun, hended, _, _, rfl, ⟨(nar .char (((((q.toUInt64 >>> (((8 : Int32) * (5 : Int32)) &&& 0x3f).toInt64.toUInt64).toInt64) &&& (255 : Int64)).toInt32).toUInt32.toUInt16.toUInt32.toInt32)), rfl, N0, (e0.symm ▸ (Keep.refl h0 [])), (chr255L _)⟩, (by show CHr Z EL0 s.vm s.heap s₁.vm s₁.heap; rw [hh, e0]; exact hCe), ⟨hend.1, hend.2.1, hend.2.2.1, hend.2.2.2.mono (by decide) (by decide)⟩⟩
    · have R699 : Go p e below P s₁ (mkF m 15 #[.val (.long q), .second, .val (.int (5 : Int32)), .val (.int md), .val (.int lf)] []) := fun t_ k_ => R684 t_ (XS.ifNo X0.here hx rfl (hb hby d1_12) rfl ((if0 _ _).trans (feq hc685).1) k_)
      have R700 : Go p e below P s₁ (mkF m 16 #[.val (.long q), .second, .val (.int (5 : Int32)), .val (.int md), .val (.int lf)] [(.int (5 : Int32))]) := fun t_ k_ => R699 t_ (XS.iloadN X0.here hx rfl (hb hby d1_15) rfl k_)
      have R701 : Go p e below P s₁ (mkF m 18 #[.val (.long q), .second, .val (.int (5 : Int32)), .val (.int md), .val (.int lf)] [(.int (6 : Int32)), (.int (5 : Int32))]) := fun t_ k_ => R700 t_ (XS.bipush X0.here hx rfl (hb hby d1_16) k_)
      have R702 : Go p e below P s₁ (mkF m 21 #[.val (.long q), .second, .val (.int (5 : Int32)), .val (.int md), .val (.int lf)] []) := fun t_ k_ => R701 t_ (XS.icmpNo X0.here hx rfl (hb hby d1_18) rfl (tlt (by decide : (5 : Int32) < (6 : Int32))).2.1 k_)
      obtain ⟨a703, T703, h703, k703x, t703, kb703, X703, e703, E703, hS703, hk703, hZ, hown, E1703, F1703, F2703, A1703, la703, lb703, hC703, hL703, hne703, st703⟩ := ldcCH X0 hx hZ hown (hw _ (List.mem_of_getElem? (i := 79) rfl)) (wS_of hw) e0 hS0 hk0 hEL (List.mem_of_getElem? (i := 2) rfl) C0.1 (text := "--help") (vs := ((([45, 45, 104, 101, 108, 112] : List Int32).map StrChars.lo8).map Value.int)) (z := (Int32.ofNat ([45, 45, 104, 101, 108, 112] : List Int32).length)) ⟨by decide, by first | rfl | decide +kernel⟩ (by decide) (by decide) (g := (mkF m 21 #[.val (.long q), .second, .val (.int (5 : Int32)), .val (.int md), .val (.int lf)] [])) rfl (hb hby d1_21) (n := 24) (by decide) (by decide) (by decide) (by decide)
      have O703 := O0.ext E703
      have C704 := C0.trans hC703
      have R705 : Go p e below P T703 (mkF m 23 #[.val (.long q), .second, .val (.int (5 : Int32)), .val (.int md), .val (.int lf)] [(.ref a703)]) := fun t_ k_ => R702 t_ (st703 t_ k_)
      have R706 : Go p e below P T703 (mkF m 24 #[.val (.long q), .second, .val (.int (5 : Int32)), .val (.int md), .val (.int lf)] [(.int (5 : Int32)), (.ref a703)]) := fun t_ k_ => R705 t_ (XS.iloadN X703.here hx rfl (hb hby d1_23) rfl k_)
      obtain ⟨cq707, kq707, q707a, q707b, q707c⟩ := isOf hZ e703 E1703
      obtain ⟨rv707, _, ⟨T707, L707, k707, n707⟩, -, X707, ⟨Lc707, hQ707, l707, y707, z707⟩, st707⟩ := X703.virtualBack hx (y := (⟨"java/lang/String", "charAt", "(I)C"⟩ : MethodName)) (z := (⟨"java/lang/String", "charAt", "(I)C"⟩ : MethodName)) hown (mvT hZ (hw _ (List.mem_of_getElem? (i := 48) rfl))) (mvT hZ (hw _ (List.mem_of_getElem? (i := 49) rfl))) (notFace_of_selects (args := #[]) (mvT hZ (hw _ (List.mem_of_getElem? (i := 51) rfl)))) (mvT hZ (hw _ (List.mem_of_getElem? (i := 51) rfl))) (mvT hZ (hw _ (List.mem_of_getElem? (i := 50) rfl))) (by decide) (StrChars.Road.chN (W := 0) hZ (w_chN hw) (kI := 4) (hw _ (List.mem_of_getElem? (i := 9) rfl)) E1703 F2703 F1703 A1703 (hcod (show ∀ c ∈ ([45, 45, 104, 101, 108, 112] : List Int32), ¬ c < 0 ∧ ¬ (255 : Int32) < c from by decide)) (upC (show ∀ c ∈ ([45, 45, 104, 101, 108, 112] : List Int32), ¬ c < 0 ∧ ¬ (255 : Int32) < c from by decide)) (P0.ext O703.2) hzc (P1.ext O703.2) hfm (by decide) (i := 5) (by decide) (j := (5 : Int32)) rfl (by decide) (by decide)) q707a q707c (g := (mkF m 24 #[.val (.long q), .second, .val (.int (5 : Int32)), .val (.int md), .val (.int lf)] [(.int (5 : Int32)), (.ref a703)])) rfl (by rw [hml]; rfl) (Steps.refl _) (argsL := [(.int (5 : Int32))]) (rest := []) (lenOf pd_52681278 rfl) rfl (by show 2 * 0 + _ ≤ _; exact Nat.le_of_eq rfl) (hb hby d1_24) (fun _ _ => ⟨rfl, e703, (by decide : 2 + 0 ≤ _), (by decide : 28 + 0 ≤ _)⟩)
      dsimp only [Pt.U, Pt.locs, Pt.cells, Pt.slots] at X707 l707 y707 z707 st707 hQ707
      subst l707 y707 z707
      obtain ⟨rfl, rfl, K707⟩ := hQ707
      try rw [List.append_nil] at X707
      have R708 : Go p e below P T707 (mkF m 27 #[.val (.long q), .second, .val (.int (5 : Int32)), .val (.int md), .val (.int lf)] [(.int (([45, 45, 104, 101, 108, 112] : List Int32).getD 5 0))]) := fun t_ k_ => R706 t_ (st707.trans k_)
      obtain ⟨fs, hr, hrun, hended, hend⟩ := X707.leaveW hS703 (by rw [K707]; exact hk703 : _ ≤ T707.heap.size) (v := some (.int (nar .char (([45, 45, 104, 101, 108, 112] : List Int32).getD 5 0)))) (fun h => by rw [Bd.returns] at h; cases h)
      have hCe := C704.trans (CHv.at X707 hZ hEL C704.1)
      exact ⟨_, _, hP _ (R708 _ (retN X707 hx (t := .char) Bd.returns (by simp) (hb hby d1_27) hr)), hrun, hended, _, _, rfl, ⟨(nar .char (([45, 45, 104, 101, 108, 112] : List Int32).getD 5 0)), rfl, N0, (K707.symm ▸ ((Keep.refl h0 []).ext E703)), (by decide)⟩, (by show CHr Z EL0 s.vm s.heap T707.vm T707.heap; rw [hh, K707]; exact hCe), ⟨hend.1, hend.2.1, hend.2.2.1, hend.2.2.2.mono (by decide) (by decide)⟩⟩
theorem ef_pick6_ (m : MethodId) (x0 : Int64) (x1 : Int32) (x2 : Int32) (x3 : Int32) : entryFrame m #[(.long x0), (.int x1), (.int x2), (.int x3)] 5 = mkF m 0 #[.val (.long x0), .second, .val (.int x1), .val (.int x2), .val (.int x3)] [] := by first | (simp [entryFrame, mkF, argsToLocals, Value.category]; done) | rfl
def Q_pick6_ (Z : State) (q : Int64) (md : Int32) (lf : Int32) (zc : Int32) (fm : Value) (h0 : Heap) (n0 : Nat) (rv_ : Option Value) (rh_ : Heap) (rL_ : List Loc) : Prop := ∃ r : Int32, (rv_ = some (.int r)) ∧ (Fr n0 rL_) ∧ (Keep h0 rh_ []) ∧ (nar .char r = r ∧ ¬ r < 0 ∧ ¬ (255 : Int32) < r)
set_option maxRecDepth 65536 in
set_option maxHeartbeats 40000000 in
theorem pick6_ (l : Launch) (Z : State) (a0 : Array Value) (hw : ∀ d ∈ tables_1, d.before a0 Z = true) (ws : List Jvm.Cond) (q : Int64) (md : Int32) (lf : Int32) (zc : Int32) (fm : Value) (h0 : Heap) (n0 : Nat) (O0 : Old Z n0 h0) (hEL : EW Z a0 EL0) (P0 : Sta Z Z.heap "java/lang/String" "COMPACT_STRINGS" "Z" (.int zc)) (P1 : Sta Z Z.heap "jdk/internal/util/Preconditions" "SIOOBE_FORMATTER" "Ljava/util/function/BiFunction;" fm) (P2 : ¬ zc = 0) (P3 : fm.isRef = true) :
    MetFree l (⟨"com/example/toekit/toekit/cli/ArgumentsIsHelpPinLaw", "pick", "(JIIZ)C"⟩ : MethodName) (head1 (Jvm.Cond.code (⟨"com/example/toekit/toekit/cli/ArgumentsIsHelpPinLaw", "pick", "(JIIZ)C"⟩ : MethodName) method_3_code 5 (some .char) :: ws) ({ frames := 0, cells := 0, slots := 0, locals := 0 } : Room)) (fun a_ U_ => a_ = #[(.long q), (.int (6 : Int32)), (.int md), (.int lf)] ∧ Z.Warmed39 U_.vm ∧ U_.heap = h0 ∧ CHv Z EL0 U_.vm h0) (fun _ _ _ _ _ => True) (fun _ U_ o_ U_' => ∃ v_ L_, o_ = .returned v_ ∧ Q_pick6_ Z q md lf zc fm h0 n0 v_ U_'.heap L_ ∧ CHr Z EL0 U_.vm U_.heap U_'.vm U_'.heap ∧ ReturnedEndW U_ o_ U_' L_ ({ frames := 0, cells := 0, slots := 0, locals := 0 } : Room).cells ({ frames := 0, cells := 0, slots := 0, locals := 0 } : Room).slots) := by
  have hzc := P2
  have hfm := P3
  refine MetFree.of_bodySF (plainFor_of_name pn_83775497) hisR ?_
  intro p e s m args below meth c s₁ Bd hml0 hP0 hK
  obtain ⟨rfl, hZ, hh, hCH⟩ := hP0
  have hx := Bd.exec
  have hby := Bd.bytes
  have hml : c.maxLocals = 5 := hml0
  have hown : s.vm.findClass "com/example/toekit/toekit/cli/ArgumentsIsHelpPinLaw" = some m.cls := findClass_of_methodNamed Bd.named
  have hnm := (name_of_methodNamed Bd.named Bd.method).1
  have hS0 : s.Since s.vm 0 := (State.WarmedH.refl s).since 0
  have hk0 : 0 ≤ h0.size := Nat.zero_le _
  have C0 : CHr Z EL0 s.vm h0 s.vm h0 := CHr.refl hCH
  have X0 : Stand p l e ({ frames := 0, cells := 0, slots := 0, locals := 0 } : Room) (s.setVm s.vm) m #[(.long q), (.int (6 : Int32)), (.int md), (.int lf)] below meth c s₁ [] 0 0 := Stand.of_body Bd
  have e0 : s₁.heap = h0 := by rw [← hh, Bd.state]; rfl
  have N0 := Fr.nil n0
  obtain ⟨P, hP, R0⟩ : ∃ P : State → Prop, (∀ t_, P t_ → Steps p.tables e below (s₁.setTop (entryFrame m #[(.long q), (.int (6 : Int32)), (.int md), (.int lf)] 5)) t_) ∧ Go p e below P s₁ (mkF m 0 #[.val (.long q), .second, .val (.int (6 : Int32)), .val (.int md), .val (.int lf)] []) := ⟨_, fun _ h => h, fun t_ k_ => castTop (ef_pick6_ m q (6 : Int32) md lf) k_⟩
  have R709 : Go p e below P s₁ (mkF m 1 #[.val (.long q), .second, .val (.int (6 : Int32)), .val (.int md), .val (.int lf)] [(.int md)]) := fun t_ k_ => R0 t_ (XS.iloadN X0.here hx rfl (hb hby d1_0) rfl k_)
  have R710 : Go p e below P s₁ (mkF m 2 #[.val (.long q), .second, .val (.int (6 : Int32)), .val (.int md), .val (.int lf)] [(.int (6 : Int32)), (.int md)]) := fun t_ k_ => R709 t_ (XS.iloadN X0.here hx rfl (hb hby d1_1) rfl k_)
  have R711 : Go p e below P s₁ (mkF m 3 #[.val (.long q), .second, .val (.int (6 : Int32)), .val (.int md), .val (.int lf)] [(.int (1 : Int32)), (.int (6 : Int32)), (.int md)]) := fun t_ k_ => R710 t_ (XS.iconst X0.here hx rfl (hb hby d1_2) k_)
  have R712 : Go p e below P s₁ (mkF m 4 #[.val (.long q), .second, .val (.int (6 : Int32)), .val (.int md), .val (.int lf)] [(.int ((6 : Int32) + (1 : Int32))), (.int md)]) := fun t_ k_ => R711 t_ (XS.iadd X0.here hx rfl (hb hby d1_3) rfl k_)
  have R713 : Go p e below P s₁ (mkF m 5 #[.val (.long q), .second, .val (.int (6 : Int32)), .val (.int md), .val (.int lf)] [(.int ((md.toUInt32 >>> (((6 : Int32) + (1 : Int32)) &&& 31).toUInt32).toInt32))]) := fun t_ k_ => R712 t_ (XS.iushr X0.here hx rfl (hb hby d1_4) rfl k_)
  have R714 : Go p e below P s₁ (mkF m 6 #[.val (.long q), .second, .val (.int (6 : Int32)), .val (.int md), .val (.int lf)] [(.int (1 : Int32)), (.int ((md.toUInt32 >>> (((6 : Int32) + (1 : Int32)) &&& 31).toUInt32).toInt32))]) := fun t_ k_ => R713 t_ (XS.iconst X0.here hx rfl (hb hby d1_5) k_)
  have R715 : Go p e below P s₁ (mkF m 7 #[.val (.long q), .second, .val (.int (6 : Int32)), .val (.int md), .val (.int lf)] [(.int (((md.toUInt32 >>> (((6 : Int32) + (1 : Int32)) &&& 31).toUInt32).toInt32) &&& (1 : Int32)))]) := fun t_ k_ => R714 t_ (XS.iand X0.here hx rfl (hb hby d1_6) rfl k_)
  by_cases hc716 : (((md.toUInt32 >>> (((6 : Int32) + (1 : Int32)) &&& 31).toUInt32).toInt32) &&& (1 : Int32)) = (0 : Int32)
  · have R717 : Go p e below P s₁ (mkF m 40 #[.val (.long q), .second, .val (.int (6 : Int32)), .val (.int md), .val (.int lf)] []) := fun t_ k_ => R715 t_ (XS.ifYes X0.here hx rfl (pc0 := 7) (pc' := 40) rfl (hb hby d1_7) rfl ((if0 _ _).trans (teq hc716).1) (by decide) (by decide) k_)
    have R718 : Go p e below P s₁ (mkF m 41 #[.val (.long q), .second, .val (.int (6 : Int32)), .val (.int md), .val (.int lf)] [(.long q)]) := fun t_ k_ => R717 t_ (XS.lloadN X0.here hx rfl (hb hby d1_40) rfl k_)
    have R719 : Go p e below P s₁ (mkF m 43 #[.val (.long q), .second, .val (.int (6 : Int32)), .val (.int md), .val (.int lf)] [(.int (8 : Int32)), (.long q)]) := fun t_ k_ => R718 t_ (XS.bipush X0.here hx rfl (hb hby d1_41) k_)
    have R720 : Go p e below P s₁ (mkF m 44 #[.val (.long q), .second, .val (.int (6 : Int32)), .val (.int md), .val (.int lf)] [(.int (6 : Int32)), (.int (8 : Int32)), (.long q)]) := fun t_ k_ => R719 t_ (XS.iloadN X0.here hx rfl (hb hby d1_43) rfl k_)
    have R721 : Go p e below P s₁ (mkF m 45 #[.val (.long q), .second, .val (.int (6 : Int32)), .val (.int md), .val (.int lf)] [(.int ((8 : Int32) * (6 : Int32))), (.long q)]) := fun t_ k_ => R720 t_ (XS.imul X0.here hx rfl (hb hby d1_44) rfl k_)
    have R722 : Go p e below P s₁ (mkF m 46 #[.val (.long q), .second, .val (.int (6 : Int32)), .val (.int md), .val (.int lf)] [(.long ((q.toUInt64 >>> (((8 : Int32) * (6 : Int32)) &&& 0x3f).toInt64.toUInt64).toInt64))]) := fun t_ k_ => R721 t_ (XS.lushr X0.here hx rfl (hb hby d1_45) rfl k_)
    have R723 : Go p e below P s₁ (mkF m 49 #[.val (.long q), .second, .val (.int (6 : Int32)), .val (.int md), .val (.int lf)] [(.long (255 : Int64)), (.long ((q.toUInt64 >>> (((8 : Int32) * (6 : Int32)) &&& 0x3f).toInt64.toUInt64).toInt64))]) := fun t_ k_ => R722 t_ (X0.ldc2Long hx hown (mvT hZ (hw _ (List.mem_of_getElem? (i := 4) rfl))) (g := (mkF m 46 #[.val (.long q), .second, .val (.int (6 : Int32)), .val (.int md), .val (.int lf)] [(.long ((q.toUInt64 >>> (((8 : Int32) * (6 : Int32)) &&& 0x3f).toInt64.toUInt64).toInt64))])) rfl (hb hby d1_46) _ k_)
    have R724 : Go p e below P s₁ (mkF m 50 #[.val (.long q), .second, .val (.int (6 : Int32)), .val (.int md), .val (.int lf)] [(.long (((q.toUInt64 >>> (((8 : Int32) * (6 : Int32)) &&& 0x3f).toInt64.toUInt64).toInt64) &&& (255 : Int64)))]) := fun t_ k_ => R723 t_ (XS.land X0.here hx rfl (hb hby d1_49) rfl k_)
    have R725 : Go p e below P s₁ (mkF m 51 #[.val (.long q), .second, .val (.int (6 : Int32)), .val (.int md), .val (.int lf)] [(.int ((((q.toUInt64 >>> (((8 : Int32) * (6 : Int32)) &&& 0x3f).toInt64.toUInt64).toInt64) &&& (255 : Int64)).toInt32))]) := fun t_ k_ => R724 t_ (XS.l2i X0.here hx rfl (hb hby d1_50) rfl k_)
    have R726 : Go p e below P s₁ (mkF m 52 #[.val (.long q), .second, .val (.int (6 : Int32)), .val (.int md), .val (.int lf)] [(.int (((((q.toUInt64 >>> (((8 : Int32) * (6 : Int32)) &&& 0x3f).toInt64.toUInt64).toInt64) &&& (255 : Int64)).toInt32).toUInt32.toUInt16.toUInt32.toInt32))]) := fun t_ k_ => R725 t_ (XS.i2c X0.here hx rfl (hb hby d1_51) rfl k_)
    obtain ⟨fs, hr, hrun, hended, hend⟩ := X0.leaveW hS0 (by rw [e0]; exact hk0 : _ ≤ s₁.heap.size) (v := some (.int (nar .char (((((q.toUInt64 >>> (((8 : Int32) * (6 : Int32)) &&& 0x3f).toInt64.toUInt64).toInt64) &&& (255 : Int64)).toInt32).toUInt32.toUInt16.toUInt32.toInt32)))) (fun h => by rw [Bd.returns] at h; cases h)
    have hCe := C0.trans (CHv.at X0 hZ hEL C0.1)
    exact ⟨_, _, hP _ (R726 _ (retN X0 hx (t := .char) Bd.returns (by simp) (hb hby d1_52) hr)), hrun, hended, _, _, rfl, ⟨(nar .char (((((q.toUInt64 >>> (((8 : Int32) * (6 : Int32)) &&& 0x3f).toInt64.toUInt64).toInt64) &&& (255 : Int64)).toInt32).toUInt32.toUInt16.toUInt32.toInt32)), rfl, N0, (e0.symm ▸ (Keep.refl h0 [])), (chr255L _)⟩, (by show CHr Z EL0 s.vm s.heap s₁.vm s₁.heap; rw [hh, e0]; exact hCe), ⟨hend.1, hend.2.1, hend.2.2.1, hend.2.2.2.mono (by decide) (by decide)⟩⟩
  · have R727 : Go p e below P s₁ (mkF m 10 #[.val (.long q), .second, .val (.int (6 : Int32)), .val (.int md), .val (.int lf)] []) := fun t_ k_ => R715 t_ (XS.ifNo X0.here hx rfl (hb hby d1_7) rfl ((if0 _ _).trans (feq hc716).1) k_)
    have R728 : Go p e below P s₁ (mkF m 12 #[.val (.long q), .second, .val (.int (6 : Int32)), .val (.int md), .val (.int lf)] [(.int lf)]) := fun t_ k_ => R727 t_ (XS.iload X0.here hx rfl (hb hby d1_10) rfl k_)
    by_cases hc729 : lf = (0 : Int32)
    · have R730 : Go p e below P s₁ (mkF m 28 #[.val (.long q), .second, .val (.int (6 : Int32)), .val (.int md), .val (.int lf)] []) := fun t_ k_ => R728 t_ (XS.ifYes X0.here hx rfl (pc0 := 12) (pc' := 28) rfl (hb hby d1_12) rfl ((if0 _ _).trans (teq hc729).1) (by decide) (by decide) k_)
      have R731 : Go p e below P s₁ (mkF m 29 #[.val (.long q), .second, .val (.int (6 : Int32)), .val (.int md), .val (.int lf)] [(.int (6 : Int32))]) := fun t_ k_ => R730 t_ (XS.iloadN X0.here hx rfl (hb hby d1_28) rfl k_)
      have R732 : Go p e below P s₁ (mkF m 30 #[.val (.long q), .second, .val (.int (6 : Int32)), .val (.int md), .val (.int lf)] [(.int (2 : Int32)), (.int (6 : Int32))]) := fun t_ k_ => R731 t_ (XS.iconst X0.here hx rfl (hb hby d1_29) k_)
      have R733 : Go p e below P s₁ (mkF m 40 #[.val (.long q), .second, .val (.int (6 : Int32)), .val (.int md), .val (.int lf)] []) := fun t_ k_ => R732 t_ (XS.icmpYes X0.here hx rfl (pc0 := 30) (pc' := 40) rfl (hb hby d1_30) rfl (flt (by decide : ¬ ((6 : Int32) < (2 : Int32)))).2.1 (by decide) (by decide) k_)
      have R734 : Go p e below P s₁ (mkF m 41 #[.val (.long q), .second, .val (.int (6 : Int32)), .val (.int md), .val (.int lf)] [(.long q)]) := fun t_ k_ => R733 t_ (XS.lloadN X0.here hx rfl (hb hby d1_40) rfl k_)
      have R735 : Go p e below P s₁ (mkF m 43 #[.val (.long q), .second, .val (.int (6 : Int32)), .val (.int md), .val (.int lf)] [(.int (8 : Int32)), (.long q)]) := fun t_ k_ => R734 t_ (XS.bipush X0.here hx rfl (hb hby d1_41) k_)
      have R736 : Go p e below P s₁ (mkF m 44 #[.val (.long q), .second, .val (.int (6 : Int32)), .val (.int md), .val (.int lf)] [(.int (6 : Int32)), (.int (8 : Int32)), (.long q)]) := fun t_ k_ => R735 t_ (XS.iloadN X0.here hx rfl (hb hby d1_43) rfl k_)
      have R737 : Go p e below P s₁ (mkF m 45 #[.val (.long q), .second, .val (.int (6 : Int32)), .val (.int md), .val (.int lf)] [(.int ((8 : Int32) * (6 : Int32))), (.long q)]) := fun t_ k_ => R736 t_ (XS.imul X0.here hx rfl (hb hby d1_44) rfl k_)
      have R738 : Go p e below P s₁ (mkF m 46 #[.val (.long q), .second, .val (.int (6 : Int32)), .val (.int md), .val (.int lf)] [(.long ((q.toUInt64 >>> (((8 : Int32) * (6 : Int32)) &&& 0x3f).toInt64.toUInt64).toInt64))]) := fun t_ k_ => R737 t_ (XS.lushr X0.here hx rfl (hb hby d1_45) rfl k_)
      have R739 : Go p e below P s₁ (mkF m 49 #[.val (.long q), .second, .val (.int (6 : Int32)), .val (.int md), .val (.int lf)] [(.long (255 : Int64)), (.long ((q.toUInt64 >>> (((8 : Int32) * (6 : Int32)) &&& 0x3f).toInt64.toUInt64).toInt64))]) := fun t_ k_ => R738 t_ (X0.ldc2Long hx hown (mvT hZ (hw _ (List.mem_of_getElem? (i := 4) rfl))) (g := (mkF m 46 #[.val (.long q), .second, .val (.int (6 : Int32)), .val (.int md), .val (.int lf)] [(.long ((q.toUInt64 >>> (((8 : Int32) * (6 : Int32)) &&& 0x3f).toInt64.toUInt64).toInt64))])) rfl (hb hby d1_46) _ k_)
      have R740 : Go p e below P s₁ (mkF m 50 #[.val (.long q), .second, .val (.int (6 : Int32)), .val (.int md), .val (.int lf)] [(.long (((q.toUInt64 >>> (((8 : Int32) * (6 : Int32)) &&& 0x3f).toInt64.toUInt64).toInt64) &&& (255 : Int64)))]) := fun t_ k_ => R739 t_ (XS.land X0.here hx rfl (hb hby d1_49) rfl k_)
      have R741 : Go p e below P s₁ (mkF m 51 #[.val (.long q), .second, .val (.int (6 : Int32)), .val (.int md), .val (.int lf)] [(.int ((((q.toUInt64 >>> (((8 : Int32) * (6 : Int32)) &&& 0x3f).toInt64.toUInt64).toInt64) &&& (255 : Int64)).toInt32))]) := fun t_ k_ => R740 t_ (XS.l2i X0.here hx rfl (hb hby d1_50) rfl k_)
      have R742 : Go p e below P s₁ (mkF m 52 #[.val (.long q), .second, .val (.int (6 : Int32)), .val (.int md), .val (.int lf)] [(.int (((((q.toUInt64 >>> (((8 : Int32) * (6 : Int32)) &&& 0x3f).toInt64.toUInt64).toInt64) &&& (255 : Int64)).toInt32).toUInt32.toUInt16.toUInt32.toInt32))]) := fun t_ k_ => R741 t_ (XS.i2c X0.here hx rfl (hb hby d1_51) rfl k_)
      obtain ⟨fs, hr, hrun, hended, hend⟩ := X0.leaveW hS0 (by rw [e0]; exact hk0 : _ ≤ s₁.heap.size) (v := some (.int (nar .char (((((q.toUInt64 >>> (((8 : Int32) * (6 : Int32)) &&& 0x3f).toInt64.toUInt64).toInt64) &&& (255 : Int64)).toInt32).toUInt32.toUInt16.toUInt32.toInt32)))) (fun h => by rw [Bd.returns] at h; cases h)
      have hCe := C0.trans (CHv.at X0 hZ hEL C0.1)
      exact ⟨_, _, hP _ (R742 _ (retN X0 hx (t := .char) Bd.returns (by simp) (hb hby d1_52) hr)), hrun, hended, _, _, rfl, ⟨(nar .char (((((q.toUInt64 >>> (((8 : Int32) * (6 : Int32)) &&& 0x3f).toInt64.toUInt64).toInt64) &&& (255 : Int64)).toInt32).toUInt32.toUInt16.toUInt32.toInt32)), rfl, N0, (e0.symm ▸ (Keep.refl h0 [])), (chr255L _)⟩, (by show CHr Z EL0 s.vm s.heap s₁.vm s₁.heap; rw [hh, e0]; exact hCe), ⟨hend.1, hend.2.1, hend.2.2.1, hend.2.2.2.mono (by decide) (by decide)⟩⟩
    · have R743 : Go p e below P s₁ (mkF m 15 #[.val (.long q), .second, .val (.int (6 : Int32)), .val (.int md), .val (.int lf)] []) := fun t_ k_ => R728 t_ (XS.ifNo X0.here hx rfl (hb hby d1_12) rfl ((if0 _ _).trans (feq hc729).1) k_)
      have R744 : Go p e below P s₁ (mkF m 16 #[.val (.long q), .second, .val (.int (6 : Int32)), .val (.int md), .val (.int lf)] [(.int (6 : Int32))]) := fun t_ k_ => R743 t_ (XS.iloadN X0.here hx rfl (hb hby d1_15) rfl k_)
      have R745 : Go p e below P s₁ (mkF m 18 #[.val (.long q), .second, .val (.int (6 : Int32)), .val (.int md), .val (.int lf)] [(.int (6 : Int32)), (.int (6 : Int32))]) := fun t_ k_ => R744 t_ (XS.bipush X0.here hx rfl (hb hby d1_16) k_)
      have R746 : Go p e below P s₁ (mkF m 40 #[.val (.long q), .second, .val (.int (6 : Int32)), .val (.int md), .val (.int lf)] []) := fun t_ k_ => R745 t_ (XS.icmpYes X0.here hx rfl (pc0 := 18) (pc' := 40) rfl (hb hby d1_18) rfl (flt (by decide : ¬ ((6 : Int32) < (6 : Int32)))).2.1 (by decide) (by decide) k_)
      have R747 : Go p e below P s₁ (mkF m 41 #[.val (.long q), .second, .val (.int (6 : Int32)), .val (.int md), .val (.int lf)] [(.long q)]) := fun t_ k_ => R746 t_ (XS.lloadN X0.here hx rfl (hb hby d1_40) rfl k_)
      have R748 : Go p e below P s₁ (mkF m 43 #[.val (.long q), .second, .val (.int (6 : Int32)), .val (.int md), .val (.int lf)] [(.int (8 : Int32)), (.long q)]) := fun t_ k_ => R747 t_ (XS.bipush X0.here hx rfl (hb hby d1_41) k_)
      have R749 : Go p e below P s₁ (mkF m 44 #[.val (.long q), .second, .val (.int (6 : Int32)), .val (.int md), .val (.int lf)] [(.int (6 : Int32)), (.int (8 : Int32)), (.long q)]) := fun t_ k_ => R748 t_ (XS.iloadN X0.here hx rfl (hb hby d1_43) rfl k_)
      have R750 : Go p e below P s₁ (mkF m 45 #[.val (.long q), .second, .val (.int (6 : Int32)), .val (.int md), .val (.int lf)] [(.int ((8 : Int32) * (6 : Int32))), (.long q)]) := fun t_ k_ => R749 t_ (XS.imul X0.here hx rfl (hb hby d1_44) rfl k_)
      have R751 : Go p e below P s₁ (mkF m 46 #[.val (.long q), .second, .val (.int (6 : Int32)), .val (.int md), .val (.int lf)] [(.long ((q.toUInt64 >>> (((8 : Int32) * (6 : Int32)) &&& 0x3f).toInt64.toUInt64).toInt64))]) := fun t_ k_ => R750 t_ (XS.lushr X0.here hx rfl (hb hby d1_45) rfl k_)
      have R752 : Go p e below P s₁ (mkF m 49 #[.val (.long q), .second, .val (.int (6 : Int32)), .val (.int md), .val (.int lf)] [(.long (255 : Int64)), (.long ((q.toUInt64 >>> (((8 : Int32) * (6 : Int32)) &&& 0x3f).toInt64.toUInt64).toInt64))]) := fun t_ k_ => R751 t_ (X0.ldc2Long hx hown (mvT hZ (hw _ (List.mem_of_getElem? (i := 4) rfl))) (g := (mkF m 46 #[.val (.long q), .second, .val (.int (6 : Int32)), .val (.int md), .val (.int lf)] [(.long ((q.toUInt64 >>> (((8 : Int32) * (6 : Int32)) &&& 0x3f).toInt64.toUInt64).toInt64))])) rfl (hb hby d1_46) _ k_)
      have R753 : Go p e below P s₁ (mkF m 50 #[.val (.long q), .second, .val (.int (6 : Int32)), .val (.int md), .val (.int lf)] [(.long (((q.toUInt64 >>> (((8 : Int32) * (6 : Int32)) &&& 0x3f).toInt64.toUInt64).toInt64) &&& (255 : Int64)))]) := fun t_ k_ => R752 t_ (XS.land X0.here hx rfl (hb hby d1_49) rfl k_)
      have R754 : Go p e below P s₁ (mkF m 51 #[.val (.long q), .second, .val (.int (6 : Int32)), .val (.int md), .val (.int lf)] [(.int ((((q.toUInt64 >>> (((8 : Int32) * (6 : Int32)) &&& 0x3f).toInt64.toUInt64).toInt64) &&& (255 : Int64)).toInt32))]) := fun t_ k_ => R753 t_ (XS.l2i X0.here hx rfl (hb hby d1_50) rfl k_)
      have R755 : Go p e below P s₁ (mkF m 52 #[.val (.long q), .second, .val (.int (6 : Int32)), .val (.int md), .val (.int lf)] [(.int (((((q.toUInt64 >>> (((8 : Int32) * (6 : Int32)) &&& 0x3f).toInt64.toUInt64).toInt64) &&& (255 : Int64)).toInt32).toUInt32.toUInt16.toUInt32.toInt32))]) := fun t_ k_ => R754 t_ (XS.i2c X0.here hx rfl (hb hby d1_51) rfl k_)
      obtain ⟨fs, hr, hrun, hended, hend⟩ := X0.leaveW hS0 (by rw [e0]; exact hk0 : _ ≤ s₁.heap.size) (v := some (.int (nar .char (((((q.toUInt64 >>> (((8 : Int32) * (6 : Int32)) &&& 0x3f).toInt64.toUInt64).toInt64) &&& (255 : Int64)).toInt32).toUInt32.toUInt16.toUInt32.toInt32)))) (fun h => by rw [Bd.returns] at h; cases h)
      have hCe := C0.trans (CHv.at X0 hZ hEL C0.1)
      exact ⟨_, _, hP _ (R755 _ (retN X0 hx (t := .char) Bd.returns (by simp) (hb hby d1_52) hr)), hrun, hended, _, _, rfl, ⟨(nar .char (((((q.toUInt64 >>> (((8 : Int32) * (6 : Int32)) &&& 0x3f).toInt64.toUInt64).toInt64) &&& (255 : Int64)).toInt32).toUInt32.toUInt16.toUInt32.toInt32)), rfl, N0, (e0.symm ▸ (Keep.refl h0 [])), (chr255L _)⟩, (by show CHr Z EL0 s.vm s.heap s₁.vm s₁.heap; rw [hh, e0]; exact hCe), ⟨hend.1, hend.2.1, hend.2.2.1, hend.2.2.2.mono (by decide) (by decide)⟩⟩
theorem pn_26612129 : plainName "com/example/toekit/toekit/cli/Arguments" = true := by first | (simp [plainName, overriddenIn]; done) | decide +kernel
theorem ef_isHelp_ (m : MethodId) (x0 : Addr) : entryFrame m #[(.ref x0)] 1 = mkF m 0 #[.val (.ref x0)] [] := by first | (simp [entryFrame, mkF, argsToLocals, Value.category]; done) | rfl
theorem d6_0 : decode prog_21_method_11_code 0 = .ok (.aload_n 0, 1) := by decide +kernel
theorem d6_1 : decode prog_21_method_11_code 1 = .ok (.ldc 203, 2) := by decide +kernel
theorem d6_3 : decode prog_21_method_11_code 3 = .ok (.invokevirtual 83, 3) := by decide +kernel
theorem pd_90185814 : parseMethodDescriptor "(Ljava/lang/Object;)Z" = some ⟨[(.object "java/lang/Object")], some .boolean⟩ := by decide +kernel
theorem d6_6 : decode prog_21_method_11_code 6 = .ok (.ifCond .ne 12, 3) := by decide +kernel
theorem d6_9 : decode prog_21_method_11_code 9 = .ok (.aload_n 0, 1) := by decide +kernel
theorem d6_10 : decode prog_21_method_11_code 10 = .ok (.ldc 205, 2) := by decide +kernel
theorem d6_12 : decode prog_21_method_11_code 12 = .ok (.invokevirtual 83, 3) := by decide +kernel
theorem d6_15 : decode prog_21_method_11_code 15 = .ok (.ifCond .eq 7, 3) := by decide +kernel
theorem d6_22 : decode prog_21_method_11_code 22 = .ok (.iconst 0, 1) := by decide +kernel
theorem d6_23 : decode prog_21_method_11_code 23 = .ok (.ireturn, 1) := by decide +kernel
theorem d6_18 : decode prog_21_method_11_code 18 = .ok (.iconst 1, 1) := by decide +kernel
theorem d6_19 : decode prog_21_method_11_code 19 = .ok (.goto 4, 3) := by decide +kernel
def Q_isHelp_ (Z : State) (x : Addr) (t : Addr) (kb : ClassId) (cs : List Int32) (zc : Int32) (h0 : Heap) (n0 : Nat) (rv_ : Option Value) (rh_ : Heap) (rL_ : List Loc) : Prop := (rv_ = some (.int (isH cs))) ∧ (Fr n0 rL_) ∧ (Keep h0 rh_ [])
set_option maxRecDepth 65536 in
set_option maxHeartbeats 40000000 in
theorem isHelp_ (l : Launch) (Z : State) (a0 : Array Value) (hw : ∀ d ∈ tables_1, d.before a0 Z = true) (ws : List Jvm.Cond) (x : Addr) (t : Addr) (kb : ClassId) (cs : List Int32) (zc : Int32) (h0 : Heap) (n0 : Nat) (O0 : Old Z n0 h0) (hEL : EW Z a0 EL0) (P0 : Exa Z h0 x "java/lang/String") (P1 : Fld Z h0 x "java/lang/String" "coder" "B" (.int (0 : Int32))) (P2 : Fld Z h0 x "java/lang/String" "value" "[B" (.ref t)) (P3 : Arv Z h0 t kb .byte (Int32.ofNat cs.length) ((cs.map StrChars.lo8).map Value.int) (.int (0 : Int32))) (P4 : Sta Z Z.heap "java/lang/String" "COMPACT_STRINGS" "Z" (.int zc)) (P5 : ¬ zc = 0) (P6 : ∀ c ∈ cs, ¬ c < 0 ∧ ¬ (255 : Int32) < c) (P7 : cs.length ≤ 4000) :
    MetFree l (⟨"com/example/toekit/toekit/cli/Arguments", "isHelp", "(Ljava/lang/String;)Z"⟩ : MethodName) (head1 (Jvm.Cond.code (⟨"com/example/toekit/toekit/cli/Arguments", "isHelp", "(Ljava/lang/String;)Z"⟩ : MethodName) prog_21_method_11_code 1 (some .boolean) :: ws) ({ frames := 2, cells := 4, slots := 40, locals := 28 } : Room)) (fun a_ U_ => a_ = #[(.ref x)] ∧ Z.Warmed39 U_.vm ∧ U_.heap = h0 ∧ CHv Z EL0 U_.vm h0) (fun _ _ _ _ _ => True) (fun _ U_ o_ U_' => ∃ v_ L_, o_ = .returned v_ ∧ Q_isHelp_ Z x t kb cs zc h0 n0 v_ U_'.heap L_ ∧ CHr Z EL0 U_.vm U_.heap U_'.vm U_'.heap ∧ ReturnedEndW U_ o_ U_' L_ ({ frames := 2, cells := 4, slots := 40, locals := 28 } : Room).cells ({ frames := 2, cells := 4, slots := 40, locals := 28 } : Room).slots) := by
  have hzc := P5
  have hcs := P6
  have lcs := P7
  refine MetFree.of_bodySF (plainFor_of_name pn_26612129) hisR ?_
  intro p e s m args below meth c s₁ Bd hml0 hP0 hK
  obtain ⟨rfl, hZ, hh, hCH⟩ := hP0
  have hx := Bd.exec
  have hby := Bd.bytes
  have hml : c.maxLocals = 1 := hml0
  have hown : s.vm.findClass "com/example/toekit/toekit/cli/Arguments" = some m.cls := findClass_of_methodNamed Bd.named
  have hnm := (name_of_methodNamed Bd.named Bd.method).1
  have hS0 : s.Since s.vm 0 := (State.WarmedH.refl s).since 0
  have hk0 : 0 ≤ h0.size := Nat.zero_le _
  have C0 : CHr Z EL0 s.vm h0 s.vm h0 := CHr.refl hCH
  have X0 : Stand p l e ({ frames := 2, cells := 4, slots := 40, locals := 28 } : Room) (s.setVm s.vm) m #[(.ref x)] below meth c s₁ [] 0 0 := Stand.of_body Bd
  have e0 : s₁.heap = h0 := by rw [← hh, Bd.state]; rfl
  have N0 := Fr.nil n0
  obtain ⟨P, hP, R0⟩ : ∃ P : State → Prop, (∀ t_, P t_ → Steps p.tables e below (s₁.setTop (entryFrame m #[(.ref x)] 1)) t_) ∧ Go p e below P s₁ (mkF m 0 #[.val (.ref x)] []) := ⟨_, fun _ h => h, fun t_ k_ => castTop (ef_isHelp_ m x) k_⟩
  have R756 : Go p e below P s₁ (mkF m 1 #[.val (.ref x)] [(.ref x)]) := fun t_ k_ => R0 t_ (XS.aloadN X0.here hx rfl (hb hby d6_0) rfl rfl k_)
  obtain ⟨a757, T757, h757, k757x, t757, kb757, X757, e757, E757, hS757, hk757, hZ, hown, E1757, F1757, F2757, A1757, la757, lb757, hC757, hL757, hne757, st757⟩ := ldcCH X0 hx hZ hown (hw _ (List.mem_of_getElem? (i := 34) rfl)) (wS_of hw) e0 hS0 hk0 hEL (List.mem_of_getElem? (i := 0) rfl) C0.1 (text := "-h") (vs := ((([45, 104] : List Int32).map StrChars.lo8).map Value.int)) (z := (Int32.ofNat ([45, 104] : List Int32).length)) ⟨by decide, by first | rfl | decide +kernel⟩ (by decide) (by decide) (g := (mkF m 1 #[.val (.ref x)] [(.ref x)])) rfl (hb hby d6_1) (n := 8) (by decide) (by decide) (by decide) (by decide)
  have O757 := O0.ext E757
  have C758 := C0.trans hC757
  have R759 : Go p e below P T757 (mkF m 3 #[.val (.ref x)] [(.ref a757), (.ref x)]) := fun t_ k_ => R756 t_ (st757 t_ k_)
  have f760 := (P0.ext E757)
  have f761 := (P1.ext E757)
  have f762 := (P2.ext E757)
  have f763 := (P3.ext E757)
  obtain ⟨cq764, kq764, q764a, q764b, q764c⟩ := isOf hZ e757 f760
  obtain ⟨rv764, _, ⟨T764, L764, k764, n764⟩, -, X764, ⟨Lc764, hQ764, l764, y764, z764⟩, st764⟩ := X757.virtualBack hx (y := (⟨"java/lang/String", "equals", "(Ljava/lang/Object;)Z"⟩ : MethodName)) (z := (⟨"java/lang/String", "equals", "(Ljava/lang/Object;)Z"⟩ : MethodName)) hown (mvT hZ (hw _ (List.mem_of_getElem? (i := 35) rfl))) (mvT hZ (hw _ (List.mem_of_getElem? (i := 36) rfl))) (notFace_of_selects (args := #[]) (mvT hZ (hw _ (List.mem_of_getElem? (i := 38) rfl)))) (mvT hZ (hw _ (List.mem_of_getElem? (i := 38) rfl))) (mvT hZ (hw _ (List.mem_of_getElem? (i := 37) rfl))) (by decide) (StrChars.Road.eqW (W := 0) hZ (w_eqW hw) (kI := 4) (hw _ (List.mem_of_getElem? (i := 9) rfl)) f760 f762 f761 f763 (hcod hcs) (upC hcs) lcs E1757 F2757 F1757 A1757 (hcod (show ∀ c ∈ ([45, 104] : List Int32), ¬ c < 0 ∧ ¬ (255 : Int32) < c from by decide)) (upC (show ∀ c ∈ ([45, 104] : List Int32), ¬ c < 0 ∧ ¬ (255 : Int32) < c from by decide)) (by decide) (P4.ext O757.2) hzc (by decide) (by decide)) q764a q764c (g := (mkF m 3 #[.val (.ref x)] [(.ref a757), (.ref x)])) rfl (by rw [hml]; rfl) (Steps.refl _) (argsL := [(.ref a757)]) (rest := []) (lenOf pd_90185814 rfl) rfl (by show 2 * 0 + _ ≤ _; exact Nat.le_of_eq rfl) (hb hby d6_3) (fun _ _ => ⟨rfl, e757, (by decide : 2 + 0 ≤ _), (by decide : 12 + 0 ≤ _)⟩)
  dsimp only [Pt.U, Pt.locs, Pt.cells, Pt.slots] at X764 l764 y764 z764 st764 hQ764
  subst l764 y764 z764
  obtain ⟨hv764, rfl, K764⟩ := hQ764
  obtain rfl : rv764 = some (Value.int (eqI cs ([45, 104] : List Int32))) := by rcases hv764 with ⟨q1, q2⟩ | ⟨q1, q2⟩ <;> rw [q1] <;> simp [eqI, q2]
  try rw [List.append_nil] at X764
  have R765 : Go p e below P T764 (mkF m 6 #[.val (.ref x)] [(.int (eqI cs ([45, 104] : List Int32)))]) := fun t_ k_ => R759 t_ (st764.trans k_)
  by_cases hc766 : (eqI cs ([45, 104] : List Int32)) = (0 : Int32)
  · have R767 : Go p e below P T764 (mkF m 9 #[.val (.ref x)] []) := fun t_ k_ => R765 t_ (XS.ifNo X764.here hx rfl (hb hby d6_6) rfl ((if0 _ _).trans (teq hc766).2) k_)
    have R768 : Go p e below P T764 (mkF m 10 #[.val (.ref x)] [(.ref x)]) := fun t_ k_ => R767 t_ (XS.aloadN X764.here hx rfl (hb hby d6_9) rfl rfl k_)
    obtain ⟨a769, T769, h769, k769x, t769, kb769, X769, e769, E769, hS769, hk769, hZ, hown, E1769, F1769, F2769, A1769, la769, lb769, hC769, hL769, hne769, st769⟩ := ldcCH X764 hx hZ hown (hw _ (List.mem_of_getElem? (i := 46) rfl)) (wS_of hw) K764 hS757 hk757 hEL (List.mem_of_getElem? (i := 1) rfl) C758.1 (text := "--help") (vs := ((([45, 45, 104, 101, 108, 112] : List Int32).map StrChars.lo8).map Value.int)) (z := (Int32.ofNat ([45, 45, 104, 101, 108, 112] : List Int32).length)) ⟨by decide, by first | rfl | decide +kernel⟩ (by decide) (by decide) (g := (mkF m 10 #[.val (.ref x)] [(.ref x)])) rfl (hb hby d6_10) (n := 24) (by decide) (by decide) (by decide) (by decide)
    have O769 := O757.ext E769
    have C770 := C758.trans hC769
    have R771 : Go p e below P T769 (mkF m 12 #[.val (.ref x)] [(.ref a769), (.ref x)]) := fun t_ k_ => R768 t_ (st769 t_ k_)
    have f772 := (f760.ext E769)
    have f773 := (f761.ext E769)
    have f774 := (f762.ext E769)
    have f775 := (f763.ext E769)
    obtain ⟨cq776, kq776, q776a, q776b, q776c⟩ := isOf hZ e769 f772
    obtain ⟨rv776, _, ⟨T776, L776, k776, n776⟩, -, X776, ⟨Lc776, hQ776, l776, y776, z776⟩, st776⟩ := X769.virtualBack hx (y := (⟨"java/lang/String", "equals", "(Ljava/lang/Object;)Z"⟩ : MethodName)) (z := (⟨"java/lang/String", "equals", "(Ljava/lang/Object;)Z"⟩ : MethodName)) hown (mvT hZ (hw _ (List.mem_of_getElem? (i := 35) rfl))) (mvT hZ (hw _ (List.mem_of_getElem? (i := 36) rfl))) (notFace_of_selects (args := #[]) (mvT hZ (hw _ (List.mem_of_getElem? (i := 38) rfl)))) (mvT hZ (hw _ (List.mem_of_getElem? (i := 38) rfl))) (mvT hZ (hw _ (List.mem_of_getElem? (i := 37) rfl))) (by decide) (StrChars.Road.eqW (W := 0) hZ (w_eqW hw) (kI := 4) (hw _ (List.mem_of_getElem? (i := 9) rfl)) f772 f774 f773 f775 (hcod hcs) (upC hcs) lcs E1769 F2769 F1769 A1769 (hcod (show ∀ c ∈ ([45, 45, 104, 101, 108, 112] : List Int32), ¬ c < 0 ∧ ¬ (255 : Int32) < c from by decide)) (upC (show ∀ c ∈ ([45, 45, 104, 101, 108, 112] : List Int32), ¬ c < 0 ∧ ¬ (255 : Int32) < c from by decide)) (by decide) (P4.ext O769.2) hzc (by decide) (by decide)) q776a q776c (g := (mkF m 12 #[.val (.ref x)] [(.ref a769), (.ref x)])) rfl (by rw [hml]; rfl) (Steps.refl _) (argsL := [(.ref a769)]) (rest := []) (lenOf pd_90185814 rfl) rfl (by show 2 * 0 + _ ≤ _; exact Nat.le_of_eq rfl) (hb hby d6_12) (fun _ _ => ⟨rfl, e769, (by decide : 4 + 0 ≤ _), (by decide : 40 + 0 ≤ _)⟩)
    dsimp only [Pt.U, Pt.locs, Pt.cells, Pt.slots] at X776 l776 y776 z776 st776 hQ776
    subst l776 y776 z776
    obtain ⟨hv776, rfl, K776⟩ := hQ776
    obtain rfl : rv776 = some (Value.int (eqI cs ([45, 45, 104, 101, 108, 112] : List Int32))) := by rcases hv776 with ⟨q1, q2⟩ | ⟨q1, q2⟩ <;> rw [q1] <;> simp [eqI, q2]
    try rw [List.append_nil] at X776
    have R777 : Go p e below P T776 (mkF m 15 #[.val (.ref x)] [(.int (eqI cs ([45, 45, 104, 101, 108, 112] : List Int32)))]) := fun t_ k_ => R771 t_ (st776.trans k_)
    by_cases hc778 : (eqI cs ([45, 45, 104, 101, 108, 112] : List Int32)) = (0 : Int32)
    · have R779 : Go p e below P T776 (mkF m 22 #[.val (.ref x)] []) := fun t_ k_ => R777 t_ (XS.ifYes X776.here hx rfl (pc0 := 15) (pc' := 22) rfl (hb hby d6_15) rfl ((if0 _ _).trans (teq hc778).1) (by decide) (by decide) k_)
      have R780 : Go p e below P T776 (mkF m 23 #[.val (.ref x)] [(.int (0 : Int32))]) := fun t_ k_ => R779 t_ (XS.iconst X776.here hx rfl (hb hby d6_22) k_)
      obtain ⟨fs, hr, hrun, hended, hend⟩ := X776.leaveW hS769 (by rw [K776]; exact hk769 : _ ≤ T776.heap.size) (v := some (.int (nar .boolean (0 : Int32)))) (fun h => by rw [Bd.returns] at h; cases h)
      have hCe := C770.trans (CHv.at X776 hZ hEL C770.1)
      exact ⟨_, _, hP _ (R780 _ (retN X776 hx (t := .boolean) Bd.returns (by simp) (hb hby d6_23) hr)), hrun, hended, _, _, rfl, ⟨(by have h1 := hc766; have h2 := hc778; by_cases q1 : cs = [45, 104] <;> by_cases q2 : cs = [45, 45, 104, 101, 108, 112] <;> simp [isH, eqI, nar_b0, nar_b1, q1, q2] at h1 h2 ⊢), N0, (K776.symm ▸ (((Keep.refl h0 []).ext E757).ext E769))⟩, (by show CHr Z EL0 s.vm s.heap T776.vm T776.heap; rw [hh, K776]; exact hCe), ⟨hend.1, hend.2.1, hend.2.2.1, hend.2.2.2.mono (by decide) (by decide)⟩⟩
    · have R781 : Go p e below P T776 (mkF m 18 #[.val (.ref x)] []) := fun t_ k_ => R777 t_ (XS.ifNo X776.here hx rfl (hb hby d6_15) rfl ((if0 _ _).trans (feq hc778).1) k_)
      have R782 : Go p e below P T776 (mkF m 19 #[.val (.ref x)] [(.int (1 : Int32))]) := fun t_ k_ => R781 t_ (XS.iconst X776.here hx rfl (hb hby d6_18) k_)
      have R783 : Go p e below P T776 (mkF m 23 #[.val (.ref x)] [(.int (1 : Int32))]) := fun t_ k_ => R782 t_ (XS.goto X776.here hx rfl (pc0 := 19) (pc' := 23) rfl (hb hby d6_19) (by decide) (by decide) k_)
      obtain ⟨fs, hr, hrun, hended, hend⟩ := X776.leaveW hS769 (by rw [K776]; exact hk769 : _ ≤ T776.heap.size) (v := some (.int (nar .boolean (1 : Int32)))) (fun h => by rw [Bd.returns] at h; cases h)
      have hCe := C770.trans (CHv.at X776 hZ hEL C770.1)
      exact ⟨_, _, hP _ (R783 _ (retN X776 hx (t := .boolean) Bd.returns (by simp) (hb hby d6_23) hr)), hrun, hended, _, _, rfl, ⟨(by have h1 := hc766; have h2 := hc778; by_cases q1 : cs = [45, 104] <;> by_cases q2 : cs = [45, 45, 104, 101, 108, 112] <;> simp [isH, eqI, nar_b0, nar_b1, q1, q2] at h1 h2 ⊢), N0, (K776.symm ▸ (((Keep.refl h0 []).ext E757).ext E769))⟩, (by show CHr Z EL0 s.vm s.heap T776.vm T776.heap; rw [hh, K776]; exact hCe), ⟨hend.1, hend.2.1, hend.2.2.1, hend.2.2.2.mono (by decide) (by decide)⟩⟩
  · have R784 : Go p e below P T764 (mkF m 18 #[.val (.ref x)] []) := fun t_ k_ => R765 t_ (XS.ifYes X764.here hx rfl (pc0 := 6) (pc' := 18) rfl (hb hby d6_6) rfl ((if0 _ _).trans (feq hc766).2) (by decide) (by decide) k_)
    have R785 : Go p e below P T764 (mkF m 19 #[.val (.ref x)] [(.int (1 : Int32))]) := fun t_ k_ => R784 t_ (XS.iconst X764.here hx rfl (hb hby d6_18) k_)
    have R786 : Go p e below P T764 (mkF m 23 #[.val (.ref x)] [(.int (1 : Int32))]) := fun t_ k_ => R785 t_ (XS.goto X764.here hx rfl (pc0 := 19) (pc' := 23) rfl (hb hby d6_19) (by decide) (by decide) k_)
    obtain ⟨fs, hr, hrun, hended, hend⟩ := X764.leaveW hS757 (by rw [K764]; exact hk757 : _ ≤ T764.heap.size) (v := some (.int (nar .boolean (1 : Int32)))) (fun h => by rw [Bd.returns] at h; cases h)
    have hCe := C758.trans (CHv.at X764 hZ hEL C758.1)
    exact ⟨_, _, hP _ (R786 _ (retN X764 hx (t := .boolean) Bd.returns (by simp) (hb hby d6_23) hr)), hrun, hended, _, _, rfl, ⟨(by have h1 := hc766; by_cases q1 : cs = [45, 104] <;> by_cases q2 : cs = [45, 45, 104, 101, 108, 112] <;> simp [isH, eqI, nar_b0, nar_b1, q1, q2] at h1 ⊢), N0, (K764.symm ▸ ((Keep.refl h0 []).ext E757))⟩, (by show CHr Z EL0 s.vm s.heap T764.vm T764.heap; rw [hh, K764]; exact hCe), ⟨hend.1, hend.2.1, hend.2.2.1, hend.2.2.2.mono (by decide) (by decide)⟩⟩
theorem ef_law_ (m : MethodId) (x0 : Int32) (x1 : Int64) (x2 : Int32) : entryFrame m #[(.int x0), (.long x1), (.int x2)] maxLocals = mkF m 0 #[.val (.int x0), .val (.long x1), .second, .val (.int x2), .unset, .unset, .unset, .unset, .unset, .unset, .unset, .unset, .unset, .unset, .unset, .unset, .unset] [] := by first | (simp [entryFrame, mkF, argsToLocals, Value.category, maxLocals]; done) | rfl
theorem pd_25465895 : parseMethodDescriptor "(JIIZ)C" = some ⟨[.long, .int, .int, .boolean], some .char⟩ := by decide +kernel
theorem pd_92011780 : parseMethodDescriptor "(ICCCCCCC)Ljava/lang/String;" = some ⟨[.int, .char, .char, .char, .char, .char, .char, .char], some (.object "java/lang/String")⟩ := by decide +kernel
theorem pd_80118224 : parseMethodDescriptor "(Ljava/lang/String;)Z" = some ⟨[(.object "java/lang/String")], some .boolean⟩ := by decide +kernel
def Q_law_ (Z : State) (i0 : Int32) (i1 : Int64) (i2 : Int32) (zc : Int32) (fm : Value) (h0 : Heap) (n0 : Nat) (rv_ : Option Value) (rh_ : Heap) (rL_ : List Loc) : Prop := (rv_ = some (.int (1 : Int32))) ∧ (Fr n0 rL_) ∧ (Keep h0 rh_ [])
set_option maxRecDepth 65536 in
set_option maxHeartbeats 40000000 in
theorem law_ (l : Launch) (Z : State) (a0 : Array Value) (hw : ∀ d ∈ tables_1, d.before a0 Z = true) (ws : List Jvm.Cond) (i0 : Int32) (i1 : Int64) (i2 : Int32) (zc : Int32) (fm : Value) (h0 : Heap) (n0 : Nat) (O0 : Old Z n0 h0) (hEL : EW Z a0 EL0) (P0 : Sta Z Z.heap "java/lang/String" "COMPACT_STRINGS" "Z" (.int zc)) (P1 : Sta Z Z.heap "jdk/internal/util/Preconditions" "SIOOBE_FORMATTER" "Ljava/util/function/BiFunction;" fm) (P2 : ¬ zc = 0) (P3 : fm.isRef = true) :
    MetFree l x (head1 (Jvm.Cond.code x code maxLocals ret :: ws) room_1) (fun a_ U_ => a_ = #[(.int i0), (.long i1), (.int i2)] ∧ Z.Warmed39 U_.vm ∧ U_.heap = h0 ∧ CHv Z EL0 U_.vm h0) (fun _ _ _ _ _ => True) (fun _ U_ o_ U_' => ∃ v_ L_, o_ = .returned v_ ∧ Q_law_ Z i0 i1 i2 zc fm h0 n0 v_ U_'.heap L_ ∧ CHr Z EL0 U_.vm U_.heap U_'.vm U_'.heap ∧ ReturnedEndW U_ o_ U_' L_ room_1.cells room_1.slots) := by
  have hzc := P2
  have hfm := P3
  refine MetFree.of_bodySF (plainFor_of_name pn_83775497) hisR ?_
  intro p e s m args below meth c s₁ Bd hml0 hP0 hK
  obtain ⟨rfl, hZ, hh, hCH⟩ := hP0
  have hx := Bd.exec
  have hby := Bd.bytes
  have hml : c.maxLocals = 17 := hml0
  have hown : s.vm.findClass "com/example/toekit/toekit/cli/ArgumentsIsHelpPinLaw" = some m.cls := findClass_of_methodNamed Bd.named
  have hnm := (name_of_methodNamed Bd.named Bd.method).1
  have hS0 : s.Since s.vm 0 := (State.WarmedH.refl s).since 0
  have hk0 : 0 ≤ h0.size := Nat.zero_le _
  have C0 : CHr Z EL0 s.vm h0 s.vm h0 := CHr.refl hCH
  have X0 : Stand p l e room_1 (s.setVm s.vm) m #[(.int i0), (.long i1), (.int i2)] below meth c s₁ [] 0 0 := Stand.of_body Bd
  have e0 : s₁.heap = h0 := by rw [← hh, Bd.state]; rfl
  have N0 := Fr.nil n0
  obtain ⟨P, hP, R0⟩ : ∃ P : State → Prop, (∀ t_, P t_ → Steps p.tables e below (s₁.setTop (entryFrame m #[(.int i0), (.long i1), (.int i2)] maxLocals)) t_) ∧ Go p e below P s₁ (mkF m 0 #[.val (.int i0), .val (.long i1), .second, .val (.int i2), .unset, .unset, .unset, .unset, .unset, .unset, .unset, .unset, .unset, .unset, .unset, .unset, .unset] []) := ⟨_, fun _ h => h, fun t_ k_ => castTop (ef_law_ m i0 i1 i2) k_⟩
  have R787 : Go p e below P s₁ (mkF m 1 #[.val (.int i0), .val (.long i1), .second, .val (.int i2), .unset, .unset, .unset, .unset, .unset, .unset, .unset, .unset, .unset, .unset, .unset, .unset, .unset] [(.int i0)]) := fun t_ k_ => R0 t_ (XS.iloadN X0.here hx rfl (hb hby at_0) rfl k_)
  have R788 : Go p e below P s₁ (mkF m 3 #[.val (.int i0), .val (.long i1), .second, .val (.int i2), .unset, .unset, .unset, .unset, .unset, .unset, .unset, .unset, .unset, .unset, .unset, .unset, .unset] [(.int (7 : Int32)), (.int i0)]) := fun t_ k_ => R787 t_ (XS.bipush X0.here hx rfl (hb hby at_1) k_)
  have R789 : Go p e below P s₁ (mkF m 4 #[.val (.int i0), .val (.long i1), .second, .val (.int i2), .unset, .unset, .unset, .unset, .unset, .unset, .unset, .unset, .unset, .unset, .unset, .unset, .unset] [(.int (i0 &&& (7 : Int32)))]) := fun t_ k_ => R788 t_ (XS.iand X0.here hx rfl (hb hby at_3) rfl k_)
  obtain ⟨n_, hn_⟩ : ∃ z : Int32, z = (i0 &&& (7 : Int32)) := ⟨_, rfl⟩
  have R790 : Go p e below P s₁ (mkF m 4 #[.val (.int i0), .val (.long i1), .second, .val (.int i2), .unset, .unset, .unset, .unset, .unset, .unset, .unset, .unset, .unset, .unset, .unset, .unset, .unset] [(.int n_)]) := by rw [hn_]; exact R789
  have rn : 0 ≤ n_.toInt ∧ n_.toInt < 8 := by rw [hn_]; exact len8 _
  have R791 : Go p e below P s₁ (mkF m 6 #[.val (.int i0), .val (.long i1), .second, .val (.int i2), .val (.int n_), .unset, .unset, .unset, .unset, .unset, .unset, .unset, .unset, .unset, .unset, .unset, .unset] []) := fun t_ k_ => R790 t_ (XS.istore X0.here hx rfl (hb hby at_4) rfl (l' := #[.val (.int i0), .val (.long i1), .second, .val (.int i2), .val (.int n_), .unset, .unset, .unset, .unset, .unset, .unset, .unset, .unset, .unset, .unset, .unset, .unset]) rfl k_)
  obtain ⟨lf, hj793, R792⟩ : ∃ lf : Int32, (True) ∧ Go p e below P s₁ (mkF m 17 #[.val (.int i0), .val (.long i1), .second, .val (.int i2), .val (.int n_), .unset, .unset, .unset, .unset, .unset, .unset, .unset, .unset, .unset, .unset, .unset, .unset] [(.int lf)]) := by
    have R794 : Go p e below P s₁ (mkF m 7 #[.val (.int i0), .val (.long i1), .second, .val (.int i2), .val (.int n_), .unset, .unset, .unset, .unset, .unset, .unset, .unset, .unset, .unset, .unset, .unset, .unset] [(.int i2)]) := fun t_ k_ => R791 t_ (XS.iloadN X0.here hx rfl (hb hby at_6) rfl k_)
    have R795 : Go p e below P s₁ (mkF m 8 #[.val (.int i0), .val (.long i1), .second, .val (.int i2), .val (.int n_), .unset, .unset, .unset, .unset, .unset, .unset, .unset, .unset, .unset, .unset, .unset, .unset] [(.int (1 : Int32)), (.int i2)]) := fun t_ k_ => R794 t_ (XS.iconst X0.here hx rfl (hb hby at_7) k_)
    have R796 : Go p e below P s₁ (mkF m 9 #[.val (.int i0), .val (.long i1), .second, .val (.int i2), .val (.int n_), .unset, .unset, .unset, .unset, .unset, .unset, .unset, .unset, .unset, .unset, .unset, .unset] [(.int (i2 &&& (1 : Int32)))]) := fun t_ k_ => R795 t_ (XS.iand X0.here hx rfl (hb hby at_8) rfl k_)
    by_cases hc797 : (i2 &&& (1 : Int32)) = (0 : Int32)
    · have R798 : Go p e below P s₁ (mkF m 16 #[.val (.int i0), .val (.long i1), .second, .val (.int i2), .val (.int n_), .unset, .unset, .unset, .unset, .unset, .unset, .unset, .unset, .unset, .unset, .unset, .unset] []) := fun t_ k_ => R796 t_ (XS.ifYes X0.here hx rfl (pc0 := 9) (pc' := 16) rfl (hb hby at_9) rfl ((if0 _ _).trans (teq hc797).1) (by decide) (by decide) k_)
      have R799 : Go p e below P s₁ (mkF m 17 #[.val (.int i0), .val (.long i1), .second, .val (.int i2), .val (.int n_), .unset, .unset, .unset, .unset, .unset, .unset, .unset, .unset, .unset, .unset, .unset, .unset] [(.int (0 : Int32))]) := fun t_ k_ => R798 t_ (XS.iconst X0.here hx rfl (hb hby at_16) k_)
      exact ⟨(0 : Int32), trivial, R799⟩
    · have R800 : Go p e below P s₁ (mkF m 12 #[.val (.int i0), .val (.long i1), .second, .val (.int i2), .val (.int n_), .unset, .unset, .unset, .unset, .unset, .unset, .unset, .unset, .unset, .unset, .unset, .unset] []) := fun t_ k_ => R796 t_ (XS.ifNo X0.here hx rfl (hb hby at_9) rfl ((if0 _ _).trans (feq hc797).1) k_)
      have R801 : Go p e below P s₁ (mkF m 13 #[.val (.int i0), .val (.long i1), .second, .val (.int i2), .val (.int n_), .unset, .unset, .unset, .unset, .unset, .unset, .unset, .unset, .unset, .unset, .unset, .unset] [(.int (1 : Int32))]) := fun t_ k_ => R800 t_ (XS.iconst X0.here hx rfl (hb hby at_12) k_)
      have R802 : Go p e below P s₁ (mkF m 17 #[.val (.int i0), .val (.long i1), .second, .val (.int i2), .val (.int n_), .unset, .unset, .unset, .unset, .unset, .unset, .unset, .unset, .unset, .unset, .unset, .unset] [(.int (1 : Int32))]) := fun t_ k_ => R801 t_ (XS.goto X0.here hx rfl (pc0 := 13) (pc' := 17) rfl (hb hby at_13) (by decide) (by decide) k_)
      exact ⟨(1 : Int32), trivial, R802⟩
  have R803 : Go p e below P s₁ (mkF m 19 #[.val (.int i0), .val (.long i1), .second, .val (.int i2), .val (.int n_), .val (.int lf), .unset, .unset, .unset, .unset, .unset, .unset, .unset, .unset, .unset, .unset, .unset] []) := fun t_ k_ => R792 t_ (XS.istore X0.here hx rfl (hb hby at_17) rfl (l' := #[.val (.int i0), .val (.long i1), .second, .val (.int i2), .val (.int n_), .val (.int lf), .unset, .unset, .unset, .unset, .unset, .unset, .unset, .unset, .unset, .unset, .unset]) rfl k_)
  have R804 : Go p e below P s₁ (mkF m 20 #[.val (.int i0), .val (.long i1), .second, .val (.int i2), .val (.int n_), .val (.int lf), .unset, .unset, .unset, .unset, .unset, .unset, .unset, .unset, .unset, .unset, .unset] [(.long i1)]) := fun t_ k_ => R803 t_ (XS.lloadN X0.here hx rfl (hb hby at_19) rfl k_)
  have R805 : Go p e below P s₁ (mkF m 21 #[.val (.int i0), .val (.long i1), .second, .val (.int i2), .val (.int n_), .val (.int lf), .unset, .unset, .unset, .unset, .unset, .unset, .unset, .unset, .unset, .unset, .unset] [(.int (0 : Int32)), (.long i1)]) := fun t_ k_ => R804 t_ (XS.iconst X0.here hx rfl (hb hby at_20) k_)
  have R806 : Go p e below P s₁ (mkF m 22 #[.val (.int i0), .val (.long i1), .second, .val (.int i2), .val (.int n_), .val (.int lf), .unset, .unset, .unset, .unset, .unset, .unset, .unset, .unset, .unset, .unset, .unset] [(.int i2), (.int (0 : Int32)), (.long i1)]) := fun t_ k_ => R805 t_ (XS.iloadN X0.here hx rfl (hb hby at_21) rfl k_)
  have R807 : Go p e below P s₁ (mkF m 24 #[.val (.int i0), .val (.long i1), .second, .val (.int i2), .val (.int n_), .val (.int lf), .unset, .unset, .unset, .unset, .unset, .unset, .unset, .unset, .unset, .unset, .unset] [(.int lf), (.int i2), (.int (0 : Int32)), (.long i1)]) := fun t_ k_ => R806 t_ (XS.iload X0.here hx rfl (hb hby at_22) rfl k_)
  obtain ⟨rv808, _, ⟨T808, L808, k808, n808⟩, -, X808, hT808, hG808, ⟨Lc808, hQ808, l808, y808, z808, hC808⟩, st808⟩ := callSS X0 hx (y := (⟨"com/example/toekit/toekit/cli/ArgumentsIsHelpPinLaw", "pick", "(JIIZ)C"⟩ : MethodName)) hown (mvT hZ (hw _ (List.mem_of_getElem? (i := 0) rfl))) (mvT hZ (hw _ (List.mem_of_getElem? (i := 1) rfl))) (mvT hZ (hw _ (List.mem_of_getElem? (i := 2) rfl))) (mvT hZ (hw _ (List.mem_of_getElem? (i := 3) rfl))) (by decide) (backOfSH (W := 0) (pick0_ l Z a0 hw [] i1 i2 lf zc fm h0 n0 O0 hEL P0 P1 hzc hfm) hZ (hw _ (List.mem_of_getElem? (i := 3) rfl)) (hw _ (List.mem_of_getElem? (i := 2) rfl)) (by decide) (by decide) hEL C0.1) (g := (mkF m 24 #[.val (.int i0), .val (.long i1), .second, .val (.int i2), .val (.int n_), .val (.int lf), .unset, .unset, .unset, .unset, .unset, .unset, .unset, .unset, .unset, .unset, .unset] [(.int lf), (.int i2), (.int (0 : Int32)), (.long i1)])) rfl (by rw [hml]; rfl) (argsL := [(.long i1), (.int (0 : Int32)), (.int i2), (.int lf)]) (rest := []) (lenOf pd_25465895 rfl) rfl (by show 2 * 0 + _ ≤ _; exact Nat.le_of_eq rfl) (hb hby at_24) (fun _ _ => ⟨rfl, e0, (by decide : 0 + 2 ≤ _), (by decide : 0 + 28 ≤ _)⟩)
  dsimp only [Pt.U, Pt.locs, Pt.cells, Pt.slots] at X808 hT808 hG808 l808 y808 z808 hC808 st808 hQ808
  subst l808 y808 z808
  obtain ⟨X808, hS808, hZ, hown⟩ := rebS hS0 (by rw [e0]; exact hk0) X808 hT808 hG808 hZ hown
  have hk808 : T808.heap.size ≤ T808.heap.size := Nat.le_refl _
  obtain ⟨r_808, rfl, N808q, K808, p808_0⟩ := hQ808
  have N808 := Fr.app N0 N808q
  have O808 := O0.keep K808 all0
  have C809 := C0.trans hC808
  have R810 : Go p e below P T808 (mkF m 27 #[.val (.int i0), .val (.long i1), .second, .val (.int i2), .val (.int n_), .val (.int lf), .unset, .unset, .unset, .unset, .unset, .unset, .unset, .unset, .unset, .unset, .unset] [(.int r_808)]) := fun t_ k_ => R807 t_ (st808.trans k_)
  have cc0 := p808_0
  obtain ⟨c0, hc0⟩ : ∃ z : Int32, z = r_808 := ⟨_, rfl⟩
  have R811 : Go p e below P T808 (mkF m 27 #[.val (.int i0), .val (.long i1), .second, .val (.int i2), .val (.int n_), .val (.int lf), .unset, .unset, .unset, .unset, .unset, .unset, .unset, .unset, .unset, .unset, .unset] [(.int c0)]) := by rw [hc0]; exact R810
  have cb0 : nar .char c0 = c0 ∧ ¬ c0 < 0 ∧ ¬ (255 : Int32) < c0 := by rw [hc0]; exact cc0
  have R812 : Go p e below P T808 (mkF m 29 #[.val (.int i0), .val (.long i1), .second, .val (.int i2), .val (.int n_), .val (.int lf), .val (.int c0), .unset, .unset, .unset, .unset, .unset, .unset, .unset, .unset, .unset, .unset] []) := fun t_ k_ => R811 t_ (XS.istore X808.here hx rfl (hb hby at_27) rfl (l' := #[.val (.int i0), .val (.long i1), .second, .val (.int i2), .val (.int n_), .val (.int lf), .val (.int c0), .unset, .unset, .unset, .unset, .unset, .unset, .unset, .unset, .unset, .unset]) rfl k_)
  have R813 : Go p e below P T808 (mkF m 30 #[.val (.int i0), .val (.long i1), .second, .val (.int i2), .val (.int n_), .val (.int lf), .val (.int c0), .unset, .unset, .unset, .unset, .unset, .unset, .unset, .unset, .unset, .unset] [(.long i1)]) := fun t_ k_ => R812 t_ (XS.lloadN X808.here hx rfl (hb hby at_29) rfl k_)
  have R814 : Go p e below P T808 (mkF m 31 #[.val (.int i0), .val (.long i1), .second, .val (.int i2), .val (.int n_), .val (.int lf), .val (.int c0), .unset, .unset, .unset, .unset, .unset, .unset, .unset, .unset, .unset, .unset] [(.int (1 : Int32)), (.long i1)]) := fun t_ k_ => R813 t_ (XS.iconst X808.here hx rfl (hb hby at_30) k_)
  have R815 : Go p e below P T808 (mkF m 32 #[.val (.int i0), .val (.long i1), .second, .val (.int i2), .val (.int n_), .val (.int lf), .val (.int c0), .unset, .unset, .unset, .unset, .unset, .unset, .unset, .unset, .unset, .unset] [(.int i2), (.int (1 : Int32)), (.long i1)]) := fun t_ k_ => R814 t_ (XS.iloadN X808.here hx rfl (hb hby at_31) rfl k_)
  have R816 : Go p e below P T808 (mkF m 34 #[.val (.int i0), .val (.long i1), .second, .val (.int i2), .val (.int n_), .val (.int lf), .val (.int c0), .unset, .unset, .unset, .unset, .unset, .unset, .unset, .unset, .unset, .unset] [(.int lf), (.int i2), (.int (1 : Int32)), (.long i1)]) := fun t_ k_ => R815 t_ (XS.iload X808.here hx rfl (hb hby at_32) rfl k_)
  obtain ⟨rv817, _, ⟨T817, L817, k817, n817⟩, -, X817, hT817, hG817, ⟨Lc817, hQ817, l817, y817, z817, hC817⟩, st817⟩ := callSS X808 hx (y := (⟨"com/example/toekit/toekit/cli/ArgumentsIsHelpPinLaw", "pick", "(JIIZ)C"⟩ : MethodName)) hown (mvT hZ (hw _ (List.mem_of_getElem? (i := 0) rfl))) (mvT hZ (hw _ (List.mem_of_getElem? (i := 1) rfl))) (mvT hZ (hw _ (List.mem_of_getElem? (i := 2) rfl))) (mvT hZ (hw _ (List.mem_of_getElem? (i := 3) rfl))) (by decide) (backOfSH (W := 0) (pick1_ l Z a0 hw [] i1 i2 lf zc fm T808.heap n0 O808 hEL P0 P1 hzc hfm) hZ (hw _ (List.mem_of_getElem? (i := 3) rfl)) (hw _ (List.mem_of_getElem? (i := 2) rfl)) (by decide) (by decide) hEL C809.1) (g := (mkF m 34 #[.val (.int i0), .val (.long i1), .second, .val (.int i2), .val (.int n_), .val (.int lf), .val (.int c0), .unset, .unset, .unset, .unset, .unset, .unset, .unset, .unset, .unset, .unset] [(.int lf), (.int i2), (.int (1 : Int32)), (.long i1)])) rfl (by rw [hml]; rfl) (argsL := [(.long i1), (.int (1 : Int32)), (.int i2), (.int lf)]) (rest := []) (lenOf pd_25465895 rfl) rfl (by show 2 * 0 + _ ≤ _; exact Nat.le_of_eq rfl) (hb hby at_34) (fun _ _ => ⟨rfl, (rfl : T808.heap = T808.heap), (by decide : 2 + 2 ≤ _), (by decide : 28 + 28 ≤ _)⟩)
  dsimp only [Pt.U, Pt.locs, Pt.cells, Pt.slots] at X817 hT817 hG817 l817 y817 z817 hC817 st817 hQ817
  subst l817 y817 z817
  obtain ⟨X817, hS817, hZ, hown⟩ := rebS hS808 (by rw [(rfl : T808.heap = T808.heap)]; exact hk808) X817 hT817 hG817 hZ hown
  have hk817 : T817.heap.size ≤ T817.heap.size := Nat.le_refl _
  obtain ⟨r_817, rfl, N817q, K817, p817_0⟩ := hQ817
  have N817 := Fr.app N808 N817q
  have O817 := O808.keep K817 all0
  have C818 := C809.trans hC817
  have R819 : Go p e below P T817 (mkF m 37 #[.val (.int i0), .val (.long i1), .second, .val (.int i2), .val (.int n_), .val (.int lf), .val (.int c0), .unset, .unset, .unset, .unset, .unset, .unset, .unset, .unset, .unset, .unset] [(.int r_817)]) := fun t_ k_ => R816 t_ (st817.trans k_)
  have cc1 := p817_0
  obtain ⟨c1, hc1⟩ : ∃ z : Int32, z = r_817 := ⟨_, rfl⟩
  have R820 : Go p e below P T817 (mkF m 37 #[.val (.int i0), .val (.long i1), .second, .val (.int i2), .val (.int n_), .val (.int lf), .val (.int c0), .unset, .unset, .unset, .unset, .unset, .unset, .unset, .unset, .unset, .unset] [(.int c1)]) := by rw [hc1]; exact R819
  have cb1 : nar .char c1 = c1 ∧ ¬ c1 < 0 ∧ ¬ (255 : Int32) < c1 := by rw [hc1]; exact cc1
  have R821 : Go p e below P T817 (mkF m 39 #[.val (.int i0), .val (.long i1), .second, .val (.int i2), .val (.int n_), .val (.int lf), .val (.int c0), .val (.int c1), .unset, .unset, .unset, .unset, .unset, .unset, .unset, .unset, .unset] []) := fun t_ k_ => R820 t_ (XS.istore X817.here hx rfl (hb hby at_37) rfl (l' := #[.val (.int i0), .val (.long i1), .second, .val (.int i2), .val (.int n_), .val (.int lf), .val (.int c0), .val (.int c1), .unset, .unset, .unset, .unset, .unset, .unset, .unset, .unset, .unset]) rfl k_)
  have R822 : Go p e below P T817 (mkF m 40 #[.val (.int i0), .val (.long i1), .second, .val (.int i2), .val (.int n_), .val (.int lf), .val (.int c0), .val (.int c1), .unset, .unset, .unset, .unset, .unset, .unset, .unset, .unset, .unset] [(.long i1)]) := fun t_ k_ => R821 t_ (XS.lloadN X817.here hx rfl (hb hby at_39) rfl k_)
  have R823 : Go p e below P T817 (mkF m 41 #[.val (.int i0), .val (.long i1), .second, .val (.int i2), .val (.int n_), .val (.int lf), .val (.int c0), .val (.int c1), .unset, .unset, .unset, .unset, .unset, .unset, .unset, .unset, .unset] [(.int (2 : Int32)), (.long i1)]) := fun t_ k_ => R822 t_ (XS.iconst X817.here hx rfl (hb hby at_40) k_)
  have R824 : Go p e below P T817 (mkF m 42 #[.val (.int i0), .val (.long i1), .second, .val (.int i2), .val (.int n_), .val (.int lf), .val (.int c0), .val (.int c1), .unset, .unset, .unset, .unset, .unset, .unset, .unset, .unset, .unset] [(.int i2), (.int (2 : Int32)), (.long i1)]) := fun t_ k_ => R823 t_ (XS.iloadN X817.here hx rfl (hb hby at_41) rfl k_)
  have R825 : Go p e below P T817 (mkF m 44 #[.val (.int i0), .val (.long i1), .second, .val (.int i2), .val (.int n_), .val (.int lf), .val (.int c0), .val (.int c1), .unset, .unset, .unset, .unset, .unset, .unset, .unset, .unset, .unset] [(.int lf), (.int i2), (.int (2 : Int32)), (.long i1)]) := fun t_ k_ => R824 t_ (XS.iload X817.here hx rfl (hb hby at_42) rfl k_)
  obtain ⟨rv826, _, ⟨T826, L826, k826, n826⟩, -, X826, hT826, hG826, ⟨Lc826, hQ826, l826, y826, z826, hC826⟩, st826⟩ := callSS X817 hx (y := (⟨"com/example/toekit/toekit/cli/ArgumentsIsHelpPinLaw", "pick", "(JIIZ)C"⟩ : MethodName)) hown (mvT hZ (hw _ (List.mem_of_getElem? (i := 0) rfl))) (mvT hZ (hw _ (List.mem_of_getElem? (i := 1) rfl))) (mvT hZ (hw _ (List.mem_of_getElem? (i := 2) rfl))) (mvT hZ (hw _ (List.mem_of_getElem? (i := 3) rfl))) (by decide) (backOfSH (W := 0) (pick2_ l Z a0 hw [] i1 i2 lf zc fm T817.heap n0 O817 hEL P0 P1 hzc hfm) hZ (hw _ (List.mem_of_getElem? (i := 3) rfl)) (hw _ (List.mem_of_getElem? (i := 2) rfl)) (by decide) (by decide) hEL C818.1) (g := (mkF m 44 #[.val (.int i0), .val (.long i1), .second, .val (.int i2), .val (.int n_), .val (.int lf), .val (.int c0), .val (.int c1), .unset, .unset, .unset, .unset, .unset, .unset, .unset, .unset, .unset] [(.int lf), (.int i2), (.int (2 : Int32)), (.long i1)])) rfl (by rw [hml]; rfl) (argsL := [(.long i1), (.int (2 : Int32)), (.int i2), (.int lf)]) (rest := []) (lenOf pd_25465895 rfl) rfl (by show 2 * 0 + _ ≤ _; exact Nat.le_of_eq rfl) (hb hby at_44) (fun _ _ => ⟨rfl, (rfl : T817.heap = T817.heap), (by decide : 4 + 2 ≤ _), (by decide : 56 + 28 ≤ _)⟩)
  dsimp only [Pt.U, Pt.locs, Pt.cells, Pt.slots] at X826 hT826 hG826 l826 y826 z826 hC826 st826 hQ826
  subst l826 y826 z826
  obtain ⟨X826, hS826, hZ, hown⟩ := rebS hS817 (by rw [(rfl : T817.heap = T817.heap)]; exact hk817) X826 hT826 hG826 hZ hown
  have hk826 : T826.heap.size ≤ T826.heap.size := Nat.le_refl _
  obtain ⟨r_826, rfl, N826q, K826, p826_0⟩ := hQ826
  have N826 := Fr.app N817 N826q
  have O826 := O817.keep K826 all0
  have C827 := C818.trans hC826
  have R828 : Go p e below P T826 (mkF m 47 #[.val (.int i0), .val (.long i1), .second, .val (.int i2), .val (.int n_), .val (.int lf), .val (.int c0), .val (.int c1), .unset, .unset, .unset, .unset, .unset, .unset, .unset, .unset, .unset] [(.int r_826)]) := fun t_ k_ => R825 t_ (st826.trans k_)
  have cc2 := p826_0
  obtain ⟨c2, hc2⟩ : ∃ z : Int32, z = r_826 := ⟨_, rfl⟩
  have R829 : Go p e below P T826 (mkF m 47 #[.val (.int i0), .val (.long i1), .second, .val (.int i2), .val (.int n_), .val (.int lf), .val (.int c0), .val (.int c1), .unset, .unset, .unset, .unset, .unset, .unset, .unset, .unset, .unset] [(.int c2)]) := by rw [hc2]; exact R828
  have cb2 : nar .char c2 = c2 ∧ ¬ c2 < 0 ∧ ¬ (255 : Int32) < c2 := by rw [hc2]; exact cc2
  have R830 : Go p e below P T826 (mkF m 49 #[.val (.int i0), .val (.long i1), .second, .val (.int i2), .val (.int n_), .val (.int lf), .val (.int c0), .val (.int c1), .val (.int c2), .unset, .unset, .unset, .unset, .unset, .unset, .unset, .unset] []) := fun t_ k_ => R829 t_ (XS.istore X826.here hx rfl (hb hby at_47) rfl (l' := #[.val (.int i0), .val (.long i1), .second, .val (.int i2), .val (.int n_), .val (.int lf), .val (.int c0), .val (.int c1), .val (.int c2), .unset, .unset, .unset, .unset, .unset, .unset, .unset, .unset]) rfl k_)
  have R831 : Go p e below P T826 (mkF m 50 #[.val (.int i0), .val (.long i1), .second, .val (.int i2), .val (.int n_), .val (.int lf), .val (.int c0), .val (.int c1), .val (.int c2), .unset, .unset, .unset, .unset, .unset, .unset, .unset, .unset] [(.long i1)]) := fun t_ k_ => R830 t_ (XS.lloadN X826.here hx rfl (hb hby at_49) rfl k_)
  have R832 : Go p e below P T826 (mkF m 51 #[.val (.int i0), .val (.long i1), .second, .val (.int i2), .val (.int n_), .val (.int lf), .val (.int c0), .val (.int c1), .val (.int c2), .unset, .unset, .unset, .unset, .unset, .unset, .unset, .unset] [(.int (3 : Int32)), (.long i1)]) := fun t_ k_ => R831 t_ (XS.iconst X826.here hx rfl (hb hby at_50) k_)
  have R833 : Go p e below P T826 (mkF m 52 #[.val (.int i0), .val (.long i1), .second, .val (.int i2), .val (.int n_), .val (.int lf), .val (.int c0), .val (.int c1), .val (.int c2), .unset, .unset, .unset, .unset, .unset, .unset, .unset, .unset] [(.int i2), (.int (3 : Int32)), (.long i1)]) := fun t_ k_ => R832 t_ (XS.iloadN X826.here hx rfl (hb hby at_51) rfl k_)
  have R834 : Go p e below P T826 (mkF m 54 #[.val (.int i0), .val (.long i1), .second, .val (.int i2), .val (.int n_), .val (.int lf), .val (.int c0), .val (.int c1), .val (.int c2), .unset, .unset, .unset, .unset, .unset, .unset, .unset, .unset] [(.int lf), (.int i2), (.int (3 : Int32)), (.long i1)]) := fun t_ k_ => R833 t_ (XS.iload X826.here hx rfl (hb hby at_52) rfl k_)
  obtain ⟨rv835, _, ⟨T835, L835, k835, n835⟩, -, X835, hT835, hG835, ⟨Lc835, hQ835, l835, y835, z835, hC835⟩, st835⟩ := callSS X826 hx (y := (⟨"com/example/toekit/toekit/cli/ArgumentsIsHelpPinLaw", "pick", "(JIIZ)C"⟩ : MethodName)) hown (mvT hZ (hw _ (List.mem_of_getElem? (i := 0) rfl))) (mvT hZ (hw _ (List.mem_of_getElem? (i := 1) rfl))) (mvT hZ (hw _ (List.mem_of_getElem? (i := 2) rfl))) (mvT hZ (hw _ (List.mem_of_getElem? (i := 3) rfl))) (by decide) (backOfSH (W := 0) (pick3_ l Z a0 hw [] i1 i2 lf zc fm T826.heap n0 O826 hEL P0 P1 hzc hfm) hZ (hw _ (List.mem_of_getElem? (i := 3) rfl)) (hw _ (List.mem_of_getElem? (i := 2) rfl)) (by decide) (by decide) hEL C827.1) (g := (mkF m 54 #[.val (.int i0), .val (.long i1), .second, .val (.int i2), .val (.int n_), .val (.int lf), .val (.int c0), .val (.int c1), .val (.int c2), .unset, .unset, .unset, .unset, .unset, .unset, .unset, .unset] [(.int lf), (.int i2), (.int (3 : Int32)), (.long i1)])) rfl (by rw [hml]; rfl) (argsL := [(.long i1), (.int (3 : Int32)), (.int i2), (.int lf)]) (rest := []) (lenOf pd_25465895 rfl) rfl (by show 2 * 0 + _ ≤ _; exact Nat.le_of_eq rfl) (hb hby at_54) (fun _ _ => ⟨rfl, (rfl : T826.heap = T826.heap), (by decide : 6 + 2 ≤ _), (by decide : 84 + 28 ≤ _)⟩)
  dsimp only [Pt.U, Pt.locs, Pt.cells, Pt.slots] at X835 hT835 hG835 l835 y835 z835 hC835 st835 hQ835
  subst l835 y835 z835
  obtain ⟨X835, hS835, hZ, hown⟩ := rebS hS826 (by rw [(rfl : T826.heap = T826.heap)]; exact hk826) X835 hT835 hG835 hZ hown
  have hk835 : T835.heap.size ≤ T835.heap.size := Nat.le_refl _
  obtain ⟨r_835, rfl, N835q, K835, p835_0⟩ := hQ835
  have N835 := Fr.app N826 N835q
  have O835 := O826.keep K835 all0
  have C836 := C827.trans hC835
  have R837 : Go p e below P T835 (mkF m 57 #[.val (.int i0), .val (.long i1), .second, .val (.int i2), .val (.int n_), .val (.int lf), .val (.int c0), .val (.int c1), .val (.int c2), .unset, .unset, .unset, .unset, .unset, .unset, .unset, .unset] [(.int r_835)]) := fun t_ k_ => R834 t_ (st835.trans k_)
  have cc3 := p835_0
  obtain ⟨c3, hc3⟩ : ∃ z : Int32, z = r_835 := ⟨_, rfl⟩
  have R838 : Go p e below P T835 (mkF m 57 #[.val (.int i0), .val (.long i1), .second, .val (.int i2), .val (.int n_), .val (.int lf), .val (.int c0), .val (.int c1), .val (.int c2), .unset, .unset, .unset, .unset, .unset, .unset, .unset, .unset] [(.int c3)]) := by rw [hc3]; exact R837
  have cb3 : nar .char c3 = c3 ∧ ¬ c3 < 0 ∧ ¬ (255 : Int32) < c3 := by rw [hc3]; exact cc3
  have R839 : Go p e below P T835 (mkF m 59 #[.val (.int i0), .val (.long i1), .second, .val (.int i2), .val (.int n_), .val (.int lf), .val (.int c0), .val (.int c1), .val (.int c2), .val (.int c3), .unset, .unset, .unset, .unset, .unset, .unset, .unset] []) := fun t_ k_ => R838 t_ (XS.istore X835.here hx rfl (hb hby at_57) rfl (l' := #[.val (.int i0), .val (.long i1), .second, .val (.int i2), .val (.int n_), .val (.int lf), .val (.int c0), .val (.int c1), .val (.int c2), .val (.int c3), .unset, .unset, .unset, .unset, .unset, .unset, .unset]) rfl k_)
  have R840 : Go p e below P T835 (mkF m 60 #[.val (.int i0), .val (.long i1), .second, .val (.int i2), .val (.int n_), .val (.int lf), .val (.int c0), .val (.int c1), .val (.int c2), .val (.int c3), .unset, .unset, .unset, .unset, .unset, .unset, .unset] [(.long i1)]) := fun t_ k_ => R839 t_ (XS.lloadN X835.here hx rfl (hb hby at_59) rfl k_)
  have R841 : Go p e below P T835 (mkF m 61 #[.val (.int i0), .val (.long i1), .second, .val (.int i2), .val (.int n_), .val (.int lf), .val (.int c0), .val (.int c1), .val (.int c2), .val (.int c3), .unset, .unset, .unset, .unset, .unset, .unset, .unset] [(.int (4 : Int32)), (.long i1)]) := fun t_ k_ => R840 t_ (XS.iconst X835.here hx rfl (hb hby at_60) k_)
  have R842 : Go p e below P T835 (mkF m 62 #[.val (.int i0), .val (.long i1), .second, .val (.int i2), .val (.int n_), .val (.int lf), .val (.int c0), .val (.int c1), .val (.int c2), .val (.int c3), .unset, .unset, .unset, .unset, .unset, .unset, .unset] [(.int i2), (.int (4 : Int32)), (.long i1)]) := fun t_ k_ => R841 t_ (XS.iloadN X835.here hx rfl (hb hby at_61) rfl k_)
  have R843 : Go p e below P T835 (mkF m 64 #[.val (.int i0), .val (.long i1), .second, .val (.int i2), .val (.int n_), .val (.int lf), .val (.int c0), .val (.int c1), .val (.int c2), .val (.int c3), .unset, .unset, .unset, .unset, .unset, .unset, .unset] [(.int lf), (.int i2), (.int (4 : Int32)), (.long i1)]) := fun t_ k_ => R842 t_ (XS.iload X835.here hx rfl (hb hby at_62) rfl k_)
  obtain ⟨rv844, _, ⟨T844, L844, k844, n844⟩, -, X844, hT844, hG844, ⟨Lc844, hQ844, l844, y844, z844, hC844⟩, st844⟩ := callSS X835 hx (y := (⟨"com/example/toekit/toekit/cli/ArgumentsIsHelpPinLaw", "pick", "(JIIZ)C"⟩ : MethodName)) hown (mvT hZ (hw _ (List.mem_of_getElem? (i := 0) rfl))) (mvT hZ (hw _ (List.mem_of_getElem? (i := 1) rfl))) (mvT hZ (hw _ (List.mem_of_getElem? (i := 2) rfl))) (mvT hZ (hw _ (List.mem_of_getElem? (i := 3) rfl))) (by decide) (backOfSH (W := 0) (pick4_ l Z a0 hw [] i1 i2 lf zc fm T835.heap n0 O835 hEL P0 P1 hzc hfm) hZ (hw _ (List.mem_of_getElem? (i := 3) rfl)) (hw _ (List.mem_of_getElem? (i := 2) rfl)) (by decide) (by decide) hEL C836.1) (g := (mkF m 64 #[.val (.int i0), .val (.long i1), .second, .val (.int i2), .val (.int n_), .val (.int lf), .val (.int c0), .val (.int c1), .val (.int c2), .val (.int c3), .unset, .unset, .unset, .unset, .unset, .unset, .unset] [(.int lf), (.int i2), (.int (4 : Int32)), (.long i1)])) rfl (by rw [hml]; rfl) (argsL := [(.long i1), (.int (4 : Int32)), (.int i2), (.int lf)]) (rest := []) (lenOf pd_25465895 rfl) rfl (by show 2 * 0 + _ ≤ _; exact Nat.le_of_eq rfl) (hb hby at_64) (fun _ _ => ⟨rfl, (rfl : T835.heap = T835.heap), (by decide : 8 + 2 ≤ _), (by decide : 112 + 28 ≤ _)⟩)
  dsimp only [Pt.U, Pt.locs, Pt.cells, Pt.slots] at X844 hT844 hG844 l844 y844 z844 hC844 st844 hQ844
  subst l844 y844 z844
  obtain ⟨X844, hS844, hZ, hown⟩ := rebS hS835 (by rw [(rfl : T835.heap = T835.heap)]; exact hk835) X844 hT844 hG844 hZ hown
  have hk844 : T844.heap.size ≤ T844.heap.size := Nat.le_refl _
  obtain ⟨r_844, rfl, N844q, K844, p844_0⟩ := hQ844
  have N844 := Fr.app N835 N844q
  have O844 := O835.keep K844 all0
  have C845 := C836.trans hC844
  have R846 : Go p e below P T844 (mkF m 67 #[.val (.int i0), .val (.long i1), .second, .val (.int i2), .val (.int n_), .val (.int lf), .val (.int c0), .val (.int c1), .val (.int c2), .val (.int c3), .unset, .unset, .unset, .unset, .unset, .unset, .unset] [(.int r_844)]) := fun t_ k_ => R843 t_ (st844.trans k_)
  have cc4 := p844_0
  obtain ⟨c4, hc4⟩ : ∃ z : Int32, z = r_844 := ⟨_, rfl⟩
  have R847 : Go p e below P T844 (mkF m 67 #[.val (.int i0), .val (.long i1), .second, .val (.int i2), .val (.int n_), .val (.int lf), .val (.int c0), .val (.int c1), .val (.int c2), .val (.int c3), .unset, .unset, .unset, .unset, .unset, .unset, .unset] [(.int c4)]) := by rw [hc4]; exact R846
  have cb4 : nar .char c4 = c4 ∧ ¬ c4 < 0 ∧ ¬ (255 : Int32) < c4 := by rw [hc4]; exact cc4
  have R848 : Go p e below P T844 (mkF m 69 #[.val (.int i0), .val (.long i1), .second, .val (.int i2), .val (.int n_), .val (.int lf), .val (.int c0), .val (.int c1), .val (.int c2), .val (.int c3), .val (.int c4), .unset, .unset, .unset, .unset, .unset, .unset] []) := fun t_ k_ => R847 t_ (XS.istore X844.here hx rfl (hb hby at_67) rfl (l' := #[.val (.int i0), .val (.long i1), .second, .val (.int i2), .val (.int n_), .val (.int lf), .val (.int c0), .val (.int c1), .val (.int c2), .val (.int c3), .val (.int c4), .unset, .unset, .unset, .unset, .unset, .unset]) rfl k_)
  have R849 : Go p e below P T844 (mkF m 70 #[.val (.int i0), .val (.long i1), .second, .val (.int i2), .val (.int n_), .val (.int lf), .val (.int c0), .val (.int c1), .val (.int c2), .val (.int c3), .val (.int c4), .unset, .unset, .unset, .unset, .unset, .unset] [(.long i1)]) := fun t_ k_ => R848 t_ (XS.lloadN X844.here hx rfl (hb hby at_69) rfl k_)
  have R850 : Go p e below P T844 (mkF m 71 #[.val (.int i0), .val (.long i1), .second, .val (.int i2), .val (.int n_), .val (.int lf), .val (.int c0), .val (.int c1), .val (.int c2), .val (.int c3), .val (.int c4), .unset, .unset, .unset, .unset, .unset, .unset] [(.int (5 : Int32)), (.long i1)]) := fun t_ k_ => R849 t_ (XS.iconst X844.here hx rfl (hb hby at_70) k_)
  have R851 : Go p e below P T844 (mkF m 72 #[.val (.int i0), .val (.long i1), .second, .val (.int i2), .val (.int n_), .val (.int lf), .val (.int c0), .val (.int c1), .val (.int c2), .val (.int c3), .val (.int c4), .unset, .unset, .unset, .unset, .unset, .unset] [(.int i2), (.int (5 : Int32)), (.long i1)]) := fun t_ k_ => R850 t_ (XS.iloadN X844.here hx rfl (hb hby at_71) rfl k_)
  have R852 : Go p e below P T844 (mkF m 74 #[.val (.int i0), .val (.long i1), .second, .val (.int i2), .val (.int n_), .val (.int lf), .val (.int c0), .val (.int c1), .val (.int c2), .val (.int c3), .val (.int c4), .unset, .unset, .unset, .unset, .unset, .unset] [(.int lf), (.int i2), (.int (5 : Int32)), (.long i1)]) := fun t_ k_ => R851 t_ (XS.iload X844.here hx rfl (hb hby at_72) rfl k_)
  obtain ⟨rv853, _, ⟨T853, L853, k853, n853⟩, -, X853, hT853, hG853, ⟨Lc853, hQ853, l853, y853, z853, hC853⟩, st853⟩ := callSS X844 hx (y := (⟨"com/example/toekit/toekit/cli/ArgumentsIsHelpPinLaw", "pick", "(JIIZ)C"⟩ : MethodName)) hown (mvT hZ (hw _ (List.mem_of_getElem? (i := 0) rfl))) (mvT hZ (hw _ (List.mem_of_getElem? (i := 1) rfl))) (mvT hZ (hw _ (List.mem_of_getElem? (i := 2) rfl))) (mvT hZ (hw _ (List.mem_of_getElem? (i := 3) rfl))) (by decide) (backOfSH (W := 0) (pick5_ l Z a0 hw [] i1 i2 lf zc fm T844.heap n0 O844 hEL P0 P1 hzc hfm) hZ (hw _ (List.mem_of_getElem? (i := 3) rfl)) (hw _ (List.mem_of_getElem? (i := 2) rfl)) (by decide) (by decide) hEL C845.1) (g := (mkF m 74 #[.val (.int i0), .val (.long i1), .second, .val (.int i2), .val (.int n_), .val (.int lf), .val (.int c0), .val (.int c1), .val (.int c2), .val (.int c3), .val (.int c4), .unset, .unset, .unset, .unset, .unset, .unset] [(.int lf), (.int i2), (.int (5 : Int32)), (.long i1)])) rfl (by rw [hml]; rfl) (argsL := [(.long i1), (.int (5 : Int32)), (.int i2), (.int lf)]) (rest := []) (lenOf pd_25465895 rfl) rfl (by show 2 * 0 + _ ≤ _; exact Nat.le_of_eq rfl) (hb hby at_74) (fun _ _ => ⟨rfl, (rfl : T844.heap = T844.heap), (by decide : 10 + 2 ≤ _), (by decide : 140 + 28 ≤ _)⟩)
  dsimp only [Pt.U, Pt.locs, Pt.cells, Pt.slots] at X853 hT853 hG853 l853 y853 z853 hC853 st853 hQ853
  subst l853 y853 z853
  obtain ⟨X853, hS853, hZ, hown⟩ := rebS hS844 (by rw [(rfl : T844.heap = T844.heap)]; exact hk844) X853 hT853 hG853 hZ hown
  have hk853 : T853.heap.size ≤ T853.heap.size := Nat.le_refl _
  obtain ⟨r_853, rfl, N853q, K853, p853_0⟩ := hQ853
  have N853 := Fr.app N844 N853q
  have O853 := O844.keep K853 all0
  have C854 := C845.trans hC853
  have R855 : Go p e below P T853 (mkF m 77 #[.val (.int i0), .val (.long i1), .second, .val (.int i2), .val (.int n_), .val (.int lf), .val (.int c0), .val (.int c1), .val (.int c2), .val (.int c3), .val (.int c4), .unset, .unset, .unset, .unset, .unset, .unset] [(.int r_853)]) := fun t_ k_ => R852 t_ (st853.trans k_)
  have cc5 := p853_0
  obtain ⟨c5, hc5⟩ : ∃ z : Int32, z = r_853 := ⟨_, rfl⟩
  have R856 : Go p e below P T853 (mkF m 77 #[.val (.int i0), .val (.long i1), .second, .val (.int i2), .val (.int n_), .val (.int lf), .val (.int c0), .val (.int c1), .val (.int c2), .val (.int c3), .val (.int c4), .unset, .unset, .unset, .unset, .unset, .unset] [(.int c5)]) := by rw [hc5]; exact R855
  have cb5 : nar .char c5 = c5 ∧ ¬ c5 < 0 ∧ ¬ (255 : Int32) < c5 := by rw [hc5]; exact cc5
  have R857 : Go p e below P T853 (mkF m 79 #[.val (.int i0), .val (.long i1), .second, .val (.int i2), .val (.int n_), .val (.int lf), .val (.int c0), .val (.int c1), .val (.int c2), .val (.int c3), .val (.int c4), .val (.int c5), .unset, .unset, .unset, .unset, .unset] []) := fun t_ k_ => R856 t_ (XS.istore X853.here hx rfl (hb hby at_77) rfl (l' := #[.val (.int i0), .val (.long i1), .second, .val (.int i2), .val (.int n_), .val (.int lf), .val (.int c0), .val (.int c1), .val (.int c2), .val (.int c3), .val (.int c4), .val (.int c5), .unset, .unset, .unset, .unset, .unset]) rfl k_)
  have R858 : Go p e below P T853 (mkF m 80 #[.val (.int i0), .val (.long i1), .second, .val (.int i2), .val (.int n_), .val (.int lf), .val (.int c0), .val (.int c1), .val (.int c2), .val (.int c3), .val (.int c4), .val (.int c5), .unset, .unset, .unset, .unset, .unset] [(.long i1)]) := fun t_ k_ => R857 t_ (XS.lloadN X853.here hx rfl (hb hby at_79) rfl k_)
  have R859 : Go p e below P T853 (mkF m 82 #[.val (.int i0), .val (.long i1), .second, .val (.int i2), .val (.int n_), .val (.int lf), .val (.int c0), .val (.int c1), .val (.int c2), .val (.int c3), .val (.int c4), .val (.int c5), .unset, .unset, .unset, .unset, .unset] [(.int (6 : Int32)), (.long i1)]) := fun t_ k_ => R858 t_ (XS.bipush X853.here hx rfl (hb hby at_80) k_)
  have R860 : Go p e below P T853 (mkF m 83 #[.val (.int i0), .val (.long i1), .second, .val (.int i2), .val (.int n_), .val (.int lf), .val (.int c0), .val (.int c1), .val (.int c2), .val (.int c3), .val (.int c4), .val (.int c5), .unset, .unset, .unset, .unset, .unset] [(.int i2), (.int (6 : Int32)), (.long i1)]) := fun t_ k_ => R859 t_ (XS.iloadN X853.here hx rfl (hb hby at_82) rfl k_)
  have R861 : Go p e below P T853 (mkF m 85 #[.val (.int i0), .val (.long i1), .second, .val (.int i2), .val (.int n_), .val (.int lf), .val (.int c0), .val (.int c1), .val (.int c2), .val (.int c3), .val (.int c4), .val (.int c5), .unset, .unset, .unset, .unset, .unset] [(.int lf), (.int i2), (.int (6 : Int32)), (.long i1)]) := fun t_ k_ => R860 t_ (XS.iload X853.here hx rfl (hb hby at_83) rfl k_)
  obtain ⟨rv862, _, ⟨T862, L862, k862, n862⟩, -, X862, hT862, hG862, ⟨Lc862, hQ862, l862, y862, z862, hC862⟩, st862⟩ := callSS X853 hx (y := (⟨"com/example/toekit/toekit/cli/ArgumentsIsHelpPinLaw", "pick", "(JIIZ)C"⟩ : MethodName)) hown (mvT hZ (hw _ (List.mem_of_getElem? (i := 0) rfl))) (mvT hZ (hw _ (List.mem_of_getElem? (i := 1) rfl))) (mvT hZ (hw _ (List.mem_of_getElem? (i := 2) rfl))) (mvT hZ (hw _ (List.mem_of_getElem? (i := 3) rfl))) (by decide) (backOfSH (W := 0) (pick6_ l Z a0 hw [] i1 i2 lf zc fm T853.heap n0 O853 hEL P0 P1 hzc hfm) hZ (hw _ (List.mem_of_getElem? (i := 3) rfl)) (hw _ (List.mem_of_getElem? (i := 2) rfl)) (by decide) (by decide) hEL C854.1) (g := (mkF m 85 #[.val (.int i0), .val (.long i1), .second, .val (.int i2), .val (.int n_), .val (.int lf), .val (.int c0), .val (.int c1), .val (.int c2), .val (.int c3), .val (.int c4), .val (.int c5), .unset, .unset, .unset, .unset, .unset] [(.int lf), (.int i2), (.int (6 : Int32)), (.long i1)])) rfl (by rw [hml]; rfl) (argsL := [(.long i1), (.int (6 : Int32)), (.int i2), (.int lf)]) (rest := []) (lenOf pd_25465895 rfl) rfl (by show 2 * 0 + _ ≤ _; exact Nat.le_of_eq rfl) (hb hby at_85) (fun _ _ => ⟨rfl, (rfl : T853.heap = T853.heap), (by decide : 12 + 0 ≤ _), (by decide : 168 + 0 ≤ _)⟩)
  dsimp only [Pt.U, Pt.locs, Pt.cells, Pt.slots] at X862 hT862 hG862 l862 y862 z862 hC862 st862 hQ862
  subst l862 y862 z862
  obtain ⟨X862, hS862, hZ, hown⟩ := rebS hS853 (by rw [(rfl : T853.heap = T853.heap)]; exact hk853) X862 hT862 hG862 hZ hown
  have hk862 : T862.heap.size ≤ T862.heap.size := Nat.le_refl _
  obtain ⟨r_862, rfl, N862q, K862, p862_0⟩ := hQ862
  have N862 := Fr.app N853 N862q
  have O862 := O853.keep K862 all0
  have C863 := C854.trans hC862
  have R864 : Go p e below P T862 (mkF m 88 #[.val (.int i0), .val (.long i1), .second, .val (.int i2), .val (.int n_), .val (.int lf), .val (.int c0), .val (.int c1), .val (.int c2), .val (.int c3), .val (.int c4), .val (.int c5), .unset, .unset, .unset, .unset, .unset] [(.int r_862)]) := fun t_ k_ => R861 t_ (st862.trans k_)
  have cc6 := p862_0
  obtain ⟨c6, hc6⟩ : ∃ z : Int32, z = r_862 := ⟨_, rfl⟩
  have R865 : Go p e below P T862 (mkF m 88 #[.val (.int i0), .val (.long i1), .second, .val (.int i2), .val (.int n_), .val (.int lf), .val (.int c0), .val (.int c1), .val (.int c2), .val (.int c3), .val (.int c4), .val (.int c5), .unset, .unset, .unset, .unset, .unset] [(.int c6)]) := by rw [hc6]; exact R864
  have cb6 : nar .char c6 = c6 ∧ ¬ c6 < 0 ∧ ¬ (255 : Int32) < c6 := by rw [hc6]; exact cc6
  have R866 : Go p e below P T862 (mkF m 90 #[.val (.int i0), .val (.long i1), .second, .val (.int i2), .val (.int n_), .val (.int lf), .val (.int c0), .val (.int c1), .val (.int c2), .val (.int c3), .val (.int c4), .val (.int c5), .val (.int c6), .unset, .unset, .unset, .unset] []) := fun t_ k_ => R865 t_ (XS.istore X862.here hx rfl (hb hby at_88) rfl (l' := #[.val (.int i0), .val (.long i1), .second, .val (.int i2), .val (.int n_), .val (.int lf), .val (.int c0), .val (.int c1), .val (.int c2), .val (.int c3), .val (.int c4), .val (.int c5), .val (.int c6), .unset, .unset, .unset, .unset]) rfl k_)
  have R867 : Go p e below P T862 (mkF m 92 #[.val (.int i0), .val (.long i1), .second, .val (.int i2), .val (.int n_), .val (.int lf), .val (.int c0), .val (.int c1), .val (.int c2), .val (.int c3), .val (.int c4), .val (.int c5), .val (.int c6), .unset, .unset, .unset, .unset] [(.int n_)]) := fun t_ k_ => R866 t_ (XS.iload X862.here hx rfl (hb hby at_90) rfl k_)
  have R868 : Go p e below P T862 (mkF m 94 #[.val (.int i0), .val (.long i1), .second, .val (.int i2), .val (.int n_), .val (.int lf), .val (.int c0), .val (.int c1), .val (.int c2), .val (.int c3), .val (.int c4), .val (.int c5), .val (.int c6), .unset, .unset, .unset, .unset] [(.int c0), (.int n_)]) := fun t_ k_ => R867 t_ (XS.iload X862.here hx rfl (hb hby at_92) rfl k_)
  have R869 : Go p e below P T862 (mkF m 96 #[.val (.int i0), .val (.long i1), .second, .val (.int i2), .val (.int n_), .val (.int lf), .val (.int c0), .val (.int c1), .val (.int c2), .val (.int c3), .val (.int c4), .val (.int c5), .val (.int c6), .unset, .unset, .unset, .unset] [(.int c1), (.int c0), (.int n_)]) := fun t_ k_ => R868 t_ (XS.iload X862.here hx rfl (hb hby at_94) rfl k_)
  have R870 : Go p e below P T862 (mkF m 98 #[.val (.int i0), .val (.long i1), .second, .val (.int i2), .val (.int n_), .val (.int lf), .val (.int c0), .val (.int c1), .val (.int c2), .val (.int c3), .val (.int c4), .val (.int c5), .val (.int c6), .unset, .unset, .unset, .unset] [(.int c2), (.int c1), (.int c0), (.int n_)]) := fun t_ k_ => R869 t_ (XS.iload X862.here hx rfl (hb hby at_96) rfl k_)
  have R871 : Go p e below P T862 (mkF m 100 #[.val (.int i0), .val (.long i1), .second, .val (.int i2), .val (.int n_), .val (.int lf), .val (.int c0), .val (.int c1), .val (.int c2), .val (.int c3), .val (.int c4), .val (.int c5), .val (.int c6), .unset, .unset, .unset, .unset] [(.int c3), (.int c2), (.int c1), (.int c0), (.int n_)]) := fun t_ k_ => R870 t_ (XS.iload X862.here hx rfl (hb hby at_98) rfl k_)
  have R872 : Go p e below P T862 (mkF m 102 #[.val (.int i0), .val (.long i1), .second, .val (.int i2), .val (.int n_), .val (.int lf), .val (.int c0), .val (.int c1), .val (.int c2), .val (.int c3), .val (.int c4), .val (.int c5), .val (.int c6), .unset, .unset, .unset, .unset] [(.int c4), (.int c3), (.int c2), (.int c1), (.int c0), (.int n_)]) := fun t_ k_ => R871 t_ (XS.iload X862.here hx rfl (hb hby at_100) rfl k_)
  have R873 : Go p e below P T862 (mkF m 104 #[.val (.int i0), .val (.long i1), .second, .val (.int i2), .val (.int n_), .val (.int lf), .val (.int c0), .val (.int c1), .val (.int c2), .val (.int c3), .val (.int c4), .val (.int c5), .val (.int c6), .unset, .unset, .unset, .unset] [(.int c5), (.int c4), (.int c3), (.int c2), (.int c1), (.int c0), (.int n_)]) := fun t_ k_ => R872 t_ (XS.iload X862.here hx rfl (hb hby at_102) rfl k_)
  have R874 : Go p e below P T862 (mkF m 106 #[.val (.int i0), .val (.long i1), .second, .val (.int i2), .val (.int n_), .val (.int lf), .val (.int c0), .val (.int c1), .val (.int c2), .val (.int c3), .val (.int c4), .val (.int c5), .val (.int c6), .unset, .unset, .unset, .unset] [(.int c6), (.int c5), (.int c4), (.int c3), (.int c2), (.int c1), (.int c0), (.int n_)]) := fun t_ k_ => R873 t_ (XS.iload X862.here hx rfl (hb hby at_104) rfl k_)
  obtain ⟨rv875, _, ⟨T875, L875, k875, n875⟩, -, X875, hT875, hG875, ⟨Lc875, hQ875, l875, y875, z875, hC875⟩, st875⟩ := callSS X862 hx (y := (⟨"com/example/toekit/toekit/cli/ArgumentsIsHelpPinLaw", "make", "(ICCCCCCC)Ljava/lang/String;"⟩ : MethodName)) hown (mvT hZ (hw _ (List.mem_of_getElem? (i := 5) rfl))) (mvT hZ (hw _ (List.mem_of_getElem? (i := 6) rfl))) (mvT hZ (hw _ (List.mem_of_getElem? (i := 2) rfl))) (mvT hZ (hw _ (List.mem_of_getElem? (i := 7) rfl))) (by decide) (backOfSH (W := 0) (make_ l Z a0 hw [] n_ c0 c1 c2 c3 c4 c5 c6 zc T862.heap n0 O862 hEL P0 hzc cb0 cb1 cb2 cb3 cb4 cb5 cb6) hZ (hw _ (List.mem_of_getElem? (i := 7) rfl)) (hw _ (List.mem_of_getElem? (i := 2) rfl)) (by decide) (by decide) hEL C863.1) (g := (mkF m 106 #[.val (.int i0), .val (.long i1), .second, .val (.int i2), .val (.int n_), .val (.int lf), .val (.int c0), .val (.int c1), .val (.int c2), .val (.int c3), .val (.int c4), .val (.int c5), .val (.int c6), .unset, .unset, .unset, .unset] [(.int c6), (.int c5), (.int c4), (.int c3), (.int c2), (.int c1), (.int c0), (.int n_)])) rfl (by rw [hml]; rfl) (argsL := [(.int n_), (.int c0), (.int c1), (.int c2), (.int c3), (.int c4), (.int c5), (.int c6)]) (rest := []) (lenOf pd_92011780 rfl) rfl (by show 2 * 0 + _ ≤ _; exact Nat.le_of_eq rfl) (hb hby at_106) (fun _ _ => ⟨rfl, (rfl : T862.heap = T862.heap), (by decide : 12 + 6 ≤ _), (by decide : 168 + 18 ≤ _)⟩)
  dsimp only [Pt.U, Pt.locs, Pt.cells, Pt.slots] at X875 hT875 hG875 l875 y875 z875 hC875 st875 hQ875
  subst l875 y875 z875
  obtain ⟨X875, hS875, hZ, hown⟩ := rebS hS862 (by rw [(rfl : T862.heap = T862.heap)]; exact hk862) X875 hT875 hG875 hZ hown
  have hk875 : T875.heap.size ≤ T875.heap.size := Nat.le_refl _
  obtain ⟨x_875, t_875, kb_875, rfl, N875q, K875, p875_0, p875_1, p875_2, p875_3, p875_4⟩ := hQ875
  have N875 := Fr.app N862 N875q
  have O875 := O862.keep K875 all0
  have C876 := C863.trans hC875
  have R877 : Go p e below P T875 (mkF m 109 #[.val (.int i0), .val (.long i1), .second, .val (.int i2), .val (.int n_), .val (.int lf), .val (.int c0), .val (.int c1), .val (.int c2), .val (.int c3), .val (.int c4), .val (.int c5), .val (.int c6), .unset, .unset, .unset, .unset] [(.ref x_875)]) := fun t_ k_ => R874 t_ (st875.trans k_)
  have R878 : Go p e below P T875 (mkF m 111 #[.val (.int i0), .val (.long i1), .second, .val (.int i2), .val (.int n_), .val (.int lf), .val (.int c0), .val (.int c1), .val (.int c2), .val (.int c3), .val (.int c4), .val (.int c5), .val (.int c6), .val (.ref x_875), .unset, .unset, .unset] []) := fun t_ k_ => R877 t_ (XS.astore X875.here hx rfl (hb hby at_109) rfl rfl (l' := #[.val (.int i0), .val (.long i1), .second, .val (.int i2), .val (.int n_), .val (.int lf), .val (.int c0), .val (.int c1), .val (.int c2), .val (.int c3), .val (.int c4), .val (.int c5), .val (.int c6), .val (.ref x_875), .unset, .unset, .unset]) rfl k_)
  obtain ⟨sh_, hj880, R879⟩ : ∃ sh_ : Int32, (sh_ = shI n_ c0 c1) ∧ Go p e below P T875 (mkF m 136 #[.val (.int i0), .val (.long i1), .second, .val (.int i2), .val (.int n_), .val (.int lf), .val (.int c0), .val (.int c1), .val (.int c2), .val (.int c3), .val (.int c4), .val (.int c5), .val (.int c6), .val (.ref x_875), .unset, .unset, .unset] [(.int sh_)]) := by
    have R881 : Go p e below P T875 (mkF m 113 #[.val (.int i0), .val (.long i1), .second, .val (.int i2), .val (.int n_), .val (.int lf), .val (.int c0), .val (.int c1), .val (.int c2), .val (.int c3), .val (.int c4), .val (.int c5), .val (.int c6), .val (.ref x_875), .unset, .unset, .unset] [(.int n_)]) := fun t_ k_ => R878 t_ (XS.iload X875.here hx rfl (hb hby at_111) rfl k_)
    have R882 : Go p e below P T875 (mkF m 114 #[.val (.int i0), .val (.long i1), .second, .val (.int i2), .val (.int n_), .val (.int lf), .val (.int c0), .val (.int c1), .val (.int c2), .val (.int c3), .val (.int c4), .val (.int c5), .val (.int c6), .val (.ref x_875), .unset, .unset, .unset] [(.int (2 : Int32)), (.int n_)]) := fun t_ k_ => R881 t_ (XS.iconst X875.here hx rfl (hb hby at_113) k_)
    by_cases hc883 : n_ = (2 : Int32)
    · have R884 : Go p e below P T875 (mkF m 117 #[.val (.int i0), .val (.long i1), .second, .val (.int i2), .val (.int n_), .val (.int lf), .val (.int c0), .val (.int c1), .val (.int c2), .val (.int c3), .val (.int c4), .val (.int c5), .val (.int c6), .val (.ref x_875), .unset, .unset, .unset] []) := fun t_ k_ => R882 t_ (XS.icmpNo X875.here hx rfl (hb hby at_114) rfl (teq hc883).2 k_)
      have R885 : Go p e below P T875 (mkF m 119 #[.val (.int i0), .val (.long i1), .second, .val (.int i2), .val (.int n_), .val (.int lf), .val (.int c0), .val (.int c1), .val (.int c2), .val (.int c3), .val (.int c4), .val (.int c5), .val (.int c6), .val (.ref x_875), .unset, .unset, .unset] [(.int c0)]) := fun t_ k_ => R884 t_ (XS.iload X875.here hx rfl (hb hby at_117) rfl k_)
      have R886 : Go p e below P T875 (mkF m 121 #[.val (.int i0), .val (.long i1), .second, .val (.int i2), .val (.int n_), .val (.int lf), .val (.int c0), .val (.int c1), .val (.int c2), .val (.int c3), .val (.int c4), .val (.int c5), .val (.int c6), .val (.ref x_875), .unset, .unset, .unset] [(.int (45 : Int32)), (.int c0)]) := fun t_ k_ => R885 t_ (XS.bipush X875.here hx rfl (hb hby at_119) k_)
      by_cases hc887 : c0 = (45 : Int32)
      · have R888 : Go p e below P T875 (mkF m 124 #[.val (.int i0), .val (.long i1), .second, .val (.int i2), .val (.int n_), .val (.int lf), .val (.int c0), .val (.int c1), .val (.int c2), .val (.int c3), .val (.int c4), .val (.int c5), .val (.int c6), .val (.ref x_875), .unset, .unset, .unset] []) := fun t_ k_ => R886 t_ (XS.icmpNo X875.here hx rfl (hb hby at_121) rfl (teq hc887).2 k_)
        have R889 : Go p e below P T875 (mkF m 126 #[.val (.int i0), .val (.long i1), .second, .val (.int i2), .val (.int n_), .val (.int lf), .val (.int c0), .val (.int c1), .val (.int c2), .val (.int c3), .val (.int c4), .val (.int c5), .val (.int c6), .val (.ref x_875), .unset, .unset, .unset] [(.int c1)]) := fun t_ k_ => R888 t_ (XS.iload X875.here hx rfl (hb hby at_124) rfl k_)
        have R890 : Go p e below P T875 (mkF m 128 #[.val (.int i0), .val (.long i1), .second, .val (.int i2), .val (.int n_), .val (.int lf), .val (.int c0), .val (.int c1), .val (.int c2), .val (.int c3), .val (.int c4), .val (.int c5), .val (.int c6), .val (.ref x_875), .unset, .unset, .unset] [(.int (104 : Int32)), (.int c1)]) := fun t_ k_ => R889 t_ (XS.bipush X875.here hx rfl (hb hby at_126) k_)
        by_cases hc891 : c1 = (104 : Int32)
        · have R892 : Go p e below P T875 (mkF m 131 #[.val (.int i0), .val (.long i1), .second, .val (.int i2), .val (.int n_), .val (.int lf), .val (.int c0), .val (.int c1), .val (.int c2), .val (.int c3), .val (.int c4), .val (.int c5), .val (.int c6), .val (.ref x_875), .unset, .unset, .unset] []) := fun t_ k_ => R890 t_ (XS.icmpNo X875.here hx rfl (hb hby at_128) rfl (teq hc891).2 k_)
          have R893 : Go p e below P T875 (mkF m 132 #[.val (.int i0), .val (.long i1), .second, .val (.int i2), .val (.int n_), .val (.int lf), .val (.int c0), .val (.int c1), .val (.int c2), .val (.int c3), .val (.int c4), .val (.int c5), .val (.int c6), .val (.ref x_875), .unset, .unset, .unset] [(.int (1 : Int32))]) := fun t_ k_ => R892 t_ (XS.iconst X875.here hx rfl (hb hby at_131) k_)
          have R894 : Go p e below P T875 (mkF m 136 #[.val (.int i0), .val (.long i1), .second, .val (.int i2), .val (.int n_), .val (.int lf), .val (.int c0), .val (.int c1), .val (.int c2), .val (.int c3), .val (.int c4), .val (.int c5), .val (.int c6), .val (.ref x_875), .unset, .unset, .unset] [(.int (1 : Int32))]) := fun t_ k_ => R893 t_ (XS.goto X875.here hx rfl (pc0 := 132) (pc' := 136) rfl (hb hby at_132) (by decide) (by decide) k_)
          exact ⟨(1 : Int32), (by first | (simp only [shI, eq_true hc883, eq_true hc887, eq_true hc891, true_and, and_true, false_and, and_false, true_or, or_true, false_or, or_false, not_true_eq_false, not_false_eq_true, ↓reduceIte, nar_b0, nar_b1]; done) | simp [shI, nar_b0, nar_b1, hc883, hc887, hc891]), R894⟩
        · have R895 : Go p e below P T875 (mkF m 135 #[.val (.int i0), .val (.long i1), .second, .val (.int i2), .val (.int n_), .val (.int lf), .val (.int c0), .val (.int c1), .val (.int c2), .val (.int c3), .val (.int c4), .val (.int c5), .val (.int c6), .val (.ref x_875), .unset, .unset, .unset] []) := fun t_ k_ => R890 t_ (XS.icmpYes X875.here hx rfl (pc0 := 128) (pc' := 135) rfl (hb hby at_128) rfl (feq hc891).2 (by decide) (by decide) k_)
          have R896 : Go p e below P T875 (mkF m 136 #[.val (.int i0), .val (.long i1), .second, .val (.int i2), .val (.int n_), .val (.int lf), .val (.int c0), .val (.int c1), .val (.int c2), .val (.int c3), .val (.int c4), .val (.int c5), .val (.int c6), .val (.ref x_875), .unset, .unset, .unset] [(.int (0 : Int32))]) := fun t_ k_ => R895 t_ (XS.iconst X875.here hx rfl (hb hby at_135) k_)
          exact ⟨(0 : Int32), (by first | (simp only [shI, eq_true hc883, eq_true hc887, eq_false hc891, true_and, and_true, false_and, and_false, true_or, or_true, false_or, or_false, not_true_eq_false, not_false_eq_true, ↓reduceIte, nar_b0, nar_b1]; done) | simp [shI, nar_b0, nar_b1, hc883, hc887, hc891]), R896⟩
      · have R897 : Go p e below P T875 (mkF m 135 #[.val (.int i0), .val (.long i1), .second, .val (.int i2), .val (.int n_), .val (.int lf), .val (.int c0), .val (.int c1), .val (.int c2), .val (.int c3), .val (.int c4), .val (.int c5), .val (.int c6), .val (.ref x_875), .unset, .unset, .unset] []) := fun t_ k_ => R886 t_ (XS.icmpYes X875.here hx rfl (pc0 := 121) (pc' := 135) rfl (hb hby at_121) rfl (feq hc887).2 (by decide) (by decide) k_)
        have R898 : Go p e below P T875 (mkF m 136 #[.val (.int i0), .val (.long i1), .second, .val (.int i2), .val (.int n_), .val (.int lf), .val (.int c0), .val (.int c1), .val (.int c2), .val (.int c3), .val (.int c4), .val (.int c5), .val (.int c6), .val (.ref x_875), .unset, .unset, .unset] [(.int (0 : Int32))]) := fun t_ k_ => R897 t_ (XS.iconst X875.here hx rfl (hb hby at_135) k_)
        exact ⟨(0 : Int32), (by first | (simp only [shI, eq_true hc883, eq_false hc887, true_and, and_true, false_and, and_false, true_or, or_true, false_or, or_false, not_true_eq_false, not_false_eq_true, ↓reduceIte, nar_b0, nar_b1]; done) | simp [shI, nar_b0, nar_b1, hc883, hc887]), R898⟩
    · have R899 : Go p e below P T875 (mkF m 135 #[.val (.int i0), .val (.long i1), .second, .val (.int i2), .val (.int n_), .val (.int lf), .val (.int c0), .val (.int c1), .val (.int c2), .val (.int c3), .val (.int c4), .val (.int c5), .val (.int c6), .val (.ref x_875), .unset, .unset, .unset] []) := fun t_ k_ => R882 t_ (XS.icmpYes X875.here hx rfl (pc0 := 114) (pc' := 135) rfl (hb hby at_114) rfl (feq hc883).2 (by decide) (by decide) k_)
      have R900 : Go p e below P T875 (mkF m 136 #[.val (.int i0), .val (.long i1), .second, .val (.int i2), .val (.int n_), .val (.int lf), .val (.int c0), .val (.int c1), .val (.int c2), .val (.int c3), .val (.int c4), .val (.int c5), .val (.int c6), .val (.ref x_875), .unset, .unset, .unset] [(.int (0 : Int32))]) := fun t_ k_ => R899 t_ (XS.iconst X875.here hx rfl (hb hby at_135) k_)
      exact ⟨(0 : Int32), (by first | (simp only [shI, eq_false hc883, true_and, and_true, false_and, and_false, true_or, or_true, false_or, or_false, not_true_eq_false, not_false_eq_true, ↓reduceIte, nar_b0, nar_b1]; done) | simp [shI, nar_b0, nar_b1, hc883]), R900⟩
  have R901 : Go p e below P T875 (mkF m 138 #[.val (.int i0), .val (.long i1), .second, .val (.int i2), .val (.int n_), .val (.int lf), .val (.int c0), .val (.int c1), .val (.int c2), .val (.int c3), .val (.int c4), .val (.int c5), .val (.int c6), .val (.ref x_875), .val (.int sh_), .unset, .unset] []) := fun t_ k_ => R879 t_ (XS.istore X875.here hx rfl (hb hby at_136) rfl (l' := #[.val (.int i0), .val (.long i1), .second, .val (.int i2), .val (.int n_), .val (.int lf), .val (.int c0), .val (.int c1), .val (.int c2), .val (.int c3), .val (.int c4), .val (.int c5), .val (.int c6), .val (.ref x_875), .val (.int sh_), .unset, .unset]) rfl k_)
  obtain ⟨lg_, hj903, R902⟩ : ∃ lg_ : Int32, (lg_ = lgI n_ c0 c1 c2 c3 c4 c5) ∧ Go p e below P T875 (mkF m 192 #[.val (.int i0), .val (.long i1), .second, .val (.int i2), .val (.int n_), .val (.int lf), .val (.int c0), .val (.int c1), .val (.int c2), .val (.int c3), .val (.int c4), .val (.int c5), .val (.int c6), .val (.ref x_875), .val (.int sh_), .unset, .unset] [(.int lg_)]) := by
    have R904 : Go p e below P T875 (mkF m 140 #[.val (.int i0), .val (.long i1), .second, .val (.int i2), .val (.int n_), .val (.int lf), .val (.int c0), .val (.int c1), .val (.int c2), .val (.int c3), .val (.int c4), .val (.int c5), .val (.int c6), .val (.ref x_875), .val (.int sh_), .unset, .unset] [(.int n_)]) := fun t_ k_ => R901 t_ (XS.iload X875.here hx rfl (hb hby at_138) rfl k_)
    have R905 : Go p e below P T875 (mkF m 142 #[.val (.int i0), .val (.long i1), .second, .val (.int i2), .val (.int n_), .val (.int lf), .val (.int c0), .val (.int c1), .val (.int c2), .val (.int c3), .val (.int c4), .val (.int c5), .val (.int c6), .val (.ref x_875), .val (.int sh_), .unset, .unset] [(.int (6 : Int32)), (.int n_)]) := fun t_ k_ => R904 t_ (XS.bipush X875.here hx rfl (hb hby at_140) k_)
    by_cases hc906 : n_ = (6 : Int32)
    · have R907 : Go p e below P T875 (mkF m 145 #[.val (.int i0), .val (.long i1), .second, .val (.int i2), .val (.int n_), .val (.int lf), .val (.int c0), .val (.int c1), .val (.int c2), .val (.int c3), .val (.int c4), .val (.int c5), .val (.int c6), .val (.ref x_875), .val (.int sh_), .unset, .unset] []) := fun t_ k_ => R905 t_ (XS.icmpNo X875.here hx rfl (hb hby at_142) rfl (teq hc906).2 k_)
      have R908 : Go p e below P T875 (mkF m 147 #[.val (.int i0), .val (.long i1), .second, .val (.int i2), .val (.int n_), .val (.int lf), .val (.int c0), .val (.int c1), .val (.int c2), .val (.int c3), .val (.int c4), .val (.int c5), .val (.int c6), .val (.ref x_875), .val (.int sh_), .unset, .unset] [(.int c0)]) := fun t_ k_ => R907 t_ (XS.iload X875.here hx rfl (hb hby at_145) rfl k_)
      have R909 : Go p e below P T875 (mkF m 149 #[.val (.int i0), .val (.long i1), .second, .val (.int i2), .val (.int n_), .val (.int lf), .val (.int c0), .val (.int c1), .val (.int c2), .val (.int c3), .val (.int c4), .val (.int c5), .val (.int c6), .val (.ref x_875), .val (.int sh_), .unset, .unset] [(.int (45 : Int32)), (.int c0)]) := fun t_ k_ => R908 t_ (XS.bipush X875.here hx rfl (hb hby at_147) k_)
      by_cases hc910 : c0 = (45 : Int32)
      · have R911 : Go p e below P T875 (mkF m 152 #[.val (.int i0), .val (.long i1), .second, .val (.int i2), .val (.int n_), .val (.int lf), .val (.int c0), .val (.int c1), .val (.int c2), .val (.int c3), .val (.int c4), .val (.int c5), .val (.int c6), .val (.ref x_875), .val (.int sh_), .unset, .unset] []) := fun t_ k_ => R909 t_ (XS.icmpNo X875.here hx rfl (hb hby at_149) rfl (teq hc910).2 k_)
        have R912 : Go p e below P T875 (mkF m 154 #[.val (.int i0), .val (.long i1), .second, .val (.int i2), .val (.int n_), .val (.int lf), .val (.int c0), .val (.int c1), .val (.int c2), .val (.int c3), .val (.int c4), .val (.int c5), .val (.int c6), .val (.ref x_875), .val (.int sh_), .unset, .unset] [(.int c1)]) := fun t_ k_ => R911 t_ (XS.iload X875.here hx rfl (hb hby at_152) rfl k_)
        have R913 : Go p e below P T875 (mkF m 156 #[.val (.int i0), .val (.long i1), .second, .val (.int i2), .val (.int n_), .val (.int lf), .val (.int c0), .val (.int c1), .val (.int c2), .val (.int c3), .val (.int c4), .val (.int c5), .val (.int c6), .val (.ref x_875), .val (.int sh_), .unset, .unset] [(.int (45 : Int32)), (.int c1)]) := fun t_ k_ => R912 t_ (XS.bipush X875.here hx rfl (hb hby at_154) k_)
        by_cases hc914 : c1 = (45 : Int32)
        · have R915 : Go p e below P T875 (mkF m 159 #[.val (.int i0), .val (.long i1), .second, .val (.int i2), .val (.int n_), .val (.int lf), .val (.int c0), .val (.int c1), .val (.int c2), .val (.int c3), .val (.int c4), .val (.int c5), .val (.int c6), .val (.ref x_875), .val (.int sh_), .unset, .unset] []) := fun t_ k_ => R913 t_ (XS.icmpNo X875.here hx rfl (hb hby at_156) rfl (teq hc914).2 k_)
          have R916 : Go p e below P T875 (mkF m 161 #[.val (.int i0), .val (.long i1), .second, .val (.int i2), .val (.int n_), .val (.int lf), .val (.int c0), .val (.int c1), .val (.int c2), .val (.int c3), .val (.int c4), .val (.int c5), .val (.int c6), .val (.ref x_875), .val (.int sh_), .unset, .unset] [(.int c2)]) := fun t_ k_ => R915 t_ (XS.iload X875.here hx rfl (hb hby at_159) rfl k_)
          have R917 : Go p e below P T875 (mkF m 163 #[.val (.int i0), .val (.long i1), .second, .val (.int i2), .val (.int n_), .val (.int lf), .val (.int c0), .val (.int c1), .val (.int c2), .val (.int c3), .val (.int c4), .val (.int c5), .val (.int c6), .val (.ref x_875), .val (.int sh_), .unset, .unset] [(.int (104 : Int32)), (.int c2)]) := fun t_ k_ => R916 t_ (XS.bipush X875.here hx rfl (hb hby at_161) k_)
          by_cases hc918 : c2 = (104 : Int32)
          · have R919 : Go p e below P T875 (mkF m 166 #[.val (.int i0), .val (.long i1), .second, .val (.int i2), .val (.int n_), .val (.int lf), .val (.int c0), .val (.int c1), .val (.int c2), .val (.int c3), .val (.int c4), .val (.int c5), .val (.int c6), .val (.ref x_875), .val (.int sh_), .unset, .unset] []) := fun t_ k_ => R917 t_ (XS.icmpNo X875.here hx rfl (hb hby at_163) rfl (teq hc918).2 k_)
            have R920 : Go p e below P T875 (mkF m 168 #[.val (.int i0), .val (.long i1), .second, .val (.int i2), .val (.int n_), .val (.int lf), .val (.int c0), .val (.int c1), .val (.int c2), .val (.int c3), .val (.int c4), .val (.int c5), .val (.int c6), .val (.ref x_875), .val (.int sh_), .unset, .unset] [(.int c3)]) := fun t_ k_ => R919 t_ (XS.iload X875.here hx rfl (hb hby at_166) rfl k_)
            have R921 : Go p e below P T875 (mkF m 170 #[.val (.int i0), .val (.long i1), .second, .val (.int i2), .val (.int n_), .val (.int lf), .val (.int c0), .val (.int c1), .val (.int c2), .val (.int c3), .val (.int c4), .val (.int c5), .val (.int c6), .val (.ref x_875), .val (.int sh_), .unset, .unset] [(.int (101 : Int32)), (.int c3)]) := fun t_ k_ => R920 t_ (XS.bipush X875.here hx rfl (hb hby at_168) k_)
            by_cases hc922 : c3 = (101 : Int32)
            · have R923 : Go p e below P T875 (mkF m 173 #[.val (.int i0), .val (.long i1), .second, .val (.int i2), .val (.int n_), .val (.int lf), .val (.int c0), .val (.int c1), .val (.int c2), .val (.int c3), .val (.int c4), .val (.int c5), .val (.int c6), .val (.ref x_875), .val (.int sh_), .unset, .unset] []) := fun t_ k_ => R921 t_ (XS.icmpNo X875.here hx rfl (hb hby at_170) rfl (teq hc922).2 k_)
              have R924 : Go p e below P T875 (mkF m 175 #[.val (.int i0), .val (.long i1), .second, .val (.int i2), .val (.int n_), .val (.int lf), .val (.int c0), .val (.int c1), .val (.int c2), .val (.int c3), .val (.int c4), .val (.int c5), .val (.int c6), .val (.ref x_875), .val (.int sh_), .unset, .unset] [(.int c4)]) := fun t_ k_ => R923 t_ (XS.iload X875.here hx rfl (hb hby at_173) rfl k_)
              have R925 : Go p e below P T875 (mkF m 177 #[.val (.int i0), .val (.long i1), .second, .val (.int i2), .val (.int n_), .val (.int lf), .val (.int c0), .val (.int c1), .val (.int c2), .val (.int c3), .val (.int c4), .val (.int c5), .val (.int c6), .val (.ref x_875), .val (.int sh_), .unset, .unset] [(.int (108 : Int32)), (.int c4)]) := fun t_ k_ => R924 t_ (XS.bipush X875.here hx rfl (hb hby at_175) k_)
              by_cases hc926 : c4 = (108 : Int32)
              · have R927 : Go p e below P T875 (mkF m 180 #[.val (.int i0), .val (.long i1), .second, .val (.int i2), .val (.int n_), .val (.int lf), .val (.int c0), .val (.int c1), .val (.int c2), .val (.int c3), .val (.int c4), .val (.int c5), .val (.int c6), .val (.ref x_875), .val (.int sh_), .unset, .unset] []) := fun t_ k_ => R925 t_ (XS.icmpNo X875.here hx rfl (hb hby at_177) rfl (teq hc926).2 k_)
                have R928 : Go p e below P T875 (mkF m 182 #[.val (.int i0), .val (.long i1), .second, .val (.int i2), .val (.int n_), .val (.int lf), .val (.int c0), .val (.int c1), .val (.int c2), .val (.int c3), .val (.int c4), .val (.int c5), .val (.int c6), .val (.ref x_875), .val (.int sh_), .unset, .unset] [(.int c5)]) := fun t_ k_ => R927 t_ (XS.iload X875.here hx rfl (hb hby at_180) rfl k_)
                have R929 : Go p e below P T875 (mkF m 184 #[.val (.int i0), .val (.long i1), .second, .val (.int i2), .val (.int n_), .val (.int lf), .val (.int c0), .val (.int c1), .val (.int c2), .val (.int c3), .val (.int c4), .val (.int c5), .val (.int c6), .val (.ref x_875), .val (.int sh_), .unset, .unset] [(.int (112 : Int32)), (.int c5)]) := fun t_ k_ => R928 t_ (XS.bipush X875.here hx rfl (hb hby at_182) k_)
                by_cases hc930 : c5 = (112 : Int32)
                · have R931 : Go p e below P T875 (mkF m 187 #[.val (.int i0), .val (.long i1), .second, .val (.int i2), .val (.int n_), .val (.int lf), .val (.int c0), .val (.int c1), .val (.int c2), .val (.int c3), .val (.int c4), .val (.int c5), .val (.int c6), .val (.ref x_875), .val (.int sh_), .unset, .unset] []) := fun t_ k_ => R929 t_ (XS.icmpNo X875.here hx rfl (hb hby at_184) rfl (teq hc930).2 k_)
                  have R932 : Go p e below P T875 (mkF m 188 #[.val (.int i0), .val (.long i1), .second, .val (.int i2), .val (.int n_), .val (.int lf), .val (.int c0), .val (.int c1), .val (.int c2), .val (.int c3), .val (.int c4), .val (.int c5), .val (.int c6), .val (.ref x_875), .val (.int sh_), .unset, .unset] [(.int (1 : Int32))]) := fun t_ k_ => R931 t_ (XS.iconst X875.here hx rfl (hb hby at_187) k_)
                  have R933 : Go p e below P T875 (mkF m 192 #[.val (.int i0), .val (.long i1), .second, .val (.int i2), .val (.int n_), .val (.int lf), .val (.int c0), .val (.int c1), .val (.int c2), .val (.int c3), .val (.int c4), .val (.int c5), .val (.int c6), .val (.ref x_875), .val (.int sh_), .unset, .unset] [(.int (1 : Int32))]) := fun t_ k_ => R932 t_ (XS.goto X875.here hx rfl (pc0 := 188) (pc' := 192) rfl (hb hby at_188) (by decide) (by decide) k_)
                  exact ⟨(1 : Int32), (by first | (simp only [lgI, eq_true hc906, eq_true hc910, eq_true hc914, eq_true hc918, eq_true hc922, eq_true hc926, eq_true hc930, true_and, and_true, false_and, and_false, true_or, or_true, false_or, or_false, not_true_eq_false, not_false_eq_true, ↓reduceIte, nar_b0, nar_b1]; done) | simp [lgI, nar_b0, nar_b1, hc906, hc910, hc914, hc918, hc922, hc926, hc930]), R933⟩
                · have R934 : Go p e below P T875 (mkF m 191 #[.val (.int i0), .val (.long i1), .second, .val (.int i2), .val (.int n_), .val (.int lf), .val (.int c0), .val (.int c1), .val (.int c2), .val (.int c3), .val (.int c4), .val (.int c5), .val (.int c6), .val (.ref x_875), .val (.int sh_), .unset, .unset] []) := fun t_ k_ => R929 t_ (XS.icmpYes X875.here hx rfl (pc0 := 184) (pc' := 191) rfl (hb hby at_184) rfl (feq hc930).2 (by decide) (by decide) k_)
                  have R935 : Go p e below P T875 (mkF m 192 #[.val (.int i0), .val (.long i1), .second, .val (.int i2), .val (.int n_), .val (.int lf), .val (.int c0), .val (.int c1), .val (.int c2), .val (.int c3), .val (.int c4), .val (.int c5), .val (.int c6), .val (.ref x_875), .val (.int sh_), .unset, .unset] [(.int (0 : Int32))]) := fun t_ k_ => R934 t_ (XS.iconst X875.here hx rfl (hb hby at_191) k_)
                  exact ⟨(0 : Int32), (by first | (simp only [lgI, eq_true hc906, eq_true hc910, eq_true hc914, eq_true hc918, eq_true hc922, eq_true hc926, eq_false hc930, true_and, and_true, false_and, and_false, true_or, or_true, false_or, or_false, not_true_eq_false, not_false_eq_true, ↓reduceIte, nar_b0, nar_b1]; done) | simp [lgI, nar_b0, nar_b1, hc906, hc910, hc914, hc918, hc922, hc926, hc930]), R935⟩
              · have R936 : Go p e below P T875 (mkF m 191 #[.val (.int i0), .val (.long i1), .second, .val (.int i2), .val (.int n_), .val (.int lf), .val (.int c0), .val (.int c1), .val (.int c2), .val (.int c3), .val (.int c4), .val (.int c5), .val (.int c6), .val (.ref x_875), .val (.int sh_), .unset, .unset] []) := fun t_ k_ => R925 t_ (XS.icmpYes X875.here hx rfl (pc0 := 177) (pc' := 191) rfl (hb hby at_177) rfl (feq hc926).2 (by decide) (by decide) k_)
                have R937 : Go p e below P T875 (mkF m 192 #[.val (.int i0), .val (.long i1), .second, .val (.int i2), .val (.int n_), .val (.int lf), .val (.int c0), .val (.int c1), .val (.int c2), .val (.int c3), .val (.int c4), .val (.int c5), .val (.int c6), .val (.ref x_875), .val (.int sh_), .unset, .unset] [(.int (0 : Int32))]) := fun t_ k_ => R936 t_ (XS.iconst X875.here hx rfl (hb hby at_191) k_)
                exact ⟨(0 : Int32), (by first | (simp only [lgI, eq_true hc906, eq_true hc910, eq_true hc914, eq_true hc918, eq_true hc922, eq_false hc926, true_and, and_true, false_and, and_false, true_or, or_true, false_or, or_false, not_true_eq_false, not_false_eq_true, ↓reduceIte, nar_b0, nar_b1]; done) | simp [lgI, nar_b0, nar_b1, hc906, hc910, hc914, hc918, hc922, hc926]), R937⟩
            · have R938 : Go p e below P T875 (mkF m 191 #[.val (.int i0), .val (.long i1), .second, .val (.int i2), .val (.int n_), .val (.int lf), .val (.int c0), .val (.int c1), .val (.int c2), .val (.int c3), .val (.int c4), .val (.int c5), .val (.int c6), .val (.ref x_875), .val (.int sh_), .unset, .unset] []) := fun t_ k_ => R921 t_ (XS.icmpYes X875.here hx rfl (pc0 := 170) (pc' := 191) rfl (hb hby at_170) rfl (feq hc922).2 (by decide) (by decide) k_)
              have R939 : Go p e below P T875 (mkF m 192 #[.val (.int i0), .val (.long i1), .second, .val (.int i2), .val (.int n_), .val (.int lf), .val (.int c0), .val (.int c1), .val (.int c2), .val (.int c3), .val (.int c4), .val (.int c5), .val (.int c6), .val (.ref x_875), .val (.int sh_), .unset, .unset] [(.int (0 : Int32))]) := fun t_ k_ => R938 t_ (XS.iconst X875.here hx rfl (hb hby at_191) k_)
              exact ⟨(0 : Int32), (by first | (simp only [lgI, eq_true hc906, eq_true hc910, eq_true hc914, eq_true hc918, eq_false hc922, true_and, and_true, false_and, and_false, true_or, or_true, false_or, or_false, not_true_eq_false, not_false_eq_true, ↓reduceIte, nar_b0, nar_b1]; done) | simp [lgI, nar_b0, nar_b1, hc906, hc910, hc914, hc918, hc922]), R939⟩
          · have R940 : Go p e below P T875 (mkF m 191 #[.val (.int i0), .val (.long i1), .second, .val (.int i2), .val (.int n_), .val (.int lf), .val (.int c0), .val (.int c1), .val (.int c2), .val (.int c3), .val (.int c4), .val (.int c5), .val (.int c6), .val (.ref x_875), .val (.int sh_), .unset, .unset] []) := fun t_ k_ => R917 t_ (XS.icmpYes X875.here hx rfl (pc0 := 163) (pc' := 191) rfl (hb hby at_163) rfl (feq hc918).2 (by decide) (by decide) k_)
            have R941 : Go p e below P T875 (mkF m 192 #[.val (.int i0), .val (.long i1), .second, .val (.int i2), .val (.int n_), .val (.int lf), .val (.int c0), .val (.int c1), .val (.int c2), .val (.int c3), .val (.int c4), .val (.int c5), .val (.int c6), .val (.ref x_875), .val (.int sh_), .unset, .unset] [(.int (0 : Int32))]) := fun t_ k_ => R940 t_ (XS.iconst X875.here hx rfl (hb hby at_191) k_)
            exact ⟨(0 : Int32), (by first | (simp only [lgI, eq_true hc906, eq_true hc910, eq_true hc914, eq_false hc918, true_and, and_true, false_and, and_false, true_or, or_true, false_or, or_false, not_true_eq_false, not_false_eq_true, ↓reduceIte, nar_b0, nar_b1]; done) | simp [lgI, nar_b0, nar_b1, hc906, hc910, hc914, hc918]), R941⟩
        · have R942 : Go p e below P T875 (mkF m 191 #[.val (.int i0), .val (.long i1), .second, .val (.int i2), .val (.int n_), .val (.int lf), .val (.int c0), .val (.int c1), .val (.int c2), .val (.int c3), .val (.int c4), .val (.int c5), .val (.int c6), .val (.ref x_875), .val (.int sh_), .unset, .unset] []) := fun t_ k_ => R913 t_ (XS.icmpYes X875.here hx rfl (pc0 := 156) (pc' := 191) rfl (hb hby at_156) rfl (feq hc914).2 (by decide) (by decide) k_)
          have R943 : Go p e below P T875 (mkF m 192 #[.val (.int i0), .val (.long i1), .second, .val (.int i2), .val (.int n_), .val (.int lf), .val (.int c0), .val (.int c1), .val (.int c2), .val (.int c3), .val (.int c4), .val (.int c5), .val (.int c6), .val (.ref x_875), .val (.int sh_), .unset, .unset] [(.int (0 : Int32))]) := fun t_ k_ => R942 t_ (XS.iconst X875.here hx rfl (hb hby at_191) k_)
          exact ⟨(0 : Int32), (by first | (simp only [lgI, eq_true hc906, eq_true hc910, eq_false hc914, true_and, and_true, false_and, and_false, true_or, or_true, false_or, or_false, not_true_eq_false, not_false_eq_true, ↓reduceIte, nar_b0, nar_b1]; done) | simp [lgI, nar_b0, nar_b1, hc906, hc910, hc914]), R943⟩
      · have R944 : Go p e below P T875 (mkF m 191 #[.val (.int i0), .val (.long i1), .second, .val (.int i2), .val (.int n_), .val (.int lf), .val (.int c0), .val (.int c1), .val (.int c2), .val (.int c3), .val (.int c4), .val (.int c5), .val (.int c6), .val (.ref x_875), .val (.int sh_), .unset, .unset] []) := fun t_ k_ => R909 t_ (XS.icmpYes X875.here hx rfl (pc0 := 149) (pc' := 191) rfl (hb hby at_149) rfl (feq hc910).2 (by decide) (by decide) k_)
        have R945 : Go p e below P T875 (mkF m 192 #[.val (.int i0), .val (.long i1), .second, .val (.int i2), .val (.int n_), .val (.int lf), .val (.int c0), .val (.int c1), .val (.int c2), .val (.int c3), .val (.int c4), .val (.int c5), .val (.int c6), .val (.ref x_875), .val (.int sh_), .unset, .unset] [(.int (0 : Int32))]) := fun t_ k_ => R944 t_ (XS.iconst X875.here hx rfl (hb hby at_191) k_)
        exact ⟨(0 : Int32), (by first | (simp only [lgI, eq_true hc906, eq_false hc910, true_and, and_true, false_and, and_false, true_or, or_true, false_or, or_false, not_true_eq_false, not_false_eq_true, ↓reduceIte, nar_b0, nar_b1]; done) | simp [lgI, nar_b0, nar_b1, hc906, hc910]), R945⟩
    · have R946 : Go p e below P T875 (mkF m 191 #[.val (.int i0), .val (.long i1), .second, .val (.int i2), .val (.int n_), .val (.int lf), .val (.int c0), .val (.int c1), .val (.int c2), .val (.int c3), .val (.int c4), .val (.int c5), .val (.int c6), .val (.ref x_875), .val (.int sh_), .unset, .unset] []) := fun t_ k_ => R905 t_ (XS.icmpYes X875.here hx rfl (pc0 := 142) (pc' := 191) rfl (hb hby at_142) rfl (feq hc906).2 (by decide) (by decide) k_)
      have R947 : Go p e below P T875 (mkF m 192 #[.val (.int i0), .val (.long i1), .second, .val (.int i2), .val (.int n_), .val (.int lf), .val (.int c0), .val (.int c1), .val (.int c2), .val (.int c3), .val (.int c4), .val (.int c5), .val (.int c6), .val (.ref x_875), .val (.int sh_), .unset, .unset] [(.int (0 : Int32))]) := fun t_ k_ => R946 t_ (XS.iconst X875.here hx rfl (hb hby at_191) k_)
      exact ⟨(0 : Int32), (by first | (simp only [lgI, eq_false hc906, true_and, and_true, false_and, and_false, true_or, or_true, false_or, or_false, not_true_eq_false, not_false_eq_true, ↓reduceIte, nar_b0, nar_b1]; done) | simp [lgI, nar_b0, nar_b1, hc906]), R947⟩
  have R948 : Go p e below P T875 (mkF m 194 #[.val (.int i0), .val (.long i1), .second, .val (.int i2), .val (.int n_), .val (.int lf), .val (.int c0), .val (.int c1), .val (.int c2), .val (.int c3), .val (.int c4), .val (.int c5), .val (.int c6), .val (.ref x_875), .val (.int sh_), .val (.int lg_), .unset] []) := fun t_ k_ => R902 t_ (XS.istore X875.here hx rfl (hb hby at_192) rfl (l' := #[.val (.int i0), .val (.long i1), .second, .val (.int i2), .val (.int n_), .val (.int lf), .val (.int c0), .val (.int c1), .val (.int c2), .val (.int c3), .val (.int c4), .val (.int c5), .val (.int c6), .val (.ref x_875), .val (.int sh_), .val (.int lg_), .unset]) rfl k_)
  obtain ⟨ex_, hj950, R949⟩ : ∃ ex_ : Int32, (ex_ = exI sh_ lg_) ∧ Go p e below P T875 (mkF m 209 #[.val (.int i0), .val (.long i1), .second, .val (.int i2), .val (.int n_), .val (.int lf), .val (.int c0), .val (.int c1), .val (.int c2), .val (.int c3), .val (.int c4), .val (.int c5), .val (.int c6), .val (.ref x_875), .val (.int sh_), .val (.int lg_), .unset] [(.int ex_)]) := by
    have R951 : Go p e below P T875 (mkF m 196 #[.val (.int i0), .val (.long i1), .second, .val (.int i2), .val (.int n_), .val (.int lf), .val (.int c0), .val (.int c1), .val (.int c2), .val (.int c3), .val (.int c4), .val (.int c5), .val (.int c6), .val (.ref x_875), .val (.int sh_), .val (.int lg_), .unset] [(.int sh_)]) := fun t_ k_ => R948 t_ (XS.iload X875.here hx rfl (hb hby at_194) rfl k_)
    by_cases hc952 : sh_ = (0 : Int32)
    · have R953 : Go p e below P T875 (mkF m 199 #[.val (.int i0), .val (.long i1), .second, .val (.int i2), .val (.int n_), .val (.int lf), .val (.int c0), .val (.int c1), .val (.int c2), .val (.int c3), .val (.int c4), .val (.int c5), .val (.int c6), .val (.ref x_875), .val (.int sh_), .val (.int lg_), .unset] []) := fun t_ k_ => R951 t_ (XS.ifNo X875.here hx rfl (hb hby at_196) rfl ((if0 _ _).trans (teq hc952).2) k_)
      have R954 : Go p e below P T875 (mkF m 201 #[.val (.int i0), .val (.long i1), .second, .val (.int i2), .val (.int n_), .val (.int lf), .val (.int c0), .val (.int c1), .val (.int c2), .val (.int c3), .val (.int c4), .val (.int c5), .val (.int c6), .val (.ref x_875), .val (.int sh_), .val (.int lg_), .unset] [(.int lg_)]) := fun t_ k_ => R953 t_ (XS.iload X875.here hx rfl (hb hby at_199) rfl k_)
      by_cases hc955 : lg_ = (0 : Int32)
      · have R956 : Go p e below P T875 (mkF m 208 #[.val (.int i0), .val (.long i1), .second, .val (.int i2), .val (.int n_), .val (.int lf), .val (.int c0), .val (.int c1), .val (.int c2), .val (.int c3), .val (.int c4), .val (.int c5), .val (.int c6), .val (.ref x_875), .val (.int sh_), .val (.int lg_), .unset] []) := fun t_ k_ => R954 t_ (XS.ifYes X875.here hx rfl (pc0 := 201) (pc' := 208) rfl (hb hby at_201) rfl ((if0 _ _).trans (teq hc955).1) (by decide) (by decide) k_)
        have R957 : Go p e below P T875 (mkF m 209 #[.val (.int i0), .val (.long i1), .second, .val (.int i2), .val (.int n_), .val (.int lf), .val (.int c0), .val (.int c1), .val (.int c2), .val (.int c3), .val (.int c4), .val (.int c5), .val (.int c6), .val (.ref x_875), .val (.int sh_), .val (.int lg_), .unset] [(.int (0 : Int32))]) := fun t_ k_ => R956 t_ (XS.iconst X875.here hx rfl (hb hby at_208) k_)
        exact ⟨(0 : Int32), (by first | (simp only [exI, eq_true hc952, eq_true hc955, true_and, and_true, false_and, and_false, true_or, or_true, false_or, or_false, not_true_eq_false, not_false_eq_true, ↓reduceIte, nar_b0, nar_b1]; done) | simp [exI, nar_b0, nar_b1, hc952, hc955]), R957⟩
      · have R958 : Go p e below P T875 (mkF m 204 #[.val (.int i0), .val (.long i1), .second, .val (.int i2), .val (.int n_), .val (.int lf), .val (.int c0), .val (.int c1), .val (.int c2), .val (.int c3), .val (.int c4), .val (.int c5), .val (.int c6), .val (.ref x_875), .val (.int sh_), .val (.int lg_), .unset] []) := fun t_ k_ => R954 t_ (XS.ifNo X875.here hx rfl (hb hby at_201) rfl ((if0 _ _).trans (feq hc955).1) k_)
        have R959 : Go p e below P T875 (mkF m 205 #[.val (.int i0), .val (.long i1), .second, .val (.int i2), .val (.int n_), .val (.int lf), .val (.int c0), .val (.int c1), .val (.int c2), .val (.int c3), .val (.int c4), .val (.int c5), .val (.int c6), .val (.ref x_875), .val (.int sh_), .val (.int lg_), .unset] [(.int (1 : Int32))]) := fun t_ k_ => R958 t_ (XS.iconst X875.here hx rfl (hb hby at_204) k_)
        have R960 : Go p e below P T875 (mkF m 209 #[.val (.int i0), .val (.long i1), .second, .val (.int i2), .val (.int n_), .val (.int lf), .val (.int c0), .val (.int c1), .val (.int c2), .val (.int c3), .val (.int c4), .val (.int c5), .val (.int c6), .val (.ref x_875), .val (.int sh_), .val (.int lg_), .unset] [(.int (1 : Int32))]) := fun t_ k_ => R959 t_ (XS.goto X875.here hx rfl (pc0 := 205) (pc' := 209) rfl (hb hby at_205) (by decide) (by decide) k_)
        exact ⟨(1 : Int32), (by first | (simp only [exI, eq_true hc952, eq_false hc955, true_and, and_true, false_and, and_false, true_or, or_true, false_or, or_false, not_true_eq_false, not_false_eq_true, ↓reduceIte, nar_b0, nar_b1]; done) | simp [exI, nar_b0, nar_b1, hc952, hc955]), R960⟩
    · have R961 : Go p e below P T875 (mkF m 204 #[.val (.int i0), .val (.long i1), .second, .val (.int i2), .val (.int n_), .val (.int lf), .val (.int c0), .val (.int c1), .val (.int c2), .val (.int c3), .val (.int c4), .val (.int c5), .val (.int c6), .val (.ref x_875), .val (.int sh_), .val (.int lg_), .unset] []) := fun t_ k_ => R951 t_ (XS.ifYes X875.here hx rfl (pc0 := 196) (pc' := 204) rfl (hb hby at_196) rfl ((if0 _ _).trans (feq hc952).2) (by decide) (by decide) k_)
      have R962 : Go p e below P T875 (mkF m 205 #[.val (.int i0), .val (.long i1), .second, .val (.int i2), .val (.int n_), .val (.int lf), .val (.int c0), .val (.int c1), .val (.int c2), .val (.int c3), .val (.int c4), .val (.int c5), .val (.int c6), .val (.ref x_875), .val (.int sh_), .val (.int lg_), .unset] [(.int (1 : Int32))]) := fun t_ k_ => R961 t_ (XS.iconst X875.here hx rfl (hb hby at_204) k_)
      have R963 : Go p e below P T875 (mkF m 209 #[.val (.int i0), .val (.long i1), .second, .val (.int i2), .val (.int n_), .val (.int lf), .val (.int c0), .val (.int c1), .val (.int c2), .val (.int c3), .val (.int c4), .val (.int c5), .val (.int c6), .val (.ref x_875), .val (.int sh_), .val (.int lg_), .unset] [(.int (1 : Int32))]) := fun t_ k_ => R962 t_ (XS.goto X875.here hx rfl (pc0 := 205) (pc' := 209) rfl (hb hby at_205) (by decide) (by decide) k_)
      exact ⟨(1 : Int32), (by first | (simp only [exI, eq_false hc952, true_and, and_true, false_and, and_false, true_or, or_true, false_or, or_false, not_true_eq_false, not_false_eq_true, ↓reduceIte, nar_b0, nar_b1]; done) | simp [exI, nar_b0, nar_b1, hc952]), R963⟩
  have R964 : Go p e below P T875 (mkF m 211 #[.val (.int i0), .val (.long i1), .second, .val (.int i2), .val (.int n_), .val (.int lf), .val (.int c0), .val (.int c1), .val (.int c2), .val (.int c3), .val (.int c4), .val (.int c5), .val (.int c6), .val (.ref x_875), .val (.int sh_), .val (.int lg_), .val (.int ex_)] []) := fun t_ k_ => R949 t_ (XS.istore X875.here hx rfl (hb hby at_209) rfl (l' := #[.val (.int i0), .val (.long i1), .second, .val (.int i2), .val (.int n_), .val (.int lf), .val (.int c0), .val (.int c1), .val (.int c2), .val (.int c3), .val (.int c4), .val (.int c5), .val (.int c6), .val (.ref x_875), .val (.int sh_), .val (.int lg_), .val (.int ex_)]) rfl k_)
  have R965 : Go p e below P T875 (mkF m 213 #[.val (.int i0), .val (.long i1), .second, .val (.int i2), .val (.int n_), .val (.int lf), .val (.int c0), .val (.int c1), .val (.int c2), .val (.int c3), .val (.int c4), .val (.int c5), .val (.int c6), .val (.ref x_875), .val (.int sh_), .val (.int lg_), .val (.int ex_)] [(.ref x_875)]) := fun t_ k_ => R964 t_ (XS.aload X875.here hx rfl (hb hby at_211) rfl rfl k_)
  obtain ⟨rv966, _, ⟨T966, L966, k966, n966⟩, -, X966, hT966, hG966, ⟨Lc966, hQ966, l966, y966, z966, hC966⟩, st966⟩ := callSS X875 hx (y := (⟨"com/example/toekit/toekit/cli/Arguments", "isHelp", "(Ljava/lang/String;)Z"⟩ : MethodName)) hown (mvT hZ (hw _ (List.mem_of_getElem? (i := 30) rfl))) (mvT hZ (hw _ (List.mem_of_getElem? (i := 31) rfl))) (mvT hZ (hw _ (List.mem_of_getElem? (i := 32) rfl))) (mvT hZ (hw _ (List.mem_of_getElem? (i := 33) rfl))) (by decide) (backOfSH (W := 0) (isHelp_ l Z a0 hw [] x_875 t_875 kb_875 (strL n_ c0 c1 c2 c3 c4 c5 c6) zc T875.heap n0 O875 hEL p875_1 p875_2 p875_3 p875_4 P0 hzc (strL_ok cb0 cb1 cb2 cb3 cb4 cb5 cb6) strL_len) hZ (hw _ (List.mem_of_getElem? (i := 33) rfl)) (hw _ (List.mem_of_getElem? (i := 32) rfl)) (by decide) (by decide) hEL C876.1) (g := (mkF m 213 #[.val (.int i0), .val (.long i1), .second, .val (.int i2), .val (.int n_), .val (.int lf), .val (.int c0), .val (.int c1), .val (.int c2), .val (.int c3), .val (.int c4), .val (.int c5), .val (.int c6), .val (.ref x_875), .val (.int sh_), .val (.int lg_), .val (.int ex_)] [(.ref x_875)])) rfl (by rw [hml]; rfl) (argsL := [(.ref x_875)]) (rest := []) (lenOf pd_80118224 rfl) rfl (by show 2 * 0 + _ ≤ _; exact Nat.le_of_eq rfl) (hb hby at_213) (fun _ _ => ⟨rfl, (rfl : T875.heap = T875.heap), (by decide : 18 + 4 ≤ _), (by decide : 186 + 40 ≤ _)⟩)
  dsimp only [Pt.U, Pt.locs, Pt.cells, Pt.slots] at X966 hT966 hG966 l966 y966 z966 hC966 st966 hQ966
  subst l966 y966 z966
  obtain ⟨X966, hS966, hZ, hown⟩ := rebS hS875 (by rw [(rfl : T875.heap = T875.heap)]; exact hk875) X966 hT966 hG966 hZ hown
  have hk966 : T966.heap.size ≤ T966.heap.size := Nat.le_refl _
  obtain ⟨rfl, N966q, K966⟩ := hQ966
  have N966 := Fr.app N875 N966q
  have O966 := O875.keep K966 all0
  have C967 := C876.trans hC966
  have R968 : Go p e below P T966 (mkF m 216 #[.val (.int i0), .val (.long i1), .second, .val (.int i2), .val (.int n_), .val (.int lf), .val (.int c0), .val (.int c1), .val (.int c2), .val (.int c3), .val (.int c4), .val (.int c5), .val (.int c6), .val (.ref x_875), .val (.int sh_), .val (.int lg_), .val (.int ex_)] [(.int (isH (strL n_ c0 c1 c2 c3 c4 c5 c6)))]) := fun t_ k_ => R965 t_ (st966.trans k_)
  have R969 : Go p e below P T966 (mkF m 218 #[.val (.int i0), .val (.long i1), .second, .val (.int i2), .val (.int n_), .val (.int lf), .val (.int c0), .val (.int c1), .val (.int c2), .val (.int c3), .val (.int c4), .val (.int c5), .val (.int c6), .val (.ref x_875), .val (.int sh_), .val (.int lg_), .val (.int ex_)] [(.int ex_), (.int (isH (strL n_ c0 c1 c2 c3 c4 c5 c6)))]) := fun t_ k_ => R968 t_ (XS.iload X966.here hx rfl (hb hby at_216) rfl k_)
  have R970 : Go p e below P T966 (mkF m 221 #[.val (.int i0), .val (.long i1), .second, .val (.int i2), .val (.int n_), .val (.int lf), .val (.int c0), .val (.int c1), .val (.int c2), .val (.int c3), .val (.int c4), .val (.int c5), .val (.int c6), .val (.ref x_875), .val (.int sh_), .val (.int lg_), .val (.int ex_)] []) := fun t_ k_ => R969 t_ (XS.icmpNo X966.here hx rfl (hb hby at_218) rfl (teq (by rw [hj950, hj880, hj903]; exact own_final rn)).2 k_)
  have R971 : Go p e below P T966 (mkF m 222 #[.val (.int i0), .val (.long i1), .second, .val (.int i2), .val (.int n_), .val (.int lf), .val (.int c0), .val (.int c1), .val (.int c2), .val (.int c3), .val (.int c4), .val (.int c5), .val (.int c6), .val (.ref x_875), .val (.int sh_), .val (.int lg_), .val (.int ex_)] [(.int (1 : Int32))]) := fun t_ k_ => R970 t_ (XS.iconst X966.here hx rfl (hb hby at_221) k_)
  have R972 : Go p e below P T966 (mkF m 226 #[.val (.int i0), .val (.long i1), .second, .val (.int i2), .val (.int n_), .val (.int lf), .val (.int c0), .val (.int c1), .val (.int c2), .val (.int c3), .val (.int c4), .val (.int c5), .val (.int c6), .val (.ref x_875), .val (.int sh_), .val (.int lg_), .val (.int ex_)] [(.int (1 : Int32))]) := fun t_ k_ => R971 t_ (XS.goto X966.here hx rfl (pc0 := 222) (pc' := 226) rfl (hb hby at_222) (by decide) (by decide) k_)
  obtain ⟨fs, hr, hrun, hended, hend⟩ := X966.leaveW hS966 (by rw [(rfl : T966.heap = T966.heap)]; exact hk966 : _ ≤ T966.heap.size) (v := some (.int (nar .boolean (1 : Int32)))) (fun h => by rw [Bd.returns] at h; cases h)
  have hCe := C967.trans (CHv.at X966 hZ hEL C967.1)
  exact ⟨_, _, hP _ (R972 _ (retN X966 hx (t := .boolean) Bd.returns (by simp) (hb hby at_226) hr)), hrun, hended, _, _, rfl, ⟨rfl, N966, ((((((((((Keep.refl h0 []).trans K808 all0).trans K817 all0).trans K826 all0).trans K835 all0).trans K844 all0).trans K853 all0).trans K862 all0).trans K875 all0).trans K966 all0)⟩, (by show CHr Z EL0 s.vm s.heap T966.vm T966.heap; rw [hh, (rfl : T966.heap = T966.heap)]; exact hCe), ⟨hend.1, hend.2.1, hend.2.2.1, hend.2.2.2.mono (by decide) (by decide)⟩⟩
set_option maxRecDepth 65536 in
set_option maxHeartbeats 40000000 in
theorem comes_1 {Post : Tables → Env → Array Value → State → Outcome → State → Prop} (hpost : ∀ tb e args s v u, (limb_1_1.after args s (.returned v) u = true ∧ limb_1_2.after args s (.returned v) u = true ∧ True) → ReturnedEndW s (.returned v) u (Jvm.fieldLocs frame_1_writes args s ++ Jvm.arrayLocs frame_1_arrays args s ++ Jvm.staticLocs frame_1_statics s) 24 5248 → Post tb e args s (.returned v) u) :
    ArmFor flags0 classFile x code maxLocals ret World_1 tables_1 room_1 Calls_1 rest_1 Pre_1 Post := by
  intro l hfl _ _ p e ha hc hk s m args below hf hA hF happ hP
  obtain ⟨hcalls, hrest, hpre⟩ := hP
  obtain ⟨-, -, -, hnamed, -, -, -, hat⟩ := (Spec.applies_iff hf).mp happ
  obtain ⟨hg, hn⟩ := and_e (Cond.before_iff.mp (show (Jvm.Cond.and given_1 narrow_1).before args s = true from hpre))
  obtain ⟨g1, g2⟩ := and_e hg
  obtain ⟨g3, g4⟩ := and_e g2
  obtain ⟨g5, g6⟩ := and_e g4
  obtain ⟨w0, w1, w2, rfl⟩ : ∃ w0 w1 w2 : Value, args = #[w0, w1, w2] := by
    have hs : args.size = 3 := by simpa [Cond.value, given_1] using g1
    obtain ⟨L⟩ := args
    match L, hs with
    | [w0, w1, w2], _ => exact ⟨w0, w1, w2, rfl⟩
  have hw := fun d (hd : d ∈ tables_1) => atoms_spec (ws := Jvm.Cond.code x code maxLocals ret :: tables_1) hat d (List.mem_cons_of_mem _ hd)
  have hfit : Fit s := fun {y c} hc i hi => by
    obtain ⟨ha, rfl⟩ := Array.getElem?_eq_some_iff.mp hc
    have q := List.all_eq_true.mp ((Array.all_eq_true_iff_forall_mem.mp hF) _ (Array.getElem_mem ha)) i (List.mem_range.mpr hi)
    simpa [Array.getElem?_eq_getElem hi] using q
  obtain ⟨hsets, hown0⟩ := atoms_of _ (rest_1_c_eq ▸ (show rest_1_c.before _ s = true from hrest))
  obtain ⟨i0, ei0⟩ := is_v g3
  obtain rfl : w0 = (.int i0) := Option.some.inj ei0
  obtain ⟨i1, ei1⟩ := isL_v g5
  obtain rfl : w1 = (.long i1) := Option.some.inj ei1
  obtain ⟨i2, ei2⟩ := is_v g6
  obtain rfl : w2 = (.int i2) := Option.some.inj ei2
  have hEL : EW s (#[.int i0, .long i1, .int i2] : Array Value) EL0 := (EW.cons (hw _ (List.mem_of_getElem? (i := 34) rfl)) (by decide) (EW.cons (hw _ (List.mem_of_getElem? (i := 46) rfl)) (by decide) (EW.cons (hw _ (List.mem_of_getElem? (i := 79) rfl)) (by decide) (EW.cons (hw _ (List.mem_of_getElem? (i := 47) rfl)) (by decide) (EW.cons (hw _ (List.mem_of_getElem? (i := 22) rfl)) (by decide) EW.nil)))))
  have hCH : CHv s EL0 s.vm s.heap := CHv.start hEL (fun p hp => hcalls.1 p hp) (hsets _ (List.mem_of_getElem? (i := 2) rfl)) (hw _ (List.mem_of_getElem? (i := 23) rfl)) (hw _ (List.mem_of_getElem? (i := 9) rfl))
  obtain ⟨z_cs, ev_cs⟩ := is_v (Cond.before_iff.mp (hsets _ (List.mem_of_getElem? (i := 1) rfl)))
  have S_cs := Sta.start ev_cs (Or.inl (hsets _ (List.mem_of_getElem? (i := 0) rfl)))
  have hz_cs : ¬ z_cs = 0 := fun q => by
    have h := not_v (Cond.before_iff.mp (hsets _ (List.mem_of_getElem? (i := 2) rfl)))
    have h' := gotF (eq_I ev_cs (Term.int_eval (0))) h
    exact h' q
  obtain ⟨fm, ev_f, hfm⟩ := isR_v (Cond.before_iff.mp (hsets _ (List.mem_of_getElem? (i := 8) rfl)))
  have S_f := Sta.start ev_f (Or.inl (hsets _ (List.mem_of_getElem? (i := 7) rfl)))
  obtain ⟨n, o, h1, h2, h3, _, L, rfl, ⟨rfl, N, _⟩, -, hq⟩ := law_ l s _ hw tables_1 i0 i1 i2 z_cs fm s.heap s.heap.size (Old.start s) hEL S_cs S_f hz_cs hfm p e ha hc hk s m _ below hf ((Spec.applies_iff_loose hf).mp happ).1 ⟨rfl, State.Warmed39.refl s, rfl, hCH⟩ trivial
  refine ⟨n, _, h1, h2, h3, hpost _ _ _ _ _ _ ⟨Cond.after_iff.mpr rfl, Cond.after_iff.mpr (eq_i res_at (Term.int_eval (1)) rfl), trivial⟩ ⟨hq.1, hq.2.1, hq.2.2.1, (hq.2.2.2.sift fun y hy => Or.inr (N y hy)).mono (by decide) (by decide)⟩⟩
theorem main_1_1 : Claimed_1_1 := comes_1 fun _ _ _ _ _ _ h hF => ⟨h.1, hF⟩
theorem main_1_2 : Claimed_1_2 := comes_1 fun _ _ _ _ _ _ h hF => ⟨h.2.1, hF⟩
end Jvm.Pilot.@@N@@
namespace Jvm.Pilot.@@N@@
open Jvm Jvm.ClassFile Sem Op Lib Jvm.Free Jvm.Stand Jvm.Pilot.@@N@@.Jvm.D
/-! MADE BY PROGRAM (witnessworld.py) out of the Statement's table words and the real class files: 20 classes; the members and pool entries that the words name. The judged class is class 1, her method 1. -/
namespace start1
open Jvm.ClassFile
def u (s : String) : CpInfo := .utf8 (stringToUtf16 s)
/-- a pool by its gaps: so many unusable entries, then the entry; so many at the end -/
def gap : Nat → List CpInfo → List CpInfo
  | 0, r => r
  | n + 1, r => .unusable :: gap n r
def poolList (es : List (Nat × CpInfo)) (last : Nat) : List CpInfo := es.foldr (fun e r => gap e.1 (e.2 :: r)) (gap last [])
def pool (es : List (Nat × CpInfo)) (last : Nat) : Array CpInfo := ⟨poolList es last⟩
def fileOf (pool : Array CpInfo) (this : Nat) (attrs : Array Attribute := #[]) (ms : Array MethodInfo := #[]) (fl : Nat := 33) (sup : Nat := 0) (ifs : Array Nat := #[]) (fds : Array FieldInfo := #[]) : ClassFile where
  minorVersion := 0
  majorVersion := 65
  constantPool := pool
  accessFlags := fl
  thisClass := this
  superClass := sup
  interfaces := ifs
  fields := fds
  methods := ms
  attributes := attrs
def plain (name : String) (sup : Option ClassId) : Class where
  name := name
  kind := .ordinary
  loader := none
  accessFlags := 33
  super := sup
  interfaces := #[]
  cf := none
  fields := #[]
  methods := #[]
  instanceTypes := #[]
  staticTypes := #[]
  resolved := #[]
  callSites := []
  init := .initialized
  statics := none
  mirror := none

def pool0 : Array CpInfo := pool [(5, u "<init>"), (0, u "()V"), (1, .class_ 10), (1, u "java/lang/Object")] 113

def k0c0 : Code := { maxStack := 0, maxLocals := 1, code := object_method_1_code, exceptionTable := #[], attributes := #[] }
def k0m0 : Method := { name := "<init>", desc := "()V", sig := { parameters := [], returnType := none }, accessFlags := 1, code := some k0c0 }
/-- java/lang/Object -/
def k0 : Class := { plain "java/lang/Object" none with
  accessFlags := 33
  interfaces := #[]
  cf := some (fileOf pool0 8 #[] #[{ accessFlags := 1, nameIndex := 5, descriptorIndex := 6, attributes := #[] }] 33 0 #[] #[])
  fields := #[]
  methods := #[k0m0]
  instanceTypes := #[]
  staticTypes := #[]
  resolved := Array.replicate 124 none
  statics := none }

def pool1 : Array CpInfo := pool [(2, .class_ 4), (1, u "java/lang/Object"), (0, u "<init>"), (0, u "()V"), (0, .methodref 8 9), (0, .class_ 10), (0, .nameAndType 11 12), (0, u "com/example/toekit/toekit/cli/ArgumentsIsHelpPinLaw"), (0, u "pick"), (0, u "(JIIZ)C"), (0, .methodref 8 14), (0, .nameAndType 15 16), (0, u "make"), (0, u "(ICCCCCCC)Ljava/lang/String;"), (0, .methodref 18 19), (0, .class_ 20), (0, .nameAndType 21 22), (0, u "com/example/toekit/toekit/cli/Arguments"), (0, u "isHelp"), (0, u "(Ljava/lang/String;)Z"), (0, .string 24), (0, u "--help"), (0, .methodref 26 27), (0, .class_ 28), (0, .nameAndType 29 30), (0, u "java/lang/String"), (0, u "charAt"), (0, u "(I)C"), (0, .string 32), (0, u "-h"), (0, .long 255), (1, .methodref 26 36), (0, .nameAndType 5 37), (0, u "([C)V"), (2, u "law"), (0, u "(IJI)Z")] 3

def k1m0 : Method := { name := "<init>", desc := "()V", sig := { parameters := [], returnType := none }, accessFlags := 1, code := none }
def k1c1 : Code := { maxStack := 8, maxLocals := 17, code := code, exceptionTable := #[], attributes := #[] }
def k1m1 : Method := { name := "law", desc := "(IJI)Z", sig := { parameters := [.int, .long, .int], returnType := some .boolean }, accessFlags := 9, code := some k1c1 }
def k1c2 : Code := { maxStack := 4, maxLocals := 5, code := method_3_code, exceptionTable := #[], attributes := #[] }
def k1m2 : Method := { name := "pick", desc := "(JIIZ)C", sig := { parameters := [.long, .int, .int, .boolean], returnType := some .char }, accessFlags := 10, code := some k1c2 }
def k1c3 : Code := { maxStack := 6, maxLocals := 8, code := method_4_code, exceptionTable := #[], attributes := #[] }
def k1m3 : Method := { name := "make", desc := "(ICCCCCCC)Ljava/lang/String;", sig := { parameters := [.int, .char, .char, .char, .char, .char, .char, .char], returnType := some (.object "java/lang/String") }, accessFlags := 10, code := some k1c3 }
/-- com/example/toekit/toekit/cli/ArgumentsIsHelpPinLaw -/
def k1 : Class := { plain "com/example/toekit/toekit/cli/ArgumentsIsHelpPinLaw" (some 0) with
  accessFlags := 49
  interfaces := #[]
  cf := some (fileOf pool1 8 #[] #[{ accessFlags := 1, nameIndex := 5, descriptorIndex := 6, attributes := #[] }, { accessFlags := 9, nameIndex := 40, descriptorIndex := 41, attributes := #[] }, { accessFlags := 10, nameIndex := 11, descriptorIndex := 12, attributes := #[] }, { accessFlags := 10, nameIndex := 15, descriptorIndex := 16, attributes := #[] }] 49 2 #[] #[])
  fields := #[]
  methods := #[k1m0, k1m1, k1m2, k1m3]
  instanceTypes := #[]
  staticTypes := #[]
  resolved := Array.replicate 45 none
  statics := none }

def pool2 : Array CpInfo := pool [(1, .class_ 2), (0, u "java/io/Serializable"), (0, .class_ 4), (0, u "java/lang/Object")] 2

/-- java/io/Serializable -/
def k2 : Class := { plain "java/io/Serializable" (some 0) with
  accessFlags := 1537
  interfaces := #[]
  cf := some (fileOf pool2 1 #[] #[] 1537 3 #[] #[])
  fields := #[]
  methods := #[]
  instanceTypes := #[]
  staticTypes := #[]
  resolved := Array.replicate 7 none
  statics := none }

def pool3 : Array CpInfo := pool [(1, .class_ 2), (0, u "java/lang/Comparable"), (0, .class_ 4), (0, u "java/lang/Object")] 7

/-- java/lang/Comparable -/
def k3 : Class := { plain "java/lang/Comparable" (some 0) with
  accessFlags := 1537
  interfaces := #[]
  cf := some (fileOf pool3 1 #[] #[] 1537 3 #[] #[])
  fields := #[]
  methods := #[]
  instanceTypes := #[]
  staticTypes := #[]
  resolved := Array.replicate 12 none
  statics := none }

def pool4 : Array CpInfo := pool [(2, .class_ 4), (1, u "java/lang/CharSequence"), (42, .class_ 48), (0, u "java/lang/CharSequence$1CodePointIterator"), (10, .class_ 60), (0, u "java/lang/CharSequence$1CharIterator"), (5, .class_ 67), (0, u "java/lang/Object")] 63

/-- java/lang/CharSequence -/
def k4 : Class := { plain "java/lang/CharSequence" (some 0) with
  accessFlags := 1537
  interfaces := #[]
  cf := some (fileOf pool4 2 #[.nestMembers #[47, 59]] #[] 1537 66 #[] #[])
  fields := #[]
  methods := #[]
  instanceTypes := #[]
  staticTypes := #[]
  resolved := Array.replicate 131 none
  statics := none }

def pool5 : Array CpInfo := pool [(1, .class_ 2), (0, u "java/lang/constant/Constable"), (0, .class_ 4), (0, u "java/lang/Object")] 6

/-- java/lang/constant/Constable -/
def k5 : Class := { plain "java/lang/constant/Constable" (some 0) with
  accessFlags := 1537
  interfaces := #[]
  cf := some (fileOf pool5 1 #[] #[] 1537 3 #[] #[])
  fields := #[]
  methods := #[]
  instanceTypes := #[]
  staticTypes := #[]
  resolved := Array.replicate 11 none
  statics := none }

def pool6 : Array CpInfo := pool [(1, .class_ 2), (0, u "java/lang/constant/ConstantDesc"), (0, .class_ 4), (0, u "java/lang/Object")] 32

/-- java/lang/constant/ConstantDesc -/
def k6 : Class := { plain "java/lang/constant/ConstantDesc" (some 0) with
  accessFlags := 1537
  interfaces := #[]
  cf := some (fileOf pool6 1 #[] #[] 1537 3 #[] #[])
  fields := #[]
  methods := #[]
  instanceTypes := #[]
  staticTypes := #[]
  resolved := Array.replicate 37 none
  statics := none }

def pool7 : Array CpInfo := pool [(1, .methodref 2 3), (0, .class_ 4), (0, .nameAndType 5 6), (0, u "java/lang/Object"), (0, u "<init>"), (0, u "()V"), (0, .string 8), (0, u ""), (0, .fieldref 10 11), (0, .class_ 12), (0, .nameAndType 13 14), (0, u "java/lang/String"), (0, u "value"), (0, u "[B"), (0, .fieldref 10 16), (0, .nameAndType 17 18), (0, u "coder"), (0, u "B"), (2, u "hash"), (0, u "I"), (2, u "hashIsZero"), (0, u "Z"), (0, .methodref 10 28), (0, .nameAndType 5 29), (0, u "([CIILjava/lang/Void;)V"), (8, .fieldref 10 39), (0, .nameAndType 40 26), (0, u "COMPACT_STRINGS"), (1, .class_ 44), (1, u "java/lang/StringUTF16"), (0, u "compress"), (1, .methodref 42 48), (0, .nameAndType 49 50), (0, u "coderFromArrayLen"), (0, u "([BI)B"), (56, .class_ 109), (1, u "java/lang/StringLatin1"), (32, u "()Z"), (34, .methodref 42 178), (0, .nameAndType 45 179), (0, u "([CII)[B"), (183, u "([BI)C"), (27, u "(II)V"), (35, u "(I)C"), (64, .methodref 10 493), (0, .nameAndType 494 142), (0, u "isLatin1"), (0, .methodref 107 496), (0, .nameAndType 497 363), (0, u "charAt"), (3, u "checkIndex"), (39, .methodref 107 542), (0, .nameAndType 543 544), (0, u "equals"), (0, u "([B[B)Z"), (28, u "(Ljava/lang/Object;)Z"), (1, .class_ 576), (0, u "java/lang/CharSequence"), (22, u "CASE_INSENSITIVE_ORDER"), (0, u "Ljava/util/Comparator;"), (409, u "([C)V"), (42, .fieldref 1054 1055), (0, .class_ 1056), (0, .nameAndType 1057 1058), (0, u "jdk/internal/util/Preconditions"), (0, u "SIOOBE_FORMATTER"), (0, u "Ljava/util/function/BiFunction;"), (0, .methodref 1054 1060), (0, .nameAndType 501 1061), (0, u "(IILjava/util/function/BiFunction;)I"), (39, u "serialPersistentFields"), (0, u "[Ljava/io/ObjectStreamField;"), (0, .class_ 1104), (0, u "java/lang/String$CaseInsensitiveComparator"), (1, .class_ 1107), (0, u "java/io/Serializable"), (0, .class_ 1109), (0, u "java/lang/Comparable"), (0, .class_ 1111), (0, u "java/lang/constant/Constable"), (0, .class_ 1113), (0, u "java/lang/constant/ConstantDesc"), (2, u "serialVersionUID"), (0, u "J"), (3, u "REPL"), (0, u "C"), (2, u "LATIN1"), (1, u "UTF16")] 323

def k7m0 : Method := { name := "<init>", desc := "()V", sig := { parameters := [], returnType := none }, accessFlags := 1, code := none }
def k7c1 : Code := { maxStack := 5, maxLocals := 2, code := jdk_42_method_3_code, exceptionTable := #[], attributes := #[] }
def k7m1 : Method := { name := "<init>", desc := "([C)V", sig := { parameters := [(.array .char)], returnType := none }, accessFlags := 1, code := some k7c1 }
def k7c2 : Code := { maxStack := 2, maxLocals := 2, code := jdk_42_method_56_code, exceptionTable := #[], attributes := #[] }
def k7m2 : Method := { name := "charAt", desc := "(I)C", sig := { parameters := [.int], returnType := some .char }, accessFlags := 1, code := some k7c2 }
def k7c3 : Code := { maxStack := 2, maxLocals := 3, code := jdk_42_method_66_code, exceptionTable := #[], attributes := #[] }
def k7m3 : Method := { name := "equals", desc := "(Ljava/lang/Object;)Z", sig := { parameters := [(.object "java/lang/Object")], returnType := some .boolean }, accessFlags := 1, code := some k7c3 }
def k7c4 : Code := { maxStack := 4, maxLocals := 6, code := jdk_42_method_149_code, exceptionTable := #[], attributes := #[] }
def k7m4 : Method := { name := "<init>", desc := "([CIILjava/lang/Void;)V", sig := { parameters := [(.array .char), .int, .int, (.object "java/lang/Void")], returnType := none }, accessFlags := 2, code := some k7c4 }
def k7c5 : Code := { maxStack := 1, maxLocals := 1, code := jdk_42_method_154_code, exceptionTable := #[], attributes := #[] }
def k7m5 : Method := { name := "isLatin1", desc := "()Z", sig := { parameters := [], returnType := some .boolean }, accessFlags := 0, code := some k7c5 }
def k7c6 : Code := { maxStack := 3, maxLocals := 2, code := jdk_42_method_155_code, exceptionTable := #[], attributes := #[] }
def k7m6 : Method := { name := "checkIndex", desc := "(II)V", sig := { parameters := [.int, .int], returnType := none }, accessFlags := 8, code := some k7c6 }
/-- java/lang/String -/
def k7 : Class := { plain "java/lang/String" (some 0) with
  accessFlags := 49
  interfaces := #[2, 3, 4, 5, 6]
  cf := some (fileOf pool7 10 #[.nestMembers #[1103]] #[{ accessFlags := 1, nameIndex := 5, descriptorIndex := 6, attributes := #[] }, { accessFlags := 1, nameIndex := 5, descriptorIndex := 1010, attributes := #[] }, { accessFlags := 1, nameIndex := 497, descriptorIndex := 427, attributes := #[] }, { accessFlags := 1, nameIndex := 543, descriptorIndex := 573, attributes := #[] }, { accessFlags := 2, nameIndex := 5, descriptorIndex := 29, attributes := #[] }, { accessFlags := 0, nameIndex := 494, descriptorIndex := 142, attributes := #[] }, { accessFlags := 8, nameIndex := 501, descriptorIndex := 391, attributes := #[] }] 49 2 #[1106, 1108, 575, 1110, 1112] #[{ accessFlags := 18, nameIndex := 13, descriptorIndex := 14, attributes := #[] }, { accessFlags := 18, nameIndex := 17, descriptorIndex := 18, attributes := #[] }, { accessFlags := 2, nameIndex := 21, descriptorIndex := 22, attributes := #[] }, { accessFlags := 2, nameIndex := 25, descriptorIndex := 26, attributes := #[] }, { accessFlags := 26, nameIndex := 1116, descriptorIndex := 1117, attributes := #[] }, { accessFlags := 24, nameIndex := 40, descriptorIndex := 26, attributes := #[] }, { accessFlags := 26, nameIndex := 1101, descriptorIndex := 1102, attributes := #[] }, { accessFlags := 26, nameIndex := 1121, descriptorIndex := 1122, attributes := #[] }, { accessFlags := 25, nameIndex := 599, descriptorIndex := 600, attributes := #[] }, { accessFlags := 24, nameIndex := 1125, descriptorIndex := 18, attributes := #[] }, { accessFlags := 24, nameIndex := 1127, descriptorIndex := 18, attributes := #[] }])
  fields := #[{ name := "value", type := (.array .byte), accessFlags := 18, slot := 0, constantValue := 0 }, { name := "coder", type := .byte, accessFlags := 18, slot := 1, constantValue := 0 }, { name := "hash", type := .int, accessFlags := 2, slot := 2, constantValue := 0 }, { name := "hashIsZero", type := .boolean, accessFlags := 2, slot := 3, constantValue := 0 }, { name := "serialVersionUID", type := .long, accessFlags := 26, slot := 0, constantValue := 0 }, { name := "COMPACT_STRINGS", type := .boolean, accessFlags := 24, slot := 1, constantValue := 0 }, { name := "serialPersistentFields", type := (.array (.object "java/io/ObjectStreamField")), accessFlags := 26, slot := 2, constantValue := 0 }, { name := "REPL", type := .char, accessFlags := 26, slot := 3, constantValue := 0 }, { name := "CASE_INSENSITIVE_ORDER", type := (.object "java/util/Comparator"), accessFlags := 25, slot := 4, constantValue := 0 }, { name := "LATIN1", type := .byte, accessFlags := 24, slot := 5, constantValue := 0 }, { name := "UTF16", type := .byte, accessFlags := 24, slot := 6, constantValue := 0 }]
  methods := #[k7m0, k7m1, k7m2, k7m3, k7m4, k7m5, k7m6]
  instanceTypes := #[(.array .byte), .byte, .int, .boolean]
  staticTypes := #[.long, .boolean, (.array (.object "java/io/ObjectStreamField")), .char, (.object "java/util/Comparator"), .byte, .byte]
  resolved := Array.replicate 1451 none
  statics := some 0 }

def pool8 : Array CpInfo := pool [(2, .class_ 4), (1, u "java/lang/Object"), (3, .class_ 10), (1, u "com/example/toekit/toekit/cli/Arguments"), (0, u "parameters"), (0, u "Ljava/util/List;"), (2, u "values"), (0, u "Ljava/util/Map;"), (2, u "helpAsked"), (0, u "Z"), (27, u "(Ljava/lang/String;)Z"), (25, u "(Ljava/lang/Object;)Z"), (8, .methodref 84 85), (0, .class_ 86), (0, .nameAndType 87 74), (0, u "java/lang/String"), (0, u "equals"), (115, .string 204), (0, u "-h"), (0, .string 206), (0, u "--help"), (2, u "isHelp")] 115

def k8c0 : Code := { maxStack := 2, maxLocals := 1, code := prog_21_method_11_code, exceptionTable := #[], attributes := #[] }
def k8m0 : Method := { name := "isHelp", desc := "(Ljava/lang/String;)Z", sig := { parameters := [(.object "java/lang/String")], returnType := some .boolean }, accessFlags := 8, code := some k8c0 }
/-- com/example/toekit/toekit/cli/Arguments -/
def k8 : Class := { plain "com/example/toekit/toekit/cli/Arguments" (some 0) with
  accessFlags := 49
  interfaces := #[]
  cf := some (fileOf pool8 8 #[] #[{ accessFlags := 8, nameIndex := 209, descriptorIndex := 48, attributes := #[] }] 49 2 #[] #[{ accessFlags := 18, nameIndex := 11, descriptorIndex := 12, attributes := #[] }, { accessFlags := 18, nameIndex := 15, descriptorIndex := 16, attributes := #[] }, { accessFlags := 18, nameIndex := 19, descriptorIndex := 20, attributes := #[] }])
  fields := #[{ name := "parameters", type := (.object "java/util/List"), accessFlags := 18, slot := 0, constantValue := 0 }, { name := "values", type := (.object "java/util/Map"), accessFlags := 18, slot := 1, constantValue := 0 }, { name := "helpAsked", type := .boolean, accessFlags := 18, slot := 2, constantValue := 0 }]
  methods := #[k8m0]
  instanceTypes := #[(.object "java/util/List"), (.object "java/util/Map"), .boolean]
  staticTypes := #[]
  resolved := Array.replicate 325 none
  statics := none }

def pool9 : Array CpInfo := pool [(1, .class_ 2), (0, u "java/lang/String"), (1, .class_ 6), (1, u "java/lang/Object"), (0, u "<init>"), (0, u "()V"), (0, .methodref 1 10), (0, .nameAndType 11 12), (0, u "checkIndex"), (0, u "(II)V"), (1, .class_ 16), (1, u "java/lang/StringLatin1"), (36, u "([BI)C"), (67, u "$assertionsDisabled"), (0, u "Z"), (98, .class_ 223), (1, u "java/lang/StringLatin1$LinesSpliterator"), (28, u "charAt"), (28, u "equals"), (0, u "([B[B)Z"), (107, .class_ 391), (0, u "java/lang/StringLatin1$CharsSpliterator")] 3

def k9m0 : Method := { name := "<init>", desc := "()V", sig := { parameters := [], returnType := none }, accessFlags := 0, code := none }
def k9c1 : Code := { maxStack := 2, maxLocals := 2, code := jdk_43_method_2_code, exceptionTable := #[], attributes := #[] }
def k9m1 : Method := { name := "charAt", desc := "([BI)C", sig := { parameters := [(.array .byte), .int], returnType := some .char }, accessFlags := 9, code := some k9c1 }
def k9c2 : Code := { maxStack := 3, maxLocals := 3, code := jdk_43_method_13_code, exceptionTable := #[], attributes := #[] }
def k9m2 : Method := { name := "equals", desc := "([B[B)Z", sig := { parameters := [(.array .byte), (.array .byte)], returnType := some .boolean }, accessFlags := 9, code := some k9c2 }
/-- java/lang/StringLatin1 -/
def k9 : Class := { plain "java/lang/StringLatin1" (some 0) with
  accessFlags := 48
  interfaces := #[]
  cf := some (fileOf pool9 14 #[.nestMembers #[390, 221]] #[{ accessFlags := 0, nameIndex := 7, descriptorIndex := 8, attributes := #[] }, { accessFlags := 9, nameIndex := 252, descriptorIndex := 53, attributes := #[] }, { accessFlags := 9, nameIndex := 281, descriptorIndex := 282, attributes := #[] }] 48 4 #[] #[{ accessFlags := 4120, nameIndex := 121, descriptorIndex := 122, attributes := #[] }])
  fields := #[{ name := "$assertionsDisabled", type := .boolean, accessFlags := 4120, slot := 0, constantValue := 0 }]
  methods := #[k9m0, k9m1, k9m2]
  instanceTypes := #[]
  staticTypes := #[.boolean]
  resolved := Array.replicate 395 none
  statics := none }

def pool10 : Array CpInfo := pool [(2, .class_ 4), (1, u "java/lang/Object"), (0, u "<init>"), (0, u "()V"), (17, .class_ 26), (1, u "jdk/internal/util/Preconditions"), (6, u "checkIndex"), (21, .class_ 56), (0, u "jdk/internal/util/Preconditions$4"), (57, .class_ 115), (0, u "jdk/internal/util/Preconditions$1"), (7, u "SIOOBE_FORMATTER"), (0, u "Ljava/util/function/BiFunction;"), (0, .class_ 126), (0, u "jdk/internal/util/Preconditions$2"), (3, u "AIOOBE_FORMATTER"), (0, .class_ 132), (0, u "jdk/internal/util/Preconditions$3"), (3, u "IOOBE_FORMATTER"), (41, u "(IILjava/util/function/BiFunction;)I")] 15

def k10m0 : Method := { name := "<init>", desc := "()V", sig := { parameters := [], returnType := none }, accessFlags := 1, code := none }
def k10c1 : Code := { maxStack := 3, maxLocals := 3, code := jdk_41_method_11_code, exceptionTable := #[], attributes := #[] }
def k10m1 : Method := { name := "checkIndex", desc := "(IILjava/util/function/BiFunction;)I", sig := { parameters := [.int, .int, (.object "java/util/function/BiFunction")], returnType := some .int }, accessFlags := 9, code := some k10c1 }
/-- jdk/internal/util/Preconditions -/
def k10 : Class := { plain "jdk/internal/util/Preconditions" (some 0) with
  accessFlags := 33
  interfaces := #[]
  cf := some (fileOf pool10 24 #[.nestMembers #[55, 131, 125, 114]] #[{ accessFlags := 1, nameIndex := 5, descriptorIndex := 6, attributes := #[] }, { accessFlags := 9, nameIndex := 33, descriptorIndex := 178, attributes := #[] }] 33 2 #[] #[{ accessFlags := 25, nameIndex := 123, descriptorIndex := 124, attributes := #[] }, { accessFlags := 25, nameIndex := 130, descriptorIndex := 124, attributes := #[] }, { accessFlags := 25, nameIndex := 136, descriptorIndex := 124, attributes := #[] }])
  fields := #[{ name := "SIOOBE_FORMATTER", type := (.object "java/util/function/BiFunction"), accessFlags := 25, slot := 0, constantValue := 0 }, { name := "AIOOBE_FORMATTER", type := (.object "java/util/function/BiFunction"), accessFlags := 25, slot := 1, constantValue := 0 }, { name := "IOOBE_FORMATTER", type := (.object "java/util/function/BiFunction"), accessFlags := 25, slot := 2, constantValue := 0 }]
  methods := #[k10m0, k10m1]
  instanceTypes := #[]
  staticTypes := #[(.object "java/util/function/BiFunction"), (.object "java/util/function/BiFunction"), (.object "java/util/function/BiFunction")]
  resolved := Array.replicate 194 none
  statics := some 1 }

def pool11 : Array CpInfo := pool [(6, .class_ 8), (1, u "java/lang/Object"), (0, u "<init>"), (0, u "()V"), (1, .class_ 14), (1, u "java/lang/StringUTF16"), (31, u "$assertionsDisabled"), (0, u "Z"), (13, u "HI_BYTE_SHIFT"), (0, u "I"), (2, u "LO_BYTE_SHIFT"), (49, .methodref 12 116), (0, .nameAndType 117 118), (0, u "compress"), (0, u "([CI[BII)I"), (3, u "([CII)[B"), (138, u "coderFromArrayLen"), (0, u "([BI)B"), (106, .class_ 371), (1, u "java/lang/StringUTF16$LinesSpliterator"), (58, u "MAX_LENGTH"), (196, .class_ 628), (0, u "java/lang/StringUTF16$CodePointsSpliterator"), (0, .class_ 630), (0, u "java/lang/StringUTF16$CharsSpliterator")] 4

def k11m0 : Method := { name := "<init>", desc := "()V", sig := { parameters := [], returnType := none }, accessFlags := 0, code := none }
def k11c1 : Code := { maxStack := 2, maxLocals := 2, code := jdk_52_method_15_code, exceptionTable := #[], attributes := #[] }
def k11m1 : Method := { name := "coderFromArrayLen", desc := "([BI)B", sig := { parameters := [(.array .byte), .int], returnType := some .byte }, accessFlags := 8, code := some k11c1 }
def k11c2 : Code := { maxStack := 5, maxLocals := 6, code := jdk_52_method_16_code, exceptionTable := #[], attributes := #[] }
def k11m2 : Method := { name := "compress", desc := "([CII)[B", sig := { parameters := [(.array .char), .int, .int], returnType := some (.array .byte) }, accessFlags := 9, code := some k11c2 }
def k11c3 : Code := { maxStack := 3, maxLocals := 7, code := jdk_52_method_21_code, exceptionTable := #[], attributes := #[] }
def k11m3 : Method := { name := "compress", desc := "([CI[BII)I", sig := { parameters := [(.array .char), .int, (.array .byte), .int, .int], returnType := some .int }, accessFlags := 9, code := some k11c3 }
/-- java/lang/StringUTF16 -/
def k11 : Class := { plain "java/lang/StringUTF16" (some 0) with
  accessFlags := 48
  interfaces := #[]
  cf := some (fileOf pool11 12 #[.nestMembers #[627, 629, 369]] #[{ accessFlags := 0, nameIndex := 9, descriptorIndex := 10, attributes := #[] }, { accessFlags := 8, nameIndex := 261, descriptorIndex := 262, attributes := #[] }, { accessFlags := 9, nameIndex := 117, descriptorIndex := 122, attributes := #[] }, { accessFlags := 9, nameIndex := 117, descriptorIndex := 118, attributes := #[] }] 48 6 #[] #[{ accessFlags := 26, nameIndex := 61, descriptorIndex := 62, attributes := #[] }, { accessFlags := 26, nameIndex := 65, descriptorIndex := 62, attributes := #[] }, { accessFlags := 24, nameIndex := 430, descriptorIndex := 62, attributes := #[] }, { accessFlags := 4120, nameIndex := 46, descriptorIndex := 47, attributes := #[] }])
  fields := #[{ name := "HI_BYTE_SHIFT", type := .int, accessFlags := 26, slot := 0, constantValue := 0 }, { name := "LO_BYTE_SHIFT", type := .int, accessFlags := 26, slot := 1, constantValue := 0 }, { name := "MAX_LENGTH", type := .int, accessFlags := 24, slot := 2, constantValue := 0 }, { name := "$assertionsDisabled", type := .boolean, accessFlags := 4120, slot := 3, constantValue := 0 }]
  methods := #[k11m0, k11m1, k11m2, k11m3]
  instanceTypes := #[]
  staticTypes := #[.int, .int, .int, .boolean]
  resolved := Array.replicate 635 none
  statics := none }

def pool12 : Array CpInfo := pool [(9, u "<init>"), (6, .class_ 18), (1, u "java/lang/Object"), (0, u "()V"), (1, .class_ 23), (1, u "jdk/internal/util/ArraysSupport"), (0, u "LOG2_ARRAY_LONG_INDEX_SCALE"), (0, u "I"), (2, u "U"), (0, u "Ljdk/internal/misc/Unsafe;"), (8, u "BIG_ENDIAN"), (0, u "Z"), (8, u "LOG2_BYTE_BIT_SIZE"), (4, u "LOG2_ARRAY_INT_INDEX_SCALE"), (54, u "JLA"), (0, u "Ljdk/internal/access/JavaLangAccess;"), (11, u "LOG2_ARRAY_BOOLEAN_INDEX_SCALE"), (9, u "LOG2_ARRAY_BYTE_INDEX_SCALE"), (5, u "LOG2_ARRAY_CHAR_INDEX_SCALE"), (5, u "LOG2_ARRAY_SHORT_INDEX_SCALE"), (18, u "LOG2_ARRAY_FLOAT_INDEX_SCALE"), (24, u "LOG2_ARRAY_DOUBLE_INDEX_SCALE"), (89, u "T_BOOLEAN"), (2, u "T_CHAR"), (1, u "T_FLOAT"), (1, u "T_DOUBLE"), (1, u "T_BYTE"), (1, u "T_SHORT"), (1, u "T_INT"), (1, u "T_LONG"), (1, u "SOFT_MAX_ARRAY_LENGTH")] 83

def k12m0 : Method := { name := "<init>", desc := "()V", sig := { parameters := [], returnType := none }, accessFlags := 2, code := none }
/-- jdk/internal/util/ArraysSupport -/
def k12 : Class := { plain "jdk/internal/util/ArraysSupport" (some 0) with
  accessFlags := 33
  interfaces := #[]
  cf := some (fileOf pool12 21 #[] #[{ accessFlags := 2, nameIndex := 9, descriptorIndex := 19, attributes := #[] }] 33 16 #[] #[{ accessFlags := 24, nameIndex := 28, descriptorIndex := 29, attributes := #[] }, { accessFlags := 26, nameIndex := 38, descriptorIndex := 39, attributes := #[] }, { accessFlags := 25, nameIndex := 121, descriptorIndex := 25, attributes := #[] }, { accessFlags := 25, nameIndex := 131, descriptorIndex := 25, attributes := #[] }, { accessFlags := 25, nameIndex := 137, descriptorIndex := 25, attributes := #[] }, { accessFlags := 25, nameIndex := 143, descriptorIndex := 25, attributes := #[] }, { accessFlags := 25, nameIndex := 53, descriptorIndex := 25, attributes := #[] }, { accessFlags := 25, nameIndex := 24, descriptorIndex := 25, attributes := #[] }, { accessFlags := 25, nameIndex := 162, descriptorIndex := 25, attributes := #[] }, { accessFlags := 25, nameIndex := 187, descriptorIndex := 25, attributes := #[] }, { accessFlags := 26, nameIndex := 48, descriptorIndex := 25, attributes := #[] }, { accessFlags := 25, nameIndex := 277, descriptorIndex := 25, attributes := #[] }, { accessFlags := 25, nameIndex := 280, descriptorIndex := 25, attributes := #[] }, { accessFlags := 25, nameIndex := 282, descriptorIndex := 25, attributes := #[] }, { accessFlags := 25, nameIndex := 284, descriptorIndex := 25, attributes := #[] }, { accessFlags := 25, nameIndex := 286, descriptorIndex := 25, attributes := #[] }, { accessFlags := 25, nameIndex := 288, descriptorIndex := 25, attributes := #[] }, { accessFlags := 25, nameIndex := 290, descriptorIndex := 25, attributes := #[] }, { accessFlags := 25, nameIndex := 292, descriptorIndex := 25, attributes := #[] }, { accessFlags := 26, nameIndex := 108, descriptorIndex := 109, attributes := #[] }, { accessFlags := 25, nameIndex := 294, descriptorIndex := 25, attributes := #[] }])
  fields := #[{ name := "U", type := (.object "jdk/internal/misc/Unsafe"), accessFlags := 24, slot := 0, constantValue := 0 }, { name := "BIG_ENDIAN", type := .boolean, accessFlags := 26, slot := 1, constantValue := 0 }, { name := "LOG2_ARRAY_BOOLEAN_INDEX_SCALE", type := .int, accessFlags := 25, slot := 2, constantValue := 0 }, { name := "LOG2_ARRAY_BYTE_INDEX_SCALE", type := .int, accessFlags := 25, slot := 3, constantValue := 0 }, { name := "LOG2_ARRAY_CHAR_INDEX_SCALE", type := .int, accessFlags := 25, slot := 4, constantValue := 0 }, { name := "LOG2_ARRAY_SHORT_INDEX_SCALE", type := .int, accessFlags := 25, slot := 5, constantValue := 0 }, { name := "LOG2_ARRAY_INT_INDEX_SCALE", type := .int, accessFlags := 25, slot := 6, constantValue := 0 }, { name := "LOG2_ARRAY_LONG_INDEX_SCALE", type := .int, accessFlags := 25, slot := 7, constantValue := 0 }, { name := "LOG2_ARRAY_FLOAT_INDEX_SCALE", type := .int, accessFlags := 25, slot := 8, constantValue := 0 }, { name := "LOG2_ARRAY_DOUBLE_INDEX_SCALE", type := .int, accessFlags := 25, slot := 9, constantValue := 0 }, { name := "LOG2_BYTE_BIT_SIZE", type := .int, accessFlags := 26, slot := 10, constantValue := 0 }, { name := "T_BOOLEAN", type := .int, accessFlags := 25, slot := 11, constantValue := 0 }, { name := "T_CHAR", type := .int, accessFlags := 25, slot := 12, constantValue := 0 }, { name := "T_FLOAT", type := .int, accessFlags := 25, slot := 13, constantValue := 0 }, { name := "T_DOUBLE", type := .int, accessFlags := 25, slot := 14, constantValue := 0 }, { name := "T_BYTE", type := .int, accessFlags := 25, slot := 15, constantValue := 0 }, { name := "T_SHORT", type := .int, accessFlags := 25, slot := 16, constantValue := 0 }, { name := "T_INT", type := .int, accessFlags := 25, slot := 17, constantValue := 0 }, { name := "T_LONG", type := .int, accessFlags := 25, slot := 18, constantValue := 0 }, { name := "JLA", type := (.object "jdk/internal/access/JavaLangAccess"), accessFlags := 26, slot := 19, constantValue := 0 }, { name := "SOFT_MAX_ARRAY_LENGTH", type := .int, accessFlags := 25, slot := 20, constantValue := 0 }]
  methods := #[k12m0]
  instanceTypes := #[]
  staticTypes := #[(.object "jdk/internal/misc/Unsafe"), .boolean, .int, .int, .int, .int, .int, .int, .int, .int, .int, .int, .int, .int, .int, .int, .int, .int, .int, (.object "jdk/internal/access/JavaLangAccess"), .int]
  resolved := Array.replicate 378 none
  statics := none }

def pool13 : Array CpInfo := pool [(1, u "java/lang/Cloneable"), (0, .class_ 1), (0, u "java/lang/Object"), (0, .class_ 3)] 3

/-- java/lang/Cloneable -/
def k13 : Class := { plain "java/lang/Cloneable" (some 0) with
  accessFlags := 1537
  interfaces := #[]
  cf := some (fileOf pool13 2 #[] #[] 1537 4 #[] #[])
  fields := #[]
  methods := #[]
  instanceTypes := #[]
  staticTypes := #[]
  resolved := Array.replicate 8 none
  statics := none }

/-- the primitive byte -/
def k14 : Class := { plain "byte" none with kind := .primitive 'B', accessFlags := 0x411 }
/-- [B -/
def k15 : Class := { plain "[B" (some 0) with kind := .array 14 .byte, interfaces := #[13, 2], accessFlags := 1041 }

/-- the primitive char -/
def k16 : Class := { plain "char" none with kind := .primitive 'C', accessFlags := 0x411 }
/-- [C -/
def k17 : Class := { plain "[C" (some 0) with kind := .array 16 .char, interfaces := #[13, 2], accessFlags := 1041 }

/-- the primitive int -/
def k18 : Class := { plain "int" none with kind := .primitive 'I', accessFlags := 0x411 }
/-- [I -/
def k19 : Class := { plain "[I" (some 0) with kind := .array 18 .int, interfaces := #[13, 2], accessFlags := 1041 }

def heap : Heap := #[{ cls := 7, slots := #[.long 0, .int 1, .null, .int 0, .null, .int 0, .int 0], vm := .statics 7 },
  { cls := 10, slots := #[.null, .null, .null], vm := .statics 10 }]
def classes : Array Class := #[k0, k1, k2, k3, k4, k5, k6, k7, k8, k9, k10, k11, k12, k13, k14, k15, k16, k17, k18, k19]
def interned : List (Array UInt16 × Addr) := []
def slotsUsed : Nat := 10
def theMethod : MethodId := ⟨1, 1⟩
def args0 : Array Value := #[.int 5, .long 5, .int 5]
def aboutOver (below : List Frame) : State where
  vm := { classes := classes, interned := interned.toArray }
  heap := heap
  slotsUsed := slotsUsed
  threads := #[{ frames := .invoking theMethod args0 :: below }]
def below0 : List Frame := [.native { method := ⟨0, 0⟩, args := #[] }]
def about1 : State := aboutOver below0
def p0 : Program := .bare "" "" ""
def e0 : Env := launch0.env 0 0 0
theorem w_frames : about1.frames = Frame.invoking theMethod args0 :: below0 := rfl
set_option maxRecDepth 65536 in
theorem w_args : argsFit about1.vm theMethod args0 = true := by decide +kernel
set_option maxRecDepth 65536 in
theorem w_heap : heapFits about1 = true := by decide +kernel
set_option maxRecDepth 65536 in
theorem w_runnable : about1.curStatus? = some .runnable := by decide +kernel
set_option maxRecDepth 65536 in
theorem w_alone : about1.alone = true := by decide +kernel
set_option maxRecDepth 65536 in
theorem w_named : about1.methodNamed? x = some theMethod := by decide +kernel
set_option maxRecDepth 65536 in
theorem w_hears : about1.hears theMethod below0 = true := by decide +kernel
set_option maxRecDepth 65536 in
theorem w_ripe : about1.ripe theMethod args0 below0 = true := by decide +kernel
theorem w_running : about1.status = .running := rfl
set_option maxRecDepth 65536 in
theorem w_room : about1.hasRoom e0.platform room_1 = true :=
  launch0.hasRoom_least _ room_1 (by decide +kernel) (by decide +kernel) (by decide +kernel) (by decide +kernel) (by decide +kernel) (by decide +kernel)
theorem allAtoms_all (ts : List Jvm.Cond) (a : Array Jvm.Value) (st : Jvm.State) : (allAtoms ts).before a st = ts.all (fun c => c.before a st) := by
  induction ts with
  | nil => rfl
  | cons c t ih =>
    show (Jvm.Cond.and c (allAtoms t)).before a st = _
    rw [Jvm.Cond.before_and, ih, List.all_cons]
def words1 : List Jvm.Cond := Jvm.Cond.code x code maxLocals ret :: tables_1
/-- a 'code' word, met by the world's own term for the bytes: nothing is compared byte by byte -/
theorem code_word {y : MethodName} {bytes : ByteArray} {mx : Nat} {rt : Option FieldType} {a : Array Value} {s : State} {m : MethodId} {meth : Method} {c : Code} (h1 : s.methodNamed? y = some m) (h2 : s.vm.method? m = some meth) (h3 : meth.code = some c) (h4 : c.code = bytes)
    (h5 : (c.maxLocals == mx && c.exceptionTable.isEmpty && decide (c.maxStack ≤ mostOperands) && decide (meth.sig.returnType = rt) && !meth.locks && decide (parseMethodDescriptor y.desc = some meth.sig)) = true) : (Jvm.Cond.code y bytes mx rt).before a s = true := by
  simp only [Bool.and_eq_true, beq_iff_eq, Bool.not_eq_true', decide_eq_true_eq] at h5
  obtain ⟨⟨⟨⟨⟨g1, g2⟩, g3⟩, g4⟩, g5⟩, g6⟩ := h5
  simp [Cond.before, Cond.holds, Cond.value, h1, h2, h3, h4, g1, g2, g3, g4, g5, g6]
def isCode : Jvm.Cond → Bool
  | .code _ _ _ _ => true
  | _ => false
theorem all_split {L : List Jvm.Cond} {P : Jvm.Cond → Bool} (h1 : L.all (fun c => isCode c || P c) = true) (h2 : ∀ c ∈ L.filter isCode, P c = true) : L.all P = true := by
  refine List.all_eq_true.mpr fun c hc => ?_
  have h := List.all_eq_true.mp h1 c hc
  rcases Bool.eq_false_or_eq_true (isCode c) with hi | hi
  · exact h2 c (List.mem_filter.mpr ⟨hc, hi⟩)
  · simpa [hi] using h
set_option maxRecDepth 65536 in
theorem w_c0 : (Jvm.Cond.code x code maxLocals ret).before args0 about1 = true := code_word (m := ⟨1, 1⟩) (meth := k1m1) (c := k1c1) (by decide +kernel) rfl rfl rfl (by decide +kernel)
set_option maxRecDepth 65536 in
theorem w_c1 : (Jvm.Cond.code ({ cls := "com/example/toekit/toekit/cli/ArgumentsIsHelpPinLaw", name := "pick", desc := "(JIIZ)C" } : Jvm.MethodName) method_3_code (5 : Nat) (Option.some Jvm.ClassFile.FieldType.char)).before args0 about1 = true := code_word (m := ⟨1, 2⟩) (meth := k1m2) (c := k1c2) (by decide +kernel) rfl rfl rfl (by decide +kernel)
set_option maxRecDepth 65536 in
theorem w_c2 : (Jvm.Cond.code ({ cls := "com/example/toekit/toekit/cli/ArgumentsIsHelpPinLaw", name := "make", desc := "(ICCCCCCC)Ljava/lang/String;" } : Jvm.MethodName) method_4_code (8 : Nat) (Option.some (Jvm.ClassFile.FieldType.object "java/lang/String"))).before args0 about1 = true := code_word (m := ⟨1, 3⟩) (meth := k1m3) (c := k1c3) (by decide +kernel) rfl rfl rfl (by decide +kernel)
set_option maxRecDepth 65536 in
theorem w_c3 : (Jvm.Cond.code ({ cls := "java/lang/String", name := "<init>", desc := "([C)V" } : Jvm.MethodName) jdk_42_method_3_code (2 : Nat) (Option.none : Option Jvm.ClassFile.FieldType)).before args0 about1 = true := code_word (m := ⟨7, 1⟩) (meth := k7m1) (c := k7c1) (by decide +kernel) rfl rfl rfl (by decide +kernel)
set_option maxRecDepth 65536 in
theorem w_c4 : (Jvm.Cond.code ({ cls := "java/lang/String", name := "<init>", desc := "([CIILjava/lang/Void;)V" } : Jvm.MethodName) jdk_42_method_149_code (6 : Nat) (Option.none : Option Jvm.ClassFile.FieldType)).before args0 about1 = true := code_word (m := ⟨7, 4⟩) (meth := k7m4) (c := k7c4) (by decide +kernel) rfl rfl rfl (by decide +kernel)
set_option maxRecDepth 65536 in
theorem w_c5 : (Jvm.Cond.code ({ cls := "java/lang/Object", name := "<init>", desc := "()V" } : Jvm.MethodName) object_method_1_code (1 : Nat) (Option.none : Option Jvm.ClassFile.FieldType)).before args0 about1 = true := code_word (m := ⟨0, 0⟩) (meth := k0m0) (c := k0c0) (by decide +kernel) rfl rfl rfl (by decide +kernel)
set_option maxRecDepth 65536 in
theorem w_c6 : (Jvm.Cond.code ({ cls := "com/example/toekit/toekit/cli/Arguments", name := "isHelp", desc := "(Ljava/lang/String;)Z" } : Jvm.MethodName) prog_21_method_11_code (1 : Nat) (Option.some Jvm.ClassFile.FieldType.boolean)).before args0 about1 = true := code_word (m := ⟨8, 0⟩) (meth := k8m0) (c := k8c0) (by decide +kernel) rfl rfl rfl (by decide +kernel)
set_option maxRecDepth 65536 in
theorem w_c7 : (Jvm.Cond.code ({ cls := "java/lang/String", name := "equals", desc := "(Ljava/lang/Object;)Z" } : Jvm.MethodName) jdk_42_method_66_code (3 : Nat) (Option.some Jvm.ClassFile.FieldType.boolean)).before args0 about1 = true := code_word (m := ⟨7, 3⟩) (meth := k7m3) (c := k7c3) (by decide +kernel) rfl rfl rfl (by decide +kernel)
set_option maxRecDepth 65536 in
theorem w_c8 : (Jvm.Cond.code ({ cls := "java/lang/StringLatin1", name := "equals", desc := "([B[B)Z" } : Jvm.MethodName) jdk_43_method_13_code (3 : Nat) (Option.some Jvm.ClassFile.FieldType.boolean)).before args0 about1 = true := code_word (m := ⟨9, 2⟩) (meth := k9m2) (c := k9c2) (by decide +kernel) rfl rfl rfl (by decide +kernel)
set_option maxRecDepth 65536 in
theorem w_c9 : (Jvm.Cond.code ({ cls := "java/lang/String", name := "charAt", desc := "(I)C" } : Jvm.MethodName) jdk_42_method_56_code (2 : Nat) (Option.some Jvm.ClassFile.FieldType.char)).before args0 about1 = true := code_word (m := ⟨7, 2⟩) (meth := k7m2) (c := k7c2) (by decide +kernel) rfl rfl rfl (by decide +kernel)
set_option maxRecDepth 65536 in
theorem w_c10 : (Jvm.Cond.code ({ cls := "java/lang/String", name := "isLatin1", desc := "()Z" } : Jvm.MethodName) jdk_42_method_154_code (1 : Nat) (Option.some Jvm.ClassFile.FieldType.boolean)).before args0 about1 = true := code_word (m := ⟨7, 5⟩) (meth := k7m5) (c := k7c5) (by decide +kernel) rfl rfl rfl (by decide +kernel)
set_option maxRecDepth 65536 in
theorem w_c11 : (Jvm.Cond.code ({ cls := "java/lang/StringLatin1", name := "charAt", desc := "([BI)C" } : Jvm.MethodName) jdk_43_method_2_code (2 : Nat) (Option.some Jvm.ClassFile.FieldType.char)).before args0 about1 = true := code_word (m := ⟨9, 1⟩) (meth := k9m1) (c := k9c1) (by decide +kernel) rfl rfl rfl (by decide +kernel)
set_option maxRecDepth 65536 in
theorem w_c12 : (Jvm.Cond.code ({ cls := "java/lang/String", name := "checkIndex", desc := "(II)V" } : Jvm.MethodName) jdk_42_method_155_code (2 : Nat) (Option.none : Option Jvm.ClassFile.FieldType)).before args0 about1 = true := code_word (m := ⟨7, 6⟩) (meth := k7m6) (c := k7c6) (by decide +kernel) rfl rfl rfl (by decide +kernel)
set_option maxRecDepth 65536 in
theorem w_c13 : (Jvm.Cond.code ({ cls := "jdk/internal/util/Preconditions", name := "checkIndex", desc := "(IILjava/util/function/BiFunction;)I" } : Jvm.MethodName) jdk_41_method_11_code (3 : Nat) (Option.some Jvm.ClassFile.FieldType.int)).before args0 about1 = true := code_word (m := ⟨10, 1⟩) (meth := k10m1) (c := k10c1) (by decide +kernel) rfl rfl rfl (by decide +kernel)
set_option maxRecDepth 65536 in
theorem w_c14 : (Jvm.Cond.code ({ cls := "java/lang/StringUTF16", name := "compress", desc := "([CII)[B" } : Jvm.MethodName) jdk_52_method_16_code (6 : Nat) (Option.some (Jvm.ClassFile.FieldType.array Jvm.ClassFile.FieldType.byte))).before args0 about1 = true := code_word (m := ⟨11, 2⟩) (meth := k11m2) (c := k11c2) (by decide +kernel) rfl rfl rfl (by decide +kernel)
set_option maxRecDepth 65536 in
theorem w_c15 : (Jvm.Cond.code ({ cls := "java/lang/StringUTF16", name := "compress", desc := "([CI[BII)I" } : Jvm.MethodName) jdk_52_method_21_code (7 : Nat) (Option.some Jvm.ClassFile.FieldType.int)).before args0 about1 = true := code_word (m := ⟨11, 3⟩) (meth := k11m3) (c := k11c3) (by decide +kernel) rfl rfl rfl (by decide +kernel)
set_option maxRecDepth 65536 in
theorem w_c16 : (Jvm.Cond.code ({ cls := "java/lang/StringUTF16", name := "coderFromArrayLen", desc := "([BI)B" } : Jvm.MethodName) jdk_52_method_15_code (2 : Nat) (Option.some Jvm.ClassFile.FieldType.byte)).before args0 about1 = true := code_word (m := ⟨11, 1⟩) (meth := k11m1) (c := k11c1) (by decide +kernel) rfl rfl rfl (by decide +kernel)
def codes1 : List Jvm.Cond := [Jvm.Cond.code x code maxLocals ret, Jvm.Cond.code ({ cls := "com/example/toekit/toekit/cli/ArgumentsIsHelpPinLaw", name := "pick", desc := "(JIIZ)C" } : Jvm.MethodName) method_3_code (5 : Nat) (Option.some Jvm.ClassFile.FieldType.char), Jvm.Cond.code ({ cls := "com/example/toekit/toekit/cli/ArgumentsIsHelpPinLaw", name := "make", desc := "(ICCCCCCC)Ljava/lang/String;" } : Jvm.MethodName) method_4_code (8 : Nat) (Option.some (Jvm.ClassFile.FieldType.object "java/lang/String")), Jvm.Cond.code ({ cls := "java/lang/String", name := "<init>", desc := "([C)V" } : Jvm.MethodName) jdk_42_method_3_code (2 : Nat) (Option.none : Option Jvm.ClassFile.FieldType), Jvm.Cond.code ({ cls := "java/lang/String", name := "<init>", desc := "([CIILjava/lang/Void;)V" } : Jvm.MethodName) jdk_42_method_149_code (6 : Nat) (Option.none : Option Jvm.ClassFile.FieldType), Jvm.Cond.code ({ cls := "java/lang/Object", name := "<init>", desc := "()V" } : Jvm.MethodName) object_method_1_code (1 : Nat) (Option.none : Option Jvm.ClassFile.FieldType), Jvm.Cond.code ({ cls := "com/example/toekit/toekit/cli/Arguments", name := "isHelp", desc := "(Ljava/lang/String;)Z" } : Jvm.MethodName) prog_21_method_11_code (1 : Nat) (Option.some Jvm.ClassFile.FieldType.boolean), Jvm.Cond.code ({ cls := "java/lang/String", name := "equals", desc := "(Ljava/lang/Object;)Z" } : Jvm.MethodName) jdk_42_method_66_code (3 : Nat) (Option.some Jvm.ClassFile.FieldType.boolean), Jvm.Cond.code ({ cls := "java/lang/StringLatin1", name := "equals", desc := "([B[B)Z" } : Jvm.MethodName) jdk_43_method_13_code (3 : Nat) (Option.some Jvm.ClassFile.FieldType.boolean), Jvm.Cond.code ({ cls := "java/lang/String", name := "charAt", desc := "(I)C" } : Jvm.MethodName) jdk_42_method_56_code (2 : Nat) (Option.some Jvm.ClassFile.FieldType.char), Jvm.Cond.code ({ cls := "java/lang/String", name := "isLatin1", desc := "()Z" } : Jvm.MethodName) jdk_42_method_154_code (1 : Nat) (Option.some Jvm.ClassFile.FieldType.boolean), Jvm.Cond.code ({ cls := "java/lang/StringLatin1", name := "charAt", desc := "([BI)C" } : Jvm.MethodName) jdk_43_method_2_code (2 : Nat) (Option.some Jvm.ClassFile.FieldType.char), Jvm.Cond.code ({ cls := "java/lang/String", name := "checkIndex", desc := "(II)V" } : Jvm.MethodName) jdk_42_method_155_code (2 : Nat) (Option.none : Option Jvm.ClassFile.FieldType), Jvm.Cond.code ({ cls := "jdk/internal/util/Preconditions", name := "checkIndex", desc := "(IILjava/util/function/BiFunction;)I" } : Jvm.MethodName) jdk_41_method_11_code (3 : Nat) (Option.some Jvm.ClassFile.FieldType.int), Jvm.Cond.code ({ cls := "java/lang/StringUTF16", name := "compress", desc := "([CII)[B" } : Jvm.MethodName) jdk_52_method_16_code (6 : Nat) (Option.some (Jvm.ClassFile.FieldType.array Jvm.ClassFile.FieldType.byte)), Jvm.Cond.code ({ cls := "java/lang/StringUTF16", name := "compress", desc := "([CI[BII)I" } : Jvm.MethodName) jdk_52_method_21_code (7 : Nat) (Option.some Jvm.ClassFile.FieldType.int), Jvm.Cond.code ({ cls := "java/lang/StringUTF16", name := "coderFromArrayLen", desc := "([BI)B" } : Jvm.MethodName) jdk_52_method_15_code (2 : Nat) (Option.some Jvm.ClassFile.FieldType.byte)]
set_option maxRecDepth 65536 in
theorem codes_eq : words1.filter isCode = codes1 := rfl
theorem w_codes : ∀ c ∈ words1.filter isCode, c.before args0 about1 = true := by
  rw [codes_eq]
  intro c hc
  simp only [codes1, List.mem_cons, List.not_mem_nil, or_false] at hc
  rcases hc with rfl | rfl | rfl | rfl | rfl | rfl | rfl | rfl | rfl | rfl | rfl | rfl | rfl | rfl | rfl | rfl | rfl
  · exact w_c0
  · exact w_c1
  · exact w_c2
  · exact w_c3
  · exact w_c4
  · exact w_c5
  · exact w_c6
  · exact w_c7
  · exact w_c8
  · exact w_c9
  · exact w_c10
  · exact w_c11
  · exact w_c12
  · exact w_c13
  · exact w_c14
  · exact w_c15
  · exact w_c16
set_option maxRecDepth 65536 in
theorem w_t1 : (words1.take 24).all (fun c => isCode c || c.before args0 about1) = true := by decide +kernel
set_option maxRecDepth 65536 in
theorem w_t2 : ((words1.drop 24).take 24).all (fun c => isCode c || c.before args0 about1) = true := by decide +kernel
set_option maxRecDepth 65536 in
theorem w_t3 : (((words1.drop 24).drop 24).take 24).all (fun c => isCode c || c.before args0 about1) = true := by decide +kernel
set_option maxRecDepth 65536 in
theorem w_t4 : (((words1.drop 24).drop 24).drop 24).all (fun c => isCode c || c.before args0 about1) = true := by decide +kernel
theorem w_tables : (allAtoms (Jvm.Cond.code x code maxLocals ret :: tables_1)).before args0 about1 = true := by
  rw [allAtoms_all]
  show words1.all (fun c => c.before args0 about1) = true
  refine all_split ?_ w_codes
  rw [← List.take_append_drop 24 words1, List.all_append, w_t1, ← List.take_append_drop 24 (words1.drop 24), List.all_append, w_t2, ← List.take_append_drop 24 ((words1.drop 24).drop 24), List.all_append, w_t3, w_t4]
  rfl
set_option maxRecDepth 65536 in
theorem w_rest : rest_1_c.before args0 about1 = true := by decide +kernel
set_option maxRecDepth 65536 in
theorem w_case : (Jvm.Cond.and given_1 narrow_1).before args0 about1 = true := by decide +kernel
set_option maxRecDepth 65536 in
theorem w_consts : constsHeld consts_1 about1 := Jvm.Lit.constsHeldB_iff.mp (by decide +kernel)
theorem w_applies : (headSpec (Jvm.Cond.code x code maxLocals ret :: tables_1) room_1).applies x e0.platform about1 = true :=
  (Spec.applies_iff w_frames).mpr ⟨w_running, w_runnable, w_alone, w_named, w_hears, w_ripe, w_room, w_tables⟩
theorem atStart : AtStart classFile x code maxLocals ret World_1 tables_1 room_1 Calls_1 rest_1 Pre_1 launch0 p0 e0 about1 theMethod args0 below0 :=
  ⟨lists_1, trivial, launch0.admits_env _ _ _, launch0.least_env, fairChoices_fair.cas, fairChoices_fair.clock, w_frames, w_args, w_heap, w_applies, ⟨w_consts, trivial⟩, w_rest, w_case⟩
end start1
theorem witness_1 : WitnessClaimed_1 := ⟨start1.p0, start1.e0, start1.about1, start1.theMethod, start1.args0, start1.below0, start1.atStart⟩
end Jvm.Pilot.@@N@@
