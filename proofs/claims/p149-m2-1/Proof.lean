import JvmDerived
import JvmDerived.Pilot.@@N@@Statement
import JvmDerived.Pilot.@@N@@Code
set_option linter.unusedVariables false
set_option linter.unusedSimpArgs false
/- laws to paste: Road.backV (cut by pick.py; bodies as the Statement names them) -/
namespace Jvm.Pilot.@@N@@
namespace StrChars
open Jvm Sem ClassFile Op Lib Jvm.Stand Jvm.Free.XT Jvm.Free.ALB Jvm.Free.JM Jvm.Free
open Jvm.Lib.Cold (StaticIs)
/-- a char array whose places are chars -/
def Ch (a : Addr) (A : Cell) (U : State) : Prop := Arr .char a A U ∧ Typed .char A
theorem Ch.mv {a : Addr} {A : Cell} {U U' : State} (h : Ch a A U) (hal : U.vm.Alike U'.vm) (hh : U'.heap = U.heap) : Ch a A U' := ⟨h.1.mv hal hh, h.2⟩
theorem Ch.keep {a : Addr} {A : Cell} {U U' : State} (h : Ch a A U) (hal : U.vm.Alike U'.vm) (hk : U'.heap[a]? = some A) : Ch a A U' := ⟨h.1.keep hal hk, h.2⟩
/-- what place i of a char[]'s cell holds -/
def cv (A : Cell) (i : Nat) : Int32 := match A.slots[i]? with | some (.int x) => x | _ => 0
theorem Ch.get {a : Addr} {A : Cell} {U : State} (h : Ch a A U) {i : Nat} (hi : i < A.slots.size) : A.slots[i]? = some (.int (cv A i)) := by
  have e := Array.getElem?_eq_getElem hi
  have f := h.2 i _ e
  unfold cv; rw [e]
  generalize A.slots[i] = v at f
  cases v <;> simp [fits] at f ⊢
/-- the byte that i2b leaves of a char -/
def lo8 (x : Int32) : Int32 := x.toInt8.toInt32
theorem fits_lo8 (y : Int32) : fits .byte (.int (lo8 y)) = true := by
  have h1 := y.toInt8.le_toInt
  have h2 := y.toInt8.toInt_lt
  simp only [lo8, fits, Bool.and_eq_true, decide_eq_true_eq, Int32.le_iff_toInt_le, Int8.toInt_toInt32, show (-128 : Int32).toInt = -128 from by decide, show (127 : Int32).toInt = 127 from by decide]
  omega
/-- A' is A but that each place j of lo .. hi - 1 holds f j -/
def Laid (A A' : Cell) (lo hi : Nat) (f : Nat → Value) : Prop := A'.cls = A.cls ∧ A'.vm = A.vm ∧ A'.slots.size = A.slots.size ∧ ∀ i, A'.slots[i]? = if lo ≤ i ∧ i < hi then some (f i) else A.slots[i]?
theorem Laid.zero (A : Cell) (lo : Nat) (f : Nat → Value) : Laid A A lo (lo + 0) f := ⟨rfl, rfl, rfl, fun i => by rw [if_neg (by omega)]⟩
theorem Laid.step {A Ak : Cell} {lo k : Nat} {f : Nat → Value} {v : Value} (h : Laid A Ak lo k f) (hlo : lo ≤ k) (hk : k < Ak.slots.size) (hv : v = f k) : Laid A (Ak.setSlot k v) lo (k + 1) f := by
  refine ⟨h.1, h.2.1, by simpa [Cell.setSlot] using h.2.2.1, fun i => ?_⟩
  by_cases e : k = i
  · subst e; rw [Cell.slots_setSlot_self v hk, if_pos (by omega), hv]
  · rw [Cell.slots_setSlot_ne v e, h.2.2.2 i]
    by_cases q : lo ≤ i ∧ i < k
    · rw [if_pos q, if_pos (by omega)]
    · rw [if_neg q, if_neg (by omega)]
def U16 : String := "java/lang/StringUTF16"
namespace Cmp5
def yN : MethodName := ⟨"java/lang/StringUTF16", "compress", "([CI[BII)I"⟩
abbrev yB : ByteArray := jdk_52_method_21_code
theorem d0 : decode yB 0 = .ok (.iconst 0, 1) := by decide +kernel
theorem d1 : decode yB 1 = .ok (.istore 5, 2) := by decide +kernel
theorem d3 : decode yB 3 = .ok (.iload 5, 2) := by decide +kernel
theorem d5 : decode yB 5 = .ok (.iload 4, 2) := by decide +kernel
theorem d7 : decode yB 7 = .ok (.if_icmp (.ge) 37, 3) := by decide +kernel
theorem d10 : decode yB 10 = .ok (.aload_n 0, 1) := by decide +kernel
theorem d11 : decode yB 11 = .ok (.iload_n 1, 1) := by decide +kernel
theorem d12 : decode yB 12 = .ok (.caload, 1) := by decide +kernel
theorem d13 : decode yB 13 = .ok (.istore 6, 2) := by decide +kernel
theorem d15 : decode yB 15 = .ok (.iload 6, 2) := by decide +kernel
theorem d17 : decode yB 17 = .ok (.sipush 255, 3) := by decide +kernel
theorem d20 : decode yB 20 = .ok (.if_icmp (.le) 6, 3) := by decide +kernel
theorem d26 : decode yB 26 = .ok (.aload_n 2, 1) := by decide +kernel
theorem d27 : decode yB 27 = .ok (.iload_n 3, 1) := by decide +kernel
theorem d28 : decode yB 28 = .ok (.iload 6, 2) := by decide +kernel
theorem d30 : decode yB 30 = .ok (.i2b, 1) := by decide +kernel
theorem d31 : decode yB 31 = .ok (.bastore, 1) := by decide +kernel
theorem d32 : decode yB 32 = .ok (.iinc 1 1, 3) := by decide +kernel
theorem d35 : decode yB 35 = .ok (.iinc 3 1, 3) := by decide +kernel
theorem d38 : decode yB 38 = .ok (.iinc 5 1, 3) := by decide +kernel
theorem d41 : decode yB 41 = .ok (.goto (-38), 3) := by decide +kernel
theorem d44 : decode yB 44 = .ok (.iload 4, 2) := by decide +kernel
theorem d46 : decode yB 46 = .ok (.ireturn, 1) := by decide +kernel
def site : List Cond := []
def tab : Cond := tabOf yN yB 7 (some .int) site
def P (b : Addr) (A : Cell) (d : Addr) (B : Cell) (o q len : Nat) (args : Array Value) (s : State) : Prop := args = #[.ref b, .int (Int32.ofNat o), .ref d, .int (Int32.ofNat q), .int (Int32.ofNat len)] ∧ Ch b A s ∧ Arr .byte d B s ∧ b ≠ d ∧ o + len ≤ A.slots.size ∧ q + len ≤ B.slots.size ∧ ∀ i, i < len → ¬ 255 < cv A (o + i)
def E (b : Addr) (A : Cell) (d : Addr) (B : Cell) (o q len : Nat) (r : Option Value) (s u : State) : Prop := r = some (.int (Int32.ofNat len)) ∧ ∃ B', Put d B' s u ∧ Laid B B' q (q + len) (fun j => Value.int (lo8 (cv A (o + (j - q)))))
/-- no char of the range above 255: len; the places written hold each char's low byte -/
theorem law (l : Launch) (b : Addr) (A : Cell) (d : Addr) (B : Cell) (o q len : Nat) : Law l yN 5 5 0 0 yB 7 (some .int) site (P b A d B o q len) (E b A d B o q len) (copyLocs d q len) 0 0 := by
  refine Law.of_walk (plainFor_of_name (by decide +kernel)) (by decide +kernel) (by decide +kernel) (by decide) (fun _ _ h => by rw [h.1]; rfl) (fun _ U U' hal hh h => ⟨h.1, h.2.1.mv hal hh, h.2.2.1.mv hal hh, h.2.2.2⟩) (fun r U U' V V' h1 hal h2 h => ⟨h.1, h.2.elim fun B' q => ⟨B', q.1.mv h1 h2, q.2⟩⟩) ?_
  intro p e s m args below meth c s₁ X0 hexec hbytes hml hret hlk hnm hown hh0 W hP
  obtain ⟨rfl, hA, hB, hne, l1, l2, hp⟩ := hP
  have c1 : Steps p.tables e below (s₁.setTop (entryFrame m #[.ref b, .int (Int32.ofNat o), .ref d, .int (Int32.ofNat q), .int (Int32.ofNat len)] 7)) (s₁.setTop (mkF m 0 #[.val (.ref b), .val (.int (Int32.ofNat o)), .val (.ref d), .val (.int (Int32.ofNat q)), .val (.int (Int32.ofNat len)), .unset, .unset] [])) := entry rfl
  have hA0 := hA.1.mv X0.warmed.alike hh0
  have hB0 := hB.mv X0.warmed.alike hh0
  have a31 := hA.1.2.2.2
  have c2 : Steps p.tables e below (s₁.setTop (entryFrame m #[.ref b, .int (Int32.ofNat o), .ref d, .int (Int32.ofNat q), .int (Int32.ofNat len)] 7)) (s₁.setTop (mkF m 3 #[.val (.ref b), .val (.int (Int32.ofNat o)), .val (.ref d), .val (.int (Int32.ofNat q)), .val (.int (Int32.ofNat len)), .val (.int 0), .unset] [])) := c1.trans (by
    refine iconstV X0.here hexec rfl 0 (hb hbytes d0) (by decide) ?_
    refine XS.istore X0.here hexec rfl (hb hbytes d1) rfl rfl ?_
    exact Steps.refl _)
  have loop : ∀ (r i : Nat), i + r = len → ∀ (z : Slot), (z = .unset ∨ ∃ w, z = .val w ∧ w.category = 1) → ∀ (Tl : State) (Bk : Cell), Stand p l e { frames := 0, locals := 0, cells := 0, slots := 0 } s m #[.ref b, .int (Int32.ofNat o), .ref d, .int (Int32.ofNat q), .int (Int32.ofNat len)] below meth c Tl ([] ++ copyLocs d q i) 0 0 → Put d Bk s₁ Tl → Laid B Bk q (q + i) (fun j => Value.int (lo8 (cv A (o + (j - q))))) →
      Steps p.tables e below (s₁.setTop (entryFrame m #[.ref b, .int (Int32.ofNat o), .ref d, .int (Int32.ofNat q), .int (Int32.ofNat len)] 7)) (Tl.setTop (mkF m 3 #[.val (.ref b), .val (.int (Int32.ofNat (o + i))), .val (.ref d), .val (.int (Int32.ofNat (q + i))), .val (.int (Int32.ofNat len)), .val (.int (Int32.ofNat i)), z] [])) → ∃ (T' : State) (B' : Cell) (z' : Slot), Stand p l e { frames := 0, locals := 0, cells := 0, slots := 0 } s m #[.ref b, .int (Int32.ofNat o), .ref d, .int (Int32.ofNat q), .int (Int32.ofNat len)] below meth c T' ([] ++ copyLocs d q len) 0 0 ∧ Put d B' s₁ T' ∧ Laid B B' q (q + len) (fun j => Value.int (lo8 (cv A (o + (j - q))))) ∧
      Steps p.tables e below (s₁.setTop (entryFrame m #[.ref b, .int (Int32.ofNat o), .ref d, .int (Int32.ofNat q), .int (Int32.ofNat len)] 7)) (T'.setTop (mkF m 3 #[.val (.ref b), .val (.int (Int32.ofNat (o + len))), .val (.ref d), .val (.int (Int32.ofNat (q + len))), .val (.int (Int32.ofNat len)), .val (.int (Int32.ofNat len)), z'] [])) := by
    intro r
    induction r with
    | zero =>
      intro i hi z hz Tl Bk Xl pl fl cl
      have hil : i = len := by omega
      rw [hil] at Xl fl cl
      exact ⟨Tl, Bk, z, Xl, pl, fl, cl⟩
    | succ r ih =>
      intro i hi z hz Tl Bk Xl pl fl cl
      have all := X0.warmed.alike.symm.trans Xl.warmed.alike
      have hAl := hA0.keep all (pl.other hne hA0.1)
      have hBk := hB0.like all pl.1 fl.1 fl.2.1 fl.2.2.1
      have hlt : q + i < Bk.slots.size := by rw [fl.2.2.1]; omega
      have c3 : Steps p.tables e below (s₁.setTop (entryFrame m #[.ref b, .int (Int32.ofNat o), .ref d, .int (Int32.ofNat q), .int (Int32.ofNat len)] 7)) (Tl.setTop (mkF m 12 #[.val (.ref b), .val (.int (Int32.ofNat (o + i))), .val (.ref d), .val (.int (Int32.ofNat (q + i))), .val (.int (Int32.ofNat len)), .val (.int (Int32.ofNat i)), z] [.int (Int32.ofNat (o + i)), .ref b])) := cl.trans (by
        refine XS.iload Xl.here hexec rfl (hb hbytes d3) rfl ?_
        refine XS.iload Xl.here hexec rfl (hb hbytes d5) rfl ?_
        refine XS.icmpNo Xl.here hexec rfl (hb hbytes d7) rfl (ii_ge_f (lt32 (by omega) (by omega))) ?_
        refine XS.aloadN Xl.here hexec rfl (hb hbytes d10) rfl rfl ?_
        refine XS.iloadN Xl.here hexec rfl (hb hbytes d11) rfl ?_
        exact Steps.refl _)
      have c4 : Steps p.tables e below (s₁.setTop (entryFrame m #[.ref b, .int (Int32.ofNat o), .ref d, .int (Int32.ofNat q), .int (Int32.ofNat len)] 7)) (Tl.setTop (mkF m 13 #[.val (.ref b), .val (.int (Int32.ofNat (o + i))), .val (.ref d), .val (.int (Int32.ofNat (q + i))), .val (.int (Int32.ofNat len)), .val (.int (Int32.ofNat i)), z] [.int (cv A (o + i))])) := c3.trans (by
        refine Xl.aget hexec hAl rfl (hA.get (i := o + i) (by omega)) rfl rfl (hb hbytes d12) ?_
        exact Steps.refl _)
      have c5 : Steps p.tables e below (s₁.setTop (entryFrame m #[.ref b, .int (Int32.ofNat o), .ref d, .int (Int32.ofNat q), .int (Int32.ofNat len)] 7)) (Tl.setTop (mkF m 15 #[.val (.ref b), .val (.int (Int32.ofNat (o + i))), .val (.ref d), .val (.int (Int32.ofNat (q + i))), .val (.int (Int32.ofNat len)), .val (.int (Int32.ofNat i)), .val (.int (cv A (o + i)))] [])) := c4.trans (by
        refine XS.istoreS Xl.here hexec rfl (hb hbytes d13) rfl rfl hz ?_
        exact Steps.refl _)
      have c6 : Steps p.tables e below (s₁.setTop (entryFrame m #[.ref b, .int (Int32.ofNat o), .ref d, .int (Int32.ofNat q), .int (Int32.ofNat len)] 7)) (Tl.setTop (mkF m 31 #[.val (.ref b), .val (.int (Int32.ofNat (o + i))), .val (.ref d), .val (.int (Int32.ofNat (q + i))), .val (.int (Int32.ofNat len)), .val (.int (Int32.ofNat i)), .val (.int (cv A (o + i)))] [.int (lo8 (cv A (o + i))), .int (Int32.ofNat (q + i)), .ref d])) := c5.trans (by
        refine XS.iload Xl.here hexec rfl (hb hbytes d15) rfl ?_
        refine sipushV Xl.here hexec rfl 255 (hb hbytes d17) (by decide) ?_
        refine XS.icmpYes Xl.here hexec rfl (pc0 := 20) rfl (hb hbytes d20) rfl (ii_le_t (hp i (by omega))) (by decide) rfl ?_
        refine XS.aloadN Xl.here hexec rfl (hb hbytes d26) rfl rfl ?_
        refine XS.iloadN Xl.here hexec rfl (hb hbytes d27) rfl ?_
        refine XS.iload Xl.here hexec rfl (hb hbytes d28) rfl ?_
        refine i2b Xl.here hexec rfl (hb hbytes d30) rfl ?_
        exact Steps.refl _)
      obtain ⟨T7, X7, p7, st7⟩ := Xl.aput hexec hBk rfl hlt rfl (fits_lo8 (cv A (o + i))) (g := (mkF m 31 #[.val (.ref b), .val (.int (Int32.ofNat (o + i))), .val (.ref d), .val (.int (Int32.ofNat (q + i))), .val (.int (Int32.ofNat len)), .val (.int (Int32.ofNat i)), .val (.int (cv A (o + i)))] [.int (lo8 (cv A (o + i))), .int (Int32.ofNat (q + i)), .ref d])) rfl (rest := []) rfl (hb hbytes d31)
      have c8 : Steps p.tables e below (s₁.setTop (entryFrame m #[.ref b, .int (Int32.ofNat o), .ref d, .int (Int32.ofNat q), .int (Int32.ofNat len)] 7)) (T7.setTop (mkF m 32 #[.val (.ref b), .val (.int (Int32.ofNat (o + i))), .val (.ref d), .val (.int (Int32.ofNat (q + i))), .val (.int (Int32.ofNat len)), .val (.int (Int32.ofNat i)), .val (.int (cv A (o + i)))] [])) := c6.trans (st7 _ (Steps.refl _))
      have c9 : Steps p.tables e below (s₁.setTop (entryFrame m #[.ref b, .int (Int32.ofNat o), .ref d, .int (Int32.ofNat q), .int (Int32.ofNat len)] 7)) (T7.setTop (mkF m 3 #[.val (.ref b), .val (.int (Int32.ofNat (o + i) + 1)), .val (.ref d), .val (.int (Int32.ofNat (q + i) + 1)), .val (.int (Int32.ofNat len)), .val (.int (Int32.ofNat i + 1)), .val (.int (cv A (o + i)))] [])) := c8.trans (by
        refine iincV X7.here hexec rfl 1 (hb hbytes d32) (by decide) rfl rfl ?_
        refine iincV X7.here hexec rfl 1 (hb hbytes d35) (by decide) rfl rfl ?_
        refine iincV X7.here hexec rfl 1 (hb hbytes d38) (by decide) rfl rfl ?_
        refine XS.goto X7.here hexec rfl (pc0 := 41) rfl (hb hbytes d41) (by decide) rfl ?_
        exact Steps.refl _)
      have c10 : Steps p.tables e below (s₁.setTop (entryFrame m #[.ref b, .int (Int32.ofNat o), .ref d, .int (Int32.ofNat q), .int (Int32.ofNat len)] 7)) (T7.setTop (mkF m 3 #[.val (.ref b), .val (.int (Int32.ofNat (o + (i + 1)))), .val (.ref d), .val (.int (Int32.ofNat (q + (i + 1)))), .val (.int (Int32.ofNat len)), .val (.int (Int32.ofNat (i + 1))), .val (.int (cv A (o + i)))] [])) := by
        have := c9
        rw [succ32, succ32, succ32] at this
        exact this
      exact ih (i + 1) (by omega) _ (Or.inr ⟨_, rfl, rfl⟩) T7 _ (by rw [copyLocs_step, ← List.append_assoc]; exact X7) (pl.trans p7) (fl.step (by omega) hlt (by simp)) c10
  obtain ⟨T9, B9, z9, X9, p9, f9, g9⟩ := loop len 0 (by omega) .unset (Or.inl rfl) s₁ B (by simpa [copyLocs] using X0) ⟨hB0.1, fun _ _ => rfl, rfl⟩ (Laid.zero _ _ _) c2
  have c11 : Steps p.tables e below (s₁.setTop (entryFrame m #[.ref b, .int (Int32.ofNat o), .ref d, .int (Int32.ofNat q), .int (Int32.ofNat len)] 7)) (T9.setTop (mkF m 46 #[.val (.ref b), .val (.int (Int32.ofNat (o + len))), .val (.ref d), .val (.int (Int32.ofNat (q + len))), .val (.int (Int32.ofNat len)), .val (.int (Int32.ofNat len)), z9] [.int (Int32.ofNat len)])) := g9.trans (by
    refine XS.iload X9.here hexec rfl (hb hbytes d3) rfl ?_
    refine XS.iload X9.here hexec rfl (hb hbytes d5) rfl ?_
    refine XS.icmpYes X9.here hexec rfl (pc0 := 7) rfl (hb hbytes d7) rfl (ii_ge_t (nlt32 (by omega) (Nat.le_refl _))) (by decide) rfl ?_
    refine XS.iload X9.here hexec rfl (hb hbytes d44) rfl ?_
    exact Steps.refl _)
  exact ⟨T9, some (.int (Int32.ofNat len)), _, _, _, X9, by simp, rfl, rfl, (fun h => by cases h), ⟨rfl, B9, p9.from hh0, f9⟩, fun fs hl => c11.trans (X9.ireturnOut hexec hret rfl (Or.inl rfl) (hb hbytes d46) hl)⟩
end Cmp5
namespace Cmp3
def yN : MethodName := ⟨"java/lang/StringUTF16", "compress", "([CII)[B"⟩
abbrev yB : ByteArray := jdk_52_method_16_code
theorem d0 : decode yB 0 = .ok (.iload_n 2, 1) := by decide +kernel
theorem d1 : decode yB 1 = .ok (.newarray .byte, 2) := by decide +kernel
theorem d3 : decode yB 3 = .ok (.astore_n 3, 1) := by decide +kernel
theorem d4 : decode yB 4 = .ok (.aload_n 0, 1) := by decide +kernel
theorem d5 : decode yB 5 = .ok (.iload_n 1, 1) := by decide +kernel
theorem d6 : decode yB 6 = .ok (.aload_n 3, 1) := by decide +kernel
theorem d7 : decode yB 7 = .ok (.iconst 0, 1) := by decide +kernel
theorem d8 : decode yB 8 = .ok (.iload_n 2, 1) := by decide +kernel
theorem d9 : decode yB 9 = .ok (.invokestatic 115, 3) := by decide +kernel
theorem d12 : decode yB 12 = .ok (.istore 4, 2) := by decide +kernel
theorem d14 : decode yB 14 = .ok (.iload 4, 2) := by decide +kernel
theorem d16 : decode yB 16 = .ok (.iload_n 2, 1) := by decide +kernel
theorem d17 : decode yB 17 = .ok (.if_icmp (.eq) 40, 3) := by decide +kernel
theorem d57 : decode yB 57 = .ok (.aload_n 3, 1) := by decide +kernel
theorem d58 : decode yB 58 = .ok (.areturn, 1) := by decide +kernel
def site : List Cond := [.arrayClass .byte, Cmp5.tab] ++ staticW U16 115 Cmp5.yN
def tab : Cond := tabOf yN yB 6 (some (.array .byte)) site
def P (b : Addr) (A : Cell) (o len : Nat) (args : Array Value) (s : State) : Prop := args = #[.ref b, .int (Int32.ofNat o), .int (Int32.ofNat len)] ∧ Ch b A s ∧ o + len ≤ A.slots.size ∧ len ≤ 536870912 ∧ ∀ i, i < len → ¬ 255 < cv A (o + i)
def E (b : Addr) (A : Cell) (o len : Nat) (r : Option Value) (s u : State) : Prop := NewArr .byte "[B" len (fun j => .int (lo8 (cv A (o + j)))) r s u ∧ u.heap.size = s.heap.size + 1
/-- no char of the range above 255: a new byte[] of their low bytes -/
theorem law (l : Launch) (b : Addr) (A : Cell) (o len : Nat) : Law l yN 3 3 1 18 yB 6 (some (.array .byte)) site (P b A o len) (E b A o len) [] 1 len := by
  refine Law.of_walk (plainFor_of_name (by decide +kernel)) (by decide +kernel) (by decide +kernel) (by decide) (fun _ _ h => by rw [h.1]; rfl) (fun _ U U' hal hh h => ⟨h.1, h.2.1.mv hal hh, h.2.2⟩) (fun r U U' V V' h1 hal h2 h => ⟨NewArr.mv r U U' V V' h1 hal h2 h.1, by rw [h1, h2]; exact h.2⟩) ?_
  intro p e s m args below meth c s₁ X0 hexec hbytes hml hret hlk hnm hown hh0 W hP
  obtain ⟨rfl, hA, l1, l2, hp⟩ := hP
  have a31 := hA.1.2.2.2
  have c1 : Steps p.tables e below (s₁.setTop (entryFrame m #[.ref b, .int (Int32.ofNat o), .int (Int32.ofNat len)] 6)) (s₁.setTop (mkF m 0 #[.val (.ref b), .val (.int (Int32.ofNat o)), .val (.int (Int32.ofNat len)), .unset, .unset, .unset] [])) := entry rfl
  have c2 : Steps p.tables e below (s₁.setTop (entryFrame m #[.ref b, .int (Int32.ofNat o), .int (Int32.ofNat len)] 6)) (s₁.setTop (mkF m 1 #[.val (.ref b), .val (.int (Int32.ofNat o)), .val (.int (Int32.ofNat len)), .unset, .unset, .unset] [.int (Int32.ofNat len)])) := c1.trans (by
    refine XS.iloadN X0.here hexec rfl (hb hbytes d0) rfl ?_
    exact Steps.refl _)
  obtain ⟨T3, B3, X3, ba3, bs3, bv3, bh3, bf3, st3⟩ := X0.anew hexec (atype := .byte) (wk W (.arrayClass .byte)) rfl (by show len * 1 ≤ _; omega) (by omega) (g := (mkF m 1 #[.val (.ref b), .val (.int (Int32.ofNat o)), .val (.int (Int32.ofNat len)), .unset, .unset, .unset] [.int (Int32.ofNat len)])) rfl (hb hbytes d1) (rest := []) rfl (Nat.le_refl _) (by show 0 + len ≤ len; omega)
  rw [hh0] at ba3 st3
  have kp3 : XT.Kept s T3 := (XT.Kept.of_eq hh0).push bh3
  have hA3 := hA.keep X3.warmed.alike (kp3 _ _ hA.1.1)
  have hne : b ≠ s.heap.size := hA.1.ne
  have c4 : Steps p.tables e below (s₁.setTop (entryFrame m #[.ref b, .int (Int32.ofNat o), .int (Int32.ofNat len)] 6)) (T3.setTop (mkF m 3 #[.val (.ref b), .val (.int (Int32.ofNat o)), .val (.int (Int32.ofNat len)), .unset, .unset, .unset] [.ref s.heap.size])) := c2.trans (st3 _ (Steps.refl _))
  have c5 : Steps p.tables e below (s₁.setTop (entryFrame m #[.ref b, .int (Int32.ofNat o), .int (Int32.ofNat len)] 6)) (T3.setTop (mkF m 9 #[.val (.ref b), .val (.int (Int32.ofNat o)), .val (.int (Int32.ofNat len)), .val (.ref s.heap.size), .unset, .unset] [.int (Int32.ofNat len), .int 0, .ref s.heap.size, .int (Int32.ofNat o), .ref b])) := c4.trans (by
    refine XS.astoreN X3.here hexec rfl (hb hbytes d3) rfl rfl rfl ?_
    refine XS.aloadN X3.here hexec rfl (hb hbytes d4) rfl rfl ?_
    refine XS.iloadN X3.here hexec rfl (hb hbytes d5) rfl ?_
    refine XS.aloadN X3.here hexec rfl (hb hbytes d6) rfl rfl ?_
    refine iconstV X3.here hexec rfl 0 (hb hbytes d7) (by decide) ?_
    refine XS.iloadN X3.here hexec rfl (hb hbytes d8) rfl ?_
    exact Steps.refl _)
  obtain ⟨v6, T6, X6, E6, g6⟩ := X3.callS hexec (Cmp5.law l b A s.heap.size B3 o 0 len) hown (wks W (staticW U16 115 Cmp5.yN)) (wk W Cmp5.tab) (W := 0) (Nat.le_of_ble_eq_true rfl) (Nat.le_of_ble_eq_true rfl) (Nat.le_refl _) (by show 0 + len + 0 ≤ len; omega) (g := (mkF m 9 #[.val (.ref b), .val (.int (Int32.ofNat o)), .val (.int (Int32.ofNat len)), .val (.ref s.heap.size), .unset, .unset] [.int (Int32.ofNat len), .int (Int32.ofNat 0), .ref s.heap.size, .int (Int32.ofNat o), .ref b])) rfl (by rw [hml]; rfl) c5 (argsL := [.ref b, .int (Int32.ofNat o), .ref s.heap.size, .int (Int32.ofNat 0), .int (Int32.ofNat len)]) (rest := []) rfl rfl (by show 2 * 0 + 0 ≤ _; decide) (hb hbytes d9) (⟨rfl, hA3, ba3, hne, l1, by rw [bs3]; simp, hp⟩)
  obtain ⟨rfl, B6, p6, f6⟩ := E6
  have c7 : Steps p.tables e below (s₁.setTop (entryFrame m #[.ref b, .int (Int32.ofNat o), .int (Int32.ofNat len)] 6)) (T6.setTop (mkF m 12 #[.val (.ref b), .val (.int (Int32.ofNat o)), .val (.int (Int32.ofNat len)), .val (.ref s.heap.size), .unset, .unset] [.int (Int32.ofNat len)])) := g6
  have c8 : Steps p.tables e below (s₁.setTop (entryFrame m #[.ref b, .int (Int32.ofNat o), .int (Int32.ofNat len)] 6)) (T6.setTop (mkF m 58 #[.val (.ref b), .val (.int (Int32.ofNat o)), .val (.int (Int32.ofNat len)), .val (.ref s.heap.size), .val (.int (Int32.ofNat len)), .unset] [.ref s.heap.size])) := c7.trans (by
    refine XS.istore X6.here hexec rfl (hb hbytes d12) rfl rfl ?_
    refine XS.iload X6.here hexec rfl (hb hbytes d14) rfl ?_
    refine XS.iloadN X6.here hexec rfl (hb hbytes d16) rfl ?_
    refine XS.icmpYes X6.here hexec rfl (pc0 := 17) rfl (hb hbytes d17) rfl (ii_eq_t rfl) (by decide) rfl ?_
    refine XS.aloadN X6.here hexec rfl (hb hbytes d57) rfl rfl ?_
    exact Steps.refl _)
  have X8 := X6.wide (L' := []) (cells' := 1) (slots' := len) (fun x hx hlt => by
    simp only [List.nil_append, copyLocs, List.mem_map, List.mem_range] at hx
    obtain ⟨i, -, rfl⟩ := hx
    exact absurd hlt (Nat.lt_irrefl _)) (Nat.le_refl _) (by omega)
  exact ⟨T6, some (.ref s.heap.size), _, _, _, X8, rfl, rfl, rfl, (fun h => by cases h), ⟨⟨rfl, B6, ba3.like (X3.warmed.alike.symm.trans X6.warmed.alike) p6.1 f6.1 f6.2.1 f6.2.2.1, f6.2.1.trans bv3, by rw [X6.warmed.alike.findClass, f6.1]; exact bf3, by rw [f6.2.2.1, bs3]; simp, fun j hj => by rw [f6.2.2.2 j, if_pos (by omega)]; rfl, kp3.put p6 (Nat.le_refl _)⟩, by rw [p6.2.2, bh3, hh0]; simp⟩, fun fs hl => c8.trans (X8.areturnOut hexec rfl hret rfl (hb hbytes d58) hl)⟩
end Cmp3
namespace CodL
def yN : MethodName := ⟨"java/lang/StringUTF16", "coderFromArrayLen", "([BI)B"⟩
abbrev yB : ByteArray := jdk_52_method_15_code
theorem d0 : decode yB 0 = .ok (.iload_n 1, 1) := by decide +kernel
theorem d1 : decode yB 1 = .ok (.aload_n 0, 1) := by decide +kernel
theorem d2 : decode yB 2 = .ok (.arraylength, 1) := by decide +kernel
theorem d3 : decode yB 3 = .ok (.isub, 1) := by decide +kernel
theorem d4 : decode yB 4 = .ok (.bipush 31, 2) := by decide +kernel
theorem d6 : decode yB 6 = .ok (.iushr, 1) := by decide +kernel
theorem d7 : decode yB 7 = .ok (.i2b, 1) := by decide +kernel
theorem d8 : decode yB 8 = .ok (.ireturn, 1) := by decide +kernel
def site : List Cond := []
def tab : Cond := tabOf yN yB 2 (some .byte) site
def P (d : Addr) (B : Cell) (args : Array Value) (s : State) : Prop := args = #[.ref d, .int (Int32.ofNat B.slots.size)] ∧ Arr .byte d B s
def E (r : Option Value) (s u : State) : Prop := XT.PureE (some (.int 0)) r s u
/-- an array as long as the number of chars: LATIN1 -/
theorem law (l : Launch) (d : Addr) (B : Cell) : Law l yN 2 2 0 0 yB 2 (some .byte) site (P d B) E [] 0 0 := by
  refine Law.of_walk (plainFor_of_name (by decide +kernel)) (by decide +kernel) (by decide +kernel) (by decide) (fun _ _ h => by rw [h.1]; rfl) (fun _ U U' hal hh h => ⟨h.1, h.2.mv hal hh⟩) (fun r U U' V V' h1 hal h2 h => XT.PureE.mv r U U' V V' h1 hal h2 h) ?_
  intro p e s m args below meth c s₁ X0 hexec hbytes hml hret hlk hnm hown hh0 W hP
  obtain ⟨rfl, hB⟩ := hP
  have hB0 := hB.mv X0.warmed.alike hh0
  have c1 : Steps p.tables e below (s₁.setTop (entryFrame m #[.ref d, .int (Int32.ofNat B.slots.size)] 2)) (s₁.setTop (mkF m 0 #[.val (.ref d), .val (.int (Int32.ofNat B.slots.size))] [])) := entry rfl
  have c2 : Steps p.tables e below (s₁.setTop (entryFrame m #[.ref d, .int (Int32.ofNat B.slots.size)] 2)) (s₁.setTop (mkF m 2 #[.val (.ref d), .val (.int (Int32.ofNat B.slots.size))] [.ref d, .int (Int32.ofNat B.slots.size)])) := c1.trans (by
    refine XS.iloadN X0.here hexec rfl (hb hbytes d0) rfl ?_
    refine XS.aloadN X0.here hexec rfl (hb hbytes d1) rfl rfl ?_
    exact Steps.refl _)
  have c3 : Steps p.tables e below (s₁.setTop (entryFrame m #[.ref d, .int (Int32.ofNat B.slots.size)] 2)) (s₁.setTop (mkF m 8 #[.val (.ref d), .val (.int (Int32.ofNat B.slots.size))] [.int (lo8 (ushr (Int32.ofNat B.slots.size - Int32.ofNat B.slots.size) 31))])) := c2.trans (by
    refine X0.alen hexec hB0 rfl rfl (hb hbytes d2) ?_
    refine XS.isub X0.here hexec rfl (hb hbytes d3) rfl ?_
    refine bipushV X0.here hexec rfl 31 (hb hbytes d4) (by decide) ?_
    refine iushr X0.here hexec rfl (hb hbytes d6) rfl ?_
    refine i2b X0.here hexec rfl (hb hbytes d7) rfl ?_
    exact Steps.refl _)
  have e0 : lo8 (ushr (Int32.ofNat B.slots.size - Int32.ofNat B.slots.size) 31) = 0 := by rw [Int32.sub_self]; decide
  rw [e0] at c3
  exact ⟨s₁, some (.int 0), _, _, _, X0, rfl, rfl, rfl, (fun h => by cases h), ⟨rfl, hh0⟩, fun fs hl => c3.trans (X0.ireturnOut hexec hret rfl (Or.inr (Or.inr (Or.inl rfl))) (hb hbytes d8) hl)⟩
end CodL
/-- the String at a is Latin-1 over a new byte[] (the heap's one new cell): the low bytes of the len chars of A from o on; every cell but a is kept -/
def Got (a : Addr) (D : Cell) (fV fC : Field) (A : Cell) (o len : Nat) (r : Option Value) (s u : State) : Prop := r = none ∧ ∃ D' V : Cell, Blank "java/lang/String" a D' u ∧ Same D D' [fV.slot, fC.slot] ∧ D'.slots[fV.slot]? = some (.ref s.heap.size) ∧ D'.slots[fC.slot]? = some (.int 0) ∧ Arr .byte s.heap.size V u ∧ V.vm = .none ∧ u.vm.findClass "[B" = some V.cls ∧ V.slots.size = len ∧ (∀ j, j < len → V.slots[j]? = some (.int (lo8 (cv A (o + j))))) ∧ (∀ (y : Addr) (c : Cell), y ≠ a → s.heap[y]? = some c → u.heap[y]? = some c) ∧ u.heap.size = s.heap.size + 1
theorem Got.mv {a : Addr} {D A : Cell} {fV fC : Field} {o len : Nat} : ∀ r (U U' V V' : State), U'.heap = U.heap → V.vm.Alike V'.vm → V'.heap = V.heap → Got a D fV fC A o len r U V → Got a D fV fC A o len r U' V' :=
  fun r U U' V V' h1 hal h2 ⟨e0, D', X, a1, a2, a3, a4, a5, a6, a7, a8, a9, a10, a11⟩ => ⟨e0, D', X, a1.mv hal h2, a2, by rw [h1]; exact a3, a4, by rw [h1]; exact a5.mv hal h2, a6, by rw [hal.findClass]; exact a7, a8, a9, by rw [h1, h2]; exact a10, by rw [h1, h2]; exact a11⟩
namespace New4
def yN : MethodName := ⟨"java/lang/String", "<init>", "([CIILjava/lang/Void;)V"⟩
abbrev yB : ByteArray := jdk_42_method_149_code
theorem d0 : decode yB 0 = .ok (.aload_n 0, 1) := by decide +kernel
theorem d1 : decode yB 1 = .ok (.invokespecial 1, 3) := by decide +kernel
theorem d4 : decode yB 4 = .ok (.iload_n 3, 1) := by decide +kernel
theorem d5 : decode yB 5 = .ok (.ifCond (.ne) 22, 3) := by decide +kernel
theorem d27 : decode yB 27 = .ok (.getstatic 38, 3) := by decide +kernel
theorem d30 : decode yB 30 = .ok (.ifCond (.eq) 28, 3) := by decide +kernel
theorem d33 : decode yB 33 = .ok (.aload_n 1, 1) := by decide +kernel
theorem d34 : decode yB 34 = .ok (.iload_n 2, 1) := by decide +kernel
theorem d35 : decode yB 35 = .ok (.iload_n 3, 1) := by decide +kernel
theorem d36 : decode yB 36 = .ok (.invokestatic 177, 3) := by decide +kernel
theorem d39 : decode yB 39 = .ok (.astore 5, 2) := by decide +kernel
theorem d41 : decode yB 41 = .ok (.aload_n 0, 1) := by decide +kernel
theorem d42 : decode yB 42 = .ok (.aload 5, 2) := by decide +kernel
theorem d44 : decode yB 44 = .ok (.iload_n 3, 1) := by decide +kernel
theorem d45 : decode yB 45 = .ok (.invokestatic 47, 3) := by decide +kernel
theorem d48 : decode yB 48 = .ok (.putfield 15, 3) := by decide +kernel
theorem d51 : decode yB 51 = .ok (.aload_n 0, 1) := by decide +kernel
theorem d52 : decode yB 52 = .ok (.aload 5, 2) := by decide +kernel
theorem d54 : decode yB 54 = .ok (.putfield 9, 3) := by decide +kernel
theorem d57 : decode yB 57 = .ok (.return_, 1) := by decide +kernel
def site : List Cond := [.fieldLink "java/lang/String" 38 "java/lang/String" "COMPACT_STRINGS" "Z", Cmp3.tab, CodL.tab, .laysFinal "java/lang/String" "java/lang/String" "value" "[B", .fieldLink "java/lang/String" 9 "java/lang/String" "value" "[B", .laysFinal "java/lang/String" "java/lang/String" "coder" "B", .fieldLink "java/lang/String" 15 "java/lang/String" "coder" "B"] ++ objW "java/lang/String" 1 ++ staticW "java/lang/String" 177 Cmp3.yN ++ staticW "java/lang/String" 47 CodL.yN
def tab : Cond := tabOf yN yB 6 none site
def P (a : Addr) (D : Cell) (fV fC : Field) (b : Addr) (A : Cell) (z : Int32) (o len : Nat) (args : Array Value) (s : State) : Prop := args = #[.ref a, .ref b, .int (Int32.ofNat o), .int (Int32.ofNat len), .null] ∧ Blank "java/lang/String" a D s ∧ Found "java/lang/String" "value" "[B" fV s ∧ Found "java/lang/String" "coder" "B" fC s ∧ Ch b A s ∧ StaticIs s "java/lang/String" "COMPACT_STRINGS" "Z" (.int z) ∧ ¬ z = 0 ∧ 0 < len ∧ o + len ≤ A.slots.size ∧ len ≤ 536870912 ∧ ∀ i, i < len → ¬ 255 < cv A (o + i)
def E (a : Addr) (D : Cell) (fV fC : Field) (A : Cell) (o len : Nat) (r : Option Value) (s u : State) : Prop := Got a D fV fC A o len r s u
/-- len > 0, no char of the range above 255: a Latin-1 String of their low bytes -/
theorem law (l : Launch) (a : Addr) (D : Cell) (fV fC : Field) (b : Addr) (A : Cell) (z : Int32) (o len : Nat) : Law l yN 5 4 2 35 yB 6 none site (P a D fV fC b A z o len) (E a D fV fC A o len) [⟨a, fC.slot⟩, ⟨a, fV.slot⟩] 1 len := by
  refine Law.of_walk (plainFor_of_name (by decide +kernel)) (by decide +kernel) (by decide +kernel) (by decide) (fun _ _ h => by rw [h.1]; rfl) (fun _ U U' hal hh h => ⟨h.1, h.2.1.mv hal hh, h.2.2.1.al hal, h.2.2.2.1.al hal, h.2.2.2.2.1.mv hal hh, h.2.2.2.2.2.1.there hal hh, h.2.2.2.2.2.2⟩) (fun r U U' V V' h1 hal h2 h => Got.mv r U U' V V' h1 hal h2 h) ?_
  intro p e s m args below meth c s₁ X0 hexec hbytes hml hret hlk hnm hown hh0 W hP
  obtain ⟨rfl, hB, f1, f2, hA, s1, hz, l0, l1, l2, hp⟩ := hP
  have a31 := hA.1.2.2.2
  have c1 : Steps p.tables e below (s₁.setTop (entryFrame m #[.ref a, .ref b, .int (Int32.ofNat o), .int (Int32.ofNat len), .null] 6)) (s₁.setTop (mkF m 0 #[.val (.ref a), .val (.ref b), .val (.int (Int32.ofNat o)), .val (.int (Int32.ofNat len)), .val .null, .unset] [])) := entry rfl
  have c2 : Steps p.tables e below (s₁.setTop (entryFrame m #[.ref a, .ref b, .int (Int32.ofNat o), .int (Int32.ofNat len), .null] 6)) (s₁.setTop (mkF m 1 #[.val (.ref a), .val (.ref b), .val (.int (Int32.ofNat o)), .val (.int (Int32.ofNat len)), .val .null, .unset] [.ref a])) := c1.trans (by
    refine XS.aloadN X0.here hexec rfl (hb hbytes d0) rfl rfl ?_
    exact Steps.refl _)
  obtain ⟨T3, X3, q3, st3⟩ := X0.oinit hexec hown (wks W (objW "java/lang/String" 1)) (g := (mkF m 1 #[.val (.ref a), .val (.ref b), .val (.int (Int32.ofNat o)), .val (.int (Int32.ofNat len)), .val .null, .unset] [.ref a])) rfl (by rw [hml]; rfl) (rest := []) rfl (hb hbytes d1) (W := 0) (by show 2 * 0 + 0 ≤ _; decide) (Nat.le_of_ble_eq_true rfl) (Nat.le_of_ble_eq_true rfl)
  have hh3 := q3.trans hh0
  have c4 : Steps p.tables e below (s₁.setTop (entryFrame m #[.ref a, .ref b, .int (Int32.ofNat o), .int (Int32.ofNat len), .null] 6)) (T3.setTop (mkF m 27 #[.val (.ref a), .val (.ref b), .val (.int (Int32.ofNat o)), .val (.int (Int32.ofNat len)), .val .null, .unset] [])) := (c2.trans (st3 _ (Steps.refl _))).trans (by
    refine XS.iloadN X3.here hexec rfl (hb hbytes d4) rfl ?_
    refine XS.ifYes X3.here hexec rfl (pc0 := 5) rfl (hb hbytes d5) rfl (i0_ne_t (nz32 (by omega) l0)) (by decide) rfl ?_
    exact Steps.refl _)
  obtain ⟨T5, X5, q5, st5⟩ := X3.sget hexec hown (wk W (.fieldLink "java/lang/String" 38 "java/lang/String" "COMPACT_STRINGS" "Z")) s1 (fun _ _ h => by rw [hh3]; exact h) (g := (mkF m 27 #[.val (.ref a), .val (.ref b), .val (.int (Int32.ofNat o)), .val (.int (Int32.ofNat len)), .val .null, .unset] [])) rfl (hb hbytes d27)
  have hh5 := q5.trans hh3
  have c6 : Steps p.tables e below (s₁.setTop (entryFrame m #[.ref a, .ref b, .int (Int32.ofNat o), .int (Int32.ofNat len), .null] 6)) (T5.setTop (mkF m 30 #[.val (.ref a), .val (.ref b), .val (.int (Int32.ofNat o)), .val (.int (Int32.ofNat len)), .val .null, .unset] [.int z])) := c4.trans (st5 _ (Steps.refl _))
  have c7 : Steps p.tables e below (s₁.setTop (entryFrame m #[.ref a, .ref b, .int (Int32.ofNat o), .int (Int32.ofNat len), .null] 6)) (T5.setTop (mkF m 36 #[.val (.ref a), .val (.ref b), .val (.int (Int32.ofNat o)), .val (.int (Int32.ofNat len)), .val .null, .unset] [.int (Int32.ofNat len), .int (Int32.ofNat o), .ref b])) := c6.trans (by
    refine XS.ifNo X5.here hexec rfl (hb hbytes d30) rfl (i0_eq_f hz) ?_
    refine XS.aloadN X5.here hexec rfl (hb hbytes d33) rfl rfl ?_
    refine XS.iloadN X5.here hexec rfl (hb hbytes d34) rfl ?_
    refine XS.iloadN X5.here hexec rfl (hb hbytes d35) rfl ?_
    exact Steps.refl _)
  obtain ⟨v8, T8, X8, E8, g8⟩ := X5.callS hexec (Cmp3.law l b A o len) hown (wks W (staticW "java/lang/String" 177 Cmp3.yN)) (wk W Cmp3.tab) (W := 0) (Nat.le_of_ble_eq_true rfl) (Nat.le_of_ble_eq_true rfl) (Nat.le_refl _) (by show 0 + len ≤ len; omega) (g := (mkF m 36 #[.val (.ref a), .val (.ref b), .val (.int (Int32.ofNat o)), .val (.int (Int32.ofNat len)), .val .null, .unset] [.int (Int32.ofNat len), .int (Int32.ofNat o), .ref b])) rfl (by rw [hml]; rfl) c7 (argsL := [.ref b, .int (Int32.ofNat o), .int (Int32.ofNat len)]) (rest := []) rfl rfl (by show 2 * 0 + 0 ≤ _; decide) (hb hbytes d36) (⟨rfl, hA.mv X5.warmed.alike hh5, l1, l2, hp⟩)
  obtain ⟨e8, z8⟩ := E8
  obtain ⟨rfl, N, n1, n2, n3, n4, n5, n6⟩ := NewArr.mv _ T5 s _ _ hh5.symm (Vm.Alike.refl _) rfl e8
  rw [hh5] at z8
  have hB1 := hB.keep X8.warmed.alike (n6 _ _ hB.1)
  have hne : s.heap.size ≠ a := (Nat.ne_of_lt (Array.getElem?_eq_some_iff.mp hB.1).1).symm
  have c9 : Steps p.tables e below (s₁.setTop (entryFrame m #[.ref a, .ref b, .int (Int32.ofNat o), .int (Int32.ofNat len), .null] 6)) (T8.setTop (mkF m 39 #[.val (.ref a), .val (.ref b), .val (.int (Int32.ofNat o)), .val (.int (Int32.ofNat len)), .val .null, .unset] [.ref s.heap.size])) := g8
  have c10 : Steps p.tables e below (s₁.setTop (entryFrame m #[.ref a, .ref b, .int (Int32.ofNat o), .int (Int32.ofNat len), .null] 6)) (T8.setTop (mkF m 45 #[.val (.ref a), .val (.ref b), .val (.int (Int32.ofNat o)), .val (.int (Int32.ofNat len)), .val .null, .val (.ref s.heap.size)] [.int (Int32.ofNat N.slots.size), .ref s.heap.size, .ref a])) := by
    have hc : Steps p.tables e below (s₁.setTop (entryFrame m #[.ref a, .ref b, .int (Int32.ofNat o), .int (Int32.ofNat len), .null] 6)) (T8.setTop (mkF m 45 #[.val (.ref a), .val (.ref b), .val (.int (Int32.ofNat o)), .val (.int (Int32.ofNat len)), .val .null, .val (.ref s.heap.size)] [.int (Int32.ofNat len), .ref s.heap.size, .ref a])) := c9.trans (by
      refine XS.astore X8.here hexec rfl (hb hbytes d39) rfl rfl rfl ?_
      refine XS.aloadN X8.here hexec rfl (hb hbytes d41) rfl rfl ?_
      refine XS.aload X8.here hexec rfl (hb hbytes d42) rfl rfl ?_
      refine XS.iloadN X8.here hexec rfl (hb hbytes d44) rfl ?_
      exact Steps.refl _)
    rw [n4]; exact hc
  obtain ⟨v11, T11, X11, E11, g11⟩ := X8.callS hexec (CodL.law l s.heap.size N) hown (wks W (staticW "java/lang/String" 47 CodL.yN)) (wk W CodL.tab) (W := 1) (Nat.le_of_ble_eq_true rfl) (Nat.le_of_ble_eq_true rfl) (Nat.le_refl _) (by show 0 + len + 0 ≤ len; omega) (g := (mkF m 45 #[.val (.ref a), .val (.ref b), .val (.int (Int32.ofNat o)), .val (.int (Int32.ofNat len)), .val .null, .val (.ref s.heap.size)] [.int (Int32.ofNat N.slots.size), .ref s.heap.size, .ref a])) rfl (by rw [hml]; rfl) c10 (argsL := [.ref s.heap.size, .int (Int32.ofNat N.slots.size)]) (rest := [.ref a]) rfl rfl (by show 2 * 0 + (1 + 0) ≤ _; decide) (hb hbytes d45) (⟨rfl, n1⟩)
  obtain ⟨rfl, q11⟩ := E11
  have hB11 := hB1.mv (X8.warmed.alike.symm.trans X11.warmed.alike) q11
  have c12 : Steps p.tables e below (s₁.setTop (entryFrame m #[.ref a, .ref b, .int (Int32.ofNat o), .int (Int32.ofNat len), .null] 6)) (T11.setTop (mkF m 48 #[.val (.ref a), .val (.ref b), .val (.int (Int32.ofNat o)), .val (.int (Int32.ofNat len)), .val .null, .val (.ref s.heap.size)] [.int 0, .ref a])) := g11
  obtain ⟨T13, X13, p13, bl13, sl13, st13⟩ := X11.finit hexec hown (wk W (.fieldLink "java/lang/String" 15 "java/lang/String" "coder" "B")) (Or.inr ⟨_, (wk W (.laysFinal "java/lang/String" "java/lang/String" "coder" "B"))⟩) (Or.inl ⟨rfl, hnm⟩) f2 (Or.inl rfl) hB11 (t := .byte) (by decide +kernel) rfl (g := (mkF m 48 #[.val (.ref a), .val (.ref b), .val (.int (Int32.ofNat o)), .val (.int (Int32.ofNat len)), .val .null, .val (.ref s.heap.size)] [.int 0, .ref a])) rfl (rest := []) rfl (hb hbytes d48)
  have c14 : Steps p.tables e below (s₁.setTop (entryFrame m #[.ref a, .ref b, .int (Int32.ofNat o), .int (Int32.ofNat len), .null] 6)) (T13.setTop (mkF m 54 #[.val (.ref a), .val (.ref b), .val (.int (Int32.ofNat o)), .val (.int (Int32.ofNat len)), .val .null, .val (.ref s.heap.size)] [.ref s.heap.size, .ref a])) := (c12.trans (st13 _ (Steps.refl _))).trans (by
    refine XS.aloadN X13.here hexec rfl (hb hbytes d51) rfl rfl ?_
    refine XS.aload X13.here hexec rfl (hb hbytes d52) rfl rfl ?_
    exact Steps.refl _)
  obtain ⟨T15, X15, p15, bl15, sl15, st15⟩ := X13.finit hexec hown (wk W (.fieldLink "java/lang/String" 9 "java/lang/String" "value" "[B")) (Or.inr ⟨_, (wk W (.laysFinal "java/lang/String" "java/lang/String" "value" "[B"))⟩) (Or.inl ⟨rfl, hnm⟩) f1 (Or.inl rfl) bl13 (t := (.array .byte)) (by decide +kernel) rfl (g := (mkF m 54 #[.val (.ref a), .val (.ref b), .val (.int (Int32.ofNat o)), .val (.int (Int32.ofNat len)), .val .null, .val (.ref s.heap.size)] [.ref s.heap.size, .ref a])) rfl (rest := []) rfl (hb hbytes d54)
  have c16 : Steps p.tables e below (s₁.setTop (entryFrame m #[.ref a, .ref b, .int (Int32.ofNat o), .int (Int32.ofNat len), .null] 6)) (T15.setTop (mkF m 57 #[.val (.ref a), .val (.ref b), .val (.int (Int32.ofNat o)), .val (.int (Int32.ofNat len)), .val .null, .val (.ref s.heap.size)] [])) := c14.trans (st15 _ (Steps.refl _))
  have ap := apart (Or.inr ⟨_, (wk W (.laysFinal "java/lang/String" "java/lang/String" "value" "[B"))⟩) (Or.inr ⟨_, (wk W (.laysFinal "java/lang/String" "java/lang/String" "coder" "B"))⟩) f1 f2 (t₁ := .array .byte) (t₂ := .byte) (by decide +kernel) (by decide +kernel) (by decide)
  have al := X8.warmed.alike.symm.trans X15.warmed.alike
  have n7 : T11.heap[s.heap.size]? = some N := by rw [q11]; exact n1.1
  exact ⟨T15, none, _, _, _, X15, by simp, rfl, by omega, (fun _ => rfl), ⟨rfl, _, N, bl15, ((Same.refl D _).set _ (by simp)).set _ (by simp), sl15, (Cell.slots_setSlot_ne _ ap).trans sl13, n1.keep al (p15.other hne (p13.other hne n7)), n2, by rw [al.findClass]; exact n3, n4, n5, fun y c h1 h2 => p15.other h1 (p13.other h1 (by rw [q11]; exact n6 y c h2)), by rw [p15.2.2, p13.2.2, q11]; exact z8⟩, fun fs hl => c16.trans (X15.returnOut hexec hret (hb hbytes d57) hl)⟩
end New4
namespace New1
def yN : MethodName := ⟨"java/lang/String", "<init>", "([C)V"⟩
abbrev yB : ByteArray := jdk_42_method_3_code
theorem d0 : decode yB 0 = .ok (.aload_n 0, 1) := by decide +kernel
theorem d1 : decode yB 1 = .ok (.aload_n 1, 1) := by decide +kernel
theorem d2 : decode yB 2 = .ok (.iconst 0, 1) := by decide +kernel
theorem d3 : decode yB 3 = .ok (.aload_n 1, 1) := by decide +kernel
theorem d4 : decode yB 4 = .ok (.arraylength, 1) := by decide +kernel
theorem d5 : decode yB 5 = .ok (.aconst_null, 1) := by decide +kernel
theorem d6 : decode yB 6 = .ok (.invokespecial 27, 3) := by decide +kernel
theorem d9 : decode yB 9 = .ok (.return_, 1) := by decide +kernel
def site : List Cond := [New4.tab] ++ initW "java/lang/String" 27 New4.yN
def tab : Cond := tabOf yN yB 2 none site
def P (a : Addr) (D : Cell) (fV fC : Field) (b : Addr) (A : Cell) (z : Int32) (args : Array Value) (s : State) : Prop := args = #[.ref a, .ref b] ∧ Blank "java/lang/String" a D s ∧ Found "java/lang/String" "value" "[B" fV s ∧ Found "java/lang/String" "coder" "B" fC s ∧ Ch b A s ∧ StaticIs s "java/lang/String" "COMPACT_STRINGS" "Z" (.int z) ∧ ¬ z = 0 ∧ 0 < A.slots.size ∧ A.slots.size ≤ 536870912 ∧ ∀ i, i < A.slots.size → ¬ 255 < cv A i
def E (a : Addr) (D : Cell) (fV fC : Field) (A : Cell) (r : Option Value) (s u : State) : Prop := Got a D fV fC A 0 A.slots.size r s u
/-- new String(chars), not empty, no char above 255: a Latin-1 String of their low bytes -/
theorem law (l : Launch) (a : Addr) (D : Cell) (fV fC : Field) (b : Addr) (A : Cell) (z : Int32) : Law l yN 2 1 3 52 yB 2 none site (P a D fV fC b A z) (E a D fV fC A) [⟨a, fC.slot⟩, ⟨a, fV.slot⟩] 1 A.slots.size := by
  refine Law.of_walk (plainFor_of_name (by decide +kernel)) (by decide +kernel) (by decide +kernel) (by decide) (fun _ _ h => by rw [h.1]; rfl) (fun _ U U' hal hh h => ⟨h.1, h.2.1.mv hal hh, h.2.2.1.al hal, h.2.2.2.1.al hal, h.2.2.2.2.1.mv hal hh, h.2.2.2.2.2.1.there hal hh, h.2.2.2.2.2.2⟩) (fun r U U' V V' h1 hal h2 h => Got.mv r U U' V V' h1 hal h2 h) ?_
  intro p e s m args below meth c s₁ X0 hexec hbytes hml hret hlk hnm hown hh0 W hP
  obtain ⟨rfl, hB, f1, f2, hA, s1, hz, l0, l2, hp⟩ := hP
  have c1 : Steps p.tables e below (s₁.setTop (entryFrame m #[.ref a, .ref b] 2)) (s₁.setTop (mkF m 0 #[.val (.ref a), .val (.ref b)] [])) := entry rfl
  have c2 : Steps p.tables e below (s₁.setTop (entryFrame m #[.ref a, .ref b] 2)) (s₁.setTop (mkF m 6 #[.val (.ref a), .val (.ref b)] [.null, .int (Int32.ofNat A.slots.size), .int 0, .ref b, .ref a])) := c1.trans (by
    refine XS.aloadN X0.here hexec rfl (hb hbytes d0) rfl rfl ?_
    refine XS.aloadN X0.here hexec rfl (hb hbytes d1) rfl rfl ?_
    refine iconstV X0.here hexec rfl 0 (hb hbytes d2) (by decide) ?_
    refine XS.aloadN X0.here hexec rfl (hb hbytes d3) rfl rfl ?_
    refine X0.alen hexec (hA.1.mv X0.warmed.alike hh0) rfl rfl (hb hbytes d4) ?_
    refine XS.aconstNull X0.here hexec rfl (hb hbytes d5) ?_
    exact Steps.refl _)
  obtain ⟨v3, T3, X3, E3, g3⟩ := X0.callN hexec (New4.law l a D fV fC b A z 0 A.slots.size) rfl hown (wks W (initW "java/lang/String" 27 New4.yN)) (W New4.tab (by simp only [site, List.mem_cons, List.mem_append, true_or, or_true])) (W := 0) (Nat.le_of_ble_eq_true rfl) (Nat.le_of_ble_eq_true rfl) (Nat.le_refl _) (by show 0 + A.slots.size ≤ A.slots.size; omega) (g := (mkF m 6 #[.val (.ref a), .val (.ref b)] [.null, .int (Int32.ofNat A.slots.size), .int (Int32.ofNat 0), .ref b, .ref a])) rfl (by rw [hml]; rfl) c2 (argsL := [.ref b, .int (Int32.ofNat 0), .int (Int32.ofNat A.slots.size), .null]) (rest := []) rfl rfl (by show 2 * 0 + 0 ≤ _; decide) (hb hbytes d6) (⟨rfl, hB.mv X0.warmed.alike hh0, f1.al X0.warmed.alike, f2.al X0.warmed.alike, hA.mv X0.warmed.alike hh0, s1.there X0.warmed.alike hh0, hz, l0, by omega, l2, fun i hi => by rw [Nat.zero_add]; exact hp i hi⟩)
  have e0 := Got.mv _ s₁ s _ _ hh0.symm (Vm.Alike.refl _) rfl E3
  obtain rfl := e0.1
  have c4 : Steps p.tables e below (s₁.setTop (entryFrame m #[.ref a, .ref b] 2)) (T3.setTop (mkF m 9 #[.val (.ref a), .val (.ref b)] [])) := g3
  exact ⟨T3, none, _, _, _, X3, by simp, rfl, by omega, (fun _ => rfl), e0, fun fs hl => c4.trans (X3.returnOut hexec hret (hb hbytes d9) hl)⟩
theorem pays {l : Launch} {R : Room} {p : Program} {e : Env} {below : List Frame} {s : State} {sargs : Array Value} {len W : Nat} (a : Addr) (D : Cell) (fV fC : Field) (b : Addr) (A : Cell) (z : Int32) (htab : tab.before sargs s = true) (hfr : 4 ≤ R.frames) (hlo : W + 65 ≤ R.locals) :
    Back l R p e below s sargs yN len W (fun A₁ a₁ => A₁.cells + 1 ≤ R.cells ∧ A₁.slots + A.slots.size ≤ R.slots ∧ P a D fV fC b A z a₁ A₁.U) (fun A₁ _ v₁ B₁ => E a D fV fC A v₁ A₁.U B₁.U ∧ B₁.locs = A₁.locs ++ [⟨a, fC.slot⟩, ⟨a, fV.slot⟩] ∧ B₁.cells = A₁.cells + 1 ∧ B₁.slots = A₁.slots + A.slots.size) :=
  (law l a D fV fC b A z).pays htab hfr (by omega)
end New1
end StrChars
namespace StrChars.Road
open Jvm Sem ClassFile Op Lib Jvm.Stand Jvm.Free Jvm.Free.XT
open Jvm.Lib.Cold (StaticIs)
abbrev ST : String := "java/lang/String"
/-- every table word that New1's law asks, flat -/
abbrev words : List Jvm.Cond := [.code New1.yN New1.yB 2 none, .initialized ST, .methodLink ST 27 New4.yN, .instanceMethod New4.yN,
  .code New4.yN New4.yB 6 none, .fieldLink ST 38 ST "COMPACT_STRINGS" "Z", .laysFinal ST ST "value" "[B", .fieldLink ST 9 ST "value" "[B", .laysFinal ST ST "coder" "B", .fieldLink ST 15 ST "coder" "B",
  .methodLink ST 1 Lib.objectInit, .instanceMethod Lib.objectInit, .code Lib.objectInit ⟨#[0xb1]⟩ 1 none, .methodLink ST 177 Cmp3.yN, .static Cmp3.yN, .methodLink ST 47 CodL.yN, .static CodL.yN,
  .code Cmp3.yN Cmp3.yB 6 (some (.array .byte)), .initialized U16, .arrayClass .byte, .methodLink U16 115 Cmp5.yN, .static Cmp5.yN, .code Cmp5.yN Cmp5.yB 7 (some .int), .code CodL.yN CodL.yB 2 (some .byte)]
theorem tab_of {a : Array Value} {s : State} (h : ∀ w ∈ words, w.before a s = true) : New1.tab.before a s = true := by
  have h5 : Cmp5.tab.before a s = true := unparts (wk h (.code Cmp5.yN Cmp5.yB 7 (some .int))) (wks h (.initialized Cmp5.yN.cls :: Cmp5.site))
  have hc : CodL.tab.before a s = true := unparts (wk h (.code CodL.yN CodL.yB 2 (some .byte))) (wks h (.initialized CodL.yN.cls :: CodL.site))
  have q5 : ∀ w ∈ Cmp5.tab :: words, w.before a s = true := fun w hw => (List.mem_cons.mp hw).elim (fun e => e ▸ h5) (h w)
  have h3 : Cmp3.tab.before a s = true := unparts (wk q5 (.code Cmp3.yN Cmp3.yB 6 (some (.array .byte)))) (wks q5 (.initialized Cmp3.yN.cls :: Cmp3.site))
  have q3 : ∀ w ∈ Cmp3.tab :: CodL.tab :: words, w.before a s = true := fun w hw => (List.mem_cons.mp hw).elim (fun e => e ▸ h3) fun hw => (List.mem_cons.mp hw).elim (fun e => e ▸ hc) (h w)
  have h4 : New4.tab.before a s = true := unparts (wk q3 (.code New4.yN New4.yB 6 none)) (wks q3 (.initialized New4.yN.cls :: New4.site))
  have q4 : ∀ w ∈ New4.tab :: words, w.before a s = true := fun w hw => (List.mem_cons.mp hw).elim (fun e => e ▸ h4) (h w)
  exact unparts (wk q4 (.code New1.yN New1.yB 2 none)) (wks q4 (.initialized New1.yN.cls :: New1.site))
/-- the words ride from the start Z to the walk's own state -/
theorem moved {Z s : State} {a0 args : Array Value} (hZ : Z.Warmed39 s.vm) (hw : ∀ d ∈ words, d.before a0 Z = true) : ∀ d ∈ words, d.before args s = true := fun d hd => by
  have q := hw d hd
  have t : ∀ d ∈ words, d = .arrayClass .byte ∨ (d.onTables && d.keepsFace) = true := by decide +kernel
  rcases t d hd with rfl | t
  · exact RoadKit.mvA hZ q
  · exact RoadKit.mv hZ q t
/-- WHAT COMES BACK, over the tables of the start Z: h the heap at the call, h' behind it -/
def Q (Z : State) (x : Addr) (A : Cell) (h : Heap) (v : Option Value) (h' : Heap) (L : List Loc) : Prop := v = none ∧ (∀ y ∈ L, y.base = x) ∧ RoadKit.Keep h h' [x] ∧ h'.size = h.size + 1 ∧ RoadKit.Exa Z h' x ST ∧ RoadKit.Fld Z h' x ST "value" "[B" (.ref h.size) ∧ RoadKit.Fld Z h' x ST "coder" "B" (.int 0) ∧
  (∃ V : Cell, RoadKit.Arr Z h' h.size V .byte ∧ V.vm = .none ∧ Z.vm.findClass "[B" = some V.cls ∧ V.slots.size = A.slots.size ∧ ∀ j, j < A.slots.size → V.slots[j]? = some (.int (lo8 (cv A j)))) ∧
  ∀ (O n d : String) (w : Value), RoadKit.Fld Z h x O n d w → RoadKit.slotOf Z O n d ≠ RoadKit.slotOf Z ST "value" "[B" → RoadKit.slotOf Z O n d ≠ RoadKit.slotOf Z ST "coder" "B" → RoadKit.Fld Z h' x O n d w
/-- **new String(chars) AT A CALL, IN THE ROAD'S FORM**: for specialBack behind newO: x the fresh String, b the char[] with the cell A -/
theorem back {p : Program} {l : Launch} {e : Env} {R : Room} {s : State} {args : Array Value} {below : List Frame} {len W : Nat} {Z : State} {a0 : Array Value} {h : Heap} (hZ : Z.Warmed39 s.vm) (hw : ∀ d ∈ words, d.before a0 Z = true) {kI : Nat} (wi : (Jvm.Cond.instantiable ST kI).before a0 Z = true)
    {x b : Addr} {A : Cell} {z : Int32} {v0 c0 : Value} (E : RoadKit.Exa Z h x ST) (V : RoadKit.Fld Z h x ST "value" "[B" v0) (C : RoadKit.Fld Z h x ST "coder" "B" c0) (K : RoadKit.Arr Z h b A .char) (hty : Typed .char A) (S : RoadKit.Sta Z h ST "COMPACT_STRINGS" "Z" (.int z)) (hz : ¬ z = 0)
    (l0 : 0 < A.slots.size) (l2 : A.slots.size ≤ 536870912) (hp : ∀ i, i < A.slots.size → ¬ 255 < cv A i) (hfr : 4 ≤ R.frames) (hlo : W + 65 ≤ R.locals) :
    Back l R p e below s args New1.yN len W (fun P a => a = #[.ref x, .ref b] ∧ P.U.heap = h ∧ P.cells + 1 ≤ R.cells ∧ P.slots + A.slots.size ≤ R.slots)
      (fun P _ v B => ∃ L, Q Z x A h v B.U.heap L ∧ B.locs = P.locs ++ L ∧ B.cells = P.cells + 1 ∧ B.slots = P.slots + A.slots.size) := by
  intro m meth c P g ig mk a X hg hsize hdg hW hn hp'
  obtain ⟨rfl, rfl, r1, r2⟩ := hp'
  have al : Z.vm.Alike P.U.vm := hZ.alike.trans X.warmed.alike
  obtain ⟨D, cfV, kV, iV, fV, hD, gV, stV, knV, obV, asV, slV⟩ := id V
  obtain ⟨D', cfC, kC, iC, fC, hD', gC, stC, -, -, asC, slC⟩ := id C
  cases hD.symm.trans hD'
  obtain ⟨D2, kD, e1, e2, e3, e4, e5⟩ := id E
  cases hD.symm.trans e1
  obtain ⟨c2, k2, i1, i2, i3, -⟩ := Cond.instantiable_spec wi
  cases e2.symm.trans i1
  cases e3.symm.trans i2
  obtain ⟨kU, u1, u2⟩ := al.2.2 _ _ e3
  have hB : Blank ST x D P.U := ⟨hD, ⟨knV, fun q hq => by rw [hq] at obV; cases obV⟩, by rw [al.findClass]; exact e2, kU, u1, by rw [u2]; exact i3, by rw [u2]; exact e5 i3⟩
  have F1 : Found ST "value" "[B" fV P.U := ⟨SBG.found_only al ⟨cfV, kV, iV, gV⟩, stV⟩
  have F2 : Found ST "coder" "B" fC P.U := ⟨SBG.found_only al ⟨cfC, kC, iC, gC⟩, stC⟩
  have hA : Ch b A P.U := ⟨⟨K.1, State.isArrayOf_alike al K.2.1, K.2.2, by omega⟩, hty⟩
  have hS : StaticIs P.U ST "COMPACT_STRINGS" "Z" (.int z) := by
    obtain ⟨cfS, iS, kS, fS, st, cS, t1, t2, t3, t4, t5, t6, t7⟩ := S
    exact StaticIs.there (s := { Z with heap := P.U.heap }) ⟨cfS, iS, kS, fS, st, cS, t1, t2, t3, t4, t5, (fun q => by rw [q] at t6; cases t6), t7⟩ al rfl
  obtain ⟨v, B, X', ⟨⟨hv, E', V', q1, q2, q3, q4, q5, q6, q7, q8, q9, q10, q11⟩, hl, hc, hs⟩, st⟩ := New1.pays x D fV fC b A z (tab_of (moved hZ hw)) hfr hlo m meth c P g ig mk _ X hg hsize hdg hW hn ⟨r1, r2, rfl, hB, F1, F2, hA, hS, hz, l0, l2, hp⟩
  have al' : Z.vm.Alike B.U.vm := hZ.alike.trans X'.warmed.alike
  have hsz : E'.slots.size = D.slots.size := by
    obtain ⟨-, -, -, kB, w1, w2, w3⟩ := q1
    obtain ⟨kB', y1, y2⟩ := al'.2.2 _ _ e3
    rw [q2.2.1] at w1
    cases w1.symm.trans y1
    rw [w3, e5 i3, y2]
  refine ⟨v, B, X', ⟨_, ⟨hv, ?_, ⟨by omega, fun y cy hy hn' => q10 y cy (by simpa using hn') hy, fun y cy hy => ?_⟩, q11, ⟨E', _, q1.1, by rw [q2.2.1]; exact e2, by rw [q2.2.1]; exact e3, by rw [q2.1]; exact obV, fun _ => by rw [hsz]; exact e5 i3⟩,
    ⟨E', cfV, kV, iV, fV, q1.1, gV, stV, by rw [q2.1]; exact knV, by rw [q2.1]; exact obV, by rw [q2.2.1]; exact asV, q3⟩, ⟨E', cfC, kC, iC, fC, q1.1, gC, stC, by rw [q2.1]; exact knV, by rw [q2.1]; exact obV, by rw [q2.2.1]; exact asC, q4⟩,
    ⟨V', ⟨q5.1, State.isArrayOf_alike al'.symm q5.2.1, q5.2.2.1⟩, q6, by rw [← al'.findClass]; exact q7, q8, fun j hj => by have := q9 j hj; rwa [Nat.zero_add] at this⟩, fun O n d w F n1 n2 => ?_⟩, hl, hc, hs⟩, st⟩
  · intro y hy
    simp only [List.mem_cons, List.not_mem_nil, or_false] at hy
    rcases hy with rfl | rfl <;> rfl
  · by_cases q : y = x
    · subst q
      cases hD.symm.trans hy
      exact ⟨E', q1.1, q2.2.1, q2.1, hsz⟩
    · exact ⟨cy, q10 y cy q hy, rfl, rfl, rfl⟩
  · obtain ⟨D3, cf, k, i, f, g1, g2, g3, g4, g5, g6, g7⟩ := F
    cases hD.symm.trans g1
    simp only [RoadKit.slotOf, g2, gV, gC, Option.map_some, Option.getD_some] at n1 n2
    exact ⟨E', cf, k, i, f, q1.1, g2, g3, by rw [q2.1]; exact g4, by rw [q2.1]; exact g5, by rw [q2.2.1]; exact g6, by rw [q2.2.2 f.slot (by simp [n1, n2])]; exact g7⟩
end StrChars.Road
namespace StrChars.Road
open Jvm Sem ClassFile Op Lib Jvm.Stand Jvm.Free Jvm.Free.XT
/-- WHAT COMES BACK, the byte[] as a list of values -/
def QA (Z : State) (x : Addr) (zn : Int32) (cs : List Int32) (h : Heap) (v : Option Value) (h' : Heap) (L : List Loc) : Prop := v = none ∧ (∀ y ∈ L, y.base = x) ∧ RoadKit.Keep h h' [x] ∧ h'.size = h.size + 1 ∧ RoadKit.Exa Z h' x ST ∧ RoadKit.Fld Z h' x ST "value" "[B" (.ref h.size) ∧ RoadKit.Fld Z h' x ST "coder" "B" (.int 0) ∧
  (∃ kb, Z.vm.findClass "[B" = some kb ∧ RoadKit.Arv Z h' h.size kb .byte zn (cs.map fun c => .int (lo8 c)) (.int 0)) ∧
  ∀ (O n d : String) (w : Value), RoadKit.Fld Z h x O n d w → RoadKit.slotOf Z O n d ≠ RoadKit.slotOf Z ST "value" "[B" → RoadKit.slotOf Z O n d ≠ RoadKit.slotOf Z ST "coder" "B" → RoadKit.Fld Z h' x O n d w
/-- **new String(chars) AT A CALL, THE ARRAYS AS LISTS**: the char[] at b holds cs, not empty, no char above 255 -/
theorem backArv {p : Program} {l : Launch} {e : Env} {R : Room} {s : State} {args : Array Value} {below : List Frame} {len W : Nat} {Z : State} {a0 : Array Value} {h : Heap} (hZ : Z.Warmed39 s.vm) (hw : ∀ d ∈ words, d.before a0 Z = true) {kI : Nat} (wi : (Jvm.Cond.instantiable ST kI).before a0 Z = true)
    {x b : Addr} {k : ClassId} {zn z : Int32} {cs : List Int32} {dv v0 c0 : Value} (E : RoadKit.Exa Z h x ST) (V : RoadKit.Fld Z h x ST "value" "[B" v0) (C : RoadKit.Fld Z h x ST "coder" "B" c0) (K : RoadKit.Arv Z h b k .char zn (cs.map Value.int) dv) (S : RoadKit.Sta Z h ST "COMPACT_STRINGS" "Z" (.int z)) (hz : ¬ z = 0)
    (hlen : zn.toNatClampNeg = cs.length) (h0 : 0 < cs.length) (hbig : cs.length ≤ 536870912) (hall : ∀ c ∈ cs, ¬ 255 < c) (hfr : 4 ≤ R.frames) (hlo : W + 65 ≤ R.locals) :
    Back l R p e below s args New1.yN len W (fun P a => a = #[.ref x, .ref b] ∧ P.U.heap = h ∧ P.cells + 1 ≤ R.cells ∧ P.slots + cs.length ≤ R.slots)
      (fun P _ v B => ∃ L, QA Z x zn cs h v B.U.heap L ∧ B.locs = P.locs ++ L ∧ B.cells = P.cells + 1 ∧ B.slots = P.slots + cs.length) := by
  obtain ⟨A, K1, K2, K3, K4, K5, K6⟩ := K
  have e : A.slots.size = cs.length := K3.trans hlen
  have hat : ∀ (i : Nat) (hi : i < cs.length), A.slots[i]? = some (.int cs[i]) := fun i hi => by rw [K5 i (by omega)]; simp [List.getD_eq_getElem?_getD, hi]
  have hcv : ∀ (i : Nat) (hi : i < cs.length), cv A i = cs[i] := fun i hi => by unfold cv; rw [hat i hi]
  have hty : Typed .char A := fun i v hv => by
    have hi : i < A.slots.size := (Array.getElem?_eq_some_iff.mp hv).1
    have q := K5 i hi
    rw [hv] at q
    rw [Option.some.inj q]
    exact K6 i hi
  refine Back.mono (back hZ hw wi E V C K1 hty S hz (by omega) (by omega) (fun i hi => by rw [hcv i (by omega)]; exact hall _ (List.getElem_mem _)) hfr hlo) (fun P a hp => ⟨hp.1, hp.2.1, hp.2.2.1, by rw [e]; exact hp.2.2.2⟩) (fun P a v B hp hq => ?_)
  obtain ⟨L, ⟨q1, q2, q3, q4, q5, q6, q7, ⟨V', v1, v2, v3, v4, v5⟩, q9⟩, hl, hc, hs⟩ := hq
  refine ⟨L, ⟨q1, q2, q3, q4, q5, q6, q7, ⟨V'.cls, v3, V', v1, rfl, by rw [v4, e, hlen], K4, fun i hi => ?_, fun i hi => ?_⟩, q9⟩, hl, hc, by rw [hs, e]⟩
  · have hi' : i < cs.length := by omega
    rw [v5 i (by omega), hcv i hi']; simp [List.getD_eq_getElem?_getD, hi']
  · have hi' : i < cs.length := by omega
    simp only [List.getD_eq_getElem?_getD, List.getElem?_map, List.getElem?_eq_getElem hi', Option.map_some, Option.getD_some]
    exact fits_lo8 _
end StrChars.Road
namespace StrChars.Road
open Jvm Sem ClassFile Op Lib Jvm.Stand Jvm.Free Jvm.Free.XT
/-- WHAT COMES BACK, in the writer's own shape -/
def QV (Z : State) (x : Addr) (N : Int32) (bs : List Int32) (h : Heap) (n0 : Nat) (v : Option Value) (h' : Heap) (L : List Loc) : Prop := v = none ∧ RoadKit.Fr n0 L ∧ RoadKit.Keep h h' [x] ∧ RoadKit.Exa Z h' x ST ∧ RoadKit.Fld Z h' x ST "coder" "B" (.int 0) ∧
  ∃ (t : Addr) (kb : ClassId), n0 ≤ t ∧ h.size ≤ t ∧ ¬ t = x ∧ RoadKit.Fld Z h' x ST "value" "[B" (.ref t) ∧ RoadKit.Arv Z h' t kb .byte N (bs.map Value.int) (.int 0)
/-- **new String(chars) AT A CALL, FOR THE WRITER**: a char[] of n known ints, each 0 to 255 -/
theorem backV {p : Program} {l : Launch} {e : Env} {R : Room} {s : State} {args : Array Value} {below : List Frame} {len W : Nat} {Z : State} {a0 : Array Value} {h : Heap} (hZ : Z.Warmed39 s.vm) (hw : ∀ d ∈ words, d.before a0 Z = true) {kI : Nat} (wi : (Jvm.Cond.instantiable ST kI).before a0 Z = true)
    {x b : Addr} {kC : ClassId} {cs bs : List Int32} {d v0 c0 : Value} {z N : Int32} {n n0 : Nat} (hx0 : n0 ≤ x) (hh0 : n0 ≤ h.size) (E : RoadKit.Exa Z h x ST) (V : RoadKit.Fld Z h x ST "value" "[B" v0) (C : RoadKit.Fld Z h x ST "coder" "B" c0) (K : RoadKit.Arv Z h b kC .char N (cs.map Value.int) d) (S : RoadKit.Sta Z h ST "COMPACT_STRINGS" "Z" (.int z)) (hz : ¬ z = 0)
    (hn : cs.length = n) (hN : N = Int32.ofNat n) (l0 : 0 < n) (l2 : n ≤ 4000) (hp : ∀ c ∈ cs, ¬ c < 0 ∧ ¬ (255 : Int32) < c) (hb : bs = cs.map (fun c => c.toInt8.toInt32)) (hfr : 4 ≤ R.frames) (hlo : W + 65 ≤ R.locals) :
    Back l R p e below s args (⟨"java/lang/String", "<init>", "([C)V"⟩ : MethodName) len W (fun P a => a = #[.ref x, .ref b] ∧ P.U.heap = h ∧ P.cells + 1 ≤ R.cells ∧ P.slots + n ≤ R.slots)
      (fun P _ v B => ∃ L, QV Z x N bs h n0 v B.U.heap L ∧ B.locs = P.locs ++ L ∧ B.cells = P.cells + 1 ∧ B.slots = P.slots + n) := by
  subst hn hN hb
  refine Back.mono (backArv hZ hw wi E V C K S hz (n32 (by omega)) l0 (by omega) (fun c hc => (hp c hc).2) hfr hlo) (fun P a hp => hp) (fun P a v B hp hq => ?_)
  obtain ⟨L, ⟨q1, q2, q3, q4, q5, q6, q7, ⟨kb, v1, v2⟩, q9⟩, hl, hc, hs⟩ := hq
  exact ⟨L, ⟨q1, fun y hy => by rw [q2 y hy]; exact hx0, q3, q5, q7, h.size, kb, hh0, Nat.le_refl _, Nat.ne_of_gt E.lt, q6, by rw [List.map_map]; exact v2⟩, hl, hc, hs⟩
end StrChars.Road
end Jvm.Pilot.@@N@@
namespace Jvm.RoadKit
open Sem ClassFile Op Lib Jvm.Stand Jvm.Free Jvm.LawKit
section New
variable {p : Program} {l : Launch} {e : Env} {R : Room} {s : State} {m : MethodId} {args : Array Value} {below : List Frame} {meth : Method} {c : Code} {T : State} {locs : List Loc} {cells slots : Nat}
theorem retI (X : Stand p l e R s m args below meth c T locs cells slots) (hx : p.tables.exec = Jvm.exec) {pc : Nat} {Ls : Array Slot} {z : Int32} {rest : List Value} (hret : meth.sig.returnType = some .int) (hd : decode c.code pc = .ok (.ireturn, 1)) {fs : List Frame}
    (hl : ∀ (f : JFrame) (acts : List Action), f.method = m → f.locked = none → f.entered = [] → (doReturn e (T.setTop f) acts (some (.int z))).1 = T.setFrames fs) : Steps p.tables e below (T.setTop (mkF m pc Ls (.int z :: rest))) (T.setFrames fs) := by
  have hm' : T.vm.method? m = some meth := X.method'
  have hn : narrow .int (.int z) = .int z := rfl
  show Steps p.tables e below (T.setTop { method := m, pc := pc, locals := Ls, stack := _ :: rest, locked := none }) _
  jvm_step X.here [X.here.top, hx, hd, hm', hret, hn]
  first | (intro acts; rw [hl _ acts rfl rfl rfl]) | rw [hl _ _ rfl rfl rfl]
  exact Steps.refl _
end New
/-- the run has come from where P looks on to this frame -/
def Go (p : Program) (e : Env) (below : List Frame) (P : State → Prop) (T : State) (g : JFrame) : Prop := ∀ t, Steps p.tables e below (T.setTop g) t → P t
/-- where roads that move the state meet: one of them has come to this frame (wide: it may have interned) -/
def PosW (p : Program) (l : Launch) (e : Env) (R : Room) (s : State) (m : MethodId) (args : Array Value) (below : List Frame) (meth : Method) (c : Code) (P : State → Prop) (Z : State) (n0 : Nat) (own : String) (EL : List (String × Nat)) (h0 hf : Heap) (ws : List Addr) (cells slots : Nat) (g : JFrame) (K : Heap → Prop) : Prop :=
  ∃ (vm : Vm) (T : State) (locs : List Loc) (k : Nat), Stand p l e R (s.setVm vm) m args below meth c T locs cells slots ∧ Fr n0 locs ∧ Keep hf T.heap ws ∧ s.Since vm k ∧ k ≤ T.heap.size ∧ Z.Warmed39 vm ∧ vm.findClass own = some m.cls ∧ CHr Z EL s.vm h0 vm T.heap ∧ Go p e below P T g ∧ K T.heap
def PosN (p : Program) (l : Launch) (e : Env) (R : Room) (s : State) (m : MethodId) (args : Array Value) (below : List Frame) (meth : Method) (c : Code) (P : State → Prop) (n0 : Nat) (hf : Heap) (ws : List Addr) (cells slots : Nat) (g : JFrame) (K : Heap → Prop) : Prop :=
  ∃ (T : State) (locs : List Loc), Stand p l e R s m args below meth c T locs cells slots ∧ Fr n0 locs ∧ Keep hf T.heap ws ∧ Go p e below P T g ∧ K T.heap
theorem oldLe {Z : State} {n0 : Nat} {h : Heap} (O : Old Z n0 h) : n0 ≤ h.size := O.1 ▸ O.2.1
theorem narrow_refV {t : FieldType} {v : Value} (h : v.isRef = true) : narrow t v = v := by
  rcases ref_cases h with rfl | ⟨_, rfl⟩ <;> cases t <;> rfl
theorem fits_refV {C : String} {v : Value} (h : v.isRef = true) : fits (.object C) v = true := by
  rcases ref_cases h with rfl | ⟨_, rfl⟩ <;> rfl
end Jvm.RoadKit
namespace Jvm.Pilot.@@N@@
open Jvm Jvm.ClassFile Sem Op Lib Jvm.Free Jvm.Stand Jvm.LawKit Jvm.RoadKit Bundle Jvm.Pilot.@@N@@.Jvm.D
theorem eq_int {args : Array Value} {first s : State} {o : Option Outcome} {idx : List Nat} {a b : Term} {x : Value} {z : Int32} (ha : a.eval args first o idx s = some x) (hb : b.eval args first o idx s = some (.int z)) (h : (Jvm.Cond.eq a b).value args first o s idx = some true) : x = .int z := by
  cases x <;> simp [Cond.value, ha, hb] at h ⊢ <;> exact h
theorem nar_b0 : nar .boolean 0 = 0 := by decide
theorem nar_b1 : nar .boolean 1 = 1 := by decide
theorem nar_b8 (x : Int32) : nar .byte (x.toInt8.toInt32) = x.toInt8.toInt32 := by show (x.toInt8.toInt32).toInt8.toInt32 = x.toInt8.toInt32; simp
theorem eq_I {args : Array Value} {first s : State} {o : Option Outcome} {idx : List Nat} {a b : Term} {x y : Int32} (ha : a.eval args first o idx s = some (.int x)) (hb : b.eval args first o idx s = some (.int y)) : (Jvm.Cond.eq a b).value args first o s idx = some (decide (x = y)) := by simp [Cond.value, ha, hb]
theorem chr255 (x : Int32) : nar .char ((x &&& (255 : Int32)).toUInt32.toUInt16.toUInt32.toInt32) = ((x &&& (255 : Int32)).toUInt32.toUInt16.toUInt32.toInt32) ∧ ¬ ((x &&& (255 : Int32)).toUInt32.toUInt16.toUInt32.toInt32) < 0 ∧ ¬ (255 : Int32) < ((x &&& (255 : Int32)).toUInt32.toUInt16.toUInt32.toInt32) := by
  have t : ∀ k : Fin 256, nar .char ((Int32.ofNat k.val).toUInt32.toUInt16.toUInt32.toInt32) = ((Int32.ofNat k.val).toUInt32.toUInt16.toUInt32.toInt32) ∧ ¬ ((Int32.ofNat k.val).toUInt32.toUInt16.toUInt32.toInt32) < 0 ∧ ¬ (255 : Int32) < ((Int32.ofNat k.val).toUInt32.toUInt16.toUInt32.toInt32) := by decide +kernel
  have h : (x &&& 255).toBitVec.toNat < 256 := by
    simp only [Int32.toBitVec_and, BitVec.toNat_and]
    exact Nat.lt_succ_of_le Nat.and_le_right
  have e : (x &&& 255) = Int32.ofNat (x &&& 255).toBitVec.toNat := by
    apply Int32.toBitVec_inj.mp
    show _ = BitVec.ofNat 32 _
    rw [BitVec.ofNat_toNat]; simp
  rw [e]
  exact t ⟨_, h⟩
abbrev EL0 : List (String × Nat) := []
theorem wS_of {Z : State} {a0 : Array Value} (hw : ∀ d ∈ tables_1, d.before a0 Z = true) : ∀ a ∈ Bundle.stringAtoms, a.before a0 Z = true := by
  intro a ha
  simp only [Bundle.stringAtoms, List.mem_cons, List.not_mem_nil, or_false] at ha
  rcases ha with rfl | rfl | rfl | rfl | rfl | rfl | rfl
  · exact (hw _ (List.mem_of_getElem? (i := 2) rfl))
  · exact (hw _ (List.mem_of_getElem? (i := 3) rfl))
  · exact (hw _ (List.mem_of_getElem? (i := 4) rfl))
  · exact (hw _ (List.mem_of_getElem? (i := 5) rfl))
  · exact (hw _ (List.mem_of_getElem? (i := 6) rfl))
  · exact (hw _ (List.mem_of_getElem? (i := 7) rfl))
  · exact (hw _ (List.mem_of_getElem? (i := 8) rfl))
theorem safeNull {Z : State} {EL : List (String × Nat)} {vm : Vm} {h : Heap} {x : Addr} (hal : Z.vm.Alike vm) (E : Exa Z h x "java/lang/String") (F : Fld Z h x "java/lang/String" "value" "[B" .null) : Safe Z EL vm h x := fun B => by
  obtain ⟨p, -, u, a, -, q, -, G, hx⟩ := B
  rcases hx with hx | hx
  · subst hx
    obtain ⟨cell, cf, k, i, f, f1, f2, f3, f4, f5, f6, f7⟩ := F
    obtain ⟨cS, ⟨⟨s1, s2, s3, ⟨cv, kv, iv, s4, s4'⟩, s5, s6, s7, s8, s9⟩, -⟩, -⟩ := G
    obtain ⟨kv', z4⟩ := ff_back (U := Wst Z vm h) hal s4
    cases f2.symm.trans z4
    have s1' : h[q.sa]? = some q.sC := s1
    cases f1.symm.trans s1'
    cases f7.symm.trans s8
  · subst hx
    obtain ⟨cell, k, e1, e2, e3, -, -⟩ := E
    have s10' : h[q.sd]? = some q.SA := G.hd
    cases e1.symm.trans s10'
    obtain ⟨cS, -, -, f, -⟩ := G
    have f' : vm.findClass "[B" = some q.SA.cls := f
    rw [hal.findClass] at f'
    obtain ⟨k1, q1, q2⟩ := Vm.findClass_spec f'
    obtain ⟨k2, q3, q4⟩ := Vm.findClass_spec e2
    cases q1.symm.trans q3
    exact absurd (q2.symm.trans q4) (by decide)
theorem w_backV {Z : State} {a0 : Array Value} (hw : ∀ d ∈ tables_1, d.before a0 Z = true) : ∀ d ∈ StrChars.Road.words, d.before a0 Z = true := fun d hd => hw d ((by decide +kernel : ∀ d ∈ StrChars.Road.words, d ∈ tables_1) d hd)
def eqI (cs ds : List Int32) : Int32 := if cs = ds then 1 else 0
theorem pn_27686809 : plainName "java/lang/StringLatin1" = true := by first | (simp [plainName, overriddenIn]; done) | decide +kernel
theorem ef_canEnc_ (m : MethodId) (x0 : Int32) : entryFrame m #[(.int x0)] 1 = mkF m 0 #[.val (.int x0)] [] := by first | (simp [entryFrame, mkF, argsToLocals, Value.category]; done) | rfl
theorem d20_0 : decode jdk_43_method_3_code 0 = .ok (.iload_n 0, 1) := by decide +kernel
theorem d20_1 : decode jdk_43_method_3_code 1 = .ok (.sipush 255, 3) := by decide +kernel
theorem d20_4 : decode jdk_43_method_3_code 4 = .ok (.if_icmp .gt 7, 3) := by decide +kernel
theorem d20_7 : decode jdk_43_method_3_code 7 = .ok (.iconst 1, 1) := by decide +kernel
theorem d20_8 : decode jdk_43_method_3_code 8 = .ok (.goto 4, 3) := by decide +kernel
theorem d20_12 : decode jdk_43_method_3_code 12 = .ok (.ireturn, 1) := by decide +kernel
def Q_canEnc_ (Z : State) (ch : Int32) (h0 : Heap) (n0 : Nat) (rv_ : Option Value) (rh_ : Heap) (rL_ : List Loc) : Prop := (rv_ = some (.int (1 : Int32))) ∧ (Fr n0 rL_) ∧ (rh_ = h0)
set_option maxRecDepth 65536 in
set_option maxHeartbeats 40000000 in
theorem canEnc_ (l : Launch) (Z : State) (a0 : Array Value) (hw : ∀ d ∈ tables_1, d.before a0 Z = true) (ws : List Jvm.Cond) (ch : Int32) (h0 : Heap) (n0 : Nat) (O0 : Old Z n0 h0) (P0 : ¬ (255 : Int32) < ch) :
    MetFree l (⟨"java/lang/StringLatin1", "canEncode", "(C)Z"⟩ : MethodName) (head1 (Jvm.Cond.code (⟨"java/lang/StringLatin1", "canEncode", "(C)Z"⟩ : MethodName) jdk_43_method_3_code 1 (some .boolean) :: ws) ({ frames := 0, cells := 0, slots := 0, locals := 0 } : Room)) (fun a_ U_ => a_ = #[(.int ch)] ∧ Z.Warmed39 U_.vm ∧ U_.heap = h0) (fun _ _ _ _ _ => True) (fun _ U_ o_ U_' => ∃ v_ L_, o_ = .returned v_ ∧ Q_canEnc_ Z ch h0 n0 v_ U_'.heap L_ ∧ FrameEnd U_ o_ U_' L_ ({ frames := 0, cells := 0, slots := 0, locals := 0 } : Room).cells ({ frames := 0, cells := 0, slots := 0, locals := 0 } : Room).slots) := by
  have hc := P0
  refine MetFree.of_bodySF (plainFor_of_name pn_27686809) hisR ?_
  intro p e s m args below meth c s₁ Bd hml0 hP0 hK
  obtain ⟨rfl, hZ, hh⟩ := hP0
  have hx := Bd.exec
  have hby := Bd.bytes
  have hml : c.maxLocals = 1 := hml0
  have hown : s.vm.findClass "java/lang/StringLatin1" = some m.cls := findClass_of_methodNamed Bd.named
  have hnm := (name_of_methodNamed Bd.named Bd.method).1
  have X0 : Stand p l e ({ frames := 0, cells := 0, slots := 0, locals := 0 } : Room) s m #[(.int ch)] below meth c s₁ [] 0 0 := Stand.of_body Bd
  have e0 : s₁.heap = h0 := by rw [← hh, Bd.state]; rfl
  have N0 := Fr.nil n0
  obtain ⟨P, hP, R0⟩ : ∃ P : State → Prop, (∀ t_, P t_ → Steps p.tables e below (s₁.setTop (entryFrame m #[(.int ch)] 1)) t_) ∧ Go p e below P s₁ (mkF m 0 #[.val (.int ch)] []) := ⟨_, fun _ h => h, fun t_ k_ => castTop (ef_canEnc_ m ch) k_⟩
  have R1 : Go p e below P s₁ (mkF m 1 #[.val (.int ch)] [(.int ch)]) := fun t_ k_ => R0 t_ (XS.iloadN X0.here hx rfl (hb hby d20_0) rfl k_)
  have R2 : Go p e below P s₁ (mkF m 4 #[.val (.int ch)] [(.int (255 : Int32)), (.int ch)]) := fun t_ k_ => R1 t_ (XS.sipush X0.here hx rfl (hb hby d20_1) k_)
  have R3 : Go p e below P s₁ (mkF m 7 #[.val (.int ch)] []) := fun t_ k_ => R2 t_ (XS.icmpNo X0.here hx rfl (hb hby d20_4) rfl (flt hc).2.2.1 k_)
  have R4 : Go p e below P s₁ (mkF m 8 #[.val (.int ch)] [(.int (1 : Int32))]) := fun t_ k_ => R3 t_ (XS.iconst X0.here hx rfl (hb hby d20_7) k_)
  have R5 : Go p e below P s₁ (mkF m 12 #[.val (.int ch)] [(.int (1 : Int32))]) := fun t_ k_ => R4 t_ (XS.goto X0.here hx rfl (pc0 := 8) (pc' := 12) rfl (hb hby d20_8) (by decide) (by decide) k_)
  obtain ⟨fs, hr, hrun, hended, hW, hsame⟩ := X0.leave (v := some (.int (nar .boolean (1 : Int32)))) (fun h => by rw [Bd.returns] at h; cases h)
  exact ⟨_, _, hP _ (R5 _ (retN X0 hx (t := .boolean) Bd.returns (by simp) (hb hby d20_12) hr)), hrun, hended, _, _, rfl, ⟨rfl, N0, e0⟩, ⟨_, rfl⟩, hW, hsame.mono (by decide) (by decide)⟩
theorem ef_toB_ (m : MethodId) (x0 : Int32) : entryFrame m #[(.int x0)] 1 = mkF m 0 #[.val (.int x0)] [] := by first | (simp [entryFrame, mkF, argsToLocals, Value.category]; done) | rfl
theorem d21_0 : decode jdk_43_method_46_code 0 = .ok (.iconst 1, 1) := by decide +kernel
theorem d21_1 : decode jdk_43_method_46_code 1 = .ok (.newarray .byte, 2) := by decide +kernel
theorem d21_3 : decode jdk_43_method_46_code 3 = .ok (.dup, 1) := by decide +kernel
theorem d21_4 : decode jdk_43_method_46_code 4 = .ok (.iconst 0, 1) := by decide +kernel
theorem d21_5 : decode jdk_43_method_46_code 5 = .ok (.iload_n 0, 1) := by decide +kernel
theorem d21_6 : decode jdk_43_method_46_code 6 = .ok (.i2b, 1) := by decide +kernel
theorem d21_7 : decode jdk_43_method_46_code 7 = .ok (.bastore, 1) := by decide +kernel
theorem d21_8 : decode jdk_43_method_46_code 8 = .ok (.areturn, 1) := by decide +kernel
def Q_toB_ (Z : State) (ch : Int32) (h0 : Heap) (n0 : Nat) (rv_ : Option Value) (rh_ : Heap) (rL_ : List Loc) : Prop := ∃ b : Addr, ∃ kb : ClassId, (rv_ = some (.ref b)) ∧ (Fr n0 rL_) ∧ (Keep h0 rh_ []) ∧ (h0.size ≤ b) ∧ (Arv Z rh_ b kb .byte (Int32.ofNat ([ch] : List Int32).length) ((([ch] : List Int32).map StrChars.lo8).map Value.int) (.int (0 : Int32)))
set_option maxRecDepth 65536 in
set_option maxHeartbeats 40000000 in
theorem toB_ (l : Launch) (Z : State) (a0 : Array Value) (hw : ∀ d ∈ tables_1, d.before a0 Z = true) (ws : List Jvm.Cond) (ch : Int32) (h0 : Heap) (n0 : Nat) (O0 : Old Z n0 h0) :
    MetFree l (⟨"java/lang/StringLatin1", "toBytes", "(C)[B"⟩ : MethodName) (head1 (Jvm.Cond.code (⟨"java/lang/StringLatin1", "toBytes", "(C)[B"⟩ : MethodName) jdk_43_method_46_code 1 (some (.array .byte)) :: ws) ({ frames := 0, cells := 1, slots := 1, locals := 0 } : Room)) (fun a_ U_ => a_ = #[(.int ch)] ∧ Z.Warmed39 U_.vm ∧ U_.heap = h0) (fun _ _ _ _ _ => True) (fun _ U_ o_ U_' => ∃ v_ L_, o_ = .returned v_ ∧ Q_toB_ Z ch h0 n0 v_ U_'.heap L_ ∧ FrameEnd U_ o_ U_' L_ ({ frames := 0, cells := 1, slots := 1, locals := 0 } : Room).cells ({ frames := 0, cells := 1, slots := 1, locals := 0 } : Room).slots) := by
  refine MetFree.of_bodySF (plainFor_of_name pn_27686809) hisR ?_
  intro p e s m args below meth c s₁ Bd hml0 hP0 hK
  obtain ⟨rfl, hZ, hh⟩ := hP0
  have hx := Bd.exec
  have hby := Bd.bytes
  have hml : c.maxLocals = 1 := hml0
  have hown : s.vm.findClass "java/lang/StringLatin1" = some m.cls := findClass_of_methodNamed Bd.named
  have hnm := (name_of_methodNamed Bd.named Bd.method).1
  have X0 : Stand p l e ({ frames := 0, cells := 1, slots := 1, locals := 0 } : Room) s m #[(.int ch)] below meth c s₁ [] 0 0 := Stand.of_body Bd
  have e0 : s₁.heap = h0 := by rw [← hh, Bd.state]; rfl
  have N0 := Fr.nil n0
  obtain ⟨P, hP, R0⟩ : ∃ P : State → Prop, (∀ t_, P t_ → Steps p.tables e below (s₁.setTop (entryFrame m #[(.int ch)] 1)) t_) ∧ Go p e below P s₁ (mkF m 0 #[.val (.int ch)] []) := ⟨_, fun _ h => h, fun t_ k_ => castTop (ef_toB_ m ch) k_⟩
  have R6 : Go p e below P s₁ (mkF m 1 #[.val (.int ch)] [(.int (1 : Int32))]) := fun t_ k_ => R0 t_ (XS.iconst X0.here hx rfl (hb hby d21_0) k_)
  obtain ⟨T7, h7, k7, X7, e7, E7, A7, st7⟩ := newP X0 hx hZ (hw _ (List.mem_of_getElem? (i := 4) rfl)) e0 (g := (mkF m 1 #[.val (.int ch)] [(.int (1 : Int32))])) rfl (hb hby d21_1) rfl (by decide) (cap := 1) (by decide) (by decide) (by decide) (by decide)
  obtain ⟨b7, g7⟩ : ∃ z, z = h0.size := ⟨_, rfl⟩
  rw [← g7] at A7 st7
  have O7 := O0.ext E7
  have V7 : Arv Z h7 b7 k7 .byte (1 : Int32) [(.int (0 : Int32))] (.int (0 : Int32)) := (Arv.new A7 (by decide)).pad (pad_rep [] (.int (0 : Int32)) 1)
  have R8 : Go p e below P T7 (mkF m 3 #[.val (.int ch)] [(.ref b7)]) := fun t_ k_ => R6 t_ (st7 t_ k_)
  have R9 : Go p e below P T7 (mkF m 4 #[.val (.int ch)] [(.ref b7), (.ref b7)]) := fun t_ k_ => R8 t_ (XS.dup X7.here hx rfl (hb hby d21_3) rfl rfl k_)
  have R10 : Go p e below P T7 (mkF m 5 #[.val (.int ch)] [(.int (0 : Int32)), (.ref b7), (.ref b7)]) := fun t_ k_ => R9 t_ (XS.iconst X7.here hx rfl (hb hby d21_4) k_)
  have R11 : Go p e below P T7 (mkF m 6 #[.val (.int ch)] [(.int ch), (.int (0 : Int32)), (.ref b7), (.ref b7)]) := fun t_ k_ => R10 t_ (XS.iloadN X7.here hx rfl (hb hby d21_5) rfl k_)
  have R12 : Go p e below P T7 (mkF m 7 #[.val (.int ch)] [(.int (ch.toInt8.toInt32)), (.int (0 : Int32)), (.ref b7), (.ref b7)]) := fun t_ k_ => R11 t_ (XS.i2b X7.here hx rfl (hb hby d21_6) rfl k_)
  obtain ⟨cl13, cl13A, cl13q, cl13S, cl13N, cl13H, cl13G⟩ := id V7
  obtain ⟨T14, h14, X14, e14, W14, st14⟩ := stB X7 hx hZ e7 cl13A (j := (0 : Int32)) (inb_of cl13S ⟨by decide, by decide⟩) (g := (mkF m 7 #[.val (.int ch)] [(.int (ch.toInt8.toInt32)), (.int (0 : Int32)), (.ref b7), (.ref b7)])) rfl rfl (hb hby d21_7)
  have V14 : Arv Z h14 b7 k7 .byte (1 : Int32) [(.int (nar .byte (ch.toInt8.toInt32)))] (.int (0 : Int32)) := Arv.set cl13A cl13q cl13S cl13N cl13H cl13G (fits_nar_byte _) W14 0 rfl (Nat.le_of_ble_eq_true rfl)
  have N14 := Fr.snoc X14 N0 (Nat.le_trans (oldLe O0) (Nat.le_of_eq g7.symm))
  have O14 := O7.wr W14 (Nat.le_trans (oldLe O0) (Nat.le_of_eq g7.symm))
  have V14s : Arv Z h14 b7 k7 .byte (1 : Int32) [(.int (ch.toInt8.toInt32))] (.int (0 : Int32)) := by have q := V14; rw [nar_b8] at q; exact q
  have R15 : Go p e below P T14 (mkF m 8 #[.val (.int ch)] [(.ref b7)]) := fun t_ k_ => R12 t_ (st14 t_ k_)
  obtain ⟨fs, hr, hrun, hended, hW, hsame⟩ := X14.leave (v := some (.ref b7)) (fun h => by rw [Bd.returns] at h; cases h)
  exact ⟨_, _, hP _ (R15 _ (retOut X14 hx Bd.returns rfl (Or.inr (Or.inr (Or.inr (Or.inr ⟨rfl, rfl, rfl⟩)))) (hb hby d21_8) hr)), hrun, hended, _, _, rfl, ⟨b7, k7, rfl, N14, (e14.symm ▸ (((Keep.refl h0 []).ext E7).wr W14 (Or.inr (Nat.le_of_eq g7.symm)))), (Nat.le_of_eq g7.symm), (e14.symm ▸ V14s)⟩, ⟨_, rfl⟩, hW, hsame.mono (by decide) (by decide)⟩
theorem pn_47582652 : plainName "java/lang/String" = true := by first | (simp [plainName, overriddenIn]; done) | decide +kernel
theorem ef_strBB_ (m : MethodId) (x0 : Addr) (x1 : Addr) (x2 : Int32) : entryFrame m #[(.ref x0), (.ref x1), (.int x2)] 3 = mkF m 0 #[.val (.ref x0), .val (.ref x1), .val (.int x2)] [] := by first | (simp [entryFrame, mkF, argsToLocals, Value.category]; done) | rfl
theorem d22_0 : decode jdk_42_method_151_code 0 = .ok (.aload_n 0, 1) := by decide +kernel
theorem d22_1 : decode jdk_42_method_151_code 1 = .ok (.invokespecial 1, 3) := by decide +kernel
theorem d22_4 : decode jdk_42_method_151_code 4 = .ok (.aload_n 0, 1) := by decide +kernel
theorem d22_5 : decode jdk_42_method_151_code 5 = .ok (.aload_n 1, 1) := by decide +kernel
theorem d22_6 : decode jdk_42_method_151_code 6 = .ok (.putfield 9, 3) := by decide +kernel
theorem d22_9 : decode jdk_42_method_151_code 9 = .ok (.aload_n 0, 1) := by decide +kernel
theorem d22_10 : decode jdk_42_method_151_code 10 = .ok (.iload_n 2, 1) := by decide +kernel
theorem d22_11 : decode jdk_42_method_151_code 11 = .ok (.putfield 15, 3) := by decide +kernel
theorem d22_14 : decode jdk_42_method_151_code 14 = .ok (.return_, 1) := by decide +kernel
def Q_strBB_ (Z : State) (x : Addr) (b : Addr) (h0 : Heap) (n0 : Nat) (rv_ : Option Value) (rh_ : Heap) (rL_ : List Loc) : Prop := (rv_ = none) ∧ (Fr n0 rL_) ∧ (Keep h0 rh_ [x]) ∧ (Exa Z rh_ x "java/lang/String") ∧ (Fld Z rh_ x "java/lang/String" "coder" "B" (.int (0 : Int32))) ∧ (Fld Z rh_ x "java/lang/String" "value" "[B" (.ref b))
set_option maxRecDepth 65536 in
set_option maxHeartbeats 40000000 in
theorem strBB_ (l : Launch) (Z : State) (a0 : Array Value) (hw : ∀ d ∈ tables_1, d.before a0 Z = true) (ws : List Jvm.Cond) (x : Addr) (b : Addr) (h0 : Heap) (n0 : Nat) (O0 : Old Z n0 h0) (P0 : Exa Z h0 x "java/lang/String") (P1 : Fld Z h0 x "java/lang/String" "value" "[B" .null) (P2 : Fld Z h0 x "java/lang/String" "coder" "B" (.int (0 : Int32))) (P3 : n0 ≤ x) :
    MetFree l (⟨"java/lang/String", "<init>", "([BB)V"⟩ : MethodName) (head1 (Jvm.Cond.code (⟨"java/lang/String", "<init>", "([BB)V"⟩ : MethodName) jdk_42_method_151_code 3 none :: ws) ({ frames := 1, cells := 0, slots := 0, locals := 12 } : Room)) (fun a_ U_ => a_ = #[(.ref x), (.ref b), (.int (0 : Int32))] ∧ Z.Warmed39 U_.vm ∧ U_.heap = h0) (fun _ _ _ _ _ => True) (fun _ U_ o_ U_' => ∃ v_ L_, o_ = .returned v_ ∧ Q_strBB_ Z x b h0 n0 v_ U_'.heap L_ ∧ FrameEnd U_ o_ U_' L_ ({ frames := 1, cells := 0, slots := 0, locals := 12 } : Room).cells ({ frames := 1, cells := 0, slots := 0, locals := 12 } : Room).slots) := by
  refine MetFree.of_bodySF (plainFor_of_name pn_47582652) hisR ?_
  intro p e s m args below meth c s₁ Bd hml0 hP0 hK
  obtain ⟨rfl, hZ, hh⟩ := hP0
  have hx := Bd.exec
  have hby := Bd.bytes
  have hml : c.maxLocals = 3 := hml0
  have hown : s.vm.findClass "java/lang/String" = some m.cls := findClass_of_methodNamed Bd.named
  have hnm := (name_of_methodNamed Bd.named Bd.method).1
  have X0 : Stand p l e ({ frames := 1, cells := 0, slots := 0, locals := 12 } : Room) s m #[(.ref x), (.ref b), (.int (0 : Int32))] below meth c s₁ [] 0 0 := Stand.of_body Bd
  have e0 : s₁.heap = h0 := by rw [← hh, Bd.state]; rfl
  have N0 := Fr.nil n0
  obtain ⟨P, hP, R0⟩ : ∃ P : State → Prop, (∀ t_, P t_ → Steps p.tables e below (s₁.setTop (entryFrame m #[(.ref x), (.ref b), (.int (0 : Int32))] 3)) t_) ∧ Go p e below P s₁ (mkF m 0 #[.val (.ref x), .val (.ref b), .val (.int (0 : Int32))] []) := ⟨_, fun _ h => h, fun t_ k_ => castTop (ef_strBB_ m x b (0 : Int32)) k_⟩
  have R16 : Go p e below P s₁ (mkF m 1 #[.val (.ref x), .val (.ref b), .val (.int (0 : Int32))] [(.ref x)]) := fun t_ k_ => R0 t_ (XS.aloadN X0.here hx rfl (hb hby d22_0) rfl rfl k_)
  obtain ⟨T17, X17, e17, st17⟩ := initO X0 hx hZ hown (hw _ (List.mem_of_getElem? (i := 85) rfl)) (hw _ (List.mem_of_getElem? (i := 34) rfl)) (hw _ (List.mem_of_getElem? (i := 35) rfl)) e0 (g := (mkF m 1 #[.val (.ref x), .val (.ref b), .val (.int (0 : Int32))] [(.ref x)])) rfl (by rw [hml]; rfl) rfl (hb hby d22_1) (by decide) (W := 0) (by show 2 * 0 + _ ≤ _; exact Nat.le_of_eq rfl) (by decide)
  have R18 : Go p e below P T17 (mkF m 4 #[.val (.ref x), .val (.ref b), .val (.int (0 : Int32))] []) := fun t_ k_ => R16 t_ (st17 t_ k_)
  have R19 : Go p e below P T17 (mkF m 5 #[.val (.ref x), .val (.ref b), .val (.int (0 : Int32))] [(.ref x)]) := fun t_ k_ => R18 t_ (XS.aloadN X17.here hx rfl (hb hby d22_4) rfl rfl k_)
  have R20 : Go p e below P T17 (mkF m 6 #[.val (.ref x), .val (.ref b), .val (.int (0 : Int32))] [(.ref b), (.ref x)]) := fun t_ k_ => R19 t_ (XS.aloadN X17.here hx rfl (hb hby d22_5) rfl rfl k_)
  obtain ⟨T21, h21, X21, e21, W21, st21⟩ := putF X17 hx hZ hown (host := "") (Or.inl (hw _ (List.mem_of_getElem? (i := 98) rfl))) Via.refl e17 P1 P0 (Or.inr ⟨(hw _ (List.mem_of_getElem? (i := 5) rfl)), rfl, hnm⟩) (hw _ (List.mem_of_getElem? (i := 3) rfl)) (ty := (.array .byte)) (by decide) rfl rfl (g := (mkF m 6 #[.val (.ref x), .val (.ref b), .val (.int (0 : Int32))] [(.ref b), (.ref x)])) rfl rfl (hb hby d22_6)
  have N21 := Fr.snoc X21 N0 P3
  have Fw21 := P1.same W21
  have O21 := O0.wr W21 P3
  have R22 : Go p e below P T21 (mkF m 9 #[.val (.ref x), .val (.ref b), .val (.int (0 : Int32))] []) := fun t_ k_ => R20 t_ (st21 t_ k_)
  have R23 : Go p e below P T21 (mkF m 10 #[.val (.ref x), .val (.ref b), .val (.int (0 : Int32))] [(.ref x)]) := fun t_ k_ => R22 t_ (XS.aloadN X21.here hx rfl (hb hby d22_9) rfl rfl k_)
  have R24 : Go p e below P T21 (mkF m 11 #[.val (.ref x), .val (.ref b), .val (.int (0 : Int32))] [(.int (0 : Int32)), (.ref x)]) := fun t_ k_ => R23 t_ (XS.iloadN X21.here hx rfl (hb hby d22_10) rfl k_)
  have f25 := (P0.wr W21)
  have f26 := (P2.other W21 (Or.inr (slot_ne (Or.inr (hw _ (List.mem_of_getElem? (i := 6) rfl))) (Or.inr (hw _ (List.mem_of_getElem? (i := 5) rfl))) (by decide) (t := .byte) (t' := (.array .byte)) (by decide) (by decide))))
  obtain ⟨T27, h27, X27, e27, W27, st27⟩ := putFN X21 hx hZ hown (hw _ (List.mem_of_getElem? (i := 97) rfl)) Via.refl e21 f26 f25 (Or.inr ⟨(hw _ (List.mem_of_getElem? (i := 6) rfl)), rfl, hnm⟩) (hw _ (List.mem_of_getElem? (i := 3) rfl)) (ty := .byte) (v' := (.int (0 : Int32))) (by decide) rfl rfl (g := (mkF m 11 #[.val (.ref x), .val (.ref b), .val (.int (0 : Int32))] [(.int (0 : Int32)), (.ref x)])) rfl rfl (hb hby d22_11)
  have N27 := Fr.snoc X27 N21 P3
  have Fw27 := f26.same W27
  have O27 := O21.wr W27 P3
  have R28 : Go p e below P T27 (mkF m 14 #[.val (.ref x), .val (.ref b), .val (.int (0 : Int32))] []) := fun t_ k_ => R24 t_ (st27 t_ k_)
  obtain ⟨fs, hr, hrun, hended, hW, hsame⟩ := X27.leave (v := none) (fun _ => rfl)
  have f29 := (f25.wr W27)
  have f30 := (Fw21.other W27 (Or.inr (slot_ne (Or.inr (hw _ (List.mem_of_getElem? (i := 5) rfl))) (Or.inr (hw _ (List.mem_of_getElem? (i := 6) rfl))) (by decide) (t := (.array .byte)) (t' := .byte) (by decide) (by decide))))
  exact ⟨_, _, hP _ (R28 _ (X27.returnOut hx Bd.returns (hb hby d22_14) hr)), hrun, hended, _, _, rfl, ⟨rfl, N27, (e27.symm ▸ (((Keep.refl h0 [x]).wr W21 (Or.inl (List.mem_of_getElem? (i := 0) rfl))).wr W27 (Or.inl (List.mem_of_getElem? (i := 0) rfl)))), (e27.symm ▸ f29), (e27.symm ▸ Fw27), (e27.symm ▸ f30)⟩, ⟨_, rfl⟩, hW, hsame.mono (by decide) (by decide)⟩
theorem ef_valueOfC_ (m : MethodId) (x0 : Int32) : entryFrame m #[(.int x0)] 1 = mkF m 0 #[.val (.int x0)] [] := by first | (simp [entryFrame, mkF, argsToLocals, Value.category]; done) | rfl
theorem d19_0 : decode jdk_42_method_139_code 0 = .ok (.getstatic 38, 3) := by decide +kernel
theorem d19_3 : decode jdk_42_method_139_code 3 = .ok (.ifCond .eq 23, 3) := by decide +kernel
theorem d19_6 : decode jdk_42_method_139_code 6 = .ok (.iload_n 0, 1) := by decide +kernel
theorem d19_7 : decode jdk_42_method_139_code 7 = .ok (.invokestatic 1015, 3) := by decide +kernel
theorem pd_52578335 : parseMethodDescriptor "(C)Z" = some ⟨[.char], some .boolean⟩ := by decide +kernel
theorem d19_10 : decode jdk_42_method_139_code 10 = .ok (.ifCond .eq 16, 3) := by decide +kernel
theorem d19_13 : decode jdk_42_method_139_code 13 = .ok (.new 10, 3) := by decide +kernel
theorem d19_16 : decode jdk_42_method_139_code 16 = .ok (.dup, 1) := by decide +kernel
theorem d19_17 : decode jdk_42_method_139_code 17 = .ok (.iload_n 0, 1) := by decide +kernel
theorem d19_18 : decode jdk_42_method_139_code 18 = .ok (.invokestatic 1018, 3) := by decide +kernel
theorem pd_87762082 : parseMethodDescriptor "(C)[B" = some ⟨[.char], some (.array .byte)⟩ := by decide +kernel
theorem d19_21 : decode jdk_42_method_139_code 21 = .ok (.iconst 0, 1) := by decide +kernel
theorem d19_22 : decode jdk_42_method_139_code 22 = .ok (.invokespecial 209, 3) := by decide +kernel
theorem pd_20600907 : parseMethodDescriptor "([BB)V" = some ⟨[(.array .byte), .byte], none⟩ := by decide +kernel
theorem d19_25 : decode jdk_42_method_139_code 25 = .ok (.areturn, 1) := by decide +kernel
def Q_valueOfC_ (Z : State) (ch : Int32) (zc : Int32) (h0 : Heap) (n0 : Nat) (rv_ : Option Value) (rh_ : Heap) (rL_ : List Loc) : Prop := ∃ x : Addr, ∃ t : Addr, ∃ kb : ClassId, (rv_ = some (.ref x)) ∧ (Fr n0 rL_) ∧ (Keep h0 rh_ []) ∧ (h0.size ≤ x) ∧ (h0.size ≤ t) ∧ (Exa Z rh_ x "java/lang/String") ∧ (Fld Z rh_ x "java/lang/String" "coder" "B" (.int (0 : Int32))) ∧ (Fld Z rh_ x "java/lang/String" "value" "[B" (.ref t)) ∧ (Arv Z rh_ t kb .byte (Int32.ofNat ([ch] : List Int32).length) ((([ch] : List Int32).map StrChars.lo8).map Value.int) (.int (0 : Int32)))
set_option maxRecDepth 65536 in
set_option maxHeartbeats 40000000 in
theorem valueOfC_ (l : Launch) (Z : State) (a0 : Array Value) (hw : ∀ d ∈ tables_1, d.before a0 Z = true) (ws : List Jvm.Cond) (ch : Int32) (zc : Int32) (h0 : Heap) (n0 : Nat) (O0 : Old Z n0 h0) (P0 : Sta Z Z.heap "java/lang/String" "COMPACT_STRINGS" "Z" (.int zc)) (P1 : ¬ zc = 0) (P2 : nar .char ch = ch ∧ ¬ ch < 0 ∧ ¬ (255 : Int32) < ch) :
    MetFree l (⟨"java/lang/String", "valueOf", "(C)Ljava/lang/String;"⟩ : MethodName) (head1 (Jvm.Cond.code (⟨"java/lang/String", "valueOf", "(C)Ljava/lang/String;"⟩ : MethodName) jdk_42_method_139_code 1 (some (.object "java/lang/String")) :: ws) ({ frames := 2, cells := 2, slots := 5, locals := 27 } : Room)) (fun a_ U_ => a_ = #[(.int ch)] ∧ Z.Warmed39 U_.vm ∧ U_.heap = h0) (fun _ _ _ _ _ => True) (fun _ U_ o_ U_' => ∃ v_ L_, o_ = .returned v_ ∧ Q_valueOfC_ Z ch zc h0 n0 v_ U_'.heap L_ ∧ FrameEnd U_ o_ U_' L_ ({ frames := 2, cells := 2, slots := 5, locals := 27 } : Room).cells ({ frames := 2, cells := 2, slots := 5, locals := 27 } : Room).slots) := by
  have hzc := P1
  have hch := P2
  refine MetFree.of_bodySF (plainFor_of_name pn_47582652) hisR ?_
  intro p e s m args below meth c s₁ Bd hml0 hP0 hK
  obtain ⟨rfl, hZ, hh⟩ := hP0
  have hx := Bd.exec
  have hby := Bd.bytes
  have hml : c.maxLocals = 1 := hml0
  have hown : s.vm.findClass "java/lang/String" = some m.cls := findClass_of_methodNamed Bd.named
  have hnm := (name_of_methodNamed Bd.named Bd.method).1
  have X0 : Stand p l e ({ frames := 2, cells := 2, slots := 5, locals := 27 } : Room) s m #[(.int ch)] below meth c s₁ [] 0 0 := Stand.of_body Bd
  have e0 : s₁.heap = h0 := by rw [← hh, Bd.state]; rfl
  have N0 := Fr.nil n0
  obtain ⟨P, hP, R0⟩ : ∃ P : State → Prop, (∀ t_, P t_ → Steps p.tables e below (s₁.setTop (entryFrame m #[(.int ch)] 1)) t_) ∧ Go p e below P s₁ (mkF m 0 #[.val (.int ch)] []) := ⟨_, fun _ h => h, fun t_ k_ => castTop (ef_valueOfC_ m ch) k_⟩
  obtain ⟨T31, X31, e31, st31⟩ := getS2 X0 hx hZ hown (host := "") (Or.inl (hw _ (List.mem_of_getElem? (i := 86) rfl))) Via.refl e0 (P0.ext O0.2) (g := (mkF m 0 #[.val (.int ch)] [])) rfl (hb hby d19_0)
  have R32 : Go p e below P T31 (mkF m 3 #[.val (.int ch)] [(.int zc)]) := fun t_ k_ => R0 t_ (st31 t_ k_)
  have R33 : Go p e below P T31 (mkF m 6 #[.val (.int ch)] []) := fun t_ k_ => R32 t_ (XS.ifNo X31.here hx rfl (hb hby d19_3) rfl ((if0 _ _).trans (feq hzc).1) k_)
  have R34 : Go p e below P T31 (mkF m 7 #[.val (.int ch)] [(.int ch)]) := fun t_ k_ => R33 t_ (XS.iloadN X31.here hx rfl (hb hby d19_6) rfl k_)
  obtain ⟨rv35, _, ⟨T35, L35, k35, n35⟩, -, X35, ⟨Lc35, hQ35, l35, y35, z35⟩, st35⟩ := Jvm.LawKit.callS X31 hx (y := (⟨"java/lang/StringLatin1", "canEncode", "(C)Z"⟩ : MethodName)) hown (mvT hZ (hw _ (List.mem_of_getElem? (i := 111) rfl))) (mvT hZ (hw _ (List.mem_of_getElem? (i := 112) rfl))) (mvT hZ (hw _ (List.mem_of_getElem? (i := 113) rfl))) (mvT hZ (hw _ (List.mem_of_getElem? (i := 114) rfl))) (by decide) (backOf (W := 0) (canEnc_ l Z a0 hw [] ch h0 n0 O0 hch.2.2) hZ (hw _ (List.mem_of_getElem? (i := 114) rfl)) (hw _ (List.mem_of_getElem? (i := 113) rfl)) (by decide) (by decide)) (g := (mkF m 7 #[.val (.int ch)] [(.int ch)])) rfl (by rw [hml]; rfl) (argsL := [(.int ch)]) (rest := []) (lenOf pd_52578335 rfl) rfl (by show 2 * 0 + _ ≤ _; exact Nat.le_of_eq rfl) (hb hby d19_7) (fun _ _ => ⟨rfl, e31, (by decide : 0 + 0 ≤ _), (by decide : 0 + 0 ≤ _)⟩)
  dsimp only [Pt.U, Pt.locs, Pt.cells, Pt.slots] at X35 l35 y35 z35 st35 hQ35
  subst l35 y35 z35
  obtain ⟨rfl, N35q, K35⟩ := hQ35
  have N35 := Fr.app N0 N35q
  have R36 : Go p e below P T35 (mkF m 10 #[.val (.int ch)] [(.int (1 : Int32))]) := fun t_ k_ => R34 t_ (st35 t_ k_)
  have R37 : Go p e below P T35 (mkF m 13 #[.val (.int ch)] []) := fun t_ k_ => R36 t_ (XS.ifNo X35.here hx rfl (hb hby d19_10) rfl ((if0 _ _).trans (feq (by decide : ¬ ((1 : Int32) = (0 : Int32)))).1) k_)
  obtain ⟨T38, h38, X38, e38, E38, A38, D38, -, st38⟩ := newO X35 hx hZ hown (hw _ (List.mem_of_getElem? (i := 115) rfl)) (hw _ (List.mem_of_getElem? (i := 3) rfl)) (hw _ (List.mem_of_getElem? (i := 2) rfl)) K35 (g := (mkF m 13 #[.val (.int ch)] [])) rfl (hb hby d19_13) (by decide) (by decide)
  obtain ⟨b38, g38⟩ : ∃ z, z = h0.size := ⟨_, rfl⟩
  rw [← g38] at A38 D38 st38
  have O38 := O0.ext E38
  have F38_5 : Fld Z h38 b38 "java/lang/String" "value" "[B" .null := D38 (Or.inr (hw _ (List.mem_of_getElem? (i := 5) rfl))) (ty := (.array .byte)) (by decide)
  have F38_6 : Fld Z h38 b38 "java/lang/String" "coder" "B" (.int (0 : Int32)) := D38 (Or.inr (hw _ (List.mem_of_getElem? (i := 6) rfl))) (ty := .byte) (by decide)
  have R39 : Go p e below P T38 (mkF m 16 #[.val (.int ch)] [(.ref b38)]) := fun t_ k_ => R37 t_ (st38 t_ k_)
  have R40 : Go p e below P T38 (mkF m 17 #[.val (.int ch)] [(.ref b38), (.ref b38)]) := fun t_ k_ => R39 t_ (XS.dup X38.here hx rfl (hb hby d19_16) rfl rfl k_)
  have R41 : Go p e below P T38 (mkF m 18 #[.val (.int ch)] [(.int ch), (.ref b38), (.ref b38)]) := fun t_ k_ => R40 t_ (XS.iloadN X38.here hx rfl (hb hby d19_17) rfl k_)
  obtain ⟨rv42, _, ⟨T42, L42, k42, n42⟩, -, X42, ⟨Lc42, hQ42, l42, y42, z42⟩, st42⟩ := Jvm.LawKit.callS X38 hx (y := (⟨"java/lang/StringLatin1", "toBytes", "(C)[B"⟩ : MethodName)) hown (mvT hZ (hw _ (List.mem_of_getElem? (i := 116) rfl))) (mvT hZ (hw _ (List.mem_of_getElem? (i := 117) rfl))) (mvT hZ (hw _ (List.mem_of_getElem? (i := 113) rfl))) (mvT hZ (hw _ (List.mem_of_getElem? (i := 118) rfl))) (by decide) (backOf (W := 2) (toB_ l Z a0 hw [] ch h38 n0 O38) hZ (hw _ (List.mem_of_getElem? (i := 118) rfl)) (hw _ (List.mem_of_getElem? (i := 113) rfl)) (by decide) (by decide)) (g := (mkF m 18 #[.val (.int ch)] [(.int ch), (.ref b38), (.ref b38)])) rfl (by rw [hml]; rfl) (argsL := [(.int ch)]) (rest := [(.ref b38), (.ref b38)]) (lenOf pd_87762082 rfl) rfl (by show 2 * 0 + _ ≤ _; exact Nat.le_of_eq rfl) (hb hby d19_18) (fun _ _ => ⟨rfl, e38, (by decide : 1 + 1 ≤ _), (by decide : 4 + 1 ≤ _)⟩)
  dsimp only [Pt.U, Pt.locs, Pt.cells, Pt.slots] at X42 l42 y42 z42 st42 hQ42
  subst l42 y42 z42
  obtain ⟨b_42, kb_42, rfl, N42q, K42, p42_0, p42_1⟩ := hQ42
  have N42 := Fr.app N35 N42q
  have O42 := O38.keep K42 all0
  have R43 : Go p e below P T42 (mkF m 21 #[.val (.int ch)] [(.ref b_42), (.ref b38), (.ref b38)]) := fun t_ k_ => R41 t_ (st42 t_ k_)
  have R44 : Go p e below P T42 (mkF m 22 #[.val (.int ch)] [(.int (0 : Int32)), (.ref b_42), (.ref b38), (.ref b38)]) := fun t_ k_ => R43 t_ (XS.iconst X42.here hx rfl (hb hby d19_21) k_)
  have f45 := (A38.keep K42)
  have f46 := (F38_5.keep K42 nin0)
  have f47 := (F38_6.keep K42 nin0)
  obtain ⟨rv48, _, ⟨T48, L48, k48, n48⟩, -, X48, ⟨Lc48, hQ48, l48, y48, z48⟩, st48⟩ := X42.specialBack hx (y := (⟨"java/lang/String", "<init>", "([BB)V"⟩ : MethodName)) rfl hown (mvT hZ (hw _ (List.mem_of_getElem? (i := 119) rfl))) (mvT hZ (hw _ (List.mem_of_getElem? (i := 120) rfl))) (mvT hZ (hw _ (List.mem_of_getElem? (i := 121) rfl))) (by decide) (backOf (W := 1) (strBB_ l Z a0 hw [] b38 b_42 T42.heap n0 O42 f45 f46 f47 (Nat.le_trans (oldLe O0) (Nat.le_of_eq g38.symm))) hZ (hw _ (List.mem_of_getElem? (i := 121) rfl)) (hw _ (List.mem_of_getElem? (i := 2) rfl)) (by decide) (by decide)) (g := (mkF m 22 #[.val (.int ch)] [(.int (0 : Int32)), (.ref b_42), (.ref b38), (.ref b38)])) rfl (by rw [hml]; rfl) (Steps.refl _) (a := b38) (argsL := [(.ref b_42), (.int (0 : Int32))]) (rest := [(.ref b38)]) (lenOf pd_20600907 rfl) rfl (by show 2 * 0 + _ ≤ _; exact Nat.le_of_eq rfl) (hb hby d19_22) (fun _ _ => ⟨rfl, (rfl : T42.heap = T42.heap), (by decide : 2 + 0 ≤ _), (by decide : 5 + 0 ≤ _)⟩)
  dsimp only [Pt.U, Pt.locs, Pt.cells, Pt.slots] at X48 l48 y48 z48 st48 hQ48
  subst l48 y48 z48
  obtain ⟨rfl, N48q, K48, p48_0, p48_1, p48_2⟩ := hQ48
  have N48 := Fr.app N42 N48q
  have O48 := O42.keep K48 (allS (Nat.le_trans (oldLe O0) (Nat.le_of_eq g38.symm)) all0)
  have R49 : Go p e below P T48 (mkF m 25 #[.val (.int ch)] [(.ref b38)]) := fun t_ k_ => R44 t_ (st48.trans k_)
  obtain ⟨fs, hr, hrun, hended, hW, hsame⟩ := X48.leave (v := some (.ref b38)) (fun h => by rw [Bd.returns] at h; cases h)
  have f50 := (p42_1.keep K48 (ninS (Ne.symm (Nat.ne_of_lt (Nat.lt_of_lt_of_le A38.lt p42_0))) nin0))
  exact ⟨_, _, hP _ (R49 _ (retOut X48 hx Bd.returns rfl (Or.inr (Or.inr (Or.inr (Or.inr ⟨rfl, rfl, rfl⟩)))) (hb hby d19_25) hr)), hrun, hended, _, _, rfl, ⟨b38, b_42, kb_42, rfl, N48, ((((Keep.refl h0 []).ext E38).trans K42 all0).trans K48 (allS (Or.inr (Nat.le_of_eq g38.symm)) all0)), (Nat.le_of_eq g38.symm), (Nat.le_trans ((Keep.refl h0 []).ext E38).1 p42_0), p48_0, p48_1, p48_2, f50⟩, ⟨_, rfl⟩, hW, hsame.mono (by decide) (by decide)⟩
theorem pn_50637713 : plainName "java/util/Objects" = true := by first | (simp [plainName, overriddenIn]; done) | decide +kernel
theorem ef_req_ (m : MethodId) (x0 : Addr) : entryFrame m #[(.ref x0)] 1 = mkF m 0 #[.val (.ref x0)] [] := by first | (simp [entryFrame, mkF, argsToLocals, Value.category]; done) | rfl
theorem d3_0 : decode jdk_31_method_10_code 0 = .ok (.aload_n 0, 1) := by decide +kernel
theorem d3_1 : decode jdk_31_method_10_code 1 = .ok (.ifnonnull 11, 3) := by decide +kernel
theorem d3_12 : decode jdk_31_method_10_code 12 = .ok (.aload_n 0, 1) := by decide +kernel
theorem d3_13 : decode jdk_31_method_10_code 13 = .ok (.areturn, 1) := by decide +kernel
def Q_req_ (Z : State) (o : Addr) (h0 : Heap) (n0 : Nat) (rv_ : Option Value) (rh_ : Heap) (rL_ : List Loc) : Prop := (rv_ = some (.ref o)) ∧ (Fr n0 rL_) ∧ (rh_ = h0)
set_option maxRecDepth 65536 in
set_option maxHeartbeats 40000000 in
theorem req_ (l : Launch) (Z : State) (a0 : Array Value) (hw : ∀ d ∈ tables_1, d.before a0 Z = true) (ws : List Jvm.Cond) (o : Addr) (h0 : Heap) (n0 : Nat) (O0 : Old Z n0 h0) :
    MetFree l (⟨"java/util/Objects", "requireNonNull", "(Ljava/lang/Object;)Ljava/lang/Object;"⟩ : MethodName) (head1 (Jvm.Cond.code (⟨"java/util/Objects", "requireNonNull", "(Ljava/lang/Object;)Ljava/lang/Object;"⟩ : MethodName) jdk_31_method_10_code 1 (some (.object "java/lang/Object")) :: ws) ({ frames := 0, cells := 0, slots := 0, locals := 0 } : Room)) (fun a_ U_ => a_ = #[(.ref o)] ∧ Z.Warmed39 U_.vm ∧ U_.heap = h0) (fun _ _ _ _ _ => True) (fun _ U_ o_ U_' => ∃ v_ L_, o_ = .returned v_ ∧ Q_req_ Z o h0 n0 v_ U_'.heap L_ ∧ FrameEnd U_ o_ U_' L_ ({ frames := 0, cells := 0, slots := 0, locals := 0 } : Room).cells ({ frames := 0, cells := 0, slots := 0, locals := 0 } : Room).slots) := by
  refine MetFree.of_bodySF (plainFor_of_name pn_50637713) hisR ?_
  intro p e s m args below meth c s₁ Bd hml0 hP0 hK
  obtain ⟨rfl, hZ, hh⟩ := hP0
  have hx := Bd.exec
  have hby := Bd.bytes
  have hml : c.maxLocals = 1 := hml0
  have hown : s.vm.findClass "java/util/Objects" = some m.cls := findClass_of_methodNamed Bd.named
  have hnm := (name_of_methodNamed Bd.named Bd.method).1
  have X0 : Stand p l e ({ frames := 0, cells := 0, slots := 0, locals := 0 } : Room) s m #[(.ref o)] below meth c s₁ [] 0 0 := Stand.of_body Bd
  have e0 : s₁.heap = h0 := by rw [← hh, Bd.state]; rfl
  have N0 := Fr.nil n0
  obtain ⟨P, hP, R0⟩ : ∃ P : State → Prop, (∀ t_, P t_ → Steps p.tables e below (s₁.setTop (entryFrame m #[(.ref o)] 1)) t_) ∧ Go p e below P s₁ (mkF m 0 #[.val (.ref o)] []) := ⟨_, fun _ h => h, fun t_ k_ => castTop (ef_req_ m o) k_⟩
  have R51 : Go p e below P s₁ (mkF m 1 #[.val (.ref o)] [(.ref o)]) := fun t_ k_ => R0 t_ (XS.aloadN X0.here hx rfl (hb hby d3_0) rfl rfl k_)
  have R52 : Go p e below P s₁ (mkF m 12 #[.val (.ref o)] []) := fun t_ k_ => R51 t_ (XS.ifnonnullYes X0.here hx rfl (pc0 := 1) (pc' := 12) rfl (hb hby d3_1) rfl (by decide) (by decide) k_)
  have R53 : Go p e below P s₁ (mkF m 13 #[.val (.ref o)] [(.ref o)]) := fun t_ k_ => R52 t_ (XS.aloadN X0.here hx rfl (hb hby d3_12) rfl rfl k_)
  obtain ⟨fs, hr, hrun, hended, hW, hsame⟩ := X0.leave (v := some (.ref o)) (fun h => by rw [Bd.returns] at h; cases h)
  exact ⟨_, _, hP _ (R53 _ (retOut X0 hx Bd.returns rfl (Or.inr (Or.inr (Or.inr (Or.inr ⟨rfl, rfl, rfl⟩)))) (hb hby d3_13) hr)), hrun, hended, _, _, rfl, ⟨rfl, N0, e0⟩, ⟨_, rfl⟩, hW, hsame.mono (by decide) (by decide)⟩
theorem pn_54609431 : plainName "java/util/Optional" = true := by first | (simp [plainName, overriddenIn]; done) | decide +kernel
theorem ef_oinit_ (m : MethodId) (x0 : Addr) (x1 : Addr) : entryFrame m #[(.ref x0), (.ref x1)] 2 = mkF m 0 #[.val (.ref x0), .val (.ref x1)] [] := by first | (simp [entryFrame, mkF, argsToLocals, Value.category]; done) | rfl
theorem d4_0 : decode jdk_32_method_2_code 0 = .ok (.aload_n 0, 1) := by decide +kernel
theorem d4_1 : decode jdk_32_method_2_code 1 = .ok (.invokespecial 7, 3) := by decide +kernel
theorem d4_4 : decode jdk_32_method_2_code 4 = .ok (.aload_n 0, 1) := by decide +kernel
theorem d4_5 : decode jdk_32_method_2_code 5 = .ok (.aload_n 1, 1) := by decide +kernel
theorem d4_6 : decode jdk_32_method_2_code 6 = .ok (.putfield 13, 3) := by decide +kernel
theorem d4_9 : decode jdk_32_method_2_code 9 = .ok (.return_, 1) := by decide +kernel
def Q_oinit_ (Z : State) (a : Addr) (u : Addr) (h0 : Heap) (n0 : Nat) (rv_ : Option Value) (rh_ : Heap) (rL_ : List Loc) : Prop := (rv_ = none) ∧ (Fr n0 rL_) ∧ (Keep h0 rh_ [a]) ∧ (Exa Z rh_ a "java/util/Optional") ∧ (Fld Z rh_ a "java/util/Optional" "value" "Ljava/lang/Object;" (.ref u))
set_option maxRecDepth 65536 in
set_option maxHeartbeats 40000000 in
theorem oinit_ (l : Launch) (Z : State) (a0 : Array Value) (hw : ∀ d ∈ tables_1, d.before a0 Z = true) (ws : List Jvm.Cond) (a : Addr) (u : Addr) (h0 : Heap) (n0 : Nat) (O0 : Old Z n0 h0) (P0 : Exa Z h0 a "java/util/Optional") (P1 : Fld Z h0 a "java/util/Optional" "value" "Ljava/lang/Object;" .null) (P2 : n0 ≤ a) :
    MetFree l (⟨"java/util/Optional", "<init>", "(Ljava/lang/Object;)V"⟩ : MethodName) (head1 (Jvm.Cond.code (⟨"java/util/Optional", "<init>", "(Ljava/lang/Object;)V"⟩ : MethodName) jdk_32_method_2_code 2 none :: ws) ({ frames := 1, cells := 0, slots := 0, locals := 12 } : Room)) (fun a_ U_ => a_ = #[(.ref a), (.ref u)] ∧ Z.Warmed39 U_.vm ∧ U_.heap = h0) (fun _ _ _ _ _ => True) (fun _ U_ o_ U_' => ∃ v_ L_, o_ = .returned v_ ∧ Q_oinit_ Z a u h0 n0 v_ U_'.heap L_ ∧ FrameEnd U_ o_ U_' L_ ({ frames := 1, cells := 0, slots := 0, locals := 12 } : Room).cells ({ frames := 1, cells := 0, slots := 0, locals := 12 } : Room).slots) := by
  refine MetFree.of_bodySF (plainFor_of_name pn_54609431) hisR ?_
  intro p e s m args below meth c s₁ Bd hml0 hP0 hK
  obtain ⟨rfl, hZ, hh⟩ := hP0
  have hx := Bd.exec
  have hby := Bd.bytes
  have hml : c.maxLocals = 2 := hml0
  have hown : s.vm.findClass "java/util/Optional" = some m.cls := findClass_of_methodNamed Bd.named
  have hnm := (name_of_methodNamed Bd.named Bd.method).1
  have X0 : Stand p l e ({ frames := 1, cells := 0, slots := 0, locals := 12 } : Room) s m #[(.ref a), (.ref u)] below meth c s₁ [] 0 0 := Stand.of_body Bd
  have e0 : s₁.heap = h0 := by rw [← hh, Bd.state]; rfl
  have N0 := Fr.nil n0
  obtain ⟨P, hP, R0⟩ : ∃ P : State → Prop, (∀ t_, P t_ → Steps p.tables e below (s₁.setTop (entryFrame m #[(.ref a), (.ref u)] 2)) t_) ∧ Go p e below P s₁ (mkF m 0 #[.val (.ref a), .val (.ref u)] []) := ⟨_, fun _ h => h, fun t_ k_ => castTop (ef_oinit_ m a u) k_⟩
  have R54 : Go p e below P s₁ (mkF m 1 #[.val (.ref a), .val (.ref u)] [(.ref a)]) := fun t_ k_ => R0 t_ (XS.aloadN X0.here hx rfl (hb hby d4_0) rfl rfl k_)
  obtain ⟨T55, X55, e55, st55⟩ := initO X0 hx hZ hown (hw _ (List.mem_of_getElem? (i := 33) rfl)) (hw _ (List.mem_of_getElem? (i := 34) rfl)) (hw _ (List.mem_of_getElem? (i := 35) rfl)) e0 (g := (mkF m 1 #[.val (.ref a), .val (.ref u)] [(.ref a)])) rfl (by rw [hml]; rfl) rfl (hb hby d4_1) (by decide) (W := 0) (by show 2 * 0 + _ ≤ _; exact Nat.le_of_eq rfl) (by decide)
  have R56 : Go p e below P T55 (mkF m 4 #[.val (.ref a), .val (.ref u)] []) := fun t_ k_ => R54 t_ (st55 t_ k_)
  have R57 : Go p e below P T55 (mkF m 5 #[.val (.ref a), .val (.ref u)] [(.ref a)]) := fun t_ k_ => R56 t_ (XS.aloadN X55.here hx rfl (hb hby d4_4) rfl rfl k_)
  have R58 : Go p e below P T55 (mkF m 6 #[.val (.ref a), .val (.ref u)] [(.ref u), (.ref a)]) := fun t_ k_ => R57 t_ (XS.aloadN X55.here hx rfl (hb hby d4_5) rfl rfl k_)
  obtain ⟨T59, h59, X59, e59, W59, st59⟩ := putF X55 hx hZ hown (host := "") (Or.inl (hw _ (List.mem_of_getElem? (i := 36) rfl))) Via.refl e55 P1 P0 (Or.inr ⟨(hw _ (List.mem_of_getElem? (i := 37) rfl)), rfl, hnm⟩) (hw _ (List.mem_of_getElem? (i := 24) rfl)) (ty := (.object "java/lang/Object")) (by decide) rfl rfl (g := (mkF m 6 #[.val (.ref a), .val (.ref u)] [(.ref u), (.ref a)])) rfl rfl (hb hby d4_6)
  have N59 := Fr.snoc X59 N0 P2
  have Fw59 := P1.same W59
  have O59 := O0.wr W59 P2
  have R60 : Go p e below P T59 (mkF m 9 #[.val (.ref a), .val (.ref u)] []) := fun t_ k_ => R58 t_ (st59 t_ k_)
  obtain ⟨fs, hr, hrun, hended, hW, hsame⟩ := X59.leave (v := none) (fun _ => rfl)
  have f61 := (P0.wr W59)
  exact ⟨_, _, hP _ (R60 _ (X59.returnOut hx Bd.returns (hb hby d4_9) hr)), hrun, hended, _, _, rfl, ⟨rfl, N59, (e59.symm ▸ ((Keep.refl h0 [a]).wr W59 (Or.inl (List.mem_of_getElem? (i := 0) rfl)))), (e59.symm ▸ f61), (e59.symm ▸ Fw59)⟩, ⟨_, rfl⟩, hW, hsame.mono (by decide) (by decide)⟩
theorem ef_oof_ (m : MethodId) (x0 : Addr) : entryFrame m #[(.ref x0)] 1 = mkF m 0 #[.val (.ref x0)] [] := by first | (simp [entryFrame, mkF, argsToLocals, Value.category]; done) | rfl
theorem d2_0 : decode jdk_32_method_3_code 0 = .ok (.new 2, 3) := by decide +kernel
theorem d2_3 : decode jdk_32_method_3_code 3 = .ok (.dup, 1) := by decide +kernel
theorem d2_4 : decode jdk_32_method_3_code 4 = .ok (.aload_n 0, 1) := by decide +kernel
theorem d2_5 : decode jdk_32_method_3_code 5 = .ok (.invokestatic 17, 3) := by decide +kernel
theorem pd_72566344 : parseMethodDescriptor "(Ljava/lang/Object;)Ljava/lang/Object;" = some ⟨[(.object "java/lang/Object")], some (.object "java/lang/Object")⟩ := by decide +kernel
theorem d2_8 : decode jdk_32_method_3_code 8 = .ok (.invokespecial 23, 3) := by decide +kernel
theorem pd_90185810 : parseMethodDescriptor "(Ljava/lang/Object;)V" = some ⟨[(.object "java/lang/Object")], none⟩ := by decide +kernel
theorem d2_11 : decode jdk_32_method_3_code 11 = .ok (.areturn, 1) := by decide +kernel
def Q_oof_ (Z : State) (u : Addr) (h0 : Heap) (n0 : Nat) (rv_ : Option Value) (rh_ : Heap) (rL_ : List Loc) : Prop := ∃ r : Addr, (rv_ = some (.ref r)) ∧ (Fr n0 rL_) ∧ (Keep h0 rh_ []) ∧ (h0.size ≤ r) ∧ (Exa Z rh_ r "java/util/Optional") ∧ (Fld Z rh_ r "java/util/Optional" "value" "Ljava/lang/Object;" (.ref u))
set_option maxRecDepth 65536 in
set_option maxHeartbeats 40000000 in
theorem oof_ (l : Launch) (Z : State) (a0 : Array Value) (hw : ∀ d ∈ tables_1, d.before a0 Z = true) (ws : List Jvm.Cond) (u : Addr) (h0 : Heap) (n0 : Nat) (O0 : Old Z n0 h0) :
    MetFree l (⟨"java/util/Optional", "of", "(Ljava/lang/Object;)Ljava/util/Optional;"⟩ : MethodName) (head1 (Jvm.Cond.code (⟨"java/util/Optional", "of", "(Ljava/lang/Object;)Ljava/util/Optional;"⟩ : MethodName) jdk_32_method_3_code 1 (some (.object "java/util/Optional")) :: ws) ({ frames := 2, cells := 1, slots := 1, locals := 26 } : Room)) (fun a_ U_ => a_ = #[(.ref u)] ∧ Z.Warmed39 U_.vm ∧ U_.heap = h0) (fun _ _ _ _ _ => True) (fun _ U_ o_ U_' => ∃ v_ L_, o_ = .returned v_ ∧ Q_oof_ Z u h0 n0 v_ U_'.heap L_ ∧ FrameEnd U_ o_ U_' L_ ({ frames := 2, cells := 1, slots := 1, locals := 26 } : Room).cells ({ frames := 2, cells := 1, slots := 1, locals := 26 } : Room).slots) := by
  refine MetFree.of_bodySF (plainFor_of_name pn_54609431) hisR ?_
  intro p e s m args below meth c s₁ Bd hml0 hP0 hK
  obtain ⟨rfl, hZ, hh⟩ := hP0
  have hx := Bd.exec
  have hby := Bd.bytes
  have hml : c.maxLocals = 1 := hml0
  have hown : s.vm.findClass "java/util/Optional" = some m.cls := findClass_of_methodNamed Bd.named
  have hnm := (name_of_methodNamed Bd.named Bd.method).1
  have X0 : Stand p l e ({ frames := 2, cells := 1, slots := 1, locals := 26 } : Room) s m #[(.ref u)] below meth c s₁ [] 0 0 := Stand.of_body Bd
  have e0 : s₁.heap = h0 := by rw [← hh, Bd.state]; rfl
  have N0 := Fr.nil n0
  obtain ⟨P, hP, R0⟩ : ∃ P : State → Prop, (∀ t_, P t_ → Steps p.tables e below (s₁.setTop (entryFrame m #[(.ref u)] 1)) t_) ∧ Go p e below P s₁ (mkF m 0 #[.val (.ref u)] []) := ⟨_, fun _ h => h, fun t_ k_ => castTop (ef_oof_ m u) k_⟩
  obtain ⟨T62, h62, X62, e62, E62, A62, D62, -, st62⟩ := newO X0 hx hZ hown (hw _ (List.mem_of_getElem? (i := 23) rfl)) (hw _ (List.mem_of_getElem? (i := 24) rfl)) (hw _ (List.mem_of_getElem? (i := 21) rfl)) e0 (g := (mkF m 0 #[.val (.ref u)] [])) rfl (hb hby d2_0) (by decide) (by decide)
  obtain ⟨b62, g62⟩ : ∃ z, z = h0.size := ⟨_, rfl⟩
  rw [← g62] at A62 D62 st62
  have O62 := O0.ext E62
  have F62_37 : Fld Z h62 b62 "java/util/Optional" "value" "Ljava/lang/Object;" .null := D62 (Or.inr (hw _ (List.mem_of_getElem? (i := 37) rfl))) (ty := (.object "java/lang/Object")) (by decide)
  have R63 : Go p e below P T62 (mkF m 3 #[.val (.ref u)] [(.ref b62)]) := fun t_ k_ => R0 t_ (st62 t_ k_)
  have R64 : Go p e below P T62 (mkF m 4 #[.val (.ref u)] [(.ref b62), (.ref b62)]) := fun t_ k_ => R63 t_ (XS.dup X62.here hx rfl (hb hby d2_3) rfl rfl k_)
  have R65 : Go p e below P T62 (mkF m 5 #[.val (.ref u)] [(.ref u), (.ref b62), (.ref b62)]) := fun t_ k_ => R64 t_ (XS.aloadN X62.here hx rfl (hb hby d2_4) rfl rfl k_)
  obtain ⟨rv66, _, ⟨T66, L66, k66, n66⟩, -, X66, ⟨Lc66, hQ66, l66, y66, z66⟩, st66⟩ := Jvm.LawKit.callS X62 hx (y := (⟨"java/util/Objects", "requireNonNull", "(Ljava/lang/Object;)Ljava/lang/Object;"⟩ : MethodName)) hown (mvT hZ (hw _ (List.mem_of_getElem? (i := 25) rfl))) (mvT hZ (hw _ (List.mem_of_getElem? (i := 26) rfl))) (mvT hZ (hw _ (List.mem_of_getElem? (i := 27) rfl))) (mvT hZ (hw _ (List.mem_of_getElem? (i := 28) rfl))) (by decide) (backOf (W := 2) (req_ l Z a0 hw [] u h62 n0 O62) hZ (hw _ (List.mem_of_getElem? (i := 28) rfl)) (hw _ (List.mem_of_getElem? (i := 27) rfl)) (by decide) (by decide)) (g := (mkF m 5 #[.val (.ref u)] [(.ref u), (.ref b62), (.ref b62)])) rfl (by rw [hml]; rfl) (argsL := [(.ref u)]) (rest := [(.ref b62), (.ref b62)]) (lenOf pd_72566344 rfl) rfl (by show 2 * 0 + _ ≤ _; exact Nat.le_of_eq rfl) (hb hby d2_5) (fun _ _ => ⟨rfl, e62, (by decide : 1 + 0 ≤ _), (by decide : 1 + 0 ≤ _)⟩)
  dsimp only [Pt.U, Pt.locs, Pt.cells, Pt.slots] at X66 l66 y66 z66 st66 hQ66
  subst l66 y66 z66
  obtain ⟨rfl, N66q, K66⟩ := hQ66
  have N66 := Fr.app N0 N66q
  have R67 : Go p e below P T66 (mkF m 8 #[.val (.ref u)] [(.ref u), (.ref b62), (.ref b62)]) := fun t_ k_ => R65 t_ (st66 t_ k_)
  obtain ⟨rv68, _, ⟨T68, L68, k68, n68⟩, -, X68, ⟨Lc68, hQ68, l68, y68, z68⟩, st68⟩ := X66.specialBack hx (y := (⟨"java/util/Optional", "<init>", "(Ljava/lang/Object;)V"⟩ : MethodName)) rfl hown (mvT hZ (hw _ (List.mem_of_getElem? (i := 29) rfl))) (mvT hZ (hw _ (List.mem_of_getElem? (i := 30) rfl))) (mvT hZ (hw _ (List.mem_of_getElem? (i := 32) rfl))) (by decide) (backOf (W := 1) (oinit_ l Z a0 hw [] b62 u h62 n0 O62 A62 F62_37 (Nat.le_trans (oldLe O0) (Nat.le_of_eq g62.symm))) hZ (hw _ (List.mem_of_getElem? (i := 32) rfl)) (hw _ (List.mem_of_getElem? (i := 21) rfl)) (by decide) (by decide)) (g := (mkF m 8 #[.val (.ref u)] [(.ref u), (.ref b62), (.ref b62)])) rfl (by rw [hml]; rfl) (Steps.refl _) (a := b62) (argsL := [(.ref u)]) (rest := [(.ref b62)]) (lenOf pd_90185810 rfl) rfl (by show 2 * 0 + _ ≤ _; exact Nat.le_of_eq rfl) (hb hby d2_8) (fun _ _ => ⟨rfl, K66, (by decide : 1 + 0 ≤ _), (by decide : 1 + 0 ≤ _)⟩)
  dsimp only [Pt.U, Pt.locs, Pt.cells, Pt.slots] at X68 l68 y68 z68 st68 hQ68
  subst l68 y68 z68
  obtain ⟨rfl, N68q, K68, p68_0, p68_1⟩ := hQ68
  have N68 := Fr.app N66 N68q
  have O68 := O62.keep K68 (allS (Nat.le_trans (oldLe O0) (Nat.le_of_eq g62.symm)) all0)
  have R69 : Go p e below P T68 (mkF m 11 #[.val (.ref u)] [(.ref b62)]) := fun t_ k_ => R67 t_ (st68.trans k_)
  obtain ⟨fs, hr, hrun, hended, hW, hsame⟩ := X68.leave (v := some (.ref b62)) (fun h => by rw [Bd.returns] at h; cases h)
  exact ⟨_, _, hP _ (R69 _ (retOut X68 hx Bd.returns rfl (Or.inr (Or.inr (Or.inr (Or.inr ⟨rfl, rfl, rfl⟩)))) (hb hby d2_11) hr)), hrun, hended, _, _, rfl, ⟨b62, rfl, N68, (((Keep.refl h0 []).ext E62).trans K68 (allS (Or.inr (Nat.le_of_eq g62.symm)) all0)), (Nat.le_of_eq g62.symm), p68_0, p68_1⟩, ⟨_, rfl⟩, hW, hsame.mono (by decide) (by decide)⟩
theorem ef_oempty_ (m : MethodId)  : entryFrame m #[] 1 = mkF m 0 #[.unset] [] := by first | (simp [entryFrame, mkF, argsToLocals, Value.category]; done) | rfl
theorem d18_0 : decode jdk_32_method_1_code 0 = .ok (.getstatic 1, 3) := by decide +kernel
theorem d18_3 : decode jdk_32_method_1_code 3 = .ok (.astore_n 0, 1) := by decide +kernel
theorem d18_4 : decode jdk_32_method_1_code 4 = .ok (.aload_n 0, 1) := by decide +kernel
theorem d18_5 : decode jdk_32_method_1_code 5 = .ok (.areturn, 1) := by decide +kernel
def Q_oempty_ (Z : State) (wE : Addr) (h0 : Heap) (n0 : Nat) (rv_ : Option Value) (rh_ : Heap) (rL_ : List Loc) : Prop := (rv_ = some (.ref wE)) ∧ (Fr n0 rL_) ∧ (rh_ = h0)
set_option maxRecDepth 65536 in
set_option maxHeartbeats 40000000 in
theorem oempty_ (l : Launch) (Z : State) (a0 : Array Value) (hw : ∀ d ∈ tables_1, d.before a0 Z = true) (ws : List Jvm.Cond) (wE : Addr) (h0 : Heap) (n0 : Nat) (O0 : Old Z n0 h0) (P0 : Sta Z Z.heap "java/util/Optional" "EMPTY" "Ljava/util/Optional;" (.ref wE)) :
    MetFree l (⟨"java/util/Optional", "empty", "()Ljava/util/Optional;"⟩ : MethodName) (head1 (Jvm.Cond.code (⟨"java/util/Optional", "empty", "()Ljava/util/Optional;"⟩ : MethodName) jdk_32_method_1_code 1 (some (.object "java/util/Optional")) :: ws) ({ frames := 0, cells := 0, slots := 0, locals := 0 } : Room)) (fun a_ U_ => a_ = #[] ∧ Z.Warmed39 U_.vm ∧ U_.heap = h0) (fun _ _ _ _ _ => True) (fun _ U_ o_ U_' => ∃ v_ L_, o_ = .returned v_ ∧ Q_oempty_ Z wE h0 n0 v_ U_'.heap L_ ∧ FrameEnd U_ o_ U_' L_ ({ frames := 0, cells := 0, slots := 0, locals := 0 } : Room).cells ({ frames := 0, cells := 0, slots := 0, locals := 0 } : Room).slots) := by
  refine MetFree.of_bodySF (plainFor_of_name pn_54609431) hisR ?_
  intro p e s m args below meth c s₁ Bd hml0 hP0 hK
  obtain ⟨rfl, hZ, hh⟩ := hP0
  have hx := Bd.exec
  have hby := Bd.bytes
  have hml : c.maxLocals = 1 := hml0
  have hown : s.vm.findClass "java/util/Optional" = some m.cls := findClass_of_methodNamed Bd.named
  have hnm := (name_of_methodNamed Bd.named Bd.method).1
  have X0 : Stand p l e ({ frames := 0, cells := 0, slots := 0, locals := 0 } : Room) s m #[] below meth c s₁ [] 0 0 := Stand.of_body Bd
  have e0 : s₁.heap = h0 := by rw [← hh, Bd.state]; rfl
  have N0 := Fr.nil n0
  obtain ⟨P, hP, R0⟩ : ∃ P : State → Prop, (∀ t_, P t_ → Steps p.tables e below (s₁.setTop (entryFrame m #[] 1)) t_) ∧ Go p e below P s₁ (mkF m 0 #[.unset] []) := ⟨_, fun _ h => h, fun t_ k_ => castTop (ef_oempty_ m) k_⟩
  obtain ⟨T70, X70, e70, st70⟩ := getS2 X0 hx hZ hown (host := "") (Or.inl (hw _ (List.mem_of_getElem? (i := 107) rfl))) Via.refl e0 (P0.ext O0.2) (g := (mkF m 0 #[.unset] [])) rfl (hb hby d18_0)
  have R71 : Go p e below P T70 (mkF m 3 #[.unset] [(.ref wE)]) := fun t_ k_ => R0 t_ (st70 t_ k_)
  have R72 : Go p e below P T70 (mkF m 4 #[.val (.ref wE)] []) := fun t_ k_ => R71 t_ (XS.astoreN X70.here hx rfl (hb hby d18_3) rfl rfl (l' := #[.val (.ref wE)]) rfl k_)
  have R73 : Go p e below P T70 (mkF m 5 #[.val (.ref wE)] [(.ref wE)]) := fun t_ k_ => R72 t_ (XS.aloadN X70.here hx rfl (hb hby d18_4) rfl rfl k_)
  obtain ⟨fs, hr, hrun, hended, hW, hsame⟩ := X70.leave (v := some (.ref wE)) (fun h => by rw [Bd.returns] at h; cases h)
  exact ⟨_, _, hP _ (R73 _ (retOut X70 hx Bd.returns rfl (Or.inr (Or.inr (Or.inr (Or.inr ⟨rfl, rfl, rfl⟩)))) (hb hby d18_5) hr)), hrun, hended, _, _, rfl, ⟨rfl, N0, e70⟩, ⟨_, rfl⟩, hW, hsame.mono (by decide) (by decide)⟩
theorem pn_16976308 : plainName "java/lang/Record" = true := by first | (simp [plainName, overriddenIn]; done) | decide +kernel
theorem ef_recInit_ (m : MethodId) (x0 : Addr) : entryFrame m #[(.ref x0)] 1 = mkF m 0 #[.val (.ref x0)] [] := by first | (simp [entryFrame, mkF, argsToLocals, Value.category]; done) | rfl
theorem d7_0 : decode jdk_30_method_1_code 0 = .ok (.aload_n 0, 1) := by decide +kernel
theorem d7_1 : decode jdk_30_method_1_code 1 = .ok (.invokespecial 1, 3) := by decide +kernel
theorem d7_4 : decode jdk_30_method_1_code 4 = .ok (.return_, 1) := by decide +kernel
def Q_recInit_ (Z : State) (a : Addr) (h0 : Heap) (n0 : Nat) (rv_ : Option Value) (rh_ : Heap) (rL_ : List Loc) : Prop := (rv_ = none) ∧ (Fr n0 rL_) ∧ (rh_ = h0)
set_option maxRecDepth 65536 in
set_option maxHeartbeats 40000000 in
theorem recInit_ (l : Launch) (Z : State) (a0 : Array Value) (hw : ∀ d ∈ tables_1, d.before a0 Z = true) (ws : List Jvm.Cond) (a : Addr) (h0 : Heap) (n0 : Nat) (O0 : Old Z n0 h0) :
    MetFree l (⟨"java/lang/Record", "<init>", "()V"⟩ : MethodName) (head1 (Jvm.Cond.code (⟨"java/lang/Record", "<init>", "()V"⟩ : MethodName) jdk_30_method_1_code 1 none :: ws) ({ frames := 1, cells := 0, slots := 0, locals := 12 } : Room)) (fun a_ U_ => a_ = #[(.ref a)] ∧ Z.Warmed39 U_.vm ∧ U_.heap = h0) (fun _ _ _ _ _ => True) (fun _ U_ o_ U_' => ∃ v_ L_, o_ = .returned v_ ∧ Q_recInit_ Z a h0 n0 v_ U_'.heap L_ ∧ FrameEnd U_ o_ U_' L_ ({ frames := 1, cells := 0, slots := 0, locals := 12 } : Room).cells ({ frames := 1, cells := 0, slots := 0, locals := 12 } : Room).slots) := by
  refine MetFree.of_bodySF (plainFor_of_name pn_16976308) hisR ?_
  intro p e s m args below meth c s₁ Bd hml0 hP0 hK
  obtain ⟨rfl, hZ, hh⟩ := hP0
  have hx := Bd.exec
  have hby := Bd.bytes
  have hml : c.maxLocals = 1 := hml0
  have hown : s.vm.findClass "java/lang/Record" = some m.cls := findClass_of_methodNamed Bd.named
  have hnm := (name_of_methodNamed Bd.named Bd.method).1
  have X0 : Stand p l e ({ frames := 1, cells := 0, slots := 0, locals := 12 } : Room) s m #[(.ref a)] below meth c s₁ [] 0 0 := Stand.of_body Bd
  have e0 : s₁.heap = h0 := by rw [← hh, Bd.state]; rfl
  have N0 := Fr.nil n0
  obtain ⟨P, hP, R0⟩ : ∃ P : State → Prop, (∀ t_, P t_ → Steps p.tables e below (s₁.setTop (entryFrame m #[(.ref a)] 1)) t_) ∧ Go p e below P s₁ (mkF m 0 #[.val (.ref a)] []) := ⟨_, fun _ h => h, fun t_ k_ => castTop (ef_recInit_ m a) k_⟩
  have R74 : Go p e below P s₁ (mkF m 1 #[.val (.ref a)] [(.ref a)]) := fun t_ k_ => R0 t_ (XS.aloadN X0.here hx rfl (hb hby d7_0) rfl rfl k_)
  obtain ⟨T75, X75, e75, st75⟩ := initO X0 hx hZ hown (hw _ (List.mem_of_getElem? (i := 46) rfl)) (hw _ (List.mem_of_getElem? (i := 34) rfl)) (hw _ (List.mem_of_getElem? (i := 35) rfl)) e0 (g := (mkF m 1 #[.val (.ref a)] [(.ref a)])) rfl (by rw [hml]; rfl) rfl (hb hby d7_1) (by decide) (W := 0) (by show 2 * 0 + _ ≤ _; exact Nat.le_of_eq rfl) (by decide)
  have R76 : Go p e below P T75 (mkF m 4 #[.val (.ref a)] []) := fun t_ k_ => R74 t_ (st75 t_ k_)
  obtain ⟨fs, hr, hrun, hended, hW, hsame⟩ := X75.leave (v := none) (fun _ => rfl)
  exact ⟨_, _, hP _ (R76 _ (X75.returnOut hx Bd.returns (hb hby d7_4) hr)), hrun, hended, _, _, rfl, ⟨rfl, N0, e75⟩, ⟨_, rfl⟩, hW, hsame.mono (by decide) (by decide)⟩
theorem pn_17415009 : plainName "com/example/lexicarta/lexicarta/glossary/Span" = true := by first | (simp [plainName, overriddenIn]; done) | decide +kernel
theorem ef_sinit_ (m : MethodId) (x0 : Addr) (x1 : Addr) (x2 : Addr) (x3 : Int32) : entryFrame m #[(.ref x0), (.ref x1), (.ref x2), (.int x3)] 4 = mkF m 0 #[.val (.ref x0), .val (.ref x1), .val (.ref x2), .val (.int x3)] [] := by first | (simp [entryFrame, mkF, argsToLocals, Value.category]; done) | rfl
theorem d6_0 : decode prog_27_method_1_code 0 = .ok (.aload_n 0, 1) := by decide +kernel
theorem d6_1 : decode prog_27_method_1_code 1 = .ok (.invokespecial 1, 3) := by decide +kernel
theorem pd_16428534 : parseMethodDescriptor "()V" = some ⟨[], none⟩ := by decide +kernel
theorem d6_4 : decode prog_27_method_1_code 4 = .ok (.aload_n 0, 1) := by decide +kernel
theorem d6_5 : decode prog_27_method_1_code 5 = .ok (.aload_n 1, 1) := by decide +kernel
theorem d6_6 : decode prog_27_method_1_code 6 = .ok (.putfield 7, 3) := by decide +kernel
theorem d6_9 : decode prog_27_method_1_code 9 = .ok (.aload_n 0, 1) := by decide +kernel
theorem d6_10 : decode prog_27_method_1_code 10 = .ok (.aload_n 2, 1) := by decide +kernel
theorem d6_11 : decode prog_27_method_1_code 11 = .ok (.putfield 13, 3) := by decide +kernel
theorem d6_14 : decode prog_27_method_1_code 14 = .ok (.aload_n 0, 1) := by decide +kernel
theorem d6_15 : decode prog_27_method_1_code 15 = .ok (.iload_n 3, 1) := by decide +kernel
theorem d6_16 : decode prog_27_method_1_code 16 = .ok (.putfield 17, 3) := by decide +kernel
theorem d6_19 : decode prog_27_method_1_code 19 = .ok (.return_, 1) := by decide +kernel
def Q_sinit_ (Z : State) (a : Addr) (u : Addr) (y : Addr) (j : Int32) (h0 : Heap) (n0 : Nat) (rv_ : Option Value) (rh_ : Heap) (rL_ : List Loc) : Prop := (rv_ = none) ∧ (Fr n0 rL_) ∧ (Keep h0 rh_ [a]) ∧ (Exa Z rh_ a "com/example/lexicarta/lexicarta/glossary/Span") ∧ (Fld Z rh_ a "com/example/lexicarta/lexicarta/glossary/Span" "text" "Ljava/lang/String;" (.ref u)) ∧ (Fld Z rh_ a "com/example/lexicarta/lexicarta/glossary/Span" "style" "Ljava/util/Optional;" (.ref y)) ∧ (Fld Z rh_ a "com/example/lexicarta/lexicarta/glossary/Span" "joined" "Z" (.int j))
set_option maxRecDepth 65536 in
set_option maxHeartbeats 40000000 in
theorem sinit_ (l : Launch) (Z : State) (a0 : Array Value) (hw : ∀ d ∈ tables_1, d.before a0 Z = true) (ws : List Jvm.Cond) (a : Addr) (u : Addr) (y : Addr) (j : Int32) (h0 : Heap) (n0 : Nat) (O0 : Old Z n0 h0) (P0 : Exa Z h0 a "com/example/lexicarta/lexicarta/glossary/Span") (P1 : Fld Z h0 a "com/example/lexicarta/lexicarta/glossary/Span" "text" "Ljava/lang/String;" .null) (P2 : Fld Z h0 a "com/example/lexicarta/lexicarta/glossary/Span" "style" "Ljava/util/Optional;" .null) (P3 : Fld Z h0 a "com/example/lexicarta/lexicarta/glossary/Span" "joined" "Z" (.int (0 : Int32))) (P4 : n0 ≤ a) (P5 : nar .boolean j = j) :
    MetFree l (⟨"com/example/lexicarta/lexicarta/glossary/Span", "<init>", "(Ljava/lang/String;Ljava/util/Optional;Z)V"⟩ : MethodName) (head1 (Jvm.Cond.code (⟨"com/example/lexicarta/lexicarta/glossary/Span", "<init>", "(Ljava/lang/String;Ljava/util/Optional;Z)V"⟩ : MethodName) prog_27_method_1_code 4 none :: ws) ({ frames := 2, cells := 0, slots := 0, locals := 24 } : Room)) (fun a_ U_ => a_ = #[(.ref a), (.ref u), (.ref y), (.int j)] ∧ Z.Warmed39 U_.vm ∧ U_.heap = h0) (fun _ _ _ _ _ => True) (fun _ U_ o_ U_' => ∃ v_ L_, o_ = .returned v_ ∧ Q_sinit_ Z a u y j h0 n0 v_ U_'.heap L_ ∧ FrameEnd U_ o_ U_' L_ ({ frames := 2, cells := 0, slots := 0, locals := 24 } : Room).cells ({ frames := 2, cells := 0, slots := 0, locals := 24 } : Room).slots) := by
  have hj := P5
  refine MetFree.of_bodySF (plainFor_of_name pn_17415009) hisR ?_
  intro p e s m args below meth c s₁ Bd hml0 hP0 hK
  obtain ⟨rfl, hZ, hh⟩ := hP0
  have hx := Bd.exec
  have hby := Bd.bytes
  have hml : c.maxLocals = 4 := hml0
  have hown : s.vm.findClass "com/example/lexicarta/lexicarta/glossary/Span" = some m.cls := findClass_of_methodNamed Bd.named
  have hnm := (name_of_methodNamed Bd.named Bd.method).1
  have X0 : Stand p l e ({ frames := 2, cells := 0, slots := 0, locals := 24 } : Room) s m #[(.ref a), (.ref u), (.ref y), (.int j)] below meth c s₁ [] 0 0 := Stand.of_body Bd
  have e0 : s₁.heap = h0 := by rw [← hh, Bd.state]; rfl
  have N0 := Fr.nil n0
  obtain ⟨P, hP, R0⟩ : ∃ P : State → Prop, (∀ t_, P t_ → Steps p.tables e below (s₁.setTop (entryFrame m #[(.ref a), (.ref u), (.ref y), (.int j)] 4)) t_) ∧ Go p e below P s₁ (mkF m 0 #[.val (.ref a), .val (.ref u), .val (.ref y), .val (.int j)] []) := ⟨_, fun _ h => h, fun t_ k_ => castTop (ef_sinit_ m a u y j) k_⟩
  have R77 : Go p e below P s₁ (mkF m 1 #[.val (.ref a), .val (.ref u), .val (.ref y), .val (.int j)] [(.ref a)]) := fun t_ k_ => R0 t_ (XS.aloadN X0.here hx rfl (hb hby d6_0) rfl rfl k_)
  obtain ⟨rv78, _, ⟨T78, L78, k78, n78⟩, -, X78, ⟨Lc78, hQ78, l78, y78, z78⟩, st78⟩ := X0.specialBack hx (y := (⟨"java/lang/Record", "<init>", "()V"⟩ : MethodName)) rfl hown (mvT hZ (hw _ (List.mem_of_getElem? (i := 41) rfl))) (mvT hZ (hw _ (List.mem_of_getElem? (i := 42) rfl))) (mvT hZ (hw _ (List.mem_of_getElem? (i := 45) rfl))) (by decide) (backOf (W := 0) (recInit_ l Z a0 hw [] a h0 n0 O0) hZ (hw _ (List.mem_of_getElem? (i := 45) rfl)) (hw _ (List.mem_of_getElem? (i := 44) rfl)) (by decide) (by decide)) (g := (mkF m 1 #[.val (.ref a), .val (.ref u), .val (.ref y), .val (.int j)] [(.ref a)])) rfl (by rw [hml]; rfl) (Steps.refl _) (a := a) (argsL := []) (rest := []) (lenOf pd_16428534 rfl) rfl (by show 2 * 0 + _ ≤ _; exact Nat.le_of_eq rfl) (hb hby d6_1) (fun _ _ => ⟨rfl, e0, (by decide : 0 + 0 ≤ _), (by decide : 0 + 0 ≤ _)⟩)
  dsimp only [Pt.U, Pt.locs, Pt.cells, Pt.slots] at X78 l78 y78 z78 st78 hQ78
  subst l78 y78 z78
  obtain ⟨rfl, N78q, K78⟩ := hQ78
  have N78 := Fr.app N0 N78q
  have R79 : Go p e below P T78 (mkF m 4 #[.val (.ref a), .val (.ref u), .val (.ref y), .val (.int j)] []) := fun t_ k_ => R77 t_ (st78.trans k_)
  have R80 : Go p e below P T78 (mkF m 5 #[.val (.ref a), .val (.ref u), .val (.ref y), .val (.int j)] [(.ref a)]) := fun t_ k_ => R79 t_ (XS.aloadN X78.here hx rfl (hb hby d6_4) rfl rfl k_)
  have R81 : Go p e below P T78 (mkF m 6 #[.val (.ref a), .val (.ref u), .val (.ref y), .val (.int j)] [(.ref u), (.ref a)]) := fun t_ k_ => R80 t_ (XS.aloadN X78.here hx rfl (hb hby d6_5) rfl rfl k_)
  obtain ⟨T82, h82, X82, e82, W82, st82⟩ := putF X78 hx hZ hown (host := "") (Or.inl (hw _ (List.mem_of_getElem? (i := 47) rfl))) Via.refl K78 P1 P0 (Or.inr ⟨(hw _ (List.mem_of_getElem? (i := 48) rfl)), rfl, hnm⟩) (hw _ (List.mem_of_getElem? (i := 18) rfl)) (ty := (.object "java/lang/String")) (by decide) rfl rfl (g := (mkF m 6 #[.val (.ref a), .val (.ref u), .val (.ref y), .val (.int j)] [(.ref u), (.ref a)])) rfl rfl (hb hby d6_6)
  have N82 := Fr.snoc X82 N78 P4
  have Fw82 := P1.same W82
  have O82 := O0.wr W82 P4
  have R83 : Go p e below P T82 (mkF m 9 #[.val (.ref a), .val (.ref u), .val (.ref y), .val (.int j)] []) := fun t_ k_ => R81 t_ (st82 t_ k_)
  have R84 : Go p e below P T82 (mkF m 10 #[.val (.ref a), .val (.ref u), .val (.ref y), .val (.int j)] [(.ref a)]) := fun t_ k_ => R83 t_ (XS.aloadN X82.here hx rfl (hb hby d6_9) rfl rfl k_)
  have R85 : Go p e below P T82 (mkF m 11 #[.val (.ref a), .val (.ref u), .val (.ref y), .val (.int j)] [(.ref y), (.ref a)]) := fun t_ k_ => R84 t_ (XS.aloadN X82.here hx rfl (hb hby d6_10) rfl rfl k_)
  have f86 := (P0.wr W82)
  have f87 := (P2.other W82 (Or.inr (slot_ne (Or.inr (hw _ (List.mem_of_getElem? (i := 50) rfl))) (Or.inr (hw _ (List.mem_of_getElem? (i := 48) rfl))) (by decide) (t := (.object "java/util/Optional")) (t' := (.object "java/lang/String")) (by decide) (by decide))))
  obtain ⟨T88, h88, X88, e88, W88, st88⟩ := putF X82 hx hZ hown (host := "") (Or.inl (hw _ (List.mem_of_getElem? (i := 49) rfl))) Via.refl e82 f87 f86 (Or.inr ⟨(hw _ (List.mem_of_getElem? (i := 50) rfl)), rfl, hnm⟩) (hw _ (List.mem_of_getElem? (i := 18) rfl)) (ty := (.object "java/util/Optional")) (by decide) rfl rfl (g := (mkF m 11 #[.val (.ref a), .val (.ref u), .val (.ref y), .val (.int j)] [(.ref y), (.ref a)])) rfl rfl (hb hby d6_11)
  have N88 := Fr.snoc X88 N82 P4
  have Fw88 := f87.same W88
  have O88 := O82.wr W88 P4
  have R89 : Go p e below P T88 (mkF m 14 #[.val (.ref a), .val (.ref u), .val (.ref y), .val (.int j)] []) := fun t_ k_ => R85 t_ (st88 t_ k_)
  have R90 : Go p e below P T88 (mkF m 15 #[.val (.ref a), .val (.ref u), .val (.ref y), .val (.int j)] [(.ref a)]) := fun t_ k_ => R89 t_ (XS.aloadN X88.here hx rfl (hb hby d6_14) rfl rfl k_)
  have R91 : Go p e below P T88 (mkF m 16 #[.val (.ref a), .val (.ref u), .val (.ref y), .val (.int j)] [(.int j), (.ref a)]) := fun t_ k_ => R90 t_ (XS.iloadN X88.here hx rfl (hb hby d6_15) rfl k_)
  have f92 := (f86.wr W88)
  have f93 := ((P3.other W82 (Or.inr (slot_ne (Or.inr (hw _ (List.mem_of_getElem? (i := 52) rfl))) (Or.inr (hw _ (List.mem_of_getElem? (i := 48) rfl))) (by decide) (t := .boolean) (t' := (.object "java/lang/String")) (by decide) (by decide)))).other W88 (Or.inr (slot_ne (Or.inr (hw _ (List.mem_of_getElem? (i := 52) rfl))) (Or.inr (hw _ (List.mem_of_getElem? (i := 50) rfl))) (by decide) (t := .boolean) (t' := (.object "java/util/Optional")) (by decide) (by decide))))
  obtain ⟨T94, h94, X94, e94, W94, st94⟩ := putFN X88 hx hZ hown (hw _ (List.mem_of_getElem? (i := 51) rfl)) Via.refl e88 f93 f92 (Or.inr ⟨(hw _ (List.mem_of_getElem? (i := 52) rfl)), rfl, hnm⟩) (hw _ (List.mem_of_getElem? (i := 18) rfl)) (ty := .boolean) (v' := (.int j)) (by decide) (show narrow .boolean (.int j) = .int j from congrArg Value.int hj) (by have q := fits_nar_bool j; rw [hj] at q; exact q) (g := (mkF m 16 #[.val (.ref a), .val (.ref u), .val (.ref y), .val (.int j)] [(.int j), (.ref a)])) rfl rfl (hb hby d6_16)
  have N94 := Fr.snoc X94 N88 P4
  have Fw94 := f93.same W94
  have O94 := O88.wr W94 P4
  have R95 : Go p e below P T94 (mkF m 19 #[.val (.ref a), .val (.ref u), .val (.ref y), .val (.int j)] []) := fun t_ k_ => R91 t_ (st94 t_ k_)
  obtain ⟨fs, hr, hrun, hended, hW, hsame⟩ := X94.leave (v := none) (fun _ => rfl)
  have f96 := (f92.wr W94)
  have f97 := ((Fw82.other W88 (Or.inr (slot_ne (Or.inr (hw _ (List.mem_of_getElem? (i := 48) rfl))) (Or.inr (hw _ (List.mem_of_getElem? (i := 50) rfl))) (by decide) (t := (.object "java/lang/String")) (t' := (.object "java/util/Optional")) (by decide) (by decide)))).other W94 (Or.inr (slot_ne (Or.inr (hw _ (List.mem_of_getElem? (i := 48) rfl))) (Or.inr (hw _ (List.mem_of_getElem? (i := 52) rfl))) (by decide) (t := (.object "java/lang/String")) (t' := .boolean) (by decide) (by decide))))
  have f98 := (Fw88.other W94 (Or.inr (slot_ne (Or.inr (hw _ (List.mem_of_getElem? (i := 50) rfl))) (Or.inr (hw _ (List.mem_of_getElem? (i := 52) rfl))) (by decide) (t := (.object "java/util/Optional")) (t' := .boolean) (by decide) (by decide))))
  exact ⟨_, _, hP _ (R95 _ (X94.returnOut hx Bd.returns (hb hby d6_19) hr)), hrun, hended, _, _, rfl, ⟨rfl, N94, (e94.symm ▸ ((((Keep.refl h0 [a]).wr W82 (Or.inl (List.mem_of_getElem? (i := 0) rfl))).wr W88 (Or.inl (List.mem_of_getElem? (i := 0) rfl))).wr W94 (Or.inl (List.mem_of_getElem? (i := 0) rfl)))), (e94.symm ▸ f96), (e94.symm ▸ f97), (e94.symm ▸ f98), (e94.symm ▸ Fw94)⟩, ⟨_, rfl⟩, hW, hsame.mono (by decide) (by decide)⟩
theorem ef_sof_ (m : MethodId) (x0 : Addr) (x1 : Addr) : entryFrame m #[(.ref x0), (.ref x1)] 2 = mkF m 0 #[.val (.ref x0), .val (.ref x1)] [] := by first | (simp [entryFrame, mkF, argsToLocals, Value.category]; done) | rfl
theorem d1_0 : decode prog_27_method_2_code 0 = .ok (.new 8, 3) := by decide +kernel
theorem d1_3 : decode prog_27_method_2_code 3 = .ok (.dup, 1) := by decide +kernel
theorem d1_4 : decode prog_27_method_2_code 4 = .ok (.aload_n 0, 1) := by decide +kernel
theorem d1_5 : decode prog_27_method_2_code 5 = .ok (.aload_n 1, 1) := by decide +kernel
theorem d1_6 : decode prog_27_method_2_code 6 = .ok (.invokestatic 21, 3) := by decide +kernel
theorem pd_61619995 : parseMethodDescriptor "(Ljava/lang/Object;)Ljava/util/Optional;" = some ⟨[(.object "java/lang/Object")], some (.object "java/util/Optional")⟩ := by decide +kernel
theorem d1_9 : decode prog_27_method_2_code 9 = .ok (.iconst 0, 1) := by decide +kernel
theorem d1_10 : decode prog_27_method_2_code 10 = .ok (.invokespecial 27, 3) := by decide +kernel
theorem pd_53444281 : parseMethodDescriptor "(Ljava/lang/String;Ljava/util/Optional;Z)V" = some ⟨[(.object "java/lang/String"), (.object "java/util/Optional"), .boolean], none⟩ := by decide +kernel
theorem d1_13 : decode prog_27_method_2_code 13 = .ok (.areturn, 1) := by decide +kernel
def Q_sof_ (Z : State) (u : Addr) (q : Addr) (h0 : Heap) (n0 : Nat) (rv_ : Option Value) (rh_ : Heap) (rL_ : List Loc) : Prop := ∃ r : Addr, ∃ y : Addr, (rv_ = some (.ref r)) ∧ (Fr n0 rL_) ∧ (Keep h0 rh_ []) ∧ (h0.size ≤ r) ∧ (Exa Z rh_ r "com/example/lexicarta/lexicarta/glossary/Span") ∧ (Fld Z rh_ r "com/example/lexicarta/lexicarta/glossary/Span" "text" "Ljava/lang/String;" (.ref u)) ∧ (Fld Z rh_ r "com/example/lexicarta/lexicarta/glossary/Span" "style" "Ljava/util/Optional;" (.ref y)) ∧ (Fld Z rh_ r "com/example/lexicarta/lexicarta/glossary/Span" "joined" "Z" (.int (0 : Int32)))
set_option maxRecDepth 65536 in
set_option maxHeartbeats 40000000 in
theorem sof_ (l : Launch) (Z : State) (a0 : Array Value) (hw : ∀ d ∈ tables_1, d.before a0 Z = true) (ws : List Jvm.Cond) (u : Addr) (q : Addr) (h0 : Heap) (n0 : Nat) (O0 : Old Z n0 h0) :
    MetFree l (⟨"com/example/lexicarta/lexicarta/glossary/Span", "of", "(Ljava/lang/String;Lcom/example/lexicarta/lexicarta/glossary/TextStyle;)Lcom/example/lexicarta/lexicarta/glossary/Span;"⟩ : MethodName) (head1 (Jvm.Cond.code (⟨"com/example/lexicarta/lexicarta/glossary/Span", "of", "(Ljava/lang/String;Lcom/example/lexicarta/lexicarta/glossary/TextStyle;)Lcom/example/lexicarta/lexicarta/glossary/Span;"⟩ : MethodName) prog_27_method_2_code 2 (some (.object "com/example/lexicarta/lexicarta/glossary/Span")) :: ws) ({ frames := 3, cells := 2, slots := 4, locals := 41 } : Room)) (fun a_ U_ => a_ = #[(.ref u), (.ref q)] ∧ Z.Warmed39 U_.vm ∧ U_.heap = h0) (fun _ _ _ _ _ => True) (fun _ U_ o_ U_' => ∃ v_ L_, o_ = .returned v_ ∧ Q_sof_ Z u q h0 n0 v_ U_'.heap L_ ∧ FrameEnd U_ o_ U_' L_ ({ frames := 3, cells := 2, slots := 4, locals := 41 } : Room).cells ({ frames := 3, cells := 2, slots := 4, locals := 41 } : Room).slots) := by
  refine MetFree.of_bodySF (plainFor_of_name pn_17415009) hisR ?_
  intro p e s m args below meth c s₁ Bd hml0 hP0 hK
  obtain ⟨rfl, hZ, hh⟩ := hP0
  have hx := Bd.exec
  have hby := Bd.bytes
  have hml : c.maxLocals = 2 := hml0
  have hown : s.vm.findClass "com/example/lexicarta/lexicarta/glossary/Span" = some m.cls := findClass_of_methodNamed Bd.named
  have hnm := (name_of_methodNamed Bd.named Bd.method).1
  have X0 : Stand p l e ({ frames := 3, cells := 2, slots := 4, locals := 41 } : Room) s m #[(.ref u), (.ref q)] below meth c s₁ [] 0 0 := Stand.of_body Bd
  have e0 : s₁.heap = h0 := by rw [← hh, Bd.state]; rfl
  have N0 := Fr.nil n0
  obtain ⟨P, hP, R0⟩ : ∃ P : State → Prop, (∀ t_, P t_ → Steps p.tables e below (s₁.setTop (entryFrame m #[(.ref u), (.ref q)] 2)) t_) ∧ Go p e below P s₁ (mkF m 0 #[.val (.ref u), .val (.ref q)] []) := ⟨_, fun _ h => h, fun t_ k_ => castTop (ef_sof_ m u q) k_⟩
  obtain ⟨T99, h99, X99, e99, E99, A99, D99, -, st99⟩ := newO X0 hx hZ hown (hw _ (List.mem_of_getElem? (i := 17) rfl)) (hw _ (List.mem_of_getElem? (i := 18) rfl)) (hw _ (List.mem_of_getElem? (i := 15) rfl)) e0 (g := (mkF m 0 #[.val (.ref u), .val (.ref q)] [])) rfl (hb hby d1_0) (by decide) (by decide)
  obtain ⟨b99, g99⟩ : ∃ z, z = h0.size := ⟨_, rfl⟩
  rw [← g99] at A99 D99 st99
  have O99 := O0.ext E99
  have F99_48 : Fld Z h99 b99 "com/example/lexicarta/lexicarta/glossary/Span" "text" "Ljava/lang/String;" .null := D99 (Or.inr (hw _ (List.mem_of_getElem? (i := 48) rfl))) (ty := (.object "java/lang/String")) (by decide)
  have F99_50 : Fld Z h99 b99 "com/example/lexicarta/lexicarta/glossary/Span" "style" "Ljava/util/Optional;" .null := D99 (Or.inr (hw _ (List.mem_of_getElem? (i := 50) rfl))) (ty := (.object "java/util/Optional")) (by decide)
  have F99_52 : Fld Z h99 b99 "com/example/lexicarta/lexicarta/glossary/Span" "joined" "Z" (.int (0 : Int32)) := D99 (Or.inr (hw _ (List.mem_of_getElem? (i := 52) rfl))) (ty := .boolean) (by decide)
  have R100 : Go p e below P T99 (mkF m 3 #[.val (.ref u), .val (.ref q)] [(.ref b99)]) := fun t_ k_ => R0 t_ (st99 t_ k_)
  have R101 : Go p e below P T99 (mkF m 4 #[.val (.ref u), .val (.ref q)] [(.ref b99), (.ref b99)]) := fun t_ k_ => R100 t_ (XS.dup X99.here hx rfl (hb hby d1_3) rfl rfl k_)
  have R102 : Go p e below P T99 (mkF m 5 #[.val (.ref u), .val (.ref q)] [(.ref u), (.ref b99), (.ref b99)]) := fun t_ k_ => R101 t_ (XS.aloadN X99.here hx rfl (hb hby d1_4) rfl rfl k_)
  have R103 : Go p e below P T99 (mkF m 6 #[.val (.ref u), .val (.ref q)] [(.ref q), (.ref u), (.ref b99), (.ref b99)]) := fun t_ k_ => R102 t_ (XS.aloadN X99.here hx rfl (hb hby d1_5) rfl rfl k_)
  obtain ⟨rv104, _, ⟨T104, L104, k104, n104⟩, -, X104, ⟨Lc104, hQ104, l104, y104, z104⟩, st104⟩ := Jvm.LawKit.callS X99 hx (y := (⟨"java/util/Optional", "of", "(Ljava/lang/Object;)Ljava/util/Optional;"⟩ : MethodName)) hown (mvT hZ (hw _ (List.mem_of_getElem? (i := 19) rfl))) (mvT hZ (hw _ (List.mem_of_getElem? (i := 20) rfl))) (mvT hZ (hw _ (List.mem_of_getElem? (i := 21) rfl))) (mvT hZ (hw _ (List.mem_of_getElem? (i := 22) rfl))) (by decide) (backOf (W := 3) (oof_ l Z a0 hw [] q h99 n0 O99) hZ (hw _ (List.mem_of_getElem? (i := 22) rfl)) (hw _ (List.mem_of_getElem? (i := 21) rfl)) (by decide) (by decide)) (g := (mkF m 6 #[.val (.ref u), .val (.ref q)] [(.ref q), (.ref u), (.ref b99), (.ref b99)])) rfl (by rw [hml]; rfl) (argsL := [(.ref q)]) (rest := [(.ref u), (.ref b99), (.ref b99)]) (lenOf pd_61619995 rfl) rfl (by show 2 * 0 + _ ≤ _; exact Nat.le_of_eq rfl) (hb hby d1_6) (fun _ _ => ⟨rfl, e99, (by decide : 1 + 1 ≤ _), (by decide : 3 + 1 ≤ _)⟩)
  dsimp only [Pt.U, Pt.locs, Pt.cells, Pt.slots] at X104 l104 y104 z104 st104 hQ104
  subst l104 y104 z104
  obtain ⟨r_104, rfl, N104q, K104, p104_0, p104_1, p104_2⟩ := hQ104
  have N104 := Fr.app N0 N104q
  have O104 := O99.keep K104 all0
  have R105 : Go p e below P T104 (mkF m 9 #[.val (.ref u), .val (.ref q)] [(.ref r_104), (.ref u), (.ref b99), (.ref b99)]) := fun t_ k_ => R103 t_ (st104 t_ k_)
  have R106 : Go p e below P T104 (mkF m 10 #[.val (.ref u), .val (.ref q)] [(.int (0 : Int32)), (.ref r_104), (.ref u), (.ref b99), (.ref b99)]) := fun t_ k_ => R105 t_ (XS.iconst X104.here hx rfl (hb hby d1_9) k_)
  have f107 := (A99.keep K104)
  have f108 := (F99_48.keep K104 nin0)
  have f109 := (F99_50.keep K104 nin0)
  have f110 := (F99_52.keep K104 nin0)
  obtain ⟨rv111, _, ⟨T111, L111, k111, n111⟩, -, X111, ⟨Lc111, hQ111, l111, y111, z111⟩, st111⟩ := X104.specialBack hx (y := (⟨"com/example/lexicarta/lexicarta/glossary/Span", "<init>", "(Ljava/lang/String;Ljava/util/Optional;Z)V"⟩ : MethodName)) rfl hown (mvT hZ (hw _ (List.mem_of_getElem? (i := 38) rfl))) (mvT hZ (hw _ (List.mem_of_getElem? (i := 39) rfl))) (mvT hZ (hw _ (List.mem_of_getElem? (i := 40) rfl))) (by decide) (backOf (W := 1) (sinit_ l Z a0 hw [] b99 u r_104 (0 : Int32) T104.heap n0 O104 f107 f108 f109 f110 (Nat.le_trans (oldLe O0) (Nat.le_of_eq g99.symm)) (by decide)) hZ (hw _ (List.mem_of_getElem? (i := 40) rfl)) (hw _ (List.mem_of_getElem? (i := 15) rfl)) (by decide) (by decide)) (g := (mkF m 10 #[.val (.ref u), .val (.ref q)] [(.int (0 : Int32)), (.ref r_104), (.ref u), (.ref b99), (.ref b99)])) rfl (by rw [hml]; rfl) (Steps.refl _) (a := b99) (argsL := [(.ref u), (.ref r_104), (.int (0 : Int32))]) (rest := [(.ref b99)]) (lenOf pd_53444281 rfl) rfl (by show 2 * 0 + _ ≤ _; exact Nat.le_of_eq rfl) (hb hby d1_10) (fun _ _ => ⟨rfl, (rfl : T104.heap = T104.heap), (by decide : 2 + 0 ≤ _), (by decide : 4 + 0 ≤ _)⟩)
  dsimp only [Pt.U, Pt.locs, Pt.cells, Pt.slots] at X111 l111 y111 z111 st111 hQ111
  subst l111 y111 z111
  obtain ⟨rfl, N111q, K111, p111_0, p111_1, p111_2, p111_3⟩ := hQ111
  have N111 := Fr.app N104 N111q
  have O111 := O104.keep K111 (allS (Nat.le_trans (oldLe O0) (Nat.le_of_eq g99.symm)) all0)
  have R112 : Go p e below P T111 (mkF m 13 #[.val (.ref u), .val (.ref q)] [(.ref b99)]) := fun t_ k_ => R106 t_ (st111.trans k_)
  obtain ⟨fs, hr, hrun, hended, hW, hsame⟩ := X111.leave (v := some (.ref b99)) (fun h => by rw [Bd.returns] at h; cases h)
  exact ⟨_, _, hP _ (R112 _ (retOut X111 hx Bd.returns rfl (Or.inr (Or.inr (Or.inr (Or.inr ⟨rfl, rfl, rfl⟩)))) (hb hby d1_13) hr)), hrun, hended, _, _, rfl, ⟨b99, r_104, rfl, N111, ((((Keep.refl h0 []).ext E99).trans K104 all0).trans K111 (allS (Or.inr (Nat.le_of_eq g99.symm)) all0)), (Nat.le_of_eq g99.symm), p111_0, p111_1, p111_2, p111_3⟩, ⟨_, rfl⟩, hW, hsame.mono (by decide) (by decide)⟩
theorem ef_splain_ (m : MethodId) (x0 : Addr) : entryFrame m #[(.ref x0)] 1 = mkF m 0 #[.val (.ref x0)] [] := by first | (simp [entryFrame, mkF, argsToLocals, Value.category]; done) | rfl
theorem d17_0 : decode prog_27_method_3_code 0 = .ok (.new 8, 3) := by decide +kernel
theorem d17_3 : decode prog_27_method_3_code 3 = .ok (.dup, 1) := by decide +kernel
theorem d17_4 : decode prog_27_method_3_code 4 = .ok (.aload_n 0, 1) := by decide +kernel
theorem d17_5 : decode prog_27_method_3_code 5 = .ok (.invokestatic 30, 3) := by decide +kernel
theorem pd_73631591 : parseMethodDescriptor "()Ljava/util/Optional;" = some ⟨[], some (.object "java/util/Optional")⟩ := by decide +kernel
theorem d17_8 : decode prog_27_method_3_code 8 = .ok (.iconst 0, 1) := by decide +kernel
theorem d17_9 : decode prog_27_method_3_code 9 = .ok (.invokespecial 27, 3) := by decide +kernel
theorem d17_12 : decode prog_27_method_3_code 12 = .ok (.areturn, 1) := by decide +kernel
def Q_splain_ (Z : State) (u : Addr) (wE : Addr) (h0 : Heap) (n0 : Nat) (rv_ : Option Value) (rh_ : Heap) (rL_ : List Loc) : Prop := ∃ r : Addr, ∃ y : Addr, (rv_ = some (.ref r)) ∧ (Fr n0 rL_) ∧ (Keep h0 rh_ []) ∧ (h0.size ≤ r) ∧ (Exa Z rh_ r "com/example/lexicarta/lexicarta/glossary/Span") ∧ (Fld Z rh_ r "com/example/lexicarta/lexicarta/glossary/Span" "text" "Ljava/lang/String;" (.ref u)) ∧ (Fld Z rh_ r "com/example/lexicarta/lexicarta/glossary/Span" "style" "Ljava/util/Optional;" (.ref y)) ∧ (Fld Z rh_ r "com/example/lexicarta/lexicarta/glossary/Span" "joined" "Z" (.int (0 : Int32)))
set_option maxRecDepth 65536 in
set_option maxHeartbeats 40000000 in
theorem splain_ (l : Launch) (Z : State) (a0 : Array Value) (hw : ∀ d ∈ tables_1, d.before a0 Z = true) (ws : List Jvm.Cond) (u : Addr) (wE : Addr) (h0 : Heap) (n0 : Nat) (O0 : Old Z n0 h0) (P0 : Sta Z Z.heap "java/util/Optional" "EMPTY" "Ljava/util/Optional;" (.ref wE)) :
    MetFree l (⟨"com/example/lexicarta/lexicarta/glossary/Span", "plain", "(Ljava/lang/String;)Lcom/example/lexicarta/lexicarta/glossary/Span;"⟩ : MethodName) (head1 (Jvm.Cond.code (⟨"com/example/lexicarta/lexicarta/glossary/Span", "plain", "(Ljava/lang/String;)Lcom/example/lexicarta/lexicarta/glossary/Span;"⟩ : MethodName) prog_27_method_3_code 1 (some (.object "com/example/lexicarta/lexicarta/glossary/Span")) :: ws) ({ frames := 3, cells := 1, slots := 3, locals := 40 } : Room)) (fun a_ U_ => a_ = #[(.ref u)] ∧ Z.Warmed39 U_.vm ∧ U_.heap = h0) (fun _ _ _ _ _ => True) (fun _ U_ o_ U_' => ∃ v_ L_, o_ = .returned v_ ∧ Q_splain_ Z u wE h0 n0 v_ U_'.heap L_ ∧ FrameEnd U_ o_ U_' L_ ({ frames := 3, cells := 1, slots := 3, locals := 40 } : Room).cells ({ frames := 3, cells := 1, slots := 3, locals := 40 } : Room).slots) := by
  refine MetFree.of_bodySF (plainFor_of_name pn_17415009) hisR ?_
  intro p e s m args below meth c s₁ Bd hml0 hP0 hK
  obtain ⟨rfl, hZ, hh⟩ := hP0
  have hx := Bd.exec
  have hby := Bd.bytes
  have hml : c.maxLocals = 1 := hml0
  have hown : s.vm.findClass "com/example/lexicarta/lexicarta/glossary/Span" = some m.cls := findClass_of_methodNamed Bd.named
  have hnm := (name_of_methodNamed Bd.named Bd.method).1
  have X0 : Stand p l e ({ frames := 3, cells := 1, slots := 3, locals := 40 } : Room) s m #[(.ref u)] below meth c s₁ [] 0 0 := Stand.of_body Bd
  have e0 : s₁.heap = h0 := by rw [← hh, Bd.state]; rfl
  have N0 := Fr.nil n0
  obtain ⟨P, hP, R0⟩ : ∃ P : State → Prop, (∀ t_, P t_ → Steps p.tables e below (s₁.setTop (entryFrame m #[(.ref u)] 1)) t_) ∧ Go p e below P s₁ (mkF m 0 #[.val (.ref u)] []) := ⟨_, fun _ h => h, fun t_ k_ => castTop (ef_splain_ m u) k_⟩
  obtain ⟨T113, h113, X113, e113, E113, A113, D113, -, st113⟩ := newO X0 hx hZ hown (hw _ (List.mem_of_getElem? (i := 17) rfl)) (hw _ (List.mem_of_getElem? (i := 18) rfl)) (hw _ (List.mem_of_getElem? (i := 15) rfl)) e0 (g := (mkF m 0 #[.val (.ref u)] [])) rfl (hb hby d17_0) (by decide) (by decide)
  obtain ⟨b113, g113⟩ : ∃ z, z = h0.size := ⟨_, rfl⟩
  rw [← g113] at A113 D113 st113
  have O113 := O0.ext E113
  have F113_48 : Fld Z h113 b113 "com/example/lexicarta/lexicarta/glossary/Span" "text" "Ljava/lang/String;" .null := D113 (Or.inr (hw _ (List.mem_of_getElem? (i := 48) rfl))) (ty := (.object "java/lang/String")) (by decide)
  have F113_50 : Fld Z h113 b113 "com/example/lexicarta/lexicarta/glossary/Span" "style" "Ljava/util/Optional;" .null := D113 (Or.inr (hw _ (List.mem_of_getElem? (i := 50) rfl))) (ty := (.object "java/util/Optional")) (by decide)
  have F113_52 : Fld Z h113 b113 "com/example/lexicarta/lexicarta/glossary/Span" "joined" "Z" (.int (0 : Int32)) := D113 (Or.inr (hw _ (List.mem_of_getElem? (i := 52) rfl))) (ty := .boolean) (by decide)
  have R114 : Go p e below P T113 (mkF m 3 #[.val (.ref u)] [(.ref b113)]) := fun t_ k_ => R0 t_ (st113 t_ k_)
  have R115 : Go p e below P T113 (mkF m 4 #[.val (.ref u)] [(.ref b113), (.ref b113)]) := fun t_ k_ => R114 t_ (XS.dup X113.here hx rfl (hb hby d17_3) rfl rfl k_)
  have R116 : Go p e below P T113 (mkF m 5 #[.val (.ref u)] [(.ref u), (.ref b113), (.ref b113)]) := fun t_ k_ => R115 t_ (XS.aloadN X113.here hx rfl (hb hby d17_4) rfl rfl k_)
  obtain ⟨rv117, _, ⟨T117, L117, k117, n117⟩, -, X117, ⟨Lc117, hQ117, l117, y117, z117⟩, st117⟩ := Jvm.LawKit.callS X113 hx (y := (⟨"java/util/Optional", "empty", "()Ljava/util/Optional;"⟩ : MethodName)) hown (mvT hZ (hw _ (List.mem_of_getElem? (i := 104) rfl))) (mvT hZ (hw _ (List.mem_of_getElem? (i := 105) rfl))) (mvT hZ (hw _ (List.mem_of_getElem? (i := 21) rfl))) (mvT hZ (hw _ (List.mem_of_getElem? (i := 106) rfl))) (by decide) (backOf (W := 3) (oempty_ l Z a0 hw [] wE h113 n0 O113 P0) hZ (hw _ (List.mem_of_getElem? (i := 106) rfl)) (hw _ (List.mem_of_getElem? (i := 21) rfl)) (by decide) (by decide)) (g := (mkF m 5 #[.val (.ref u)] [(.ref u), (.ref b113), (.ref b113)])) rfl (by rw [hml]; rfl) (argsL := []) (rest := [(.ref u), (.ref b113), (.ref b113)]) (lenOf pd_73631591 rfl) rfl (by show 2 * 0 + _ ≤ _; exact Nat.le_of_eq rfl) (hb hby d17_5) (fun _ _ => ⟨rfl, e113, (by decide : 1 + 0 ≤ _), (by decide : 3 + 0 ≤ _)⟩)
  dsimp only [Pt.U, Pt.locs, Pt.cells, Pt.slots] at X117 l117 y117 z117 st117 hQ117
  subst l117 y117 z117
  obtain ⟨rfl, N117q, K117⟩ := hQ117
  have N117 := Fr.app N0 N117q
  have R118 : Go p e below P T117 (mkF m 8 #[.val (.ref u)] [(.ref wE), (.ref u), (.ref b113), (.ref b113)]) := fun t_ k_ => R116 t_ (st117 t_ k_)
  have R119 : Go p e below P T117 (mkF m 9 #[.val (.ref u)] [(.int (0 : Int32)), (.ref wE), (.ref u), (.ref b113), (.ref b113)]) := fun t_ k_ => R118 t_ (XS.iconst X117.here hx rfl (hb hby d17_8) k_)
  obtain ⟨rv120, _, ⟨T120, L120, k120, n120⟩, -, X120, ⟨Lc120, hQ120, l120, y120, z120⟩, st120⟩ := X117.specialBack hx (y := (⟨"com/example/lexicarta/lexicarta/glossary/Span", "<init>", "(Ljava/lang/String;Ljava/util/Optional;Z)V"⟩ : MethodName)) rfl hown (mvT hZ (hw _ (List.mem_of_getElem? (i := 38) rfl))) (mvT hZ (hw _ (List.mem_of_getElem? (i := 39) rfl))) (mvT hZ (hw _ (List.mem_of_getElem? (i := 40) rfl))) (by decide) (backOf (W := 1) (sinit_ l Z a0 hw [] b113 u wE (0 : Int32) h113 n0 O113 A113 F113_48 F113_50 F113_52 (Nat.le_trans (oldLe O0) (Nat.le_of_eq g113.symm)) (by decide)) hZ (hw _ (List.mem_of_getElem? (i := 40) rfl)) (hw _ (List.mem_of_getElem? (i := 15) rfl)) (by decide) (by decide)) (g := (mkF m 9 #[.val (.ref u)] [(.int (0 : Int32)), (.ref wE), (.ref u), (.ref b113), (.ref b113)])) rfl (by rw [hml]; rfl) (Steps.refl _) (a := b113) (argsL := [(.ref u), (.ref wE), (.int (0 : Int32))]) (rest := [(.ref b113)]) (lenOf pd_53444281 rfl) rfl (by show 2 * 0 + _ ≤ _; exact Nat.le_of_eq rfl) (hb hby d17_9) (fun _ _ => ⟨rfl, K117, (by decide : 1 + 0 ≤ _), (by decide : 3 + 0 ≤ _)⟩)
  dsimp only [Pt.U, Pt.locs, Pt.cells, Pt.slots] at X120 l120 y120 z120 st120 hQ120
  subst l120 y120 z120
  obtain ⟨rfl, N120q, K120, p120_0, p120_1, p120_2, p120_3⟩ := hQ120
  have N120 := Fr.app N117 N120q
  have O120 := O113.keep K120 (allS (Nat.le_trans (oldLe O0) (Nat.le_of_eq g113.symm)) all0)
  have R121 : Go p e below P T120 (mkF m 12 #[.val (.ref u)] [(.ref b113)]) := fun t_ k_ => R119 t_ (st120.trans k_)
  obtain ⟨fs, hr, hrun, hended, hW, hsame⟩ := X120.leave (v := some (.ref b113)) (fun h => by rw [Bd.returns] at h; cases h)
  exact ⟨_, _, hP _ (R121 _ (retOut X120 hx Bd.returns rfl (Or.inr (Or.inr (Or.inr (Or.inr ⟨rfl, rfl, rfl⟩)))) (hb hby d17_12) hr)), hrun, hended, _, _, rfl, ⟨b113, wE, rfl, N120, (((Keep.refl h0 []).ext E113).trans K120 (allS (Or.inr (Nat.le_of_eq g113.symm)) all0)), (Nat.le_of_eq g113.symm), p120_0, p120_1, p120_2, p120_3⟩, ⟨_, rfl⟩, hW, hsame.mono (by decide) (by decide)⟩
theorem ef_withJ_ (m : MethodId) (x0 : Addr) (x1 : Int32) : entryFrame m #[(.ref x0), (.int x1)] 2 = mkF m 0 #[.val (.ref x0), .val (.int x1)] [] := by first | (simp [entryFrame, mkF, argsToLocals, Value.category]; done) | rfl
theorem d9_0 : decode prog_27_method_4_code 0 = .ok (.new 8, 3) := by decide +kernel
theorem d9_3 : decode prog_27_method_4_code 3 = .ok (.dup, 1) := by decide +kernel
theorem d9_4 : decode prog_27_method_4_code 4 = .ok (.aload_n 0, 1) := by decide +kernel
theorem d9_5 : decode prog_27_method_4_code 5 = .ok (.getfield 7, 3) := by decide +kernel
theorem d9_8 : decode prog_27_method_4_code 8 = .ok (.aload_n 0, 1) := by decide +kernel
theorem d9_9 : decode prog_27_method_4_code 9 = .ok (.getfield 13, 3) := by decide +kernel
theorem d9_12 : decode prog_27_method_4_code 12 = .ok (.iload_n 1, 1) := by decide +kernel
theorem d9_13 : decode prog_27_method_4_code 13 = .ok (.invokespecial 27, 3) := by decide +kernel
theorem d9_16 : decode prog_27_method_4_code 16 = .ok (.areturn, 1) := by decide +kernel
def Q_withJ_ (Z : State) (a : Addr) (u : Addr) (y : Addr) (j : Int32) (h0 : Heap) (n0 : Nat) (rv_ : Option Value) (rh_ : Heap) (rL_ : List Loc) : Prop := ∃ r : Addr, (rv_ = some (.ref r)) ∧ (Fr n0 rL_) ∧ (Keep h0 rh_ []) ∧ (h0.size ≤ r) ∧ (Exa Z rh_ r "com/example/lexicarta/lexicarta/glossary/Span") ∧ (Fld Z rh_ r "com/example/lexicarta/lexicarta/glossary/Span" "text" "Ljava/lang/String;" (.ref u)) ∧ (Fld Z rh_ r "com/example/lexicarta/lexicarta/glossary/Span" "style" "Ljava/util/Optional;" (.ref y)) ∧ (Fld Z rh_ r "com/example/lexicarta/lexicarta/glossary/Span" "joined" "Z" (.int j))
set_option maxRecDepth 65536 in
set_option maxHeartbeats 40000000 in
theorem withJ_ (l : Launch) (Z : State) (a0 : Array Value) (hw : ∀ d ∈ tables_1, d.before a0 Z = true) (ws : List Jvm.Cond) (a : Addr) (u : Addr) (y : Addr) (j : Int32) (h0 : Heap) (n0 : Nat) (O0 : Old Z n0 h0) (P0 : Fld Z h0 a "com/example/lexicarta/lexicarta/glossary/Span" "text" "Ljava/lang/String;" (.ref u)) (P1 : Fld Z h0 a "com/example/lexicarta/lexicarta/glossary/Span" "style" "Ljava/util/Optional;" (.ref y)) (P2 : nar .boolean j = j) :
    MetFree l (⟨"com/example/lexicarta/lexicarta/glossary/Span", "withJoined", "(Z)Lcom/example/lexicarta/lexicarta/glossary/Span;"⟩ : MethodName) (head1 (Jvm.Cond.code (⟨"com/example/lexicarta/lexicarta/glossary/Span", "withJoined", "(Z)Lcom/example/lexicarta/lexicarta/glossary/Span;"⟩ : MethodName) prog_27_method_4_code 2 (some (.object "com/example/lexicarta/lexicarta/glossary/Span")) :: ws) ({ frames := 3, cells := 1, slots := 3, locals := 40 } : Room)) (fun a_ U_ => a_ = #[(.ref a), (.int j)] ∧ Z.Warmed39 U_.vm ∧ U_.heap = h0) (fun _ _ _ _ _ => True) (fun _ U_ o_ U_' => ∃ v_ L_, o_ = .returned v_ ∧ Q_withJ_ Z a u y j h0 n0 v_ U_'.heap L_ ∧ FrameEnd U_ o_ U_' L_ ({ frames := 3, cells := 1, slots := 3, locals := 40 } : Room).cells ({ frames := 3, cells := 1, slots := 3, locals := 40 } : Room).slots) := by
  have hj := P2
  refine MetFree.of_bodySF (plainFor_of_name pn_17415009) hisR ?_
  intro p e s m args below meth c s₁ Bd hml0 hP0 hK
  obtain ⟨rfl, hZ, hh⟩ := hP0
  have hx := Bd.exec
  have hby := Bd.bytes
  have hml : c.maxLocals = 2 := hml0
  have hown : s.vm.findClass "com/example/lexicarta/lexicarta/glossary/Span" = some m.cls := findClass_of_methodNamed Bd.named
  have hnm := (name_of_methodNamed Bd.named Bd.method).1
  have X0 : Stand p l e ({ frames := 3, cells := 1, slots := 3, locals := 40 } : Room) s m #[(.ref a), (.int j)] below meth c s₁ [] 0 0 := Stand.of_body Bd
  have e0 : s₁.heap = h0 := by rw [← hh, Bd.state]; rfl
  have N0 := Fr.nil n0
  obtain ⟨P, hP, R0⟩ : ∃ P : State → Prop, (∀ t_, P t_ → Steps p.tables e below (s₁.setTop (entryFrame m #[(.ref a), (.int j)] 2)) t_) ∧ Go p e below P s₁ (mkF m 0 #[.val (.ref a), .val (.int j)] []) := ⟨_, fun _ h => h, fun t_ k_ => castTop (ef_withJ_ m a j) k_⟩
  obtain ⟨T122, h122, X122, e122, E122, A122, D122, -, st122⟩ := newO X0 hx hZ hown (hw _ (List.mem_of_getElem? (i := 17) rfl)) (hw _ (List.mem_of_getElem? (i := 18) rfl)) (hw _ (List.mem_of_getElem? (i := 15) rfl)) e0 (g := (mkF m 0 #[.val (.ref a), .val (.int j)] [])) rfl (hb hby d9_0) (by decide) (by decide)
  obtain ⟨b122, g122⟩ : ∃ z, z = h0.size := ⟨_, rfl⟩
  rw [← g122] at A122 D122 st122
  have O122 := O0.ext E122
  have F122_48 : Fld Z h122 b122 "com/example/lexicarta/lexicarta/glossary/Span" "text" "Ljava/lang/String;" .null := D122 (Or.inr (hw _ (List.mem_of_getElem? (i := 48) rfl))) (ty := (.object "java/lang/String")) (by decide)
  have F122_50 : Fld Z h122 b122 "com/example/lexicarta/lexicarta/glossary/Span" "style" "Ljava/util/Optional;" .null := D122 (Or.inr (hw _ (List.mem_of_getElem? (i := 50) rfl))) (ty := (.object "java/util/Optional")) (by decide)
  have F122_52 : Fld Z h122 b122 "com/example/lexicarta/lexicarta/glossary/Span" "joined" "Z" (.int (0 : Int32)) := D122 (Or.inr (hw _ (List.mem_of_getElem? (i := 52) rfl))) (ty := .boolean) (by decide)
  have R123 : Go p e below P T122 (mkF m 3 #[.val (.ref a), .val (.int j)] [(.ref b122)]) := fun t_ k_ => R0 t_ (st122 t_ k_)
  have R124 : Go p e below P T122 (mkF m 4 #[.val (.ref a), .val (.int j)] [(.ref b122), (.ref b122)]) := fun t_ k_ => R123 t_ (XS.dup X122.here hx rfl (hb hby d9_3) rfl rfl k_)
  have R125 : Go p e below P T122 (mkF m 5 #[.val (.ref a), .val (.int j)] [(.ref a), (.ref b122), (.ref b122)]) := fun t_ k_ => R124 t_ (XS.aloadN X122.here hx rfl (hb hby d9_4) rfl rfl k_)
  have f126 := (P0.ext E122)
  obtain ⟨T127, X127, e127, st127⟩ := getF X122 hx hZ hown (host := "") (Or.inl (hw _ (List.mem_of_getElem? (i := 47) rfl))) Via.refl e122 f126 (g := (mkF m 5 #[.val (.ref a), .val (.int j)] [(.ref a), (.ref b122), (.ref b122)])) rfl rfl (hb hby d9_5)
  have R128 : Go p e below P T127 (mkF m 8 #[.val (.ref a), .val (.int j)] [(.ref u), (.ref b122), (.ref b122)]) := fun t_ k_ => R125 t_ (st127 t_ k_)
  have R129 : Go p e below P T127 (mkF m 9 #[.val (.ref a), .val (.int j)] [(.ref a), (.ref u), (.ref b122), (.ref b122)]) := fun t_ k_ => R128 t_ (XS.aloadN X127.here hx rfl (hb hby d9_8) rfl rfl k_)
  have f130 := (P1.ext E122)
  obtain ⟨T131, X131, e131, st131⟩ := getF X127 hx hZ hown (host := "") (Or.inl (hw _ (List.mem_of_getElem? (i := 49) rfl))) Via.refl e127 f130 (g := (mkF m 9 #[.val (.ref a), .val (.int j)] [(.ref a), (.ref u), (.ref b122), (.ref b122)])) rfl rfl (hb hby d9_9)
  have R132 : Go p e below P T131 (mkF m 12 #[.val (.ref a), .val (.int j)] [(.ref y), (.ref u), (.ref b122), (.ref b122)]) := fun t_ k_ => R129 t_ (st131 t_ k_)
  have R133 : Go p e below P T131 (mkF m 13 #[.val (.ref a), .val (.int j)] [(.int j), (.ref y), (.ref u), (.ref b122), (.ref b122)]) := fun t_ k_ => R132 t_ (XS.iloadN X131.here hx rfl (hb hby d9_12) rfl k_)
  obtain ⟨rv134, _, ⟨T134, L134, k134, n134⟩, -, X134, ⟨Lc134, hQ134, l134, y134, z134⟩, st134⟩ := X131.specialBack hx (y := (⟨"com/example/lexicarta/lexicarta/glossary/Span", "<init>", "(Ljava/lang/String;Ljava/util/Optional;Z)V"⟩ : MethodName)) rfl hown (mvT hZ (hw _ (List.mem_of_getElem? (i := 38) rfl))) (mvT hZ (hw _ (List.mem_of_getElem? (i := 39) rfl))) (mvT hZ (hw _ (List.mem_of_getElem? (i := 40) rfl))) (by decide) (backOf (W := 1) (sinit_ l Z a0 hw [] b122 u y j h122 n0 O122 A122 F122_48 F122_50 F122_52 (Nat.le_trans (oldLe O0) (Nat.le_of_eq g122.symm)) hj) hZ (hw _ (List.mem_of_getElem? (i := 40) rfl)) (hw _ (List.mem_of_getElem? (i := 15) rfl)) (by decide) (by decide)) (g := (mkF m 13 #[.val (.ref a), .val (.int j)] [(.int j), (.ref y), (.ref u), (.ref b122), (.ref b122)])) rfl (by rw [hml]; rfl) (Steps.refl _) (a := b122) (argsL := [(.ref u), (.ref y), (.int j)]) (rest := [(.ref b122)]) (lenOf pd_53444281 rfl) rfl (by show 2 * 0 + _ ≤ _; exact Nat.le_of_eq rfl) (hb hby d9_13) (fun _ _ => ⟨rfl, e131, (by decide : 1 + 0 ≤ _), (by decide : 3 + 0 ≤ _)⟩)
  dsimp only [Pt.U, Pt.locs, Pt.cells, Pt.slots] at X134 l134 y134 z134 st134 hQ134
  subst l134 y134 z134
  obtain ⟨rfl, N134q, K134, p134_0, p134_1, p134_2, p134_3⟩ := hQ134
  have N134 := Fr.app N0 N134q
  have O134 := O122.keep K134 (allS (Nat.le_trans (oldLe O0) (Nat.le_of_eq g122.symm)) all0)
  have R135 : Go p e below P T134 (mkF m 16 #[.val (.ref a), .val (.int j)] [(.ref b122)]) := fun t_ k_ => R133 t_ (st134.trans k_)
  obtain ⟨fs, hr, hrun, hended, hW, hsame⟩ := X134.leave (v := some (.ref b122)) (fun h => by rw [Bd.returns] at h; cases h)
  exact ⟨_, _, hP _ (R135 _ (retOut X134 hx Bd.returns rfl (Or.inr (Or.inr (Or.inr (Or.inr ⟨rfl, rfl, rfl⟩)))) (hb hby d9_16) hr)), hrun, hended, _, _, rfl, ⟨b122, rfl, N134, (((Keep.refl h0 []).ext E122).trans K134 (allS (Or.inr (Nat.le_of_eq g122.symm)) all0)), (Nat.le_of_eq g122.symm), p134_0, p134_1, p134_2, p134_3⟩, ⟨_, rfl⟩, hW, hsame.mono (by decide) (by decide)⟩
theorem ef_style_ (m : MethodId) (x0 : Addr) : entryFrame m #[(.ref x0)] 1 = mkF m 0 #[.val (.ref x0)] [] := by first | (simp [entryFrame, mkF, argsToLocals, Value.category]; done) | rfl
theorem d8_0 : decode prog_27_method_9_code 0 = .ok (.aload_n 0, 1) := by decide +kernel
theorem d8_1 : decode prog_27_method_9_code 1 = .ok (.getfield 13, 3) := by decide +kernel
theorem d8_4 : decode prog_27_method_9_code 4 = .ok (.areturn, 1) := by decide +kernel
def Q_style_ (Z : State) (a : Addr) (v : Addr) (h0 : Heap) (n0 : Nat) (rv_ : Option Value) (rh_ : Heap) (rL_ : List Loc) : Prop := (rv_ = some (.ref v)) ∧ (Fr n0 rL_) ∧ (rh_ = h0)
set_option maxRecDepth 65536 in
set_option maxHeartbeats 40000000 in
theorem style_ (l : Launch) (Z : State) (a0 : Array Value) (hw : ∀ d ∈ tables_1, d.before a0 Z = true) (ws : List Jvm.Cond) (a : Addr) (v : Addr) (h0 : Heap) (n0 : Nat) (O0 : Old Z n0 h0) (P0 : Fld Z h0 a "com/example/lexicarta/lexicarta/glossary/Span" "style" "Ljava/util/Optional;" (.ref v)) :
    MetFree l (⟨"com/example/lexicarta/lexicarta/glossary/Span", "style", "()Ljava/util/Optional;"⟩ : MethodName) (head1 (Jvm.Cond.code (⟨"com/example/lexicarta/lexicarta/glossary/Span", "style", "()Ljava/util/Optional;"⟩ : MethodName) prog_27_method_9_code 1 (some (.object "java/util/Optional")) :: ws) ({ frames := 0, cells := 0, slots := 0, locals := 0 } : Room)) (fun a_ U_ => a_ = #[(.ref a)] ∧ Z.Warmed39 U_.vm ∧ U_.heap = h0) (fun _ _ _ _ _ => True) (fun _ U_ o_ U_' => ∃ v_ L_, o_ = .returned v_ ∧ Q_style_ Z a v h0 n0 v_ U_'.heap L_ ∧ FrameEnd U_ o_ U_' L_ ({ frames := 0, cells := 0, slots := 0, locals := 0 } : Room).cells ({ frames := 0, cells := 0, slots := 0, locals := 0 } : Room).slots) := by
  refine MetFree.of_bodySF (plainFor_of_name pn_17415009) hisR ?_
  intro p e s m args below meth c s₁ Bd hml0 hP0 hK
  obtain ⟨rfl, hZ, hh⟩ := hP0
  have hx := Bd.exec
  have hby := Bd.bytes
  have hml : c.maxLocals = 1 := hml0
  have hown : s.vm.findClass "com/example/lexicarta/lexicarta/glossary/Span" = some m.cls := findClass_of_methodNamed Bd.named
  have hnm := (name_of_methodNamed Bd.named Bd.method).1
  have X0 : Stand p l e ({ frames := 0, cells := 0, slots := 0, locals := 0 } : Room) s m #[(.ref a)] below meth c s₁ [] 0 0 := Stand.of_body Bd
  have e0 : s₁.heap = h0 := by rw [← hh, Bd.state]; rfl
  have N0 := Fr.nil n0
  obtain ⟨P, hP, R0⟩ : ∃ P : State → Prop, (∀ t_, P t_ → Steps p.tables e below (s₁.setTop (entryFrame m #[(.ref a)] 1)) t_) ∧ Go p e below P s₁ (mkF m 0 #[.val (.ref a)] []) := ⟨_, fun _ h => h, fun t_ k_ => castTop (ef_style_ m a) k_⟩
  have R136 : Go p e below P s₁ (mkF m 1 #[.val (.ref a)] [(.ref a)]) := fun t_ k_ => R0 t_ (XS.aloadN X0.here hx rfl (hb hby d8_0) rfl rfl k_)
  obtain ⟨T137, X137, e137, st137⟩ := getF X0 hx hZ hown (host := "") (Or.inl (hw _ (List.mem_of_getElem? (i := 49) rfl))) Via.refl e0 P0 (g := (mkF m 1 #[.val (.ref a)] [(.ref a)])) rfl rfl (hb hby d8_1)
  have R138 : Go p e below P T137 (mkF m 4 #[.val (.ref a)] [(.ref v)]) := fun t_ k_ => R136 t_ (st137 t_ k_)
  obtain ⟨fs, hr, hrun, hended, hW, hsame⟩ := X137.leave (v := some (.ref v)) (fun h => by rw [Bd.returns] at h; cases h)
  exact ⟨_, _, hP _ (R138 _ (retOut X137 hx Bd.returns rfl (Or.inr (Or.inr (Or.inr (Or.inr ⟨rfl, rfl, rfl⟩)))) (hb hby d8_4) hr)), hrun, hended, _, _, rfl, ⟨rfl, N0, e137⟩, ⟨_, rfl⟩, hW, hsame.mono (by decide) (by decide)⟩
theorem ef_text_ (m : MethodId) (x0 : Addr) : entryFrame m #[(.ref x0)] 1 = mkF m 0 #[.val (.ref x0)] [] := by first | (simp [entryFrame, mkF, argsToLocals, Value.category]; done) | rfl
theorem d10_0 : decode prog_27_method_8_code 0 = .ok (.aload_n 0, 1) := by decide +kernel
theorem d10_1 : decode prog_27_method_8_code 1 = .ok (.getfield 7, 3) := by decide +kernel
theorem d10_4 : decode prog_27_method_8_code 4 = .ok (.areturn, 1) := by decide +kernel
def Q_text_ (Z : State) (a : Addr) (v : Addr) (h0 : Heap) (n0 : Nat) (rv_ : Option Value) (rh_ : Heap) (rL_ : List Loc) : Prop := (rv_ = some (.ref v)) ∧ (Fr n0 rL_) ∧ (rh_ = h0)
set_option maxRecDepth 65536 in
set_option maxHeartbeats 40000000 in
theorem text_ (l : Launch) (Z : State) (a0 : Array Value) (hw : ∀ d ∈ tables_1, d.before a0 Z = true) (ws : List Jvm.Cond) (a : Addr) (v : Addr) (h0 : Heap) (n0 : Nat) (O0 : Old Z n0 h0) (P0 : Fld Z h0 a "com/example/lexicarta/lexicarta/glossary/Span" "text" "Ljava/lang/String;" (.ref v)) :
    MetFree l (⟨"com/example/lexicarta/lexicarta/glossary/Span", "text", "()Ljava/lang/String;"⟩ : MethodName) (head1 (Jvm.Cond.code (⟨"com/example/lexicarta/lexicarta/glossary/Span", "text", "()Ljava/lang/String;"⟩ : MethodName) prog_27_method_8_code 1 (some (.object "java/lang/String")) :: ws) ({ frames := 0, cells := 0, slots := 0, locals := 0 } : Room)) (fun a_ U_ => a_ = #[(.ref a)] ∧ Z.Warmed39 U_.vm ∧ U_.heap = h0) (fun _ _ _ _ _ => True) (fun _ U_ o_ U_' => ∃ v_ L_, o_ = .returned v_ ∧ Q_text_ Z a v h0 n0 v_ U_'.heap L_ ∧ FrameEnd U_ o_ U_' L_ ({ frames := 0, cells := 0, slots := 0, locals := 0 } : Room).cells ({ frames := 0, cells := 0, slots := 0, locals := 0 } : Room).slots) := by
  refine MetFree.of_bodySF (plainFor_of_name pn_17415009) hisR ?_
  intro p e s m args below meth c s₁ Bd hml0 hP0 hK
  obtain ⟨rfl, hZ, hh⟩ := hP0
  have hx := Bd.exec
  have hby := Bd.bytes
  have hml : c.maxLocals = 1 := hml0
  have hown : s.vm.findClass "com/example/lexicarta/lexicarta/glossary/Span" = some m.cls := findClass_of_methodNamed Bd.named
  have hnm := (name_of_methodNamed Bd.named Bd.method).1
  have X0 : Stand p l e ({ frames := 0, cells := 0, slots := 0, locals := 0 } : Room) s m #[(.ref a)] below meth c s₁ [] 0 0 := Stand.of_body Bd
  have e0 : s₁.heap = h0 := by rw [← hh, Bd.state]; rfl
  have N0 := Fr.nil n0
  obtain ⟨P, hP, R0⟩ : ∃ P : State → Prop, (∀ t_, P t_ → Steps p.tables e below (s₁.setTop (entryFrame m #[(.ref a)] 1)) t_) ∧ Go p e below P s₁ (mkF m 0 #[.val (.ref a)] []) := ⟨_, fun _ h => h, fun t_ k_ => castTop (ef_text_ m a) k_⟩
  have R139 : Go p e below P s₁ (mkF m 1 #[.val (.ref a)] [(.ref a)]) := fun t_ k_ => R0 t_ (XS.aloadN X0.here hx rfl (hb hby d10_0) rfl rfl k_)
  obtain ⟨T140, X140, e140, st140⟩ := getF X0 hx hZ hown (host := "") (Or.inl (hw _ (List.mem_of_getElem? (i := 47) rfl))) Via.refl e0 P0 (g := (mkF m 1 #[.val (.ref a)] [(.ref a)])) rfl rfl (hb hby d10_1)
  have R141 : Go p e below P T140 (mkF m 4 #[.val (.ref a)] [(.ref v)]) := fun t_ k_ => R139 t_ (st140 t_ k_)
  obtain ⟨fs, hr, hrun, hended, hW, hsame⟩ := X140.leave (v := some (.ref v)) (fun h => by rw [Bd.returns] at h; cases h)
  exact ⟨_, _, hP _ (R141 _ (retOut X140 hx Bd.returns rfl (Or.inr (Or.inr (Or.inr (Or.inr ⟨rfl, rfl, rfl⟩)))) (hb hby d10_4) hr)), hrun, hended, _, _, rfl, ⟨rfl, N0, e140⟩, ⟨_, rfl⟩, hW, hsame.mono (by decide) (by decide)⟩
theorem ef_joined_ (m : MethodId) (x0 : Addr) : entryFrame m #[(.ref x0)] 1 = mkF m 0 #[.val (.ref x0)] [] := by first | (simp [entryFrame, mkF, argsToLocals, Value.category]; done) | rfl
theorem d11_0 : decode prog_27_method_10_code 0 = .ok (.aload_n 0, 1) := by decide +kernel
theorem d11_1 : decode prog_27_method_10_code 1 = .ok (.getfield 17, 3) := by decide +kernel
theorem d11_4 : decode prog_27_method_10_code 4 = .ok (.ireturn, 1) := by decide +kernel
def Q_joined_ (Z : State) (a : Addr) (v : Int32) (h0 : Heap) (n0 : Nat) (rv_ : Option Value) (rh_ : Heap) (rL_ : List Loc) : Prop := (rv_ = some (.int v)) ∧ (Fr n0 rL_) ∧ (rh_ = h0)
set_option maxRecDepth 65536 in
set_option maxHeartbeats 40000000 in
theorem joined_ (l : Launch) (Z : State) (a0 : Array Value) (hw : ∀ d ∈ tables_1, d.before a0 Z = true) (ws : List Jvm.Cond) (a : Addr) (v : Int32) (h0 : Heap) (n0 : Nat) (O0 : Old Z n0 h0) (P0 : Fld Z h0 a "com/example/lexicarta/lexicarta/glossary/Span" "joined" "Z" (.int v)) (P1 : nar .boolean v = v) :
    MetFree l (⟨"com/example/lexicarta/lexicarta/glossary/Span", "joined", "()Z"⟩ : MethodName) (head1 (Jvm.Cond.code (⟨"com/example/lexicarta/lexicarta/glossary/Span", "joined", "()Z"⟩ : MethodName) prog_27_method_10_code 1 (some .boolean) :: ws) ({ frames := 0, cells := 0, slots := 0, locals := 0 } : Room)) (fun a_ U_ => a_ = #[(.ref a)] ∧ Z.Warmed39 U_.vm ∧ U_.heap = h0) (fun _ _ _ _ _ => True) (fun _ U_ o_ U_' => ∃ v_ L_, o_ = .returned v_ ∧ Q_joined_ Z a v h0 n0 v_ U_'.heap L_ ∧ FrameEnd U_ o_ U_' L_ ({ frames := 0, cells := 0, slots := 0, locals := 0 } : Room).cells ({ frames := 0, cells := 0, slots := 0, locals := 0 } : Room).slots) := by
  refine MetFree.of_bodySF (plainFor_of_name pn_17415009) hisR ?_
  intro p e s m args below meth c s₁ Bd hml0 hP0 hK
  obtain ⟨rfl, hZ, hh⟩ := hP0
  have hx := Bd.exec
  have hby := Bd.bytes
  have hml : c.maxLocals = 1 := hml0
  have hown : s.vm.findClass "com/example/lexicarta/lexicarta/glossary/Span" = some m.cls := findClass_of_methodNamed Bd.named
  have hnm := (name_of_methodNamed Bd.named Bd.method).1
  have X0 : Stand p l e ({ frames := 0, cells := 0, slots := 0, locals := 0 } : Room) s m #[(.ref a)] below meth c s₁ [] 0 0 := Stand.of_body Bd
  have e0 : s₁.heap = h0 := by rw [← hh, Bd.state]; rfl
  have N0 := Fr.nil n0
  obtain ⟨P, hP, R0⟩ : ∃ P : State → Prop, (∀ t_, P t_ → Steps p.tables e below (s₁.setTop (entryFrame m #[(.ref a)] 1)) t_) ∧ Go p e below P s₁ (mkF m 0 #[.val (.ref a)] []) := ⟨_, fun _ h => h, fun t_ k_ => castTop (ef_joined_ m a) k_⟩
  have R142 : Go p e below P s₁ (mkF m 1 #[.val (.ref a)] [(.ref a)]) := fun t_ k_ => R0 t_ (XS.aloadN X0.here hx rfl (hb hby d11_0) rfl rfl k_)
  obtain ⟨T143, X143, e143, st143⟩ := getF X0 hx hZ hown (host := "") (Or.inl (hw _ (List.mem_of_getElem? (i := 51) rfl))) Via.refl e0 P0 (g := (mkF m 1 #[.val (.ref a)] [(.ref a)])) rfl rfl (hb hby d11_1)
  have R144 : Go p e below P T143 (mkF m 4 #[.val (.ref a)] [(.int v)]) := fun t_ k_ => R142 t_ (st143 t_ k_)
  obtain ⟨fs, hr, hrun, hended, hW, hsame⟩ := X143.leave (v := some (.int (nar .boolean v))) (fun h => by rw [Bd.returns] at h; cases h)
  exact ⟨_, _, hP _ (R144 _ (retN X143 hx (t := .boolean) Bd.returns (by simp) (hb hby d11_4) hr)), hrun, hended, _, _, rfl, ⟨(by rw [P1]), N0, e143⟩, ⟨_, rfl⟩, hW, hsame.mono (by decide) (by decide)⟩
theorem pn_45097445 : plainName "com/example/lexicarta/lexicarta/glossary/SpanWithJoinedPinLaw" = true := by first | (simp [plainName, overriddenIn]; done) | decide +kernel
theorem ef_law_ (m : MethodId) (x0 : Int32) (x1 : Int32) (x2 : Int32) : entryFrame m #[(.int x0), (.int x1), (.int x2)] maxLocals = mkF m 0 #[.val (.int x0), .val (.int x1), .val (.int x2), .unset, .unset, .unset, .unset, .unset, .unset, .unset, .unset, .unset, .unset, .unset, .unset, .unset, .unset, .unset] [] := by first | (simp [entryFrame, mkF, argsToLocals, Value.category, maxLocals]; done) | rfl
theorem pd_88050445 : parseMethodDescriptor "(C)Ljava/lang/String;" = some ⟨[.char], some (.object "java/lang/String")⟩ := by decide +kernel
theorem pd_42155922 : parseMethodDescriptor "([C)V" = some ⟨[(.array .char)], none⟩ := by decide +kernel
theorem pd_31356609 : parseMethodDescriptor "(Ljava/lang/String;)Lcom/example/lexicarta/lexicarta/glossary/Span;" = some ⟨[(.object "java/lang/String")], some (.object "com/example/lexicarta/lexicarta/glossary/Span")⟩ := by decide +kernel
theorem pd_21959538 : parseMethodDescriptor "(Ljava/lang/String;Lcom/example/lexicarta/lexicarta/glossary/TextStyle;)Lcom/example/lexicarta/lexicarta/glossary/Span;" = some ⟨[(.object "java/lang/String"), (.object "com/example/lexicarta/lexicarta/glossary/TextStyle")], some (.object "com/example/lexicarta/lexicarta/glossary/Span")⟩ := by decide +kernel
theorem pd_17888495 : parseMethodDescriptor "(Z)Lcom/example/lexicarta/lexicarta/glossary/Span;" = some ⟨[.boolean], some (.object "com/example/lexicarta/lexicarta/glossary/Span")⟩ := by decide +kernel
theorem pd_14309214 : parseMethodDescriptor "()Ljava/lang/String;" = some ⟨[], some (.object "java/lang/String")⟩ := by decide +kernel
theorem pd_16428538 : parseMethodDescriptor "()Z" = some ⟨[], some .boolean⟩ := by decide +kernel
def Q_law_ (Z : State) (i0 : Int32) (i1 : Int32) (i2 : Int32) (w0 : Addr) (w1 : Addr) (w2 : Addr) (w3 : Addr) (wE : Addr) (zc : Int32) (h0 : Heap) (n0 : Nat) (rv_ : Option Value) (rh_ : Heap) (rL_ : List Loc) : Prop := (rv_ = some (.int (1 : Int32))) ∧ (Fr n0 rL_) ∧ (Keep h0 rh_ [])
set_option maxRecDepth 65536 in
set_option maxHeartbeats 40000000 in
theorem law_ (l : Launch) (Z : State) (a0 : Array Value) (hw : ∀ d ∈ tables_1, d.before a0 Z = true) (ws : List Jvm.Cond) (i0 : Int32) (i1 : Int32) (i2 : Int32) (w0 : Addr) (w1 : Addr) (w2 : Addr) (w3 : Addr) (wE : Addr) (zc : Int32) (h0 : Heap) (n0 : Nat) (O0 : Old Z n0 h0) (hEL : EW Z a0 EL0) (P0 : Sta Z Z.heap "java/lang/String" "COMPACT_STRINGS" "Z" (.int zc)) (P1 : Sta Z Z.heap "java/util/Optional" "EMPTY" "Ljava/util/Optional;" (.ref wE)) (P2 : Sta Z Z.heap "com/example/lexicarta/lexicarta/glossary/TextStyle" "TERM" "Lcom/example/lexicarta/lexicarta/glossary/TextStyle;" (.ref w0)) (P3 : Sta Z Z.heap "com/example/lexicarta/lexicarta/glossary/TextStyle" "NAME" "Lcom/example/lexicarta/lexicarta/glossary/TextStyle;" (.ref w1)) (P4 : Sta Z Z.heap "com/example/lexicarta/lexicarta/glossary/TextStyle" "VERB" "Lcom/example/lexicarta/lexicarta/glossary/TextStyle;" (.ref w2)) (P5 : Sta Z Z.heap "com/example/lexicarta/lexicarta/glossary/TextStyle" "KEYWORD" "Lcom/example/lexicarta/lexicarta/glossary/TextStyle;" (.ref w3)) (P6 : ¬ zc = 0) :
    MetFree l x (head1 (Jvm.Cond.code x code maxLocals ret :: ws) room_1) (fun a_ U_ => a_ = #[(.int i0), (.int i1), (.int i2)] ∧ Z.Warmed39 U_.vm ∧ U_.heap = h0 ∧ CHv Z EL0 U_.vm h0) (fun _ _ _ _ _ => True) (fun _ U_ o_ U_' => ∃ v_ L_, o_ = .returned v_ ∧ Q_law_ Z i0 i1 i2 w0 w1 w2 w3 wE zc h0 n0 v_ U_'.heap L_ ∧ CHr Z EL0 U_.vm U_.heap U_'.vm U_'.heap ∧ ReturnedEndW U_ o_ U_' L_ room_1.cells room_1.slots) := by
  have hzc := P6
  refine MetFree.of_bodySF (plainFor_of_name pn_45097445) hisR ?_
  intro p e s m args below meth c s₁ Bd hml0 hP0 hK
  obtain ⟨rfl, hZ, hh, hCH⟩ := hP0
  have hx := Bd.exec
  have hby := Bd.bytes
  have hml : c.maxLocals = 18 := hml0
  have hown : s.vm.findClass "com/example/lexicarta/lexicarta/glossary/SpanWithJoinedPinLaw" = some m.cls := findClass_of_methodNamed Bd.named
  have hnm := (name_of_methodNamed Bd.named Bd.method).1
  have hS0 : s.Since s.vm 0 := (State.WarmedH.refl s).since 0
  have hk0 : 0 ≤ h0.size := Nat.zero_le _
  have C0 : CHr Z EL0 s.vm h0 s.vm h0 := CHr.refl hCH
  have X0 : Stand p l e room_1 (s.setVm s.vm) m #[(.int i0), (.int i1), (.int i2)] below meth c s₁ [] 0 0 := Stand.of_body Bd
  have e0 : s₁.heap = h0 := by rw [← hh, Bd.state]; rfl
  have N0 := Fr.nil n0
  obtain ⟨P, hP, R0⟩ : ∃ P : State → Prop, (∀ t_, P t_ → Steps p.tables e below (s₁.setTop (entryFrame m #[(.int i0), (.int i1), (.int i2)] maxLocals)) t_) ∧ Go p e below P s₁ (mkF m 0 #[.val (.int i0), .val (.int i1), .val (.int i2), .unset, .unset, .unset, .unset, .unset, .unset, .unset, .unset, .unset, .unset, .unset, .unset, .unset, .unset, .unset] []) := ⟨_, fun _ h => h, fun t_ k_ => castTop (ef_law_ m i0 i1 i2) k_⟩
  have R145 : Go p e below P s₁ (mkF m 1 #[.val (.int i0), .val (.int i1), .val (.int i2), .unset, .unset, .unset, .unset, .unset, .unset, .unset, .unset, .unset, .unset, .unset, .unset, .unset, .unset, .unset] [(.int i0)]) := fun t_ k_ => R0 t_ (XS.iloadN X0.here hx rfl (hb hby at_0) rfl k_)
  have R146 : Go p e below P s₁ (mkF m 4 #[.val (.int i0), .val (.int i1), .val (.int i2), .unset, .unset, .unset, .unset, .unset, .unset, .unset, .unset, .unset, .unset, .unset, .unset, .unset, .unset, .unset] [(.int (255 : Int32)), (.int i0)]) := fun t_ k_ => R145 t_ (XS.sipush X0.here hx rfl (hb hby at_1) k_)
  have R147 : Go p e below P s₁ (mkF m 5 #[.val (.int i0), .val (.int i1), .val (.int i2), .unset, .unset, .unset, .unset, .unset, .unset, .unset, .unset, .unset, .unset, .unset, .unset, .unset, .unset, .unset] [(.int (i0 &&& (255 : Int32)))]) := fun t_ k_ => R146 t_ (XS.iand X0.here hx rfl (hb hby at_4) rfl k_)
  have R148 : Go p e below P s₁ (mkF m 6 #[.val (.int i0), .val (.int i1), .val (.int i2), .unset, .unset, .unset, .unset, .unset, .unset, .unset, .unset, .unset, .unset, .unset, .unset, .unset, .unset, .unset] [(.int ((i0 &&& (255 : Int32)).toUInt32.toUInt16.toUInt32.toInt32))]) := fun t_ k_ => R147 t_ (XS.i2c X0.here hx rfl (hb hby at_5) rfl k_)
  obtain ⟨c0, hc0⟩ : ∃ z : Int32, z = ((i0 &&& (255 : Int32)).toUInt32.toUInt16.toUInt32.toInt32) := ⟨_, rfl⟩
  have R149 : Go p e below P s₁ (mkF m 6 #[.val (.int i0), .val (.int i1), .val (.int i2), .unset, .unset, .unset, .unset, .unset, .unset, .unset, .unset, .unset, .unset, .unset, .unset, .unset, .unset, .unset] [(.int c0)]) := by rw [hc0]; exact R148
  have cc0 : nar .char c0 = c0 ∧ ¬ c0 < 0 ∧ ¬ (255 : Int32) < c0 := by rw [hc0]; exact chr255 _
  have R150 : Go p e below P s₁ (mkF m 7 #[.val (.int i0), .val (.int i1), .val (.int i2), .val (.int c0), .unset, .unset, .unset, .unset, .unset, .unset, .unset, .unset, .unset, .unset, .unset, .unset, .unset, .unset] []) := fun t_ k_ => R149 t_ (XS.istoreN X0.here hx rfl (hb hby at_6) rfl (l' := #[.val (.int i0), .val (.int i1), .val (.int i2), .val (.int c0), .unset, .unset, .unset, .unset, .unset, .unset, .unset, .unset, .unset, .unset, .unset, .unset, .unset, .unset]) rfl k_)
  have R151 : Go p e below P s₁ (mkF m 8 #[.val (.int i0), .val (.int i1), .val (.int i2), .val (.int c0), .unset, .unset, .unset, .unset, .unset, .unset, .unset, .unset, .unset, .unset, .unset, .unset, .unset, .unset] [(.int i0)]) := fun t_ k_ => R150 t_ (XS.iloadN X0.here hx rfl (hb hby at_7) rfl k_)
  have R152 : Go p e below P s₁ (mkF m 10 #[.val (.int i0), .val (.int i1), .val (.int i2), .val (.int c0), .unset, .unset, .unset, .unset, .unset, .unset, .unset, .unset, .unset, .unset, .unset, .unset, .unset, .unset] [(.int (8 : Int32)), (.int i0)]) := fun t_ k_ => R151 t_ (XS.bipush X0.here hx rfl (hb hby at_8) k_)
  have R153 : Go p e below P s₁ (mkF m 11 #[.val (.int i0), .val (.int i1), .val (.int i2), .val (.int c0), .unset, .unset, .unset, .unset, .unset, .unset, .unset, .unset, .unset, .unset, .unset, .unset, .unset, .unset] [(.int ((i0.toUInt32 >>> ((8 : Int32) &&& 31).toUInt32).toInt32))]) := fun t_ k_ => R152 t_ (XS.iushr X0.here hx rfl (hb hby at_10) rfl k_)
  have R154 : Go p e below P s₁ (mkF m 14 #[.val (.int i0), .val (.int i1), .val (.int i2), .val (.int c0), .unset, .unset, .unset, .unset, .unset, .unset, .unset, .unset, .unset, .unset, .unset, .unset, .unset, .unset] [(.int (255 : Int32)), (.int ((i0.toUInt32 >>> ((8 : Int32) &&& 31).toUInt32).toInt32))]) := fun t_ k_ => R153 t_ (XS.sipush X0.here hx rfl (hb hby at_11) k_)
  have R155 : Go p e below P s₁ (mkF m 15 #[.val (.int i0), .val (.int i1), .val (.int i2), .val (.int c0), .unset, .unset, .unset, .unset, .unset, .unset, .unset, .unset, .unset, .unset, .unset, .unset, .unset, .unset] [(.int (((i0.toUInt32 >>> ((8 : Int32) &&& 31).toUInt32).toInt32) &&& (255 : Int32)))]) := fun t_ k_ => R154 t_ (XS.iand X0.here hx rfl (hb hby at_14) rfl k_)
  have R156 : Go p e below P s₁ (mkF m 16 #[.val (.int i0), .val (.int i1), .val (.int i2), .val (.int c0), .unset, .unset, .unset, .unset, .unset, .unset, .unset, .unset, .unset, .unset, .unset, .unset, .unset, .unset] [(.int ((((i0.toUInt32 >>> ((8 : Int32) &&& 31).toUInt32).toInt32) &&& (255 : Int32)).toUInt32.toUInt16.toUInt32.toInt32))]) := fun t_ k_ => R155 t_ (XS.i2c X0.here hx rfl (hb hby at_15) rfl k_)
  obtain ⟨c1, hc1⟩ : ∃ z : Int32, z = ((((i0.toUInt32 >>> ((8 : Int32) &&& 31).toUInt32).toInt32) &&& (255 : Int32)).toUInt32.toUInt16.toUInt32.toInt32) := ⟨_, rfl⟩
  have R157 : Go p e below P s₁ (mkF m 16 #[.val (.int i0), .val (.int i1), .val (.int i2), .val (.int c0), .unset, .unset, .unset, .unset, .unset, .unset, .unset, .unset, .unset, .unset, .unset, .unset, .unset, .unset] [(.int c1)]) := by rw [hc1]; exact R156
  have cc1 : nar .char c1 = c1 ∧ ¬ c1 < 0 ∧ ¬ (255 : Int32) < c1 := by rw [hc1]; exact chr255 _
  have R158 : Go p e below P s₁ (mkF m 18 #[.val (.int i0), .val (.int i1), .val (.int i2), .val (.int c0), .val (.int c1), .unset, .unset, .unset, .unset, .unset, .unset, .unset, .unset, .unset, .unset, .unset, .unset, .unset] []) := fun t_ k_ => R157 t_ (XS.istore X0.here hx rfl (hb hby at_16) rfl (l' := #[.val (.int i0), .val (.int i1), .val (.int i2), .val (.int c0), .val (.int c1), .unset, .unset, .unset, .unset, .unset, .unset, .unset, .unset, .unset, .unset, .unset, .unset, .unset]) rfl k_)
  have R159 : Go p e below P s₁ (mkF m 19 #[.val (.int i0), .val (.int i1), .val (.int i2), .val (.int c0), .val (.int c1), .unset, .unset, .unset, .unset, .unset, .unset, .unset, .unset, .unset, .unset, .unset, .unset, .unset] [(.int i0)]) := fun t_ k_ => R158 t_ (XS.iloadN X0.here hx rfl (hb hby at_18) rfl k_)
  have R160 : Go p e below P s₁ (mkF m 21 #[.val (.int i0), .val (.int i1), .val (.int i2), .val (.int c0), .val (.int c1), .unset, .unset, .unset, .unset, .unset, .unset, .unset, .unset, .unset, .unset, .unset, .unset, .unset] [(.int (16 : Int32)), (.int i0)]) := fun t_ k_ => R159 t_ (XS.bipush X0.here hx rfl (hb hby at_19) k_)
  have R161 : Go p e below P s₁ (mkF m 22 #[.val (.int i0), .val (.int i1), .val (.int i2), .val (.int c0), .val (.int c1), .unset, .unset, .unset, .unset, .unset, .unset, .unset, .unset, .unset, .unset, .unset, .unset, .unset] [(.int ((i0.toUInt32 >>> ((16 : Int32) &&& 31).toUInt32).toInt32))]) := fun t_ k_ => R160 t_ (XS.iushr X0.here hx rfl (hb hby at_21) rfl k_)
  have R162 : Go p e below P s₁ (mkF m 23 #[.val (.int i0), .val (.int i1), .val (.int i2), .val (.int c0), .val (.int c1), .unset, .unset, .unset, .unset, .unset, .unset, .unset, .unset, .unset, .unset, .unset, .unset, .unset] [(.int (3 : Int32)), (.int ((i0.toUInt32 >>> ((16 : Int32) &&& 31).toUInt32).toInt32))]) := fun t_ k_ => R161 t_ (XS.iconst X0.here hx rfl (hb hby at_22) k_)
  have R163 : Go p e below P s₁ (mkF m 24 #[.val (.int i0), .val (.int i1), .val (.int i2), .val (.int c0), .val (.int c1), .unset, .unset, .unset, .unset, .unset, .unset, .unset, .unset, .unset, .unset, .unset, .unset, .unset] [(.int (((i0.toUInt32 >>> ((16 : Int32) &&& 31).toUInt32).toInt32) &&& (3 : Int32)))]) := fun t_ k_ => R162 t_ (XS.iand X0.here hx rfl (hb hby at_23) rfl k_)
  obtain ⟨ln, hln⟩ : ∃ z : Int32, z = (((i0.toUInt32 >>> ((16 : Int32) &&& 31).toUInt32).toInt32) &&& (3 : Int32)) := ⟨_, rfl⟩
  have R164 : Go p e below P s₁ (mkF m 24 #[.val (.int i0), .val (.int i1), .val (.int i2), .val (.int c0), .val (.int c1), .unset, .unset, .unset, .unset, .unset, .unset, .unset, .unset, .unset, .unset, .unset, .unset, .unset] [(.int ln)]) := by rw [hln]; exact R163
  have R165 : Go p e below P s₁ (mkF m 26 #[.val (.int i0), .val (.int i1), .val (.int i2), .val (.int c0), .val (.int c1), .val (.int ln), .unset, .unset, .unset, .unset, .unset, .unset, .unset, .unset, .unset, .unset, .unset, .unset] []) := fun t_ k_ => R164 t_ (XS.istore X0.here hx rfl (hb hby at_24) rfl (l' := #[.val (.int i0), .val (.int i1), .val (.int i2), .val (.int c0), .val (.int c1), .val (.int ln), .unset, .unset, .unset, .unset, .unset, .unset, .unset, .unset, .unset, .unset, .unset, .unset]) rfl k_)
  have R166 : Go p e below P s₁ (mkF m 27 #[.val (.int i0), .val (.int i1), .val (.int i2), .val (.int c0), .val (.int c1), .val (.int ln), .unset, .unset, .unset, .unset, .unset, .unset, .unset, .unset, .unset, .unset, .unset, .unset] [(.int (2 : Int32))]) := fun t_ k_ => R165 t_ (XS.iconst X0.here hx rfl (hb hby at_26) k_)
  obtain ⟨T167, h167, k167, X167, e167, E167, A167, st167⟩ := newP X0 hx hZ (hw _ (List.mem_of_getElem? (i := 0) rfl)) e0 (g := (mkF m 27 #[.val (.int i0), .val (.int i1), .val (.int i2), .val (.int c0), .val (.int c1), .val (.int ln), .unset, .unset, .unset, .unset, .unset, .unset, .unset, .unset, .unset, .unset, .unset, .unset] [(.int (2 : Int32))])) rfl (hb hby at_27) rfl (by decide) (cap := 2) (by decide) (by decide) (by decide) (by decide)
  obtain ⟨b167, g167⟩ : ∃ z, z = h0.size := ⟨_, rfl⟩
  rw [← g167] at A167 st167
  have O167 := O0.ext E167
  have V167 : Arv Z h167 b167 k167 .char (2 : Int32) [(.int (0 : Int32)), (.int (0 : Int32))] (.int (0 : Int32)) := (Arv.new A167 (by decide)).pad (pad_rep [] (.int (0 : Int32)) 2)
  have C168 := C0.trans (CHr.ext E167 C0.1)
  have hk168 := Nat.le_trans hk0 E167.1
  have Sb167 : Safe Z EL0 _ _ _ := Safe.ext E167 C0.1 (Safe.new (Nat.le_of_eq g167.symm))
  have R169 : Go p e below P T167 (mkF m 29 #[.val (.int i0), .val (.int i1), .val (.int i2), .val (.int c0), .val (.int c1), .val (.int ln), .unset, .unset, .unset, .unset, .unset, .unset, .unset, .unset, .unset, .unset, .unset, .unset] [(.ref b167)]) := fun t_ k_ => R166 t_ (st167 t_ k_)
  have R170 : Go p e below P T167 (mkF m 31 #[.val (.int i0), .val (.int i1), .val (.int i2), .val (.int c0), .val (.int c1), .val (.int ln), .val (.ref b167), .unset, .unset, .unset, .unset, .unset, .unset, .unset, .unset, .unset, .unset, .unset] []) := fun t_ k_ => R169 t_ (XS.astore X167.here hx rfl (hb hby at_29) rfl rfl (l' := #[.val (.int i0), .val (.int i1), .val (.int i2), .val (.int c0), .val (.int c1), .val (.int ln), .val (.ref b167), .unset, .unset, .unset, .unset, .unset, .unset, .unset, .unset, .unset, .unset, .unset]) rfl k_)
  have R171 : Go p e below P T167 (mkF m 33 #[.val (.int i0), .val (.int i1), .val (.int i2), .val (.int c0), .val (.int c1), .val (.int ln), .val (.ref b167), .unset, .unset, .unset, .unset, .unset, .unset, .unset, .unset, .unset, .unset, .unset] [(.ref b167)]) := fun t_ k_ => R170 t_ (XS.aload X167.here hx rfl (hb hby at_31) rfl rfl k_)
  have R172 : Go p e below P T167 (mkF m 34 #[.val (.int i0), .val (.int i1), .val (.int i2), .val (.int c0), .val (.int c1), .val (.int ln), .val (.ref b167), .unset, .unset, .unset, .unset, .unset, .unset, .unset, .unset, .unset, .unset, .unset] [(.int (0 : Int32)), (.ref b167)]) := fun t_ k_ => R171 t_ (XS.iconst X167.here hx rfl (hb hby at_33) k_)
  have R173 : Go p e below P T167 (mkF m 35 #[.val (.int i0), .val (.int i1), .val (.int i2), .val (.int c0), .val (.int c1), .val (.int ln), .val (.ref b167), .unset, .unset, .unset, .unset, .unset, .unset, .unset, .unset, .unset, .unset, .unset] [(.int c0), (.int (0 : Int32)), (.ref b167)]) := fun t_ k_ => R172 t_ (XS.iloadN X167.here hx rfl (hb hby at_34) rfl k_)
  obtain ⟨cl174, cl174A, cl174q, cl174S, cl174N, cl174H, cl174G⟩ := id V167
  obtain ⟨T175, h175, X175, e175, W175, st175⟩ := stC X167 hx hZ e167 cl174A (j := (0 : Int32)) (inb_of cl174S ⟨by decide, by decide⟩) (g := (mkF m 35 #[.val (.int i0), .val (.int i1), .val (.int i2), .val (.int c0), .val (.int c1), .val (.int ln), .val (.ref b167), .unset, .unset, .unset, .unset, .unset, .unset, .unset, .unset, .unset, .unset, .unset] [(.int c0), (.int (0 : Int32)), (.ref b167)])) rfl rfl (hb hby at_35)
  have V175 : Arv Z h175 b167 k167 .char (2 : Int32) [(.int (nar .char c0)), (.int (0 : Int32))] (.int (0 : Int32)) := Arv.set cl174A cl174q cl174S cl174N cl174H cl174G (fits_nar_char _) W175 0 rfl (Nat.le_of_ble_eq_true rfl)
  have Sw176 : Safe Z EL0 _ _ b167 := Sb167
  have N175 := Fr.snoc X175 N0 (Nat.le_trans (oldLe O0) (Nat.le_of_eq g167.symm))
  have O175 := O167.wr W175 (Nat.le_trans (oldLe O0) (Nat.le_of_eq g167.symm))
  have V175s : Arv Z h175 b167 k167 .char (2 : Int32) [(.int c0), (.int (0 : Int32))] (.int (0 : Int32)) := by have q := V175; rw [cc0.1] at q; exact q
  have C177 := C168.trans (CHr.wr W175 Sw176 C168.1)
  have hk177 := Nat.le_trans hk168 (Keep.of_wr W175).1
  have R178 : Go p e below P T175 (mkF m 36 #[.val (.int i0), .val (.int i1), .val (.int i2), .val (.int c0), .val (.int c1), .val (.int ln), .val (.ref b167), .unset, .unset, .unset, .unset, .unset, .unset, .unset, .unset, .unset, .unset, .unset] []) := fun t_ k_ => R173 t_ (st175 t_ k_)
  have R179 : Go p e below P T175 (mkF m 38 #[.val (.int i0), .val (.int i1), .val (.int i2), .val (.int c0), .val (.int c1), .val (.int ln), .val (.ref b167), .unset, .unset, .unset, .unset, .unset, .unset, .unset, .unset, .unset, .unset, .unset] [(.ref b167)]) := fun t_ k_ => R178 t_ (XS.aload X175.here hx rfl (hb hby at_36) rfl rfl k_)
  have R180 : Go p e below P T175 (mkF m 39 #[.val (.int i0), .val (.int i1), .val (.int i2), .val (.int c0), .val (.int c1), .val (.int ln), .val (.ref b167), .unset, .unset, .unset, .unset, .unset, .unset, .unset, .unset, .unset, .unset, .unset] [(.int (1 : Int32)), (.ref b167)]) := fun t_ k_ => R179 t_ (XS.iconst X175.here hx rfl (hb hby at_38) k_)
  have R181 : Go p e below P T175 (mkF m 41 #[.val (.int i0), .val (.int i1), .val (.int i2), .val (.int c0), .val (.int c1), .val (.int ln), .val (.ref b167), .unset, .unset, .unset, .unset, .unset, .unset, .unset, .unset, .unset, .unset, .unset] [(.int c1), (.int (1 : Int32)), (.ref b167)]) := fun t_ k_ => R180 t_ (XS.iload X175.here hx rfl (hb hby at_39) rfl k_)
  obtain ⟨cl182, cl182A, cl182q, cl182S, cl182N, cl182H, cl182G⟩ := id V175s
  obtain ⟨T183, h183, X183, e183, W183, st183⟩ := stC X175 hx hZ e175 cl182A (j := (1 : Int32)) (inb_of cl182S ⟨by decide, by decide⟩) (g := (mkF m 41 #[.val (.int i0), .val (.int i1), .val (.int i2), .val (.int c0), .val (.int c1), .val (.int ln), .val (.ref b167), .unset, .unset, .unset, .unset, .unset, .unset, .unset, .unset, .unset, .unset, .unset] [(.int c1), (.int (1 : Int32)), (.ref b167)])) rfl rfl (hb hby at_41)
  have V183 : Arv Z h183 b167 k167 .char (2 : Int32) [(.int c0), (.int (nar .char c1))] (.int (0 : Int32)) := Arv.set cl182A cl182q cl182S cl182N cl182H cl182G (fits_nar_char _) W183 1 rfl (Nat.le_of_ble_eq_true rfl)
  have f185 := (Safe.wr W175 Sw176 C168.1 Sw176)
  have Sw184 : Safe Z EL0 _ _ b167 := f185
  have N183 := Fr.snoc X183 N175 (Nat.le_trans (oldLe O0) (Nat.le_of_eq g167.symm))
  have O183 := O175.wr W183 (Nat.le_trans (oldLe O0) (Nat.le_of_eq g167.symm))
  have V183s : Arv Z h183 b167 k167 .char (2 : Int32) [(.int c0), (.int c1)] (.int (0 : Int32)) := by have q := V183; rw [cc1.1] at q; exact q
  have C186 := C177.trans (CHr.wr W183 Sw184 C177.1)
  have hk186 := Nat.le_trans hk177 (Keep.of_wr W183).1
  have R187 : Go p e below P T183 (mkF m 42 #[.val (.int i0), .val (.int i1), .val (.int i2), .val (.int c0), .val (.int c1), .val (.int ln), .val (.ref b167), .unset, .unset, .unset, .unset, .unset, .unset, .unset, .unset, .unset, .unset, .unset] []) := fun t_ k_ => R181 t_ (st183 t_ k_)
  obtain ⟨tx, vmJ219, T219, LJ219, kJ219, X219, N219, K219, hS219, hk219, hZ, hown, hJ219, R219j, -⟩ : ∃ tx : Addr, PosW p l e room_1 s m #[(.int i0), (.int i1), (.int i2)] below meth c P Z n0 "com/example/lexicarta/lexicarta/glossary/SpanWithJoinedPinLaw" EL0 h0 h183 [] 3 8 (mkF m 80 #[.val (.int i0), .val (.int i1), .val (.int i2), .val (.int c0), .val (.int c1), .val (.int ln), .val (.ref b167), .val (.ref tx), .unset, .unset, .unset, .unset, .unset, .unset, .unset, .unset, .unset, .unset] []) (fun jh_ => True) := by
    have R188 : Go p e below P T183 (mkF m 44 #[.val (.int i0), .val (.int i1), .val (.int i2), .val (.int c0), .val (.int c1), .val (.int ln), .val (.ref b167), .unset, .unset, .unset, .unset, .unset, .unset, .unset, .unset, .unset, .unset, .unset] [(.int ln)]) := fun t_ k_ => R187 t_ (XS.iload X183.here hx rfl (hb hby at_42) rfl k_)
    by_cases hc189 : ln = (0 : Int32)
    · have R190 : Go p e below P T183 (mkF m 47 #[.val (.int i0), .val (.int i1), .val (.int i2), .val (.int c0), .val (.int c1), .val (.int ln), .val (.ref b167), .unset, .unset, .unset, .unset, .unset, .unset, .unset, .unset, .unset, .unset, .unset] []) := fun t_ k_ => R188 t_ (XS.ifNo X183.here hx rfl (hb hby at_44) rfl ((if0 _ _).trans (teq hc189).2) k_)
      obtain ⟨a191, T191, h191, k191x, X191, e191, E191, hS191, hk191, hZ, hown, hC191, hL191, st191⟩ := ldcOH X183 hx hZ hown (hw _ (List.mem_of_getElem? (i := 1) rfl)) (wS_of hw) e183 hS0 hk186 hEL C186.1 (text := "") (g := (mkF m 47 #[.val (.int i0), .val (.int i1), .val (.int i2), .val (.int c0), .val (.int c1), .val (.int ln), .val (.ref b167), .unset, .unset, .unset, .unset, .unset, .unset, .unset, .unset, .unset, .unset, .unset] [])) rfl (hb hby at_47) (n := 0) (by decide) (by decide) (by decide) (by decide)
      have O191 := O183.ext E191
      have C192 := C186.trans hC191
      have R193 : Go p e below P T191 (mkF m 49 #[.val (.int i0), .val (.int i1), .val (.int i2), .val (.int c0), .val (.int c1), .val (.int ln), .val (.ref b167), .unset, .unset, .unset, .unset, .unset, .unset, .unset, .unset, .unset, .unset, .unset] [(.ref a191)]) := fun t_ k_ => R190 t_ (st191 t_ k_)
      have R194 : Go p e below P T191 (mkF m 51 #[.val (.int i0), .val (.int i1), .val (.int i2), .val (.int c0), .val (.int c1), .val (.int ln), .val (.ref b167), .val (.ref a191), .unset, .unset, .unset, .unset, .unset, .unset, .unset, .unset, .unset, .unset] []) := fun t_ k_ => R193 t_ (XS.astore X191.here hx rfl (hb hby at_49) rfl rfl (l' := #[.val (.int i0), .val (.int i1), .val (.int i2), .val (.int c0), .val (.int c1), .val (.int ln), .val (.ref b167), .val (.ref a191), .unset, .unset, .unset, .unset, .unset, .unset, .unset, .unset, .unset, .unset]) rfl k_)
      have R195 : Go p e below P T191 (mkF m 80 #[.val (.int i0), .val (.int i1), .val (.int i2), .val (.int c0), .val (.int c1), .val (.int ln), .val (.ref b167), .val (.ref a191), .unset, .unset, .unset, .unset, .unset, .unset, .unset, .unset, .unset, .unset] []) := fun t_ k_ => R194 t_ (XS.goto X191.here hx rfl (pc0 := 51) (pc' := 80) rfl (hb hby at_51) (by decide) (by decide) k_)
      exact ⟨a191, _, T191, _, _, X191.mono (by decide) (by decide), N183, (e191.symm ▸ ((Keep.refl h183 []).ext E191)), hS191, (by rw [e191]; exact hk191), hZ, hown, (e191.symm ▸ C192), R195, trivial⟩
    · have R196 : Go p e below P T183 (mkF m 54 #[.val (.int i0), .val (.int i1), .val (.int i2), .val (.int c0), .val (.int c1), .val (.int ln), .val (.ref b167), .unset, .unset, .unset, .unset, .unset, .unset, .unset, .unset, .unset, .unset, .unset] []) := fun t_ k_ => R188 t_ (XS.ifYes X183.here hx rfl (pc0 := 44) (pc' := 54) rfl (hb hby at_44) rfl ((if0 _ _).trans (feq hc189).2) (by decide) (by decide) k_)
      have R197 : Go p e below P T183 (mkF m 56 #[.val (.int i0), .val (.int i1), .val (.int i2), .val (.int c0), .val (.int c1), .val (.int ln), .val (.ref b167), .unset, .unset, .unset, .unset, .unset, .unset, .unset, .unset, .unset, .unset, .unset] [(.int ln)]) := fun t_ k_ => R196 t_ (XS.iload X183.here hx rfl (hb hby at_54) rfl k_)
      have R198 : Go p e below P T183 (mkF m 57 #[.val (.int i0), .val (.int i1), .val (.int i2), .val (.int c0), .val (.int c1), .val (.int ln), .val (.ref b167), .unset, .unset, .unset, .unset, .unset, .unset, .unset, .unset, .unset, .unset, .unset] [(.int (1 : Int32)), (.int ln)]) := fun t_ k_ => R197 t_ (XS.iconst X183.here hx rfl (hb hby at_56) k_)
      by_cases hc199 : ln = (1 : Int32)
      · have R200 : Go p e below P T183 (mkF m 60 #[.val (.int i0), .val (.int i1), .val (.int i2), .val (.int c0), .val (.int c1), .val (.int ln), .val (.ref b167), .unset, .unset, .unset, .unset, .unset, .unset, .unset, .unset, .unset, .unset, .unset] []) := fun t_ k_ => R198 t_ (XS.icmpNo X183.here hx rfl (hb hby at_57) rfl (teq hc199).2 k_)
        have R201 : Go p e below P T183 (mkF m 61 #[.val (.int i0), .val (.int i1), .val (.int i2), .val (.int c0), .val (.int c1), .val (.int ln), .val (.ref b167), .unset, .unset, .unset, .unset, .unset, .unset, .unset, .unset, .unset, .unset, .unset] [(.int c0)]) := fun t_ k_ => R200 t_ (XS.iloadN X183.here hx rfl (hb hby at_60) rfl k_)
        obtain ⟨rv202, _, ⟨T202, L202, k202, n202⟩, -, X202, ⟨Lc202, hQ202, l202, y202, z202⟩, st202⟩ := Jvm.LawKit.callS X183 hx (y := (⟨"java/lang/String", "valueOf", "(C)Ljava/lang/String;"⟩ : MethodName)) hown (mvT hZ (hw _ (List.mem_of_getElem? (i := 108) rfl))) (mvT hZ (hw _ (List.mem_of_getElem? (i := 109) rfl))) (mvT hZ (hw _ (List.mem_of_getElem? (i := 2) rfl))) (mvT hZ (hw _ (List.mem_of_getElem? (i := 110) rfl))) (by decide) (backOf (W := 0) (valueOfC_ l Z a0 hw [] c0 zc h183 n0 O183 P0 hzc cc0) hZ (hw _ (List.mem_of_getElem? (i := 110) rfl)) (hw _ (List.mem_of_getElem? (i := 2) rfl)) (by decide) (by decide)) (g := (mkF m 61 #[.val (.int i0), .val (.int i1), .val (.int i2), .val (.int c0), .val (.int c1), .val (.int ln), .val (.ref b167), .unset, .unset, .unset, .unset, .unset, .unset, .unset, .unset, .unset, .unset, .unset] [(.int c0)])) rfl (by rw [hml]; rfl) (argsL := [(.int c0)]) (rest := []) (lenOf pd_88050445 rfl) rfl (by show 2 * 0 + _ ≤ _; exact Nat.le_of_eq rfl) (hb hby at_61) (fun _ _ => ⟨rfl, e183, (by decide : 1 + 2 ≤ _), (by decide : 2 + 5 ≤ _)⟩)
        dsimp only [Pt.U, Pt.locs, Pt.cells, Pt.slots] at X202 l202 y202 z202 st202 hQ202
        subst l202 y202 z202
        obtain ⟨x_202, t_202, kb_202, rfl, N202q, K202, p202_0, p202_1, p202_2, p202_3, p202_4, p202_5⟩ := hQ202
        have N202 := Fr.app N183 N202q
        have O202 := O183.keep K202 all0
        have C203 := C186.trans (CHr.keep K202 sf0 C186.1)
        have hk203 := Nat.le_trans hk186 K202.1
        have R204 : Go p e below P T202 (mkF m 64 #[.val (.int i0), .val (.int i1), .val (.int i2), .val (.int c0), .val (.int c1), .val (.int ln), .val (.ref b167), .unset, .unset, .unset, .unset, .unset, .unset, .unset, .unset, .unset, .unset, .unset] [(.ref x_202)]) := fun t_ k_ => R201 t_ (st202 t_ k_)
        have R205 : Go p e below P T202 (mkF m 66 #[.val (.int i0), .val (.int i1), .val (.int i2), .val (.int c0), .val (.int c1), .val (.int ln), .val (.ref b167), .val (.ref x_202), .unset, .unset, .unset, .unset, .unset, .unset, .unset, .unset, .unset, .unset] []) := fun t_ k_ => R204 t_ (XS.astore X202.here hx rfl (hb hby at_64) rfl rfl (l' := #[.val (.int i0), .val (.int i1), .val (.int i2), .val (.int c0), .val (.int c1), .val (.int ln), .val (.ref b167), .val (.ref x_202), .unset, .unset, .unset, .unset, .unset, .unset, .unset, .unset, .unset, .unset]) rfl k_)
        have R206 : Go p e below P T202 (mkF m 80 #[.val (.int i0), .val (.int i1), .val (.int i2), .val (.int c0), .val (.int c1), .val (.int ln), .val (.ref b167), .val (.ref x_202), .unset, .unset, .unset, .unset, .unset, .unset, .unset, .unset, .unset, .unset] []) := fun t_ k_ => R205 t_ (XS.goto X202.here hx rfl (pc0 := 66) (pc' := 80) rfl (hb hby at_66) (by decide) (by decide) k_)
        exact ⟨x_202, _, T202, _, _, X202.mono (by decide) (by decide), N202, ((Keep.refl h183 []).trans K202 all0), hS0, (by rw [(rfl : T202.heap = T202.heap)]; exact hk203), hZ, hown, C203, R206, trivial⟩
      · have R207 : Go p e below P T183 (mkF m 69 #[.val (.int i0), .val (.int i1), .val (.int i2), .val (.int c0), .val (.int c1), .val (.int ln), .val (.ref b167), .unset, .unset, .unset, .unset, .unset, .unset, .unset, .unset, .unset, .unset, .unset] []) := fun t_ k_ => R198 t_ (XS.icmpYes X183.here hx rfl (pc0 := 57) (pc' := 69) rfl (hb hby at_57) rfl (feq hc199).2 (by decide) (by decide) k_)
        obtain ⟨T208, h208, X208, e208, E208, A208, D208, -, st208⟩ := newO X183 hx hZ hown (hw _ (List.mem_of_getElem? (i := 77) rfl)) (hw _ (List.mem_of_getElem? (i := 3) rfl)) (hw _ (List.mem_of_getElem? (i := 2) rfl)) e183 (g := (mkF m 69 #[.val (.int i0), .val (.int i1), .val (.int i2), .val (.int c0), .val (.int c1), .val (.int ln), .val (.ref b167), .unset, .unset, .unset, .unset, .unset, .unset, .unset, .unset, .unset, .unset, .unset] [])) rfl (hb hby at_69) (by decide) (by decide)
        obtain ⟨b208, g208⟩ : ∃ z, z = h183.size := ⟨_, rfl⟩
        rw [← g208] at A208 D208 st208
        have O208 := O183.ext E208
        have C209 := C186.trans (CHr.ext E208 C186.1)
        have hk209 := Nat.le_trans hk186 E208.1
        have Sb208 : Safe Z EL0 _ _ _ := Safe.ext E208 C186.1 (Safe.new (Nat.le_of_eq g208.symm))
        have F208_5 : Fld Z h208 b208 "java/lang/String" "value" "[B" .null := D208 (Or.inr (hw _ (List.mem_of_getElem? (i := 5) rfl))) (ty := (.array .byte)) (by decide)
        have F208_6 : Fld Z h208 b208 "java/lang/String" "coder" "B" (.int (0 : Int32)) := D208 (Or.inr (hw _ (List.mem_of_getElem? (i := 6) rfl))) (ty := .byte) (by decide)
        have R210 : Go p e below P T208 (mkF m 72 #[.val (.int i0), .val (.int i1), .val (.int i2), .val (.int c0), .val (.int c1), .val (.int ln), .val (.ref b167), .unset, .unset, .unset, .unset, .unset, .unset, .unset, .unset, .unset, .unset, .unset] [(.ref b208)]) := fun t_ k_ => R207 t_ (st208 t_ k_)
        have R211 : Go p e below P T208 (mkF m 73 #[.val (.int i0), .val (.int i1), .val (.int i2), .val (.int c0), .val (.int c1), .val (.int ln), .val (.ref b167), .unset, .unset, .unset, .unset, .unset, .unset, .unset, .unset, .unset, .unset, .unset] [(.ref b208), (.ref b208)]) := fun t_ k_ => R210 t_ (XS.dup X208.here hx rfl (hb hby at_72) rfl rfl k_)
        have R212 : Go p e below P T208 (mkF m 75 #[.val (.int i0), .val (.int i1), .val (.int i2), .val (.int c0), .val (.int c1), .val (.int ln), .val (.ref b167), .unset, .unset, .unset, .unset, .unset, .unset, .unset, .unset, .unset, .unset, .unset] [(.ref b167), (.ref b208), (.ref b208)]) := fun t_ k_ => R211 t_ (XS.aload X208.here hx rfl (hb hby at_73) rfl rfl k_)
        have f213 := (V183s.ext E208)
        have Sw214 : Safe Z EL0 _ _ b208 := Sb208
        obtain ⟨rv215, _, ⟨T215, L215, k215, n215⟩, -, X215, ⟨Lc215, hQ215, l215, y215, z215⟩, st215⟩ := X208.specialBack hx (y := (⟨"java/lang/String", "<init>", "([C)V"⟩ : MethodName)) rfl hown (mvT hZ (hw _ (List.mem_of_getElem? (i := 78) rfl))) (mvT hZ (hw _ (List.mem_of_getElem? (i := 79) rfl))) (mvT hZ (hw _ (List.mem_of_getElem? (i := 80) rfl))) (by decide) (StrChars.Road.backV (W := 1) hZ (w_backV hw) (kI := 4) (hw _ (List.mem_of_getElem? (i := 3) rfl)) (cs := ([c0, c1] : List Int32)) (bs := ([c0, c1] : List Int32).map (fun c => c.toInt8.toInt32)) (n := 2) (Nat.le_trans (oldLe O183) (Nat.le_of_eq g208.symm)) (oldLe O208) A208 F208_5 F208_6 f213 (P0.ext O208.2) hzc rfl rfl (by decide) (by decide) (by intro c hc; simp only [List.mem_cons, List.not_mem_nil, or_false] at hc; rcases hc with rfl | rfl <;> first | exact cc0.2 | exact cc1.2) rfl (by decide) (by decide)) (g := (mkF m 75 #[.val (.int i0), .val (.int i1), .val (.int i2), .val (.int c0), .val (.int c1), .val (.int ln), .val (.ref b167), .unset, .unset, .unset, .unset, .unset, .unset, .unset, .unset, .unset, .unset, .unset] [(.ref b167), (.ref b208), (.ref b208)])) rfl (by rw [hml]; rfl) (Steps.refl _) (a := b208) (argsL := [(.ref b167)]) (rest := [(.ref b208)]) (lenOf pd_42155922 rfl) rfl (by show 2 * 0 + _ ≤ _; exact Nat.le_of_eq rfl) (hb hby at_75) (fun _ _ => ⟨rfl, e208, (by decide : 2 + 1 ≤ _), (by decide : 6 + 2 ≤ _)⟩)
        dsimp only [Pt.U, Pt.locs, Pt.cells, Pt.slots] at X215 l215 y215 z215 st215 hQ215
        subst l215 y215 z215
        obtain ⟨rfl, N215q, K215, pE215, pC215, t215, kb215, -, lt215, tn215, pV215, pA215⟩ := hQ215
        have N215 := Fr.app N183 N215q
        have O215 := O208.keep K215 (allS (Nat.le_trans (oldLe O183) (Nat.le_of_eq g208.symm)) all0)
        have C216 := C209.trans (CHr.keep K215 (sfS Sw214 sf0) C209.1)
        have hk216 := Nat.le_trans hk209 K215.1
        have pB215 : Arv Z T215.heap t215 kb215 .byte (Int32.ofNat ([c0, c1] : List Int32).length) ((([c0, c1] : List Int32).map StrChars.lo8).map Value.int) (.int (0 : Int32)) := pA215
        have R217 : Go p e below P T215 (mkF m 78 #[.val (.int i0), .val (.int i1), .val (.int i2), .val (.int c0), .val (.int c1), .val (.int ln), .val (.ref b167), .unset, .unset, .unset, .unset, .unset, .unset, .unset, .unset, .unset, .unset, .unset] [(.ref b208)]) := fun t_ k_ => R212 t_ (st215.trans k_)
        have R218 : Go p e below P T215 (mkF m 80 #[.val (.int i0), .val (.int i1), .val (.int i2), .val (.int c0), .val (.int c1), .val (.int ln), .val (.ref b167), .val (.ref b208), .unset, .unset, .unset, .unset, .unset, .unset, .unset, .unset, .unset, .unset] []) := fun t_ k_ => R217 t_ (XS.astore X215.here hx rfl (hb hby at_78) rfl rfl (l' := #[.val (.int i0), .val (.int i1), .val (.int i2), .val (.int c0), .val (.int c1), .val (.int ln), .val (.ref b167), .val (.ref b208), .unset, .unset, .unset, .unset, .unset, .unset, .unset, .unset, .unset, .unset]) rfl k_)
        exact ⟨b208, _, T215, _, _, X215.mono (by decide) (by decide), N215, (((Keep.refl h183 []).ext E208).trans K215 (allS (Or.inr (Nat.le_of_eq g208.symm)) all0)), hS0, (by rw [(rfl : T215.heap = T215.heap)]; exact hk216), hZ, hown, C216, R218, trivial⟩
  have hZ : Z.Warmed39 (s.setVm vmJ219).vm := hZ
  have hown : (s.setVm vmJ219).vm.findClass "com/example/lexicarta/lexicarta/glossary/SpanWithJoinedPinLaw" = some m.cls := hown
  have O219 := O183.keep K219 all0
  have C220 := hJ219
  have R221 : Go p e below P T219 (mkF m 81 #[.val (.int i0), .val (.int i1), .val (.int i2), .val (.int c0), .val (.int c1), .val (.int ln), .val (.ref b167), .val (.ref tx), .unset, .unset, .unset, .unset, .unset, .unset, .unset, .unset, .unset, .unset] [(.int i1)]) := fun t_ k_ => R219j t_ (XS.iloadN X219.here hx rfl (hb hby at_80) rfl k_)
  have R222 : Go p e below P T219 (mkF m 83 #[.val (.int i0), .val (.int i1), .val (.int i2), .val (.int c0), .val (.int c1), .val (.int ln), .val (.ref b167), .val (.ref tx), .unset, .unset, .unset, .unset, .unset, .unset, .unset, .unset, .unset, .unset] [(.int (2147483647 : Int32)), (.int i1)]) := fun t_ k_ => R221 t_ (X219.ldcInt hx hown (mvT hZ (hw _ (List.mem_of_getElem? (i := 9) rfl))) (g := (mkF m 81 #[.val (.int i0), .val (.int i1), .val (.int i2), .val (.int c0), .val (.int c1), .val (.int ln), .val (.ref b167), .val (.ref tx), .unset, .unset, .unset, .unset, .unset, .unset, .unset, .unset, .unset, .unset] [(.int i1)])) rfl (hb hby at_81) _ k_)
  have R223 : Go p e below P T219 (mkF m 84 #[.val (.int i0), .val (.int i1), .val (.int i2), .val (.int c0), .val (.int c1), .val (.int ln), .val (.ref b167), .val (.ref tx), .unset, .unset, .unset, .unset, .unset, .unset, .unset, .unset, .unset, .unset] [(.int (i1 &&& (2147483647 : Int32)))]) := fun t_ k_ => R222 t_ (XS.iand X219.here hx rfl (hb hby at_83) rfl k_)
  have R224 : Go p e below P T219 (mkF m 85 #[.val (.int i0), .val (.int i1), .val (.int i2), .val (.int c0), .val (.int c1), .val (.int ln), .val (.ref b167), .val (.ref tx), .unset, .unset, .unset, .unset, .unset, .unset, .unset, .unset, .unset, .unset] [(.int (5 : Int32)), (.int (i1 &&& (2147483647 : Int32)))]) := fun t_ k_ => R223 t_ (XS.iconst X219.here hx rfl (hb hby at_84) k_)
  have R225 : Go p e below P T219 (mkF m 86 #[.val (.int i0), .val (.int i1), .val (.int i2), .val (.int c0), .val (.int c1), .val (.int ln), .val (.ref b167), .val (.ref tx), .unset, .unset, .unset, .unset, .unset, .unset, .unset, .unset, .unset, .unset] [(.int ((i1 &&& (2147483647 : Int32)) % (5 : Int32)))]) := fun t_ k_ => R224 t_ (iremM X219 hx rfl (hb hby at_85) rfl (by decide) k_)
  obtain ⟨kk, hkk⟩ : ∃ z : Int32, z = ((i1 &&& (2147483647 : Int32)) % (5 : Int32)) := ⟨_, rfl⟩
  have R226 : Go p e below P T219 (mkF m 86 #[.val (.int i0), .val (.int i1), .val (.int i2), .val (.int c0), .val (.int c1), .val (.int ln), .val (.ref b167), .val (.ref tx), .unset, .unset, .unset, .unset, .unset, .unset, .unset, .unset, .unset, .unset] [(.int kk)]) := by rw [hkk]; exact R225
  have R227 : Go p e below P T219 (mkF m 88 #[.val (.int i0), .val (.int i1), .val (.int i2), .val (.int c0), .val (.int c1), .val (.int ln), .val (.ref b167), .val (.ref tx), .val (.int kk), .unset, .unset, .unset, .unset, .unset, .unset, .unset, .unset, .unset] []) := fun t_ k_ => R226 t_ (XS.istore X219.here hx rfl (hb hby at_86) rfl (l' := #[.val (.int i0), .val (.int i1), .val (.int i2), .val (.int c0), .val (.int c1), .val (.int ln), .val (.ref b167), .val (.ref tx), .val (.int kk), .unset, .unset, .unset, .unset, .unset, .unset, .unset, .unset, .unset]) rfl k_)
  obtain ⟨bs, sy, sl, vmJ292, T292, LJ292, kJ292, X292, N292, K292, hS292, hk292, hZ, hown, hJ292, R292j, pj292_0, pj292_1, pj292_2, pj292_3, pj292_4⟩ : ∃ bs : Addr, ∃ sy : Addr, ∃ sl : Slot, PosW p l e room_1 s m #[(.int i0), (.int i1), (.int i2)] below meth c P Z n0 "com/example/lexicarta/lexicarta/glossary/SpanWithJoinedPinLaw" EL0 h0 T219.heap [] 5 12 (mkF m 159 #[.val (.int i0), .val (.int i1), .val (.int i2), .val (.int c0), .val (.int c1), .val (.int ln), .val (.ref b167), .val (.ref tx), .val (.int kk), .val (.ref bs), sl, .unset, .unset, .unset, .unset, .unset, .unset, .unset] []) (fun jh_ => (Exa Z jh_ bs "com/example/lexicarta/lexicarta/glossary/Span") ∧ (Fld Z jh_ bs "com/example/lexicarta/lexicarta/glossary/Span" "text" "Ljava/lang/String;" (.ref tx)) ∧ (Fld Z jh_ bs "com/example/lexicarta/lexicarta/glossary/Span" "style" "Ljava/util/Optional;" (.ref sy)) ∧ (Fld Z jh_ bs "com/example/lexicarta/lexicarta/glossary/Span" "joined" "Z" (.int (0 : Int32))) ∧ (One sl)) := by
    have R228 : Go p e below P T219 (mkF m 90 #[.val (.int i0), .val (.int i1), .val (.int i2), .val (.int c0), .val (.int c1), .val (.int ln), .val (.ref b167), .val (.ref tx), .val (.int kk), .unset, .unset, .unset, .unset, .unset, .unset, .unset, .unset, .unset] [(.int kk)]) := fun t_ k_ => R227 t_ (XS.iload X219.here hx rfl (hb hby at_88) rfl k_)
    by_cases hc229 : kk = (0 : Int32)
    · have R230 : Go p e below P T219 (mkF m 93 #[.val (.int i0), .val (.int i1), .val (.int i2), .val (.int c0), .val (.int c1), .val (.int ln), .val (.ref b167), .val (.ref tx), .val (.int kk), .unset, .unset, .unset, .unset, .unset, .unset, .unset, .unset, .unset] []) := fun t_ k_ => R228 t_ (XS.ifNo X219.here hx rfl (hb hby at_90) rfl ((if0 _ _).trans (teq hc229).2) k_)
      have R231 : Go p e below P T219 (mkF m 95 #[.val (.int i0), .val (.int i1), .val (.int i2), .val (.int c0), .val (.int c1), .val (.int ln), .val (.ref b167), .val (.ref tx), .val (.int kk), .unset, .unset, .unset, .unset, .unset, .unset, .unset, .unset, .unset] [(.ref tx)]) := fun t_ k_ => R230 t_ (XS.aload X219.here hx rfl (hb hby at_93) rfl rfl k_)
      obtain ⟨rv232, _, ⟨T232, L232, k232, n232⟩, -, X232, ⟨Lc232, hQ232, l232, y232, z232⟩, st232⟩ := Jvm.LawKit.callS X219 hx (y := (⟨"com/example/lexicarta/lexicarta/glossary/Span", "plain", "(Ljava/lang/String;)Lcom/example/lexicarta/lexicarta/glossary/Span;"⟩ : MethodName)) hown (mvT hZ (hw _ (List.mem_of_getElem? (i := 101) rfl))) (mvT hZ (hw _ (List.mem_of_getElem? (i := 102) rfl))) (mvT hZ (hw _ (List.mem_of_getElem? (i := 15) rfl))) (mvT hZ (hw _ (List.mem_of_getElem? (i := 103) rfl))) (by decide) (backOf (W := 0) (splain_ l Z a0 hw [] tx wE T219.heap n0 O219 P1) hZ (hw _ (List.mem_of_getElem? (i := 103) rfl)) (hw _ (List.mem_of_getElem? (i := 15) rfl)) (by decide) (by decide)) (g := (mkF m 95 #[.val (.int i0), .val (.int i1), .val (.int i2), .val (.int c0), .val (.int c1), .val (.int ln), .val (.ref b167), .val (.ref tx), .val (.int kk), .unset, .unset, .unset, .unset, .unset, .unset, .unset, .unset, .unset] [(.ref tx)])) rfl (by rw [hml]; rfl) (argsL := [(.ref tx)]) (rest := []) (lenOf pd_31356609 rfl) rfl (by show 2 * 0 + _ ≤ _; exact Nat.le_of_eq rfl) (hb hby at_95) (fun _ _ => ⟨rfl, (rfl : T219.heap = T219.heap), (by decide : 3 + 1 ≤ _), (by decide : 8 + 3 ≤ _)⟩)
      dsimp only [Pt.U, Pt.locs, Pt.cells, Pt.slots] at X232 l232 y232 z232 st232 hQ232
      subst l232 y232 z232
      obtain ⟨r_232, y_232, rfl, N232q, K232, p232_0, p232_1, p232_2, p232_3, p232_4⟩ := hQ232
      have N232 := Fr.app N219 N232q
      have O232 := O219.keep K232 all0
      have C233 := C220.trans (CHr.keep K232 sf0 C220.1)
      have hk233 := Nat.le_trans hk219 K232.1
      have R234 : Go p e below P T232 (mkF m 98 #[.val (.int i0), .val (.int i1), .val (.int i2), .val (.int c0), .val (.int c1), .val (.int ln), .val (.ref b167), .val (.ref tx), .val (.int kk), .unset, .unset, .unset, .unset, .unset, .unset, .unset, .unset, .unset] [(.ref r_232)]) := fun t_ k_ => R231 t_ (st232 t_ k_)
      have R235 : Go p e below P T232 (mkF m 100 #[.val (.int i0), .val (.int i1), .val (.int i2), .val (.int c0), .val (.int c1), .val (.int ln), .val (.ref b167), .val (.ref tx), .val (.int kk), .val (.ref r_232), .unset, .unset, .unset, .unset, .unset, .unset, .unset, .unset] []) := fun t_ k_ => R234 t_ (XS.astore X232.here hx rfl (hb hby at_98) rfl rfl (l' := #[.val (.int i0), .val (.int i1), .val (.int i2), .val (.int c0), .val (.int c1), .val (.int ln), .val (.ref b167), .val (.ref tx), .val (.int kk), .val (.ref r_232), .unset, .unset, .unset, .unset, .unset, .unset, .unset, .unset]) rfl k_)
      have R236 : Go p e below P T232 (mkF m 159 #[.val (.int i0), .val (.int i1), .val (.int i2), .val (.int c0), .val (.int c1), .val (.int ln), .val (.ref b167), .val (.ref tx), .val (.int kk), .val (.ref r_232), .unset, .unset, .unset, .unset, .unset, .unset, .unset, .unset] []) := fun t_ k_ => R235 t_ (XS.goto X232.here hx rfl (pc0 := 100) (pc' := 159) rfl (hb hby at_100) (by decide) (by decide) k_)
      exact ⟨r_232, y_232, (.unset), _, T232, _, _, X232.mono (by decide) (by decide), N232, ((Keep.refl T219.heap []).trans K232 all0), hS219, (by rw [(rfl : T232.heap = T232.heap)]; exact hk233), hZ, hown, C233, R236, p232_1, p232_2, p232_3, p232_4, One.u⟩
    · have R237 : Go p e below P T219 (mkF m 103 #[.val (.int i0), .val (.int i1), .val (.int i2), .val (.int c0), .val (.int c1), .val (.int ln), .val (.ref b167), .val (.ref tx), .val (.int kk), .unset, .unset, .unset, .unset, .unset, .unset, .unset, .unset, .unset] []) := fun t_ k_ => R228 t_ (XS.ifYes X219.here hx rfl (pc0 := 90) (pc' := 103) rfl (hb hby at_90) rfl ((if0 _ _).trans (feq hc229).2) (by decide) (by decide) k_)
      have R238 : Go p e below P T219 (mkF m 105 #[.val (.int i0), .val (.int i1), .val (.int i2), .val (.int c0), .val (.int c1), .val (.int ln), .val (.ref b167), .val (.ref tx), .val (.int kk), .unset, .unset, .unset, .unset, .unset, .unset, .unset, .unset, .unset] [(.int kk)]) := fun t_ k_ => R237 t_ (XS.iload X219.here hx rfl (hb hby at_103) rfl k_)
      have R239 : Go p e below P T219 (mkF m 106 #[.val (.int i0), .val (.int i1), .val (.int i2), .val (.int c0), .val (.int c1), .val (.int ln), .val (.ref b167), .val (.ref tx), .val (.int kk), .unset, .unset, .unset, .unset, .unset, .unset, .unset, .unset, .unset] [(.int (1 : Int32)), (.int kk)]) := fun t_ k_ => R238 t_ (XS.iconst X219.here hx rfl (hb hby at_105) k_)
      by_cases hc240 : kk = (1 : Int32)
      · have R241 : Go p e below P T219 (mkF m 109 #[.val (.int i0), .val (.int i1), .val (.int i2), .val (.int c0), .val (.int c1), .val (.int ln), .val (.ref b167), .val (.ref tx), .val (.int kk), .unset, .unset, .unset, .unset, .unset, .unset, .unset, .unset, .unset] []) := fun t_ k_ => R239 t_ (XS.icmpNo X219.here hx rfl (hb hby at_106) rfl (teq hc240).2 k_)
        obtain ⟨T242, X242, e242, st242⟩ := getS2 X219 hx hZ hown (host := "") (Or.inl (hw _ (List.mem_of_getElem? (i := 99) rfl))) Via.refl (rfl : T219.heap = T219.heap) (P2.ext O219.2) (g := (mkF m 109 #[.val (.int i0), .val (.int i1), .val (.int i2), .val (.int c0), .val (.int c1), .val (.int ln), .val (.ref b167), .val (.ref tx), .val (.int kk), .unset, .unset, .unset, .unset, .unset, .unset, .unset, .unset, .unset] [])) rfl (hb hby at_109)
        have R243 : Go p e below P T242 (mkF m 112 #[.val (.int i0), .val (.int i1), .val (.int i2), .val (.int c0), .val (.int c1), .val (.int ln), .val (.ref b167), .val (.ref tx), .val (.int kk), .unset, .unset, .unset, .unset, .unset, .unset, .unset, .unset, .unset] [(.ref w0)]) := fun t_ k_ => R241 t_ (st242 t_ k_)
        have R244 : Go p e below P T242 (mkF m 114 #[.val (.int i0), .val (.int i1), .val (.int i2), .val (.int c0), .val (.int c1), .val (.int ln), .val (.ref b167), .val (.ref tx), .val (.int kk), .unset, .val (.ref w0), .unset, .unset, .unset, .unset, .unset, .unset, .unset] []) := fun t_ k_ => R243 t_ (XS.astore X242.here hx rfl (hb hby at_112) rfl rfl (l' := #[.val (.int i0), .val (.int i1), .val (.int i2), .val (.int c0), .val (.int c1), .val (.int ln), .val (.ref b167), .val (.ref tx), .val (.int kk), .unset, .val (.ref w0), .unset, .unset, .unset, .unset, .unset, .unset, .unset]) rfl k_)
        have R245 : Go p e below P T242 (mkF m 150 #[.val (.int i0), .val (.int i1), .val (.int i2), .val (.int c0), .val (.int c1), .val (.int ln), .val (.ref b167), .val (.ref tx), .val (.int kk), .unset, .val (.ref w0), .unset, .unset, .unset, .unset, .unset, .unset, .unset] []) := fun t_ k_ => R244 t_ (XS.goto X242.here hx rfl (pc0 := 114) (pc' := 150) rfl (hb hby at_114) (by decide) (by decide) k_)
        have R246 : Go p e below P T242 (mkF m 152 #[.val (.int i0), .val (.int i1), .val (.int i2), .val (.int c0), .val (.int c1), .val (.int ln), .val (.ref b167), .val (.ref tx), .val (.int kk), .unset, .val (.ref w0), .unset, .unset, .unset, .unset, .unset, .unset, .unset] [(.ref tx)]) := fun t_ k_ => R245 t_ (XS.aload X242.here hx rfl (hb hby at_150) rfl rfl k_)
        have R247 : Go p e below P T242 (mkF m 154 #[.val (.int i0), .val (.int i1), .val (.int i2), .val (.int c0), .val (.int c1), .val (.int ln), .val (.ref b167), .val (.ref tx), .val (.int kk), .unset, .val (.ref w0), .unset, .unset, .unset, .unset, .unset, .unset, .unset] [(.ref w0), (.ref tx)]) := fun t_ k_ => R246 t_ (XS.aload X242.here hx rfl (hb hby at_152) rfl rfl k_)
        obtain ⟨rv248, _, ⟨T248, L248, k248, n248⟩, -, X248, ⟨Lc248, hQ248, l248, y248, z248⟩, st248⟩ := Jvm.LawKit.callS X242 hx (y := (⟨"com/example/lexicarta/lexicarta/glossary/Span", "of", "(Ljava/lang/String;Lcom/example/lexicarta/lexicarta/glossary/TextStyle;)Lcom/example/lexicarta/lexicarta/glossary/Span;"⟩ : MethodName)) hown (mvT hZ (hw _ (List.mem_of_getElem? (i := 13) rfl))) (mvT hZ (hw _ (List.mem_of_getElem? (i := 14) rfl))) (mvT hZ (hw _ (List.mem_of_getElem? (i := 15) rfl))) (mvT hZ (hw _ (List.mem_of_getElem? (i := 16) rfl))) (by decide) (backOf (W := 0) (sof_ l Z a0 hw [] tx w0 T219.heap n0 O219) hZ (hw _ (List.mem_of_getElem? (i := 16) rfl)) (hw _ (List.mem_of_getElem? (i := 15) rfl)) (by decide) (by decide)) (g := (mkF m 154 #[.val (.int i0), .val (.int i1), .val (.int i2), .val (.int c0), .val (.int c1), .val (.int ln), .val (.ref b167), .val (.ref tx), .val (.int kk), .unset, .val (.ref w0), .unset, .unset, .unset, .unset, .unset, .unset, .unset] [(.ref w0), (.ref tx)])) rfl (by rw [hml]; rfl) (argsL := [(.ref tx), (.ref w0)]) (rest := []) (lenOf pd_21959538 rfl) rfl (by show 2 * 0 + _ ≤ _; exact Nat.le_of_eq rfl) (hb hby at_154) (fun _ _ => ⟨rfl, e242, (by decide : 3 + 2 ≤ _), (by decide : 8 + 4 ≤ _)⟩)
        dsimp only [Pt.U, Pt.locs, Pt.cells, Pt.slots] at X248 l248 y248 z248 st248 hQ248
        subst l248 y248 z248
        obtain ⟨r_248, y_248, rfl, N248q, K248, p248_0, p248_1, p248_2, p248_3, p248_4⟩ := hQ248
        have N248 := Fr.app N219 N248q
        have O248 := O219.keep K248 all0
        have C249 := C220.trans (CHr.keep K248 sf0 C220.1)
        have hk249 := Nat.le_trans hk219 K248.1
        have R250 : Go p e below P T248 (mkF m 157 #[.val (.int i0), .val (.int i1), .val (.int i2), .val (.int c0), .val (.int c1), .val (.int ln), .val (.ref b167), .val (.ref tx), .val (.int kk), .unset, .val (.ref w0), .unset, .unset, .unset, .unset, .unset, .unset, .unset] [(.ref r_248)]) := fun t_ k_ => R247 t_ (st248 t_ k_)
        have R251 : Go p e below P T248 (mkF m 159 #[.val (.int i0), .val (.int i1), .val (.int i2), .val (.int c0), .val (.int c1), .val (.int ln), .val (.ref b167), .val (.ref tx), .val (.int kk), .val (.ref r_248), .val (.ref w0), .unset, .unset, .unset, .unset, .unset, .unset, .unset] []) := fun t_ k_ => R250 t_ (XS.astore X248.here hx rfl (hb hby at_157) rfl rfl (l' := #[.val (.int i0), .val (.int i1), .val (.int i2), .val (.int c0), .val (.int c1), .val (.int ln), .val (.ref b167), .val (.ref tx), .val (.int kk), .val (.ref r_248), .val (.ref w0), .unset, .unset, .unset, .unset, .unset, .unset, .unset]) rfl k_)
        exact ⟨r_248, y_248, (.val (.ref w0)), _, T248, _, _, X248.mono (by decide) (by decide), N248, ((Keep.refl T219.heap []).trans K248 all0), hS219, (by rw [(rfl : T248.heap = T248.heap)]; exact hk249), hZ, hown, C249, R251, p248_1, p248_2, p248_3, p248_4, (One.val rfl)⟩
      · have R252 : Go p e below P T219 (mkF m 117 #[.val (.int i0), .val (.int i1), .val (.int i2), .val (.int c0), .val (.int c1), .val (.int ln), .val (.ref b167), .val (.ref tx), .val (.int kk), .unset, .unset, .unset, .unset, .unset, .unset, .unset, .unset, .unset] []) := fun t_ k_ => R239 t_ (XS.icmpYes X219.here hx rfl (pc0 := 106) (pc' := 117) rfl (hb hby at_106) rfl (feq hc240).2 (by decide) (by decide) k_)
        have R253 : Go p e below P T219 (mkF m 119 #[.val (.int i0), .val (.int i1), .val (.int i2), .val (.int c0), .val (.int c1), .val (.int ln), .val (.ref b167), .val (.ref tx), .val (.int kk), .unset, .unset, .unset, .unset, .unset, .unset, .unset, .unset, .unset] [(.int kk)]) := fun t_ k_ => R252 t_ (XS.iload X219.here hx rfl (hb hby at_117) rfl k_)
        have R254 : Go p e below P T219 (mkF m 120 #[.val (.int i0), .val (.int i1), .val (.int i2), .val (.int c0), .val (.int c1), .val (.int ln), .val (.ref b167), .val (.ref tx), .val (.int kk), .unset, .unset, .unset, .unset, .unset, .unset, .unset, .unset, .unset] [(.int (2 : Int32)), (.int kk)]) := fun t_ k_ => R253 t_ (XS.iconst X219.here hx rfl (hb hby at_119) k_)
        by_cases hc255 : kk = (2 : Int32)
        · have R256 : Go p e below P T219 (mkF m 123 #[.val (.int i0), .val (.int i1), .val (.int i2), .val (.int c0), .val (.int c1), .val (.int ln), .val (.ref b167), .val (.ref tx), .val (.int kk), .unset, .unset, .unset, .unset, .unset, .unset, .unset, .unset, .unset] []) := fun t_ k_ => R254 t_ (XS.icmpNo X219.here hx rfl (hb hby at_120) rfl (teq hc255).2 k_)
          obtain ⟨T257, X257, e257, st257⟩ := getS2 X219 hx hZ hown (host := "") (Or.inl (hw _ (List.mem_of_getElem? (i := 73) rfl))) Via.refl (rfl : T219.heap = T219.heap) (P3.ext O219.2) (g := (mkF m 123 #[.val (.int i0), .val (.int i1), .val (.int i2), .val (.int c0), .val (.int c1), .val (.int ln), .val (.ref b167), .val (.ref tx), .val (.int kk), .unset, .unset, .unset, .unset, .unset, .unset, .unset, .unset, .unset] [])) rfl (hb hby at_123)
          have R258 : Go p e below P T257 (mkF m 126 #[.val (.int i0), .val (.int i1), .val (.int i2), .val (.int c0), .val (.int c1), .val (.int ln), .val (.ref b167), .val (.ref tx), .val (.int kk), .unset, .unset, .unset, .unset, .unset, .unset, .unset, .unset, .unset] [(.ref w1)]) := fun t_ k_ => R256 t_ (st257 t_ k_)
          have R259 : Go p e below P T257 (mkF m 128 #[.val (.int i0), .val (.int i1), .val (.int i2), .val (.int c0), .val (.int c1), .val (.int ln), .val (.ref b167), .val (.ref tx), .val (.int kk), .unset, .val (.ref w1), .unset, .unset, .unset, .unset, .unset, .unset, .unset] []) := fun t_ k_ => R258 t_ (XS.astore X257.here hx rfl (hb hby at_126) rfl rfl (l' := #[.val (.int i0), .val (.int i1), .val (.int i2), .val (.int c0), .val (.int c1), .val (.int ln), .val (.ref b167), .val (.ref tx), .val (.int kk), .unset, .val (.ref w1), .unset, .unset, .unset, .unset, .unset, .unset, .unset]) rfl k_)
          have R260 : Go p e below P T257 (mkF m 150 #[.val (.int i0), .val (.int i1), .val (.int i2), .val (.int c0), .val (.int c1), .val (.int ln), .val (.ref b167), .val (.ref tx), .val (.int kk), .unset, .val (.ref w1), .unset, .unset, .unset, .unset, .unset, .unset, .unset] []) := fun t_ k_ => R259 t_ (XS.goto X257.here hx rfl (pc0 := 128) (pc' := 150) rfl (hb hby at_128) (by decide) (by decide) k_)
          have R261 : Go p e below P T257 (mkF m 152 #[.val (.int i0), .val (.int i1), .val (.int i2), .val (.int c0), .val (.int c1), .val (.int ln), .val (.ref b167), .val (.ref tx), .val (.int kk), .unset, .val (.ref w1), .unset, .unset, .unset, .unset, .unset, .unset, .unset] [(.ref tx)]) := fun t_ k_ => R260 t_ (XS.aload X257.here hx rfl (hb hby at_150) rfl rfl k_)
          have R262 : Go p e below P T257 (mkF m 154 #[.val (.int i0), .val (.int i1), .val (.int i2), .val (.int c0), .val (.int c1), .val (.int ln), .val (.ref b167), .val (.ref tx), .val (.int kk), .unset, .val (.ref w1), .unset, .unset, .unset, .unset, .unset, .unset, .unset] [(.ref w1), (.ref tx)]) := fun t_ k_ => R261 t_ (XS.aload X257.here hx rfl (hb hby at_152) rfl rfl k_)
          obtain ⟨rv263, _, ⟨T263, L263, k263, n263⟩, -, X263, ⟨Lc263, hQ263, l263, y263, z263⟩, st263⟩ := Jvm.LawKit.callS X257 hx (y := (⟨"com/example/lexicarta/lexicarta/glossary/Span", "of", "(Ljava/lang/String;Lcom/example/lexicarta/lexicarta/glossary/TextStyle;)Lcom/example/lexicarta/lexicarta/glossary/Span;"⟩ : MethodName)) hown (mvT hZ (hw _ (List.mem_of_getElem? (i := 13) rfl))) (mvT hZ (hw _ (List.mem_of_getElem? (i := 14) rfl))) (mvT hZ (hw _ (List.mem_of_getElem? (i := 15) rfl))) (mvT hZ (hw _ (List.mem_of_getElem? (i := 16) rfl))) (by decide) (backOf (W := 0) (sof_ l Z a0 hw [] tx w1 T219.heap n0 O219) hZ (hw _ (List.mem_of_getElem? (i := 16) rfl)) (hw _ (List.mem_of_getElem? (i := 15) rfl)) (by decide) (by decide)) (g := (mkF m 154 #[.val (.int i0), .val (.int i1), .val (.int i2), .val (.int c0), .val (.int c1), .val (.int ln), .val (.ref b167), .val (.ref tx), .val (.int kk), .unset, .val (.ref w1), .unset, .unset, .unset, .unset, .unset, .unset, .unset] [(.ref w1), (.ref tx)])) rfl (by rw [hml]; rfl) (argsL := [(.ref tx), (.ref w1)]) (rest := []) (lenOf pd_21959538 rfl) rfl (by show 2 * 0 + _ ≤ _; exact Nat.le_of_eq rfl) (hb hby at_154) (fun _ _ => ⟨rfl, e257, (by decide : 3 + 2 ≤ _), (by decide : 8 + 4 ≤ _)⟩)
          dsimp only [Pt.U, Pt.locs, Pt.cells, Pt.slots] at X263 l263 y263 z263 st263 hQ263
          subst l263 y263 z263
          obtain ⟨r_263, y_263, rfl, N263q, K263, p263_0, p263_1, p263_2, p263_3, p263_4⟩ := hQ263
          have N263 := Fr.app N219 N263q
          have O263 := O219.keep K263 all0
          have C264 := C220.trans (CHr.keep K263 sf0 C220.1)
          have hk264 := Nat.le_trans hk219 K263.1
          have R265 : Go p e below P T263 (mkF m 157 #[.val (.int i0), .val (.int i1), .val (.int i2), .val (.int c0), .val (.int c1), .val (.int ln), .val (.ref b167), .val (.ref tx), .val (.int kk), .unset, .val (.ref w1), .unset, .unset, .unset, .unset, .unset, .unset, .unset] [(.ref r_263)]) := fun t_ k_ => R262 t_ (st263 t_ k_)
          have R266 : Go p e below P T263 (mkF m 159 #[.val (.int i0), .val (.int i1), .val (.int i2), .val (.int c0), .val (.int c1), .val (.int ln), .val (.ref b167), .val (.ref tx), .val (.int kk), .val (.ref r_263), .val (.ref w1), .unset, .unset, .unset, .unset, .unset, .unset, .unset] []) := fun t_ k_ => R265 t_ (XS.astore X263.here hx rfl (hb hby at_157) rfl rfl (l' := #[.val (.int i0), .val (.int i1), .val (.int i2), .val (.int c0), .val (.int c1), .val (.int ln), .val (.ref b167), .val (.ref tx), .val (.int kk), .val (.ref r_263), .val (.ref w1), .unset, .unset, .unset, .unset, .unset, .unset, .unset]) rfl k_)
          exact ⟨r_263, y_263, (.val (.ref w1)), _, T263, _, _, X263.mono (by decide) (by decide), N263, ((Keep.refl T219.heap []).trans K263 all0), hS219, (by rw [(rfl : T263.heap = T263.heap)]; exact hk264), hZ, hown, C264, R266, p263_1, p263_2, p263_3, p263_4, (One.val rfl)⟩
        · have R267 : Go p e below P T219 (mkF m 131 #[.val (.int i0), .val (.int i1), .val (.int i2), .val (.int c0), .val (.int c1), .val (.int ln), .val (.ref b167), .val (.ref tx), .val (.int kk), .unset, .unset, .unset, .unset, .unset, .unset, .unset, .unset, .unset] []) := fun t_ k_ => R254 t_ (XS.icmpYes X219.here hx rfl (pc0 := 120) (pc' := 131) rfl (hb hby at_120) rfl (feq hc255).2 (by decide) (by decide) k_)
          have R268 : Go p e below P T219 (mkF m 133 #[.val (.int i0), .val (.int i1), .val (.int i2), .val (.int c0), .val (.int c1), .val (.int ln), .val (.ref b167), .val (.ref tx), .val (.int kk), .unset, .unset, .unset, .unset, .unset, .unset, .unset, .unset, .unset] [(.int kk)]) := fun t_ k_ => R267 t_ (XS.iload X219.here hx rfl (hb hby at_131) rfl k_)
          have R269 : Go p e below P T219 (mkF m 134 #[.val (.int i0), .val (.int i1), .val (.int i2), .val (.int c0), .val (.int c1), .val (.int ln), .val (.ref b167), .val (.ref tx), .val (.int kk), .unset, .unset, .unset, .unset, .unset, .unset, .unset, .unset, .unset] [(.int (3 : Int32)), (.int kk)]) := fun t_ k_ => R268 t_ (XS.iconst X219.here hx rfl (hb hby at_133) k_)
          by_cases hc270 : kk = (3 : Int32)
          · have R271 : Go p e below P T219 (mkF m 137 #[.val (.int i0), .val (.int i1), .val (.int i2), .val (.int c0), .val (.int c1), .val (.int ln), .val (.ref b167), .val (.ref tx), .val (.int kk), .unset, .unset, .unset, .unset, .unset, .unset, .unset, .unset, .unset] []) := fun t_ k_ => R269 t_ (XS.icmpNo X219.here hx rfl (hb hby at_134) rfl (teq hc270).2 k_)
            obtain ⟨T272, X272, e272, st272⟩ := getS2 X219 hx hZ hown (host := "") (Or.inl (hw _ (List.mem_of_getElem? (i := 10) rfl))) Via.refl (rfl : T219.heap = T219.heap) (P4.ext O219.2) (g := (mkF m 137 #[.val (.int i0), .val (.int i1), .val (.int i2), .val (.int c0), .val (.int c1), .val (.int ln), .val (.ref b167), .val (.ref tx), .val (.int kk), .unset, .unset, .unset, .unset, .unset, .unset, .unset, .unset, .unset] [])) rfl (hb hby at_137)
            have R273 : Go p e below P T272 (mkF m 140 #[.val (.int i0), .val (.int i1), .val (.int i2), .val (.int c0), .val (.int c1), .val (.int ln), .val (.ref b167), .val (.ref tx), .val (.int kk), .unset, .unset, .unset, .unset, .unset, .unset, .unset, .unset, .unset] [(.ref w2)]) := fun t_ k_ => R271 t_ (st272 t_ k_)
            have R274 : Go p e below P T272 (mkF m 142 #[.val (.int i0), .val (.int i1), .val (.int i2), .val (.int c0), .val (.int c1), .val (.int ln), .val (.ref b167), .val (.ref tx), .val (.int kk), .unset, .val (.ref w2), .unset, .unset, .unset, .unset, .unset, .unset, .unset] []) := fun t_ k_ => R273 t_ (XS.astore X272.here hx rfl (hb hby at_140) rfl rfl (l' := #[.val (.int i0), .val (.int i1), .val (.int i2), .val (.int c0), .val (.int c1), .val (.int ln), .val (.ref b167), .val (.ref tx), .val (.int kk), .unset, .val (.ref w2), .unset, .unset, .unset, .unset, .unset, .unset, .unset]) rfl k_)
            have R275 : Go p e below P T272 (mkF m 150 #[.val (.int i0), .val (.int i1), .val (.int i2), .val (.int c0), .val (.int c1), .val (.int ln), .val (.ref b167), .val (.ref tx), .val (.int kk), .unset, .val (.ref w2), .unset, .unset, .unset, .unset, .unset, .unset, .unset] []) := fun t_ k_ => R274 t_ (XS.goto X272.here hx rfl (pc0 := 142) (pc' := 150) rfl (hb hby at_142) (by decide) (by decide) k_)
            have R276 : Go p e below P T272 (mkF m 152 #[.val (.int i0), .val (.int i1), .val (.int i2), .val (.int c0), .val (.int c1), .val (.int ln), .val (.ref b167), .val (.ref tx), .val (.int kk), .unset, .val (.ref w2), .unset, .unset, .unset, .unset, .unset, .unset, .unset] [(.ref tx)]) := fun t_ k_ => R275 t_ (XS.aload X272.here hx rfl (hb hby at_150) rfl rfl k_)
            have R277 : Go p e below P T272 (mkF m 154 #[.val (.int i0), .val (.int i1), .val (.int i2), .val (.int c0), .val (.int c1), .val (.int ln), .val (.ref b167), .val (.ref tx), .val (.int kk), .unset, .val (.ref w2), .unset, .unset, .unset, .unset, .unset, .unset, .unset] [(.ref w2), (.ref tx)]) := fun t_ k_ => R276 t_ (XS.aload X272.here hx rfl (hb hby at_152) rfl rfl k_)
            obtain ⟨rv278, _, ⟨T278, L278, k278, n278⟩, -, X278, ⟨Lc278, hQ278, l278, y278, z278⟩, st278⟩ := Jvm.LawKit.callS X272 hx (y := (⟨"com/example/lexicarta/lexicarta/glossary/Span", "of", "(Ljava/lang/String;Lcom/example/lexicarta/lexicarta/glossary/TextStyle;)Lcom/example/lexicarta/lexicarta/glossary/Span;"⟩ : MethodName)) hown (mvT hZ (hw _ (List.mem_of_getElem? (i := 13) rfl))) (mvT hZ (hw _ (List.mem_of_getElem? (i := 14) rfl))) (mvT hZ (hw _ (List.mem_of_getElem? (i := 15) rfl))) (mvT hZ (hw _ (List.mem_of_getElem? (i := 16) rfl))) (by decide) (backOf (W := 0) (sof_ l Z a0 hw [] tx w2 T219.heap n0 O219) hZ (hw _ (List.mem_of_getElem? (i := 16) rfl)) (hw _ (List.mem_of_getElem? (i := 15) rfl)) (by decide) (by decide)) (g := (mkF m 154 #[.val (.int i0), .val (.int i1), .val (.int i2), .val (.int c0), .val (.int c1), .val (.int ln), .val (.ref b167), .val (.ref tx), .val (.int kk), .unset, .val (.ref w2), .unset, .unset, .unset, .unset, .unset, .unset, .unset] [(.ref w2), (.ref tx)])) rfl (by rw [hml]; rfl) (argsL := [(.ref tx), (.ref w2)]) (rest := []) (lenOf pd_21959538 rfl) rfl (by show 2 * 0 + _ ≤ _; exact Nat.le_of_eq rfl) (hb hby at_154) (fun _ _ => ⟨rfl, e272, (by decide : 3 + 2 ≤ _), (by decide : 8 + 4 ≤ _)⟩)
            dsimp only [Pt.U, Pt.locs, Pt.cells, Pt.slots] at X278 l278 y278 z278 st278 hQ278
            subst l278 y278 z278
            obtain ⟨r_278, y_278, rfl, N278q, K278, p278_0, p278_1, p278_2, p278_3, p278_4⟩ := hQ278
            have N278 := Fr.app N219 N278q
            have O278 := O219.keep K278 all0
            have C279 := C220.trans (CHr.keep K278 sf0 C220.1)
            have hk279 := Nat.le_trans hk219 K278.1
            have R280 : Go p e below P T278 (mkF m 157 #[.val (.int i0), .val (.int i1), .val (.int i2), .val (.int c0), .val (.int c1), .val (.int ln), .val (.ref b167), .val (.ref tx), .val (.int kk), .unset, .val (.ref w2), .unset, .unset, .unset, .unset, .unset, .unset, .unset] [(.ref r_278)]) := fun t_ k_ => R277 t_ (st278 t_ k_)
            have R281 : Go p e below P T278 (mkF m 159 #[.val (.int i0), .val (.int i1), .val (.int i2), .val (.int c0), .val (.int c1), .val (.int ln), .val (.ref b167), .val (.ref tx), .val (.int kk), .val (.ref r_278), .val (.ref w2), .unset, .unset, .unset, .unset, .unset, .unset, .unset] []) := fun t_ k_ => R280 t_ (XS.astore X278.here hx rfl (hb hby at_157) rfl rfl (l' := #[.val (.int i0), .val (.int i1), .val (.int i2), .val (.int c0), .val (.int c1), .val (.int ln), .val (.ref b167), .val (.ref tx), .val (.int kk), .val (.ref r_278), .val (.ref w2), .unset, .unset, .unset, .unset, .unset, .unset, .unset]) rfl k_)
            exact ⟨r_278, y_278, (.val (.ref w2)), _, T278, _, _, X278.mono (by decide) (by decide), N278, ((Keep.refl T219.heap []).trans K278 all0), hS219, (by rw [(rfl : T278.heap = T278.heap)]; exact hk279), hZ, hown, C279, R281, p278_1, p278_2, p278_3, p278_4, (One.val rfl)⟩
          · have R282 : Go p e below P T219 (mkF m 145 #[.val (.int i0), .val (.int i1), .val (.int i2), .val (.int c0), .val (.int c1), .val (.int ln), .val (.ref b167), .val (.ref tx), .val (.int kk), .unset, .unset, .unset, .unset, .unset, .unset, .unset, .unset, .unset] []) := fun t_ k_ => R269 t_ (XS.icmpYes X219.here hx rfl (pc0 := 134) (pc' := 145) rfl (hb hby at_134) rfl (feq hc270).2 (by decide) (by decide) k_)
            obtain ⟨T283, X283, e283, st283⟩ := getS2 X219 hx hZ hown (host := "") (Or.inl (hw _ (List.mem_of_getElem? (i := 75) rfl))) Via.refl (rfl : T219.heap = T219.heap) (P5.ext O219.2) (g := (mkF m 145 #[.val (.int i0), .val (.int i1), .val (.int i2), .val (.int c0), .val (.int c1), .val (.int ln), .val (.ref b167), .val (.ref tx), .val (.int kk), .unset, .unset, .unset, .unset, .unset, .unset, .unset, .unset, .unset] [])) rfl (hb hby at_145)
            have R284 : Go p e below P T283 (mkF m 148 #[.val (.int i0), .val (.int i1), .val (.int i2), .val (.int c0), .val (.int c1), .val (.int ln), .val (.ref b167), .val (.ref tx), .val (.int kk), .unset, .unset, .unset, .unset, .unset, .unset, .unset, .unset, .unset] [(.ref w3)]) := fun t_ k_ => R282 t_ (st283 t_ k_)
            have R285 : Go p e below P T283 (mkF m 150 #[.val (.int i0), .val (.int i1), .val (.int i2), .val (.int c0), .val (.int c1), .val (.int ln), .val (.ref b167), .val (.ref tx), .val (.int kk), .unset, .val (.ref w3), .unset, .unset, .unset, .unset, .unset, .unset, .unset] []) := fun t_ k_ => R284 t_ (XS.astore X283.here hx rfl (hb hby at_148) rfl rfl (l' := #[.val (.int i0), .val (.int i1), .val (.int i2), .val (.int c0), .val (.int c1), .val (.int ln), .val (.ref b167), .val (.ref tx), .val (.int kk), .unset, .val (.ref w3), .unset, .unset, .unset, .unset, .unset, .unset, .unset]) rfl k_)
            have R286 : Go p e below P T283 (mkF m 152 #[.val (.int i0), .val (.int i1), .val (.int i2), .val (.int c0), .val (.int c1), .val (.int ln), .val (.ref b167), .val (.ref tx), .val (.int kk), .unset, .val (.ref w3), .unset, .unset, .unset, .unset, .unset, .unset, .unset] [(.ref tx)]) := fun t_ k_ => R285 t_ (XS.aload X283.here hx rfl (hb hby at_150) rfl rfl k_)
            have R287 : Go p e below P T283 (mkF m 154 #[.val (.int i0), .val (.int i1), .val (.int i2), .val (.int c0), .val (.int c1), .val (.int ln), .val (.ref b167), .val (.ref tx), .val (.int kk), .unset, .val (.ref w3), .unset, .unset, .unset, .unset, .unset, .unset, .unset] [(.ref w3), (.ref tx)]) := fun t_ k_ => R286 t_ (XS.aload X283.here hx rfl (hb hby at_152) rfl rfl k_)
            obtain ⟨rv288, _, ⟨T288, L288, k288, n288⟩, -, X288, ⟨Lc288, hQ288, l288, y288, z288⟩, st288⟩ := Jvm.LawKit.callS X283 hx (y := (⟨"com/example/lexicarta/lexicarta/glossary/Span", "of", "(Ljava/lang/String;Lcom/example/lexicarta/lexicarta/glossary/TextStyle;)Lcom/example/lexicarta/lexicarta/glossary/Span;"⟩ : MethodName)) hown (mvT hZ (hw _ (List.mem_of_getElem? (i := 13) rfl))) (mvT hZ (hw _ (List.mem_of_getElem? (i := 14) rfl))) (mvT hZ (hw _ (List.mem_of_getElem? (i := 15) rfl))) (mvT hZ (hw _ (List.mem_of_getElem? (i := 16) rfl))) (by decide) (backOf (W := 0) (sof_ l Z a0 hw [] tx w3 T219.heap n0 O219) hZ (hw _ (List.mem_of_getElem? (i := 16) rfl)) (hw _ (List.mem_of_getElem? (i := 15) rfl)) (by decide) (by decide)) (g := (mkF m 154 #[.val (.int i0), .val (.int i1), .val (.int i2), .val (.int c0), .val (.int c1), .val (.int ln), .val (.ref b167), .val (.ref tx), .val (.int kk), .unset, .val (.ref w3), .unset, .unset, .unset, .unset, .unset, .unset, .unset] [(.ref w3), (.ref tx)])) rfl (by rw [hml]; rfl) (argsL := [(.ref tx), (.ref w3)]) (rest := []) (lenOf pd_21959538 rfl) rfl (by show 2 * 0 + _ ≤ _; exact Nat.le_of_eq rfl) (hb hby at_154) (fun _ _ => ⟨rfl, e283, (by decide : 3 + 2 ≤ _), (by decide : 8 + 4 ≤ _)⟩)
            dsimp only [Pt.U, Pt.locs, Pt.cells, Pt.slots] at X288 l288 y288 z288 st288 hQ288
            subst l288 y288 z288
            obtain ⟨r_288, y_288, rfl, N288q, K288, p288_0, p288_1, p288_2, p288_3, p288_4⟩ := hQ288
            have N288 := Fr.app N219 N288q
            have O288 := O219.keep K288 all0
            have C289 := C220.trans (CHr.keep K288 sf0 C220.1)
            have hk289 := Nat.le_trans hk219 K288.1
            have R290 : Go p e below P T288 (mkF m 157 #[.val (.int i0), .val (.int i1), .val (.int i2), .val (.int c0), .val (.int c1), .val (.int ln), .val (.ref b167), .val (.ref tx), .val (.int kk), .unset, .val (.ref w3), .unset, .unset, .unset, .unset, .unset, .unset, .unset] [(.ref r_288)]) := fun t_ k_ => R287 t_ (st288 t_ k_)
            have R291 : Go p e below P T288 (mkF m 159 #[.val (.int i0), .val (.int i1), .val (.int i2), .val (.int c0), .val (.int c1), .val (.int ln), .val (.ref b167), .val (.ref tx), .val (.int kk), .val (.ref r_288), .val (.ref w3), .unset, .unset, .unset, .unset, .unset, .unset, .unset] []) := fun t_ k_ => R290 t_ (XS.astore X288.here hx rfl (hb hby at_157) rfl rfl (l' := #[.val (.int i0), .val (.int i1), .val (.int i2), .val (.int c0), .val (.int c1), .val (.int ln), .val (.ref b167), .val (.ref tx), .val (.int kk), .val (.ref r_288), .val (.ref w3), .unset, .unset, .unset, .unset, .unset, .unset, .unset]) rfl k_)
            exact ⟨r_288, y_288, (.val (.ref w3)), _, T288, _, _, X288.mono (by decide) (by decide), N288, ((Keep.refl T219.heap []).trans K288 all0), hS219, (by rw [(rfl : T288.heap = T288.heap)]; exact hk289), hZ, hown, C289, R291, p288_1, p288_2, p288_3, p288_4, (One.val rfl)⟩
  have hZ : Z.Warmed39 (s.setVm vmJ292).vm := hZ
  have hown : (s.setVm vmJ292).vm.findClass "com/example/lexicarta/lexicarta/glossary/SpanWithJoinedPinLaw" = some m.cls := hown
  have O292 := O219.keep K292 all0
  have C293 := hJ292
  obtain ⟨fi, hj295, R294⟩ : ∃ fi : Int32, (nar .boolean fi = fi) ∧ Go p e below P T292 (mkF m 170 #[.val (.int i0), .val (.int i1), .val (.int i2), .val (.int c0), .val (.int c1), .val (.int ln), .val (.ref b167), .val (.ref tx), .val (.int kk), .val (.ref bs), sl, .unset, .unset, .unset, .unset, .unset, .unset, .unset] [(.int fi)]) := by
    have R296 : Go p e below P T292 (mkF m 160 #[.val (.int i0), .val (.int i1), .val (.int i2), .val (.int c0), .val (.int c1), .val (.int ln), .val (.ref b167), .val (.ref tx), .val (.int kk), .val (.ref bs), sl, .unset, .unset, .unset, .unset, .unset, .unset, .unset] [(.int i2)]) := fun t_ k_ => R292j t_ (XS.iloadN X292.here hx rfl (hb hby at_159) rfl k_)
    have R297 : Go p e below P T292 (mkF m 161 #[.val (.int i0), .val (.int i1), .val (.int i2), .val (.int c0), .val (.int c1), .val (.int ln), .val (.ref b167), .val (.ref tx), .val (.int kk), .val (.ref bs), sl, .unset, .unset, .unset, .unset, .unset, .unset, .unset] [(.int (1 : Int32)), (.int i2)]) := fun t_ k_ => R296 t_ (XS.iconst X292.here hx rfl (hb hby at_160) k_)
    have R298 : Go p e below P T292 (mkF m 162 #[.val (.int i0), .val (.int i1), .val (.int i2), .val (.int c0), .val (.int c1), .val (.int ln), .val (.ref b167), .val (.ref tx), .val (.int kk), .val (.ref bs), sl, .unset, .unset, .unset, .unset, .unset, .unset, .unset] [(.int (i2 &&& (1 : Int32)))]) := fun t_ k_ => R297 t_ (XS.iand X292.here hx rfl (hb hby at_161) rfl k_)
    by_cases hc299 : (i2 &&& (1 : Int32)) = (0 : Int32)
    · have R300 : Go p e below P T292 (mkF m 169 #[.val (.int i0), .val (.int i1), .val (.int i2), .val (.int c0), .val (.int c1), .val (.int ln), .val (.ref b167), .val (.ref tx), .val (.int kk), .val (.ref bs), sl, .unset, .unset, .unset, .unset, .unset, .unset, .unset] []) := fun t_ k_ => R298 t_ (XS.ifYes X292.here hx rfl (pc0 := 162) (pc' := 169) rfl (hb hby at_162) rfl ((if0 _ _).trans (teq hc299).1) (by decide) (by decide) k_)
      have R301 : Go p e below P T292 (mkF m 170 #[.val (.int i0), .val (.int i1), .val (.int i2), .val (.int c0), .val (.int c1), .val (.int ln), .val (.ref b167), .val (.ref tx), .val (.int kk), .val (.ref bs), sl, .unset, .unset, .unset, .unset, .unset, .unset, .unset] [(.int (0 : Int32))]) := fun t_ k_ => R300 t_ (XS.iconst X292.here hx rfl (hb hby at_169) k_)
      exact ⟨(0 : Int32), (by decide), R301⟩
    · have R302 : Go p e below P T292 (mkF m 165 #[.val (.int i0), .val (.int i1), .val (.int i2), .val (.int c0), .val (.int c1), .val (.int ln), .val (.ref b167), .val (.ref tx), .val (.int kk), .val (.ref bs), sl, .unset, .unset, .unset, .unset, .unset, .unset, .unset] []) := fun t_ k_ => R298 t_ (XS.ifNo X292.here hx rfl (hb hby at_162) rfl ((if0 _ _).trans (feq hc299).1) k_)
      have R303 : Go p e below P T292 (mkF m 166 #[.val (.int i0), .val (.int i1), .val (.int i2), .val (.int c0), .val (.int c1), .val (.int ln), .val (.ref b167), .val (.ref tx), .val (.int kk), .val (.ref bs), sl, .unset, .unset, .unset, .unset, .unset, .unset, .unset] [(.int (1 : Int32))]) := fun t_ k_ => R302 t_ (XS.iconst X292.here hx rfl (hb hby at_165) k_)
      have R304 : Go p e below P T292 (mkF m 170 #[.val (.int i0), .val (.int i1), .val (.int i2), .val (.int c0), .val (.int c1), .val (.int ln), .val (.ref b167), .val (.ref tx), .val (.int kk), .val (.ref bs), sl, .unset, .unset, .unset, .unset, .unset, .unset, .unset] [(.int (1 : Int32))]) := fun t_ k_ => R303 t_ (XS.goto X292.here hx rfl (pc0 := 166) (pc' := 170) rfl (hb hby at_166) (by decide) (by decide) k_)
      exact ⟨(1 : Int32), (by decide), R304⟩
  have R305 : Go p e below P T292 (mkF m 172 #[.val (.int i0), .val (.int i1), .val (.int i2), .val (.int c0), .val (.int c1), .val (.int ln), .val (.ref b167), .val (.ref tx), .val (.int kk), .val (.ref bs), .val (.int fi), .unset, .unset, .unset, .unset, .unset, .unset, .unset] []) := fun t_ k_ => R294 t_ (XS.istoreS X292.here hx rfl (hb hby at_170) rfl rfl pj292_4 k_)
  obtain ⟨ff, hj307, R306⟩ : ∃ ff : Int32, (nar .boolean ff = ff) ∧ Go p e below P T292 (mkF m 183 #[.val (.int i0), .val (.int i1), .val (.int i2), .val (.int c0), .val (.int c1), .val (.int ln), .val (.ref b167), .val (.ref tx), .val (.int kk), .val (.ref bs), .val (.int fi), .unset, .unset, .unset, .unset, .unset, .unset, .unset] [(.int ff)]) := by
    have R308 : Go p e below P T292 (mkF m 173 #[.val (.int i0), .val (.int i1), .val (.int i2), .val (.int c0), .val (.int c1), .val (.int ln), .val (.ref b167), .val (.ref tx), .val (.int kk), .val (.ref bs), .val (.int fi), .unset, .unset, .unset, .unset, .unset, .unset, .unset] [(.int i2)]) := fun t_ k_ => R305 t_ (XS.iloadN X292.here hx rfl (hb hby at_172) rfl k_)
    have R309 : Go p e below P T292 (mkF m 174 #[.val (.int i0), .val (.int i1), .val (.int i2), .val (.int c0), .val (.int c1), .val (.int ln), .val (.ref b167), .val (.ref tx), .val (.int kk), .val (.ref bs), .val (.int fi), .unset, .unset, .unset, .unset, .unset, .unset, .unset] [(.int (2 : Int32)), (.int i2)]) := fun t_ k_ => R308 t_ (XS.iconst X292.here hx rfl (hb hby at_173) k_)
    have R310 : Go p e below P T292 (mkF m 175 #[.val (.int i0), .val (.int i1), .val (.int i2), .val (.int c0), .val (.int c1), .val (.int ln), .val (.ref b167), .val (.ref tx), .val (.int kk), .val (.ref bs), .val (.int fi), .unset, .unset, .unset, .unset, .unset, .unset, .unset] [(.int (i2 &&& (2 : Int32)))]) := fun t_ k_ => R309 t_ (XS.iand X292.here hx rfl (hb hby at_174) rfl k_)
    by_cases hc311 : (i2 &&& (2 : Int32)) = (0 : Int32)
    · have R312 : Go p e below P T292 (mkF m 182 #[.val (.int i0), .val (.int i1), .val (.int i2), .val (.int c0), .val (.int c1), .val (.int ln), .val (.ref b167), .val (.ref tx), .val (.int kk), .val (.ref bs), .val (.int fi), .unset, .unset, .unset, .unset, .unset, .unset, .unset] []) := fun t_ k_ => R310 t_ (XS.ifYes X292.here hx rfl (pc0 := 175) (pc' := 182) rfl (hb hby at_175) rfl ((if0 _ _).trans (teq hc311).1) (by decide) (by decide) k_)
      have R313 : Go p e below P T292 (mkF m 183 #[.val (.int i0), .val (.int i1), .val (.int i2), .val (.int c0), .val (.int c1), .val (.int ln), .val (.ref b167), .val (.ref tx), .val (.int kk), .val (.ref bs), .val (.int fi), .unset, .unset, .unset, .unset, .unset, .unset, .unset] [(.int (0 : Int32))]) := fun t_ k_ => R312 t_ (XS.iconst X292.here hx rfl (hb hby at_182) k_)
      exact ⟨(0 : Int32), (by decide), R313⟩
    · have R314 : Go p e below P T292 (mkF m 178 #[.val (.int i0), .val (.int i1), .val (.int i2), .val (.int c0), .val (.int c1), .val (.int ln), .val (.ref b167), .val (.ref tx), .val (.int kk), .val (.ref bs), .val (.int fi), .unset, .unset, .unset, .unset, .unset, .unset, .unset] []) := fun t_ k_ => R310 t_ (XS.ifNo X292.here hx rfl (hb hby at_175) rfl ((if0 _ _).trans (feq hc311).1) k_)
      have R315 : Go p e below P T292 (mkF m 179 #[.val (.int i0), .val (.int i1), .val (.int i2), .val (.int c0), .val (.int c1), .val (.int ln), .val (.ref b167), .val (.ref tx), .val (.int kk), .val (.ref bs), .val (.int fi), .unset, .unset, .unset, .unset, .unset, .unset, .unset] [(.int (1 : Int32))]) := fun t_ k_ => R314 t_ (XS.iconst X292.here hx rfl (hb hby at_178) k_)
      have R316 : Go p e below P T292 (mkF m 183 #[.val (.int i0), .val (.int i1), .val (.int i2), .val (.int c0), .val (.int c1), .val (.int ln), .val (.ref b167), .val (.ref tx), .val (.int kk), .val (.ref bs), .val (.int fi), .unset, .unset, .unset, .unset, .unset, .unset, .unset] [(.int (1 : Int32))]) := fun t_ k_ => R315 t_ (XS.goto X292.here hx rfl (pc0 := 179) (pc' := 183) rfl (hb hby at_179) (by decide) (by decide) k_)
      exact ⟨(1 : Int32), (by decide), R316⟩
  have R317 : Go p e below P T292 (mkF m 185 #[.val (.int i0), .val (.int i1), .val (.int i2), .val (.int c0), .val (.int c1), .val (.int ln), .val (.ref b167), .val (.ref tx), .val (.int kk), .val (.ref bs), .val (.int fi), .val (.int ff), .unset, .unset, .unset, .unset, .unset, .unset] []) := fun t_ k_ => R306 t_ (XS.istore X292.here hx rfl (hb hby at_183) rfl (l' := #[.val (.int i0), .val (.int i1), .val (.int i2), .val (.int c0), .val (.int c1), .val (.int ln), .val (.ref b167), .val (.ref tx), .val (.int kk), .val (.ref bs), .val (.int fi), .val (.int ff), .unset, .unset, .unset, .unset, .unset, .unset]) rfl k_)
  have R318 : Go p e below P T292 (mkF m 187 #[.val (.int i0), .val (.int i1), .val (.int i2), .val (.int c0), .val (.int c1), .val (.int ln), .val (.ref b167), .val (.ref tx), .val (.int kk), .val (.ref bs), .val (.int fi), .val (.int ff), .unset, .unset, .unset, .unset, .unset, .unset] [(.ref bs)]) := fun t_ k_ => R317 t_ (XS.aload X292.here hx rfl (hb hby at_185) rfl rfl k_)
  obtain ⟨cq319, kq319, q319a, q319b, q319c⟩ := isOf hZ (rfl : T292.heap = T292.heap) pj292_0
  obtain ⟨rv319, _, ⟨T319, L319, k319, n319⟩, -, X319, ⟨Lc319, hQ319, l319, y319, z319⟩, st319⟩ := X292.virtualBack hx (y := (⟨"com/example/lexicarta/lexicarta/glossary/Span", "style", "()Ljava/util/Optional;"⟩ : MethodName)) (z := (⟨"com/example/lexicarta/lexicarta/glossary/Span", "style", "()Ljava/util/Optional;"⟩ : MethodName)) hown (mvT hZ (hw _ (List.mem_of_getElem? (i := 53) rfl))) (mvT hZ (hw _ (List.mem_of_getElem? (i := 54) rfl))) (notFace_of_selects (args := #[]) (mvT hZ (hw _ (List.mem_of_getElem? (i := 56) rfl)))) (mvT hZ (hw _ (List.mem_of_getElem? (i := 56) rfl))) (mvT hZ (hw _ (List.mem_of_getElem? (i := 55) rfl))) (by decide) (backOf (W := 0) (style_ l Z a0 hw [] bs sy T292.heap n0 O292 pj292_2) hZ (hw _ (List.mem_of_getElem? (i := 57) rfl)) (hw _ (List.mem_of_getElem? (i := 15) rfl)) (by decide) (by decide)) q319a q319c (g := (mkF m 187 #[.val (.int i0), .val (.int i1), .val (.int i2), .val (.int c0), .val (.int c1), .val (.int ln), .val (.ref b167), .val (.ref tx), .val (.int kk), .val (.ref bs), .val (.int fi), .val (.int ff), .unset, .unset, .unset, .unset, .unset, .unset] [(.ref bs)])) rfl (by rw [hml]; rfl) (Steps.refl _) (argsL := []) (rest := []) (lenOf pd_73631591 rfl) rfl (by show 2 * 0 + _ ≤ _; exact Nat.le_of_eq rfl) (hb hby at_187) (fun _ _ => ⟨rfl, (rfl : T292.heap = T292.heap), (by decide : 5 + 0 ≤ _), (by decide : 12 + 0 ≤ _)⟩)
  dsimp only [Pt.U, Pt.locs, Pt.cells, Pt.slots] at X319 l319 y319 z319 st319 hQ319
  subst l319 y319 z319
  obtain ⟨rfl, N319q, K319⟩ := hQ319
  have N319 := Fr.app N292 N319q
  have R320 : Go p e below P T319 (mkF m 190 #[.val (.int i0), .val (.int i1), .val (.int i2), .val (.int c0), .val (.int c1), .val (.int ln), .val (.ref b167), .val (.ref tx), .val (.int kk), .val (.ref bs), .val (.int fi), .val (.int ff), .unset, .unset, .unset, .unset, .unset, .unset] [(.ref sy)]) := fun t_ k_ => R318 t_ (st319.trans k_)
  have R321 : Go p e below P T319 (mkF m 192 #[.val (.int i0), .val (.int i1), .val (.int i2), .val (.int c0), .val (.int c1), .val (.int ln), .val (.ref b167), .val (.ref tx), .val (.int kk), .val (.ref bs), .val (.int fi), .val (.int ff), .val (.ref sy), .unset, .unset, .unset, .unset, .unset] []) := fun t_ k_ => R320 t_ (XS.astore X319.here hx rfl (hb hby at_190) rfl rfl (l' := #[.val (.int i0), .val (.int i1), .val (.int i2), .val (.int c0), .val (.int c1), .val (.int ln), .val (.ref b167), .val (.ref tx), .val (.int kk), .val (.ref bs), .val (.int fi), .val (.int ff), .val (.ref sy), .unset, .unset, .unset, .unset, .unset]) rfl k_)
  have R322 : Go p e below P T319 (mkF m 194 #[.val (.int i0), .val (.int i1), .val (.int i2), .val (.int c0), .val (.int c1), .val (.int ln), .val (.ref b167), .val (.ref tx), .val (.int kk), .val (.ref bs), .val (.int fi), .val (.int ff), .val (.ref sy), .unset, .unset, .unset, .unset, .unset] [(.ref bs)]) := fun t_ k_ => R321 t_ (XS.aload X319.here hx rfl (hb hby at_192) rfl rfl k_)
  have R323 : Go p e below P T319 (mkF m 196 #[.val (.int i0), .val (.int i1), .val (.int i2), .val (.int c0), .val (.int c1), .val (.int ln), .val (.ref b167), .val (.ref tx), .val (.int kk), .val (.ref bs), .val (.int fi), .val (.int ff), .val (.ref sy), .unset, .unset, .unset, .unset, .unset] [(.int fi), (.ref bs)]) := fun t_ k_ => R322 t_ (XS.iload X319.here hx rfl (hb hby at_194) rfl k_)
  obtain ⟨cq324, kq324, q324a, q324b, q324c⟩ := isOf hZ K319 pj292_0
  obtain ⟨rv324, _, ⟨T324, L324, k324, n324⟩, -, X324, ⟨Lc324, hQ324, l324, y324, z324⟩, st324⟩ := X319.virtualBack hx (y := (⟨"com/example/lexicarta/lexicarta/glossary/Span", "withJoined", "(Z)Lcom/example/lexicarta/lexicarta/glossary/Span;"⟩ : MethodName)) (z := (⟨"com/example/lexicarta/lexicarta/glossary/Span", "withJoined", "(Z)Lcom/example/lexicarta/lexicarta/glossary/Span;"⟩ : MethodName)) hown (mvT hZ (hw _ (List.mem_of_getElem? (i := 58) rfl))) (mvT hZ (hw _ (List.mem_of_getElem? (i := 59) rfl))) (notFace_of_selects (args := #[]) (mvT hZ (hw _ (List.mem_of_getElem? (i := 61) rfl)))) (mvT hZ (hw _ (List.mem_of_getElem? (i := 61) rfl))) (mvT hZ (hw _ (List.mem_of_getElem? (i := 60) rfl))) (by decide) (backOf (W := 0) (withJ_ l Z a0 hw [] bs tx sy fi T292.heap n0 O292 pj292_1 pj292_2 hj295) hZ (hw _ (List.mem_of_getElem? (i := 62) rfl)) (hw _ (List.mem_of_getElem? (i := 15) rfl)) (by decide) (by decide)) q324a q324c (g := (mkF m 196 #[.val (.int i0), .val (.int i1), .val (.int i2), .val (.int c0), .val (.int c1), .val (.int ln), .val (.ref b167), .val (.ref tx), .val (.int kk), .val (.ref bs), .val (.int fi), .val (.int ff), .val (.ref sy), .unset, .unset, .unset, .unset, .unset] [(.int fi), (.ref bs)])) rfl (by rw [hml]; rfl) (Steps.refl _) (argsL := [(.int fi)]) (rest := []) (lenOf pd_17888495 rfl) rfl (by show 2 * 0 + _ ≤ _; exact Nat.le_of_eq rfl) (hb hby at_196) (fun _ _ => ⟨rfl, K319, (by decide : 5 + 1 ≤ _), (by decide : 12 + 3 ≤ _)⟩)
  dsimp only [Pt.U, Pt.locs, Pt.cells, Pt.slots] at X324 l324 y324 z324 st324 hQ324
  subst l324 y324 z324
  obtain ⟨r_324, rfl, N324q, K324, p324_0, p324_1, p324_2, p324_3, p324_4⟩ := hQ324
  have N324 := Fr.app N319 N324q
  have O324 := O292.keep K324 all0
  have C325 := C293.trans (CHr.keep K324 sf0 C293.1)
  have hk325 := Nat.le_trans hk292 K324.1
  have R326 : Go p e below P T324 (mkF m 199 #[.val (.int i0), .val (.int i1), .val (.int i2), .val (.int c0), .val (.int c1), .val (.int ln), .val (.ref b167), .val (.ref tx), .val (.int kk), .val (.ref bs), .val (.int fi), .val (.int ff), .val (.ref sy), .unset, .unset, .unset, .unset, .unset] [(.ref r_324)]) := fun t_ k_ => R323 t_ (st324.trans k_)
  have R327 : Go p e below P T324 (mkF m 201 #[.val (.int i0), .val (.int i1), .val (.int i2), .val (.int c0), .val (.int c1), .val (.int ln), .val (.ref b167), .val (.ref tx), .val (.int kk), .val (.ref bs), .val (.int fi), .val (.int ff), .val (.ref sy), .val (.ref r_324), .unset, .unset, .unset, .unset] []) := fun t_ k_ => R326 t_ (XS.astore X324.here hx rfl (hb hby at_199) rfl rfl (l' := #[.val (.int i0), .val (.int i1), .val (.int i2), .val (.int c0), .val (.int c1), .val (.int ln), .val (.ref b167), .val (.ref tx), .val (.int kk), .val (.ref bs), .val (.int fi), .val (.int ff), .val (.ref sy), .val (.ref r_324), .unset, .unset, .unset, .unset]) rfl k_)
  have R328 : Go p e below P T324 (mkF m 203 #[.val (.int i0), .val (.int i1), .val (.int i2), .val (.int c0), .val (.int c1), .val (.int ln), .val (.ref b167), .val (.ref tx), .val (.int kk), .val (.ref bs), .val (.int fi), .val (.int ff), .val (.ref sy), .val (.ref r_324), .unset, .unset, .unset, .unset] [(.ref r_324)]) := fun t_ k_ => R327 t_ (XS.aload X324.here hx rfl (hb hby at_201) rfl rfl k_)
  have R329 : Go p e below P T324 (mkF m 205 #[.val (.int i0), .val (.int i1), .val (.int i2), .val (.int c0), .val (.int c1), .val (.int ln), .val (.ref b167), .val (.ref tx), .val (.int kk), .val (.ref bs), .val (.int fi), .val (.int ff), .val (.ref sy), .val (.ref r_324), .unset, .unset, .unset, .unset] [(.int ff), (.ref r_324)]) := fun t_ k_ => R328 t_ (XS.iload X324.here hx rfl (hb hby at_203) rfl k_)
  obtain ⟨cq330, kq330, q330a, q330b, q330c⟩ := isOf hZ (rfl : T324.heap = T324.heap) p324_1
  obtain ⟨rv330, _, ⟨T330, L330, k330, n330⟩, -, X330, ⟨Lc330, hQ330, l330, y330, z330⟩, st330⟩ := X324.virtualBack hx (y := (⟨"com/example/lexicarta/lexicarta/glossary/Span", "withJoined", "(Z)Lcom/example/lexicarta/lexicarta/glossary/Span;"⟩ : MethodName)) (z := (⟨"com/example/lexicarta/lexicarta/glossary/Span", "withJoined", "(Z)Lcom/example/lexicarta/lexicarta/glossary/Span;"⟩ : MethodName)) hown (mvT hZ (hw _ (List.mem_of_getElem? (i := 58) rfl))) (mvT hZ (hw _ (List.mem_of_getElem? (i := 59) rfl))) (notFace_of_selects (args := #[]) (mvT hZ (hw _ (List.mem_of_getElem? (i := 61) rfl)))) (mvT hZ (hw _ (List.mem_of_getElem? (i := 61) rfl))) (mvT hZ (hw _ (List.mem_of_getElem? (i := 60) rfl))) (by decide) (backOf (W := 0) (withJ_ l Z a0 hw [] r_324 tx sy ff T324.heap n0 O324 p324_2 p324_3 hj307) hZ (hw _ (List.mem_of_getElem? (i := 62) rfl)) (hw _ (List.mem_of_getElem? (i := 15) rfl)) (by decide) (by decide)) q330a q330c (g := (mkF m 205 #[.val (.int i0), .val (.int i1), .val (.int i2), .val (.int c0), .val (.int c1), .val (.int ln), .val (.ref b167), .val (.ref tx), .val (.int kk), .val (.ref bs), .val (.int fi), .val (.int ff), .val (.ref sy), .val (.ref r_324), .unset, .unset, .unset, .unset] [(.int ff), (.ref r_324)])) rfl (by rw [hml]; rfl) (Steps.refl _) (argsL := [(.int ff)]) (rest := []) (lenOf pd_17888495 rfl) rfl (by show 2 * 0 + _ ≤ _; exact Nat.le_of_eq rfl) (hb hby at_205) (fun _ _ => ⟨rfl, (rfl : T324.heap = T324.heap), (by decide : 6 + 1 ≤ _), (by decide : 15 + 3 ≤ _)⟩)
  dsimp only [Pt.U, Pt.locs, Pt.cells, Pt.slots] at X330 l330 y330 z330 st330 hQ330
  subst l330 y330 z330
  obtain ⟨r_330, rfl, N330q, K330, p330_0, p330_1, p330_2, p330_3, p330_4⟩ := hQ330
  have N330 := Fr.app N324 N330q
  have O330 := O324.keep K330 all0
  have C331 := C325.trans (CHr.keep K330 sf0 C325.1)
  have hk331 := Nat.le_trans hk325 K330.1
  have R332 : Go p e below P T330 (mkF m 208 #[.val (.int i0), .val (.int i1), .val (.int i2), .val (.int c0), .val (.int c1), .val (.int ln), .val (.ref b167), .val (.ref tx), .val (.int kk), .val (.ref bs), .val (.int fi), .val (.int ff), .val (.ref sy), .val (.ref r_324), .unset, .unset, .unset, .unset] [(.ref r_330)]) := fun t_ k_ => R329 t_ (st330.trans k_)
  have R333 : Go p e below P T330 (mkF m 210 #[.val (.int i0), .val (.int i1), .val (.int i2), .val (.int c0), .val (.int c1), .val (.int ln), .val (.ref b167), .val (.ref tx), .val (.int kk), .val (.ref bs), .val (.int fi), .val (.int ff), .val (.ref sy), .val (.ref r_324), .val (.ref r_330), .unset, .unset, .unset] []) := fun t_ k_ => R332 t_ (XS.astore X330.here hx rfl (hb hby at_208) rfl rfl (l' := #[.val (.int i0), .val (.int i1), .val (.int i2), .val (.int c0), .val (.int c1), .val (.int ln), .val (.ref b167), .val (.ref tx), .val (.int kk), .val (.ref bs), .val (.int fi), .val (.int ff), .val (.ref sy), .val (.ref r_324), .val (.ref r_330), .unset, .unset, .unset]) rfl k_)
  have R334 : Go p e below P T330 (mkF m 212 #[.val (.int i0), .val (.int i1), .val (.int i2), .val (.int c0), .val (.int c1), .val (.int ln), .val (.ref b167), .val (.ref tx), .val (.int kk), .val (.ref bs), .val (.int fi), .val (.int ff), .val (.ref sy), .val (.ref r_324), .val (.ref r_330), .unset, .unset, .unset] [(.ref r_324)]) := fun t_ k_ => R333 t_ (XS.aload X330.here hx rfl (hb hby at_210) rfl rfl k_)
  have f335 := (p324_1.keep K330)
  have f336 := (p324_2.keep K330 nin0)
  obtain ⟨cq337, kq337, q337a, q337b, q337c⟩ := isOf hZ (rfl : T330.heap = T330.heap) f335
  obtain ⟨rv337, _, ⟨T337, L337, k337, n337⟩, -, X337, ⟨Lc337, hQ337, l337, y337, z337⟩, st337⟩ := X330.virtualBack hx (y := (⟨"com/example/lexicarta/lexicarta/glossary/Span", "text", "()Ljava/lang/String;"⟩ : MethodName)) (z := (⟨"com/example/lexicarta/lexicarta/glossary/Span", "text", "()Ljava/lang/String;"⟩ : MethodName)) hown (mvT hZ (hw _ (List.mem_of_getElem? (i := 63) rfl))) (mvT hZ (hw _ (List.mem_of_getElem? (i := 64) rfl))) (notFace_of_selects (args := #[]) (mvT hZ (hw _ (List.mem_of_getElem? (i := 66) rfl)))) (mvT hZ (hw _ (List.mem_of_getElem? (i := 66) rfl))) (mvT hZ (hw _ (List.mem_of_getElem? (i := 65) rfl))) (by decide) (backOf (W := 0) (text_ l Z a0 hw [] r_324 tx T330.heap n0 O330 f336) hZ (hw _ (List.mem_of_getElem? (i := 67) rfl)) (hw _ (List.mem_of_getElem? (i := 15) rfl)) (by decide) (by decide)) q337a q337c (g := (mkF m 212 #[.val (.int i0), .val (.int i1), .val (.int i2), .val (.int c0), .val (.int c1), .val (.int ln), .val (.ref b167), .val (.ref tx), .val (.int kk), .val (.ref bs), .val (.int fi), .val (.int ff), .val (.ref sy), .val (.ref r_324), .val (.ref r_330), .unset, .unset, .unset] [(.ref r_324)])) rfl (by rw [hml]; rfl) (Steps.refl _) (argsL := []) (rest := []) (lenOf pd_14309214 rfl) rfl (by show 2 * 0 + _ ≤ _; exact Nat.le_of_eq rfl) (hb hby at_212) (fun _ _ => ⟨rfl, (rfl : T330.heap = T330.heap), (by decide : 7 + 0 ≤ _), (by decide : 18 + 0 ≤ _)⟩)
  dsimp only [Pt.U, Pt.locs, Pt.cells, Pt.slots] at X337 l337 y337 z337 st337 hQ337
  subst l337 y337 z337
  obtain ⟨rfl, N337q, K337⟩ := hQ337
  have N337 := Fr.app N330 N337q
  have R338 : Go p e below P T337 (mkF m 215 #[.val (.int i0), .val (.int i1), .val (.int i2), .val (.int c0), .val (.int c1), .val (.int ln), .val (.ref b167), .val (.ref tx), .val (.int kk), .val (.ref bs), .val (.int fi), .val (.int ff), .val (.ref sy), .val (.ref r_324), .val (.ref r_330), .unset, .unset, .unset] [(.ref tx)]) := fun t_ k_ => R334 t_ (st337.trans k_)
  have R339 : Go p e below P T337 (mkF m 217 #[.val (.int i0), .val (.int i1), .val (.int i2), .val (.int c0), .val (.int c1), .val (.int ln), .val (.ref b167), .val (.ref tx), .val (.int kk), .val (.ref bs), .val (.int fi), .val (.int ff), .val (.ref sy), .val (.ref r_324), .val (.ref r_330), .unset, .unset, .unset] [(.ref tx), (.ref tx)]) := fun t_ k_ => R338 t_ (XS.aload X337.here hx rfl (hb hby at_215) rfl rfl k_)
  have R340 : Go p e below P T337 (mkF m 220 #[.val (.int i0), .val (.int i1), .val (.int i2), .val (.int c0), .val (.int c1), .val (.int ln), .val (.ref b167), .val (.ref tx), .val (.int kk), .val (.ref bs), .val (.int fi), .val (.int ff), .val (.ref sy), .val (.ref r_324), .val (.ref r_330), .unset, .unset, .unset] []) := fun t_ k_ => R339 t_ (Jvm.RoadKit.acmp (g := (mkF m 217 #[.val (.int i0), .val (.int i1), .val (.int i2), .val (.int c0), .val (.int c1), .val (.int ln), .val (.ref b167), .val (.ref tx), .val (.int kk), .val (.ref bs), .val (.int fi), .val (.int ff), .val (.ref sy), .val (.ref r_324), .val (.ref r_330), .unset, .unset, .unset] [(.ref tx), (.ref tx)])) X337 hx rfl rfl rfl (pc0 := 217) (pc' := 220) (same := true) rfl (hb hby at_217) rfl (decide_eq_true (congrArg Value.ref rfl)) (by decide) (by decide) k_)
  have R341 : Go p e below P T337 (mkF m 222 #[.val (.int i0), .val (.int i1), .val (.int i2), .val (.int c0), .val (.int c1), .val (.int ln), .val (.ref b167), .val (.ref tx), .val (.int kk), .val (.ref bs), .val (.int fi), .val (.int ff), .val (.ref sy), .val (.ref r_324), .val (.ref r_330), .unset, .unset, .unset] [(.ref r_324)]) := fun t_ k_ => R340 t_ (XS.aload X337.here hx rfl (hb hby at_220) rfl rfl k_)
  have f342 := (p324_3.keep K330 nin0)
  obtain ⟨cq343, kq343, q343a, q343b, q343c⟩ := isOf hZ K337 f335
  obtain ⟨rv343, _, ⟨T343, L343, k343, n343⟩, -, X343, ⟨Lc343, hQ343, l343, y343, z343⟩, st343⟩ := X337.virtualBack hx (y := (⟨"com/example/lexicarta/lexicarta/glossary/Span", "style", "()Ljava/util/Optional;"⟩ : MethodName)) (z := (⟨"com/example/lexicarta/lexicarta/glossary/Span", "style", "()Ljava/util/Optional;"⟩ : MethodName)) hown (mvT hZ (hw _ (List.mem_of_getElem? (i := 53) rfl))) (mvT hZ (hw _ (List.mem_of_getElem? (i := 54) rfl))) (notFace_of_selects (args := #[]) (mvT hZ (hw _ (List.mem_of_getElem? (i := 56) rfl)))) (mvT hZ (hw _ (List.mem_of_getElem? (i := 56) rfl))) (mvT hZ (hw _ (List.mem_of_getElem? (i := 55) rfl))) (by decide) (backOf (W := 0) (style_ l Z a0 hw [] r_324 sy T330.heap n0 O330 f342) hZ (hw _ (List.mem_of_getElem? (i := 57) rfl)) (hw _ (List.mem_of_getElem? (i := 15) rfl)) (by decide) (by decide)) q343a q343c (g := (mkF m 222 #[.val (.int i0), .val (.int i1), .val (.int i2), .val (.int c0), .val (.int c1), .val (.int ln), .val (.ref b167), .val (.ref tx), .val (.int kk), .val (.ref bs), .val (.int fi), .val (.int ff), .val (.ref sy), .val (.ref r_324), .val (.ref r_330), .unset, .unset, .unset] [(.ref r_324)])) rfl (by rw [hml]; rfl) (Steps.refl _) (argsL := []) (rest := []) (lenOf pd_73631591 rfl) rfl (by show 2 * 0 + _ ≤ _; exact Nat.le_of_eq rfl) (hb hby at_222) (fun _ _ => ⟨rfl, K337, (by decide : 7 + 0 ≤ _), (by decide : 18 + 0 ≤ _)⟩)
  dsimp only [Pt.U, Pt.locs, Pt.cells, Pt.slots] at X343 l343 y343 z343 st343 hQ343
  subst l343 y343 z343
  obtain ⟨rfl, N343q, K343⟩ := hQ343
  have N343 := Fr.app N337 N343q
  have R344 : Go p e below P T343 (mkF m 225 #[.val (.int i0), .val (.int i1), .val (.int i2), .val (.int c0), .val (.int c1), .val (.int ln), .val (.ref b167), .val (.ref tx), .val (.int kk), .val (.ref bs), .val (.int fi), .val (.int ff), .val (.ref sy), .val (.ref r_324), .val (.ref r_330), .unset, .unset, .unset] [(.ref sy)]) := fun t_ k_ => R341 t_ (st343.trans k_)
  have R345 : Go p e below P T343 (mkF m 227 #[.val (.int i0), .val (.int i1), .val (.int i2), .val (.int c0), .val (.int c1), .val (.int ln), .val (.ref b167), .val (.ref tx), .val (.int kk), .val (.ref bs), .val (.int fi), .val (.int ff), .val (.ref sy), .val (.ref r_324), .val (.ref r_330), .unset, .unset, .unset] [(.ref sy), (.ref sy)]) := fun t_ k_ => R344 t_ (XS.aload X343.here hx rfl (hb hby at_225) rfl rfl k_)
  have R346 : Go p e below P T343 (mkF m 230 #[.val (.int i0), .val (.int i1), .val (.int i2), .val (.int c0), .val (.int c1), .val (.int ln), .val (.ref b167), .val (.ref tx), .val (.int kk), .val (.ref bs), .val (.int fi), .val (.int ff), .val (.ref sy), .val (.ref r_324), .val (.ref r_330), .unset, .unset, .unset] []) := fun t_ k_ => R345 t_ (Jvm.RoadKit.acmp (g := (mkF m 227 #[.val (.int i0), .val (.int i1), .val (.int i2), .val (.int c0), .val (.int c1), .val (.int ln), .val (.ref b167), .val (.ref tx), .val (.int kk), .val (.ref bs), .val (.int fi), .val (.int ff), .val (.ref sy), .val (.ref r_324), .val (.ref r_330), .unset, .unset, .unset] [(.ref sy), (.ref sy)])) X343 hx rfl rfl rfl (pc0 := 227) (pc' := 230) (same := true) rfl (hb hby at_227) rfl (decide_eq_true (congrArg Value.ref rfl)) (by decide) (by decide) k_)
  have R347 : Go p e below P T343 (mkF m 232 #[.val (.int i0), .val (.int i1), .val (.int i2), .val (.int c0), .val (.int c1), .val (.int ln), .val (.ref b167), .val (.ref tx), .val (.int kk), .val (.ref bs), .val (.int fi), .val (.int ff), .val (.ref sy), .val (.ref r_324), .val (.ref r_330), .unset, .unset, .unset] [(.ref r_324)]) := fun t_ k_ => R346 t_ (XS.aload X343.here hx rfl (hb hby at_230) rfl rfl k_)
  have f348 := (p324_4.keep K330 nin0)
  obtain ⟨cq349, kq349, q349a, q349b, q349c⟩ := isOf hZ K343 f335
  obtain ⟨rv349, _, ⟨T349, L349, k349, n349⟩, -, X349, ⟨Lc349, hQ349, l349, y349, z349⟩, st349⟩ := X343.virtualBack hx (y := (⟨"com/example/lexicarta/lexicarta/glossary/Span", "joined", "()Z"⟩ : MethodName)) (z := (⟨"com/example/lexicarta/lexicarta/glossary/Span", "joined", "()Z"⟩ : MethodName)) hown (mvT hZ (hw _ (List.mem_of_getElem? (i := 68) rfl))) (mvT hZ (hw _ (List.mem_of_getElem? (i := 69) rfl))) (notFace_of_selects (args := #[]) (mvT hZ (hw _ (List.mem_of_getElem? (i := 71) rfl)))) (mvT hZ (hw _ (List.mem_of_getElem? (i := 71) rfl))) (mvT hZ (hw _ (List.mem_of_getElem? (i := 70) rfl))) (by decide) (backOf (W := 0) (joined_ l Z a0 hw [] r_324 fi T330.heap n0 O330 f348 hj295) hZ (hw _ (List.mem_of_getElem? (i := 72) rfl)) (hw _ (List.mem_of_getElem? (i := 15) rfl)) (by decide) (by decide)) q349a q349c (g := (mkF m 232 #[.val (.int i0), .val (.int i1), .val (.int i2), .val (.int c0), .val (.int c1), .val (.int ln), .val (.ref b167), .val (.ref tx), .val (.int kk), .val (.ref bs), .val (.int fi), .val (.int ff), .val (.ref sy), .val (.ref r_324), .val (.ref r_330), .unset, .unset, .unset] [(.ref r_324)])) rfl (by rw [hml]; rfl) (Steps.refl _) (argsL := []) (rest := []) (lenOf pd_16428538 rfl) rfl (by show 2 * 0 + _ ≤ _; exact Nat.le_of_eq rfl) (hb hby at_232) (fun _ _ => ⟨rfl, K343, (by decide : 7 + 0 ≤ _), (by decide : 18 + 0 ≤ _)⟩)
  dsimp only [Pt.U, Pt.locs, Pt.cells, Pt.slots] at X349 l349 y349 z349 st349 hQ349
  subst l349 y349 z349
  obtain ⟨rfl, N349q, K349⟩ := hQ349
  have N349 := Fr.app N343 N349q
  have R350 : Go p e below P T349 (mkF m 235 #[.val (.int i0), .val (.int i1), .val (.int i2), .val (.int c0), .val (.int c1), .val (.int ln), .val (.ref b167), .val (.ref tx), .val (.int kk), .val (.ref bs), .val (.int fi), .val (.int ff), .val (.ref sy), .val (.ref r_324), .val (.ref r_330), .unset, .unset, .unset] [(.int fi)]) := fun t_ k_ => R347 t_ (st349.trans k_)
  have R351 : Go p e below P T349 (mkF m 237 #[.val (.int i0), .val (.int i1), .val (.int i2), .val (.int c0), .val (.int c1), .val (.int ln), .val (.ref b167), .val (.ref tx), .val (.int kk), .val (.ref bs), .val (.int fi), .val (.int ff), .val (.ref sy), .val (.ref r_324), .val (.ref r_330), .unset, .unset, .unset] [(.int fi), (.int fi)]) := fun t_ k_ => R350 t_ (XS.iload X349.here hx rfl (hb hby at_235) rfl k_)
  have R352 : Go p e below P T349 (mkF m 240 #[.val (.int i0), .val (.int i1), .val (.int i2), .val (.int c0), .val (.int c1), .val (.int ln), .val (.ref b167), .val (.ref tx), .val (.int kk), .val (.ref bs), .val (.int fi), .val (.int ff), .val (.ref sy), .val (.ref r_324), .val (.ref r_330), .unset, .unset, .unset] []) := fun t_ k_ => R351 t_ (XS.icmpNo X349.here hx rfl (hb hby at_237) rfl (teq rfl).2 k_)
  have R353 : Go p e below P T349 (mkF m 241 #[.val (.int i0), .val (.int i1), .val (.int i2), .val (.int c0), .val (.int c1), .val (.int ln), .val (.ref b167), .val (.ref tx), .val (.int kk), .val (.ref bs), .val (.int fi), .val (.int ff), .val (.ref sy), .val (.ref r_324), .val (.ref r_330), .unset, .unset, .unset] [(.int (1 : Int32))]) := fun t_ k_ => R352 t_ (XS.iconst X349.here hx rfl (hb hby at_240) k_)
  have R354 : Go p e below P T349 (mkF m 245 #[.val (.int i0), .val (.int i1), .val (.int i2), .val (.int c0), .val (.int c1), .val (.int ln), .val (.ref b167), .val (.ref tx), .val (.int kk), .val (.ref bs), .val (.int fi), .val (.int ff), .val (.ref sy), .val (.ref r_324), .val (.ref r_330), .unset, .unset, .unset] [(.int (1 : Int32))]) := fun t_ k_ => R353 t_ (XS.goto X349.here hx rfl (pc0 := 241) (pc' := 245) rfl (hb hby at_241) (by decide) (by decide) k_)
  have R355 : Go p e below P T349 (mkF m 247 #[.val (.int i0), .val (.int i1), .val (.int i2), .val (.int c0), .val (.int c1), .val (.int ln), .val (.ref b167), .val (.ref tx), .val (.int kk), .val (.ref bs), .val (.int fi), .val (.int ff), .val (.ref sy), .val (.ref r_324), .val (.ref r_330), .val (.int (1 : Int32)), .unset, .unset] []) := fun t_ k_ => R354 t_ (XS.istore X349.here hx rfl (hb hby at_245) rfl (l' := #[.val (.int i0), .val (.int i1), .val (.int i2), .val (.int c0), .val (.int c1), .val (.int ln), .val (.ref b167), .val (.ref tx), .val (.int kk), .val (.ref bs), .val (.int fi), .val (.int ff), .val (.ref sy), .val (.ref r_324), .val (.ref r_330), .val (.int (1 : Int32)), .unset, .unset]) rfl k_)
  have R356 : Go p e below P T349 (mkF m 249 #[.val (.int i0), .val (.int i1), .val (.int i2), .val (.int c0), .val (.int c1), .val (.int ln), .val (.ref b167), .val (.ref tx), .val (.int kk), .val (.ref bs), .val (.int fi), .val (.int ff), .val (.ref sy), .val (.ref r_324), .val (.ref r_330), .val (.int (1 : Int32)), .unset, .unset] [(.ref r_330)]) := fun t_ k_ => R355 t_ (XS.aload X349.here hx rfl (hb hby at_247) rfl rfl k_)
  obtain ⟨cq357, kq357, q357a, q357b, q357c⟩ := isOf hZ K349 p330_1
  obtain ⟨rv357, _, ⟨T357, L357, k357, n357⟩, -, X357, ⟨Lc357, hQ357, l357, y357, z357⟩, st357⟩ := X349.virtualBack hx (y := (⟨"com/example/lexicarta/lexicarta/glossary/Span", "text", "()Ljava/lang/String;"⟩ : MethodName)) (z := (⟨"com/example/lexicarta/lexicarta/glossary/Span", "text", "()Ljava/lang/String;"⟩ : MethodName)) hown (mvT hZ (hw _ (List.mem_of_getElem? (i := 63) rfl))) (mvT hZ (hw _ (List.mem_of_getElem? (i := 64) rfl))) (notFace_of_selects (args := #[]) (mvT hZ (hw _ (List.mem_of_getElem? (i := 66) rfl)))) (mvT hZ (hw _ (List.mem_of_getElem? (i := 66) rfl))) (mvT hZ (hw _ (List.mem_of_getElem? (i := 65) rfl))) (by decide) (backOf (W := 0) (text_ l Z a0 hw [] r_330 tx T330.heap n0 O330 p330_2) hZ (hw _ (List.mem_of_getElem? (i := 67) rfl)) (hw _ (List.mem_of_getElem? (i := 15) rfl)) (by decide) (by decide)) q357a q357c (g := (mkF m 249 #[.val (.int i0), .val (.int i1), .val (.int i2), .val (.int c0), .val (.int c1), .val (.int ln), .val (.ref b167), .val (.ref tx), .val (.int kk), .val (.ref bs), .val (.int fi), .val (.int ff), .val (.ref sy), .val (.ref r_324), .val (.ref r_330), .val (.int (1 : Int32)), .unset, .unset] [(.ref r_330)])) rfl (by rw [hml]; rfl) (Steps.refl _) (argsL := []) (rest := []) (lenOf pd_14309214 rfl) rfl (by show 2 * 0 + _ ≤ _; exact Nat.le_of_eq rfl) (hb hby at_249) (fun _ _ => ⟨rfl, K349, (by decide : 7 + 0 ≤ _), (by decide : 18 + 0 ≤ _)⟩)
  dsimp only [Pt.U, Pt.locs, Pt.cells, Pt.slots] at X357 l357 y357 z357 st357 hQ357
  subst l357 y357 z357
  obtain ⟨rfl, N357q, K357⟩ := hQ357
  have N357 := Fr.app N349 N357q
  have R358 : Go p e below P T357 (mkF m 252 #[.val (.int i0), .val (.int i1), .val (.int i2), .val (.int c0), .val (.int c1), .val (.int ln), .val (.ref b167), .val (.ref tx), .val (.int kk), .val (.ref bs), .val (.int fi), .val (.int ff), .val (.ref sy), .val (.ref r_324), .val (.ref r_330), .val (.int (1 : Int32)), .unset, .unset] [(.ref tx)]) := fun t_ k_ => R356 t_ (st357.trans k_)
  have R359 : Go p e below P T357 (mkF m 254 #[.val (.int i0), .val (.int i1), .val (.int i2), .val (.int c0), .val (.int c1), .val (.int ln), .val (.ref b167), .val (.ref tx), .val (.int kk), .val (.ref bs), .val (.int fi), .val (.int ff), .val (.ref sy), .val (.ref r_324), .val (.ref r_330), .val (.int (1 : Int32)), .unset, .unset] [(.ref tx), (.ref tx)]) := fun t_ k_ => R358 t_ (XS.aload X357.here hx rfl (hb hby at_252) rfl rfl k_)
  have R360 : Go p e below P T357 (mkF m 257 #[.val (.int i0), .val (.int i1), .val (.int i2), .val (.int c0), .val (.int c1), .val (.int ln), .val (.ref b167), .val (.ref tx), .val (.int kk), .val (.ref bs), .val (.int fi), .val (.int ff), .val (.ref sy), .val (.ref r_324), .val (.ref r_330), .val (.int (1 : Int32)), .unset, .unset] []) := fun t_ k_ => R359 t_ (Jvm.RoadKit.acmp (g := (mkF m 254 #[.val (.int i0), .val (.int i1), .val (.int i2), .val (.int c0), .val (.int c1), .val (.int ln), .val (.ref b167), .val (.ref tx), .val (.int kk), .val (.ref bs), .val (.int fi), .val (.int ff), .val (.ref sy), .val (.ref r_324), .val (.ref r_330), .val (.int (1 : Int32)), .unset, .unset] [(.ref tx), (.ref tx)])) X357 hx rfl rfl rfl (pc0 := 254) (pc' := 257) (same := true) rfl (hb hby at_254) rfl (decide_eq_true (congrArg Value.ref rfl)) (by decide) (by decide) k_)
  have R361 : Go p e below P T357 (mkF m 259 #[.val (.int i0), .val (.int i1), .val (.int i2), .val (.int c0), .val (.int c1), .val (.int ln), .val (.ref b167), .val (.ref tx), .val (.int kk), .val (.ref bs), .val (.int fi), .val (.int ff), .val (.ref sy), .val (.ref r_324), .val (.ref r_330), .val (.int (1 : Int32)), .unset, .unset] [(.ref r_330)]) := fun t_ k_ => R360 t_ (XS.aload X357.here hx rfl (hb hby at_257) rfl rfl k_)
  obtain ⟨cq362, kq362, q362a, q362b, q362c⟩ := isOf hZ K357 p330_1
  obtain ⟨rv362, _, ⟨T362, L362, k362, n362⟩, -, X362, ⟨Lc362, hQ362, l362, y362, z362⟩, st362⟩ := X357.virtualBack hx (y := (⟨"com/example/lexicarta/lexicarta/glossary/Span", "style", "()Ljava/util/Optional;"⟩ : MethodName)) (z := (⟨"com/example/lexicarta/lexicarta/glossary/Span", "style", "()Ljava/util/Optional;"⟩ : MethodName)) hown (mvT hZ (hw _ (List.mem_of_getElem? (i := 53) rfl))) (mvT hZ (hw _ (List.mem_of_getElem? (i := 54) rfl))) (notFace_of_selects (args := #[]) (mvT hZ (hw _ (List.mem_of_getElem? (i := 56) rfl)))) (mvT hZ (hw _ (List.mem_of_getElem? (i := 56) rfl))) (mvT hZ (hw _ (List.mem_of_getElem? (i := 55) rfl))) (by decide) (backOf (W := 0) (style_ l Z a0 hw [] r_330 sy T330.heap n0 O330 p330_3) hZ (hw _ (List.mem_of_getElem? (i := 57) rfl)) (hw _ (List.mem_of_getElem? (i := 15) rfl)) (by decide) (by decide)) q362a q362c (g := (mkF m 259 #[.val (.int i0), .val (.int i1), .val (.int i2), .val (.int c0), .val (.int c1), .val (.int ln), .val (.ref b167), .val (.ref tx), .val (.int kk), .val (.ref bs), .val (.int fi), .val (.int ff), .val (.ref sy), .val (.ref r_324), .val (.ref r_330), .val (.int (1 : Int32)), .unset, .unset] [(.ref r_330)])) rfl (by rw [hml]; rfl) (Steps.refl _) (argsL := []) (rest := []) (lenOf pd_73631591 rfl) rfl (by show 2 * 0 + _ ≤ _; exact Nat.le_of_eq rfl) (hb hby at_259) (fun _ _ => ⟨rfl, K357, (by decide : 7 + 0 ≤ _), (by decide : 18 + 0 ≤ _)⟩)
  dsimp only [Pt.U, Pt.locs, Pt.cells, Pt.slots] at X362 l362 y362 z362 st362 hQ362
  subst l362 y362 z362
  obtain ⟨rfl, N362q, K362⟩ := hQ362
  have N362 := Fr.app N357 N362q
  have R363 : Go p e below P T362 (mkF m 262 #[.val (.int i0), .val (.int i1), .val (.int i2), .val (.int c0), .val (.int c1), .val (.int ln), .val (.ref b167), .val (.ref tx), .val (.int kk), .val (.ref bs), .val (.int fi), .val (.int ff), .val (.ref sy), .val (.ref r_324), .val (.ref r_330), .val (.int (1 : Int32)), .unset, .unset] [(.ref sy)]) := fun t_ k_ => R361 t_ (st362.trans k_)
  have R364 : Go p e below P T362 (mkF m 264 #[.val (.int i0), .val (.int i1), .val (.int i2), .val (.int c0), .val (.int c1), .val (.int ln), .val (.ref b167), .val (.ref tx), .val (.int kk), .val (.ref bs), .val (.int fi), .val (.int ff), .val (.ref sy), .val (.ref r_324), .val (.ref r_330), .val (.int (1 : Int32)), .unset, .unset] [(.ref sy), (.ref sy)]) := fun t_ k_ => R363 t_ (XS.aload X362.here hx rfl (hb hby at_262) rfl rfl k_)
  have R365 : Go p e below P T362 (mkF m 267 #[.val (.int i0), .val (.int i1), .val (.int i2), .val (.int c0), .val (.int c1), .val (.int ln), .val (.ref b167), .val (.ref tx), .val (.int kk), .val (.ref bs), .val (.int fi), .val (.int ff), .val (.ref sy), .val (.ref r_324), .val (.ref r_330), .val (.int (1 : Int32)), .unset, .unset] []) := fun t_ k_ => R364 t_ (Jvm.RoadKit.acmp (g := (mkF m 264 #[.val (.int i0), .val (.int i1), .val (.int i2), .val (.int c0), .val (.int c1), .val (.int ln), .val (.ref b167), .val (.ref tx), .val (.int kk), .val (.ref bs), .val (.int fi), .val (.int ff), .val (.ref sy), .val (.ref r_324), .val (.ref r_330), .val (.int (1 : Int32)), .unset, .unset] [(.ref sy), (.ref sy)])) X362 hx rfl rfl rfl (pc0 := 264) (pc' := 267) (same := true) rfl (hb hby at_264) rfl (decide_eq_true (congrArg Value.ref rfl)) (by decide) (by decide) k_)
  have R366 : Go p e below P T362 (mkF m 269 #[.val (.int i0), .val (.int i1), .val (.int i2), .val (.int c0), .val (.int c1), .val (.int ln), .val (.ref b167), .val (.ref tx), .val (.int kk), .val (.ref bs), .val (.int fi), .val (.int ff), .val (.ref sy), .val (.ref r_324), .val (.ref r_330), .val (.int (1 : Int32)), .unset, .unset] [(.ref r_330)]) := fun t_ k_ => R365 t_ (XS.aload X362.here hx rfl (hb hby at_267) rfl rfl k_)
  obtain ⟨cq367, kq367, q367a, q367b, q367c⟩ := isOf hZ K362 p330_1
  obtain ⟨rv367, _, ⟨T367, L367, k367, n367⟩, -, X367, ⟨Lc367, hQ367, l367, y367, z367⟩, st367⟩ := X362.virtualBack hx (y := (⟨"com/example/lexicarta/lexicarta/glossary/Span", "joined", "()Z"⟩ : MethodName)) (z := (⟨"com/example/lexicarta/lexicarta/glossary/Span", "joined", "()Z"⟩ : MethodName)) hown (mvT hZ (hw _ (List.mem_of_getElem? (i := 68) rfl))) (mvT hZ (hw _ (List.mem_of_getElem? (i := 69) rfl))) (notFace_of_selects (args := #[]) (mvT hZ (hw _ (List.mem_of_getElem? (i := 71) rfl)))) (mvT hZ (hw _ (List.mem_of_getElem? (i := 71) rfl))) (mvT hZ (hw _ (List.mem_of_getElem? (i := 70) rfl))) (by decide) (backOf (W := 0) (joined_ l Z a0 hw [] r_330 ff T330.heap n0 O330 p330_4 hj307) hZ (hw _ (List.mem_of_getElem? (i := 72) rfl)) (hw _ (List.mem_of_getElem? (i := 15) rfl)) (by decide) (by decide)) q367a q367c (g := (mkF m 269 #[.val (.int i0), .val (.int i1), .val (.int i2), .val (.int c0), .val (.int c1), .val (.int ln), .val (.ref b167), .val (.ref tx), .val (.int kk), .val (.ref bs), .val (.int fi), .val (.int ff), .val (.ref sy), .val (.ref r_324), .val (.ref r_330), .val (.int (1 : Int32)), .unset, .unset] [(.ref r_330)])) rfl (by rw [hml]; rfl) (Steps.refl _) (argsL := []) (rest := []) (lenOf pd_16428538 rfl) rfl (by show 2 * 0 + _ ≤ _; exact Nat.le_of_eq rfl) (hb hby at_269) (fun _ _ => ⟨rfl, K362, (by decide : 7 + 0 ≤ _), (by decide : 18 + 0 ≤ _)⟩)
  dsimp only [Pt.U, Pt.locs, Pt.cells, Pt.slots] at X367 l367 y367 z367 st367 hQ367
  subst l367 y367 z367
  obtain ⟨rfl, N367q, K367⟩ := hQ367
  have N367 := Fr.app N362 N367q
  have R368 : Go p e below P T367 (mkF m 272 #[.val (.int i0), .val (.int i1), .val (.int i2), .val (.int c0), .val (.int c1), .val (.int ln), .val (.ref b167), .val (.ref tx), .val (.int kk), .val (.ref bs), .val (.int fi), .val (.int ff), .val (.ref sy), .val (.ref r_324), .val (.ref r_330), .val (.int (1 : Int32)), .unset, .unset] [(.int ff)]) := fun t_ k_ => R366 t_ (st367.trans k_)
  have R369 : Go p e below P T367 (mkF m 274 #[.val (.int i0), .val (.int i1), .val (.int i2), .val (.int c0), .val (.int c1), .val (.int ln), .val (.ref b167), .val (.ref tx), .val (.int kk), .val (.ref bs), .val (.int fi), .val (.int ff), .val (.ref sy), .val (.ref r_324), .val (.ref r_330), .val (.int (1 : Int32)), .unset, .unset] [(.int ff), (.int ff)]) := fun t_ k_ => R368 t_ (XS.iload X367.here hx rfl (hb hby at_272) rfl k_)
  have R370 : Go p e below P T367 (mkF m 277 #[.val (.int i0), .val (.int i1), .val (.int i2), .val (.int c0), .val (.int c1), .val (.int ln), .val (.ref b167), .val (.ref tx), .val (.int kk), .val (.ref bs), .val (.int fi), .val (.int ff), .val (.ref sy), .val (.ref r_324), .val (.ref r_330), .val (.int (1 : Int32)), .unset, .unset] []) := fun t_ k_ => R369 t_ (XS.icmpNo X367.here hx rfl (hb hby at_274) rfl (teq rfl).2 k_)
  have R371 : Go p e below P T367 (mkF m 278 #[.val (.int i0), .val (.int i1), .val (.int i2), .val (.int c0), .val (.int c1), .val (.int ln), .val (.ref b167), .val (.ref tx), .val (.int kk), .val (.ref bs), .val (.int fi), .val (.int ff), .val (.ref sy), .val (.ref r_324), .val (.ref r_330), .val (.int (1 : Int32)), .unset, .unset] [(.int (1 : Int32))]) := fun t_ k_ => R370 t_ (XS.iconst X367.here hx rfl (hb hby at_277) k_)
  have R372 : Go p e below P T367 (mkF m 282 #[.val (.int i0), .val (.int i1), .val (.int i2), .val (.int c0), .val (.int c1), .val (.int ln), .val (.ref b167), .val (.ref tx), .val (.int kk), .val (.ref bs), .val (.int fi), .val (.int ff), .val (.ref sy), .val (.ref r_324), .val (.ref r_330), .val (.int (1 : Int32)), .unset, .unset] [(.int (1 : Int32))]) := fun t_ k_ => R371 t_ (XS.goto X367.here hx rfl (pc0 := 278) (pc' := 282) rfl (hb hby at_278) (by decide) (by decide) k_)
  have R373 : Go p e below P T367 (mkF m 284 #[.val (.int i0), .val (.int i1), .val (.int i2), .val (.int c0), .val (.int c1), .val (.int ln), .val (.ref b167), .val (.ref tx), .val (.int kk), .val (.ref bs), .val (.int fi), .val (.int ff), .val (.ref sy), .val (.ref r_324), .val (.ref r_330), .val (.int (1 : Int32)), .val (.int (1 : Int32)), .unset] []) := fun t_ k_ => R372 t_ (XS.istore X367.here hx rfl (hb hby at_282) rfl (l' := #[.val (.int i0), .val (.int i1), .val (.int i2), .val (.int c0), .val (.int c1), .val (.int ln), .val (.ref b167), .val (.ref tx), .val (.int kk), .val (.ref bs), .val (.int fi), .val (.int ff), .val (.ref sy), .val (.ref r_324), .val (.ref r_330), .val (.int (1 : Int32)), .val (.int (1 : Int32)), .unset]) rfl k_)
  have R374 : Go p e below P T367 (mkF m 286 #[.val (.int i0), .val (.int i1), .val (.int i2), .val (.int c0), .val (.int c1), .val (.int ln), .val (.ref b167), .val (.ref tx), .val (.int kk), .val (.ref bs), .val (.int fi), .val (.int ff), .val (.ref sy), .val (.ref r_324), .val (.ref r_330), .val (.int (1 : Int32)), .val (.int (1 : Int32)), .unset] [(.ref bs)]) := fun t_ k_ => R373 t_ (XS.aload X367.here hx rfl (hb hby at_284) rfl rfl k_)
  have f375 := ((pj292_0.keep K324).keep K330)
  have f376 := ((pj292_3.keep K324 nin0).keep K330 nin0)
  obtain ⟨cq377, kq377, q377a, q377b, q377c⟩ := isOf hZ K367 f375
  obtain ⟨rv377, _, ⟨T377, L377, k377, n377⟩, -, X377, ⟨Lc377, hQ377, l377, y377, z377⟩, st377⟩ := X367.virtualBack hx (y := (⟨"com/example/lexicarta/lexicarta/glossary/Span", "joined", "()Z"⟩ : MethodName)) (z := (⟨"com/example/lexicarta/lexicarta/glossary/Span", "joined", "()Z"⟩ : MethodName)) hown (mvT hZ (hw _ (List.mem_of_getElem? (i := 68) rfl))) (mvT hZ (hw _ (List.mem_of_getElem? (i := 69) rfl))) (notFace_of_selects (args := #[]) (mvT hZ (hw _ (List.mem_of_getElem? (i := 71) rfl)))) (mvT hZ (hw _ (List.mem_of_getElem? (i := 71) rfl))) (mvT hZ (hw _ (List.mem_of_getElem? (i := 70) rfl))) (by decide) (backOf (W := 0) (joined_ l Z a0 hw [] bs (0 : Int32) T330.heap n0 O330 f376 (by decide)) hZ (hw _ (List.mem_of_getElem? (i := 72) rfl)) (hw _ (List.mem_of_getElem? (i := 15) rfl)) (by decide) (by decide)) q377a q377c (g := (mkF m 286 #[.val (.int i0), .val (.int i1), .val (.int i2), .val (.int c0), .val (.int c1), .val (.int ln), .val (.ref b167), .val (.ref tx), .val (.int kk), .val (.ref bs), .val (.int fi), .val (.int ff), .val (.ref sy), .val (.ref r_324), .val (.ref r_330), .val (.int (1 : Int32)), .val (.int (1 : Int32)), .unset] [(.ref bs)])) rfl (by rw [hml]; rfl) (Steps.refl _) (argsL := []) (rest := []) (lenOf pd_16428538 rfl) rfl (by show 2 * 0 + _ ≤ _; exact Nat.le_of_eq rfl) (hb hby at_286) (fun _ _ => ⟨rfl, K367, (by decide : 7 + 0 ≤ _), (by decide : 18 + 0 ≤ _)⟩)
  dsimp only [Pt.U, Pt.locs, Pt.cells, Pt.slots] at X377 l377 y377 z377 st377 hQ377
  subst l377 y377 z377
  obtain ⟨rfl, N377q, K377⟩ := hQ377
  have N377 := Fr.app N367 N377q
  have R378 : Go p e below P T377 (mkF m 289 #[.val (.int i0), .val (.int i1), .val (.int i2), .val (.int c0), .val (.int c1), .val (.int ln), .val (.ref b167), .val (.ref tx), .val (.int kk), .val (.ref bs), .val (.int fi), .val (.int ff), .val (.ref sy), .val (.ref r_324), .val (.ref r_330), .val (.int (1 : Int32)), .val (.int (1 : Int32)), .unset] [(.int (0 : Int32))]) := fun t_ k_ => R374 t_ (st377.trans k_)
  have R379 : Go p e below P T377 (mkF m 292 #[.val (.int i0), .val (.int i1), .val (.int i2), .val (.int c0), .val (.int c1), .val (.int ln), .val (.ref b167), .val (.ref tx), .val (.int kk), .val (.ref bs), .val (.int fi), .val (.int ff), .val (.ref sy), .val (.ref r_324), .val (.ref r_330), .val (.int (1 : Int32)), .val (.int (1 : Int32)), .unset] []) := fun t_ k_ => R378 t_ (XS.ifNo X377.here hx rfl (hb hby at_289) rfl ((if0 _ _).trans (teq rfl).2) k_)
  have R380 : Go p e below P T377 (mkF m 293 #[.val (.int i0), .val (.int i1), .val (.int i2), .val (.int c0), .val (.int c1), .val (.int ln), .val (.ref b167), .val (.ref tx), .val (.int kk), .val (.ref bs), .val (.int fi), .val (.int ff), .val (.ref sy), .val (.ref r_324), .val (.ref r_330), .val (.int (1 : Int32)), .val (.int (1 : Int32)), .unset] [(.int (1 : Int32))]) := fun t_ k_ => R379 t_ (XS.iconst X377.here hx rfl (hb hby at_292) k_)
  have R381 : Go p e below P T377 (mkF m 297 #[.val (.int i0), .val (.int i1), .val (.int i2), .val (.int c0), .val (.int c1), .val (.int ln), .val (.ref b167), .val (.ref tx), .val (.int kk), .val (.ref bs), .val (.int fi), .val (.int ff), .val (.ref sy), .val (.ref r_324), .val (.ref r_330), .val (.int (1 : Int32)), .val (.int (1 : Int32)), .unset] [(.int (1 : Int32))]) := fun t_ k_ => R380 t_ (XS.goto X377.here hx rfl (pc0 := 293) (pc' := 297) rfl (hb hby at_293) (by decide) (by decide) k_)
  have R382 : Go p e below P T377 (mkF m 299 #[.val (.int i0), .val (.int i1), .val (.int i2), .val (.int c0), .val (.int c1), .val (.int ln), .val (.ref b167), .val (.ref tx), .val (.int kk), .val (.ref bs), .val (.int fi), .val (.int ff), .val (.ref sy), .val (.ref r_324), .val (.ref r_330), .val (.int (1 : Int32)), .val (.int (1 : Int32)), .val (.int (1 : Int32))] []) := fun t_ k_ => R381 t_ (XS.istore X377.here hx rfl (hb hby at_297) rfl (l' := #[.val (.int i0), .val (.int i1), .val (.int i2), .val (.int c0), .val (.int c1), .val (.int ln), .val (.ref b167), .val (.ref tx), .val (.int kk), .val (.ref bs), .val (.int fi), .val (.int ff), .val (.ref sy), .val (.ref r_324), .val (.ref r_330), .val (.int (1 : Int32)), .val (.int (1 : Int32)), .val (.int (1 : Int32))]) rfl k_)
  have R383 : Go p e below P T377 (mkF m 301 #[.val (.int i0), .val (.int i1), .val (.int i2), .val (.int c0), .val (.int c1), .val (.int ln), .val (.ref b167), .val (.ref tx), .val (.int kk), .val (.ref bs), .val (.int fi), .val (.int ff), .val (.ref sy), .val (.ref r_324), .val (.ref r_330), .val (.int (1 : Int32)), .val (.int (1 : Int32)), .val (.int (1 : Int32))] [(.int (1 : Int32))]) := fun t_ k_ => R382 t_ (XS.iload X377.here hx rfl (hb hby at_299) rfl k_)
  have R384 : Go p e below P T377 (mkF m 304 #[.val (.int i0), .val (.int i1), .val (.int i2), .val (.int c0), .val (.int c1), .val (.int ln), .val (.ref b167), .val (.ref tx), .val (.int kk), .val (.ref bs), .val (.int fi), .val (.int ff), .val (.ref sy), .val (.ref r_324), .val (.ref r_330), .val (.int (1 : Int32)), .val (.int (1 : Int32)), .val (.int (1 : Int32))] []) := fun t_ k_ => R383 t_ (XS.ifNo X377.here hx rfl (hb hby at_301) rfl ((if0 _ _).trans (feq (by decide : ¬ ((1 : Int32) = (0 : Int32)))).1) k_)
  have R385 : Go p e below P T377 (mkF m 306 #[.val (.int i0), .val (.int i1), .val (.int i2), .val (.int c0), .val (.int c1), .val (.int ln), .val (.ref b167), .val (.ref tx), .val (.int kk), .val (.ref bs), .val (.int fi), .val (.int ff), .val (.ref sy), .val (.ref r_324), .val (.ref r_330), .val (.int (1 : Int32)), .val (.int (1 : Int32)), .val (.int (1 : Int32))] [(.int (1 : Int32))]) := fun t_ k_ => R384 t_ (XS.iload X377.here hx rfl (hb hby at_304) rfl k_)
  have R386 : Go p e below P T377 (mkF m 309 #[.val (.int i0), .val (.int i1), .val (.int i2), .val (.int c0), .val (.int c1), .val (.int ln), .val (.ref b167), .val (.ref tx), .val (.int kk), .val (.ref bs), .val (.int fi), .val (.int ff), .val (.ref sy), .val (.ref r_324), .val (.ref r_330), .val (.int (1 : Int32)), .val (.int (1 : Int32)), .val (.int (1 : Int32))] []) := fun t_ k_ => R385 t_ (XS.ifNo X377.here hx rfl (hb hby at_306) rfl ((if0 _ _).trans (feq (by decide : ¬ ((1 : Int32) = (0 : Int32)))).1) k_)
  have R387 : Go p e below P T377 (mkF m 311 #[.val (.int i0), .val (.int i1), .val (.int i2), .val (.int c0), .val (.int c1), .val (.int ln), .val (.ref b167), .val (.ref tx), .val (.int kk), .val (.ref bs), .val (.int fi), .val (.int ff), .val (.ref sy), .val (.ref r_324), .val (.ref r_330), .val (.int (1 : Int32)), .val (.int (1 : Int32)), .val (.int (1 : Int32))] [(.int (1 : Int32))]) := fun t_ k_ => R386 t_ (XS.iload X377.here hx rfl (hb hby at_309) rfl k_)
  have R388 : Go p e below P T377 (mkF m 314 #[.val (.int i0), .val (.int i1), .val (.int i2), .val (.int c0), .val (.int c1), .val (.int ln), .val (.ref b167), .val (.ref tx), .val (.int kk), .val (.ref bs), .val (.int fi), .val (.int ff), .val (.ref sy), .val (.ref r_324), .val (.ref r_330), .val (.int (1 : Int32)), .val (.int (1 : Int32)), .val (.int (1 : Int32))] []) := fun t_ k_ => R387 t_ (XS.ifNo X377.here hx rfl (hb hby at_311) rfl ((if0 _ _).trans (feq (by decide : ¬ ((1 : Int32) = (0 : Int32)))).1) k_)
  have R389 : Go p e below P T377 (mkF m 315 #[.val (.int i0), .val (.int i1), .val (.int i2), .val (.int c0), .val (.int c1), .val (.int ln), .val (.ref b167), .val (.ref tx), .val (.int kk), .val (.ref bs), .val (.int fi), .val (.int ff), .val (.ref sy), .val (.ref r_324), .val (.ref r_330), .val (.int (1 : Int32)), .val (.int (1 : Int32)), .val (.int (1 : Int32))] [(.int (1 : Int32))]) := fun t_ k_ => R388 t_ (XS.iconst X377.here hx rfl (hb hby at_314) k_)
  have R390 : Go p e below P T377 (mkF m 319 #[.val (.int i0), .val (.int i1), .val (.int i2), .val (.int c0), .val (.int c1), .val (.int ln), .val (.ref b167), .val (.ref tx), .val (.int kk), .val (.ref bs), .val (.int fi), .val (.int ff), .val (.ref sy), .val (.ref r_324), .val (.ref r_330), .val (.int (1 : Int32)), .val (.int (1 : Int32)), .val (.int (1 : Int32))] [(.int (1 : Int32))]) := fun t_ k_ => R389 t_ (XS.goto X377.here hx rfl (pc0 := 315) (pc' := 319) rfl (hb hby at_315) (by decide) (by decide) k_)
  obtain ⟨fs, hr, hrun, hended, hend⟩ := X377.leaveW hS292 (by rw [K377]; exact hk331 : _ ≤ T377.heap.size) (v := some (.int (nar .boolean (1 : Int32)))) (fun h => by rw [Bd.returns] at h; cases h)
  have hCe := C331.trans (CHv.at X377 hZ hEL C331.1)
  exact ⟨_, _, hP _ (R390 _ (retN X377 hx (t := .boolean) Bd.returns (by simp) (hb hby at_319) hr)), hrun, hended, _, _, rfl, ⟨rfl, N377, (K377.symm ▸ ((((((((Keep.refl h0 []).ext E167).wr W175 (Or.inr (Nat.le_of_eq g167.symm))).wr W183 (Or.inr (Nat.le_of_eq g167.symm))).trans K219 all0).trans K292 all0).trans K324 all0).trans K330 all0))⟩, (by show CHr Z EL0 s.vm s.heap T377.vm T377.heap; rw [hh, K377]; exact hCe), ⟨hend.1, hend.2.1, hend.2.2.1, hend.2.2.2.mono (by decide) (by decide)⟩⟩
set_option maxRecDepth 65536 in
set_option maxHeartbeats 40000000 in
theorem comes_1 {Post : Tables → Env → Array Value → State → Outcome → State → Prop} (hpost : ∀ tb e args s v u, (limb_1_1.after args s (.returned v) u = true ∧ limb_1_2.after args s (.returned v) u = true ∧ True) → ReturnedEndW s (.returned v) u (Jvm.fieldLocs frame_1_writes args s ++ Jvm.arrayLocs frame_1_arrays args s ++ Jvm.staticLocs frame_1_statics s) 24 1152 → Post tb e args s (.returned v) u) :
    ArmFor flags0 classFile x code maxLocals ret World_1 tables_1 room_1 Calls_1 rest_1 Pre_1 Post := by
  intro l hfl _ _ p e ha hc hk s m args below hf hA hF happ hP
  obtain ⟨hcalls, hrest, hpre⟩ := hP
  obtain ⟨-, -, -, hnamed, -, -, -, hat⟩ := (Spec.applies_iff hf).mp happ
  obtain ⟨hg, hn⟩ := and_e (Cond.before_iff.mp (show (Jvm.Cond.and given_1 narrow_1).before args s = true from hpre))
  obtain ⟨g1, g2⟩ := and_e hg
  obtain ⟨g3, g4⟩ := and_e g2
  obtain ⟨g5, g6⟩ := and_e g4
  obtain ⟨w0, w1, w2, rfl⟩ : ∃ w0 w1 w2 : Value, args = #[w0, w1, w2] := by
    have hs : args.size = 3 := by simpa [Cond.value, given_1] using g1
    obtain ⟨L⟩ := args
    match L, hs with
    | [w0, w1, w2], _ => exact ⟨w0, w1, w2, rfl⟩
  have hw := fun d (hd : d ∈ tables_1) => atoms_spec (ws := Jvm.Cond.code x code maxLocals ret :: tables_1) hat d (List.mem_cons_of_mem _ hd)
  have hfit : Fit s := fun {y c} hc i hi => by
    obtain ⟨ha, rfl⟩ := Array.getElem?_eq_some_iff.mp hc
    have q := List.all_eq_true.mp ((Array.all_eq_true_iff_forall_mem.mp hF) _ (Array.getElem_mem ha)) i (List.mem_range.mpr hi)
    simpa [Array.getElem?_eq_getElem hi] using q
  obtain ⟨hsets, hown0⟩ := atoms_of _ (rest_1_c_eq ▸ (show rest_1_c.before _ s = true from hrest))
  obtain ⟨i0, ei0⟩ := is_v g3
  obtain rfl : w0 = (.int i0) := Option.some.inj ei0
  obtain ⟨i1, ei1⟩ := is_v g5
  obtain rfl : w1 = (.int i1) := Option.some.inj ei1
  obtain ⟨i2, ei2⟩ := is_v g6
  obtain rfl : w2 = (.int i2) := Option.some.inj ei2
  obtain ⟨g7, g8⟩ := and_e hn
  obtain ⟨g9, g10⟩ := and_e g8
  obtain ⟨g11, g12⟩ := and_e g10
  have hEL : EW s (#[.int i0, .int i1, .int i2] : Array Value) EL0 := EW.nil
  have hCH : CHv s EL0 s.vm s.heap := fun p hp => nomatch hp
  obtain ⟨w_VERB, ev_VERB⟩ := exa_v g7
  have S_VERB := Sta.start ev_VERB (Or.inr ⟨(hw _ (List.mem_of_getElem? (i := 11) rfl)), (hw _ (List.mem_of_getElem? (i := 12) rfl))⟩)
  have E_VERB := Exa.start ev_VERB g7
  obtain ⟨w_NAME, ev_NAME⟩ := exa_v g9
  have S_NAME := Sta.start ev_NAME (Or.inr ⟨(hw _ (List.mem_of_getElem? (i := 11) rfl)), (hw _ (List.mem_of_getElem? (i := 74) rfl))⟩)
  have E_NAME := Exa.start ev_NAME g9
  obtain ⟨w_KEYWORD, ev_KEYWORD⟩ := exa_v g11
  have S_KEYWORD := Sta.start ev_KEYWORD (Or.inr ⟨(hw _ (List.mem_of_getElem? (i := 11) rfl)), (hw _ (List.mem_of_getElem? (i := 76) rfl))⟩)
  have E_KEYWORD := Exa.start ev_KEYWORD g11
  obtain ⟨w_TERM, ev_TERM⟩ := exa_v g12
  have S_TERM := Sta.start ev_TERM (Or.inr ⟨(hw _ (List.mem_of_getElem? (i := 11) rfl)), (hw _ (List.mem_of_getElem? (i := 100) rfl))⟩)
  have E_TERM := Exa.start ev_TERM g12
  obtain ⟨z_cs, ev_cs⟩ := is_v (Cond.before_iff.mp (hsets _ (List.mem_of_getElem? (i := 1) rfl)))
  have S_cs := Sta.start ev_cs (Or.inl (hsets _ (List.mem_of_getElem? (i := 0) rfl)))
  have hz_cs : ¬ z_cs = 0 := fun q => by
    have h := not_v (Cond.before_iff.mp (hsets _ (List.mem_of_getElem? (i := 2) rfl)))
    have h' := gotF (eq_I ev_cs (Term.int_eval (0))) h
    exact h' q
  have hexE := Cond.before_iff.mp (hsets _ (List.mem_of_getElem? (i := 11) rfl))
  obtain ⟨wE, evE⟩ := exa_v hexE
  have S_E := Sta.start evE (Or.inl (hsets _ (List.mem_of_getElem? (i := 10) rfl)))
  obtain ⟨n, o, h1, h2, h3, _, L, rfl, ⟨rfl, N, _⟩, -, hq⟩ := law_ l s _ hw tables_1 i0 i1 i2 w_TERM w_NAME w_VERB w_KEYWORD wE z_cs s.heap s.heap.size (Old.start s) hEL S_cs S_E S_TERM S_NAME S_VERB S_KEYWORD hz_cs p e ha hc hk s m _ below hf ((Spec.applies_iff_loose hf).mp happ).1 ⟨rfl, State.Warmed39.refl s, rfl, hCH⟩ trivial
  refine ⟨n, _, h1, h2, h3, hpost _ _ _ _ _ _ ⟨Cond.after_iff.mpr rfl, Cond.after_iff.mpr (eq_i res_at (Term.int_eval (1)) rfl), trivial⟩ ⟨hq.1, hq.2.1, hq.2.2.1, (hq.2.2.2.sift fun y hy => Or.inr (N y hy)).mono (by decide) (by decide)⟩⟩
theorem main_1_1 : Claimed_1_1 := comes_1 fun _ _ _ _ _ _ h hF => ⟨h.1, hF⟩
theorem main_1_2 : Claimed_1_2 := comes_1 fun _ _ _ _ _ _ h hF => ⟨h.2.1, hF⟩
end Jvm.Pilot.@@N@@
namespace Jvm.Pilot.@@N@@
open Jvm Jvm.ClassFile Sem Op Lib Jvm.Free Jvm.Stand Jvm.Pilot.@@N@@.Jvm.D
/-! MADE BY PROGRAM (witnessworld.py) out of the Statement's table words and the real class files: 25 classes; the members and pool entries that the words name. The judged class is class 1, her method 1. -/
namespace start1
open Jvm.ClassFile
def u (s : String) : CpInfo := .utf8 (stringToUtf16 s)
/-- a pool by its gaps: so many unusable entries, then the entry; so many at the end -/
def gap : Nat → List CpInfo → List CpInfo
  | 0, r => r
  | n + 1, r => .unusable :: gap n r
def poolList (es : List (Nat × CpInfo)) (last : Nat) : List CpInfo := es.foldr (fun e r => gap e.1 (e.2 :: r)) (gap last [])
def pool (es : List (Nat × CpInfo)) (last : Nat) : Array CpInfo := ⟨poolList es last⟩
def fileOf (pool : Array CpInfo) (this : Nat) (attrs : Array Attribute := #[]) (ms : Array MethodInfo := #[]) (fl : Nat := 33) (sup : Nat := 0) (ifs : Array Nat := #[]) (fds : Array FieldInfo := #[]) : ClassFile where
  minorVersion := 0
  majorVersion := 65
  constantPool := pool
  accessFlags := fl
  thisClass := this
  superClass := sup
  interfaces := ifs
  fields := fds
  methods := ms
  attributes := attrs
def plain (name : String) (sup : Option ClassId) : Class where
  name := name
  kind := .ordinary
  loader := none
  accessFlags := 33
  super := sup
  interfaces := #[]
  cf := none
  fields := #[]
  methods := #[]
  instanceTypes := #[]
  staticTypes := #[]
  resolved := #[]
  callSites := []
  init := .initialized
  statics := none
  mirror := none

def pool0 : Array CpInfo := pool [(5, u "<init>"), (0, u "()V"), (1, .class_ 10), (1, u "java/lang/Object")] 113

def k0c0 : Code := { maxStack := 0, maxLocals := 1, code := object_method_1_code, exceptionTable := #[], attributes := #[] }
def k0m0 : Method := { name := "<init>", desc := "()V", sig := { parameters := [], returnType := none }, accessFlags := 1, code := some k0c0 }
/-- java/lang/Object -/
def k0 : Class := { plain "java/lang/Object" none with
  accessFlags := 33
  interfaces := #[]
  cf := some (fileOf pool0 8 #[] #[{ accessFlags := 1, nameIndex := 5, descriptorIndex := 6, attributes := #[] }] 33 0 #[] #[])
  fields := #[]
  methods := #[k0m0]
  instanceTypes := #[]
  staticTypes := #[]
  resolved := Array.replicate 124 none
  statics := none }

def pool1 : Array CpInfo := pool [(2, .class_ 4), (1, u "java/lang/Object"), (0, u "<init>"), (0, u "()V"), (0, .string 8), (0, u ""), (0, .methodref 10 11), (0, .class_ 12), (0, .nameAndType 13 14), (0, u "java/lang/String"), (0, u "valueOf"), (0, u "(C)Ljava/lang/String;"), (0, .methodref 10 16), (0, .nameAndType 5 17), (0, u "([C)V"), (0, .integer 2147483647), (0, .methodref 20 21), (0, .class_ 22), (0, .nameAndType 23 24), (0, u "com/example/lexicarta/lexicarta/glossary/Span"), (0, u "plain"), (0, u "(Ljava/lang/String;)Lcom/example/lexicarta/lexicarta/glossary/Span;"), (0, .fieldref 26 27), (0, .class_ 28), (0, .nameAndType 29 30), (0, u "com/example/lexicarta/lexicarta/glossary/TextStyle"), (0, u "TERM"), (0, u "Lcom/example/lexicarta/lexicarta/glossary/TextStyle;"), (0, .fieldref 26 32), (0, .nameAndType 33 30), (0, u "NAME"), (0, .fieldref 26 35), (0, .nameAndType 36 30), (0, u "VERB"), (0, .fieldref 26 38), (0, .nameAndType 39 30), (0, u "KEYWORD"), (0, .methodref 20 41), (0, .nameAndType 42 43), (0, u "of"), (0, u "(Ljava/lang/String;Lcom/example/lexicarta/lexicarta/glossary/TextStyle;)Lcom/example/lexicarta/lexicarta/glossary/Span;"), (0, .methodref 20 45), (0, .nameAndType 46 47), (0, u "style"), (0, u "()Ljava/util/Optional;"), (0, .methodref 20 49), (0, .nameAndType 50 51), (0, u "withJoined"), (0, u "(Z)Lcom/example/lexicarta/lexicarta/glossary/Span;"), (0, .methodref 20 53), (0, .nameAndType 54 55), (0, u "text"), (0, u "()Ljava/lang/String;"), (0, .methodref 20 57), (0, .nameAndType 58 59), (0, u "joined"), (0, u "()Z"), (0, .class_ 61), (0, u "com/example/lexicarta/lexicarta/glossary/SpanWithJoinedPinLaw"), (2, u "law"), (0, u "(III)Z")] 5

def k1m0 : Method := { name := "<init>", desc := "()V", sig := { parameters := [], returnType := none }, accessFlags := 1, code := none }
def k1c1 : Code := { maxStack := 3, maxLocals := 18, code := code, exceptionTable := #[], attributes := #[] }
def k1m1 : Method := { name := "law", desc := "(III)Z", sig := { parameters := [.int, .int, .int], returnType := some .boolean }, accessFlags := 9, code := some k1c1 }
/-- com/example/lexicarta/lexicarta/glossary/SpanWithJoinedPinLaw -/
def k1 : Class := { plain "com/example/lexicarta/lexicarta/glossary/SpanWithJoinedPinLaw" (some 0) with
  accessFlags := 49
  interfaces := #[]
  cf := some (fileOf pool1 60 #[] #[{ accessFlags := 1, nameIndex := 5, descriptorIndex := 6, attributes := #[] }, { accessFlags := 9, nameIndex := 64, descriptorIndex := 65, attributes := #[] }] 49 2 #[] #[])
  fields := #[]
  methods := #[k1m0, k1m1]
  instanceTypes := #[]
  staticTypes := #[]
  resolved := Array.replicate 71 none
  statics := none }

def pool2 : Array CpInfo := pool [(1, .class_ 2), (0, u "java/io/Serializable"), (0, .class_ 4), (0, u "java/lang/Object")] 2

/-- java/io/Serializable -/
def k2 : Class := { plain "java/io/Serializable" (some 0) with
  accessFlags := 1537
  interfaces := #[]
  cf := some (fileOf pool2 1 #[] #[] 1537 3 #[] #[])
  fields := #[]
  methods := #[]
  instanceTypes := #[]
  staticTypes := #[]
  resolved := Array.replicate 7 none
  statics := none }

def pool3 : Array CpInfo := pool [(1, .class_ 2), (0, u "java/lang/Comparable"), (0, .class_ 4), (0, u "java/lang/Object")] 7

/-- java/lang/Comparable -/
def k3 : Class := { plain "java/lang/Comparable" (some 0) with
  accessFlags := 1537
  interfaces := #[]
  cf := some (fileOf pool3 1 #[] #[] 1537 3 #[] #[])
  fields := #[]
  methods := #[]
  instanceTypes := #[]
  staticTypes := #[]
  resolved := Array.replicate 12 none
  statics := none }

def pool4 : Array CpInfo := pool [(2, .class_ 4), (1, u "java/lang/CharSequence"), (42, .class_ 48), (0, u "java/lang/CharSequence$1CodePointIterator"), (10, .class_ 60), (0, u "java/lang/CharSequence$1CharIterator"), (5, .class_ 67), (0, u "java/lang/Object")] 63

/-- java/lang/CharSequence -/
def k4 : Class := { plain "java/lang/CharSequence" (some 0) with
  accessFlags := 1537
  interfaces := #[]
  cf := some (fileOf pool4 2 #[.nestMembers #[47, 59]] #[] 1537 66 #[] #[])
  fields := #[]
  methods := #[]
  instanceTypes := #[]
  staticTypes := #[]
  resolved := Array.replicate 131 none
  statics := none }

def pool5 : Array CpInfo := pool [(1, .class_ 2), (0, u "java/lang/constant/Constable"), (0, .class_ 4), (0, u "java/lang/Object")] 6

/-- java/lang/constant/Constable -/
def k5 : Class := { plain "java/lang/constant/Constable" (some 0) with
  accessFlags := 1537
  interfaces := #[]
  cf := some (fileOf pool5 1 #[] #[] 1537 3 #[] #[])
  fields := #[]
  methods := #[]
  instanceTypes := #[]
  staticTypes := #[]
  resolved := Array.replicate 11 none
  statics := none }

def pool6 : Array CpInfo := pool [(1, .class_ 2), (0, u "java/lang/constant/ConstantDesc"), (0, .class_ 4), (0, u "java/lang/Object")] 32

/-- java/lang/constant/ConstantDesc -/
def k6 : Class := { plain "java/lang/constant/ConstantDesc" (some 0) with
  accessFlags := 1537
  interfaces := #[]
  cf := some (fileOf pool6 1 #[] #[] 1537 3 #[] #[])
  fields := #[]
  methods := #[]
  instanceTypes := #[]
  staticTypes := #[]
  resolved := Array.replicate 37 none
  statics := none }

def pool7 : Array CpInfo := pool [(1, .methodref 2 3), (0, .class_ 4), (0, .nameAndType 5 6), (0, u "java/lang/Object"), (0, u "<init>"), (0, u "()V"), (2, .fieldref 10 11), (0, .class_ 12), (0, .nameAndType 13 14), (0, u "java/lang/String"), (0, u "value"), (0, u "[B"), (0, .fieldref 10 16), (0, .nameAndType 17 18), (0, u "coder"), (0, u "B"), (2, u "hash"), (0, u "I"), (2, u "hashIsZero"), (0, u "Z"), (0, .methodref 10 28), (0, .nameAndType 5 29), (0, u "([CIILjava/lang/Void;)V"), (8, .fieldref 10 39), (0, .nameAndType 40 26), (0, u "COMPACT_STRINGS"), (1, .class_ 44), (1, u "java/lang/StringUTF16"), (0, u "compress"), (1, .methodref 42 48), (0, .nameAndType 49 50), (0, u "coderFromArrayLen"), (0, u "([BI)B"), (2, u "toBytes"), (53, .class_ 109), (1, u "java/lang/StringLatin1"), (67, .methodref 42 178), (0, .nameAndType 45 179), (0, u "([CII)[B"), (29, .methodref 10 210), (0, .nameAndType 5 211), (0, u "([BB)V"), (157, u "(C)Z"), (205, .class_ 576), (0, u "java/lang/CharSequence"), (22, u "CASE_INSENSITIVE_ORDER"), (0, u "Ljava/util/Comparator;"), (181, u "valueOf"), (0, u "(C)Ljava/lang/String;"), (226, u "([C)V"), (4, .methodref 107 1016), (0, .nameAndType 1017 369), (0, u "canEncode"), (0, .methodref 107 1019), (0, .nameAndType 53 1020), (0, u "(C)[B"), (80, u "serialPersistentFields"), (0, u "[Ljava/io/ObjectStreamField;"), (0, .class_ 1104), (0, u "java/lang/String$CaseInsensitiveComparator"), (1, .class_ 1107), (0, u "java/io/Serializable"), (0, .class_ 1109), (0, u "java/lang/Comparable"), (0, .class_ 1111), (0, u "java/lang/constant/Constable"), (0, .class_ 1113), (0, u "java/lang/constant/ConstantDesc"), (2, u "serialVersionUID"), (0, u "J"), (3, u "REPL"), (0, u "C"), (2, u "LATIN1"), (1, u "UTF16")] 323

def k7m0 : Method := { name := "<init>", desc := "()V", sig := { parameters := [], returnType := none }, accessFlags := 1, code := none }
def k7c1 : Code := { maxStack := 5, maxLocals := 2, code := jdk_42_method_3_code, exceptionTable := #[], attributes := #[] }
def k7m1 : Method := { name := "<init>", desc := "([C)V", sig := { parameters := [(.array .char)], returnType := none }, accessFlags := 1, code := some k7c1 }
def k7c2 : Code := { maxStack := 4, maxLocals := 1, code := jdk_42_method_139_code, exceptionTable := #[], attributes := #[] }
def k7m2 : Method := { name := "valueOf", desc := "(C)Ljava/lang/String;", sig := { parameters := [.char], returnType := some (.object "java/lang/String") }, accessFlags := 9, code := some k7c2 }
def k7c3 : Code := { maxStack := 4, maxLocals := 6, code := jdk_42_method_149_code, exceptionTable := #[], attributes := #[] }
def k7m3 : Method := { name := "<init>", desc := "([CIILjava/lang/Void;)V", sig := { parameters := [(.array .char), .int, .int, (.object "java/lang/Void")], returnType := none }, accessFlags := 2, code := some k7c3 }
def k7c4 : Code := { maxStack := 2, maxLocals := 3, code := jdk_42_method_151_code, exceptionTable := #[], attributes := #[] }
def k7m4 : Method := { name := "<init>", desc := "([BB)V", sig := { parameters := [(.array .byte), .byte], returnType := none }, accessFlags := 0, code := some k7c4 }
/-- java/lang/String -/
def k7 : Class := { plain "java/lang/String" (some 0) with
  accessFlags := 49
  interfaces := #[2, 3, 4, 5, 6]
  cf := some (fileOf pool7 10 #[.nestMembers #[1103]] #[{ accessFlags := 1, nameIndex := 5, descriptorIndex := 6, attributes := #[] }, { accessFlags := 1, nameIndex := 5, descriptorIndex := 1010, attributes := #[] }, { accessFlags := 9, nameIndex := 782, descriptorIndex := 783, attributes := #[] }, { accessFlags := 2, nameIndex := 5, descriptorIndex := 29, attributes := #[] }, { accessFlags := 0, nameIndex := 5, descriptorIndex := 211, attributes := #[] }] 49 2 #[1106, 1108, 575, 1110, 1112] #[{ accessFlags := 18, nameIndex := 13, descriptorIndex := 14, attributes := #[] }, { accessFlags := 18, nameIndex := 17, descriptorIndex := 18, attributes := #[] }, { accessFlags := 2, nameIndex := 21, descriptorIndex := 22, attributes := #[] }, { accessFlags := 2, nameIndex := 25, descriptorIndex := 26, attributes := #[] }, { accessFlags := 26, nameIndex := 1116, descriptorIndex := 1117, attributes := #[] }, { accessFlags := 24, nameIndex := 40, descriptorIndex := 26, attributes := #[] }, { accessFlags := 26, nameIndex := 1101, descriptorIndex := 1102, attributes := #[] }, { accessFlags := 26, nameIndex := 1121, descriptorIndex := 1122, attributes := #[] }, { accessFlags := 25, nameIndex := 599, descriptorIndex := 600, attributes := #[] }, { accessFlags := 24, nameIndex := 1125, descriptorIndex := 18, attributes := #[] }, { accessFlags := 24, nameIndex := 1127, descriptorIndex := 18, attributes := #[] }])
  fields := #[{ name := "value", type := (.array .byte), accessFlags := 18, slot := 0, constantValue := 0 }, { name := "coder", type := .byte, accessFlags := 18, slot := 1, constantValue := 0 }, { name := "hash", type := .int, accessFlags := 2, slot := 2, constantValue := 0 }, { name := "hashIsZero", type := .boolean, accessFlags := 2, slot := 3, constantValue := 0 }, { name := "serialVersionUID", type := .long, accessFlags := 26, slot := 0, constantValue := 0 }, { name := "COMPACT_STRINGS", type := .boolean, accessFlags := 24, slot := 1, constantValue := 0 }, { name := "serialPersistentFields", type := (.array (.object "java/io/ObjectStreamField")), accessFlags := 26, slot := 2, constantValue := 0 }, { name := "REPL", type := .char, accessFlags := 26, slot := 3, constantValue := 0 }, { name := "CASE_INSENSITIVE_ORDER", type := (.object "java/util/Comparator"), accessFlags := 25, slot := 4, constantValue := 0 }, { name := "LATIN1", type := .byte, accessFlags := 24, slot := 5, constantValue := 0 }, { name := "UTF16", type := .byte, accessFlags := 24, slot := 6, constantValue := 0 }]
  methods := #[k7m0, k7m1, k7m2, k7m3, k7m4]
  instanceTypes := #[(.array .byte), .byte, .int, .boolean]
  staticTypes := #[.long, .boolean, (.array (.object "java/io/ObjectStreamField")), .char, (.object "java/util/Comparator"), .byte, .byte]
  resolved := Array.replicate 1451 none
  statics := some 0 }

def pool8 : Array CpInfo := pool [(2, .class_ 4), (1, u "java/lang/Enum"), (0, u "name"), (0, u "Ljava/lang/String;"), (2, u "ordinal"), (0, u "I"), (1, .class_ 14), (1, u "java/lang/Object"), (4, u "hash"), (86, .class_ 108), (1, u "java/lang/Enum$EnumDesc"), (2, .class_ 112), (0, u "java/lang/constant/Constable"), (0, .class_ 114), (0, u "java/lang/Comparable"), (0, .class_ 116), (0, u "java/io/Serializable")] 87

/-- java/lang/Enum -/
def k8 : Class := { plain "java/lang/Enum" (some 0) with
  accessFlags := 1057
  interfaces := #[5, 3, 2]
  cf := some (fileOf pool8 2 #[.nestMembers #[106]] #[] 1057 12 #[111, 113, 115] #[{ accessFlags := 18, nameIndex := 5, descriptorIndex := 6, attributes := #[] }, { accessFlags := 18, nameIndex := 9, descriptorIndex := 10, attributes := #[] }, { accessFlags := 2, nameIndex := 19, descriptorIndex := 10, attributes := #[] }])
  fields := #[{ name := "name", type := (.object "java/lang/String"), accessFlags := 18, slot := 0, constantValue := 0 }, { name := "ordinal", type := .int, accessFlags := 18, slot := 1, constantValue := 0 }, { name := "hash", type := .int, accessFlags := 2, slot := 2, constantValue := 0 }]
  methods := #[]
  instanceTypes := #[(.object "java/lang/String"), .int, .int]
  staticTypes := #[]
  resolved := Array.replicate 204 none
  statics := none }

def pool9 : Array CpInfo := pool [(1, .class_ 2), (0, u "com/example/lexicarta/lexicarta/glossary/TextStyle"), (2, u "TERM"), (0, u "Lcom/example/lexicarta/lexicarta/glossary/TextStyle;"), (2, u "NAME"), (2, u "VERB"), (2, u "KEYWORD"), (2, u "$VALUES"), (0, u "[Lcom/example/lexicarta/lexicarta/glossary/TextStyle;"), (6, .class_ 28), (1, u "java/lang/Enum")] 43

/-- com/example/lexicarta/lexicarta/glossary/TextStyle -/
def k9 : Class := { plain "com/example/lexicarta/lexicarta/glossary/TextStyle" (some 8) with
  accessFlags := 16432
  interfaces := #[]
  cf := some (fileOf pool9 1 #[] #[] 16432 26 #[] #[{ accessFlags := 16409, nameIndex := 5, descriptorIndex := 6, attributes := #[] }, { accessFlags := 16409, nameIndex := 9, descriptorIndex := 6, attributes := #[] }, { accessFlags := 16409, nameIndex := 12, descriptorIndex := 6, attributes := #[] }, { accessFlags := 16409, nameIndex := 15, descriptorIndex := 6, attributes := #[] }, { accessFlags := 4122, nameIndex := 18, descriptorIndex := 19, attributes := #[] }])
  fields := #[{ name := "TERM", type := (.object "com/example/lexicarta/lexicarta/glossary/TextStyle"), accessFlags := 16409, slot := 0, constantValue := 0 }, { name := "NAME", type := (.object "com/example/lexicarta/lexicarta/glossary/TextStyle"), accessFlags := 16409, slot := 1, constantValue := 0 }, { name := "VERB", type := (.object "com/example/lexicarta/lexicarta/glossary/TextStyle"), accessFlags := 16409, slot := 2, constantValue := 0 }, { name := "KEYWORD", type := (.object "com/example/lexicarta/lexicarta/glossary/TextStyle"), accessFlags := 16409, slot := 3, constantValue := 0 }, { name := "$VALUES", type := (.array (.object "com/example/lexicarta/lexicarta/glossary/TextStyle")), accessFlags := 4122, slot := 4, constantValue := 0 }]
  methods := #[]
  instanceTypes := #[(.object "java/lang/String"), .int, .int]
  staticTypes := #[(.object "com/example/lexicarta/lexicarta/glossary/TextStyle"), (.object "com/example/lexicarta/lexicarta/glossary/TextStyle"), (.object "com/example/lexicarta/lexicarta/glossary/TextStyle"), (.object "com/example/lexicarta/lexicarta/glossary/TextStyle"), (.array (.object "com/example/lexicarta/lexicarta/glossary/TextStyle"))]
  resolved := Array.replicate 72 none
  statics := some 1 }

def pool10 : Array CpInfo := pool [(1, .methodref 2 3), (0, .class_ 4), (0, .nameAndType 5 6), (0, u "java/lang/Object"), (0, u "<init>"), (0, u "()V"), (0, .class_ 8), (0, u "java/lang/Record")] 13

def k10c0 : Code := { maxStack := 1, maxLocals := 1, code := jdk_30_method_1_code, exceptionTable := #[], attributes := #[] }
def k10m0 : Method := { name := "<init>", desc := "()V", sig := { parameters := [], returnType := none }, accessFlags := 4, code := some k10c0 }
/-- java/lang/Record -/
def k10 : Class := { plain "java/lang/Record" (some 0) with
  accessFlags := 1057
  interfaces := #[]
  cf := some (fileOf pool10 7 #[] #[{ accessFlags := 4, nameIndex := 5, descriptorIndex := 6, attributes := #[] }] 1057 2 #[] #[])
  fields := #[]
  methods := #[k10m0]
  instanceTypes := #[]
  staticTypes := #[]
  resolved := Array.replicate 22 none
  statics := none }

def pool11 : Array CpInfo := pool [(1, .methodref 2 3), (0, .class_ 4), (0, .nameAndType 5 6), (0, u "java/lang/Record"), (0, u "<init>"), (0, u "()V"), (0, .fieldref 8 9), (0, .class_ 10), (0, .nameAndType 11 12), (0, u "com/example/lexicarta/lexicarta/glossary/Span"), (0, u "text"), (0, u "Ljava/lang/String;"), (0, .fieldref 8 14), (0, .nameAndType 15 16), (0, u "style"), (0, u "Ljava/util/Optional;"), (0, .fieldref 8 18), (0, .nameAndType 19 20), (0, u "joined"), (0, u "Z"), (0, .methodref 22 23), (0, .class_ 24), (0, .nameAndType 25 26), (0, u "java/util/Optional"), (0, u "of"), (0, u "(Ljava/lang/Object;)Ljava/util/Optional;"), (0, .methodref 8 28), (0, .nameAndType 5 29), (0, u "(Ljava/lang/String;Ljava/util/Optional;Z)V"), (0, .methodref 22 31), (0, .nameAndType 32 33), (0, u "empty"), (0, u "()Ljava/util/Optional;"), (18, u "(Ljava/lang/String;Lcom/example/lexicarta/lexicarta/glossary/TextStyle;)Lcom/example/lexicarta/lexicarta/glossary/Span;"), (0, u "plain"), (0, u "(Ljava/lang/String;)Lcom/example/lexicarta/lexicarta/glossary/Span;"), (0, u "withJoined"), (0, u "(Z)Lcom/example/lexicarta/lexicarta/glossary/Span;"), (0, u "()Ljava/lang/String;"), (3, u "()Z")] 22

def k11c0 : Code := { maxStack := 2, maxLocals := 4, code := prog_27_method_1_code, exceptionTable := #[], attributes := #[] }
def k11m0 : Method := { name := "<init>", desc := "(Ljava/lang/String;Ljava/util/Optional;Z)V", sig := { parameters := [(.object "java/lang/String"), (.object "java/util/Optional"), .boolean], returnType := none }, accessFlags := 0, code := some k11c0 }
def k11c1 : Code := { maxStack := 5, maxLocals := 2, code := prog_27_method_2_code, exceptionTable := #[], attributes := #[] }
def k11m1 : Method := { name := "of", desc := "(Ljava/lang/String;Lcom/example/lexicarta/lexicarta/glossary/TextStyle;)Lcom/example/lexicarta/lexicarta/glossary/Span;", sig := { parameters := [(.object "java/lang/String"), (.object "com/example/lexicarta/lexicarta/glossary/TextStyle")], returnType := some (.object "com/example/lexicarta/lexicarta/glossary/Span") }, accessFlags := 8, code := some k11c1 }
def k11c2 : Code := { maxStack := 5, maxLocals := 1, code := prog_27_method_3_code, exceptionTable := #[], attributes := #[] }
def k11m2 : Method := { name := "plain", desc := "(Ljava/lang/String;)Lcom/example/lexicarta/lexicarta/glossary/Span;", sig := { parameters := [(.object "java/lang/String")], returnType := some (.object "com/example/lexicarta/lexicarta/glossary/Span") }, accessFlags := 8, code := some k11c2 }
def k11c3 : Code := { maxStack := 5, maxLocals := 2, code := prog_27_method_4_code, exceptionTable := #[], attributes := #[] }
def k11m3 : Method := { name := "withJoined", desc := "(Z)Lcom/example/lexicarta/lexicarta/glossary/Span;", sig := { parameters := [.boolean], returnType := some (.object "com/example/lexicarta/lexicarta/glossary/Span") }, accessFlags := 0, code := some k11c3 }
def k11c4 : Code := { maxStack := 1, maxLocals := 1, code := prog_27_method_8_code, exceptionTable := #[], attributes := #[] }
def k11m4 : Method := { name := "text", desc := "()Ljava/lang/String;", sig := { parameters := [], returnType := some (.object "java/lang/String") }, accessFlags := 1, code := some k11c4 }
def k11c5 : Code := { maxStack := 1, maxLocals := 1, code := prog_27_method_9_code, exceptionTable := #[], attributes := #[] }
def k11m5 : Method := { name := "style", desc := "()Ljava/util/Optional;", sig := { parameters := [], returnType := some (.object "java/util/Optional") }, accessFlags := 1, code := some k11c5 }
def k11c6 : Code := { maxStack := 1, maxLocals := 1, code := prog_27_method_10_code, exceptionTable := #[], attributes := #[] }
def k11m6 : Method := { name := "joined", desc := "()Z", sig := { parameters := [], returnType := some .boolean }, accessFlags := 1, code := some k11c6 }
/-- com/example/lexicarta/lexicarta/glossary/Span -/
def k11 : Class := { plain "com/example/lexicarta/lexicarta/glossary/Span" (some 10) with
  accessFlags := 48
  interfaces := #[]
  cf := some (fileOf pool11 8 #[] #[{ accessFlags := 0, nameIndex := 5, descriptorIndex := 29, attributes := #[] }, { accessFlags := 8, nameIndex := 25, descriptorIndex := 52, attributes := #[] }, { accessFlags := 8, nameIndex := 53, descriptorIndex := 54, attributes := #[] }, { accessFlags := 0, nameIndex := 55, descriptorIndex := 56, attributes := #[] }, { accessFlags := 1, nameIndex := 11, descriptorIndex := 57, attributes := #[] }, { accessFlags := 1, nameIndex := 15, descriptorIndex := 33, attributes := #[] }, { accessFlags := 1, nameIndex := 19, descriptorIndex := 61, attributes := #[] }] 48 2 #[] #[{ accessFlags := 18, nameIndex := 11, descriptorIndex := 12, attributes := #[] }, { accessFlags := 18, nameIndex := 15, descriptorIndex := 16, attributes := #[] }, { accessFlags := 18, nameIndex := 19, descriptorIndex := 20, attributes := #[] }])
  fields := #[{ name := "text", type := (.object "java/lang/String"), accessFlags := 18, slot := 0, constantValue := 0 }, { name := "style", type := (.object "java/util/Optional"), accessFlags := 18, slot := 1, constantValue := 0 }, { name := "joined", type := .boolean, accessFlags := 18, slot := 2, constantValue := 0 }]
  methods := #[k11m0, k11m1, k11m2, k11m3, k11m4, k11m5, k11m6]
  instanceTypes := #[(.object "java/lang/String"), (.object "java/util/Optional"), .boolean]
  staticTypes := #[]
  resolved := Array.replicate 84 none
  statics := none }

def pool12 : Array CpInfo := pool [(1, .fieldref 2 3), (0, .class_ 4), (0, .nameAndType 5 6), (0, u "java/util/Optional"), (0, u "EMPTY"), (0, u "Ljava/util/Optional;"), (0, .methodref 8 9), (0, .class_ 10), (0, .nameAndType 11 12), (0, u "java/lang/Object"), (0, u "<init>"), (0, u "()V"), (0, .fieldref 2 14), (0, .nameAndType 15 16), (0, u "value"), (0, u "Ljava/lang/Object;"), (0, .methodref 18 19), (0, .class_ 20), (0, .nameAndType 21 22), (0, u "java/util/Objects"), (0, u "requireNonNull"), (0, u "(Ljava/lang/Object;)Ljava/lang/Object;"), (0, .methodref 2 24), (0, .nameAndType 11 25), (0, u "(Ljava/lang/Object;)V"), (29, u "empty"), (0, u "()Ljava/util/Optional;"), (8, u "(Ljava/lang/Object;)Ljava/util/Optional;"), (16, u "of")] 104

def k12c0 : Code := { maxStack := 1, maxLocals := 1, code := jdk_32_method_1_code, exceptionTable := #[], attributes := #[] }
def k12m0 : Method := { name := "empty", desc := "()Ljava/util/Optional;", sig := { parameters := [], returnType := some (.object "java/util/Optional") }, accessFlags := 9, code := some k12c0 }
def k12c1 : Code := { maxStack := 2, maxLocals := 2, code := jdk_32_method_2_code, exceptionTable := #[], attributes := #[] }
def k12m1 : Method := { name := "<init>", desc := "(Ljava/lang/Object;)V", sig := { parameters := [(.object "java/lang/Object")], returnType := none }, accessFlags := 2, code := some k12c1 }
def k12c2 : Code := { maxStack := 3, maxLocals := 1, code := jdk_32_method_3_code, exceptionTable := #[], attributes := #[] }
def k12m2 : Method := { name := "of", desc := "(Ljava/lang/Object;)Ljava/util/Optional;", sig := { parameters := [(.object "java/lang/Object")], returnType := some (.object "java/util/Optional") }, accessFlags := 9, code := some k12c2 }
/-- java/util/Optional -/
def k12 : Class := { plain "java/util/Optional" (some 0) with
  accessFlags := 49
  interfaces := #[]
  cf := some (fileOf pool12 2 #[] #[{ accessFlags := 9, nameIndex := 55, descriptorIndex := 56, attributes := #[] }, { accessFlags := 2, nameIndex := 11, descriptorIndex := 25, attributes := #[] }, { accessFlags := 9, nameIndex := 82, descriptorIndex := 65, attributes := #[] }] 49 8 #[] #[{ accessFlags := 26, nameIndex := 5, descriptorIndex := 6, attributes := #[] }, { accessFlags := 18, nameIndex := 15, descriptorIndex := 16, attributes := #[] }])
  fields := #[{ name := "EMPTY", type := (.object "java/util/Optional"), accessFlags := 26, slot := 0, constantValue := 0 }, { name := "value", type := (.object "java/lang/Object"), accessFlags := 18, slot := 0, constantValue := 0 }]
  methods := #[k12m0, k12m1, k12m2]
  instanceTypes := #[(.object "java/lang/Object")]
  staticTypes := #[(.object "java/util/Optional")]
  resolved := Array.replicate 187 none
  statics := some 2 }

def pool13 : Array CpInfo := pool [(2, .class_ 4), (1, u "java/lang/Object"), (0, u "<init>"), (0, u "()V"), (35, .class_ 44), (1, u "java/util/Objects"), (0, u "requireNonNull"), (0, u "(Ljava/lang/Object;)Ljava/lang/Object;")] 137

def k13m0 : Method := { name := "<init>", desc := "()V", sig := { parameters := [], returnType := none }, accessFlags := 2, code := none }
def k13c1 : Code := { maxStack := 2, maxLocals := 1, code := jdk_31_method_10_code, exceptionTable := #[], attributes := #[] }
def k13m1 : Method := { name := "requireNonNull", desc := "(Ljava/lang/Object;)Ljava/lang/Object;", sig := { parameters := [(.object "java/lang/Object")], returnType := some (.object "java/lang/Object") }, accessFlags := 9, code := some k13c1 }
/-- java/util/Objects -/
def k13 : Class := { plain "java/util/Objects" (some 0) with
  accessFlags := 49
  interfaces := #[]
  cf := some (fileOf pool13 42 #[] #[{ accessFlags := 2, nameIndex := 5, descriptorIndex := 6, attributes := #[] }, { accessFlags := 9, nameIndex := 45, descriptorIndex := 46, attributes := #[] }] 49 2 #[] #[])
  fields := #[]
  methods := #[k13m0, k13m1]
  instanceTypes := #[]
  staticTypes := #[]
  resolved := Array.replicate 184 none
  statics := none }

def pool14 : Array CpInfo := pool [(6, .class_ 8), (1, u "java/lang/Object"), (0, u "<init>"), (0, u "()V"), (1, .class_ 14), (1, u "java/lang/StringUTF16"), (31, u "$assertionsDisabled"), (0, u "Z"), (13, u "HI_BYTE_SHIFT"), (0, u "I"), (2, u "LO_BYTE_SHIFT"), (49, .methodref 12 116), (0, .nameAndType 117 118), (0, u "compress"), (0, u "([CI[BII)I"), (3, u "([CII)[B"), (138, u "coderFromArrayLen"), (0, u "([BI)B"), (106, .class_ 371), (1, u "java/lang/StringUTF16$LinesSpliterator"), (58, u "MAX_LENGTH"), (196, .class_ 628), (0, u "java/lang/StringUTF16$CodePointsSpliterator"), (0, .class_ 630), (0, u "java/lang/StringUTF16$CharsSpliterator")] 4

def k14m0 : Method := { name := "<init>", desc := "()V", sig := { parameters := [], returnType := none }, accessFlags := 0, code := none }
def k14c1 : Code := { maxStack := 2, maxLocals := 2, code := jdk_52_method_15_code, exceptionTable := #[], attributes := #[] }
def k14m1 : Method := { name := "coderFromArrayLen", desc := "([BI)B", sig := { parameters := [(.array .byte), .int], returnType := some .byte }, accessFlags := 8, code := some k14c1 }
def k14c2 : Code := { maxStack := 5, maxLocals := 6, code := jdk_52_method_16_code, exceptionTable := #[], attributes := #[] }
def k14m2 : Method := { name := "compress", desc := "([CII)[B", sig := { parameters := [(.array .char), .int, .int], returnType := some (.array .byte) }, accessFlags := 9, code := some k14c2 }
def k14c3 : Code := { maxStack := 3, maxLocals := 7, code := jdk_52_method_21_code, exceptionTable := #[], attributes := #[] }
def k14m3 : Method := { name := "compress", desc := "([CI[BII)I", sig := { parameters := [(.array .char), .int, (.array .byte), .int, .int], returnType := some .int }, accessFlags := 9, code := some k14c3 }
/-- java/lang/StringUTF16 -/
def k14 : Class := { plain "java/lang/StringUTF16" (some 0) with
  accessFlags := 48
  interfaces := #[]
  cf := some (fileOf pool14 12 #[.nestMembers #[627, 629, 369]] #[{ accessFlags := 0, nameIndex := 9, descriptorIndex := 10, attributes := #[] }, { accessFlags := 8, nameIndex := 261, descriptorIndex := 262, attributes := #[] }, { accessFlags := 9, nameIndex := 117, descriptorIndex := 122, attributes := #[] }, { accessFlags := 9, nameIndex := 117, descriptorIndex := 118, attributes := #[] }] 48 6 #[] #[{ accessFlags := 26, nameIndex := 61, descriptorIndex := 62, attributes := #[] }, { accessFlags := 26, nameIndex := 65, descriptorIndex := 62, attributes := #[] }, { accessFlags := 24, nameIndex := 430, descriptorIndex := 62, attributes := #[] }, { accessFlags := 4120, nameIndex := 46, descriptorIndex := 47, attributes := #[] }])
  fields := #[{ name := "HI_BYTE_SHIFT", type := .int, accessFlags := 26, slot := 0, constantValue := 0 }, { name := "LO_BYTE_SHIFT", type := .int, accessFlags := 26, slot := 1, constantValue := 0 }, { name := "MAX_LENGTH", type := .int, accessFlags := 24, slot := 2, constantValue := 0 }, { name := "$assertionsDisabled", type := .boolean, accessFlags := 4120, slot := 3, constantValue := 0 }]
  methods := #[k14m0, k14m1, k14m2, k14m3]
  instanceTypes := #[]
  staticTypes := #[.int, .int, .int, .boolean]
  resolved := Array.replicate 635 none
  statics := none }

def pool15 : Array CpInfo := pool [(4, .class_ 6), (1, u "java/lang/Object"), (0, u "<init>"), (0, u "()V"), (5, .class_ 16), (1, u "java/lang/StringLatin1"), (73, u "canEncode"), (14, u "(C)Z"), (15, u "$assertionsDisabled"), (0, u "Z"), (98, .class_ 223), (1, u "java/lang/StringLatin1$LinesSpliterator"), (156, u "toBytes"), (1, u "(C)[B"), (7, .class_ 391), (0, u "java/lang/StringLatin1$CharsSpliterator")] 3

def k15m0 : Method := { name := "<init>", desc := "()V", sig := { parameters := [], returnType := none }, accessFlags := 0, code := none }
def k15c1 : Code := { maxStack := 2, maxLocals := 1, code := jdk_43_method_3_code, exceptionTable := #[], attributes := #[] }
def k15m1 : Method := { name := "canEncode", desc := "(C)Z", sig := { parameters := [.char], returnType := some .boolean }, accessFlags := 9, code := some k15c1 }
def k15c2 : Code := { maxStack := 4, maxLocals := 1, code := jdk_43_method_46_code, exceptionTable := #[], attributes := #[] }
def k15m2 : Method := { name := "toBytes", desc := "(C)[B", sig := { parameters := [.char], returnType := some (.array .byte) }, accessFlags := 9, code := some k15c2 }
/-- java/lang/StringLatin1 -/
def k15 : Class := { plain "java/lang/StringLatin1" (some 0) with
  accessFlags := 48
  interfaces := #[]
  cf := some (fileOf pool15 14 #[.nestMembers #[390, 221]] #[{ accessFlags := 0, nameIndex := 7, descriptorIndex := 8, attributes := #[] }, { accessFlags := 9, nameIndex := 90, descriptorIndex := 105, attributes := #[] }, { accessFlags := 9, nameIndex := 380, descriptorIndex := 382, attributes := #[] }] 48 4 #[] #[{ accessFlags := 4120, nameIndex := 121, descriptorIndex := 122, attributes := #[] }])
  fields := #[{ name := "$assertionsDisabled", type := .boolean, accessFlags := 4120, slot := 0, constantValue := 0 }]
  methods := #[k15m0, k15m1, k15m2]
  instanceTypes := #[]
  staticTypes := #[.boolean]
  resolved := Array.replicate 395 none
  statics := none }

def pool16 : Array CpInfo := pool [(2, .class_ 4), (1, u "java/lang/Object"), (0, u "<init>"), (0, u "()V"), (17, .class_ 26), (1, u "jdk/internal/util/Preconditions"), (28, .class_ 56), (0, u "jdk/internal/util/Preconditions$4"), (57, .class_ 115), (0, u "jdk/internal/util/Preconditions$1"), (7, u "SIOOBE_FORMATTER"), (0, u "Ljava/util/function/BiFunction;"), (0, .class_ 126), (0, u "jdk/internal/util/Preconditions$2"), (3, u "AIOOBE_FORMATTER"), (0, .class_ 132), (0, u "jdk/internal/util/Preconditions$3"), (3, u "IOOBE_FORMATTER")] 57

def k16m0 : Method := { name := "<init>", desc := "()V", sig := { parameters := [], returnType := none }, accessFlags := 1, code := none }
/-- jdk/internal/util/Preconditions -/
def k16 : Class := { plain "jdk/internal/util/Preconditions" (some 0) with
  accessFlags := 33
  interfaces := #[]
  cf := some (fileOf pool16 24 #[.nestMembers #[55, 131, 125, 114]] #[{ accessFlags := 1, nameIndex := 5, descriptorIndex := 6, attributes := #[] }] 33 2 #[] #[{ accessFlags := 25, nameIndex := 123, descriptorIndex := 124, attributes := #[] }, { accessFlags := 25, nameIndex := 130, descriptorIndex := 124, attributes := #[] }, { accessFlags := 25, nameIndex := 136, descriptorIndex := 124, attributes := #[] }])
  fields := #[{ name := "SIOOBE_FORMATTER", type := (.object "java/util/function/BiFunction"), accessFlags := 25, slot := 0, constantValue := 0 }, { name := "AIOOBE_FORMATTER", type := (.object "java/util/function/BiFunction"), accessFlags := 25, slot := 1, constantValue := 0 }, { name := "IOOBE_FORMATTER", type := (.object "java/util/function/BiFunction"), accessFlags := 25, slot := 2, constantValue := 0 }]
  methods := #[k16m0]
  instanceTypes := #[]
  staticTypes := #[(.object "java/util/function/BiFunction"), (.object "java/util/function/BiFunction"), (.object "java/util/function/BiFunction")]
  resolved := Array.replicate 194 none
  statics := some 3 }

def pool17 : Array CpInfo := pool [(9, u "<init>"), (6, .class_ 18), (1, u "java/lang/Object"), (0, u "()V"), (1, .class_ 23), (1, u "jdk/internal/util/ArraysSupport"), (0, u "LOG2_ARRAY_LONG_INDEX_SCALE"), (0, u "I"), (2, u "U"), (0, u "Ljdk/internal/misc/Unsafe;"), (8, u "BIG_ENDIAN"), (0, u "Z"), (8, u "LOG2_BYTE_BIT_SIZE"), (4, u "LOG2_ARRAY_INT_INDEX_SCALE"), (54, u "JLA"), (0, u "Ljdk/internal/access/JavaLangAccess;"), (11, u "LOG2_ARRAY_BOOLEAN_INDEX_SCALE"), (9, u "LOG2_ARRAY_BYTE_INDEX_SCALE"), (5, u "LOG2_ARRAY_CHAR_INDEX_SCALE"), (5, u "LOG2_ARRAY_SHORT_INDEX_SCALE"), (18, u "LOG2_ARRAY_FLOAT_INDEX_SCALE"), (24, u "LOG2_ARRAY_DOUBLE_INDEX_SCALE"), (89, u "T_BOOLEAN"), (2, u "T_CHAR"), (1, u "T_FLOAT"), (1, u "T_DOUBLE"), (1, u "T_BYTE"), (1, u "T_SHORT"), (1, u "T_INT"), (1, u "T_LONG"), (1, u "SOFT_MAX_ARRAY_LENGTH")] 83

def k17m0 : Method := { name := "<init>", desc := "()V", sig := { parameters := [], returnType := none }, accessFlags := 2, code := none }
/-- jdk/internal/util/ArraysSupport -/
def k17 : Class := { plain "jdk/internal/util/ArraysSupport" (some 0) with
  accessFlags := 33
  interfaces := #[]
  cf := some (fileOf pool17 21 #[] #[{ accessFlags := 2, nameIndex := 9, descriptorIndex := 19, attributes := #[] }] 33 16 #[] #[{ accessFlags := 24, nameIndex := 28, descriptorIndex := 29, attributes := #[] }, { accessFlags := 26, nameIndex := 38, descriptorIndex := 39, attributes := #[] }, { accessFlags := 25, nameIndex := 121, descriptorIndex := 25, attributes := #[] }, { accessFlags := 25, nameIndex := 131, descriptorIndex := 25, attributes := #[] }, { accessFlags := 25, nameIndex := 137, descriptorIndex := 25, attributes := #[] }, { accessFlags := 25, nameIndex := 143, descriptorIndex := 25, attributes := #[] }, { accessFlags := 25, nameIndex := 53, descriptorIndex := 25, attributes := #[] }, { accessFlags := 25, nameIndex := 24, descriptorIndex := 25, attributes := #[] }, { accessFlags := 25, nameIndex := 162, descriptorIndex := 25, attributes := #[] }, { accessFlags := 25, nameIndex := 187, descriptorIndex := 25, attributes := #[] }, { accessFlags := 26, nameIndex := 48, descriptorIndex := 25, attributes := #[] }, { accessFlags := 25, nameIndex := 277, descriptorIndex := 25, attributes := #[] }, { accessFlags := 25, nameIndex := 280, descriptorIndex := 25, attributes := #[] }, { accessFlags := 25, nameIndex := 282, descriptorIndex := 25, attributes := #[] }, { accessFlags := 25, nameIndex := 284, descriptorIndex := 25, attributes := #[] }, { accessFlags := 25, nameIndex := 286, descriptorIndex := 25, attributes := #[] }, { accessFlags := 25, nameIndex := 288, descriptorIndex := 25, attributes := #[] }, { accessFlags := 25, nameIndex := 290, descriptorIndex := 25, attributes := #[] }, { accessFlags := 25, nameIndex := 292, descriptorIndex := 25, attributes := #[] }, { accessFlags := 26, nameIndex := 108, descriptorIndex := 109, attributes := #[] }, { accessFlags := 25, nameIndex := 294, descriptorIndex := 25, attributes := #[] }])
  fields := #[{ name := "U", type := (.object "jdk/internal/misc/Unsafe"), accessFlags := 24, slot := 0, constantValue := 0 }, { name := "BIG_ENDIAN", type := .boolean, accessFlags := 26, slot := 1, constantValue := 0 }, { name := "LOG2_ARRAY_BOOLEAN_INDEX_SCALE", type := .int, accessFlags := 25, slot := 2, constantValue := 0 }, { name := "LOG2_ARRAY_BYTE_INDEX_SCALE", type := .int, accessFlags := 25, slot := 3, constantValue := 0 }, { name := "LOG2_ARRAY_CHAR_INDEX_SCALE", type := .int, accessFlags := 25, slot := 4, constantValue := 0 }, { name := "LOG2_ARRAY_SHORT_INDEX_SCALE", type := .int, accessFlags := 25, slot := 5, constantValue := 0 }, { name := "LOG2_ARRAY_INT_INDEX_SCALE", type := .int, accessFlags := 25, slot := 6, constantValue := 0 }, { name := "LOG2_ARRAY_LONG_INDEX_SCALE", type := .int, accessFlags := 25, slot := 7, constantValue := 0 }, { name := "LOG2_ARRAY_FLOAT_INDEX_SCALE", type := .int, accessFlags := 25, slot := 8, constantValue := 0 }, { name := "LOG2_ARRAY_DOUBLE_INDEX_SCALE", type := .int, accessFlags := 25, slot := 9, constantValue := 0 }, { name := "LOG2_BYTE_BIT_SIZE", type := .int, accessFlags := 26, slot := 10, constantValue := 0 }, { name := "T_BOOLEAN", type := .int, accessFlags := 25, slot := 11, constantValue := 0 }, { name := "T_CHAR", type := .int, accessFlags := 25, slot := 12, constantValue := 0 }, { name := "T_FLOAT", type := .int, accessFlags := 25, slot := 13, constantValue := 0 }, { name := "T_DOUBLE", type := .int, accessFlags := 25, slot := 14, constantValue := 0 }, { name := "T_BYTE", type := .int, accessFlags := 25, slot := 15, constantValue := 0 }, { name := "T_SHORT", type := .int, accessFlags := 25, slot := 16, constantValue := 0 }, { name := "T_INT", type := .int, accessFlags := 25, slot := 17, constantValue := 0 }, { name := "T_LONG", type := .int, accessFlags := 25, slot := 18, constantValue := 0 }, { name := "JLA", type := (.object "jdk/internal/access/JavaLangAccess"), accessFlags := 26, slot := 19, constantValue := 0 }, { name := "SOFT_MAX_ARRAY_LENGTH", type := .int, accessFlags := 25, slot := 20, constantValue := 0 }]
  methods := #[k17m0]
  instanceTypes := #[]
  staticTypes := #[(.object "jdk/internal/misc/Unsafe"), .boolean, .int, .int, .int, .int, .int, .int, .int, .int, .int, .int, .int, .int, .int, .int, .int, .int, .int, (.object "jdk/internal/access/JavaLangAccess"), .int]
  resolved := Array.replicate 378 none
  statics := none }

def pool18 : Array CpInfo := pool [(1, u "java/lang/Cloneable"), (0, .class_ 1), (0, u "java/lang/Object"), (0, .class_ 3)] 3

/-- java/lang/Cloneable -/
def k18 : Class := { plain "java/lang/Cloneable" (some 0) with
  accessFlags := 1537
  interfaces := #[]
  cf := some (fileOf pool18 2 #[] #[] 1537 4 #[] #[])
  fields := #[]
  methods := #[]
  instanceTypes := #[]
  staticTypes := #[]
  resolved := Array.replicate 8 none
  statics := none }

/-- the primitive byte -/
def k19 : Class := { plain "byte" none with kind := .primitive 'B', accessFlags := 0x411 }
/-- [B -/
def k20 : Class := { plain "[B" (some 0) with kind := .array 19 .byte, interfaces := #[18, 2], accessFlags := 1041 }

/-- the primitive char -/
def k21 : Class := { plain "char" none with kind := .primitive 'C', accessFlags := 0x411 }
/-- [C -/
def k22 : Class := { plain "[C" (some 0) with kind := .array 21 .char, interfaces := #[18, 2], accessFlags := 1041 }

/-- the primitive int -/
def k23 : Class := { plain "int" none with kind := .primitive 'I', accessFlags := 0x411 }
/-- [I -/
def k24 : Class := { plain "[I" (some 0) with kind := .array 23 .int, interfaces := #[18, 2], accessFlags := 1041 }

def heap : Heap := #[{ cls := 7, slots := #[.long 0, .int 1, .null, .int 0, .null, .int 0, .int 0], vm := .statics 7 },
  { cls := 9, slots := #[.ref 4, .ref 5, .ref 6, .ref 7, .null], vm := .statics 9 },
  { cls := 12, slots := #[.ref 8], vm := .statics 12 },
  { cls := 16, slots := #[.null, .null, .null], vm := .statics 16 },
  { cls := 9, slots := #[.null, .int 0, .int 0], vm := .none },
  { cls := 9, slots := #[.null, .int 1, .int 0], vm := .none },
  { cls := 9, slots := #[.null, .int 2, .int 0], vm := .none },
  { cls := 9, slots := #[.null, .int 3, .int 0], vm := .none },
  { cls := 12, slots := #[.null], vm := .none }]
def classes : Array Class := #[k0, k1, k2, k3, k4, k5, k6, k7, k8, k9, k10, k11, k12, k13, k14, k15, k16, k17, k18, k19, k20, k21, k22, k23, k24]
def interned : List (Array UInt16 × Addr) := []
def slotsUsed : Nat := 29
def theMethod : MethodId := ⟨1, 1⟩
def args0 : Array Value := #[.int 5, .int 5, .int 5]
def aboutOver (below : List Frame) : State where
  vm := { classes := classes, interned := interned.toArray }
  heap := heap
  slotsUsed := slotsUsed
  threads := #[{ frames := .invoking theMethod args0 :: below }]
def below0 : List Frame := [.native { method := ⟨0, 0⟩, args := #[] }]
def about1 : State := aboutOver below0
def p0 : Program := .bare "" "" ""
def e0 : Env := launch0.env 0 0 0
theorem w_frames : about1.frames = Frame.invoking theMethod args0 :: below0 := rfl
set_option maxRecDepth 65536 in
theorem w_args : argsFit about1.vm theMethod args0 = true := by decide +kernel
set_option maxRecDepth 65536 in
theorem w_heap : heapFits about1 = true := by decide +kernel
set_option maxRecDepth 65536 in
theorem w_runnable : about1.curStatus? = some .runnable := by decide +kernel
set_option maxRecDepth 65536 in
theorem w_alone : about1.alone = true := by decide +kernel
set_option maxRecDepth 65536 in
theorem w_named : about1.methodNamed? x = some theMethod := by decide +kernel
set_option maxRecDepth 65536 in
theorem w_hears : about1.hears theMethod below0 = true := by decide +kernel
set_option maxRecDepth 65536 in
theorem w_ripe : about1.ripe theMethod args0 below0 = true := by decide +kernel
theorem w_running : about1.status = .running := rfl
set_option maxRecDepth 65536 in
theorem w_room : about1.hasRoom e0.platform room_1 = true :=
  launch0.hasRoom_least _ room_1 (by decide +kernel) (by decide +kernel) (by decide +kernel) (by decide +kernel) (by decide +kernel) (by decide +kernel)
theorem allAtoms_all (ts : List Jvm.Cond) (a : Array Jvm.Value) (st : Jvm.State) : (allAtoms ts).before a st = ts.all (fun c => c.before a st) := by
  induction ts with
  | nil => rfl
  | cons c t ih =>
    show (Jvm.Cond.and c (allAtoms t)).before a st = _
    rw [Jvm.Cond.before_and, ih, List.all_cons]
def words1 : List Jvm.Cond := Jvm.Cond.code x code maxLocals ret :: tables_1
/-- a 'code' word, met by the world's own term for the bytes: nothing is compared byte by byte -/
theorem code_word {y : MethodName} {bytes : ByteArray} {mx : Nat} {rt : Option FieldType} {a : Array Value} {s : State} {m : MethodId} {meth : Method} {c : Code} (h1 : s.methodNamed? y = some m) (h2 : s.vm.method? m = some meth) (h3 : meth.code = some c) (h4 : c.code = bytes)
    (h5 : (c.maxLocals == mx && c.exceptionTable.isEmpty && decide (c.maxStack ≤ mostOperands) && decide (meth.sig.returnType = rt) && !meth.locks && decide (parseMethodDescriptor y.desc = some meth.sig)) = true) : (Jvm.Cond.code y bytes mx rt).before a s = true := by
  simp only [Bool.and_eq_true, beq_iff_eq, Bool.not_eq_true', decide_eq_true_eq] at h5
  obtain ⟨⟨⟨⟨⟨g1, g2⟩, g3⟩, g4⟩, g5⟩, g6⟩ := h5
  simp [Cond.before, Cond.holds, Cond.value, h1, h2, h3, h4, g1, g2, g3, g4, g5, g6]
def isCode : Jvm.Cond → Bool
  | .code _ _ _ _ => true
  | _ => false
theorem all_split {L : List Jvm.Cond} {P : Jvm.Cond → Bool} (h1 : L.all (fun c => isCode c || P c) = true) (h2 : ∀ c ∈ L.filter isCode, P c = true) : L.all P = true := by
  refine List.all_eq_true.mpr fun c hc => ?_
  have h := List.all_eq_true.mp h1 c hc
  rcases Bool.eq_false_or_eq_true (isCode c) with hi | hi
  · exact h2 c (List.mem_filter.mpr ⟨hc, hi⟩)
  · simpa [hi] using h
set_option maxRecDepth 65536 in
theorem w_c0 : (Jvm.Cond.code x code maxLocals ret).before args0 about1 = true := code_word (m := ⟨1, 1⟩) (meth := k1m1) (c := k1c1) (by decide +kernel) rfl rfl rfl (by decide +kernel)
set_option maxRecDepth 65536 in
theorem w_c1 : (Jvm.Cond.code ({ cls := "com/example/lexicarta/lexicarta/glossary/Span", name := "of", desc := "(Ljava/lang/String;Lcom/example/lexicarta/lexicarta/glossary/TextStyle;)Lcom/example/lexicarta/lexicarta/glossary/Span;" } : Jvm.MethodName) prog_27_method_2_code (2 : Nat) (Option.some (Jvm.ClassFile.FieldType.object "com/example/lexicarta/lexicarta/glossary/Span"))).before args0 about1 = true := code_word (m := ⟨11, 1⟩) (meth := k11m1) (c := k11c1) (by decide +kernel) rfl rfl rfl (by decide +kernel)
set_option maxRecDepth 65536 in
theorem w_c2 : (Jvm.Cond.code ({ cls := "java/util/Optional", name := "of", desc := "(Ljava/lang/Object;)Ljava/util/Optional;" } : Jvm.MethodName) jdk_32_method_3_code (1 : Nat) (Option.some (Jvm.ClassFile.FieldType.object "java/util/Optional"))).before args0 about1 = true := code_word (m := ⟨12, 2⟩) (meth := k12m2) (c := k12c2) (by decide +kernel) rfl rfl rfl (by decide +kernel)
set_option maxRecDepth 65536 in
theorem w_c3 : (Jvm.Cond.code ({ cls := "java/util/Objects", name := "requireNonNull", desc := "(Ljava/lang/Object;)Ljava/lang/Object;" } : Jvm.MethodName) jdk_31_method_10_code (1 : Nat) (Option.some (Jvm.ClassFile.FieldType.object "java/lang/Object"))).before args0 about1 = true := code_word (m := ⟨13, 1⟩) (meth := k13m1) (c := k13c1) (by decide +kernel) rfl rfl rfl (by decide +kernel)
set_option maxRecDepth 65536 in
theorem w_c4 : (Jvm.Cond.code ({ cls := "java/util/Optional", name := "<init>", desc := "(Ljava/lang/Object;)V" } : Jvm.MethodName) jdk_32_method_2_code (2 : Nat) (Option.none : Option Jvm.ClassFile.FieldType)).before args0 about1 = true := code_word (m := ⟨12, 1⟩) (meth := k12m1) (c := k12c1) (by decide +kernel) rfl rfl rfl (by decide +kernel)
set_option maxRecDepth 65536 in
theorem w_c5 : (Jvm.Cond.code ({ cls := "java/lang/Object", name := "<init>", desc := "()V" } : Jvm.MethodName) object_method_1_code (1 : Nat) (Option.none : Option Jvm.ClassFile.FieldType)).before args0 about1 = true := code_word (m := ⟨0, 0⟩) (meth := k0m0) (c := k0c0) (by decide +kernel) rfl rfl rfl (by decide +kernel)
set_option maxRecDepth 65536 in
theorem w_c6 : (Jvm.Cond.code ({ cls := "com/example/lexicarta/lexicarta/glossary/Span", name := "<init>", desc := "(Ljava/lang/String;Ljava/util/Optional;Z)V" } : Jvm.MethodName) prog_27_method_1_code (4 : Nat) (Option.none : Option Jvm.ClassFile.FieldType)).before args0 about1 = true := code_word (m := ⟨11, 0⟩) (meth := k11m0) (c := k11c0) (by decide +kernel) rfl rfl rfl (by decide +kernel)
set_option maxRecDepth 65536 in
theorem w_c7 : (Jvm.Cond.code ({ cls := "java/lang/Record", name := "<init>", desc := "()V" } : Jvm.MethodName) jdk_30_method_1_code (1 : Nat) (Option.none : Option Jvm.ClassFile.FieldType)).before args0 about1 = true := code_word (m := ⟨10, 0⟩) (meth := k10m0) (c := k10c0) (by decide +kernel) rfl rfl rfl (by decide +kernel)
set_option maxRecDepth 65536 in
theorem w_c8 : (Jvm.Cond.code ({ cls := "com/example/lexicarta/lexicarta/glossary/Span", name := "style", desc := "()Ljava/util/Optional;" } : Jvm.MethodName) prog_27_method_9_code (1 : Nat) (Option.some (Jvm.ClassFile.FieldType.object "java/util/Optional"))).before args0 about1 = true := code_word (m := ⟨11, 5⟩) (meth := k11m5) (c := k11c5) (by decide +kernel) rfl rfl rfl (by decide +kernel)
set_option maxRecDepth 65536 in
theorem w_c9 : (Jvm.Cond.code ({ cls := "com/example/lexicarta/lexicarta/glossary/Span", name := "withJoined", desc := "(Z)Lcom/example/lexicarta/lexicarta/glossary/Span;" } : Jvm.MethodName) prog_27_method_4_code (2 : Nat) (Option.some (Jvm.ClassFile.FieldType.object "com/example/lexicarta/lexicarta/glossary/Span"))).before args0 about1 = true := code_word (m := ⟨11, 3⟩) (meth := k11m3) (c := k11c3) (by decide +kernel) rfl rfl rfl (by decide +kernel)
set_option maxRecDepth 65536 in
theorem w_c10 : (Jvm.Cond.code ({ cls := "com/example/lexicarta/lexicarta/glossary/Span", name := "text", desc := "()Ljava/lang/String;" } : Jvm.MethodName) prog_27_method_8_code (1 : Nat) (Option.some (Jvm.ClassFile.FieldType.object "java/lang/String"))).before args0 about1 = true := code_word (m := ⟨11, 4⟩) (meth := k11m4) (c := k11c4) (by decide +kernel) rfl rfl rfl (by decide +kernel)
set_option maxRecDepth 65536 in
theorem w_c11 : (Jvm.Cond.code ({ cls := "com/example/lexicarta/lexicarta/glossary/Span", name := "joined", desc := "()Z" } : Jvm.MethodName) prog_27_method_10_code (1 : Nat) (Option.some Jvm.ClassFile.FieldType.boolean)).before args0 about1 = true := code_word (m := ⟨11, 6⟩) (meth := k11m6) (c := k11c6) (by decide +kernel) rfl rfl rfl (by decide +kernel)
set_option maxRecDepth 65536 in
theorem w_c12 : (Jvm.Cond.code ({ cls := "java/lang/String", name := "<init>", desc := "([C)V" } : Jvm.MethodName) jdk_42_method_3_code (2 : Nat) (Option.none : Option Jvm.ClassFile.FieldType)).before args0 about1 = true := code_word (m := ⟨7, 1⟩) (meth := k7m1) (c := k7c1) (by decide +kernel) rfl rfl rfl (by decide +kernel)
set_option maxRecDepth 65536 in
theorem w_c13 : (Jvm.Cond.code ({ cls := "java/lang/String", name := "<init>", desc := "([CIILjava/lang/Void;)V" } : Jvm.MethodName) jdk_42_method_149_code (6 : Nat) (Option.none : Option Jvm.ClassFile.FieldType)).before args0 about1 = true := code_word (m := ⟨7, 3⟩) (meth := k7m3) (c := k7c3) (by decide +kernel) rfl rfl rfl (by decide +kernel)
set_option maxRecDepth 65536 in
theorem w_c14 : (Jvm.Cond.code ({ cls := "java/lang/StringUTF16", name := "compress", desc := "([CII)[B" } : Jvm.MethodName) jdk_52_method_16_code (6 : Nat) (Option.some (Jvm.ClassFile.FieldType.array Jvm.ClassFile.FieldType.byte))).before args0 about1 = true := code_word (m := ⟨14, 2⟩) (meth := k14m2) (c := k14c2) (by decide +kernel) rfl rfl rfl (by decide +kernel)
set_option maxRecDepth 65536 in
theorem w_c15 : (Jvm.Cond.code ({ cls := "java/lang/StringUTF16", name := "compress", desc := "([CI[BII)I" } : Jvm.MethodName) jdk_52_method_21_code (7 : Nat) (Option.some Jvm.ClassFile.FieldType.int)).before args0 about1 = true := code_word (m := ⟨14, 3⟩) (meth := k14m3) (c := k14c3) (by decide +kernel) rfl rfl rfl (by decide +kernel)
set_option maxRecDepth 65536 in
theorem w_c16 : (Jvm.Cond.code ({ cls := "java/lang/StringUTF16", name := "coderFromArrayLen", desc := "([BI)B" } : Jvm.MethodName) jdk_52_method_15_code (2 : Nat) (Option.some Jvm.ClassFile.FieldType.byte)).before args0 about1 = true := code_word (m := ⟨14, 1⟩) (meth := k14m1) (c := k14c1) (by decide +kernel) rfl rfl rfl (by decide +kernel)
set_option maxRecDepth 65536 in
theorem w_c17 : (Jvm.Cond.code ({ cls := "com/example/lexicarta/lexicarta/glossary/Span", name := "plain", desc := "(Ljava/lang/String;)Lcom/example/lexicarta/lexicarta/glossary/Span;" } : Jvm.MethodName) prog_27_method_3_code (1 : Nat) (Option.some (Jvm.ClassFile.FieldType.object "com/example/lexicarta/lexicarta/glossary/Span"))).before args0 about1 = true := code_word (m := ⟨11, 2⟩) (meth := k11m2) (c := k11c2) (by decide +kernel) rfl rfl rfl (by decide +kernel)
set_option maxRecDepth 65536 in
theorem w_c18 : (Jvm.Cond.code ({ cls := "java/util/Optional", name := "empty", desc := "()Ljava/util/Optional;" } : Jvm.MethodName) jdk_32_method_1_code (1 : Nat) (Option.some (Jvm.ClassFile.FieldType.object "java/util/Optional"))).before args0 about1 = true := code_word (m := ⟨12, 0⟩) (meth := k12m0) (c := k12c0) (by decide +kernel) rfl rfl rfl (by decide +kernel)
set_option maxRecDepth 65536 in
theorem w_c19 : (Jvm.Cond.code ({ cls := "java/lang/String", name := "valueOf", desc := "(C)Ljava/lang/String;" } : Jvm.MethodName) jdk_42_method_139_code (1 : Nat) (Option.some (Jvm.ClassFile.FieldType.object "java/lang/String"))).before args0 about1 = true := code_word (m := ⟨7, 2⟩) (meth := k7m2) (c := k7c2) (by decide +kernel) rfl rfl rfl (by decide +kernel)
set_option maxRecDepth 65536 in
theorem w_c20 : (Jvm.Cond.code ({ cls := "java/lang/StringLatin1", name := "canEncode", desc := "(C)Z" } : Jvm.MethodName) jdk_43_method_3_code (1 : Nat) (Option.some Jvm.ClassFile.FieldType.boolean)).before args0 about1 = true := code_word (m := ⟨15, 1⟩) (meth := k15m1) (c := k15c1) (by decide +kernel) rfl rfl rfl (by decide +kernel)
set_option maxRecDepth 65536 in
theorem w_c21 : (Jvm.Cond.code ({ cls := "java/lang/StringLatin1", name := "toBytes", desc := "(C)[B" } : Jvm.MethodName) jdk_43_method_46_code (1 : Nat) (Option.some (Jvm.ClassFile.FieldType.array Jvm.ClassFile.FieldType.byte))).before args0 about1 = true := code_word (m := ⟨15, 2⟩) (meth := k15m2) (c := k15c2) (by decide +kernel) rfl rfl rfl (by decide +kernel)
set_option maxRecDepth 65536 in
theorem w_c22 : (Jvm.Cond.code ({ cls := "java/lang/String", name := "<init>", desc := "([BB)V" } : Jvm.MethodName) jdk_42_method_151_code (3 : Nat) (Option.none : Option Jvm.ClassFile.FieldType)).before args0 about1 = true := code_word (m := ⟨7, 4⟩) (meth := k7m4) (c := k7c4) (by decide +kernel) rfl rfl rfl (by decide +kernel)
def codes1 : List Jvm.Cond := [Jvm.Cond.code x code maxLocals ret, Jvm.Cond.code ({ cls := "com/example/lexicarta/lexicarta/glossary/Span", name := "of", desc := "(Ljava/lang/String;Lcom/example/lexicarta/lexicarta/glossary/TextStyle;)Lcom/example/lexicarta/lexicarta/glossary/Span;" } : Jvm.MethodName) prog_27_method_2_code (2 : Nat) (Option.some (Jvm.ClassFile.FieldType.object "com/example/lexicarta/lexicarta/glossary/Span")), Jvm.Cond.code ({ cls := "java/util/Optional", name := "of", desc := "(Ljava/lang/Object;)Ljava/util/Optional;" } : Jvm.MethodName) jdk_32_method_3_code (1 : Nat) (Option.some (Jvm.ClassFile.FieldType.object "java/util/Optional")), Jvm.Cond.code ({ cls := "java/util/Objects", name := "requireNonNull", desc := "(Ljava/lang/Object;)Ljava/lang/Object;" } : Jvm.MethodName) jdk_31_method_10_code (1 : Nat) (Option.some (Jvm.ClassFile.FieldType.object "java/lang/Object")), Jvm.Cond.code ({ cls := "java/util/Optional", name := "<init>", desc := "(Ljava/lang/Object;)V" } : Jvm.MethodName) jdk_32_method_2_code (2 : Nat) (Option.none : Option Jvm.ClassFile.FieldType), Jvm.Cond.code ({ cls := "java/lang/Object", name := "<init>", desc := "()V" } : Jvm.MethodName) object_method_1_code (1 : Nat) (Option.none : Option Jvm.ClassFile.FieldType), Jvm.Cond.code ({ cls := "com/example/lexicarta/lexicarta/glossary/Span", name := "<init>", desc := "(Ljava/lang/String;Ljava/util/Optional;Z)V" } : Jvm.MethodName) prog_27_method_1_code (4 : Nat) (Option.none : Option Jvm.ClassFile.FieldType), Jvm.Cond.code ({ cls := "java/lang/Record", name := "<init>", desc := "()V" } : Jvm.MethodName) jdk_30_method_1_code (1 : Nat) (Option.none : Option Jvm.ClassFile.FieldType), Jvm.Cond.code ({ cls := "com/example/lexicarta/lexicarta/glossary/Span", name := "style", desc := "()Ljava/util/Optional;" } : Jvm.MethodName) prog_27_method_9_code (1 : Nat) (Option.some (Jvm.ClassFile.FieldType.object "java/util/Optional")), Jvm.Cond.code ({ cls := "com/example/lexicarta/lexicarta/glossary/Span", name := "withJoined", desc := "(Z)Lcom/example/lexicarta/lexicarta/glossary/Span;" } : Jvm.MethodName) prog_27_method_4_code (2 : Nat) (Option.some (Jvm.ClassFile.FieldType.object "com/example/lexicarta/lexicarta/glossary/Span")), Jvm.Cond.code ({ cls := "com/example/lexicarta/lexicarta/glossary/Span", name := "text", desc := "()Ljava/lang/String;" } : Jvm.MethodName) prog_27_method_8_code (1 : Nat) (Option.some (Jvm.ClassFile.FieldType.object "java/lang/String")), Jvm.Cond.code ({ cls := "com/example/lexicarta/lexicarta/glossary/Span", name := "joined", desc := "()Z" } : Jvm.MethodName) prog_27_method_10_code (1 : Nat) (Option.some Jvm.ClassFile.FieldType.boolean), Jvm.Cond.code ({ cls := "java/lang/String", name := "<init>", desc := "([C)V" } : Jvm.MethodName) jdk_42_method_3_code (2 : Nat) (Option.none : Option Jvm.ClassFile.FieldType), Jvm.Cond.code ({ cls := "java/lang/String", name := "<init>", desc := "([CIILjava/lang/Void;)V" } : Jvm.MethodName) jdk_42_method_149_code (6 : Nat) (Option.none : Option Jvm.ClassFile.FieldType), Jvm.Cond.code ({ cls := "java/lang/StringUTF16", name := "compress", desc := "([CII)[B" } : Jvm.MethodName) jdk_52_method_16_code (6 : Nat) (Option.some (Jvm.ClassFile.FieldType.array Jvm.ClassFile.FieldType.byte)), Jvm.Cond.code ({ cls := "java/lang/StringUTF16", name := "compress", desc := "([CI[BII)I" } : Jvm.MethodName) jdk_52_method_21_code (7 : Nat) (Option.some Jvm.ClassFile.FieldType.int), Jvm.Cond.code ({ cls := "java/lang/StringUTF16", name := "coderFromArrayLen", desc := "([BI)B" } : Jvm.MethodName) jdk_52_method_15_code (2 : Nat) (Option.some Jvm.ClassFile.FieldType.byte), Jvm.Cond.code ({ cls := "com/example/lexicarta/lexicarta/glossary/Span", name := "plain", desc := "(Ljava/lang/String;)Lcom/example/lexicarta/lexicarta/glossary/Span;" } : Jvm.MethodName) prog_27_method_3_code (1 : Nat) (Option.some (Jvm.ClassFile.FieldType.object "com/example/lexicarta/lexicarta/glossary/Span")), Jvm.Cond.code ({ cls := "java/util/Optional", name := "empty", desc := "()Ljava/util/Optional;" } : Jvm.MethodName) jdk_32_method_1_code (1 : Nat) (Option.some (Jvm.ClassFile.FieldType.object "java/util/Optional")), Jvm.Cond.code ({ cls := "java/lang/String", name := "valueOf", desc := "(C)Ljava/lang/String;" } : Jvm.MethodName) jdk_42_method_139_code (1 : Nat) (Option.some (Jvm.ClassFile.FieldType.object "java/lang/String")), Jvm.Cond.code ({ cls := "java/lang/StringLatin1", name := "canEncode", desc := "(C)Z" } : Jvm.MethodName) jdk_43_method_3_code (1 : Nat) (Option.some Jvm.ClassFile.FieldType.boolean), Jvm.Cond.code ({ cls := "java/lang/StringLatin1", name := "toBytes", desc := "(C)[B" } : Jvm.MethodName) jdk_43_method_46_code (1 : Nat) (Option.some (Jvm.ClassFile.FieldType.array Jvm.ClassFile.FieldType.byte)), Jvm.Cond.code ({ cls := "java/lang/String", name := "<init>", desc := "([BB)V" } : Jvm.MethodName) jdk_42_method_151_code (3 : Nat) (Option.none : Option Jvm.ClassFile.FieldType)]
set_option maxRecDepth 65536 in
theorem codes_eq : words1.filter isCode = codes1 := rfl
theorem w_codes : ∀ c ∈ words1.filter isCode, c.before args0 about1 = true := by
  rw [codes_eq]
  intro c hc
  simp only [codes1, List.mem_cons, List.not_mem_nil, or_false] at hc
  rcases hc with rfl | rfl | rfl | rfl | rfl | rfl | rfl | rfl | rfl | rfl | rfl | rfl | rfl | rfl | rfl | rfl | rfl | rfl | rfl | rfl | rfl | rfl | rfl
  · exact w_c0
  · exact w_c1
  · exact w_c2
  · exact w_c3
  · exact w_c4
  · exact w_c5
  · exact w_c6
  · exact w_c7
  · exact w_c8
  · exact w_c9
  · exact w_c10
  · exact w_c11
  · exact w_c12
  · exact w_c13
  · exact w_c14
  · exact w_c15
  · exact w_c16
  · exact w_c17
  · exact w_c18
  · exact w_c19
  · exact w_c20
  · exact w_c21
  · exact w_c22
set_option maxRecDepth 65536 in
theorem w_t1 : (words1.take 24).all (fun c => isCode c || c.before args0 about1) = true := by decide +kernel
set_option maxRecDepth 65536 in
theorem w_t2 : ((words1.drop 24).take 24).all (fun c => isCode c || c.before args0 about1) = true := by decide +kernel
set_option maxRecDepth 65536 in
theorem w_t3 : (((words1.drop 24).drop 24).take 24).all (fun c => isCode c || c.before args0 about1) = true := by decide +kernel
set_option maxRecDepth 65536 in
theorem w_t4 : ((((words1.drop 24).drop 24).drop 24).take 24).all (fun c => isCode c || c.before args0 about1) = true := by decide +kernel
set_option maxRecDepth 65536 in
theorem w_t5 : (((((words1.drop 24).drop 24).drop 24).drop 24).take 24).all (fun c => isCode c || c.before args0 about1) = true := by decide +kernel
set_option maxRecDepth 65536 in
theorem w_t6 : (((((words1.drop 24).drop 24).drop 24).drop 24).drop 24).all (fun c => isCode c || c.before args0 about1) = true := by decide +kernel
theorem w_tables : (allAtoms (Jvm.Cond.code x code maxLocals ret :: tables_1)).before args0 about1 = true := by
  rw [allAtoms_all]
  show words1.all (fun c => c.before args0 about1) = true
  refine all_split ?_ w_codes
  rw [← List.take_append_drop 24 words1, List.all_append, w_t1, ← List.take_append_drop 24 (words1.drop 24), List.all_append, w_t2, ← List.take_append_drop 24 ((words1.drop 24).drop 24), List.all_append, w_t3, ← List.take_append_drop 24 (((words1.drop 24).drop 24).drop 24), List.all_append, w_t4, ← List.take_append_drop 24 ((((words1.drop 24).drop 24).drop 24).drop 24), List.all_append, w_t5, w_t6]
  rfl
set_option maxRecDepth 65536 in
theorem w_rest : rest_1_c.before args0 about1 = true := by decide +kernel
set_option maxRecDepth 65536 in
theorem w_case : (Jvm.Cond.and given_1 narrow_1).before args0 about1 = true := by decide +kernel
theorem w_applies : (headSpec (Jvm.Cond.code x code maxLocals ret :: tables_1) room_1).applies x e0.platform about1 = true :=
  (Spec.applies_iff w_frames).mpr ⟨w_running, w_runnable, w_alone, w_named, w_hears, w_ripe, w_room, w_tables⟩
theorem atStart : AtStart classFile x code maxLocals ret World_1 tables_1 room_1 Calls_1 rest_1 Pre_1 launch0 p0 e0 about1 theMethod args0 below0 :=
  ⟨lists_1, trivial, launch0.admits_env _ _ _, launch0.least_env, fairChoices_fair.cas, fairChoices_fair.clock, w_frames, w_args, w_heap, w_applies, trivial, w_rest, w_case⟩
end start1
theorem witness_1 : WitnessClaimed_1 := ⟨start1.p0, start1.e0, start1.about1, start1.theMethod, start1.args0, start1.below0, start1.atStart⟩
end Jvm.Pilot.@@N@@
