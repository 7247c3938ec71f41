import JvmDerived
import JvmDerived.Pilot.@@N@@Statement
import JvmDerived.Pilot.@@N@@Code
set_option linter.unusedVariables false
set_option linter.unusedSimpArgs false
@@BLOCK:NumsL.lean.txt@@

namespace Jvm.RoadKit
open Sem ClassFile Op Lib Jvm.Stand Jvm.Free Jvm.LawKit
section New
variable {p : Program} {l : Launch} {e : Env} {R : Room} {s : State} {m : MethodId} {args : Array Value} {below : List Frame} {meth : Method} {c : Code} {T : State} {locs : List Loc} {cells slots : Nat}
theorem retI (X : Stand p l e R s m args below meth c T locs cells slots) (hx : p.tables.exec = Jvm.exec) {pc : Nat} {Ls : Array Slot} {z : Int32} {rest : List Value} (hret : meth.sig.returnType = some .int) (hd : decode c.code pc = .ok (.ireturn, 1)) {fs : List Frame}
    (hl : ∀ (f : JFrame) (acts : List Action), f.method = m → f.locked = none → f.entered = [] → (doReturn e (T.setTop f) acts (some (.int z))).1 = T.setFrames fs) : Steps p.tables e below (T.setTop (mkF m pc Ls (.int z :: rest))) (T.setFrames fs) := by
  have hm' : T.vm.method? m = some meth := X.method'
  have hn : narrow .int (.int z) = .int z := rfl
  show Steps p.tables e below (T.setTop { method := m, pc := pc, locals := Ls, stack := _ :: rest, locked := none }) _
  jvm_step X.here [X.here.top, hx, hd, hm', hret, hn]
  first | (intro acts; rw [hl _ acts rfl rfl rfl]) | rw [hl _ _ rfl rfl rfl]
  exact Steps.refl _
end New
/-- the run has come from where P looks on to this frame -/
def Go (p : Program) (e : Env) (below : List Frame) (P : State → Prop) (T : State) (g : JFrame) : Prop := ∀ t, Steps p.tables e below (T.setTop g) t → P t
/-- where roads that move the state meet: one of them has come to this frame (wide: it may have interned) -/
def PosW (p : Program) (l : Launch) (e : Env) (R : Room) (s : State) (m : MethodId) (args : Array Value) (below : List Frame) (meth : Method) (c : Code) (P : State → Prop) (Z : State) (n0 : Nat) (own : String) (EL : List (String × Nat)) (h0 hf : Heap) (ws : List Addr) (cells slots : Nat) (g : JFrame) (K : Heap → Prop) : Prop :=
  ∃ (vm : Vm) (T : State) (locs : List Loc) (k : Nat), Stand p l e R (s.setVm vm) m args below meth c T locs cells slots ∧ Fr n0 locs ∧ Keep hf T.heap ws ∧ s.Since vm k ∧ k ≤ T.heap.size ∧ Z.Warmed39 vm ∧ vm.findClass own = some m.cls ∧ CHr Z EL s.vm h0 vm T.heap ∧ Go p e below P T g ∧ K T.heap
def PosN (p : Program) (l : Launch) (e : Env) (R : Room) (s : State) (m : MethodId) (args : Array Value) (below : List Frame) (meth : Method) (c : Code) (P : State → Prop) (n0 : Nat) (hf : Heap) (ws : List Addr) (cells slots : Nat) (g : JFrame) (K : Heap → Prop) : Prop :=
  ∃ (T : State) (locs : List Loc), Stand p l e R s m args below meth c T locs cells slots ∧ Fr n0 locs ∧ Keep hf T.heap ws ∧ Go p e below P T g ∧ K T.heap
theorem oldLe {Z : State} {n0 : Nat} {h : Heap} (O : Old Z n0 h) : n0 ≤ h.size := O.1 ▸ O.2.1
theorem ownNarRef {t : FieldType} {v : Value} (h : v.isRef = true) : narrow t v = v := by
  rcases ref_cases h with rfl | ⟨_, rfl⟩ <;> cases t <;> rfl
theorem fits_refV {C : String} {v : Value} (h : v.isRef = true) : fits (.object C) v = true := by
  rcases ref_cases h with rfl | ⟨_, rfl⟩ <;> rfl
end Jvm.RoadKit
namespace Jvm.Pilot.@@N@@
open Jvm Jvm.ClassFile Sem Op Lib Jvm.Free Jvm.Stand Jvm.LawKit Jvm.RoadKit Bundle Jvm.Pilot.@@N@@.Jvm.D
abbrev iV (z : Int32) : Slot := .val (.int z)
abbrev rV (a : Addr) : Slot := .val (.ref a)
abbrev uS : Slot := .unset
theorem hwI {Z : State} {a0 : Array Value} (hw : ∀ d ∈ tables_1, d.before a0 Z = true) (i : Nat) {d : Jvm.Cond} (h : tables_1[i]? = some d) : d.before a0 Z = true := hw d (List.mem_of_getElem? h)
abbrev MetQ (l : Launch) (y : MethodName) (cd : Cond) (ws : List Cond) (rm : Room) (Z : State) (A : Array Value) (h0 : Heap) (Q : Option Value → Heap → List Loc → Prop) : Prop :=
  MetFree l y (head1 (cd :: ws) rm) (fun a U => a = A ∧ Z.Warmed39 U.vm ∧ U.heap = h0) (fun _ _ _ _ _ => True) (fun _ U o U' => ∃ v L, o = .returned v ∧ Q v U'.heap L ∧ FrameEnd U o U' L rm.cells rm.slots)
theorem metQ {l : Launch} {y : MethodName} {code : ByteArray} {maxL : Nat} {ret : Option FieldType} {cd : Cond} {ws : List Cond} {rm : Room} {Z : State} {A : Array Value} {h0 : Heap} {Q : Option Value → Heap → List Loc → Prop} {gF : MethodId → JFrame} (hp : plainFor y = true)
    (his : ∀ args (s : State) m, (head1 (cd :: ws) rm).pre.before args s = true → s.methodNamed? y = some m → ∃ meth c, s.vm.method? m = some meth ∧ meth.code = some c ∧ c.code = code ∧ c.maxLocals = maxL ∧ meth.sig.returnType = ret ∧ meth.locks = false) (hef : ∀ m, entryFrame m A maxL = gF m)
    (body : ∀ (p : Program) (e : Env) (s : State) (m : MethodId) (below : List Frame) (meth : Method) (c : Code) (s₁ : State) (P : State → Prop), BodyLoose p l y (head1 (cd :: ws) rm) code maxL ret e s m A below meth c s₁ → p.tables.exec = Jvm.exec → c.code = code → c.maxLocals = maxL → Z.Warmed39 s.vm → s.vm.findClass y.cls = some m.cls → meth.name = y.name →
      Stand p l e rm s m A below meth c s₁ [] 0 0 → s₁.heap = h0 → (∀ t, P t → Steps p.tables e below (s₁.setTop (entryFrame m A maxL)) t) → Go p e below P s₁ (gF m) → ∃ s₂ o, Steps p.tables e below (s₁.setTop (entryFrame m A maxL)) s₂ ∧ s₂.status = .running ∧ Ended s₂ below o ∧ ∃ v L, o = .returned v ∧ Q v s₂.heap L ∧ FrameEnd s o s₂ L rm.cells rm.slots) :
    MetQ l y cd ws rm Z A h0 Q := by
  refine MetFree.of_bodySF hp his ?_
  intro p e s m args below meth c s₁ Bd hml hP0 hK
  obtain ⟨rfl, hZ, hh⟩ := hP0
  have e0 : s₁.heap = h0 := by rw [← hh, Bd.state]; rfl
  exact body p e s m below meth c s₁ _ Bd Bd.exec Bd.bytes hml hZ (findClass_of_methodNamed Bd.named) (name_of_methodNamed Bd.named Bd.method).1 (Stand.of_body Bd) e0 (fun _ h => h) (fun t k => castTop (hef m) k)
theorem apS {tb : Tables} {e : Env} {below : List Frame} {a b target : State} (f : ∀ t, Steps tb e below a t → Steps tb e below b t) (k : Steps tb e below a target) : Steps tb e below b target := f target k
theorem wR {a b : Nat} (h : 2 * 0 + a = b) : 2 * 0 + a ≤ b := Nat.le_of_eq h
theorem callQ {p : Program} {l : Launch} {e : Env} {R : Room} {s : State} {m : MethodId} {args : Array Value} {below : List Frame} {meth : Method} {c : Code} {T : State} {locs : List Loc} {cells slots : Nat} {Z : State} {a0 : Array Value} {h : Heap} {own : String} {index : Nat} {y : MethodName} {bytes : ByteArray} {maxL : Nat} {ret : Option FieldType} {rm : Room} {W : Nat} {Q : Option Value → Heap → List Loc → Prop} {P : State → Prop} {g : JFrame} {argsL : List Value}
    (X : Stand p l e R s m args below meth c T locs cells slots) (hx : p.tables.exec = Jvm.exec) (hZ : Z.Warmed39 s.vm) (hown : s.vm.findClass own = some m.cls) (eT : T.heap = h) (R0 : Go p e below P T g)
    (hM : MetQ l y (Cond.code y bytes maxL ret) [] rm Z argsL.toArray h Q)
    (w1 : (Cond.methodLink own index y).before a0 Z = true) (w2 : (Cond.static y).before a0 Z = true) (w3 : (Cond.initialized y.cls).before a0 Z = true) (w4 : (Cond.code y bytes maxL ret).before a0 Z = true) (rest : List Value)
    (hg : g.method = m) (hsize : g.locals.size = c.maxLocals) (hlen : ∀ sig, parseMethodDescriptor y.desc = some sig → argsL.length = sig.parameters.length) (hstack : g.stack = argsL.reverse ++ rest) (hW : 2 * g.monitorRoom + (rest.map fun v => v.category).sum ≤ W) (hdg : decode c.code g.pc = .ok (.invokestatic index, 3))
    (hy : y.cls ≠ "java/lang/invoke/MethodHandle" ∧ y.cls ≠ "java/lang/invoke/VarHandle" := by decide) (hf : rm.frames + 1 ≤ R.frames := by decide) (hl : W + (maxL + 11) + rm.locals ≤ R.locals := by decide) (hc : cells + rm.cells ≤ R.cells := by decide) (hs : slots + rm.slots ≤ R.slots := by decide) :
    ∃ (v : Option Value) (T' : State) (L : List Loc), Stand p l e R s m args below meth c T' (locs ++ L) (cells + rm.cells) (slots + rm.slots) ∧ Q v T'.heap L ∧ Go p e below P T' { g with pc := g.pc + 3, stack := v.toList ++ rest } := by
  obtain ⟨v, _, ⟨T', L', k', n'⟩, -, X', ⟨L, hQ, h1, h2, h3⟩, st⟩ := Jvm.LawKit.callS X hx hown (mvT hZ w1) (mvT hZ w2) (mvT hZ w3) (mvT hZ w4) hy (backOf (W := W) hM hZ w4 w3 hf hl) hg hsize hlen hstack hW hdg (fun _ _ => ⟨rfl, eT, hc, hs⟩)
  dsimp only [Pt.U, Pt.locs, Pt.cells, Pt.slots] at X' h1 h2 h3 st hQ
  subst h1 h2 h3
  exact ⟨v, T', L, X', hQ, fun t k => R0 t (st t k)⟩
abbrev rM (a b c d : Nat) : Room := { frames := a, cells := b, slots := c, locals := d }
abbrev yM0 : MethodName := ⟨"java/lang/String", "coder", "()B"⟩
abbrev yM1 : MethodName := ⟨"java/lang/String", "isLatin1", "()Z"⟩
abbrev yM2 : MethodName := ⟨"java/lang/String", "length", "()I"⟩
abbrev yM3 : MethodName := ⟨"jdk/internal/util/Preconditions", "checkIndex", "(IILjava/util/function/BiFunction;)I"⟩
abbrev yM4 : MethodName := ⟨"java/lang/String", "checkIndex", "(II)V"⟩
abbrev yM5 : MethodName := ⟨"java/lang/StringLatin1", "charAt", "([BI)C"⟩
abbrev yM6 : MethodName := ⟨"java/lang/String", "charAt", "(I)C"⟩
abbrev yM7 : MethodName := ⟨"java/util/Objects", "requireNonNull", "(Ljava/lang/Object;)Ljava/lang/Object;"⟩
abbrev yM8 : MethodName := ⟨"java/lang/StringUTF16", "putChar", "([BII)V"⟩
abbrev yM9 : MethodName := ⟨"java/lang/StringUTF16", "getChar", "([BI)C"⟩
abbrev yM10 : MethodName := ⟨"java/lang/String", "decode2", "(II)C"⟩
abbrev yM11 : MethodName := ⟨"java/lang/String", "decode3", "(III)C"⟩
abbrev yM12 : MethodName := ⟨"java/lang/String", "decode4", "(IIII)I"⟩
abbrev yM13 : MethodName := ⟨"java/lang/Character", "highSurrogate", "(I)C"⟩
abbrev yM14 : MethodName := ⟨"java/lang/Character", "lowSurrogate", "(I)C"⟩
abbrev yM15 : MethodName := ⟨"java/lang/String", "isNotContinuation", "(I)Z"⟩
abbrev yM16 : MethodName := ⟨"java/lang/String", "isMalformed3", "(III)Z"⟩
abbrev yM17 : MethodName := ⟨"java/lang/String", "isMalformed4", "(III)Z"⟩
abbrev yM18 : MethodName := ⟨"java/lang/Character", "isSurrogate", "(C)Z"⟩
abbrev yM19 : MethodName := ⟨"java/lang/Character", "isSupplementaryCodePoint", "(I)Z"⟩
abbrev yM20 : MethodName := ⟨"java/lang/Math", "min", "(II)I"⟩
abbrev yM21 : MethodName := ⟨"java/lang/StringUTF16", "newBytesLength", "(I)I"⟩
abbrev yM22 : MethodName := ⟨"java/lang/StringUTF16", "newBytesFor", "(I)[B"⟩
abbrev yM23 : MethodName := ⟨"java/lang/StringUTF16", "length", "([B)I"⟩
abbrev yM24 : MethodName := ⟨"jdk/internal/util/Preconditions", "checkFromIndexSize", "(IIILjava/util/function/BiFunction;)I"⟩
abbrev yM25 : MethodName := ⟨"java/lang/String", "checkBoundsOffCount", "(III)I"⟩
abbrev yM26 : MethodName := ⟨"java/lang/StringUTF16", "checkBoundsOffCount", "(II[B)V"⟩
abbrev yM27 : MethodName := ⟨"java/lang/StringUTF16", "inflate", "([BI[BII)V"⟩
abbrev yM28 : MethodName := ⟨"java/lang/StringLatin1", "inflate", "([BI[BII)V"⟩
abbrev yM29 : MethodName := ⟨"java/lang/String", "decodeUTF8_UTF16", "([BII[BIZ)I"⟩
abbrev yM30 : MethodName := ⟨"java/lang/StringCoding", "countPositives", "([BII)I"⟩
abbrev yM31 : MethodName := ⟨"java/util/Arrays", "copyOfRange", "([BII)[B"⟩
abbrev yM32 : MethodName := ⟨"java/util/Arrays", "copyOf", "([BI)[B"⟩
abbrev yM33 : MethodName := ⟨"java/lang/String", "<init>", "(Ljava/nio/charset/Charset;[BII)V"⟩
abbrev yM34 : MethodName := ⟨"java/lang/String", "<init>", "([BLjava/nio/charset/Charset;)V"⟩
abbrev yM35 : MethodName := ⟨"com/example/lerlo/lerlo/Utf8", "decode", "([B)Ljava/lang/String;"⟩
abbrev yM36 : MethodName := ⟨"java/lang/StringUTF16", "checkIndex", "(I[B)V"⟩
abbrev yM37 : MethodName := ⟨"java/lang/StringUTF16", "charAt", "([BI)C"⟩
abbrev sT0 (Z : State) (v : Value) : Prop := Sta Z Z.heap "java/lang/String" "COMPACT_STRINGS" "Z" v
abbrev sT1 (Z : State) (v : Value) : Prop := Sta Z Z.heap "jdk/internal/util/Preconditions" "SIOOBE_FORMATTER" "Ljava/util/function/BiFunction;" v
abbrev sT2 (Z : State) (v : Value) : Prop := Sta Z Z.heap "java/lang/StringUTF16" "$assertionsDisabled" "Z" v
abbrev sT3 (Z : State) (v : Value) : Prop := Sta Z Z.heap "java/lang/StringUTF16" "HI_BYTE_SHIFT" "I" v
abbrev sT4 (Z : State) (v : Value) : Prop := Sta Z Z.heap "java/lang/StringUTF16" "LO_BYTE_SHIFT" "I" v
abbrev sT5 (Z : State) (v : Value) : Prop := Sta Z Z.heap "sun/nio/cs/UTF_8" "INSTANCE" "Lsun/nio/cs/UTF_8;" v
abbrev sT6 (Z : State) (v : Value) : Prop := Sta Z Z.heap "java/nio/charset/StandardCharsets" "UTF_8" "Ljava/nio/charset/Charset;" v
abbrev HW (Z : State) (a0 : Array Value) : Prop := ∀ d ∈ tables_1, d.before a0 Z = true
theorem eq_int {args : Array Value} {first s : State} {o : Option Outcome} {idx : List Nat} {a b : Term} {x : Value} {z : Int32} (ha : a.eval args first o idx s = some x) (hb : b.eval args first o idx s = some (.int z)) (h : (Jvm.Cond.eq a b).value args first o s idx = some true) : x = .int z := by
  cases x <;> simp [Cond.value, ha, hb] at h ⊢ <;> exact h
theorem nar_b0 : nar .boolean 0 = 0 := by decide
theorem nar_b1 : nar .boolean 1 = 1 := by decide
theorem nar_b8 (x : Int32) : nar .byte (x.toInt8.toInt32) = x.toInt8.toInt32 := by show (x.toInt8.toInt32).toInt8.toInt32 = x.toInt8.toInt32; simp
theorem eq_I {args : Array Value} {first s : State} {o : Option Outcome} {idx : List Nat} {a b : Term} {x y : Int32} (ha : a.eval args first o idx s = some (.int x)) (hb : b.eval args first o idx s = some (.int y)) : (Jvm.Cond.eq a b).value args first o s idx = some (decide (x = y)) := by simp [Cond.value, ha, hb]
theorem mvId {P : Prop} (h : P) : P := h
theorem cloneV {p : Program} {l : Launch} {e : Env} {R : Room} {s : State} {m : MethodId} {args : Array Value} {below : List Frame} {meth : Method} {c : Code} {T : State} {locs : List Loc} {cells slots : Nat} {Z : State} {h : Heap} {a0 : Array Value} {own ad : String} {index : Nat} (X : Stand p l e R s m args below meth c T locs cells slots) (hx : p.tables.exec = Jvm.exec) (hZ : Z.Warmed39 s.vm) (hown : s.vm.findClass own = some m.cls)
    (w1 : (Cond.methodLink own index ⟨ad, "clone", "()Ljava/lang/Object;"⟩).before a0 Z = true) (w2 : (Cond.sameMethod ad "java/lang/Object" "clone" "()Ljava/lang/Object;").before a0 Z = true) (w3 : (Cond.native ⟨"java/lang/Object", "clone", "()Ljava/lang/Object;"⟩).before a0 Z = true)
    (w4 : (Cond.instanceMethod ⟨"java/lang/Object", "clone", "()Ljava/lang/Object;"⟩).before a0 Z = true) (w5 : (Cond.selects ad ⟨ad, "clone", "()Ljava/lang/Object;"⟩ ⟨"java/lang/Object", "clone", "()Ljava/lang/Object;"⟩).before a0 Z = true) (w6 : (Cond.castable ad "java/lang/Cloneable").before a0 Z = true)
    (eT : T.heap = h) {a : Addr} {ty : FieldType} {k : ClassId} {z : Int32} {vs : List Value} {dv : Value} (F : Arv Z h a k ty z vs dv) (E : Exa Z h a ad) {g : JFrame} (hg : g.method = m) (hsize : g.locals.size = c.maxLocals) {rest : List Value} (hst : g.stack = .ref a :: rest) (hd : decode c.code g.pc = .ok (.invokevirtual index, 3))
    (hf : 1 ≤ R.frames) {W cap : Nat} (hW : 2 * g.monitorRoom + (rest.map fun v => v.category).sum ≤ W) (hl : W + 14 ≤ R.locals) (hcap : z.toNatClampNeg ≤ cap) (hc : cells + 1 ≤ R.cells) (hsl : slots + cap ≤ R.slots) :
    ∃ T' h', Stand p l e R s m args below meth c T' locs (cells + 1) (slots + cap) ∧ T'.heap = h' ∧ Ext h h' ∧ Arv Z h' h.size k ty z vs dv ∧ Exa Z h' h.size ad ∧
      ∀ target, Steps p.tables e below (T'.setTop { g with pc := g.pc + 3, stack := .ref h.size :: rest }) target → Steps p.tables e below (T.setTop g) target := by
  obtain ⟨cl, A, q1, S, q3, H, G⟩ := F
  have FC : FitC Z cl := fitC_of A fun i hi v hv => by rw [H i hi] at hv; cases hv; exact G i hi
  obtain ⟨T', h', X', e', ex, A', E', st⟩ := cloneA X hx hZ hown w1 w2 w3 w4 w5 w6 eT A E FC hg hsize hst hd hf hW hl (by rw [S]; exact hcap) hc hsl
  exact ⟨T', h', X', e', ex, ⟨cloneOf cl, A', q1, S, q3, H, G⟩, E', st⟩
def lo8 (x : Int32) : Int32 := x.toInt8.toInt32
theorem shr0 (N : Int32) : N >>> ((0 : Int32) &&& 31) = N := Int32.toInt_inj.mp (by rw [Jvm.Kit.i32_shr N _ (k := 0) (by decide)]; simp)
theorem lo8_back {c : Int32} (h : ¬ c < 0 ∧ ¬ (255 : Int32) < c) : nar .char (((lo8 c) &&& (255 : Int32)).toUInt32.toUInt16.toUInt32.toInt32) = c := by
  have t : ∀ k : Fin 256, nar .char (((lo8 (Int32.ofNat k.val)) &&& (255 : Int32)).toUInt32.toUInt16.toUInt32.toInt32) = Int32.ofNat k.val := by decide +kernel
  have e0 : (0 : Int32).toInt = 0 := by decide
  have e1 : (255 : Int32).toInt = 255 := by decide
  obtain ⟨h1, h2⟩ := h
  rw [Int32.lt_iff_toInt_lt, e0] at h1
  rw [Int32.lt_iff_toInt_lt, e1] at h2
  have e : c = Int32.ofNat c.toInt.toNat := by
    apply Int32.toInt_inj.mp
    rw [Int32.toInt_ofNat_of_lt (by omega)]; omega
  rw [e]
  exact t ⟨c.toInt.toNat, by omega⟩
theorem nat32 {k : Nat} (h : k ≤ 4000) : (Int32.ofNat k).toNatClampNeg = k := by unfold Int32.toNatClampNeg; rw [Int32.toInt_ofNat_of_lt (by omega)]; rfl
theorem idx_in {cs : List Int32} {i : Int32} {j : Nat} (hi : i = Int32.ofNat j) (hj : j < cs.length) (l4 : cs.length ≤ 4000) : ¬ i < 0 ∧ i < Int32.ofNat cs.length := by
  subst hi
  have e0 : (0 : Int32).toInt = 0 := by decide
  rw [Int32.lt_iff_toInt_lt, Int32.lt_iff_toInt_lt, Int32.toInt_ofNat_of_lt (by omega), Int32.toInt_ofNat_of_lt (by omega), e0]
  omega
theorem idx_at8 {cs : List Int32} {i : Int32} {j : Nat} (hi : i = Int32.ofNat j) (hj : j < cs.length) (l4 : cs.length ≤ 4000) : ((cs.map lo8).map Value.int).getD i.toNatClampNeg (.int 0) = .int (lo8 (cs.getD j 0)) := by
  subst hi
  rw [nat32 (by omega), List.getD_eq_getElem?_getD, List.getElem?_map, List.getElem?_map, List.getD_eq_getElem?_getD, List.getElem?_eq_getElem hj]
  rfl
theorem at_ok {cs : List Int32} (h : ∀ c ∈ cs, ¬ c < 0 ∧ ¬ (255 : Int32) < c) {j : Nat} (hj : j < cs.length) : ¬ cs.getD j 0 < 0 ∧ ¬ (255 : Int32) < cs.getD j 0 := by
  rw [List.getD_eq_getElem?_getD, List.getElem?_eq_getElem hj]; exact h _ (List.getElem_mem hj)
theorem nar_chr {c : Int32} (h : ¬ c < 0 ∧ ¬ (255 : Int32) < c) : nar .char c = c := by
  have t : ∀ k : Fin 256, nar .char (Int32.ofNat k.val) = Int32.ofNat k.val := by decide +kernel
  have e0 : (0 : Int32).toInt = 0 := by decide
  have e1 : (255 : Int32).toInt = 255 := by decide
  obtain ⟨h1, h2⟩ := h
  rw [Int32.lt_iff_toInt_lt, e0] at h1
  rw [Int32.lt_iff_toInt_lt, e1] at h2
  have e : c = Int32.ofNat c.toInt.toNat := by
    apply Int32.toInt_inj.mp
    rw [Int32.toInt_ofNat_of_lt (by omega)]; omega
  rw [e]
  exact t ⟨c.toInt.toNat, by omega⟩
theorem pn_47582652 : plainName "java/lang/String" = true := by first | (simp [plainName, overriddenIn]; done) | decide +kernel
theorem ef9_R (m : MethodId) (x0 : Addr) : entryFrame m #[(.ref x0)] 1 = mkF m 0 #[rV x0] [] := by first | (simp [entryFrame, mkF, argsToLocals, Value.category]; done) | rfl
theorem d9_0 : decode jdk_42_method_152_code 0 = .ok (.getstatic 38, 3) := by decide +kernel
theorem d9_3 : decode jdk_42_method_152_code 3 = .ok (.ifCond .eq 10, 3) := by decide +kernel
theorem d9_6 : decode jdk_42_method_152_code 6 = .ok (.aload_n 0, 1) := by decide +kernel
theorem d9_7 : decode jdk_42_method_152_code 7 = .ok (.getfield 15, 3) := by decide +kernel
theorem d9_10 : decode jdk_42_method_152_code 10 = .ok (.goto 4, 3) := by decide +kernel
theorem d9_14 : decode jdk_42_method_152_code 14 = .ok (.ireturn, 1) := by decide +kernel
def Q_lcoder_ (Z : State) (a : Addr) (zc : Int32) (h0 : Heap) (n0 : Nat) (rv_ : Option Value) (rh_ : Heap) (rL_ : List Loc) : Prop := (rv_ = some (.int 0)) ∧ (Fr n0 rL_) ∧ (rh_ = h0)
set_option maxRecDepth 65536 in
set_option maxHeartbeats 40000000 in
theorem lcoder_ (l : Launch) (Z : State) (a0 : Array Value) (hw : HW Z a0) (ws : List Jvm.Cond) (a : Addr) (zc : Int32) (h0 : Heap) (n0 : Nat) (O0 : Old Z n0 h0) (P0 : Fld Z h0 a "java/lang/String" "coder" "B" (.int 0)) (P1 : sT0 Z (.int zc)) (P2 : ¬ zc = 0) :
    MetQ l yM0 (Jvm.Cond.code yM0 jdk_42_method_152_code 1 (some .byte)) ws (rM 0 0 0 0) Z #[(.ref a)] h0 (Q_lcoder_ Z a zc h0 n0) := by
  have hzc := P2
  refine metQ (plainFor_of_name pn_47582652) hisR (fun m => ef9_R m a) ?_
  intro p e s m below meth c s₁ P Bd hx hby hml hZ hown hnm X0 e0 hP R0
  have N0 := Fr.nil n0
  obtain ⟨T1, X1, e1, st1⟩ := getS2 X0 hx hZ hown (host := "") (Or.inl (hwI hw 31 rfl)) Via.refl e0 (P1.ext O0.2) (g := (mkF m 0 #[rV a] [])) rfl (hb hby d9_0)
  have R2 : Go p e below P T1 (mkF m 3 #[rV a] [(.int zc)]) := fun t_ k_ => R0 t_ (st1 t_ k_)
  have R3 : Go p e below P T1 (mkF m 6 #[rV a] []) := fun t_ k_ => R2 t_ (XS.ifNo X1.here hx rfl (hb hby d9_3) rfl ((if0 _ _).trans (feq hzc).1) k_)
  have R4 : Go p e below P T1 (mkF m 7 #[rV a] [(.ref a)]) := fun t_ k_ => R3 t_ (XS.aloadN X1.here hx rfl (hb hby d9_6) rfl rfl k_)
  obtain ⟨T5, X5, e5, st5⟩ := getF X1 hx hZ hown (host := "") (Or.inl (hwI hw 51 rfl)) Via.refl e1 P0 (g := (mkF m 7 #[rV a] [(.ref a)])) rfl rfl (hb hby d9_7)
  have R6 : Go p e below P T5 (mkF m 10 #[rV a] [(.int 0)]) := fun t_ k_ => R4 t_ (st5 t_ k_)
  have R7 : Go p e below P T5 (mkF m 14 #[rV a] [(.int 0)]) := fun t_ k_ => R6 t_ (XS.goto X5.here hx rfl (pc0 := 10) (pc' := 14) rfl (hb hby d9_10) (by decide) (by decide) k_)
  obtain ⟨fs, hr, hrun, hended, hW, hsame⟩ := X5.leave (v := some (.int (nar .byte (0 : Int32)))) (fun h => by rw [Bd.returns] at h; cases h)
  exact ⟨_, _, hP _ (R7 _ (retN X5 hx (t := .byte) Bd.returns (by simp) (hb hby d9_14) hr)), hrun, hended, _, _, rfl, ⟨rfl, N0, e5⟩, ⟨_, rfl⟩, hW, hsame.mono (by decide) (by decide)⟩
theorem ef11_R (m : MethodId) (x0 : Addr) : entryFrame m #[(.ref x0)] 1 = mkF m 0 #[rV x0] [] := by first | (simp [entryFrame, mkF, argsToLocals, Value.category]; done) | rfl
theorem d11_0 : decode jdk_42_method_154_code 0 = .ok (.getstatic 38, 3) := by decide +kernel
theorem d11_3 : decode jdk_42_method_154_code 3 = .ok (.ifCond .eq 14, 3) := by decide +kernel
theorem d11_6 : decode jdk_42_method_154_code 6 = .ok (.aload_n 0, 1) := by decide +kernel
theorem d11_7 : decode jdk_42_method_154_code 7 = .ok (.getfield 15, 3) := by decide +kernel
theorem d11_10 : decode jdk_42_method_154_code 10 = .ok (.ifCond .ne 7, 3) := by decide +kernel
theorem d11_13 : decode jdk_42_method_154_code 13 = .ok (.iconst 1, 1) := by decide +kernel
theorem d11_14 : decode jdk_42_method_154_code 14 = .ok (.goto 4, 3) := by decide +kernel
theorem d11_18 : decode jdk_42_method_154_code 18 = .ok (.ireturn, 1) := by decide +kernel
def Q_lisL_ (Z : State) (a : Addr) (zc : Int32) (h0 : Heap) (n0 : Nat) (rv_ : Option Value) (rh_ : Heap) (rL_ : List Loc) : Prop := (rv_ = some (.int 1)) ∧ (Fr n0 rL_) ∧ (rh_ = h0)
set_option maxRecDepth 65536 in
set_option maxHeartbeats 40000000 in
theorem lisL_ (l : Launch) (Z : State) (a0 : Array Value) (hw : HW Z a0) (ws : List Jvm.Cond) (a : Addr) (zc : Int32) (h0 : Heap) (n0 : Nat) (O0 : Old Z n0 h0) (P0 : Fld Z h0 a "java/lang/String" "coder" "B" (.int 0)) (P1 : sT0 Z (.int zc)) (P2 : ¬ zc = 0) :
    MetQ l yM1 (Jvm.Cond.code yM1 jdk_42_method_154_code 1 (some .boolean)) ws (rM 0 0 0 0) Z #[(.ref a)] h0 (Q_lisL_ Z a zc h0 n0) := by
  have hzc := P2
  refine metQ (plainFor_of_name pn_47582652) hisR (fun m => ef11_R m a) ?_
  intro p e s m below meth c s₁ P Bd hx hby hml hZ hown hnm X0 e0 hP R0
  have N0 := Fr.nil n0
  obtain ⟨T8, X8, e8, st8⟩ := getS2 X0 hx hZ hown (host := "") (Or.inl (hwI hw 31 rfl)) Via.refl e0 (P1.ext O0.2) (g := (mkF m 0 #[rV a] [])) rfl (hb hby d11_0)
  have R9 : Go p e below P T8 (mkF m 3 #[rV a] [(.int zc)]) := fun t_ k_ => R0 t_ (st8 t_ k_)
  have R10 : Go p e below P T8 (mkF m 6 #[rV a] []) := fun t_ k_ => R9 t_ (XS.ifNo X8.here hx rfl (hb hby d11_3) rfl ((if0 _ _).trans (feq hzc).1) k_)
  have R11 : Go p e below P T8 (mkF m 7 #[rV a] [(.ref a)]) := fun t_ k_ => R10 t_ (XS.aloadN X8.here hx rfl (hb hby d11_6) rfl rfl k_)
  obtain ⟨T12, X12, e12, st12⟩ := getF X8 hx hZ hown (host := "") (Or.inl (hwI hw 51 rfl)) Via.refl e8 P0 (g := (mkF m 7 #[rV a] [(.ref a)])) rfl rfl (hb hby d11_7)
  have R13 : Go p e below P T12 (mkF m 10 #[rV a] [(.int 0)]) := fun t_ k_ => R11 t_ (st12 t_ k_)
  have R14 : Go p e below P T12 (mkF m 13 #[rV a] []) := fun t_ k_ => R13 t_ (XS.ifNo X12.here hx rfl (hb hby d11_10) rfl ((if0 _ _).trans (teq rfl).2) k_)
  have R15 : Go p e below P T12 (mkF m 14 #[rV a] [(.int 1)]) := fun t_ k_ => R14 t_ (XS.iconst X12.here hx rfl (hb hby d11_13) k_)
  have R16 : Go p e below P T12 (mkF m 18 #[rV a] [(.int 1)]) := fun t_ k_ => R15 t_ (XS.goto X12.here hx rfl (pc0 := 14) (pc' := 18) rfl (hb hby d11_14) (by decide) (by decide) k_)
  obtain ⟨fs, hr, hrun, hended, hW, hsame⟩ := X12.leave (v := some (.int (nar .boolean (1 : Int32)))) (fun h => by rw [Bd.returns] at h; cases h)
  exact ⟨_, _, hP _ (R16 _ (retN X12 hx (t := .boolean) Bd.returns (by simp) (hb hby d11_18) hr)), hrun, hended, _, _, rfl, ⟨rfl, N0, e12⟩, ⟨_, rfl⟩, hW, hsame.mono (by decide) (by decide)⟩
theorem ef8_R (m : MethodId) (x0 : Addr) : entryFrame m #[(.ref x0)] 1 = mkF m 0 #[rV x0] [] := by first | (simp [entryFrame, mkF, argsToLocals, Value.category]; done) | rfl
theorem d8_0 : decode jdk_42_method_54_code 0 = .ok (.aload_n 0, 1) := by decide +kernel
theorem d8_1 : decode jdk_42_method_54_code 1 = .ok (.getfield 9, 3) := by decide +kernel
theorem d8_4 : decode jdk_42_method_54_code 4 = .ok (.arraylength, 1) := by decide +kernel
theorem d8_5 : decode jdk_42_method_54_code 5 = .ok (.aload_n 0, 1) := by decide +kernel
theorem d8_6 : decode jdk_42_method_54_code 6 = .ok (.invokevirtual 335, 3) := by decide +kernel
theorem pd_16428514 : parseMethodDescriptor "()B" = some ⟨[], some .byte⟩ := by decide +kernel
theorem d8_9 : decode jdk_42_method_54_code 9 = .ok (.ishr, 1) := by decide +kernel
theorem d8_10 : decode jdk_42_method_54_code 10 = .ok (.ireturn, 1) := by decide +kernel
def Q_llen_ (Z : State) (a : Addr) (t : Addr) (kb : ClassId) (N : Int32) (vs : List Value) (zc : Int32) (h0 : Heap) (n0 : Nat) (rv_ : Option Value) (rh_ : Heap) (rL_ : List Loc) : Prop := (rv_ = some (.int N)) ∧ (Fr n0 rL_) ∧ (rh_ = h0)
set_option maxRecDepth 65536 in
set_option maxHeartbeats 40000000 in
theorem llen_ (l : Launch) (Z : State) (a0 : Array Value) (hw : HW Z a0) (ws : List Jvm.Cond) (a : Addr) (t : Addr) (kb : ClassId) (N : Int32) (vs : List Value) (zc : Int32) (h0 : Heap) (n0 : Nat) (O0 : Old Z n0 h0) (P0 : Exa Z h0 a "java/lang/String") (P1 : Fld Z h0 a "java/lang/String" "coder" "B" (.int 0)) (P2 : Fld Z h0 a "java/lang/String" "value" "[B" (.ref t)) (P3 : Arv Z h0 t kb .byte N vs (.int 0)) (P4 : sT0 Z (.int zc)) (P5 : ¬ zc = 0) :
    MetQ l yM2 (Jvm.Cond.code yM2 jdk_42_method_54_code 1 (some .int)) ws (rM 1 0 0 13) Z #[(.ref a)] h0 (Q_llen_ Z a t kb N vs zc h0 n0) := by
  have hzc := P5
  refine metQ (plainFor_of_name pn_47582652) hisR (fun m => ef8_R m a) ?_
  intro p e s m below meth c s₁ P Bd hx hby hml hZ hown hnm X0 e0 hP R0
  have N0 := Fr.nil n0
  have R17 : Go p e below P s₁ (mkF m 1 #[rV a] [(.ref a)]) := fun t_ k_ => R0 t_ (XS.aloadN X0.here hx rfl (hb hby d8_0) rfl rfl k_)
  obtain ⟨T18, X18, e18, st18⟩ := getF X0 hx hZ hown (host := "") (Or.inl (hwI hw 49 rfl)) Via.refl e0 P2 (g := (mkF m 1 #[rV a] [(.ref a)])) rfl rfl (hb hby d8_1)
  have R19 : Go p e below P T18 (mkF m 4 #[rV a] [(.ref t)]) := fun t_ k_ => R17 t_ (st18 t_ k_)
  obtain ⟨cl20, cl20A, -, cl20S, cl20N, -, -⟩ := id P3
  have R21 : Go p e below P T18 (mkF m 5 #[rV a] [(.int N)]) := fun t_ k_ => R19 t_ (X18.arraylength hx (by rw [e18]; exact cl20A.1) (State.isArrayOf_alike hZ.alike cl20A.2.1) (g := (mkF m 4 #[rV a] [(.ref t)])) rfl rfl (hb hby d8_4) t_ (by rw [len_of cl20S cl20N]; exact k_))
  have R22 : Go p e below P T18 (mkF m 6 #[rV a] [(.ref a), (.int N)]) := fun t_ k_ => R21 t_ (XS.aloadN X18.here hx rfl (hb hby d8_5) rfl rfl k_)
  obtain ⟨cq23, kq23, q23a, q23b, q23c⟩ := isOf hZ e18 P0
  obtain ⟨rv23, _, ⟨T23, L23, k23, n23⟩, -, X23, ⟨Lc23, hQ23, l23, y23, z23⟩, st23⟩ := X18.virtualBack hx (y := yM0) (z := yM0) hown (mvT hZ (hwI hw 59 rfl)) (mvT hZ (hwI hw 60 rfl)) (notFace_of_selects (args := #[]) (mvT hZ (hwI hw 62 rfl))) (mvT hZ (hwI hw 62 rfl)) (mvT hZ (hwI hw 61 rfl)) (by decide) (backOf (W := 1) (lcoder_ l Z a0 hw [] a zc h0 n0 O0 P1 P4 hzc) hZ (hwI hw 63 rfl) (hwI hw 10 rfl) (by decide) (by decide)) q23a q23c (g := (mkF m 6 #[rV a] [(.ref a), (.int N)])) rfl (by rw [hml]; rfl) (Steps.refl _) (argsL := []) (rest := [(.int N)]) (lenOf pd_16428514 rfl) rfl (by show 2 * 0 + _ ≤ _; exact Nat.le_of_eq rfl) (hb hby d8_6) (fun _ _ => ⟨rfl, e18, (by decide : 0 + 0 ≤ _), (by decide : 0 + 0 ≤ _)⟩)
  dsimp only [Pt.U, Pt.locs, Pt.cells, Pt.slots] at X23 l23 y23 z23 st23 hQ23
  subst l23 y23 z23
  obtain ⟨rfl, N23q, K23⟩ := hQ23
  have N23 := Fr.app N0 N23q
  have R24 : Go p e below P T23 (mkF m 9 #[rV a] [(.int 0), (.int N)]) := fun t_ k_ => R22 t_ (st23.trans k_)
  have R25 : Go p e below P T23 (mkF m 10 #[rV a] [(.int (N >>> ((0 : Int32) &&& 31)))]) := fun t_ k_ => R24 t_ (XS.ishr X23.here hx rfl (hb hby d8_9) rfl k_)
  obtain ⟨fs, hr, hrun, hended, hW, hsame⟩ := X23.leave (v := some (.int (N >>> ((0 : Int32) &&& 31)))) (fun h => by rw [Bd.returns] at h; cases h)
  exact ⟨_, _, hP _ (R25 _ (retI X23 hx Bd.returns (hb hby d8_10) hr)), hrun, hended, _, _, rfl, ⟨(by rw [shr0]), N23, K23⟩, ⟨_, rfl⟩, hW, hsame.mono (by decide) (by decide)⟩
theorem pn_82791839 : plainName "jdk/internal/util/Preconditions" = true := by first | (simp [plainName, overriddenIn]; done) | decide +kernel
theorem ef14_IIV (m : MethodId) (x0 : Int32) (x1 : Int32) (x2 : Value) (r2 : x2.isRef = true) : entryFrame m #[(.int x0), (.int x1), x2] 3 = mkF m 0 #[iV x0, iV x1, .val x2] [] := by first | (simp [entryFrame, mkF, argsToLocals, Value.category]; done) | rfl | (rcases ref_cases r2 with rfl | ⟨_, rfl⟩ <;> first | (simp [entryFrame, mkF, argsToLocals, Value.category]; done) | rfl)
theorem d14_0 : decode jdk_41_method_11_code 0 = .ok (.iload_n 0, 1) := by decide +kernel
theorem d14_1 : decode jdk_41_method_11_code 1 = .ok (.ifCond .lt 8, 3) := by decide +kernel
theorem d14_4 : decode jdk_41_method_11_code 4 = .ok (.iload_n 0, 1) := by decide +kernel
theorem d14_5 : decode jdk_41_method_11_code 5 = .ok (.iload_n 1, 1) := by decide +kernel
theorem d14_6 : decode jdk_41_method_11_code 6 = .ok (.if_icmp .lt 10, 3) := by decide +kernel
theorem d14_16 : decode jdk_41_method_11_code 16 = .ok (.iload_n 0, 1) := by decide +kernel
theorem d14_17 : decode jdk_41_method_11_code 17 = .ok (.ireturn, 1) := by decide +kernel
def Q_lpre_ (Z : State) (i : Int32) (n : Int32) (fm : Value) (h0 : Heap) (n0 : Nat) (rv_ : Option Value) (rh_ : Heap) (rL_ : List Loc) : Prop := (rv_ = some (.int i)) ∧ (Fr n0 rL_) ∧ (rh_ = h0)
set_option maxRecDepth 65536 in
set_option maxHeartbeats 40000000 in
theorem lpre_ (l : Launch) (Z : State) (a0 : Array Value) (hw : HW Z a0) (ws : List Jvm.Cond) (i : Int32) (n : Int32) (fm : Value) (h0 : Heap) (n0 : Nat) (O0 : Old Z n0 h0) (P0 : fm.isRef = true) (P1 : ¬ i < 0 ∧ i < n) :
    MetQ l yM3 (Jvm.Cond.code yM3 jdk_41_method_11_code 3 (some .int)) ws (rM 0 0 0 0) Z #[(.int i), (.int n), fm] h0 (Q_lpre_ Z i n fm h0 n0) := by
  have hfm := P0
  have hin := P1
  refine metQ (plainFor_of_name pn_82791839) hisR (fun m => ef14_IIV m i n fm hfm) ?_
  intro p e s m below meth c s₁ P Bd hx hby hml hZ hown hnm X0 e0 hP R0
  have N0 := Fr.nil n0
  have R26 : Go p e below P s₁ (mkF m 1 #[iV i, iV n, .val fm] [(.int i)]) := fun t_ k_ => R0 t_ (XS.iloadN X0.here hx rfl (hb hby d14_0) rfl k_)
  have R27 : Go p e below P s₁ (mkF m 4 #[iV i, iV n, .val fm] []) := fun t_ k_ => R26 t_ (XS.ifNo X0.here hx rfl (hb hby d14_1) rfl ((if0 _ _).trans (flt hin.1).1) k_)
  have R28 : Go p e below P s₁ (mkF m 5 #[iV i, iV n, .val fm] [(.int i)]) := fun t_ k_ => R27 t_ (XS.iloadN X0.here hx rfl (hb hby d14_4) rfl k_)
  have R29 : Go p e below P s₁ (mkF m 6 #[iV i, iV n, .val fm] [(.int n), (.int i)]) := fun t_ k_ => R28 t_ (XS.iloadN X0.here hx rfl (hb hby d14_5) rfl k_)
  have R30 : Go p e below P s₁ (mkF m 16 #[iV i, iV n, .val fm] []) := fun t_ k_ => R29 t_ (XS.icmpYes X0.here hx rfl (pc0 := 6) (pc' := 16) rfl (hb hby d14_6) rfl (tlt hin.2).1 (by decide) (by decide) k_)
  have R31 : Go p e below P s₁ (mkF m 17 #[iV i, iV n, .val fm] [(.int i)]) := fun t_ k_ => R30 t_ (XS.iloadN X0.here hx rfl (hb hby d14_16) rfl k_)
  obtain ⟨fs, hr, hrun, hended, hW, hsame⟩ := X0.leave (v := some (.int i)) (fun h => by rw [Bd.returns] at h; cases h)
  exact ⟨_, _, hP _ (R31 _ (retI X0 hx Bd.returns (hb hby d14_17) hr)), hrun, hended, _, _, rfl, ⟨rfl, N0, e0⟩, ⟨_, rfl⟩, hW, hsame.mono (by decide) (by decide)⟩
theorem ef13_II (m : MethodId) (x0 : Int32) (x1 : Int32) : entryFrame m #[(.int x0), (.int x1)] 2 = mkF m 0 #[iV x0, iV x1] [] := by first | (simp [entryFrame, mkF, argsToLocals, Value.category]; done) | rfl
theorem d13_0 : decode jdk_42_method_155_code 0 = .ok (.iload_n 0, 1) := by decide +kernel
theorem d13_1 : decode jdk_42_method_155_code 1 = .ok (.iload_n 1, 1) := by decide +kernel
theorem d13_2 : decode jdk_42_method_155_code 2 = .ok (.getstatic 1053, 3) := by decide +kernel
theorem d13_5 : decode jdk_42_method_155_code 5 = .ok (.invokestatic 1059, 3) := by decide +kernel
theorem pd_22551340 : parseMethodDescriptor "(IILjava/util/function/BiFunction;)I" = some ⟨[.int, .int, (.object "java/util/function/BiFunction")], some .int⟩ := by decide +kernel
theorem d13_8 : decode jdk_42_method_155_code 8 = .ok (.pop, 1) := by decide +kernel
theorem d13_9 : decode jdk_42_method_155_code 9 = .ok (.return_, 1) := by decide +kernel
def Q_lchk_ (Z : State) (i : Int32) (n : Int32) (fm : Value) (h0 : Heap) (n0 : Nat) (rv_ : Option Value) (rh_ : Heap) (rL_ : List Loc) : Prop := (rv_ = none) ∧ (Fr n0 rL_) ∧ (rh_ = h0)
set_option maxRecDepth 65536 in
set_option maxHeartbeats 40000000 in
theorem lchk_ (l : Launch) (Z : State) (a0 : Array Value) (hw : HW Z a0) (ws : List Jvm.Cond) (i : Int32) (n : Int32) (fm : Value) (h0 : Heap) (n0 : Nat) (O0 : Old Z n0 h0) (P0 : sT1 Z fm) (P1 : fm.isRef = true) (P2 : ¬ i < 0 ∧ i < n) :
    MetQ l yM4 (Jvm.Cond.code yM4 jdk_42_method_155_code 2 none) ws (rM 1 0 0 14) Z #[(.int i), (.int n)] h0 (Q_lchk_ Z i n fm h0 n0) := by
  have hfm := P1
  have hin := P2
  refine metQ (plainFor_of_name pn_47582652) hisR (fun m => ef13_II m i n) ?_
  intro p e s m below meth c s₁ P Bd hx hby hml hZ hown hnm X0 e0 hP R0
  have N0 := Fr.nil n0
  have R32 : Go p e below P s₁ (mkF m 1 #[iV i, iV n] [(.int i)]) := fun t_ k_ => R0 t_ (XS.iloadN X0.here hx rfl (hb hby d13_0) rfl k_)
  have R33 : Go p e below P s₁ (mkF m 2 #[iV i, iV n] [(.int n), (.int i)]) := fun t_ k_ => R32 t_ (XS.iloadN X0.here hx rfl (hb hby d13_1) rfl k_)
  obtain ⟨T34, X34, e34, st34⟩ := getS2 X0 hx hZ hown (host := "") (Or.inl (hwI hw 81 rfl)) Via.refl e0 (P0.ext O0.2) (g := (mkF m 2 #[iV i, iV n] [(.int n), (.int i)])) rfl (hb hby d13_2)
  have R35 : Go p e below P T34 (mkF m 5 #[iV i, iV n] [fm, (.int n), (.int i)]) := fun t_ k_ => R33 t_ (st34 t_ k_)
  obtain ⟨rv36, _, ⟨T36, L36, k36, n36⟩, -, X36, ⟨Lc36, hQ36, l36, y36, z36⟩, st36⟩ := Jvm.LawKit.callS X34 hx (y := yM3) hown (mvT hZ (hwI hw 83 rfl)) (mvT hZ (hwI hw 84 rfl)) (mvT hZ (hwI hw 82 rfl)) (mvT hZ (hwI hw 85 rfl)) (by decide) (backOf (W := 0) (lpre_ l Z a0 hw [] i n fm h0 n0 O0 hfm hin) hZ (hwI hw 85 rfl) (hwI hw 82 rfl) (by decide) (by decide)) (g := (mkF m 5 #[iV i, iV n] [fm, (.int n), (.int i)])) rfl (by rw [hml]; rfl) (argsL := [(.int i), (.int n), fm]) (rest := []) (lenOf pd_22551340 rfl) rfl (by show 2 * 0 + _ ≤ _; exact Nat.le_of_eq rfl) (hb hby d13_5) (fun _ _ => ⟨rfl, e34, (by decide : 0 + 0 ≤ _), (by decide : 0 + 0 ≤ _)⟩)
  dsimp only [Pt.U, Pt.locs, Pt.cells, Pt.slots] at X36 l36 y36 z36 st36 hQ36
  subst l36 y36 z36
  obtain ⟨rfl, N36q, K36⟩ := hQ36
  have N36 := Fr.app N0 N36q
  have R37 : Go p e below P T36 (mkF m 8 #[iV i, iV n] [(.int i)]) := fun t_ k_ => R35 t_ (st36 t_ k_)
  have R38 : Go p e below P T36 (mkF m 9 #[iV i, iV n] []) := fun t_ k_ => R37 t_ (XS.pop X36.here hx rfl (hb hby d13_8) rfl rfl k_)
  obtain ⟨fs, hr, hrun, hended, hW, hsame⟩ := X36.leave (v := none) (fun _ => rfl)
  exact ⟨_, _, hP _ (R38 _ (X36.returnOut hx Bd.returns (hb hby d13_9) hr)), hrun, hended, _, _, rfl, ⟨rfl, N36, K36⟩, ⟨_, rfl⟩, hW, hsame.mono (by decide) (by decide)⟩
theorem pn_27686809 : plainName "java/lang/StringLatin1" = true := by first | (simp [plainName, overriddenIn]; done) | decide +kernel
theorem ef12_RI (m : MethodId) (x0 : Addr) (x1 : Int32) : entryFrame m #[(.ref x0), (.int x1)] 2 = mkF m 0 #[rV x0, iV x1] [] := by first | (simp [entryFrame, mkF, argsToLocals, Value.category]; done) | rfl
theorem d12_0 : decode jdk_43_method_2_code 0 = .ok (.iload_n 1, 1) := by decide +kernel
theorem d12_1 : decode jdk_43_method_2_code 1 = .ok (.aload_n 0, 1) := by decide +kernel
theorem d12_2 : decode jdk_43_method_2_code 2 = .ok (.arraylength, 1) := by decide +kernel
theorem d12_3 : decode jdk_43_method_2_code 3 = .ok (.invokestatic 9, 3) := by decide +kernel
theorem pd_1793250 : parseMethodDescriptor "(II)V" = some ⟨[.int, .int], none⟩ := by decide +kernel
theorem d12_6 : decode jdk_43_method_2_code 6 = .ok (.aload_n 0, 1) := by decide +kernel
theorem d12_7 : decode jdk_43_method_2_code 7 = .ok (.iload_n 1, 1) := by decide +kernel
theorem d12_8 : decode jdk_43_method_2_code 8 = .ok (.baload, 1) := by decide +kernel
theorem d12_9 : decode jdk_43_method_2_code 9 = .ok (.sipush 255, 3) := by decide +kernel
theorem d12_12 : decode jdk_43_method_2_code 12 = .ok (.iand, 1) := by decide +kernel
theorem d12_13 : decode jdk_43_method_2_code 13 = .ok (.i2c, 1) := by decide +kernel
theorem d12_14 : decode jdk_43_method_2_code 14 = .ok (.ireturn, 1) := by decide +kernel
def Q_llch_ (Z : State) (t : Addr) (kb : ClassId) (cs : List Int32) (i : Int32) (j : Nat) (fm : Value) (h0 : Heap) (n0 : Nat) (rv_ : Option Value) (rh_ : Heap) (rL_ : List Loc) : Prop := (rv_ = some (.int (cs.getD j 0))) ∧ (Fr n0 rL_) ∧ (rh_ = h0)
set_option maxRecDepth 65536 in
set_option maxHeartbeats 40000000 in
theorem llch_ (l : Launch) (Z : State) (a0 : Array Value) (hw : HW Z a0) (ws : List Jvm.Cond) (t : Addr) (kb : ClassId) (cs : List Int32) (i : Int32) (j : Nat) (fm : Value) (h0 : Heap) (n0 : Nat) (O0 : Old Z n0 h0) (P0 : Arv Z h0 t kb .byte (Int32.ofNat cs.length) ((cs.map lo8).map Value.int) (.int 0)) (P1 : sT1 Z fm) (P2 : fm.isRef = true) (P3 : i = Int32.ofNat j) (P4 : j < cs.length) (P5 : cs.length ≤ 4000) (P6 : ∀ c ∈ cs, ¬ c < 0 ∧ ¬ (255 : Int32) < c) :
    MetQ l yM5 (Jvm.Cond.code yM5 jdk_43_method_2_code 2 (some .char)) ws (rM 2 0 0 27) Z #[(.ref t), (.int i)] h0 (Q_llch_ Z t kb cs i j fm h0 n0) := by
  have hfm := P2
  have hi := P3
  have hj := P4
  have l4 := P5
  have hcs := P6
  refine metQ (plainFor_of_name pn_27686809) hisR (fun m => ef12_RI m t i) ?_
  intro p e s m below meth c s₁ P Bd hx hby hml hZ hown hnm X0 e0 hP R0
  have N0 := Fr.nil n0
  have R39 : Go p e below P s₁ (mkF m 1 #[rV t, iV i] [(.int i)]) := fun t_ k_ => R0 t_ (XS.iloadN X0.here hx rfl (hb hby d12_0) rfl k_)
  have R40 : Go p e below P s₁ (mkF m 2 #[rV t, iV i] [(.ref t), (.int i)]) := fun t_ k_ => R39 t_ (XS.aloadN X0.here hx rfl (hb hby d12_1) rfl rfl k_)
  obtain ⟨cl41, cl41A, -, cl41S, cl41N, -, -⟩ := id P0
  have R42 : Go p e below P s₁ (mkF m 3 #[rV t, iV i] [(.int (Int32.ofNat cs.length)), (.int i)]) := fun t_ k_ => R40 t_ (X0.arraylength hx (by rw [e0]; exact cl41A.1) (State.isArrayOf_alike hZ.alike cl41A.2.1) (g := (mkF m 2 #[rV t, iV i] [(.ref t), (.int i)])) rfl rfl (hb hby d12_2) t_ (by rw [len_of cl41S cl41N]; exact k_))
  obtain ⟨rv43, _, ⟨T43, L43, k43, n43⟩, -, X43, ⟨Lc43, hQ43, l43, y43, z43⟩, st43⟩ := Jvm.LawKit.callS X0 hx (y := yM4) hown (mvT hZ (hwI hw 78 rfl)) (mvT hZ (hwI hw 79 rfl)) (mvT hZ (hwI hw 10 rfl)) (mvT hZ (hwI hw 80 rfl)) (by decide) (backOf (W := 0) (lchk_ l Z a0 hw [] i (Int32.ofNat cs.length) fm h0 n0 O0 P1 hfm (idx_in hi hj l4)) hZ (hwI hw 80 rfl) (hwI hw 10 rfl) (by decide) (by decide)) (g := (mkF m 3 #[rV t, iV i] [(.int (Int32.ofNat cs.length)), (.int i)])) rfl (by rw [hml]; rfl) (argsL := [(.int i), (.int (Int32.ofNat cs.length))]) (rest := []) (lenOf pd_1793250 rfl) rfl (by show 2 * 0 + _ ≤ _; exact Nat.le_of_eq rfl) (hb hby d12_3) (fun _ _ => ⟨rfl, e0, (by decide : 0 + 0 ≤ _), (by decide : 0 + 0 ≤ _)⟩)
  dsimp only [Pt.U, Pt.locs, Pt.cells, Pt.slots] at X43 l43 y43 z43 st43 hQ43
  subst l43 y43 z43
  obtain ⟨rfl, N43q, K43⟩ := hQ43
  have N43 := Fr.app N0 N43q
  have R44 : Go p e below P T43 (mkF m 6 #[rV t, iV i] []) := fun t_ k_ => R42 t_ (st43 t_ k_)
  have R45 : Go p e below P T43 (mkF m 7 #[rV t, iV i] [(.ref t)]) := fun t_ k_ => R44 t_ (XS.aloadN X43.here hx rfl (hb hby d12_6) rfl rfl k_)
  have R46 : Go p e below P T43 (mkF m 8 #[rV t, iV i] [(.int i), (.ref t)]) := fun t_ k_ => R45 t_ (XS.iloadN X43.here hx rfl (hb hby d12_7) rfl k_)
  obtain ⟨cl47, cl47A, cl47q, cl47S, cl47N, cl47H, cl47G⟩ := id P0
  have cl47i := inb_of cl47S (idx_in hi hj l4)
  have R48 : Go p e below P T43 (mkF m 9 #[rV t, iV i] [(.int (lo8 (cs.getD j 0)))]) := fun t_ k_ => R46 t_ (X43.baloadBytes hx (j := i) (v := (.int (lo8 (cs.getD j 0)))) (by rw [K43]; exact cl47A.1) (State.isArrayOf_alike hZ.alike cl47A.2.1) cl47A.2.2 cl47i (cl47H.at cl47i (idx_at8 hi hj l4)) (g := (mkF m 8 #[rV t, iV i] [(.int i), (.ref t)])) rfl rfl (hb hby d12_8) _ k_)
  have R49 : Go p e below P T43 (mkF m 12 #[rV t, iV i] [(.int 255), (.int (lo8 (cs.getD j 0)))]) := fun t_ k_ => R48 t_ (XS.sipush X43.here hx rfl (hb hby d12_9) k_)
  have R50 : Go p e below P T43 (mkF m 13 #[rV t, iV i] [(.int ((lo8 (cs.getD j 0)) &&& (255 : Int32)))]) := fun t_ k_ => R49 t_ (XS.iand X43.here hx rfl (hb hby d12_12) rfl k_)
  have R51 : Go p e below P T43 (mkF m 14 #[rV t, iV i] [(.int (((lo8 (cs.getD j 0)) &&& (255 : Int32)).toUInt32.toUInt16.toUInt32.toInt32))]) := fun t_ k_ => R50 t_ (XS.i2c X43.here hx rfl (hb hby d12_13) rfl k_)
  obtain ⟨fs, hr, hrun, hended, hW, hsame⟩ := X43.leave (v := some (.int (nar .char (((lo8 (cs.getD j 0)) &&& (255 : Int32)).toUInt32.toUInt16.toUInt32.toInt32)))) (fun h => by rw [Bd.returns] at h; cases h)
  exact ⟨_, _, hP _ (R51 _ (retN X43 hx (t := .char) Bd.returns (by simp) (hb hby d12_14) hr)), hrun, hended, _, _, rfl, ⟨(by rw [lo8_back (at_ok hcs hj)]), N43, K43⟩, ⟨_, rfl⟩, hW, hsame.mono (by decide) (by decide)⟩
theorem ef10_RI (m : MethodId) (x0 : Addr) (x1 : Int32) : entryFrame m #[(.ref x0), (.int x1)] 2 = mkF m 0 #[rV x0, iV x1] [] := by first | (simp [entryFrame, mkF, argsToLocals, Value.category]; done) | rfl
theorem d10_0 : decode jdk_42_method_56_code 0 = .ok (.aload_n 0, 1) := by decide +kernel
theorem d10_1 : decode jdk_42_method_56_code 1 = .ok (.invokevirtual 492, 3) := by decide +kernel
theorem pd_16428538 : parseMethodDescriptor "()Z" = some ⟨[], some .boolean⟩ := by decide +kernel
theorem d10_4 : decode jdk_42_method_56_code 4 = .ok (.ifCond .eq 12, 3) := by decide +kernel
theorem d10_7 : decode jdk_42_method_56_code 7 = .ok (.aload_n 0, 1) := by decide +kernel
theorem d10_8 : decode jdk_42_method_56_code 8 = .ok (.getfield 9, 3) := by decide +kernel
theorem d10_11 : decode jdk_42_method_56_code 11 = .ok (.iload_n 1, 1) := by decide +kernel
theorem d10_12 : decode jdk_42_method_56_code 12 = .ok (.invokestatic 495, 3) := by decide +kernel
theorem pd_20721015 : parseMethodDescriptor "([BI)C" = some ⟨[(.array .byte), .int], some .char⟩ := by decide +kernel
theorem d10_15 : decode jdk_42_method_56_code 15 = .ok (.ireturn, 1) := by decide +kernel
def Q_lch_ (Z : State) (a : Addr) (t : Addr) (kb : ClassId) (cs : List Int32) (i : Int32) (j : Nat) (fm : Value) (zc : Int32) (h0 : Heap) (n0 : Nat) (rv_ : Option Value) (rh_ : Heap) (rL_ : List Loc) : Prop := (rv_ = some (.int (cs.getD j 0))) ∧ (Fr n0 rL_) ∧ (rh_ = h0)
set_option maxRecDepth 65536 in
set_option maxHeartbeats 40000000 in
theorem lch_ (l : Launch) (Z : State) (a0 : Array Value) (hw : HW Z a0) (ws : List Jvm.Cond) (a : Addr) (t : Addr) (kb : ClassId) (cs : List Int32) (i : Int32) (j : Nat) (fm : Value) (zc : Int32) (h0 : Heap) (n0 : Nat) (O0 : Old Z n0 h0) (P0 : Exa Z h0 a "java/lang/String") (P1 : Fld Z h0 a "java/lang/String" "coder" "B" (.int 0)) (P2 : Fld Z h0 a "java/lang/String" "value" "[B" (.ref t)) (P3 : Arv Z h0 t kb .byte (Int32.ofNat cs.length) ((cs.map lo8).map Value.int) (.int 0)) (P4 : sT0 Z (.int zc)) (P5 : ¬ zc = 0) (P6 : sT1 Z fm) (P7 : fm.isRef = true) (P8 : i = Int32.ofNat j) (P9 : j < cs.length) (P10 : cs.length ≤ 4000) (P11 : ∀ c ∈ cs, ¬ c < 0 ∧ ¬ (255 : Int32) < c) :
    MetQ l yM6 (Jvm.Cond.code yM6 jdk_42_method_56_code 2 (some .char)) ws (rM 3 0 0 40) Z #[(.ref a), (.int i)] h0 (Q_lch_ Z a t kb cs i j fm zc h0 n0) := by
  have hzc := P5
  have hfm := P7
  have hi := P8
  have hj := P9
  have l4 := P10
  have hcs := P11
  refine metQ (plainFor_of_name pn_47582652) hisR (fun m => ef10_RI m a i) ?_
  intro p e s m below meth c s₁ P Bd hx hby hml hZ hown hnm X0 e0 hP R0
  have N0 := Fr.nil n0
  have R52 : Go p e below P s₁ (mkF m 1 #[rV a, iV i] [(.ref a)]) := fun t_ k_ => R0 t_ (XS.aloadN X0.here hx rfl (hb hby d10_0) rfl rfl k_)
  obtain ⟨cq53, kq53, q53a, q53b, q53c⟩ := isOf hZ e0 P0
  obtain ⟨rv53, _, ⟨T53, L53, k53, n53⟩, -, X53, ⟨Lc53, hQ53, l53, y53, z53⟩, st53⟩ := X0.virtualBack hx (y := yM1) (z := yM1) hown (mvT hZ (hwI hw 69 rfl)) (mvT hZ (hwI hw 70 rfl)) (notFace_of_selects (args := #[]) (mvT hZ (hwI hw 72 rfl))) (mvT hZ (hwI hw 72 rfl)) (mvT hZ (hwI hw 71 rfl)) (by decide) (backOf (W := 0) (lisL_ l Z a0 hw [] a zc h0 n0 O0 P1 P4 hzc) hZ (hwI hw 73 rfl) (hwI hw 10 rfl) (by decide) (by decide)) q53a q53c (g := (mkF m 1 #[rV a, iV i] [(.ref a)])) rfl (by rw [hml]; rfl) (Steps.refl _) (argsL := []) (rest := []) (lenOf pd_16428538 rfl) rfl (by show 2 * 0 + _ ≤ _; exact Nat.le_of_eq rfl) (hb hby d10_1) (fun _ _ => ⟨rfl, e0, (by decide : 0 + 0 ≤ _), (by decide : 0 + 0 ≤ _)⟩)
  dsimp only [Pt.U, Pt.locs, Pt.cells, Pt.slots] at X53 l53 y53 z53 st53 hQ53
  subst l53 y53 z53
  obtain ⟨rfl, N53q, K53⟩ := hQ53
  have N53 := Fr.app N0 N53q
  have R54 : Go p e below P T53 (mkF m 4 #[rV a, iV i] [(.int 1)]) := fun t_ k_ => R52 t_ (st53.trans k_)
  have R55 : Go p e below P T53 (mkF m 7 #[rV a, iV i] []) := fun t_ k_ => R54 t_ (XS.ifNo X53.here hx rfl (hb hby d10_4) rfl ((if0 _ _).trans (feq (by decide : ¬ ((1 : Int32) = (0 : Int32)))).1) k_)
  have R56 : Go p e below P T53 (mkF m 8 #[rV a, iV i] [(.ref a)]) := fun t_ k_ => R55 t_ (XS.aloadN X53.here hx rfl (hb hby d10_7) rfl rfl k_)
  obtain ⟨T57, X57, e57, st57⟩ := getF X53 hx hZ hown (host := "") (Or.inl (hwI hw 49 rfl)) Via.refl K53 P2 (g := (mkF m 8 #[rV a, iV i] [(.ref a)])) rfl rfl (hb hby d10_8)
  have R58 : Go p e below P T57 (mkF m 11 #[rV a, iV i] [(.ref t)]) := fun t_ k_ => R56 t_ (st57 t_ k_)
  have R59 : Go p e below P T57 (mkF m 12 #[rV a, iV i] [(.int i), (.ref t)]) := fun t_ k_ => R58 t_ (XS.iloadN X57.here hx rfl (hb hby d10_11) rfl k_)
  obtain ⟨rv60, _, ⟨T60, L60, k60, n60⟩, -, X60, ⟨Lc60, hQ60, l60, y60, z60⟩, st60⟩ := Jvm.LawKit.callS X57 hx (y := yM5) hown (mvT hZ (hwI hw 74 rfl)) (mvT hZ (hwI hw 75 rfl)) (mvT hZ (hwI hw 76 rfl)) (mvT hZ (hwI hw 77 rfl)) (by decide) (backOf (W := 0) (llch_ l Z a0 hw [] t kb cs i j fm h0 n0 O0 P3 P6 hfm hi hj l4 hcs) hZ (hwI hw 77 rfl) (hwI hw 76 rfl) (by decide) (by decide)) (g := (mkF m 12 #[rV a, iV i] [(.int i), (.ref t)])) rfl (by rw [hml]; rfl) (argsL := [(.ref t), (.int i)]) (rest := []) (lenOf pd_20721015 rfl) rfl (by show 2 * 0 + _ ≤ _; exact Nat.le_of_eq rfl) (hb hby d10_12) (fun _ _ => ⟨rfl, e57, (by decide : 0 + 0 ≤ _), (by decide : 0 + 0 ≤ _)⟩)
  dsimp only [Pt.U, Pt.locs, Pt.cells, Pt.slots] at X60 l60 y60 z60 st60 hQ60
  subst l60 y60 z60
  obtain ⟨rfl, N60q, K60⟩ := hQ60
  have N60 := Fr.app N53 N60q
  have R61 : Go p e below P T60 (mkF m 15 #[rV a, iV i] [(.int (cs.getD j 0))]) := fun t_ k_ => R59 t_ (st60 t_ k_)
  obtain ⟨fs, hr, hrun, hended, hW, hsame⟩ := X60.leave (v := some (.int (nar .char (cs.getD j 0)))) (fun h => by rw [Bd.returns] at h; cases h)
  exact ⟨_, _, hP _ (R61 _ (retN X60 hx (t := .char) Bd.returns (by simp) (hb hby d10_15) hr)), hrun, hended, _, _, rfl, ⟨(by rw [nar_chr (at_ok hcs hj)]), N60, K60⟩, ⟨_, rfl⟩, hW, hsame.mono (by decide) (by decide)⟩
def d2 (b1 b2 : Int32) : Int32 := nar .char ((((b1 <<< ((6 : Int32) &&& 31)) ^^^ b2) ^^^ (3968 : Int32)).toUInt32.toUInt16.toUInt32.toInt32)
def d3 (b1 b2 b3 : Int32) : Int32 := nar .char ((((b1 <<< ((12 : Int32) &&& 31)) ^^^ (b2 <<< ((6 : Int32) &&& 31))) ^^^ (b3 ^^^ (-123008 : Int32))).toUInt32.toUInt16.toUInt32.toInt32)
def d4 (b1 b2 b3 b4 : Int32) : Int32 := ((((b1 <<< ((18 : Int32) &&& 31)) ^^^ (b2 <<< ((12 : Int32) &&& 31))) ^^^ (b3 <<< ((6 : Int32) &&& 31))) ^^^ (b4 ^^^ (3678080 : Int32)))
theorem nat_of {x : Int32} (h : ¬ x < 0) : x = Int32.ofNat x.toInt.toNat ∧ ((x.toInt.toNat : Nat) : Int) = x.toInt := by
  have e0 : (0 : Int32).toInt = 0 := by decide
  rw [Int32.lt_iff_toInt_lt, e0] at h
  have := Int32.toInt_lt x
  refine ⟨Int32.toInt_inj.mp ?_, by omega⟩
  rw [Int32.toInt_ofNat_of_lt (by omega)]; omega
theorem shr_n {n k : Nat} (s : Int32) (hs : (s.toBitVec.smod 32).toNat = k) (hn : n < 2 ^ 31) : Int32.ofNat n >>> s = Int32.ofNat (n / 2 ^ k) := by
  apply Int32.toInt_inj.mp
  have hq : n / 2 ^ k ≤ n := Nat.div_le_self _ _
  rw [Jvm.Kit.i32_shr _ _ hs, Int32.toInt_ofNat_of_lt hn, Int32.toInt_ofNat_of_lt (by omega)]
  exact (Int.natCast_ediv n (2 ^ k)).symm ▸ by simp
theorem and_n {n k : Nat} (m : Int32) (hk : k < 32) (hm : m.toBitVec.toNat = 2 ^ k - 1) (hn : n < 2 ^ 31) : Int32.ofNat n &&& m = Int32.ofNat (n % 2 ^ k) := by
  apply Int32.toInt_inj.mp
  have hq : n % 2 ^ k ≤ n := Nat.mod_le _ _
  rw [Jvm.Kit.i32_mask _ m hk hm, Int32.toInt_ofNat_of_lt hn, Int32.toInt_ofNat_of_lt (by omega)]
  simp
theorem xor_nat {X Y k : Nat} (hY : Y < 2 ^ k) : (X * 2 ^ k) ^^^ Y = X * 2 ^ k + Y := by
  apply Nat.eq_of_testBit_eq
  intro i
  rw [Nat.mul_comm, Nat.testBit_two_pow_mul_add _ hY, Nat.testBit_xor, Nat.testBit_two_pow_mul]
  by_cases h : i < k
  · simp [h, Nat.not_le.mpr h]
  · have : Y.testBit i = false := Nat.testBit_lt_two_pow (Nat.lt_of_lt_of_le hY (Nat.pow_le_pow_right (by decide) (Nat.le_of_not_lt h)))
    simp [h, Nat.le_of_not_lt h, this]
theorem xor_split {X Y k : Nat} (hY : Y < 2 ^ k) (hk : X * 2 ^ k + Y < 2 ^ 31) : Int32.ofNat (X * 2 ^ k) ^^^ Int32.ofNat Y = Int32.ofNat (X * 2 ^ k + Y) := by
  rw [← xor_nat hY]
  apply Int32.toBitVec_inj.mp
  show BitVec.ofNat 32 _ ^^^ BitVec.ofNat 32 _ = BitVec.ofNat 32 _
  rw [BitVec.ofNat_xor]
theorem xor_both (a b k : Int32) : (a ^^^ k) ^^^ (b ^^^ k) = a ^^^ b := by
  apply Int32.toBitVec_inj.mp
  simp only [Int32.toBitVec_xor]
  rw [BitVec.xor_comm b.toBitVec, ← BitVec.xor_assoc, BitVec.xor_assoc a.toBitVec, BitVec.xor_self, BitVec.xor_zero]
theorem le_i {x : Int32} {k : Nat} (hk : k < 2 ^ 31) : x < Int32.ofNat k ↔ x.toInt < k := by rw [Int32.lt_iff_toInt_lt, Int32.toInt_ofNat_of_lt hk]
theorem lo8_id {x : Int32} (h0 : ¬ x < 0) (h : x < 128) : lo8 x = x := by
  have t : ∀ k : Fin 128, lo8 (Int32.ofNat k.val) = Int32.ofNat k.val := by decide +kernel
  obtain ⟨e, q⟩ := nat_of h0
  have h' := (le_i (k := 128) (by decide)).mp h
  rw [e]; exact t ⟨x.toInt.toNat, by omega⟩
theorem lo8_neg {x : Int32} (h0 : ¬ x < 128) (h : x < 256) : lo8 x < 0 := by
  have t : ∀ k : Fin 256, ¬ k.val < 128 → lo8 (Int32.ofNat k.val) < 0 := by decide +kernel
  have g0 := mt (le_i (k := 128) (by decide)).mpr h0
  have h' := (le_i (k := 256) (by decide)).mp h
  have n0 : ¬ x < 0 := fun q => by have e0 : (0 : Int32).toInt = 0 := by decide
                                   rw [Int32.lt_iff_toInt_lt, e0] at q; omega
  obtain ⟨e, q⟩ := nat_of n0
  rw [e]; exact t ⟨x.toInt.toNat, by omega⟩ (by show ¬ x.toInt.toNat < 128; omega)
theorem lo8_idem (x : Int32) : (lo8 x).toInt8.toInt32 = lo8 x := by show (x.toInt8.toInt32).toInt8.toInt32 = x.toInt8.toInt32; simp
theorem nar_l8 (x : Int32) : nar .byte (lo8 x) = lo8 x := lo8_idem x
theorem i2c_id {x : Int32} (h0 : ¬ x < 0) (h : x < 65536) : (x.toUInt32.toUInt16.toUInt32.toInt32) = x := by
  obtain ⟨e, q⟩ := nat_of h0
  have h' := (le_i (k := 65536) (by decide)).mp h
  have hn : x.toInt.toNat < 65536 := by omega
  generalize x.toInt.toNat = n at e hn
  subst e
  apply Int32.toBitVec_inj.mp
  show (BitVec.setWidth 32 (BitVec.setWidth 16 (BitVec.ofNat 32 n))) = BitVec.ofNat 32 n
  apply BitVec.eq_of_toNat_eq
  simp only [BitVec.toNat_setWidth, BitVec.toNat_ofNat]
  omega
theorem tblB : ∀ h : Fin 32, ∀ l : Fin 64, 2 ≤ h.val → (((192 : Int32) ||| Int32.ofNat h.val).toInt8.toInt32) < (0 : Int32) ∧ ((((192 : Int32) ||| Int32.ofNat h.val).toInt8.toInt32) >>> ((5 : Int32) &&& 31)) = (-2 : Int32) ∧ ¬ ((((192 : Int32) ||| Int32.ofNat h.val).toInt8.toInt32) &&& (30 : Int32)) = (0 : Int32) ∧
    ((((128 : Int32) ||| Int32.ofNat l.val).toInt8.toInt32) &&& (192 : Int32)) = (128 : Int32) ∧ (((128 : Int32) ||| Int32.ofNat l.val).toInt8.toInt32) < (-64 : Int32) ∧ (((((192 : Int32) ||| Int32.ofNat h.val).toInt8.toInt32) &&& (254 : Int32)) = (194 : Int32) ↔ h.val < 4) ∧ d2 (((192 : Int32) ||| Int32.ofNat h.val).toInt8.toInt32) (((128 : Int32) ||| Int32.ofNat l.val).toInt8.toInt32) = Int32.ofNat (64 * h.val + l.val) := by decide +kernel
theorem factsB {cp b1 b2 : Int32} (h1 : ¬ cp < (128 : Int32)) (h2 : cp < (2048 : Int32)) (e1 : b1 = (((192 : Int32) ||| (cp >>> ((6 : Int32) &&& 31))).toInt8.toInt32)) (e2 : b2 = (((128 : Int32) ||| (cp &&& (63 : Int32))).toInt8.toInt32)) :
    b1 < (0 : Int32) ∧ (b1 >>> ((5 : Int32) &&& 31)) = (-2 : Int32) ∧ ¬ (b1 &&& (30 : Int32)) = (0 : Int32) ∧ (b2 &&& (192 : Int32)) = (128 : Int32) ∧ b2 < (-64 : Int32) ∧ ((b1 &&& (254 : Int32)) = (194 : Int32) ↔ cp < (256 : Int32)) ∧ d2 b1 b2 = cp := by
  have g1 := mt (le_i (k := 128) (by decide)).mpr h1
  have g2 := (le_i (k := 2048) (by decide)).mp h2
  have n0 : ¬ cp < 0 := fun q => by have e0 : (0 : Int32).toInt = 0 := by decide
                                    rw [Int32.lt_iff_toInt_lt, e0] at q; omega
  have g3 := le_i (x := cp) (k := 256) (by decide)
  obtain ⟨e, q⟩ := nat_of n0
  have hn : 128 ≤ cp.toInt.toNat ∧ cp.toInt.toNat < 2048 := by omega
  have g4 : cp < (256 : Int32) ↔ cp.toInt.toNat / 2 ^ 6 < 4 := by
    show cp < Int32.ofNat 256 ↔ _
    rw [g3]; omega
  rw [g4]
  generalize cp.toInt.toNat = n at e hn g4
  subst e
  rw [shr_n _ (k := 6) (by decide) (by omega)] at e1
  rw [and_n _ (k := 6) (by decide) (by decide) (by omega)] at e2
  obtain ⟨t1, t2, t3, t4, t5, t6, t7⟩ := tblB ⟨n / 2 ^ 6, by omega⟩ ⟨n % 2 ^ 6, by omega⟩ (by show 2 ≤ n / 2 ^ 6; omega)
  rw [← e1] at t1 t2 t3 t6 t7
  rw [← e2] at t4 t5 t7
  refine ⟨t1, t2, t3, t4, t5, t6, t7.trans ?_⟩
  show Int32.ofNat (64 * (n / 2 ^ 6) + n % 2 ^ 6) = _
  rw [show 64 * (n / 2 ^ 6) + n % 2 ^ 6 = n from by omega]
theorem tblC : ∀ h : Fin 16, ∀ m : Fin 64, (h.val = 0 → 32 ≤ m.val) → (((224 : Int32) ||| Int32.ofNat h.val).toInt8.toInt32) < (0 : Int32) ∧ ¬ ((((224 : Int32) ||| Int32.ofNat h.val).toInt8.toInt32) >>> ((5 : Int32) &&& 31)) = (-2 : Int32) ∧ ((((224 : Int32) ||| Int32.ofNat h.val).toInt8.toInt32) >>> ((4 : Int32) &&& 31)) = (-2 : Int32) ∧
    ((((224 : Int32) ||| Int32.ofNat h.val).toInt8.toInt32) = (-32 : Int32) → ¬ ((((128 : Int32) ||| Int32.ofNat m.val).toInt8.toInt32) &&& (224 : Int32)) = (128 : Int32)) ∧ ((((128 : Int32) ||| Int32.ofNat m.val).toInt8.toInt32) &&& (192 : Int32)) = (128 : Int32) ∧ ¬ ((((224 : Int32) ||| Int32.ofNat h.val).toInt8.toInt32) &&& (254 : Int32)) = (194 : Int32) ∧
    (((((224 : Int32) ||| Int32.ofNat h.val).toInt8.toInt32) <<< ((12 : Int32) &&& 31)) ^^^ ((((128 : Int32) ||| Int32.ofNat m.val).toInt8.toInt32) <<< ((6 : Int32) &&& 31))) = Int32.ofNat ((64 * h.val + m.val) * 2 ^ 6) ^^^ (122880 : Int32) := by decide +kernel
theorem tblL : ∀ l : Fin 64, ((((128 : Int32) ||| Int32.ofNat l.val).toInt8.toInt32) &&& (192 : Int32)) = (128 : Int32) ∧ ((((128 : Int32) ||| Int32.ofNat l.val).toInt8.toInt32) ^^^ (-123008 : Int32)) = Int32.ofNat l.val ^^^ (122880 : Int32) := by decide +kernel
theorem factsC {cp b1 b2 b3 : Int32} (h1 : ¬ cp < (2048 : Int32)) (h2 : cp < (65536 : Int32)) (e1 : b1 = (((224 : Int32) ||| (cp >>> ((12 : Int32) &&& 31))).toInt8.toInt32)) (e2 : b2 = (((128 : Int32) ||| ((cp >>> ((6 : Int32) &&& 31)) &&& (63 : Int32))).toInt8.toInt32)) (e3 : b3 = (((128 : Int32) ||| (cp &&& (63 : Int32))).toInt8.toInt32)) :
    b1 < (0 : Int32) ∧ ¬ (b1 >>> ((5 : Int32) &&& 31)) = (-2 : Int32) ∧ (b1 >>> ((4 : Int32) &&& 31)) = (-2 : Int32) ∧ (b1 = (-32 : Int32) → ¬ (b2 &&& (224 : Int32)) = (128 : Int32)) ∧ (b2 &&& (192 : Int32)) = (128 : Int32) ∧ (b3 &&& (192 : Int32)) = (128 : Int32) ∧ ¬ (b1 &&& (254 : Int32)) = (194 : Int32) ∧ d3 b1 b2 b3 = cp := by
  have g1 := mt (le_i (k := 2048) (by decide)).mpr h1
  have g2 := (le_i (k := 65536) (by decide)).mp h2
  have n0 : ¬ cp < 0 := fun q => by have e0 : (0 : Int32).toInt = 0 := by decide
                                    rw [Int32.lt_iff_toInt_lt, e0] at q; omega
  have hid := i2c_id n0 h2
  obtain ⟨e, q⟩ := nat_of n0
  have hn : 2048 ≤ cp.toInt.toNat ∧ cp.toInt.toNat < 65536 := by omega
  generalize cp.toInt.toNat = n at e hn
  subst e
  rw [shr_n _ (k := 12) (by decide) (by omega)] at e1
  rw [shr_n _ (k := 6) (by decide) (by omega), and_n _ (k := 6) (by decide) (by decide) (by omega)] at e2
  rw [and_n _ (k := 6) (by decide) (by decide) (by omega)] at e3
  obtain ⟨t1, t2, t3, t4, t5, t6, t7⟩ := tblC ⟨n / 2 ^ 12, by omega⟩ ⟨n / 2 ^ 6 % 2 ^ 6, by omega⟩ (by show n / 2 ^ 12 = 0 → 32 ≤ n / 2 ^ 6 % 2 ^ 6; omega)
  obtain ⟨l1, l2⟩ := tblL ⟨n % 2 ^ 6, by omega⟩
  dsimp only at t1 t2 t3 t4 t5 t6 t7 l1 l2
  rw [← e1] at t1 t2 t3 t4 t6 t7
  rw [← e2] at t4 t5 t7
  rw [← e3] at l1 l2
  refine ⟨t1, t2, t3, t4, t5, l1, t6, ?_⟩
  show nar .char ((((b1 <<< ((12 : Int32) &&& 31)) ^^^ (b2 <<< ((6 : Int32) &&& 31))) ^^^ (b3 ^^^ (-123008 : Int32))).toUInt32.toUInt16.toUInt32.toInt32) = _
  rw [t7, l2, xor_both, xor_split (k := 6) (by omega) (by omega), show (64 * (n / 2 ^ 12) + n / 2 ^ 6 % 2 ^ 6) * 2 ^ 6 + n % 2 ^ 6 = n from by omega, hid]
  exact hid
theorem tblD : ∀ h : Fin 5, ∀ m : Fin 64, (((240 : Int32) ||| Int32.ofNat h.val).toInt8.toInt32) < (0 : Int32) ∧ ¬ ((((240 : Int32) ||| Int32.ofNat h.val).toInt8.toInt32) >>> ((5 : Int32) &&& 31)) = (-2 : Int32) ∧ ¬ ((((240 : Int32) ||| Int32.ofNat h.val).toInt8.toInt32) >>> ((4 : Int32) &&& 31)) = (-2 : Int32) ∧ ((((240 : Int32) ||| Int32.ofNat h.val).toInt8.toInt32) >>> ((3 : Int32) &&& 31)) = (-2 : Int32) ∧
    ((((128 : Int32) ||| Int32.ofNat m.val).toInt8.toInt32) &&& (192 : Int32)) = (128 : Int32) ∧ ¬ ((((240 : Int32) ||| Int32.ofNat h.val).toInt8.toInt32) &&& (254 : Int32)) = (194 : Int32) ∧
    (((((240 : Int32) ||| Int32.ofNat h.val).toInt8.toInt32) <<< ((18 : Int32) &&& 31)) ^^^ ((((128 : Int32) ||| Int32.ofNat m.val).toInt8.toInt32) <<< ((12 : Int32) &&& 31))) = Int32.ofNat ((64 * h.val + m.val) * 2 ^ 12) ^^^ (3670016 : Int32) := by decide +kernel
theorem tblM : ∀ m : Fin 64, ∀ l : Fin 64, ((((128 : Int32) ||| Int32.ofNat m.val).toInt8.toInt32) &&& (192 : Int32)) = (128 : Int32) ∧ ((((128 : Int32) ||| Int32.ofNat l.val).toInt8.toInt32) &&& (192 : Int32)) = (128 : Int32) ∧
    (((((128 : Int32) ||| Int32.ofNat m.val).toInt8.toInt32) <<< ((6 : Int32) &&& 31)) ^^^ ((((128 : Int32) ||| Int32.ofNat l.val).toInt8.toInt32) ^^^ (3678080 : Int32))) = Int32.ofNat (64 * m.val + l.val) ^^^ (3670016 : Int32) := by decide +kernel
theorem factsD {cp b1 b2 b3 b4 : Int32} (h1 : ¬ cp < (65536 : Int32)) (h2 : cp < (1114112 : Int32)) (e1 : b1 = (((240 : Int32) ||| (cp >>> ((18 : Int32) &&& 31))).toInt8.toInt32)) (e2 : b2 = (((128 : Int32) ||| ((cp >>> ((12 : Int32) &&& 31)) &&& (63 : Int32))).toInt8.toInt32)) (e3 : b3 = (((128 : Int32) ||| ((cp >>> ((6 : Int32) &&& 31)) &&& (63 : Int32))).toInt8.toInt32)) (e4 : b4 = (((128 : Int32) ||| (cp &&& (63 : Int32))).toInt8.toInt32)) :
    b1 < (0 : Int32) ∧ ¬ (b1 >>> ((5 : Int32) &&& 31)) = (-2 : Int32) ∧ ¬ (b1 >>> ((4 : Int32) &&& 31)) = (-2 : Int32) ∧ (b1 >>> ((3 : Int32) &&& 31)) = (-2 : Int32) ∧ (b2 &&& (192 : Int32)) = (128 : Int32) ∧ (b3 &&& (192 : Int32)) = (128 : Int32) ∧ (b4 &&& (192 : Int32)) = (128 : Int32) ∧ ¬ (b1 &&& (254 : Int32)) = (194 : Int32) ∧ d4 b1 b2 b3 b4 = cp := by
  have g1 := mt (le_i (k := 65536) (by decide)).mpr h1
  have g2 := (le_i (k := 1114112) (by decide)).mp h2
  have n0 : ¬ cp < 0 := fun q => by have e0 : (0 : Int32).toInt = 0 := by decide
                                    rw [Int32.lt_iff_toInt_lt, e0] at q; omega
  obtain ⟨e, q⟩ := nat_of n0
  have hn : 65536 ≤ cp.toInt.toNat ∧ cp.toInt.toNat < 1114112 := by omega
  generalize cp.toInt.toNat = n at e hn
  subst e
  rw [shr_n _ (k := 18) (by decide) (by omega)] at e1
  rw [shr_n _ (k := 12) (by decide) (by omega), and_n _ (k := 6) (by decide) (by decide) (by omega)] at e2
  rw [shr_n _ (k := 6) (by decide) (by omega), and_n _ (k := 6) (by decide) (by decide) (by omega)] at e3
  rw [and_n _ (k := 6) (by decide) (by decide) (by omega)] at e4
  obtain ⟨t1, t2, t3, t4, t5, t6, t7⟩ := tblD ⟨n / 2 ^ 18, by omega⟩ ⟨n / 2 ^ 12 % 2 ^ 6, by omega⟩
  obtain ⟨m1, m2, m3⟩ := tblM ⟨n / 2 ^ 6 % 2 ^ 6, by omega⟩ ⟨n % 2 ^ 6, by omega⟩
  dsimp only at t1 t2 t3 t4 t5 t6 t7 m1 m2 m3
  rw [← e1] at t1 t2 t3 t4 t6 t7
  rw [← e2] at t5 t7
  rw [← e3] at m1 m3
  rw [← e4] at m2 m3
  refine ⟨t1, t2, t3, t4, t5, m1, m2, t6, ?_⟩
  show ((((b1 <<< ((18 : Int32) &&& 31)) ^^^ (b2 <<< ((12 : Int32) &&& 31))) ^^^ (b3 <<< ((6 : Int32) &&& 31))) ^^^ (b4 ^^^ (3678080 : Int32))) = _
  rw [Int32.xor_assoc, m3, t7, xor_both, xor_split (k := 12) (by omega) (by omega), show (64 * (n / 2 ^ 18) + n / 2 ^ 12 % 2 ^ 6) * 2 ^ 12 + (64 * (n / 2 ^ 6 % 2 ^ 6) + n % 2 ^ 6) = n from by omega]
def loB (c : Int32) : Int32 := ((c >>> ((0 : Int32) &&& 31)).toInt8.toInt32)
def hiB (c : Int32) : Int32 := ((c >>> ((8 : Int32) &&& 31)).toInt8.toInt32)
def charOf (v0 v1 : Int32) : Int32 := nar .char ((((v0 &&& (255 : Int32)) <<< ((0 : Int32) &&& 31)) ||| ((v1 &&& (255 : Int32)) <<< ((8 : Int32) &&& 31))).toUInt32.toUInt16.toUInt32.toInt32)
theorem lo8_and (x : Int32) : (x.toInt8.toInt32 &&& (255 : Int32)) = (x &&& (255 : Int32)) := by
  apply Int32.toBitVec_inj.mp
  rw [Int32.toBitVec_and, Int32.toBitVec_and, Int8.toBitVec_toInt32, Int32.toBitVec_toInt8, show (255 : Int32).toBitVec = 255#32 from by decide]
  apply BitVec.eq_of_getLsbD_eq
  intro i hi
  have h255 : ∀ j : Fin 32, (255#32 : BitVec 32).getLsbD j.val = decide (j.val < 8) := by decide
  rw [BitVec.getLsbD_and, BitVec.getLsbD_and, h255 ⟨i, hi⟩]
  by_cases q : i < 8
  · have q2 : i < 32 := hi
    simp [BitVec.getElem_signExtend, q, q2]
  · simp [q]
theorem or_nat {X Y k : Nat} (hY : Y < 2 ^ k) : Y ||| (X * 2 ^ k) = X * 2 ^ k + Y := by
  apply Nat.eq_of_testBit_eq
  intro i
  rw [Nat.mul_comm, Nat.testBit_two_pow_mul_add _ hY, Nat.testBit_or, Nat.testBit_two_pow_mul]
  by_cases h : i < k
  · simp [h, Nat.not_le.mpr h]
  · have : Y.testBit i = false := Nat.testBit_lt_two_pow (Nat.lt_of_lt_of_le hY (Nat.pow_le_pow_right (by decide) (Nat.le_of_not_lt h)))
    simp [h, Nat.le_of_not_lt h, this]
theorem charOf_id {c : Int32} (h0 : ¬ c < 0) (h : c < (65536 : Int32)) : charOf (loB c) (hiB c) = c := by
  have hid := i2c_id h0 h
  have g2 := (le_i (k := 65536) (by decide)).mp h
  obtain ⟨e, q⟩ := nat_of h0
  have hn : c.toInt.toNat < 65536 := by omega
  generalize c.toInt.toNat = n at e hn
  subst e
  unfold charOf loB hiB
  rw [lo8_and, lo8_and, shr_n _ (k := 0) (by decide) (by omega), shr_n _ (k := 8) (by decide) (by omega), and_n _ (k := 8) (by decide) (by decide) (by omega), and_n _ (k := 8) (by decide) (by decide) (by omega)]
  have s1 : Int32.ofNat (n / 2 ^ 0 % 2 ^ 8) <<< ((0 : Int32) &&& 31) = Int32.ofNat (n % 2 ^ 8) := by
    apply Int32.toInt_inj.mp
    rw [Jvm.Kit.i32_shl _ _ (k := 0) (by decide) (by rw [Int32.toInt_ofNat_of_lt (by omega)]; omega) (by rw [Int32.toInt_ofNat_of_lt (by omega)]; omega), Int32.toInt_ofNat_of_lt (by omega), Int32.toInt_ofNat_of_lt (by omega)]
    simp
  have s2 : Int32.ofNat (n / 2 ^ 8 % 2 ^ 8) <<< ((8 : Int32) &&& 31) = Int32.ofNat (n / 2 ^ 8 * 2 ^ 8) := by
    apply Int32.toInt_inj.mp
    rw [Jvm.Kit.i32_shl _ _ (k := 8) (by decide) (by rw [Int32.toInt_ofNat_of_lt (by omega)]; omega) (by rw [Int32.toInt_ofNat_of_lt (by omega)]; omega), Int32.toInt_ofNat_of_lt (by omega), Int32.toInt_ofNat_of_lt (by omega)]
    omega
  rw [s1, s2]
  have s3 : Int32.ofNat (n % 2 ^ 8) ||| Int32.ofNat (n / 2 ^ 8 * 2 ^ 8) = Int32.ofNat n := by
    have q3 := or_nat (X := n / 2 ^ 8) (Y := n % 2 ^ 8) (k := 8) (by omega)
    rw [show n / 2 ^ 8 * 2 ^ 8 + n % 2 ^ 8 = n from by omega] at q3
    apply Int32.toBitVec_inj.mp
    show BitVec.ofNat 32 _ ||| BitVec.ofNat 32 _ = BitVec.ofNat 32 _
    rw [← BitVec.ofNat_or, q3]
  rw [s3, hid]; exact hid
def hiS (cp : Int32) : Int32 := nar .char ((((cp.toUInt32 >>> (((10 : Int32) &&& 31)).toUInt32).toInt32) + (55232 : Int32)).toUInt32.toUInt16.toUInt32.toInt32)
def loS (cp : Int32) : Int32 := nar .char (((cp &&& (1023 : Int32)) + (56320 : Int32)).toUInt32.toUInt16.toUInt32.toInt32)
theorem factsH {cp : Int32} (h1 : ¬ cp < (65536 : Int32)) (h2 : cp < (1114112 : Int32)) :
    hiS cp = (((55296 : Int32) + ((cp - (65536 : Int32)) >>> ((10 : Int32) &&& 31))).toUInt32.toUInt16.toUInt32.toInt32) ∧ loS cp = (((56320 : Int32) + ((cp - (65536 : Int32)) &&& (1023 : Int32))).toUInt32.toUInt16.toUInt32.toInt32) ∧ (¬ hiS cp < 0 ∧ hiS cp < (65536 : Int32)) ∧ (¬ loS cp < 0 ∧ loS cp < (65536 : Int32)) := by
  have g1 := mt (le_i (k := 65536) (by decide)).mpr h1
  have g2 := (le_i (k := 1114112) (by decide)).mp h2
  have e0 : (0 : Int32).toInt = 0 := by decide
  have n0 : ¬ cp < 0 := fun q => by rw [Int32.lt_iff_toInt_lt, e0] at q; omega
  have p0 : (0 : Int32) ≤ cp := Int32.not_lt.mp n0
  have a1 : ((cp.toUInt32 >>> (((10 : Int32) &&& 31)).toUInt32).toInt32).toInt = cp.toInt / 2 ^ 10 := Jvm.Kit.i32_iushr p0 (k := 10) (by decide) (by decide)
  have k1 : (55232 : Int32).toInt = 55232 := by decide
  have k2 : (55296 : Int32).toInt = 55296 := by decide
  have k3 : (56320 : Int32).toInt = 56320 := by decide
  have k4 : (65536 : Int32).toInt = 65536 := by decide
  have a2 : ((((cp.toUInt32 >>> (((10 : Int32) &&& 31)).toUInt32).toInt32) + (55232 : Int32))).toInt = cp.toInt / 2 ^ 10 + 55232 := by rw [Jvm.Kit.i32_add (by rw [a1, k1]; omega) (by rw [a1, k1]; omega), a1, k1]
  have s0 : (cp - (65536 : Int32)).toInt = cp.toInt - 65536 := by rw [Jvm.Kit.i32_sub (by rw [k4]; omega) (by rw [k4]; omega), k4]
  have a3 : ((cp - (65536 : Int32)) >>> ((10 : Int32) &&& 31)).toInt = (cp.toInt - 65536) / 2 ^ 10 := by rw [Jvm.Kit.i32_shr _ _ (k := 10) (by decide), s0]
  have a4 : ((55296 : Int32) + ((cp - (65536 : Int32)) >>> ((10 : Int32) &&& 31))).toInt = 55296 + (cp.toInt - 65536) / 2 ^ 10 := by rw [Jvm.Kit.i32_add (by rw [a3, k2]; omega) (by rw [a3, k2]; omega), a3, k2]
  have b1 : (cp &&& (1023 : Int32)).toInt = cp.toInt % 2 ^ 10 := Jvm.Kit.i32_mask cp 1023 (k := 10) (by decide) (by decide)
  have b2 : ((cp &&& (1023 : Int32)) + (56320 : Int32)).toInt = cp.toInt % 2 ^ 10 + 56320 := by rw [Jvm.Kit.i32_add (by rw [b1, k3]; omega) (by rw [b1, k3]; omega), b1, k3]
  have b3 : ((cp - (65536 : Int32)) &&& (1023 : Int32)).toInt = (cp.toInt - 65536) % 2 ^ 10 := by rw [Jvm.Kit.i32_mask _ 1023 (k := 10) (by decide) (by decide), s0]
  have b4 : ((56320 : Int32) + ((cp - (65536 : Int32)) &&& (1023 : Int32))).toInt = 56320 + (cp.toInt - 65536) % 2 ^ 10 := by rw [Jvm.Kit.i32_add (by rw [b3, k3]; omega) (by rw [b3, k3]; omega), b3, k3]
  have u1 : (((cp.toUInt32 >>> (((10 : Int32) &&& 31)).toUInt32).toInt32) + (55232 : Int32)) = ((55296 : Int32) + ((cp - (65536 : Int32)) >>> ((10 : Int32) &&& 31))) := Int32.toInt_inj.mp (by rw [a2, a4]; omega)
  have u2 : ((cp &&& (1023 : Int32)) + (56320 : Int32)) = ((56320 : Int32) + ((cp - (65536 : Int32)) &&& (1023 : Int32))) := Int32.toInt_inj.mp (by rw [b2, b4]; omega)
  have w1 : ¬ (((cp.toUInt32 >>> (((10 : Int32) &&& 31)).toUInt32).toInt32) + (55232 : Int32)) < 0 ∧ (((cp.toUInt32 >>> (((10 : Int32) &&& 31)).toUInt32).toInt32) + (55232 : Int32)) < (65536 : Int32) := by
    rw [Int32.lt_iff_toInt_lt, Int32.lt_iff_toInt_lt, a2, e0, k4]; omega
  have w2 : ¬ ((cp &&& (1023 : Int32)) + (56320 : Int32)) < 0 ∧ ((cp &&& (1023 : Int32)) + (56320 : Int32)) < (65536 : Int32) := by
    rw [Int32.lt_iff_toInt_lt, Int32.lt_iff_toInt_lt, b2, e0, k4]; omega
  have i1 := i2c_id w1.1 w1.2
  have i2 := i2c_id w2.1 w2.2
  have v1 : hiS cp = (((cp.toUInt32 >>> (((10 : Int32) &&& 31)).toUInt32).toInt32) + (55232 : Int32)) := by unfold hiS; rw [i1]; exact i1
  have v2 : loS cp = ((cp &&& (1023 : Int32)) + (56320 : Int32)) := by unfold loS; rw [i2]; exact i2
  refine ⟨?_, ?_, by rw [v1]; exact w1, by rw [v2]; exact w2⟩
  · rw [v1, ← u1]; exact i1.symm
  · rw [v2, ← u2]; exact i2.symm
theorem cp_range (x : Int32) : 0 ≤ ((x &&& (2147483647 : Int32)) % (1114112 : Int32)).toInt ∧ ((x &&& (2147483647 : Int32)) % (1114112 : Int32)).toInt < 1114112 := by
  have e1 : (x &&& 2147483647).toInt = x.toInt % 2 ^ 31 := Jvm.Kit.i32_mask x 2147483647 (k := 31) (by decide) (by decide)
  have e2 : ((x &&& 2147483647) % 1114112).toInt = (x &&& 2147483647).toInt % (1114112 : Int32).toInt := Jvm.Kit.i32_rem_nonneg (by rw [e1]; omega)
  have e3 : (1114112 : Int32).toInt = 1114112 := by decide
  rw [e3] at e2
  omega
theorem t_range (y : Int32) : ¬ (y &&& (255 : Int32)) < 0 ∧ (y &&& (255 : Int32)) < (256 : Int32) := by
  have e1 : (y &&& 255).toInt = y.toInt % 2 ^ 8 := Jvm.Kit.i32_mask y 255 (k := 8) (by decide) (by decide)
  have e0 : (0 : Int32).toInt = 0 := by decide
  have e2 : (256 : Int32).toInt = 256 := by decide
  rw [Int32.lt_iff_toInt_lt, Int32.lt_iff_toInt_lt, e1, e0, e2]; omega
def CPok (c : Int32) : Prop := ¬ c < (0 : Int32) ∧ c < (1114112 : Int32) ∧ (c < (55296 : Int32) ∨ ¬ c < (57344 : Int32))
theorem cpI {c : Int32} : CPok c ↔ 0 ≤ c.toInt ∧ c.toInt < 1114112 ∧ (c.toInt < 55296 ∨ ¬ c.toInt < 57344) := by
  unfold CPok
  rw [Int32.lt_iff_toInt_lt, Int32.lt_iff_toInt_lt, Int32.lt_iff_toInt_lt, Int32.lt_iff_toInt_lt]
  have e0 : (0 : Int32).toInt = 0 := by decide
  have e1 : (1114112 : Int32).toInt = 1114112 := by decide
  have e2 : (55296 : Int32).toInt = 55296 := by decide
  have e3 : (57344 : Int32).toInt = 57344 := by decide
  rw [e0, e1, e2, e3]; omega
theorem cpLow {x c : Int32} (e : c = (x &&& (2147483647 : Int32)) % (1114112 : Int32)) (h : c < (55296 : Int32)) : CPok c := by
  rw [cpI]; have r := cp_range x; rw [← e] at r
  rw [Int32.lt_iff_toInt_lt, show (55296 : Int32).toInt = 55296 from by decide] at h
  omega
theorem cpHigh {x c : Int32} (e : c = (x &&& (2147483647 : Int32)) % (1114112 : Int32)) (h : (57343 : Int32) < c) : CPok c := by
  rw [cpI]; have r := cp_range x; rw [← e] at r
  rw [Int32.lt_iff_toInt_lt, show (57343 : Int32).toInt = 57343 from by decide] at h
  omega
theorem cpMid {x c : Int32} (e : c = (x &&& (2147483647 : Int32)) % (1114112 : Int32)) (h1 : ¬ c < (55296 : Int32)) (h2 : ¬ (57343 : Int32) < c) : CPok (c - (2048 : Int32)) := by
  rw [cpI]; have r := cp_range x; rw [← e] at r
  rw [Int32.lt_iff_toInt_lt, show (55296 : Int32).toInt = 55296 from by decide] at h1
  rw [Int32.lt_iff_toInt_lt, show (57343 : Int32).toInt = 57343 from by decide] at h2
  have k : (2048 : Int32).toInt = 2048 := by decide
  rw [Jvm.Kit.i32_sub (by rw [k]; omega) (by rw [k]; omega), k]
  omega
theorem and255 {x : Int32} (h0 : ¬ x < 0) (h : x < (256 : Int32)) : ((lo8 x) &&& (255 : Int32)) = x := by
  have g := (le_i (k := 256) (by decide)).mp h
  obtain ⟨e, q⟩ := nat_of h0
  have hn : x.toInt.toNat < 256 := by omega
  show (x.toInt8.toInt32 &&& (255 : Int32)) = x
  rw [lo8_and]
  generalize x.toInt.toNat = n at e hn
  subst e
  rw [and_n _ (k := 8) (by decide) (by decide) (by omega), Nat.mod_eq_of_lt (by omega)]
theorem lt_trans32 {x a b : Int32} (h : x < a) (hab : a.toInt ≤ b.toInt) : x < b := by rw [Int32.lt_iff_toInt_lt] at *; omega
theorem shl1 {i : Int32} {j n : Nat} (hi : i = Int32.ofNat j) (hj : 2 * j + 1 < n) (hl : n ≤ 4000) : (i <<< ((1 : Int32) &&& 31)) = Int32.ofNat (2 * j) := by
  subst hi
  apply Int32.toInt_inj.mp
  rw [Jvm.Kit.i32_shl _ _ (k := 1) (by decide) (by rw [Int32.toInt_ofNat_of_lt (by omega)]; omega) (by rw [Int32.toInt_ofNat_of_lt (by omega)]; omega), Int32.toInt_ofNat_of_lt (by omega), Int32.toInt_ofNat_of_lt (by omega)]
  omega
theorem inc1 {j n : Nat} (hj : 2 * j + 1 < n) (hl : n ≤ 4000) : (Int32.ofNat (2 * j) + (1 : Int32)) = Int32.ofNat (2 * j + 1) := Jvm.i32_ofNat_add_one _
theorem inb16 {N : Int32} {k n : Nat} (hN : N = Int32.ofNat n) (hk : k < n) (hl : n ≤ 4000) : ¬ Int32.ofNat k < 0 ∧ Int32.ofNat k < N := by
  subst hN
  have e0 : (0 : Int32).toInt = 0 := by decide
  rw [Int32.lt_iff_toInt_lt, Int32.lt_iff_toInt_lt, Int32.toInt_ofNat_of_lt (by omega), Int32.toInt_ofNat_of_lt (by omega), e0]
  omega
theorem nat16 {k n : Nat} (hk : k < n) (hl : n ≤ 4000) : (Int32.ofNat k).toNatClampNeg = k := nat32 (by omega)
theorem getD16 {vs : List Value} {k : Nat} {v : Value} (hk : k < vs.length) (hl : vs.length ≤ 4000) (g : vs.getD k (.int 0) = v) : vs.getD (Int32.ofNat k).toNatClampNeg (.int 0) = v := by rw [nat16 hk hl]; exact g
theorem ls {vs : List Value} {n j : Nat} {v : Value} (h : vs.length = n) : (vs.set j v).length = n := by rw [List.length_set]; exact h
theorem lj {xs : List Value} {n k : Nat} (h : xs.length = n) (hk : k < n) : k < xs.length := by rw [h]; exact hk
theorem ll {xs : List Value} {n : Nat} (h : xs.length = n) (hk : n ≤ 4000) : xs.length ≤ 4000 := by rw [h]; exact hk
theorem lN {xs : List Value} {n : Nat} {N : Int32} (h : xs.length = n) (hN : N = Int32.ofNat n) : N = Int32.ofNat xs.length := by rw [h]; exact hN
def minI (a b : Int32) : Int32 := if b < a then b else a
theorem b0_eq (x : Int32) : nar .byte ((x >>> ((0 : Int32) &&& 31)).toInt8.toInt32) = loB x := nar_b8 _
theorem b1_eq (x : Int32) : nar .byte ((x >>> ((8 : Int32) &&& 31)).toInt8.toInt32) = hiB x := nar_b8 _
theorem pn_50637713 : plainName "java/util/Objects" = true := by first | (simp [plainName, overriddenIn]; done) | decide +kernel
theorem ef3_R (m : MethodId) (x0 : Addr) : entryFrame m #[(.ref x0)] 1 = mkF m 0 #[rV x0] [] := by first | (simp [entryFrame, mkF, argsToLocals, Value.category]; done) | rfl
theorem d3_0 : decode jdk_31_method_10_code 0 = .ok (.aload_n 0, 1) := by decide +kernel
theorem d3_1 : decode jdk_31_method_10_code 1 = .ok (.ifnonnull 11, 3) := by decide +kernel
theorem d3_12 : decode jdk_31_method_10_code 12 = .ok (.aload_n 0, 1) := by decide +kernel
theorem d3_13 : decode jdk_31_method_10_code 13 = .ok (.areturn, 1) := by decide +kernel
def Q_rnn_ (Z : State) (o : Addr) (h0 : Heap) (n0 : Nat) (rv_ : Option Value) (rh_ : Heap) (rL_ : List Loc) : Prop := (rv_ = some (.ref o)) ∧ (Fr n0 rL_) ∧ (rh_ = h0)
set_option maxRecDepth 65536 in
set_option maxHeartbeats 40000000 in
theorem rnn_ (l : Launch) (Z : State) (a0 : Array Value) (hw : HW Z a0) (ws : List Jvm.Cond) (o : Addr) (h0 : Heap) (n0 : Nat) (O0 : Old Z n0 h0) :
    MetQ l yM7 (Jvm.Cond.code yM7 jdk_31_method_10_code 1 (some (.object "java/lang/Object"))) ws (rM 0 0 0 0) Z #[(.ref o)] h0 (Q_rnn_ Z o h0 n0) := by
  refine metQ (plainFor_of_name pn_50637713) hisR (fun m => ef3_R m o) ?_
  intro p e s m below meth c s₁ P Bd hx hby hml hZ hown hnm X0 e0 hP R0
  have N0 := Fr.nil n0
  have R62 : Go p e below P s₁ (mkF m 1 #[rV o] [(.ref o)]) := fun t_ k_ => R0 t_ (XS.aloadN X0.here hx rfl (hb hby d3_0) rfl rfl k_)
  have R63 : Go p e below P s₁ (mkF m 12 #[rV o] []) := fun t_ k_ => R62 t_ (XS.ifnonnullYes X0.here hx rfl (pc0 := 1) (pc' := 12) rfl (hb hby d3_1) rfl (by decide) (by decide) k_)
  have R64 : Go p e below P s₁ (mkF m 13 #[rV o] [(.ref o)]) := fun t_ k_ => R63 t_ (XS.aloadN X0.here hx rfl (hb hby d3_12) rfl rfl k_)
  obtain ⟨fs, hr, hrun, hended, hW, hsame⟩ := X0.leave (v := some (.ref o)) (fun h => by rw [Bd.returns] at h; cases h)
  exact ⟨_, _, hP _ (R64 _ (retOut X0 hx Bd.returns rfl (Or.inr (Or.inr (Or.inr (Or.inr ⟨rfl, rfl, rfl⟩)))) (hb hby d3_13) hr)), hrun, hended, _, _, rfl, ⟨rfl, N0, e0⟩, ⟨_, rfl⟩, hW, hsame.mono (by decide) (by decide)⟩
theorem pn_46608628 : plainName "java/lang/StringUTF16" = true := by first | (simp [plainName, overriddenIn]; done) | decide +kernel
theorem ef23_RII (m : MethodId) (x0 : Addr) (x1 : Int32) (x2 : Int32) : entryFrame m #[(.ref x0), (.int x1), (.int x2)] 3 = mkF m 0 #[rV x0, iV x1, iV x2] [] := by first | (simp [entryFrame, mkF, argsToLocals, Value.category]; done) | rfl
theorem d23_0 : decode jdk_52_method_4_code 0 = .ok (.getstatic 44, 3) := by decide +kernel
theorem d23_3 : decode jdk_52_method_4_code 3 = .ok (.ifCond .ne 25, 3) := by decide +kernel
theorem d23_28 : decode jdk_52_method_4_code 28 = .ok (.iload_n 1, 1) := by decide +kernel
theorem d23_29 : decode jdk_52_method_4_code 29 = .ok (.iconst 1, 1) := by decide +kernel
theorem d23_30 : decode jdk_52_method_4_code 30 = .ok (.ishl, 1) := by decide +kernel
theorem d23_31 : decode jdk_52_method_4_code 31 = .ok (.istore_n 1, 1) := by decide +kernel
theorem d23_32 : decode jdk_52_method_4_code 32 = .ok (.aload_n 0, 1) := by decide +kernel
theorem d23_33 : decode jdk_52_method_4_code 33 = .ok (.iload_n 1, 1) := by decide +kernel
theorem d23_34 : decode jdk_52_method_4_code 34 = .ok (.iinc 1 1, 3) := by decide +kernel
theorem d23_37 : decode jdk_52_method_4_code 37 = .ok (.iload_n 2, 1) := by decide +kernel
theorem d23_38 : decode jdk_52_method_4_code 38 = .ok (.getstatic 59, 3) := by decide +kernel
theorem d23_41 : decode jdk_52_method_4_code 41 = .ok (.ishr, 1) := by decide +kernel
theorem d23_42 : decode jdk_52_method_4_code 42 = .ok (.i2b, 1) := by decide +kernel
theorem d23_43 : decode jdk_52_method_4_code 43 = .ok (.bastore, 1) := by decide +kernel
theorem d23_44 : decode jdk_52_method_4_code 44 = .ok (.aload_n 0, 1) := by decide +kernel
theorem d23_45 : decode jdk_52_method_4_code 45 = .ok (.iload_n 1, 1) := by decide +kernel
theorem d23_46 : decode jdk_52_method_4_code 46 = .ok (.iload_n 2, 1) := by decide +kernel
theorem d23_47 : decode jdk_52_method_4_code 47 = .ok (.getstatic 63, 3) := by decide +kernel
theorem d23_50 : decode jdk_52_method_4_code 50 = .ok (.ishr, 1) := by decide +kernel
theorem d23_51 : decode jdk_52_method_4_code 51 = .ok (.i2b, 1) := by decide +kernel
theorem d23_52 : decode jdk_52_method_4_code 52 = .ok (.bastore, 1) := by decide +kernel
theorem d23_53 : decode jdk_52_method_4_code 53 = .ok (.return_, 1) := by decide +kernel
def Q_putC_ (Z : State) (d : Addr) (kd : ClassId) (N : Int32) (vs : List Value) (j : Nat) (i : Int32) (cc : Int32) (h0 : Heap) (n0 : Nat) (rv_ : Option Value) (rh_ : Heap) (rL_ : List Loc) : Prop := (rv_ = none) ∧ (Fr n0 rL_) ∧ (Keep h0 rh_ [d]) ∧ (Arv Z rh_ d kd .byte N ((vs.set (2 * j) (.int (loB cc))).set (2 * j + 1) (.int (hiB cc))) (.int 0))
set_option maxRecDepth 65536 in
set_option maxHeartbeats 40000000 in
theorem putC_ (l : Launch) (Z : State) (a0 : Array Value) (hw : HW Z a0) (ws : List Jvm.Cond) (d : Addr) (kd : ClassId) (N : Int32) (vs : List Value) (j : Nat) (i : Int32) (cc : Int32) (h0 : Heap) (n0 : Nat) (O0 : Old Z n0 h0) (P0 : sT2 Z (.int 1)) (P1 : sT3 Z (.int 0)) (P2 : sT4 Z (.int 8)) (P3 : Arv Z h0 d kd .byte N vs (.int 0)) (P4 : n0 ≤ d) (P5 : i = Int32.ofNat j) (P6 : 2 * j + 1 < vs.length) (P7 : N = Int32.ofNat vs.length) (P8 : vs.length ≤ 4000) :
    MetQ l yM8 (Jvm.Cond.code yM8 jdk_52_method_4_code 3 none) ws (rM 0 0 0 0) Z #[(.ref d), (.int i), (.int cc)] h0 (Q_putC_ Z d kd N vs j i cc h0 n0) := by
  have hi := P5
  have hj := P6
  have hN := P7
  have hl := P8
  refine metQ (plainFor_of_name pn_46608628) hisR (fun m => ef23_RII m d i cc) ?_
  intro p e s m below meth c s₁ P Bd hx hby hml hZ hown hnm X0 e0 hP R0
  have N0 := Fr.nil n0
  obtain ⟨T65, X65, e65, st65⟩ := getS2 X0 hx hZ hown (host := "") (Or.inl (hwI hw 115 rfl)) Via.refl e0 (P0.ext O0.2) (g := (mkF m 0 #[rV d, iV i, iV cc] [])) rfl (hb hby d23_0)
  have R66 : Go p e below P T65 (mkF m 3 #[rV d, iV i, iV cc] [(.int 1)]) := fun t_ k_ => R0 t_ (st65 t_ k_)
  have R67 : Go p e below P T65 (mkF m 28 #[rV d, iV i, iV cc] []) := fun t_ k_ => R66 t_ (XS.ifYes X65.here hx rfl (pc0 := 3) (pc' := 28) rfl (hb hby d23_3) rfl ((if0 _ _).trans (feq (by decide : ¬ ((1 : Int32) = (0 : Int32)))).2) (by decide) (by decide) k_)
  have R68 : Go p e below P T65 (mkF m 29 #[rV d, iV i, iV cc] [(.int i)]) := fun t_ k_ => R67 t_ (XS.iloadN X65.here hx rfl (hb hby d23_28) rfl k_)
  have R69 : Go p e below P T65 (mkF m 30 #[rV d, iV i, iV cc] [(.int 1), (.int i)]) := fun t_ k_ => R68 t_ (XS.iconst X65.here hx rfl (hb hby d23_29) k_)
  have R70 : Go p e below P T65 (mkF m 31 #[rV d, iV i, iV cc] [(.int (i <<< ((1 : Int32) &&& 31)))]) := fun t_ k_ => R69 t_ (XS.ishl X65.here hx rfl (hb hby d23_30) rfl k_)
  have er71 : (i <<< ((1 : Int32) &&& 31)) = (Int32.ofNat (2 * j)) := (shl1 hi hj hl)
  have R72 : Go p e below P T65 (mkF m 31 #[rV d, iV i, iV cc] [(.int (Int32.ofNat (2 * j)))]) := by have q := R70; rw [er71] at q; exact q
  have R73 : Go p e below P T65 (mkF m 32 #[rV d, iV (Int32.ofNat (2 * j)), iV cc] []) := fun t_ k_ => R72 t_ (XS.istoreN X65.here hx rfl (hb hby d23_31) rfl (l' := #[rV d, iV (Int32.ofNat (2 * j)), iV cc]) rfl k_)
  have R74 : Go p e below P T65 (mkF m 33 #[rV d, iV (Int32.ofNat (2 * j)), iV cc] [(.ref d)]) := fun t_ k_ => R73 t_ (XS.aloadN X65.here hx rfl (hb hby d23_32) rfl rfl k_)
  have R75 : Go p e below P T65 (mkF m 34 #[rV d, iV (Int32.ofNat (2 * j)), iV cc] [(.int (Int32.ofNat (2 * j))), (.ref d)]) := fun t_ k_ => R74 t_ (XS.iloadN X65.here hx rfl (hb hby d23_33) rfl k_)
  have R76 : Go p e below P T65 (mkF m 37 #[rV d, iV ((Int32.ofNat (2 * j)) + (1 : Int32)), iV cc] [(.int (Int32.ofNat (2 * j))), (.ref d)]) := fun t_ k_ => R75 t_ (XS.iinc X65.here hx rfl (hb hby d23_34) rfl (l' := #[rV d, iV ((Int32.ofNat (2 * j)) + (1 : Int32)), iV cc]) rfl k_)
  have er77 : ((Int32.ofNat (2 * j)) + (1 : Int32)) = (Int32.ofNat (2 * j + 1)) := (inc1 hj hl)
  have R78 : Go p e below P T65 (mkF m 37 #[rV d, iV (Int32.ofNat (2 * j + 1)), iV cc] [(.int (Int32.ofNat (2 * j))), (.ref d)]) := by have q := R76; rw [er77] at q; exact q
  have R79 : Go p e below P T65 (mkF m 38 #[rV d, iV (Int32.ofNat (2 * j + 1)), iV cc] [(.int cc), (.int (Int32.ofNat (2 * j))), (.ref d)]) := fun t_ k_ => R78 t_ (XS.iloadN X65.here hx rfl (hb hby d23_37) rfl k_)
  obtain ⟨T80, X80, e80, st80⟩ := getS2 X65 hx hZ hown (host := "") (Or.inl (hwI hw 116 rfl)) Via.refl e65 (P1.ext O0.2) (g := (mkF m 38 #[rV d, iV (Int32.ofNat (2 * j + 1)), iV cc] [(.int cc), (.int (Int32.ofNat (2 * j))), (.ref d)])) rfl (hb hby d23_38)
  have R81 : Go p e below P T80 (mkF m 41 #[rV d, iV (Int32.ofNat (2 * j + 1)), iV cc] [(.int 0), (.int cc), (.int (Int32.ofNat (2 * j))), (.ref d)]) := fun t_ k_ => R79 t_ (st80 t_ k_)
  have R82 : Go p e below P T80 (mkF m 42 #[rV d, iV (Int32.ofNat (2 * j + 1)), iV cc] [(.int (cc >>> ((0 : Int32) &&& 31))), (.int (Int32.ofNat (2 * j))), (.ref d)]) := fun t_ k_ => R81 t_ (XS.ishr X80.here hx rfl (hb hby d23_41) rfl k_)
  have R83 : Go p e below P T80 (mkF m 43 #[rV d, iV (Int32.ofNat (2 * j + 1)), iV cc] [(.int ((cc >>> ((0 : Int32) &&& 31)).toInt8.toInt32)), (.int (Int32.ofNat (2 * j))), (.ref d)]) := fun t_ k_ => R82 t_ (XS.i2b X80.here hx rfl (hb hby d23_42) rfl k_)
  obtain ⟨cl84, cl84A, cl84q, cl84S, cl84N, cl84H, cl84G⟩ := id P3
  obtain ⟨T85, h85, X85, e85, W85, st85⟩ := stB X80 hx hZ e80 cl84A (j := (Int32.ofNat (2 * j))) (inb_of cl84S (inb16 hN (by omega) hl)) (g := (mkF m 43 #[rV d, iV (Int32.ofNat (2 * j + 1)), iV cc] [(.int ((cc >>> ((0 : Int32) &&& 31)).toInt8.toInt32)), (.int (Int32.ofNat (2 * j))), (.ref d)])) rfl rfl (hb hby d23_43)
  have V85 : Arv Z h85 d kd .byte N (vs.set (2 * j) (.int (nar .byte ((cc >>> ((0 : Int32) &&& 31)).toInt8.toInt32)))) (.int 0) := Arv.set cl84A cl84q cl84S cl84N cl84H cl84G (fits_nar_byte _) W85 (2 * j) (nat16 (n := vs.length) (by omega) hl) (by omega)
  have V85s : Arv Z h85 d kd .byte N (vs.set (2 * j) (.int (loB cc))) (.int 0) := by have q := V85; rw [b0_eq] at q; exact q
  have N85 := Fr.snoc X85 N0 P4
  have O85 := O0.wr W85 P4
  have R86 : Go p e below P T85 (mkF m 44 #[rV d, iV (Int32.ofNat (2 * j + 1)), iV cc] []) := fun t_ k_ => R83 t_ (st85 t_ k_)
  have R87 : Go p e below P T85 (mkF m 45 #[rV d, iV (Int32.ofNat (2 * j + 1)), iV cc] [(.ref d)]) := fun t_ k_ => R86 t_ (XS.aloadN X85.here hx rfl (hb hby d23_44) rfl rfl k_)
  have R88 : Go p e below P T85 (mkF m 46 #[rV d, iV (Int32.ofNat (2 * j + 1)), iV cc] [(.int (Int32.ofNat (2 * j + 1))), (.ref d)]) := fun t_ k_ => R87 t_ (XS.iloadN X85.here hx rfl (hb hby d23_45) rfl k_)
  have R89 : Go p e below P T85 (mkF m 47 #[rV d, iV (Int32.ofNat (2 * j + 1)), iV cc] [(.int cc), (.int (Int32.ofNat (2 * j + 1))), (.ref d)]) := fun t_ k_ => R88 t_ (XS.iloadN X85.here hx rfl (hb hby d23_46) rfl k_)
  obtain ⟨T90, X90, e90, st90⟩ := getS2 X85 hx hZ hown (host := "") (Or.inl (hwI hw 117 rfl)) Via.refl e85 (P2.ext O85.2) (g := (mkF m 47 #[rV d, iV (Int32.ofNat (2 * j + 1)), iV cc] [(.int cc), (.int (Int32.ofNat (2 * j + 1))), (.ref d)])) rfl (hb hby d23_47)
  have R91 : Go p e below P T90 (mkF m 50 #[rV d, iV (Int32.ofNat (2 * j + 1)), iV cc] [(.int 8), (.int cc), (.int (Int32.ofNat (2 * j + 1))), (.ref d)]) := fun t_ k_ => R89 t_ (st90 t_ k_)
  have R92 : Go p e below P T90 (mkF m 51 #[rV d, iV (Int32.ofNat (2 * j + 1)), iV cc] [(.int (cc >>> ((8 : Int32) &&& 31))), (.int (Int32.ofNat (2 * j + 1))), (.ref d)]) := fun t_ k_ => R91 t_ (XS.ishr X90.here hx rfl (hb hby d23_50) rfl k_)
  have R93 : Go p e below P T90 (mkF m 52 #[rV d, iV (Int32.ofNat (2 * j + 1)), iV cc] [(.int ((cc >>> ((8 : Int32) &&& 31)).toInt8.toInt32)), (.int (Int32.ofNat (2 * j + 1))), (.ref d)]) := fun t_ k_ => R92 t_ (XS.i2b X90.here hx rfl (hb hby d23_51) rfl k_)
  obtain ⟨cl94, cl94A, cl94q, cl94S, cl94N, cl94H, cl94G⟩ := id V85s
  obtain ⟨T95, h95, X95, e95, W95, st95⟩ := stB X90 hx hZ e90 cl94A (j := (Int32.ofNat (2 * j + 1))) (inb_of cl94S (inb16 hN hj hl)) (g := (mkF m 52 #[rV d, iV (Int32.ofNat (2 * j + 1)), iV cc] [(.int ((cc >>> ((8 : Int32) &&& 31)).toInt8.toInt32)), (.int (Int32.ofNat (2 * j + 1))), (.ref d)])) rfl rfl (hb hby d23_52)
  have V95 : Arv Z h95 d kd .byte N ((vs.set (2 * j) (.int (loB cc))).set (2 * j + 1) (.int (nar .byte ((cc >>> ((8 : Int32) &&& 31)).toInt8.toInt32)))) (.int 0) := Arv.set cl94A cl94q cl94S cl94N cl94H cl94G (fits_nar_byte _) W95 (2 * j + 1) (nat16 (n := vs.length) hj hl) (by rw [List.length_set]; exact hj)
  have V95s : Arv Z h95 d kd .byte N ((vs.set (2 * j) (.int (loB cc))).set (2 * j + 1) (.int (hiB cc))) (.int 0) := by have q := V95; rw [b1_eq] at q; exact q
  have N95 := Fr.snoc X95 N85 P4
  have O95 := O85.wr W95 P4
  have R96 : Go p e below P T95 (mkF m 53 #[rV d, iV (Int32.ofNat (2 * j + 1)), iV cc] []) := fun t_ k_ => R93 t_ (st95 t_ k_)
  obtain ⟨fs, hr, hrun, hended, hW, hsame⟩ := X95.leave (v := none) (fun _ => rfl)
  exact ⟨_, _, hP _ (R96 _ (X95.returnOut hx Bd.returns (hb hby d23_53) hr)), hrun, hended, _, _, rfl, ⟨rfl, N95, (e95.symm ▸ (((Keep.refl h0 [d]).wr W85 (Or.inl (List.mem_of_getElem? (i := 0) rfl))).wr W95 (Or.inl (List.mem_of_getElem? (i := 0) rfl)))), (e95.symm ▸ V95s)⟩, ⟨_, rfl⟩, hW, hsame.mono (by decide) (by decide)⟩
theorem ef27_RI (m : MethodId) (x0 : Addr) (x1 : Int32) : entryFrame m #[(.ref x0), (.int x1)] 2 = mkF m 0 #[rV x0, iV x1] [] := by first | (simp [entryFrame, mkF, argsToLocals, Value.category]; done) | rfl
theorem d27_0 : decode jdk_52_method_5_code 0 = .ok (.getstatic 44, 3) := by decide +kernel
theorem d27_3 : decode jdk_52_method_5_code 3 = .ok (.ifCond .ne 25, 3) := by decide +kernel
theorem d27_28 : decode jdk_52_method_5_code 28 = .ok (.iload_n 1, 1) := by decide +kernel
theorem d27_29 : decode jdk_52_method_5_code 29 = .ok (.iconst 1, 1) := by decide +kernel
theorem d27_30 : decode jdk_52_method_5_code 30 = .ok (.ishl, 1) := by decide +kernel
theorem d27_31 : decode jdk_52_method_5_code 31 = .ok (.istore_n 1, 1) := by decide +kernel
theorem d27_32 : decode jdk_52_method_5_code 32 = .ok (.aload_n 0, 1) := by decide +kernel
theorem d27_33 : decode jdk_52_method_5_code 33 = .ok (.iload_n 1, 1) := by decide +kernel
theorem d27_34 : decode jdk_52_method_5_code 34 = .ok (.iinc 1 1, 3) := by decide +kernel
theorem d27_37 : decode jdk_52_method_5_code 37 = .ok (.baload, 1) := by decide +kernel
theorem d27_38 : decode jdk_52_method_5_code 38 = .ok (.sipush 255, 3) := by decide +kernel
theorem d27_41 : decode jdk_52_method_5_code 41 = .ok (.iand, 1) := by decide +kernel
theorem d27_42 : decode jdk_52_method_5_code 42 = .ok (.getstatic 59, 3) := by decide +kernel
theorem d27_45 : decode jdk_52_method_5_code 45 = .ok (.ishl, 1) := by decide +kernel
theorem d27_46 : decode jdk_52_method_5_code 46 = .ok (.aload_n 0, 1) := by decide +kernel
theorem d27_47 : decode jdk_52_method_5_code 47 = .ok (.iload_n 1, 1) := by decide +kernel
theorem d27_48 : decode jdk_52_method_5_code 48 = .ok (.baload, 1) := by decide +kernel
theorem d27_49 : decode jdk_52_method_5_code 49 = .ok (.sipush 255, 3) := by decide +kernel
theorem d27_52 : decode jdk_52_method_5_code 52 = .ok (.iand, 1) := by decide +kernel
theorem d27_53 : decode jdk_52_method_5_code 53 = .ok (.getstatic 63, 3) := by decide +kernel
theorem d27_56 : decode jdk_52_method_5_code 56 = .ok (.ishl, 1) := by decide +kernel
theorem d27_57 : decode jdk_52_method_5_code 57 = .ok (.ior, 1) := by decide +kernel
theorem d27_58 : decode jdk_52_method_5_code 58 = .ok (.i2c, 1) := by decide +kernel
theorem d27_59 : decode jdk_52_method_5_code 59 = .ok (.ireturn, 1) := by decide +kernel
def Q_getC_ (Z : State) (d : Addr) (kd : ClassId) (N : Int32) (vs : List Value) (j : Nat) (i : Int32) (v0 : Int32) (v1 : Int32) (cc : Int32) (h0 : Heap) (n0 : Nat) (rv_ : Option Value) (rh_ : Heap) (rL_ : List Loc) : Prop := (rv_ = some (.int cc)) ∧ (Fr n0 rL_) ∧ (rh_ = h0)
set_option maxRecDepth 65536 in
set_option maxHeartbeats 40000000 in
theorem getC_ (l : Launch) (Z : State) (a0 : Array Value) (hw : HW Z a0) (ws : List Jvm.Cond) (d : Addr) (kd : ClassId) (N : Int32) (vs : List Value) (j : Nat) (i : Int32) (v0 : Int32) (v1 : Int32) (cc : Int32) (h0 : Heap) (n0 : Nat) (O0 : Old Z n0 h0) (P0 : sT2 Z (.int 1)) (P1 : sT3 Z (.int 0)) (P2 : sT4 Z (.int 8)) (P3 : Arv Z h0 d kd .byte N vs (.int 0)) (P4 : i = Int32.ofNat j) (P5 : 2 * j + 1 < vs.length) (P6 : N = Int32.ofNat vs.length) (P7 : vs.length ≤ 4000) (P8 : vs.getD (2 * j) (.int 0) = .int v0) (P9 : vs.getD (2 * j + 1) (.int 0) = .int v1) (P10 : charOf v0 v1 = cc) :
    MetQ l yM9 (Jvm.Cond.code yM9 jdk_52_method_5_code 2 (some .char)) ws (rM 0 0 0 0) Z #[(.ref d), (.int i)] h0 (Q_getC_ Z d kd N vs j i v0 v1 cc h0 n0) := by
  have hi := P4
  have hj := P5
  have hN := P6
  have hl := P7
  have g0 := P8
  have g1 := P9
  have hcc := P10
  refine metQ (plainFor_of_name pn_46608628) hisR (fun m => ef27_RI m d i) ?_
  intro p e s m below meth c s₁ P Bd hx hby hml hZ hown hnm X0 e0 hP R0
  have N0 := Fr.nil n0
  obtain ⟨T97, X97, e97, st97⟩ := getS2 X0 hx hZ hown (host := "") (Or.inl (hwI hw 115 rfl)) Via.refl e0 (P0.ext O0.2) (g := (mkF m 0 #[rV d, iV i] [])) rfl (hb hby d27_0)
  have R98 : Go p e below P T97 (mkF m 3 #[rV d, iV i] [(.int 1)]) := fun t_ k_ => R0 t_ (st97 t_ k_)
  have R99 : Go p e below P T97 (mkF m 28 #[rV d, iV i] []) := fun t_ k_ => R98 t_ (XS.ifYes X97.here hx rfl (pc0 := 3) (pc' := 28) rfl (hb hby d27_3) rfl ((if0 _ _).trans (feq (by decide : ¬ ((1 : Int32) = (0 : Int32)))).2) (by decide) (by decide) k_)
  have R100 : Go p e below P T97 (mkF m 29 #[rV d, iV i] [(.int i)]) := fun t_ k_ => R99 t_ (XS.iloadN X97.here hx rfl (hb hby d27_28) rfl k_)
  have R101 : Go p e below P T97 (mkF m 30 #[rV d, iV i] [(.int 1), (.int i)]) := fun t_ k_ => R100 t_ (XS.iconst X97.here hx rfl (hb hby d27_29) k_)
  have R102 : Go p e below P T97 (mkF m 31 #[rV d, iV i] [(.int (i <<< ((1 : Int32) &&& 31)))]) := fun t_ k_ => R101 t_ (XS.ishl X97.here hx rfl (hb hby d27_30) rfl k_)
  have er103 : (i <<< ((1 : Int32) &&& 31)) = (Int32.ofNat (2 * j)) := (shl1 hi hj hl)
  have R104 : Go p e below P T97 (mkF m 31 #[rV d, iV i] [(.int (Int32.ofNat (2 * j)))]) := by have q := R102; rw [er103] at q; exact q
  have R105 : Go p e below P T97 (mkF m 32 #[rV d, iV (Int32.ofNat (2 * j))] []) := fun t_ k_ => R104 t_ (XS.istoreN X97.here hx rfl (hb hby d27_31) rfl (l' := #[rV d, iV (Int32.ofNat (2 * j))]) rfl k_)
  have R106 : Go p e below P T97 (mkF m 33 #[rV d, iV (Int32.ofNat (2 * j))] [(.ref d)]) := fun t_ k_ => R105 t_ (XS.aloadN X97.here hx rfl (hb hby d27_32) rfl rfl k_)
  have R107 : Go p e below P T97 (mkF m 34 #[rV d, iV (Int32.ofNat (2 * j))] [(.int (Int32.ofNat (2 * j))), (.ref d)]) := fun t_ k_ => R106 t_ (XS.iloadN X97.here hx rfl (hb hby d27_33) rfl k_)
  have R108 : Go p e below P T97 (mkF m 37 #[rV d, iV ((Int32.ofNat (2 * j)) + (1 : Int32))] [(.int (Int32.ofNat (2 * j))), (.ref d)]) := fun t_ k_ => R107 t_ (XS.iinc X97.here hx rfl (hb hby d27_34) rfl (l' := #[rV d, iV ((Int32.ofNat (2 * j)) + (1 : Int32))]) rfl k_)
  have er109 : ((Int32.ofNat (2 * j)) + (1 : Int32)) = (Int32.ofNat (2 * j + 1)) := (inc1 hj hl)
  have R110 : Go p e below P T97 (mkF m 37 #[rV d, iV (Int32.ofNat (2 * j + 1))] [(.int (Int32.ofNat (2 * j))), (.ref d)]) := by have q := R108; rw [er109] at q; exact q
  obtain ⟨cl111, cl111A, cl111q, cl111S, cl111N, cl111H, cl111G⟩ := id P3
  have cl111i := inb_of (j := (Int32.ofNat (2 * j))) cl111S (inb16 hN (by omega) hl)
  have R112 : Go p e below P T97 (mkF m 38 #[rV d, iV (Int32.ofNat (2 * j + 1))] [(.int v0)]) := fun t_ k_ => R110 t_ (X97.baloadBytes hx (j := (Int32.ofNat (2 * j))) (v := (.int v0)) (by rw [e97]; exact cl111A.1) (State.isArrayOf_alike hZ.alike cl111A.2.1) cl111A.2.2 cl111i (cl111H.at cl111i (getD16 (by omega) hl g0)) (g := (mkF m 37 #[rV d, iV (Int32.ofNat (2 * j + 1))] [(.int (Int32.ofNat (2 * j))), (.ref d)])) rfl rfl (hb hby d27_37) _ k_)
  have R113 : Go p e below P T97 (mkF m 41 #[rV d, iV (Int32.ofNat (2 * j + 1))] [(.int 255), (.int v0)]) := fun t_ k_ => R112 t_ (XS.sipush X97.here hx rfl (hb hby d27_38) k_)
  have R114 : Go p e below P T97 (mkF m 42 #[rV d, iV (Int32.ofNat (2 * j + 1))] [(.int (v0 &&& (255 : Int32)))]) := fun t_ k_ => R113 t_ (XS.iand X97.here hx rfl (hb hby d27_41) rfl k_)
  obtain ⟨T115, X115, e115, st115⟩ := getS2 X97 hx hZ hown (host := "") (Or.inl (hwI hw 116 rfl)) Via.refl e97 (P1.ext O0.2) (g := (mkF m 42 #[rV d, iV (Int32.ofNat (2 * j + 1))] [(.int (v0 &&& (255 : Int32)))])) rfl (hb hby d27_42)
  have R116 : Go p e below P T115 (mkF m 45 #[rV d, iV (Int32.ofNat (2 * j + 1))] [(.int 0), (.int (v0 &&& (255 : Int32)))]) := fun t_ k_ => R114 t_ (st115 t_ k_)
  have R117 : Go p e below P T115 (mkF m 46 #[rV d, iV (Int32.ofNat (2 * j + 1))] [(.int ((v0 &&& (255 : Int32)) <<< ((0 : Int32) &&& 31)))]) := fun t_ k_ => R116 t_ (XS.ishl X115.here hx rfl (hb hby d27_45) rfl k_)
  have R118 : Go p e below P T115 (mkF m 47 #[rV d, iV (Int32.ofNat (2 * j + 1))] [(.ref d), (.int ((v0 &&& (255 : Int32)) <<< ((0 : Int32) &&& 31)))]) := fun t_ k_ => R117 t_ (XS.aloadN X115.here hx rfl (hb hby d27_46) rfl rfl k_)
  have R119 : Go p e below P T115 (mkF m 48 #[rV d, iV (Int32.ofNat (2 * j + 1))] [(.int (Int32.ofNat (2 * j + 1))), (.ref d), (.int ((v0 &&& (255 : Int32)) <<< ((0 : Int32) &&& 31)))]) := fun t_ k_ => R118 t_ (XS.iloadN X115.here hx rfl (hb hby d27_47) rfl k_)
  obtain ⟨cl120, cl120A, cl120q, cl120S, cl120N, cl120H, cl120G⟩ := id P3
  have cl120i := inb_of (j := (Int32.ofNat (2 * j + 1))) cl120S (inb16 hN hj hl)
  have R121 : Go p e below P T115 (mkF m 49 #[rV d, iV (Int32.ofNat (2 * j + 1))] [(.int v1), (.int ((v0 &&& (255 : Int32)) <<< ((0 : Int32) &&& 31)))]) := fun t_ k_ => R119 t_ (X115.baloadBytes hx (j := (Int32.ofNat (2 * j + 1))) (v := (.int v1)) (by rw [e115]; exact cl120A.1) (State.isArrayOf_alike hZ.alike cl120A.2.1) cl120A.2.2 cl120i (cl120H.at cl120i (getD16 hj hl g1)) (g := (mkF m 48 #[rV d, iV (Int32.ofNat (2 * j + 1))] [(.int (Int32.ofNat (2 * j + 1))), (.ref d), (.int ((v0 &&& (255 : Int32)) <<< ((0 : Int32) &&& 31)))])) rfl rfl (hb hby d27_48) _ k_)
  have R122 : Go p e below P T115 (mkF m 52 #[rV d, iV (Int32.ofNat (2 * j + 1))] [(.int 255), (.int v1), (.int ((v0 &&& (255 : Int32)) <<< ((0 : Int32) &&& 31)))]) := fun t_ k_ => R121 t_ (XS.sipush X115.here hx rfl (hb hby d27_49) k_)
  have R123 : Go p e below P T115 (mkF m 53 #[rV d, iV (Int32.ofNat (2 * j + 1))] [(.int (v1 &&& (255 : Int32))), (.int ((v0 &&& (255 : Int32)) <<< ((0 : Int32) &&& 31)))]) := fun t_ k_ => R122 t_ (XS.iand X115.here hx rfl (hb hby d27_52) rfl k_)
  obtain ⟨T124, X124, e124, st124⟩ := getS2 X115 hx hZ hown (host := "") (Or.inl (hwI hw 117 rfl)) Via.refl e115 (P2.ext O0.2) (g := (mkF m 53 #[rV d, iV (Int32.ofNat (2 * j + 1))] [(.int (v1 &&& (255 : Int32))), (.int ((v0 &&& (255 : Int32)) <<< ((0 : Int32) &&& 31)))])) rfl (hb hby d27_53)
  have R125 : Go p e below P T124 (mkF m 56 #[rV d, iV (Int32.ofNat (2 * j + 1))] [(.int 8), (.int (v1 &&& (255 : Int32))), (.int ((v0 &&& (255 : Int32)) <<< ((0 : Int32) &&& 31)))]) := fun t_ k_ => R123 t_ (st124 t_ k_)
  have R126 : Go p e below P T124 (mkF m 57 #[rV d, iV (Int32.ofNat (2 * j + 1))] [(.int ((v1 &&& (255 : Int32)) <<< ((8 : Int32) &&& 31))), (.int ((v0 &&& (255 : Int32)) <<< ((0 : Int32) &&& 31)))]) := fun t_ k_ => R125 t_ (XS.ishl X124.here hx rfl (hb hby d27_56) rfl k_)
  have R127 : Go p e below P T124 (mkF m 58 #[rV d, iV (Int32.ofNat (2 * j + 1))] [(.int (((v0 &&& (255 : Int32)) <<< ((0 : Int32) &&& 31)) ||| ((v1 &&& (255 : Int32)) <<< ((8 : Int32) &&& 31))))]) := fun t_ k_ => R126 t_ (XS.ior X124.here hx rfl (hb hby d27_57) rfl k_)
  have R128 : Go p e below P T124 (mkF m 59 #[rV d, iV (Int32.ofNat (2 * j + 1))] [(.int ((((v0 &&& (255 : Int32)) <<< ((0 : Int32) &&& 31)) ||| ((v1 &&& (255 : Int32)) <<< ((8 : Int32) &&& 31))).toUInt32.toUInt16.toUInt32.toInt32))]) := fun t_ k_ => R127 t_ (XS.i2c X124.here hx rfl (hb hby d27_58) rfl k_)
  obtain ⟨fs, hr, hrun, hended, hW, hsame⟩ := X124.leave (v := some (.int (nar .char ((((v0 &&& (255 : Int32)) <<< ((0 : Int32) &&& 31)) ||| ((v1 &&& (255 : Int32)) <<< ((8 : Int32) &&& 31))).toUInt32.toUInt16.toUInt32.toInt32)))) (fun h => by rw [Bd.returns] at h; cases h)
  exact ⟨_, _, hP _ (R128 _ (retN X124 hx (t := .char) Bd.returns (by simp) (hb hby d27_59) hr)), hrun, hended, _, _, rfl, ⟨(congrArg (fun z_ => some (Value.int z_)) hcc), N0, e124⟩, ⟨_, rfl⟩, hW, hsame.mono (by decide) (by decide)⟩
theorem ef36_II (m : MethodId) (x0 : Int32) (x1 : Int32) : entryFrame m #[(.int x0), (.int x1)] 2 = mkF m 0 #[iV x0, iV x1] [] := by first | (simp [entryFrame, mkF, argsToLocals, Value.category]; done) | rfl
theorem d36_0 : decode jdk_42_method_35_code 0 = .ok (.iload_n 0, 1) := by decide +kernel
theorem d36_1 : decode jdk_42_method_35_code 1 = .ok (.bipush 6, 2) := by decide +kernel
theorem d36_3 : decode jdk_42_method_35_code 3 = .ok (.ishl, 1) := by decide +kernel
theorem d36_4 : decode jdk_42_method_35_code 4 = .ok (.iload_n 1, 1) := by decide +kernel
theorem d36_5 : decode jdk_42_method_35_code 5 = .ok (.ixor, 1) := by decide +kernel
theorem d36_6 : decode jdk_42_method_35_code 6 = .ok (.sipush 3968, 3) := by decide +kernel
theorem d36_9 : decode jdk_42_method_35_code 9 = .ok (.ixor, 1) := by decide +kernel
theorem d36_10 : decode jdk_42_method_35_code 10 = .ok (.i2c, 1) := by decide +kernel
theorem d36_11 : decode jdk_42_method_35_code 11 = .ok (.ireturn, 1) := by decide +kernel
def Q_dec2_ (Z : State) (b1 : Int32) (b2 : Int32) (r : Int32) (h0 : Heap) (n0 : Nat) (rv_ : Option Value) (rh_ : Heap) (rL_ : List Loc) : Prop := (rv_ = some (.int r)) ∧ (Fr n0 rL_) ∧ (rh_ = h0)
set_option maxRecDepth 65536 in
set_option maxHeartbeats 40000000 in
theorem dec2_ (l : Launch) (Z : State) (a0 : Array Value) (hw : HW Z a0) (ws : List Jvm.Cond) (b1 : Int32) (b2 : Int32) (r : Int32) (h0 : Heap) (n0 : Nat) (O0 : Old Z n0 h0) (P0 : d2 b1 b2 = r) :
    MetQ l yM10 (Jvm.Cond.code yM10 jdk_42_method_35_code 2 (some .char)) ws (rM 0 0 0 0) Z #[(.int b1), (.int b2)] h0 (Q_dec2_ Z b1 b2 r h0 n0) := by
  have hret := P0
  refine metQ (plainFor_of_name pn_47582652) hisR (fun m => ef36_II m b1 b2) ?_
  intro p e s m below meth c s₁ P Bd hx hby hml hZ hown hnm X0 e0 hP R0
  have N0 := Fr.nil n0
  have R129 : Go p e below P s₁ (mkF m 11 #[iV b1, iV b2] [(.int ((((b1 <<< ((6 : Int32) &&& 31)) ^^^ b2) ^^^ (3968 : Int32)).toUInt32.toUInt16.toUInt32.toInt32))]) := fun t_ k_ => R0 t_ (XS.iloadN X0.here hx rfl (hb hby d36_0) rfl (XS.bipush X0.here hx rfl (hb hby d36_1) (XS.ishl X0.here hx rfl (hb hby d36_3) rfl (XS.iloadN X0.here hx rfl (hb hby d36_4) rfl (XS.ixor X0.here hx rfl (hb hby d36_5) rfl (XS.sipush X0.here hx rfl (hb hby d36_6) (XS.ixor X0.here hx rfl (hb hby d36_9) rfl (XS.i2c X0.here hx rfl (hb hby d36_10) rfl k_))))))))
  obtain ⟨fs, hr, hrun, hended, hW, hsame⟩ := X0.leave (v := some (.int (nar .char ((((b1 <<< ((6 : Int32) &&& 31)) ^^^ b2) ^^^ (3968 : Int32)).toUInt32.toUInt16.toUInt32.toInt32)))) (fun h => by rw [Bd.returns] at h; cases h)
  exact ⟨_, _, hP _ (R129 _ (retN X0 hx (t := .char) Bd.returns (by simp) (hb hby d36_11) hr)), hrun, hended, _, _, rfl, ⟨(congrArg (fun z_ => some (Value.int z_)) hret), N0, e0⟩, ⟨_, rfl⟩, hW, hsame.mono (by decide) (by decide)⟩
theorem ef38_III (m : MethodId) (x0 : Int32) (x1 : Int32) (x2 : Int32) : entryFrame m #[(.int x0), (.int x1), (.int x2)] 3 = mkF m 0 #[iV x0, iV x1, iV x2] [] := by first | (simp [entryFrame, mkF, argsToLocals, Value.category]; done) | rfl
theorem d38_0 : decode jdk_42_method_36_code 0 = .ok (.iload_n 0, 1) := by decide +kernel
theorem d38_1 : decode jdk_42_method_36_code 1 = .ok (.bipush 12, 2) := by decide +kernel
theorem d38_3 : decode jdk_42_method_36_code 3 = .ok (.ishl, 1) := by decide +kernel
theorem d38_4 : decode jdk_42_method_36_code 4 = .ok (.iload_n 1, 1) := by decide +kernel
theorem d38_5 : decode jdk_42_method_36_code 5 = .ok (.bipush 6, 2) := by decide +kernel
theorem d38_7 : decode jdk_42_method_36_code 7 = .ok (.ishl, 1) := by decide +kernel
theorem d38_8 : decode jdk_42_method_36_code 8 = .ok (.ixor, 1) := by decide +kernel
theorem d38_9 : decode jdk_42_method_36_code 9 = .ok (.iload_n 2, 1) := by decide +kernel
theorem d38_10 : decode jdk_42_method_36_code 10 = .ok (.ldc_w 383, 3) := by decide +kernel
theorem d38_13 : decode jdk_42_method_36_code 13 = .ok (.ixor, 1) := by decide +kernel
theorem d38_14 : decode jdk_42_method_36_code 14 = .ok (.ixor, 1) := by decide +kernel
theorem d38_15 : decode jdk_42_method_36_code 15 = .ok (.i2c, 1) := by decide +kernel
theorem d38_16 : decode jdk_42_method_36_code 16 = .ok (.ireturn, 1) := by decide +kernel
def Q_dec3_ (Z : State) (b1 : Int32) (b2 : Int32) (b3 : Int32) (r : Int32) (h0 : Heap) (n0 : Nat) (rv_ : Option Value) (rh_ : Heap) (rL_ : List Loc) : Prop := (rv_ = some (.int r)) ∧ (Fr n0 rL_) ∧ (rh_ = h0)
set_option maxRecDepth 65536 in
set_option maxHeartbeats 40000000 in
theorem dec3_ (l : Launch) (Z : State) (a0 : Array Value) (hw : HW Z a0) (ws : List Jvm.Cond) (b1 : Int32) (b2 : Int32) (b3 : Int32) (r : Int32) (h0 : Heap) (n0 : Nat) (O0 : Old Z n0 h0) (P0 : d3 b1 b2 b3 = r) :
    MetQ l yM11 (Jvm.Cond.code yM11 jdk_42_method_36_code 3 (some .char)) ws (rM 0 0 0 0) Z #[(.int b1), (.int b2), (.int b3)] h0 (Q_dec3_ Z b1 b2 b3 r h0 n0) := by
  have hret := P0
  refine metQ (plainFor_of_name pn_47582652) hisR (fun m => ef38_III m b1 b2 b3) ?_
  intro p e s m below meth c s₁ P Bd hx hby hml hZ hown hnm X0 e0 hP R0
  have N0 := Fr.nil n0
  have R130 : Go p e below P s₁ (mkF m 16 #[iV b1, iV b2, iV b3] [(.int ((((b1 <<< ((12 : Int32) &&& 31)) ^^^ (b2 <<< ((6 : Int32) &&& 31))) ^^^ (b3 ^^^ (-123008 : Int32))).toUInt32.toUInt16.toUInt32.toInt32))]) := fun t_ k_ => R0 t_ (XS.iloadN X0.here hx rfl (hb hby d38_0) rfl (XS.bipush X0.here hx rfl (hb hby d38_1) (XS.ishl X0.here hx rfl (hb hby d38_3) rfl (XS.iloadN X0.here hx rfl (hb hby d38_4) rfl (XS.bipush X0.here hx rfl (hb hby d38_5) (XS.ishl X0.here hx rfl (hb hby d38_7) rfl (XS.ixor X0.here hx rfl (hb hby d38_8) rfl (XS.iloadN X0.here hx rfl (hb hby d38_9) rfl (apS (X0.ldcWInt hx hown (mvT hZ (hwI hw 180 rfl)) rfl (hb hby d38_10)) (XS.ixor X0.here hx rfl (hb hby d38_13) rfl (XS.ixor X0.here hx rfl (hb hby d38_14) rfl (XS.i2c X0.here hx rfl (hb hby d38_15) rfl k_))))))))))))
  obtain ⟨fs, hr, hrun, hended, hW, hsame⟩ := X0.leave (v := some (.int (nar .char ((((b1 <<< ((12 : Int32) &&& 31)) ^^^ (b2 <<< ((6 : Int32) &&& 31))) ^^^ (b3 ^^^ (-123008 : Int32))).toUInt32.toUInt16.toUInt32.toInt32)))) (fun h => by rw [Bd.returns] at h; cases h)
  exact ⟨_, _, hP _ (R130 _ (retN X0 hx (t := .char) Bd.returns (by simp) (hb hby d38_16) hr)), hrun, hended, _, _, rfl, ⟨(congrArg (fun z_ => some (Value.int z_)) hret), N0, e0⟩, ⟨_, rfl⟩, hW, hsame.mono (by decide) (by decide)⟩
theorem ef28_IIII (m : MethodId) (x0 : Int32) (x1 : Int32) (x2 : Int32) (x3 : Int32) : entryFrame m #[(.int x0), (.int x1), (.int x2), (.int x3)] 4 = mkF m 0 #[iV x0, iV x1, iV x2, iV x3] [] := by first | (simp [entryFrame, mkF, argsToLocals, Value.category]; done) | rfl
theorem d28_0 : decode jdk_42_method_37_code 0 = .ok (.iload_n 0, 1) := by decide +kernel
theorem d28_1 : decode jdk_42_method_37_code 1 = .ok (.bipush 18, 2) := by decide +kernel
theorem d28_3 : decode jdk_42_method_37_code 3 = .ok (.ishl, 1) := by decide +kernel
theorem d28_4 : decode jdk_42_method_37_code 4 = .ok (.iload_n 1, 1) := by decide +kernel
theorem d28_5 : decode jdk_42_method_37_code 5 = .ok (.bipush 12, 2) := by decide +kernel
theorem d28_7 : decode jdk_42_method_37_code 7 = .ok (.ishl, 1) := by decide +kernel
theorem d28_8 : decode jdk_42_method_37_code 8 = .ok (.ixor, 1) := by decide +kernel
theorem d28_9 : decode jdk_42_method_37_code 9 = .ok (.iload_n 2, 1) := by decide +kernel
theorem d28_10 : decode jdk_42_method_37_code 10 = .ok (.bipush 6, 2) := by decide +kernel
theorem d28_12 : decode jdk_42_method_37_code 12 = .ok (.ishl, 1) := by decide +kernel
theorem d28_13 : decode jdk_42_method_37_code 13 = .ok (.ixor, 1) := by decide +kernel
theorem d28_14 : decode jdk_42_method_37_code 14 = .ok (.iload_n 3, 1) := by decide +kernel
theorem d28_15 : decode jdk_42_method_37_code 15 = .ok (.ldc_w 384, 3) := by decide +kernel
theorem d28_18 : decode jdk_42_method_37_code 18 = .ok (.ixor, 1) := by decide +kernel
theorem d28_19 : decode jdk_42_method_37_code 19 = .ok (.ixor, 1) := by decide +kernel
theorem d28_20 : decode jdk_42_method_37_code 20 = .ok (.ireturn, 1) := by decide +kernel
def Q_dec4_ (Z : State) (b1 : Int32) (b2 : Int32) (b3 : Int32) (b4 : Int32) (r : Int32) (h0 : Heap) (n0 : Nat) (rv_ : Option Value) (rh_ : Heap) (rL_ : List Loc) : Prop := (rv_ = some (.int r)) ∧ (Fr n0 rL_) ∧ (rh_ = h0)
set_option maxRecDepth 65536 in
set_option maxHeartbeats 40000000 in
theorem dec4_ (l : Launch) (Z : State) (a0 : Array Value) (hw : HW Z a0) (ws : List Jvm.Cond) (b1 : Int32) (b2 : Int32) (b3 : Int32) (b4 : Int32) (r : Int32) (h0 : Heap) (n0 : Nat) (O0 : Old Z n0 h0) (P0 : d4 b1 b2 b3 b4 = r) :
    MetQ l yM12 (Jvm.Cond.code yM12 jdk_42_method_37_code 4 (some .int)) ws (rM 0 0 0 0) Z #[(.int b1), (.int b2), (.int b3), (.int b4)] h0 (Q_dec4_ Z b1 b2 b3 b4 r h0 n0) := by
  have hret := P0
  refine metQ (plainFor_of_name pn_47582652) hisR (fun m => ef28_IIII m b1 b2 b3 b4) ?_
  intro p e s m below meth c s₁ P Bd hx hby hml hZ hown hnm X0 e0 hP R0
  have N0 := Fr.nil n0
  have R131 : Go p e below P s₁ (mkF m 15 #[iV b1, iV b2, iV b3, iV b4] [(.int b4), (.int (((b1 <<< ((18 : Int32) &&& 31)) ^^^ (b2 <<< ((12 : Int32) &&& 31))) ^^^ (b3 <<< ((6 : Int32) &&& 31))))]) := fun t_ k_ => R0 t_ (XS.iloadN X0.here hx rfl (hb hby d28_0) rfl (XS.bipush X0.here hx rfl (hb hby d28_1) (XS.ishl X0.here hx rfl (hb hby d28_3) rfl (XS.iloadN X0.here hx rfl (hb hby d28_4) rfl (XS.bipush X0.here hx rfl (hb hby d28_5) (XS.ishl X0.here hx rfl (hb hby d28_7) rfl (XS.ixor X0.here hx rfl (hb hby d28_8) rfl (XS.iloadN X0.here hx rfl (hb hby d28_9) rfl (XS.bipush X0.here hx rfl (hb hby d28_10) (XS.ishl X0.here hx rfl (hb hby d28_12) rfl (XS.ixor X0.here hx rfl (hb hby d28_13) rfl (XS.iloadN X0.here hx rfl (hb hby d28_14) rfl k_))))))))))))
  have R132 : Go p e below P s₁ (mkF m 20 #[iV b1, iV b2, iV b3, iV b4] [(.int ((((b1 <<< ((18 : Int32) &&& 31)) ^^^ (b2 <<< ((12 : Int32) &&& 31))) ^^^ (b3 <<< ((6 : Int32) &&& 31))) ^^^ (b4 ^^^ (3678080 : Int32))))]) := fun t_ k_ => R131 t_ (apS (X0.ldcWInt hx hown (mvT hZ (hwI hw 138 rfl)) rfl (hb hby d28_15)) (XS.ixor X0.here hx rfl (hb hby d28_18) rfl (XS.ixor X0.here hx rfl (hb hby d28_19) rfl k_)))
  obtain ⟨fs, hr, hrun, hended, hW, hsame⟩ := X0.leave (v := some (.int ((((b1 <<< ((18 : Int32) &&& 31)) ^^^ (b2 <<< ((12 : Int32) &&& 31))) ^^^ (b3 <<< ((6 : Int32) &&& 31))) ^^^ (b4 ^^^ (3678080 : Int32))))) (fun h => by rw [Bd.returns] at h; cases h)
  exact ⟨_, _, hP _ (R132 _ (retI X0 hx Bd.returns (hb hby d28_20) hr)), hrun, hended, _, _, rfl, ⟨(congrArg (fun z_ => some (Value.int z_)) hret), N0, e0⟩, ⟨_, rfl⟩, hW, hsame.mono (by decide) (by decide)⟩
theorem pn_50343310 : plainName "java/lang/Character" = true := by first | (simp [plainName, overriddenIn]; done) | decide +kernel
theorem ef31_I (m : MethodId) (x0 : Int32) : entryFrame m #[(.int x0)] 1 = mkF m 0 #[iV x0] [] := by first | (simp [entryFrame, mkF, argsToLocals, Value.category]; done) | rfl
theorem d31_0 : decode jdk_89_method_28_code 0 = .ok (.iload_n 0, 1) := by decide +kernel
theorem d31_1 : decode jdk_89_method_28_code 1 = .ok (.bipush 10, 2) := by decide +kernel
theorem d31_3 : decode jdk_89_method_28_code 3 = .ok (.iushr, 1) := by decide +kernel
theorem d31_4 : decode jdk_89_method_28_code 4 = .ok (.ldc 110, 2) := by decide +kernel
theorem d31_6 : decode jdk_89_method_28_code 6 = .ok (.iadd, 1) := by decide +kernel
theorem d31_7 : decode jdk_89_method_28_code 7 = .ok (.i2c, 1) := by decide +kernel
theorem d31_8 : decode jdk_89_method_28_code 8 = .ok (.ireturn, 1) := by decide +kernel
def Q_hiS_ (Z : State) (x : Int32) (r : Int32) (h0 : Heap) (n0 : Nat) (rv_ : Option Value) (rh_ : Heap) (rL_ : List Loc) : Prop := (rv_ = some (.int r)) ∧ (Fr n0 rL_) ∧ (rh_ = h0)
set_option maxRecDepth 65536 in
set_option maxHeartbeats 40000000 in
theorem hiS_ (l : Launch) (Z : State) (a0 : Array Value) (hw : HW Z a0) (ws : List Jvm.Cond) (x : Int32) (r : Int32) (h0 : Heap) (n0 : Nat) (O0 : Old Z n0 h0) (P0 : hiS x = r) :
    MetQ l yM13 (Jvm.Cond.code yM13 jdk_89_method_28_code 1 (some .char)) ws (rM 0 0 0 0) Z #[(.int x)] h0 (Q_hiS_ Z x r h0 n0) := by
  have hret := P0
  refine metQ (plainFor_of_name pn_50343310) hisR (fun m => ef31_I m x) ?_
  intro p e s m below meth c s₁ P Bd hx hby hml hZ hown hnm X0 e0 hP R0
  have N0 := Fr.nil n0
  have R133 : Go p e below P s₁ (mkF m 8 #[iV x] [(.int ((((x.toUInt32 >>> ((10 : Int32) &&& 31).toUInt32).toInt32) + (55232 : Int32)).toUInt32.toUInt16.toUInt32.toInt32))]) := fun t_ k_ => R0 t_ (XS.iloadN X0.here hx rfl (hb hby d31_0) rfl (XS.bipush X0.here hx rfl (hb hby d31_1) (XS.iushr X0.here hx rfl (hb hby d31_3) rfl (apS (X0.ldcInt hx hown (mvT hZ (hwI hw 151 rfl)) rfl (hb hby d31_4)) (XS.iadd X0.here hx rfl (hb hby d31_6) rfl (XS.i2c X0.here hx rfl (hb hby d31_7) rfl k_))))))
  obtain ⟨fs, hr, hrun, hended, hW, hsame⟩ := X0.leave (v := some (.int (nar .char ((((x.toUInt32 >>> ((10 : Int32) &&& 31).toUInt32).toInt32) + (55232 : Int32)).toUInt32.toUInt16.toUInt32.toInt32)))) (fun h => by rw [Bd.returns] at h; cases h)
  exact ⟨_, _, hP _ (R133 _ (retN X0 hx (t := .char) Bd.returns (by simp) (hb hby d31_8) hr)), hrun, hended, _, _, rfl, ⟨(congrArg (fun z_ => some (Value.int z_)) hret), N0, e0⟩, ⟨_, rfl⟩, hW, hsame.mono (by decide) (by decide)⟩
theorem ef32_I (m : MethodId) (x0 : Int32) : entryFrame m #[(.int x0)] 1 = mkF m 0 #[iV x0] [] := by first | (simp [entryFrame, mkF, argsToLocals, Value.category]; done) | rfl
theorem d32_0 : decode jdk_89_method_29_code 0 = .ok (.iload_n 0, 1) := by decide +kernel
theorem d32_1 : decode jdk_89_method_29_code 1 = .ok (.sipush 1023, 3) := by decide +kernel
theorem d32_4 : decode jdk_89_method_29_code 4 = .ok (.iand, 1) := by decide +kernel
theorem d32_5 : decode jdk_89_method_29_code 5 = .ok (.ldc 76, 2) := by decide +kernel
theorem d32_7 : decode jdk_89_method_29_code 7 = .ok (.iadd, 1) := by decide +kernel
theorem d32_8 : decode jdk_89_method_29_code 8 = .ok (.i2c, 1) := by decide +kernel
theorem d32_9 : decode jdk_89_method_29_code 9 = .ok (.ireturn, 1) := by decide +kernel
def Q_loS_ (Z : State) (x : Int32) (r : Int32) (h0 : Heap) (n0 : Nat) (rv_ : Option Value) (rh_ : Heap) (rL_ : List Loc) : Prop := (rv_ = some (.int r)) ∧ (Fr n0 rL_) ∧ (rh_ = h0)
set_option maxRecDepth 65536 in
set_option maxHeartbeats 40000000 in
theorem loS_ (l : Launch) (Z : State) (a0 : Array Value) (hw : HW Z a0) (ws : List Jvm.Cond) (x : Int32) (r : Int32) (h0 : Heap) (n0 : Nat) (O0 : Old Z n0 h0) (P0 : loS x = r) :
    MetQ l yM14 (Jvm.Cond.code yM14 jdk_89_method_29_code 1 (some .char)) ws (rM 0 0 0 0) Z #[(.int x)] h0 (Q_loS_ Z x r h0 n0) := by
  have hret := P0
  refine metQ (plainFor_of_name pn_50343310) hisR (fun m => ef32_I m x) ?_
  intro p e s m below meth c s₁ P Bd hx hby hml hZ hown hnm X0 e0 hP R0
  have N0 := Fr.nil n0
  have R134 : Go p e below P s₁ (mkF m 9 #[iV x] [(.int (((x &&& (1023 : Int32)) + (56320 : Int32)).toUInt32.toUInt16.toUInt32.toInt32))]) := fun t_ k_ => R0 t_ (XS.iloadN X0.here hx rfl (hb hby d32_0) rfl (XS.sipush X0.here hx rfl (hb hby d32_1) (XS.iand X0.here hx rfl (hb hby d32_4) rfl (apS (X0.ldcInt hx hown (mvT hZ (hwI hw 155 rfl)) rfl (hb hby d32_5)) (XS.iadd X0.here hx rfl (hb hby d32_7) rfl (XS.i2c X0.here hx rfl (hb hby d32_8) rfl k_))))))
  obtain ⟨fs, hr, hrun, hended, hW, hsame⟩ := X0.leave (v := some (.int (nar .char (((x &&& (1023 : Int32)) + (56320 : Int32)).toUInt32.toUInt16.toUInt32.toInt32)))) (fun h => by rw [Bd.returns] at h; cases h)
  exact ⟨_, _, hP _ (R134 _ (retN X0 hx (t := .char) Bd.returns (by simp) (hb hby d32_9) hr)), hrun, hended, _, _, rfl, ⟨(congrArg (fun z_ => some (Value.int z_)) hret), N0, e0⟩, ⟨_, rfl⟩, hW, hsame.mono (by decide) (by decide)⟩
theorem ef35_I (m : MethodId) (x0 : Int32) : entryFrame m #[(.int x0)] 1 = mkF m 0 #[iV x0] [] := by first | (simp [entryFrame, mkF, argsToLocals, Value.category]; done) | rfl
theorem d35_0 : decode jdk_42_method_29_code 0 = .ok (.iload_n 0, 1) := by decide +kernel
theorem d35_1 : decode jdk_42_method_29_code 1 = .ok (.sipush 192, 3) := by decide +kernel
theorem d35_4 : decode jdk_42_method_29_code 4 = .ok (.iand, 1) := by decide +kernel
theorem d35_5 : decode jdk_42_method_29_code 5 = .ok (.sipush 128, 3) := by decide +kernel
theorem d35_8 : decode jdk_42_method_29_code 8 = .ok (.if_icmp .eq 7, 3) := by decide +kernel
theorem d35_15 : decode jdk_42_method_29_code 15 = .ok (.iconst 0, 1) := by decide +kernel
theorem d35_16 : decode jdk_42_method_29_code 16 = .ok (.ireturn, 1) := by decide +kernel
def Q_notCont_ (Z : State) (b : Int32) (h0 : Heap) (n0 : Nat) (rv_ : Option Value) (rh_ : Heap) (rL_ : List Loc) : Prop := (rv_ = some (.int 0)) ∧ (Fr n0 rL_) ∧ (rh_ = h0)
set_option maxRecDepth 65536 in
set_option maxHeartbeats 40000000 in
theorem notCont_ (l : Launch) (Z : State) (a0 : Array Value) (hw : HW Z a0) (ws : List Jvm.Cond) (b : Int32) (h0 : Heap) (n0 : Nat) (O0 : Old Z n0 h0) (P0 : (b &&& (192 : Int32)) = (128 : Int32)) :
    MetQ l yM15 (Jvm.Cond.code yM15 jdk_42_method_29_code 1 (some .boolean)) ws (rM 0 0 0 0) Z #[(.int b)] h0 (Q_notCont_ Z b h0 n0) := by
  refine metQ (plainFor_of_name pn_47582652) hisR (fun m => ef35_I m b) ?_
  intro p e s m below meth c s₁ P Bd hx hby hml hZ hown hnm X0 e0 hP R0
  have N0 := Fr.nil n0
  have R135 : Go p e below P s₁ (mkF m 16 #[iV b] [(.int 0)]) := fun t_ k_ => R0 t_ (XS.iloadN X0.here hx rfl (hb hby d35_0) rfl (XS.sipush X0.here hx rfl (hb hby d35_1) (XS.iand X0.here hx rfl (hb hby d35_4) rfl (XS.sipush X0.here hx rfl (hb hby d35_5) (XS.icmpYes X0.here hx rfl (pc0 := 8) (pc' := 15) rfl (hb hby d35_8) rfl (teq P0).1 (by decide) (by decide) (XS.iconst X0.here hx rfl (hb hby d35_15) k_))))))
  obtain ⟨fs, hr, hrun, hended, hW, hsame⟩ := X0.leave (v := some (.int (nar .boolean (0 : Int32)))) (fun h => by rw [Bd.returns] at h; cases h)
  exact ⟨_, _, hP _ (R135 _ (retN X0 hx (t := .boolean) Bd.returns (by simp) (hb hby d35_16) hr)), hrun, hended, _, _, rfl, ⟨rfl, N0, e0⟩, ⟨_, rfl⟩, hW, hsame.mono (by decide) (by decide)⟩
theorem ef37_III (m : MethodId) (x0 : Int32) (x1 : Int32) (x2 : Int32) : entryFrame m #[(.int x0), (.int x1), (.int x2)] 3 = mkF m 0 #[iV x0, iV x1, iV x2] [] := by first | (simp [entryFrame, mkF, argsToLocals, Value.category]; done) | rfl
theorem d37_0 : decode jdk_42_method_30_code 0 = .ok (.iload_n 0, 1) := by decide +kernel
theorem d37_1 : decode jdk_42_method_30_code 1 = .ok (.bipush (-32), 2) := by decide +kernel
theorem d37_3 : decode jdk_42_method_30_code 3 = .ok (.if_icmp .ne 14, 3) := by decide +kernel
theorem d37_6 : decode jdk_42_method_30_code 6 = .ok (.iload_n 1, 1) := by decide +kernel
theorem d37_7 : decode jdk_42_method_30_code 7 = .ok (.sipush 224, 3) := by decide +kernel
theorem d37_10 : decode jdk_42_method_30_code 10 = .ok (.iand, 1) := by decide +kernel
theorem d37_11 : decode jdk_42_method_30_code 11 = .ok (.sipush 128, 3) := by decide +kernel
theorem d37_14 : decode jdk_42_method_30_code 14 = .ok (.if_icmp .eq 25, 3) := by decide +kernel
theorem d37_17 : decode jdk_42_method_30_code 17 = .ok (.iload_n 1, 1) := by decide +kernel
theorem d37_18 : decode jdk_42_method_30_code 18 = .ok (.sipush 192, 3) := by decide +kernel
theorem d37_21 : decode jdk_42_method_30_code 21 = .ok (.iand, 1) := by decide +kernel
theorem d37_22 : decode jdk_42_method_30_code 22 = .ok (.sipush 128, 3) := by decide +kernel
theorem d37_25 : decode jdk_42_method_30_code 25 = .ok (.if_icmp .ne 14, 3) := by decide +kernel
theorem d37_28 : decode jdk_42_method_30_code 28 = .ok (.iload_n 2, 1) := by decide +kernel
theorem d37_29 : decode jdk_42_method_30_code 29 = .ok (.sipush 192, 3) := by decide +kernel
theorem d37_32 : decode jdk_42_method_30_code 32 = .ok (.iand, 1) := by decide +kernel
theorem d37_33 : decode jdk_42_method_30_code 33 = .ok (.sipush 128, 3) := by decide +kernel
theorem d37_36 : decode jdk_42_method_30_code 36 = .ok (.if_icmp .eq 7, 3) := by decide +kernel
theorem d37_43 : decode jdk_42_method_30_code 43 = .ok (.iconst 0, 1) := by decide +kernel
theorem d37_44 : decode jdk_42_method_30_code 44 = .ok (.ireturn, 1) := by decide +kernel
def Q_mal3_ (Z : State) (b1 : Int32) (b2 : Int32) (b3 : Int32) (h0 : Heap) (n0 : Nat) (rv_ : Option Value) (rh_ : Heap) (rL_ : List Loc) : Prop := (rv_ = some (.int 0)) ∧ (Fr n0 rL_) ∧ (rh_ = h0)
set_option maxRecDepth 65536 in
set_option maxHeartbeats 40000000 in
theorem mal3_ (l : Launch) (Z : State) (a0 : Array Value) (hw : HW Z a0) (ws : List Jvm.Cond) (b1 : Int32) (b2 : Int32) (b3 : Int32) (h0 : Heap) (n0 : Nat) (O0 : Old Z n0 h0) (P0 : (b2 &&& (192 : Int32)) = (128 : Int32)) (P1 : (b3 &&& (192 : Int32)) = (128 : Int32)) (P2 : b1 = (-32 : Int32) → ¬ (b2 &&& (224 : Int32)) = (128 : Int32)) :
    MetQ l yM16 (Jvm.Cond.code yM16 jdk_42_method_30_code 3 (some .boolean)) ws (rM 0 0 0 0) Z #[(.int b1), (.int b2), (.int b3)] h0 (Q_mal3_ Z b1 b2 b3 h0 n0) := by
  have hE := P2
  refine metQ (plainFor_of_name pn_47582652) hisR (fun m => ef37_III m b1 b2 b3) ?_
  intro p e s m below meth c s₁ P Bd hx hby hml hZ hown hnm X0 e0 hP R0
  have N0 := Fr.nil n0
  have R136 : Go p e below P s₁ (mkF m 3 #[iV b1, iV b2, iV b3] [(.int (-32)), (.int b1)]) := fun t_ k_ => R0 t_ (XS.iloadN X0.here hx rfl (hb hby d37_0) rfl (XS.bipush X0.here hx rfl (hb hby d37_1) k_))
  by_cases hc137 : b1 = (-32 : Int32)
  · have R138 : Go p e below P s₁ (mkF m 29 #[iV b1, iV b2, iV b3] [(.int b3)]) := fun t_ k_ => R136 t_ (XS.icmpNo X0.here hx rfl (hb hby d37_3) rfl (teq hc137).2 (XS.iloadN X0.here hx rfl (hb hby d37_6) rfl (XS.sipush X0.here hx rfl (hb hby d37_7) (XS.iand X0.here hx rfl (hb hby d37_10) rfl (XS.sipush X0.here hx rfl (hb hby d37_11) (XS.icmpNo X0.here hx rfl (hb hby d37_14) rfl (feq (hE hc137)).1 (XS.iloadN X0.here hx rfl (hb hby d37_17) rfl (XS.sipush X0.here hx rfl (hb hby d37_18) (XS.iand X0.here hx rfl (hb hby d37_21) rfl (XS.sipush X0.here hx rfl (hb hby d37_22) (XS.icmpNo X0.here hx rfl (hb hby d37_25) rfl (teq P0).2 (XS.iloadN X0.here hx rfl (hb hby d37_28) rfl k_))))))))))))
    have R139 : Go p e below P s₁ (mkF m 44 #[iV b1, iV b2, iV b3] [(.int 0)]) := fun t_ k_ => R138 t_ (XS.sipush X0.here hx rfl (hb hby d37_29) (XS.iand X0.here hx rfl (hb hby d37_32) rfl (XS.sipush X0.here hx rfl (hb hby d37_33) (XS.icmpYes X0.here hx rfl (pc0 := 36) (pc' := 43) rfl (hb hby d37_36) rfl (teq P1).1 (by decide) (by decide) (XS.iconst X0.here hx rfl (hb hby d37_43) k_)))))
    obtain ⟨fs, hr, hrun, hended, hW, hsame⟩ := X0.leave (v := some (.int (nar .boolean (0 : Int32)))) (fun h => by rw [Bd.returns] at h; cases h)
    exact ⟨_, _, hP _ (R139 _ (retN X0 hx (t := .boolean) Bd.returns (by simp) (hb hby d37_44) hr)), hrun, hended, _, _, rfl, ⟨rfl, N0, e0⟩, ⟨_, rfl⟩, hW, hsame.mono (by decide) (by decide)⟩
  · have R140 : Go p e below P s₁ (mkF m 44 #[iV b1, iV b2, iV b3] [(.int 0)]) := fun t_ k_ => R136 t_ (XS.icmpYes X0.here hx rfl (pc0 := 3) (pc' := 17) rfl (hb hby d37_3) rfl (feq hc137).2 (by decide) (by decide) (XS.iloadN X0.here hx rfl (hb hby d37_17) rfl (XS.sipush X0.here hx rfl (hb hby d37_18) (XS.iand X0.here hx rfl (hb hby d37_21) rfl (XS.sipush X0.here hx rfl (hb hby d37_22) (XS.icmpNo X0.here hx rfl (hb hby d37_25) rfl (teq P0).2 (XS.iloadN X0.here hx rfl (hb hby d37_28) rfl (XS.sipush X0.here hx rfl (hb hby d37_29) (XS.iand X0.here hx rfl (hb hby d37_32) rfl (XS.sipush X0.here hx rfl (hb hby d37_33) (XS.icmpYes X0.here hx rfl (pc0 := 36) (pc' := 43) rfl (hb hby d37_36) rfl (teq P1).1 (by decide) (by decide) (XS.iconst X0.here hx rfl (hb hby d37_43) k_))))))))))))
    obtain ⟨fs, hr, hrun, hended, hW, hsame⟩ := X0.leave (v := some (.int (nar .boolean (0 : Int32)))) (fun h => by rw [Bd.returns] at h; cases h)
    exact ⟨_, _, hP _ (R140 _ (retN X0 hx (t := .boolean) Bd.returns (by simp) (hb hby d37_44) hr)), hrun, hended, _, _, rfl, ⟨rfl, N0, e0⟩, ⟨_, rfl⟩, hW, hsame.mono (by decide) (by decide)⟩
theorem ef29_III (m : MethodId) (x0 : Int32) (x1 : Int32) (x2 : Int32) : entryFrame m #[(.int x0), (.int x1), (.int x2)] 3 = mkF m 0 #[iV x0, iV x1, iV x2] [] := by first | (simp [entryFrame, mkF, argsToLocals, Value.category]; done) | rfl
theorem d29_0 : decode jdk_42_method_32_code 0 = .ok (.iload_n 0, 1) := by decide +kernel
theorem d29_1 : decode jdk_42_method_32_code 1 = .ok (.sipush 192, 3) := by decide +kernel
theorem d29_4 : decode jdk_42_method_32_code 4 = .ok (.iand, 1) := by decide +kernel
theorem d29_5 : decode jdk_42_method_32_code 5 = .ok (.sipush 128, 3) := by decide +kernel
theorem d29_8 : decode jdk_42_method_32_code 8 = .ok (.if_icmp .ne 25, 3) := by decide +kernel
theorem d29_11 : decode jdk_42_method_32_code 11 = .ok (.iload_n 1, 1) := by decide +kernel
theorem d29_12 : decode jdk_42_method_32_code 12 = .ok (.sipush 192, 3) := by decide +kernel
theorem d29_15 : decode jdk_42_method_32_code 15 = .ok (.iand, 1) := by decide +kernel
theorem d29_16 : decode jdk_42_method_32_code 16 = .ok (.sipush 128, 3) := by decide +kernel
theorem d29_19 : decode jdk_42_method_32_code 19 = .ok (.if_icmp .ne 14, 3) := by decide +kernel
theorem d29_22 : decode jdk_42_method_32_code 22 = .ok (.iload_n 2, 1) := by decide +kernel
theorem d29_23 : decode jdk_42_method_32_code 23 = .ok (.sipush 192, 3) := by decide +kernel
theorem d29_26 : decode jdk_42_method_32_code 26 = .ok (.iand, 1) := by decide +kernel
theorem d29_27 : decode jdk_42_method_32_code 27 = .ok (.sipush 128, 3) := by decide +kernel
theorem d29_30 : decode jdk_42_method_32_code 30 = .ok (.if_icmp .eq 7, 3) := by decide +kernel
theorem d29_37 : decode jdk_42_method_32_code 37 = .ok (.iconst 0, 1) := by decide +kernel
theorem d29_38 : decode jdk_42_method_32_code 38 = .ok (.ireturn, 1) := by decide +kernel
def Q_mal4_ (Z : State) (b1 : Int32) (b2 : Int32) (b3 : Int32) (h0 : Heap) (n0 : Nat) (rv_ : Option Value) (rh_ : Heap) (rL_ : List Loc) : Prop := (rv_ = some (.int 0)) ∧ (Fr n0 rL_) ∧ (rh_ = h0)
set_option maxRecDepth 65536 in
set_option maxHeartbeats 40000000 in
theorem mal4_ (l : Launch) (Z : State) (a0 : Array Value) (hw : HW Z a0) (ws : List Jvm.Cond) (b1 : Int32) (b2 : Int32) (b3 : Int32) (h0 : Heap) (n0 : Nat) (O0 : Old Z n0 h0) (P0 : (b1 &&& (192 : Int32)) = (128 : Int32)) (P1 : (b2 &&& (192 : Int32)) = (128 : Int32)) (P2 : (b3 &&& (192 : Int32)) = (128 : Int32)) :
    MetQ l yM17 (Jvm.Cond.code yM17 jdk_42_method_32_code 3 (some .boolean)) ws (rM 0 0 0 0) Z #[(.int b1), (.int b2), (.int b3)] h0 (Q_mal4_ Z b1 b2 b3 h0 n0) := by
  refine metQ (plainFor_of_name pn_47582652) hisR (fun m => ef29_III m b1 b2 b3) ?_
  intro p e s m below meth c s₁ P Bd hx hby hml hZ hown hnm X0 e0 hP R0
  have N0 := Fr.nil n0
  have R141 : Go p e below P s₁ (mkF m 26 #[iV b1, iV b2, iV b3] [(.int 192), (.int b3)]) := fun t_ k_ => R0 t_ (XS.iloadN X0.here hx rfl (hb hby d29_0) rfl (XS.sipush X0.here hx rfl (hb hby d29_1) (XS.iand X0.here hx rfl (hb hby d29_4) rfl (XS.sipush X0.here hx rfl (hb hby d29_5) (XS.icmpNo X0.here hx rfl (hb hby d29_8) rfl (teq P0).2 (XS.iloadN X0.here hx rfl (hb hby d29_11) rfl (XS.sipush X0.here hx rfl (hb hby d29_12) (XS.iand X0.here hx rfl (hb hby d29_15) rfl (XS.sipush X0.here hx rfl (hb hby d29_16) (XS.icmpNo X0.here hx rfl (hb hby d29_19) rfl (teq P1).2 (XS.iloadN X0.here hx rfl (hb hby d29_22) rfl (XS.sipush X0.here hx rfl (hb hby d29_23) k_))))))))))))
  have R142 : Go p e below P s₁ (mkF m 38 #[iV b1, iV b2, iV b3] [(.int 0)]) := fun t_ k_ => R141 t_ (XS.iand X0.here hx rfl (hb hby d29_26) rfl (XS.sipush X0.here hx rfl (hb hby d29_27) (XS.icmpYes X0.here hx rfl (pc0 := 30) (pc' := 37) rfl (hb hby d29_30) rfl (teq P2).1 (by decide) (by decide) (XS.iconst X0.here hx rfl (hb hby d29_37) k_))))
  obtain ⟨fs, hr, hrun, hended, hW, hsame⟩ := X0.leave (v := some (.int (nar .boolean (0 : Int32)))) (fun h => by rw [Bd.returns] at h; cases h)
  exact ⟨_, _, hP _ (R142 _ (retN X0 hx (t := .boolean) Bd.returns (by simp) (hb hby d29_38) hr)), hrun, hended, _, _, rfl, ⟨rfl, N0, e0⟩, ⟨_, rfl⟩, hW, hsame.mono (by decide) (by decide)⟩
theorem ef39_I (m : MethodId) (x0 : Int32) : entryFrame m #[(.int x0)] 1 = mkF m 0 #[iV x0] [] := by first | (simp [entryFrame, mkF, argsToLocals, Value.category]; done) | rfl
theorem d39_0 : decode jdk_89_method_16_code 0 = .ok (.iload_n 0, 1) := by decide +kernel
theorem d39_1 : decode jdk_89_method_16_code 1 = .ok (.ldc 75, 2) := by decide +kernel
theorem d39_3 : decode jdk_89_method_16_code 3 = .ok (.if_icmp .lt 13, 3) := by decide +kernel
theorem d39_16 : decode jdk_89_method_16_code 16 = .ok (.iconst 0, 1) := by decide +kernel
theorem d39_17 : decode jdk_89_method_16_code 17 = .ok (.ireturn, 1) := by decide +kernel
theorem d39_6 : decode jdk_89_method_16_code 6 = .ok (.iload_n 0, 1) := by decide +kernel
theorem d39_7 : decode jdk_89_method_16_code 7 = .ok (.ldc 77, 2) := by decide +kernel
theorem d39_9 : decode jdk_89_method_16_code 9 = .ok (.if_icmp .ge 7, 3) := by decide +kernel
def Q_isSur_ (Z : State) (x : Int32) (h0 : Heap) (n0 : Nat) (rv_ : Option Value) (rh_ : Heap) (rL_ : List Loc) : Prop := (rv_ = some (.int 0)) ∧ (Fr n0 rL_) ∧ (rh_ = h0)
set_option maxRecDepth 65536 in
set_option maxHeartbeats 40000000 in
theorem isSur_ (l : Launch) (Z : State) (a0 : Array Value) (hw : HW Z a0) (ws : List Jvm.Cond) (x : Int32) (h0 : Heap) (n0 : Nat) (O0 : Old Z n0 h0) (P0 : x < (55296 : Int32) ∨ ¬ x < (57344 : Int32)) :
    MetQ l yM18 (Jvm.Cond.code yM18 jdk_89_method_16_code 1 (some .boolean)) ws (rM 0 0 0 0) Z #[(.int x)] h0 (Q_isSur_ Z x h0 n0) := by
  have hns := P0
  refine metQ (plainFor_of_name pn_50343310) hisR (fun m => ef39_I m x) ?_
  intro p e s m below meth c s₁ P Bd hx hby hml hZ hown hnm X0 e0 hP R0
  have N0 := Fr.nil n0
  have R143 : Go p e below P s₁ (mkF m 3 #[iV x] [(.int 55296), (.int x)]) := fun t_ k_ => R0 t_ (XS.iloadN X0.here hx rfl (hb hby d39_0) rfl (apS (X0.ldcInt hx hown (mvT hZ (hwI hw 184 rfl)) rfl (hb hby d39_1)) k_))
  by_cases hc144 : x < (55296 : Int32)
  · have R145 : Go p e below P s₁ (mkF m 17 #[iV x] [(.int 0)]) := fun t_ k_ => R143 t_ (XS.icmpYes X0.here hx rfl (pc0 := 3) (pc' := 16) rfl (hb hby d39_3) rfl (tlt hc144).1 (by decide) (by decide) (XS.iconst X0.here hx rfl (hb hby d39_16) k_))
    obtain ⟨fs, hr, hrun, hended, hW, hsame⟩ := X0.leave (v := some (.int (nar .boolean (0 : Int32)))) (fun h => by rw [Bd.returns] at h; cases h)
    exact ⟨_, _, hP _ (R145 _ (retN X0 hx (t := .boolean) Bd.returns (by simp) (hb hby d39_17) hr)), hrun, hended, _, _, rfl, ⟨rfl, N0, e0⟩, ⟨_, rfl⟩, hW, hsame.mono (by decide) (by decide)⟩
  · have R146 : Go p e below P s₁ (mkF m 17 #[iV x] [(.int 0)]) := fun t_ k_ => R143 t_ (XS.icmpNo X0.here hx rfl (hb hby d39_3) rfl (flt hc144).1 (XS.iloadN X0.here hx rfl (hb hby d39_6) rfl (apS (X0.ldcInt hx hown (mvT hZ (hwI hw 185 rfl)) rfl (hb hby d39_7)) (XS.icmpYes X0.here hx rfl (pc0 := 9) (pc' := 16) rfl (hb hby d39_9) rfl (flt (hns.resolve_left hc144)).2.1 (by decide) (by decide) (XS.iconst X0.here hx rfl (hb hby d39_16) k_)))))
    obtain ⟨fs, hr, hrun, hended, hW, hsame⟩ := X0.leave (v := some (.int (nar .boolean (0 : Int32)))) (fun h => by rw [Bd.returns] at h; cases h)
    exact ⟨_, _, hP _ (R146 _ (retN X0 hx (t := .boolean) Bd.returns (by simp) (hb hby d39_17) hr)), hrun, hended, _, _, rfl, ⟨rfl, N0, e0⟩, ⟨_, rfl⟩, hW, hsame.mono (by decide) (by decide)⟩
theorem ef30_I (m : MethodId) (x0 : Int32) : entryFrame m #[(.int x0)] 1 = mkF m 0 #[iV x0] [] := by first | (simp [entryFrame, mkF, argsToLocals, Value.category]; done) | rfl
theorem d30_0 : decode jdk_89_method_13_code 0 = .ok (.iload_n 0, 1) := by decide +kernel
theorem d30_1 : decode jdk_89_method_13_code 1 = .ok (.ldc 73, 2) := by decide +kernel
theorem d30_3 : decode jdk_89_method_13_code 3 = .ok (.if_icmp .lt 13, 3) := by decide +kernel
theorem d30_6 : decode jdk_89_method_13_code 6 = .ok (.iload_n 0, 1) := by decide +kernel
theorem d30_7 : decode jdk_89_method_13_code 7 = .ok (.ldc 74, 2) := by decide +kernel
theorem d30_9 : decode jdk_89_method_13_code 9 = .ok (.if_icmp .ge 7, 3) := by decide +kernel
theorem d30_12 : decode jdk_89_method_13_code 12 = .ok (.iconst 1, 1) := by decide +kernel
theorem d30_13 : decode jdk_89_method_13_code 13 = .ok (.goto 4, 3) := by decide +kernel
theorem d30_17 : decode jdk_89_method_13_code 17 = .ok (.ireturn, 1) := by decide +kernel
def Q_isSup_ (Z : State) (x : Int32) (h0 : Heap) (n0 : Nat) (rv_ : Option Value) (rh_ : Heap) (rL_ : List Loc) : Prop := (rv_ = some (.int 1)) ∧ (Fr n0 rL_) ∧ (rh_ = h0)
set_option maxRecDepth 65536 in
set_option maxHeartbeats 40000000 in
theorem isSup_ (l : Launch) (Z : State) (a0 : Array Value) (hw : HW Z a0) (ws : List Jvm.Cond) (x : Int32) (h0 : Heap) (n0 : Nat) (O0 : Old Z n0 h0) (P0 : ¬ (x < (65536 : Int32))) (P1 : x < (1114112 : Int32)) :
    MetQ l yM19 (Jvm.Cond.code yM19 jdk_89_method_13_code 1 (some .boolean)) ws (rM 0 0 0 0) Z #[(.int x)] h0 (Q_isSup_ Z x h0 n0) := by
  refine metQ (plainFor_of_name pn_50343310) hisR (fun m => ef30_I m x) ?_
  intro p e s m below meth c s₁ P Bd hx hby hml hZ hown hnm X0 e0 hP R0
  have N0 := Fr.nil n0
  have R147 : Go p e below P s₁ (mkF m 17 #[iV x] [(.int 1)]) := fun t_ k_ => R0 t_ (XS.iloadN X0.here hx rfl (hb hby d30_0) rfl (apS (X0.ldcInt hx hown (mvT hZ (hwI hw 146 rfl)) rfl (hb hby d30_1)) (XS.icmpNo X0.here hx rfl (hb hby d30_3) rfl (flt P0).1 (XS.iloadN X0.here hx rfl (hb hby d30_6) rfl (apS (X0.ldcInt hx hown (mvT hZ (hwI hw 147 rfl)) rfl (hb hby d30_7)) (XS.icmpNo X0.here hx rfl (hb hby d30_9) rfl (tlt P1).2.1 (XS.iconst X0.here hx rfl (hb hby d30_12) (XS.goto X0.here hx rfl (pc0 := 13) (pc' := 17) rfl (hb hby d30_13) (by decide) (by decide) k_))))))))
  obtain ⟨fs, hr, hrun, hended, hW, hsame⟩ := X0.leave (v := some (.int (nar .boolean (1 : Int32)))) (fun h => by rw [Bd.returns] at h; cases h)
  exact ⟨_, _, hP _ (R147 _ (retN X0 hx (t := .boolean) Bd.returns (by simp) (hb hby d30_17) hr)), hrun, hended, _, _, rfl, ⟨rfl, N0, e0⟩, ⟨_, rfl⟩, hW, hsame.mono (by decide) (by decide)⟩
theorem ef34_II (m : MethodId) (x0 : Int32) (x1 : Int32) : entryFrame m #[(.int x0), (.int x1)] 2 = mkF m 0 #[iV x0, iV x1] [] := by first | (simp [entryFrame, mkF, argsToLocals, Value.category]; done) | rfl
theorem d34_0 : decode jdk_29_method_69_code 0 = .ok (.iload_n 0, 1) := by decide +kernel
theorem d34_1 : decode jdk_29_method_69_code 1 = .ok (.iload_n 1, 1) := by decide +kernel
theorem d34_2 : decode jdk_29_method_69_code 2 = .ok (.if_icmp .gt 7, 3) := by decide +kernel
theorem d34_9 : decode jdk_29_method_69_code 9 = .ok (.iload_n 1, 1) := by decide +kernel
theorem d34_10 : decode jdk_29_method_69_code 10 = .ok (.ireturn, 1) := by decide +kernel
theorem d34_5 : decode jdk_29_method_69_code 5 = .ok (.iload_n 0, 1) := by decide +kernel
theorem d34_6 : decode jdk_29_method_69_code 6 = .ok (.goto 4, 3) := by decide +kernel
def Q_min_ (Z : State) (a : Int32) (b : Int32) (r : Int32) (h0 : Heap) (n0 : Nat) (rv_ : Option Value) (rh_ : Heap) (rL_ : List Loc) : Prop := (rv_ = some (.int r)) ∧ (Fr n0 rL_) ∧ (rh_ = h0)
set_option maxRecDepth 65536 in
set_option maxHeartbeats 40000000 in
theorem min_ (l : Launch) (Z : State) (a0 : Array Value) (hw : HW Z a0) (ws : List Jvm.Cond) (a : Int32) (b : Int32) (r : Int32) (h0 : Heap) (n0 : Nat) (O0 : Old Z n0 h0) (P0 : minI a b = r) :
    MetQ l yM20 (Jvm.Cond.code yM20 jdk_29_method_69_code 2 (some .int)) ws (rM 0 0 0 0) Z #[(.int a), (.int b)] h0 (Q_min_ Z a b r h0 n0) := by
  have hret := P0
  refine metQ (Jvm.Free.JP.mathPlain rfl (by decide +kernel)) hisR (fun m => ef34_II m a b) ?_
  intro p e s m below meth c s₁ P Bd hx hby hml hZ hown hnm X0 e0 hP R0
  have N0 := Fr.nil n0
  have R148 : Go p e below P s₁ (mkF m 2 #[iV a, iV b] [(.int b), (.int a)]) := fun t_ k_ => R0 t_ (XS.iloadN X0.here hx rfl (hb hby d34_0) rfl (XS.iloadN X0.here hx rfl (hb hby d34_1) rfl k_))
  by_cases hc149 : b < a
  · have R150 : Go p e below P s₁ (mkF m 10 #[iV a, iV b] [(.int b)]) := fun t_ k_ => R148 t_ (XS.icmpYes X0.here hx rfl (pc0 := 2) (pc' := 9) rfl (hb hby d34_2) rfl (tlt hc149).2.2.1 (by decide) (by decide) (XS.iloadN X0.here hx rfl (hb hby d34_9) rfl k_))
    obtain ⟨fs, hr, hrun, hended, hW, hsame⟩ := X0.leave (v := some (.int b)) (fun h => by rw [Bd.returns] at h; cases h)
    exact ⟨_, _, hP _ (R150 _ (retI X0 hx Bd.returns (hb hby d34_10) hr)), hrun, hended, _, _, rfl, ⟨(by rw [← hret]; first | (simp only [minI, eq_true hc149, true_and, and_true, false_and, and_false, true_or, or_true, false_or, or_false, not_true_eq_false, not_false_eq_true, ↓reduceIte, nar_b0, nar_b1]; done) | simp [minI, nar_b0, nar_b1, hc149]), N0, e0⟩, ⟨_, rfl⟩, hW, hsame.mono (by decide) (by decide)⟩
  · have R151 : Go p e below P s₁ (mkF m 10 #[iV a, iV b] [(.int a)]) := fun t_ k_ => R148 t_ (XS.icmpNo X0.here hx rfl (hb hby d34_2) rfl (flt hc149).2.2.1 (XS.iloadN X0.here hx rfl (hb hby d34_5) rfl (XS.goto X0.here hx rfl (pc0 := 6) (pc' := 10) rfl (hb hby d34_6) (by decide) (by decide) k_)))
    obtain ⟨fs, hr, hrun, hended, hW, hsame⟩ := X0.leave (v := some (.int a)) (fun h => by rw [Bd.returns] at h; cases h)
    exact ⟨_, _, hP _ (R151 _ (retI X0 hx Bd.returns (hb hby d34_10) hr)), hrun, hended, _, _, rfl, ⟨(by rw [← hret]; first | (simp only [minI, eq_false hc149, true_and, and_true, false_and, and_false, true_or, or_true, false_or, or_false, not_true_eq_false, not_false_eq_true, ↓reduceIte, nar_b0, nar_b1]; done) | simp [minI, nar_b0, nar_b1, hc149]), N0, e0⟩, ⟨_, rfl⟩, hW, hsame.mono (by decide) (by decide)⟩
theorem ef16_I (m : MethodId) (x0 : Int32) : entryFrame m #[(.int x0)] 1 = mkF m 0 #[iV x0] [] := by first | (simp [entryFrame, mkF, argsToLocals, Value.category]; done) | rfl
theorem d16_0 : decode jdk_52_method_3_code 0 = .ok (.iload_n 0, 1) := by decide +kernel
theorem d16_1 : decode jdk_52_method_3_code 1 = .ok (.ifCond .ge 11, 3) := by decide +kernel
theorem d16_12 : decode jdk_52_method_3_code 12 = .ok (.iload_n 0, 1) := by decide +kernel
theorem d16_13 : decode jdk_52_method_3_code 13 = .ok (.ldc 20, 2) := by decide +kernel
theorem d16_15 : decode jdk_52_method_3_code 15 = .ok (.if_icmp .lt 40, 3) := by decide +kernel
theorem d16_55 : decode jdk_52_method_3_code 55 = .ok (.iload_n 0, 1) := by decide +kernel
theorem d16_56 : decode jdk_52_method_3_code 56 = .ok (.iconst 1, 1) := by decide +kernel
theorem d16_57 : decode jdk_52_method_3_code 57 = .ok (.ishl, 1) := by decide +kernel
theorem d16_58 : decode jdk_52_method_3_code 58 = .ok (.ireturn, 1) := by decide +kernel
def Q_newLen_ (Z : State) (n : Int32) (r : Int32) (h0 : Heap) (n0 : Nat) (rv_ : Option Value) (rh_ : Heap) (rL_ : List Loc) : Prop := (rv_ = some (.int r)) ∧ (Fr n0 rL_) ∧ (rh_ = h0)
set_option maxRecDepth 65536 in
set_option maxHeartbeats 40000000 in
theorem newLen_ (l : Launch) (Z : State) (a0 : Array Value) (hw : HW Z a0) (ws : List Jvm.Cond) (n : Int32) (r : Int32) (h0 : Heap) (n0 : Nat) (O0 : Old Z n0 h0) (P0 : ¬ (n < (0 : Int32))) (P1 : n < (1073741823 : Int32)) (P2 : (n <<< ((1 : Int32) &&& 31)) = r) :
    MetQ l yM21 (Jvm.Cond.code yM21 jdk_52_method_3_code 1 (some .int)) ws (rM 0 0 0 0) Z #[(.int n)] h0 (Q_newLen_ Z n r h0 n0) := by
  have hret := P2
  refine metQ (plainFor_of_name pn_46608628) hisR (fun m => ef16_I m n) ?_
  intro p e s m below meth c s₁ P Bd hx hby hml hZ hown hnm X0 e0 hP R0
  have N0 := Fr.nil n0
  have R152 : Go p e below P s₁ (mkF m 58 #[iV n] [(.int (n <<< ((1 : Int32) &&& 31)))]) := fun t_ k_ => R0 t_ (XS.iloadN X0.here hx rfl (hb hby d16_0) rfl (XS.ifYes X0.here hx rfl (pc0 := 1) (pc' := 12) rfl (hb hby d16_1) rfl ((if0 _ _).trans (flt P0).2.1) (by decide) (by decide) (XS.iloadN X0.here hx rfl (hb hby d16_12) rfl (apS (X0.ldcInt hx hown (mvT hZ (hwI hw 93 rfl)) rfl (hb hby d16_13)) (XS.icmpYes X0.here hx rfl (pc0 := 15) (pc' := 55) rfl (hb hby d16_15) rfl (tlt P1).1 (by decide) (by decide) (XS.iloadN X0.here hx rfl (hb hby d16_55) rfl (XS.iconst X0.here hx rfl (hb hby d16_56) (XS.ishl X0.here hx rfl (hb hby d16_57) rfl k_))))))))
  obtain ⟨fs, hr, hrun, hended, hW, hsame⟩ := X0.leave (v := some (.int (n <<< ((1 : Int32) &&& 31)))) (fun h => by rw [Bd.returns] at h; cases h)
  exact ⟨_, _, hP _ (R152 _ (retI X0 hx Bd.returns (hb hby d16_58) hr)), hrun, hended, _, _, rfl, ⟨(by rw [hret]), N0, e0⟩, ⟨_, rfl⟩, hW, hsame.mono (by decide) (by decide)⟩
theorem ef15_I (m : MethodId) (x0 : Int32) : entryFrame m #[(.int x0)] 1 = mkF m 0 #[iV x0] [] := by first | (simp [entryFrame, mkF, argsToLocals, Value.category]; done) | rfl
theorem d15_0 : decode jdk_52_method_2_code 0 = .ok (.iload_n 0, 1) := by decide +kernel
theorem d15_1 : decode jdk_52_method_2_code 1 = .ok (.invokestatic 11, 3) := by decide +kernel
theorem pd_52681284 : parseMethodDescriptor "(I)I" = some ⟨[.int], some .int⟩ := by decide +kernel
theorem d15_4 : decode jdk_52_method_2_code 4 = .ok (.newarray .byte, 2) := by decide +kernel
theorem d15_6 : decode jdk_52_method_2_code 6 = .ok (.areturn, 1) := by decide +kernel
def Q_newB2_ (Z : State)  (h0 : Heap) (n0 : Nat) (rv_ : Option Value) (rh_ : Heap) (rL_ : List Loc) : Prop := ∃ b : Addr, ∃ kb : ClassId, (rv_ = some (.ref b)) ∧ (Fr n0 rL_) ∧ (Keep h0 rh_ []) ∧ (h0.size ≤ b) ∧ (Arv Z rh_ b kb .byte (4 : Int32) [(.int 0), (.int 0), (.int 0), (.int 0)] (.int 0))
set_option maxRecDepth 65536 in
set_option maxHeartbeats 40000000 in
theorem newB2_ (l : Launch) (Z : State) (a0 : Array Value) (hw : HW Z a0) (ws : List Jvm.Cond)  (h0 : Heap) (n0 : Nat) (O0 : Old Z n0 h0) :
    MetQ l yM22 (Jvm.Cond.code yM22 jdk_52_method_2_code 1 (some (.array .byte))) ws (rM 1 1 4 12) Z #[(.int 2)] h0 (Q_newB2_ Z  h0 n0) := by
  refine metQ (plainFor_of_name pn_46608628) hisR (fun m => ef15_I m (2 : Int32)) ?_
  intro p e s m below meth c s₁ P Bd hx hby hml hZ hown hnm X0 e0 hP R0
  have N0 := Fr.nil n0
  have R153 : Go p e below P s₁ (mkF m 1 #[iV 2] [(.int 2)]) := fun t_ k_ => R0 t_ (XS.iloadN X0.here hx rfl (hb hby d15_0) rfl k_)
  obtain ⟨rv154, T154, Lc154, X154, hQ154, R154⟩ := callQ X0 hx hZ hown e0 R153 (newLen_ l Z a0 hw [] (2 : Int32) (4 : Int32) h0 n0 O0 (by decide) (by decide) (by decide)) (hwI hw 90 rfl) (hwI hw 91 rfl) (hwI hw 88 rfl) (hwI hw 92 rfl) [] rfl (by rw [hml]; rfl) (lenOf pd_52681284 rfl) rfl (W := 0) (wR rfl) (hb hby d15_1)
  obtain ⟨rfl, N154q, K154⟩ := hQ154
  have N154 := Fr.app N0 N154q
  obtain ⟨T155, h155, k155, X155, e155, E155, A155, st155⟩ := newP X154 hx hZ (hwI hw 3 rfl) K154 (g := (mkF m 4 #[iV 2] [(.int 4)])) rfl (hb hby d15_4) rfl (by decide) (cap := 4) (by decide) (by decide) (by decide) (by decide)
  obtain ⟨b155, g155⟩ : ∃ z, z = h0.size := ⟨_, rfl⟩
  rw [← g155] at A155 st155
  have O155 := O0.ext E155
  have V155 : Arv Z h155 b155 k155 .byte (4 : Int32) [(.int 0), (.int 0), (.int 0), (.int 0)] (.int 0) := (Arv.new A155 (by decide)).pad (pad_rep [] (.int 0) 4)
  have R156 : Go p e below P T155 (mkF m 6 #[iV 2] [(.ref b155)]) := fun t_ k_ => R154 t_ (st155 t_ k_)
  obtain ⟨fs, hr, hrun, hended, hW, hsame⟩ := X155.leave (v := some (.ref b155)) (fun h => by rw [Bd.returns] at h; cases h)
  exact ⟨_, _, hP _ (R156 _ (retOut X155 hx Bd.returns rfl (Or.inr (Or.inr (Or.inr (Or.inr ⟨rfl, rfl, rfl⟩)))) (hb hby d15_6) hr)), hrun, hended, _, _, rfl, ⟨b155, k155, rfl, N154, (e155.symm ▸ ((Keep.refl h0 []).ext E155)), (Nat.le_of_eq g155.symm), (e155.symm ▸ V155)⟩, ⟨_, rfl⟩, hW, hsame.mono (by decide) (by decide)⟩
def Q_newB3_ (Z : State)  (h0 : Heap) (n0 : Nat) (rv_ : Option Value) (rh_ : Heap) (rL_ : List Loc) : Prop := ∃ b : Addr, ∃ kb : ClassId, (rv_ = some (.ref b)) ∧ (Fr n0 rL_) ∧ (Keep h0 rh_ []) ∧ (h0.size ≤ b) ∧ (Arv Z rh_ b kb .byte (6 : Int32) [(.int 0), (.int 0), (.int 0), (.int 0), (.int 0), (.int 0)] (.int 0))
set_option maxRecDepth 65536 in
set_option maxHeartbeats 40000000 in
theorem newB3_ (l : Launch) (Z : State) (a0 : Array Value) (hw : HW Z a0) (ws : List Jvm.Cond)  (h0 : Heap) (n0 : Nat) (O0 : Old Z n0 h0) :
    MetQ l yM22 (Jvm.Cond.code yM22 jdk_52_method_2_code 1 (some (.array .byte))) ws (rM 1 1 6 12) Z #[(.int 3)] h0 (Q_newB3_ Z  h0 n0) := by
  refine metQ (plainFor_of_name pn_46608628) hisR (fun m => ef15_I m (3 : Int32)) ?_
  intro p e s m below meth c s₁ P Bd hx hby hml hZ hown hnm X0 e0 hP R0
  have N0 := Fr.nil n0
  have R157 : Go p e below P s₁ (mkF m 1 #[iV 3] [(.int 3)]) := fun t_ k_ => R0 t_ (XS.iloadN X0.here hx rfl (hb hby d15_0) rfl k_)
  obtain ⟨rv158, T158, Lc158, X158, hQ158, R158⟩ := callQ X0 hx hZ hown e0 R157 (newLen_ l Z a0 hw [] (3 : Int32) (6 : Int32) h0 n0 O0 (by decide) (by decide) (by decide)) (hwI hw 90 rfl) (hwI hw 91 rfl) (hwI hw 88 rfl) (hwI hw 92 rfl) [] rfl (by rw [hml]; rfl) (lenOf pd_52681284 rfl) rfl (W := 0) (wR rfl) (hb hby d15_1)
  obtain ⟨rfl, N158q, K158⟩ := hQ158
  have N158 := Fr.app N0 N158q
  obtain ⟨T159, h159, k159, X159, e159, E159, A159, st159⟩ := newP X158 hx hZ (hwI hw 3 rfl) K158 (g := (mkF m 4 #[iV 3] [(.int 6)])) rfl (hb hby d15_4) rfl (by decide) (cap := 6) (by decide) (by decide) (by decide) (by decide)
  obtain ⟨b159, g159⟩ : ∃ z, z = h0.size := ⟨_, rfl⟩
  rw [← g159] at A159 st159
  have O159 := O0.ext E159
  have V159 : Arv Z h159 b159 k159 .byte (6 : Int32) [(.int 0), (.int 0), (.int 0), (.int 0), (.int 0), (.int 0)] (.int 0) := (Arv.new A159 (by decide)).pad (pad_rep [] (.int 0) 6)
  have R160 : Go p e below P T159 (mkF m 6 #[iV 3] [(.ref b159)]) := fun t_ k_ => R158 t_ (st159 t_ k_)
  obtain ⟨fs, hr, hrun, hended, hW, hsame⟩ := X159.leave (v := some (.ref b159)) (fun h => by rw [Bd.returns] at h; cases h)
  exact ⟨_, _, hP _ (R160 _ (retOut X159 hx Bd.returns rfl (Or.inr (Or.inr (Or.inr (Or.inr ⟨rfl, rfl, rfl⟩)))) (hb hby d15_6) hr)), hrun, hended, _, _, rfl, ⟨b159, k159, rfl, N158, (e159.symm ▸ ((Keep.refl h0 []).ext E159)), (Nat.le_of_eq g159.symm), (e159.symm ▸ V159)⟩, ⟨_, rfl⟩, hW, hsame.mono (by decide) (by decide)⟩
def Q_newB4_ (Z : State)  (h0 : Heap) (n0 : Nat) (rv_ : Option Value) (rh_ : Heap) (rL_ : List Loc) : Prop := ∃ b : Addr, ∃ kb : ClassId, (rv_ = some (.ref b)) ∧ (Fr n0 rL_) ∧ (Keep h0 rh_ []) ∧ (h0.size ≤ b) ∧ (Arv Z rh_ b kb .byte (8 : Int32) [(.int 0), (.int 0), (.int 0), (.int 0), (.int 0), (.int 0), (.int 0), (.int 0)] (.int 0))
set_option maxRecDepth 65536 in
set_option maxHeartbeats 40000000 in
theorem newB4_ (l : Launch) (Z : State) (a0 : Array Value) (hw : HW Z a0) (ws : List Jvm.Cond)  (h0 : Heap) (n0 : Nat) (O0 : Old Z n0 h0) :
    MetQ l yM22 (Jvm.Cond.code yM22 jdk_52_method_2_code 1 (some (.array .byte))) ws (rM 1 1 8 12) Z #[(.int 4)] h0 (Q_newB4_ Z  h0 n0) := by
  refine metQ (plainFor_of_name pn_46608628) hisR (fun m => ef15_I m (4 : Int32)) ?_
  intro p e s m below meth c s₁ P Bd hx hby hml hZ hown hnm X0 e0 hP R0
  have N0 := Fr.nil n0
  have R161 : Go p e below P s₁ (mkF m 1 #[iV 4] [(.int 4)]) := fun t_ k_ => R0 t_ (XS.iloadN X0.here hx rfl (hb hby d15_0) rfl k_)
  obtain ⟨rv162, T162, Lc162, X162, hQ162, R162⟩ := callQ X0 hx hZ hown e0 R161 (newLen_ l Z a0 hw [] (4 : Int32) (8 : Int32) h0 n0 O0 (by decide) (by decide) (by decide)) (hwI hw 90 rfl) (hwI hw 91 rfl) (hwI hw 88 rfl) (hwI hw 92 rfl) [] rfl (by rw [hml]; rfl) (lenOf pd_52681284 rfl) rfl (W := 0) (wR rfl) (hb hby d15_1)
  obtain ⟨rfl, N162q, K162⟩ := hQ162
  have N162 := Fr.app N0 N162q
  obtain ⟨T163, h163, k163, X163, e163, E163, A163, st163⟩ := newP X162 hx hZ (hwI hw 3 rfl) K162 (g := (mkF m 4 #[iV 4] [(.int 8)])) rfl (hb hby d15_4) rfl (by decide) (cap := 8) (by decide) (by decide) (by decide) (by decide)
  obtain ⟨b163, g163⟩ : ∃ z, z = h0.size := ⟨_, rfl⟩
  rw [← g163] at A163 st163
  have O163 := O0.ext E163
  have V163 : Arv Z h163 b163 k163 .byte (8 : Int32) [(.int 0), (.int 0), (.int 0), (.int 0), (.int 0), (.int 0), (.int 0), (.int 0)] (.int 0) := (Arv.new A163 (by decide)).pad (pad_rep [] (.int 0) 8)
  have R164 : Go p e below P T163 (mkF m 6 #[iV 4] [(.ref b163)]) := fun t_ k_ => R162 t_ (st163 t_ k_)
  obtain ⟨fs, hr, hrun, hended, hW, hsame⟩ := X163.leave (v := some (.ref b163)) (fun h => by rw [Bd.returns] at h; cases h)
  exact ⟨_, _, hP _ (R164 _ (retOut X163 hx Bd.returns rfl (Or.inr (Or.inr (Or.inr (Or.inr ⟨rfl, rfl, rfl⟩)))) (hb hby d15_6) hr)), hrun, hended, _, _, rfl, ⟨b163, k163, rfl, N162, (e163.symm ▸ ((Keep.refl h0 []).ext E163)), (Nat.le_of_eq g163.symm), (e163.symm ▸ V163)⟩, ⟨_, rfl⟩, hW, hsame.mono (by decide) (by decide)⟩
def Q_newB5_ (Z : State)  (h0 : Heap) (n0 : Nat) (rv_ : Option Value) (rh_ : Heap) (rL_ : List Loc) : Prop := ∃ b : Addr, ∃ kb : ClassId, (rv_ = some (.ref b)) ∧ (Fr n0 rL_) ∧ (Keep h0 rh_ []) ∧ (h0.size ≤ b) ∧ (Arv Z rh_ b kb .byte (10 : Int32) [(.int 0), (.int 0), (.int 0), (.int 0), (.int 0), (.int 0), (.int 0), (.int 0), (.int 0), (.int 0)] (.int 0))
set_option maxRecDepth 65536 in
set_option maxHeartbeats 40000000 in
theorem newB5_ (l : Launch) (Z : State) (a0 : Array Value) (hw : HW Z a0) (ws : List Jvm.Cond)  (h0 : Heap) (n0 : Nat) (O0 : Old Z n0 h0) :
    MetQ l yM22 (Jvm.Cond.code yM22 jdk_52_method_2_code 1 (some (.array .byte))) ws (rM 1 1 10 12) Z #[(.int 5)] h0 (Q_newB5_ Z  h0 n0) := by
  refine metQ (plainFor_of_name pn_46608628) hisR (fun m => ef15_I m (5 : Int32)) ?_
  intro p e s m below meth c s₁ P Bd hx hby hml hZ hown hnm X0 e0 hP R0
  have N0 := Fr.nil n0
  have R165 : Go p e below P s₁ (mkF m 1 #[iV 5] [(.int 5)]) := fun t_ k_ => R0 t_ (XS.iloadN X0.here hx rfl (hb hby d15_0) rfl k_)
  obtain ⟨rv166, T166, Lc166, X166, hQ166, R166⟩ := callQ X0 hx hZ hown e0 R165 (newLen_ l Z a0 hw [] (5 : Int32) (10 : Int32) h0 n0 O0 (by decide) (by decide) (by decide)) (hwI hw 90 rfl) (hwI hw 91 rfl) (hwI hw 88 rfl) (hwI hw 92 rfl) [] rfl (by rw [hml]; rfl) (lenOf pd_52681284 rfl) rfl (W := 0) (wR rfl) (hb hby d15_1)
  obtain ⟨rfl, N166q, K166⟩ := hQ166
  have N166 := Fr.app N0 N166q
  obtain ⟨T167, h167, k167, X167, e167, E167, A167, st167⟩ := newP X166 hx hZ (hwI hw 3 rfl) K166 (g := (mkF m 4 #[iV 5] [(.int 10)])) rfl (hb hby d15_4) rfl (by decide) (cap := 10) (by decide) (by decide) (by decide) (by decide)
  obtain ⟨b167, g167⟩ : ∃ z, z = h0.size := ⟨_, rfl⟩
  rw [← g167] at A167 st167
  have O167 := O0.ext E167
  have V167 : Arv Z h167 b167 k167 .byte (10 : Int32) [(.int 0), (.int 0), (.int 0), (.int 0), (.int 0), (.int 0), (.int 0), (.int 0), (.int 0), (.int 0)] (.int 0) := (Arv.new A167 (by decide)).pad (pad_rep [] (.int 0) 10)
  have R168 : Go p e below P T167 (mkF m 6 #[iV 5] [(.ref b167)]) := fun t_ k_ => R166 t_ (st167 t_ k_)
  obtain ⟨fs, hr, hrun, hended, hW, hsame⟩ := X167.leave (v := some (.ref b167)) (fun h => by rw [Bd.returns] at h; cases h)
  exact ⟨_, _, hP _ (R168 _ (retOut X167 hx Bd.returns rfl (Or.inr (Or.inr (Or.inr (Or.inr ⟨rfl, rfl, rfl⟩)))) (hb hby d15_6) hr)), hrun, hended, _, _, rfl, ⟨b167, k167, rfl, N166, (e167.symm ▸ ((Keep.refl h0 []).ext E167)), (Nat.le_of_eq g167.symm), (e167.symm ▸ V167)⟩, ⟨_, rfl⟩, hW, hsame.mono (by decide) (by decide)⟩
theorem ef20_R (m : MethodId) (x0 : Addr) : entryFrame m #[(.ref x0)] 1 = mkF m 0 #[rV x0] [] := by first | (simp [entryFrame, mkF, argsToLocals, Value.category]; done) | rfl
theorem d20_0 : decode jdk_52_method_6_code 0 = .ok (.aload_n 0, 1) := by decide +kernel
theorem d20_1 : decode jdk_52_method_6_code 1 = .ok (.arraylength, 1) := by decide +kernel
theorem d20_2 : decode jdk_52_method_6_code 2 = .ok (.iconst 1, 1) := by decide +kernel
theorem d20_3 : decode jdk_52_method_6_code 3 = .ok (.ishr, 1) := by decide +kernel
theorem d20_4 : decode jdk_52_method_6_code 4 = .ok (.ireturn, 1) := by decide +kernel
def Q_uLen_ (Z : State) (a : Addr) (ka : ClassId) (N : Int32) (vs : List Value) (r : Int32) (h0 : Heap) (n0 : Nat) (rv_ : Option Value) (rh_ : Heap) (rL_ : List Loc) : Prop := (rv_ = some (.int r)) ∧ (Fr n0 rL_) ∧ (rh_ = h0)
set_option maxRecDepth 65536 in
set_option maxHeartbeats 40000000 in
theorem uLen_ (l : Launch) (Z : State) (a0 : Array Value) (hw : HW Z a0) (ws : List Jvm.Cond) (a : Addr) (ka : ClassId) (N : Int32) (vs : List Value) (r : Int32) (h0 : Heap) (n0 : Nat) (O0 : Old Z n0 h0) (P0 : Arv Z h0 a ka .byte N vs (.int 0)) (P1 : (N >>> ((1 : Int32) &&& 31)) = r) :
    MetQ l yM23 (Jvm.Cond.code yM23 jdk_52_method_6_code 1 (some .int)) ws (rM 0 0 0 0) Z #[(.ref a)] h0 (Q_uLen_ Z a ka N vs r h0 n0) := by
  have hret := P1
  refine metQ (plainFor_of_name pn_46608628) hisR (fun m => ef20_R m a) ?_
  intro p e s m below meth c s₁ P Bd hx hby hml hZ hown hnm X0 e0 hP R0
  have N0 := Fr.nil n0
  have R169 : Go p e below P s₁ (mkF m 1 #[rV a] [(.ref a)]) := fun t_ k_ => R0 t_ (XS.aloadN X0.here hx rfl (hb hby d20_0) rfl rfl k_)
  obtain ⟨cl170, cl170A, -, cl170S, cl170N, -, -⟩ := id P0
  have R171 : Go p e below P s₁ (mkF m 2 #[rV a] [(.int N)]) := fun t_ k_ => R169 t_ (X0.arraylength hx (by rw [e0]; exact cl170A.1) (State.isArrayOf_alike hZ.alike cl170A.2.1) (g := (mkF m 1 #[rV a] [(.ref a)])) rfl rfl (hb hby d20_1) t_ (by rw [len_of cl170S cl170N]; exact k_))
  have R172 : Go p e below P s₁ (mkF m 4 #[rV a] [(.int (N >>> ((1 : Int32) &&& 31)))]) := fun t_ k_ => R171 t_ (XS.iconst X0.here hx rfl (hb hby d20_2) (XS.ishr X0.here hx rfl (hb hby d20_3) rfl k_))
  obtain ⟨fs, hr, hrun, hended, hW, hsame⟩ := X0.leave (v := some (.int (N >>> ((1 : Int32) &&& 31)))) (fun h => by rw [Bd.returns] at h; cases h)
  exact ⟨_, _, hP _ (R172 _ (retI X0 hx Bd.returns (hb hby d20_4) hr)), hrun, hended, _, _, rfl, ⟨(by rw [hret]), N0, e0⟩, ⟨_, rfl⟩, hW, hsame.mono (by decide) (by decide)⟩
theorem ef22_IIIV (m : MethodId) (x0 : Int32) (x1 : Int32) (x2 : Int32) (x3 : Value) (r3 : x3.isRef = true) : entryFrame m #[(.int x0), (.int x1), (.int x2), x3] 4 = mkF m 0 #[iV x0, iV x1, iV x2, .val x3] [] := by first | (simp [entryFrame, mkF, argsToLocals, Value.category]; done) | rfl | (rcases ref_cases r3 with rfl | ⟨_, rfl⟩ <;> first | (simp [entryFrame, mkF, argsToLocals, Value.category]; done) | rfl)
theorem d22_0 : decode jdk_41_method_13_code 0 = .ok (.iload_n 2, 1) := by decide +kernel
theorem d22_1 : decode jdk_41_method_13_code 1 = .ok (.iload_n 0, 1) := by decide +kernel
theorem d22_2 : decode jdk_41_method_13_code 2 = .ok (.ior, 1) := by decide +kernel
theorem d22_3 : decode jdk_41_method_13_code 3 = .ok (.iload_n 1, 1) := by decide +kernel
theorem d22_4 : decode jdk_41_method_13_code 4 = .ok (.ior, 1) := by decide +kernel
theorem d22_5 : decode jdk_41_method_13_code 5 = .ok (.ifCond .lt 10, 3) := by decide +kernel
theorem d22_8 : decode jdk_41_method_13_code 8 = .ok (.iload_n 1, 1) := by decide +kernel
theorem d22_9 : decode jdk_41_method_13_code 9 = .ok (.iload_n 2, 1) := by decide +kernel
theorem d22_10 : decode jdk_41_method_13_code 10 = .ok (.iload_n 0, 1) := by decide +kernel
theorem d22_11 : decode jdk_41_method_13_code 11 = .ok (.isub, 1) := by decide +kernel
theorem d22_12 : decode jdk_41_method_13_code 12 = .ok (.if_icmp .le 11, 3) := by decide +kernel
theorem d22_23 : decode jdk_41_method_13_code 23 = .ok (.iload_n 0, 1) := by decide +kernel
theorem d22_24 : decode jdk_41_method_13_code 24 = .ok (.ireturn, 1) := by decide +kernel
def Q_preFIS_ (Z : State) (i : Int32) (cn : Int32) (n : Int32) (fm : Value) (h0 : Heap) (n0 : Nat) (rv_ : Option Value) (rh_ : Heap) (rL_ : List Loc) : Prop := (rv_ = some (.int i)) ∧ (Fr n0 rL_) ∧ (rh_ = h0)
set_option maxRecDepth 65536 in
set_option maxHeartbeats 40000000 in
theorem preFIS_ (l : Launch) (Z : State) (a0 : Array Value) (hw : HW Z a0) (ws : List Jvm.Cond) (i : Int32) (cn : Int32) (n : Int32) (fm : Value) (h0 : Heap) (n0 : Nat) (O0 : Old Z n0 h0) (P0 : fm.isRef = true) (P1 : ¬ (((n ||| i) ||| cn) < (0 : Int32))) (P2 : ¬ ((n - i) < cn)) :
    MetQ l yM24 (Jvm.Cond.code yM24 jdk_41_method_13_code 4 (some .int)) ws (rM 0 0 0 0) Z #[(.int i), (.int cn), (.int n), fm] h0 (Q_preFIS_ Z i cn n fm h0 n0) := by
  have hfm := P0
  refine metQ (plainFor_of_name pn_82791839) hisR (fun m => ef22_IIIV m i cn n fm hfm) ?_
  intro p e s m below meth c s₁ P Bd hx hby hml hZ hown hnm X0 e0 hP R0
  have N0 := Fr.nil n0
  have R173 : Go p e below P s₁ (mkF m 24 #[iV i, iV cn, iV n, .val fm] [(.int i)]) := fun t_ k_ => R0 t_ (XS.iloadN X0.here hx rfl (hb hby d22_0) rfl (XS.iloadN X0.here hx rfl (hb hby d22_1) rfl (XS.ior X0.here hx rfl (hb hby d22_2) rfl (XS.iloadN X0.here hx rfl (hb hby d22_3) rfl (XS.ior X0.here hx rfl (hb hby d22_4) rfl (XS.ifNo X0.here hx rfl (hb hby d22_5) rfl ((if0 _ _).trans (flt P1).1) (XS.iloadN X0.here hx rfl (hb hby d22_8) rfl (XS.iloadN X0.here hx rfl (hb hby d22_9) rfl (XS.iloadN X0.here hx rfl (hb hby d22_10) rfl (XS.isub X0.here hx rfl (hb hby d22_11) rfl (XS.icmpYes X0.here hx rfl (pc0 := 12) (pc' := 23) rfl (hb hby d22_12) rfl (flt P2).2.2.2 (by decide) (by decide) (XS.iloadN X0.here hx rfl (hb hby d22_23) rfl k_))))))))))))
  obtain ⟨fs, hr, hrun, hended, hW, hsame⟩ := X0.leave (v := some (.int i)) (fun h => by rw [Bd.returns] at h; cases h)
  exact ⟨_, _, hP _ (R173 _ (retI X0 hx Bd.returns (hb hby d22_24) hr)), hrun, hended, _, _, rfl, ⟨rfl, N0, e0⟩, ⟨_, rfl⟩, hW, hsame.mono (by decide) (by decide)⟩
theorem ef21_III (m : MethodId) (x0 : Int32) (x1 : Int32) (x2 : Int32) : entryFrame m #[(.int x0), (.int x1), (.int x2)] 3 = mkF m 0 #[iV x0, iV x1, iV x2] [] := by first | (simp [entryFrame, mkF, argsToLocals, Value.category]; done) | rfl
theorem d21_0 : decode jdk_42_method_157_code 0 = .ok (.iload_n 0, 1) := by decide +kernel
theorem d21_1 : decode jdk_42_method_157_code 1 = .ok (.iload_n 1, 1) := by decide +kernel
theorem d21_2 : decode jdk_42_method_157_code 2 = .ok (.iload_n 2, 1) := by decide +kernel
theorem d21_3 : decode jdk_42_method_157_code 3 = .ok (.getstatic 1053, 3) := by decide +kernel
theorem d21_6 : decode jdk_42_method_157_code 6 = .ok (.invokestatic 1065, 3) := by decide +kernel
theorem pd_15933245 : parseMethodDescriptor "(IIILjava/util/function/BiFunction;)I" = some ⟨[.int, .int, .int, (.object "java/util/function/BiFunction")], some .int⟩ := by decide +kernel
theorem d21_9 : decode jdk_42_method_157_code 9 = .ok (.ireturn, 1) := by decide +kernel
def Q_sChk_ (Z : State) (i : Int32) (cn : Int32) (n : Int32) (fm : Value) (h0 : Heap) (n0 : Nat) (rv_ : Option Value) (rh_ : Heap) (rL_ : List Loc) : Prop := (rv_ = some (.int i)) ∧ (Fr n0 rL_) ∧ (rh_ = h0)
set_option maxRecDepth 65536 in
set_option maxHeartbeats 40000000 in
theorem sChk_ (l : Launch) (Z : State) (a0 : Array Value) (hw : HW Z a0) (ws : List Jvm.Cond) (i : Int32) (cn : Int32) (n : Int32) (fm : Value) (h0 : Heap) (n0 : Nat) (O0 : Old Z n0 h0) (P0 : sT1 Z fm) (P1 : fm.isRef = true) (P2 : ¬ (((n ||| i) ||| cn) < (0 : Int32))) (P3 : ¬ ((n - i) < cn)) :
    MetQ l yM25 (Jvm.Cond.code yM25 jdk_42_method_157_code 3 (some .int)) ws (rM 1 0 0 15) Z #[(.int i), (.int cn), (.int n)] h0 (Q_sChk_ Z i cn n fm h0 n0) := by
  have hfm := P1
  refine metQ (plainFor_of_name pn_47582652) hisR (fun m => ef21_III m i cn n) ?_
  intro p e s m below meth c s₁ P Bd hx hby hml hZ hown hnm X0 e0 hP R0
  have N0 := Fr.nil n0
  obtain ⟨T174, X174, e174, st174⟩ := getS2 X0 hx hZ hown (host := "") (Or.inl (hwI hw 81 rfl)) Via.refl e0 (P0.ext O0.2) (g := (mkF m 3 #[iV i, iV cn, iV n] [(.int n), (.int cn), (.int i)])) rfl (hb hby d21_3)
  have R175 : Go p e below P T174 (mkF m 6 #[iV i, iV cn, iV n] [fm, (.int n), (.int cn), (.int i)]) := fun t_ k_ => R0 t_ (XS.iloadN X0.here hx rfl (hb hby d21_0) rfl (XS.iloadN X0.here hx rfl (hb hby d21_1) rfl (XS.iloadN X0.here hx rfl (hb hby d21_2) rfl (st174 t_ k_))))
  obtain ⟨rv176, T176, Lc176, X176, hQ176, R176⟩ := callQ X174 hx hZ hown e174 R175 (preFIS_ l Z a0 hw [] i cn n fm h0 n0 O0 hfm P2 P3) (hwI hw 109 rfl) (hwI hw 110 rfl) (hwI hw 82 rfl) (hwI hw 111 rfl) [] rfl (by rw [hml]; rfl) (lenOf pd_15933245 rfl) rfl (W := 0) (wR rfl) (hb hby d21_6)
  obtain ⟨rfl, N176q, K176⟩ := hQ176
  have N176 := Fr.app N0 N176q
  obtain ⟨fs, hr, hrun, hended, hW, hsame⟩ := X176.leave (v := some (.int i)) (fun h => by rw [Bd.returns] at h; cases h)
  exact ⟨_, _, hP _ (R176 _ (retI X176 hx Bd.returns (hb hby d21_9) hr)), hrun, hended, _, _, rfl, ⟨rfl, N176, K176⟩, ⟨_, rfl⟩, hW, hsame.mono (by decide) (by decide)⟩
theorem ef19_IIR (m : MethodId) (x0 : Int32) (x1 : Int32) (x2 : Addr) : entryFrame m #[(.int x0), (.int x1), (.ref x2)] 3 = mkF m 0 #[iV x0, iV x1, rV x2] [] := by first | (simp [entryFrame, mkF, argsToLocals, Value.category]; done) | rfl
theorem d19_0 : decode jdk_52_method_94_code 0 = .ok (.iload_n 0, 1) := by decide +kernel
theorem d19_1 : decode jdk_52_method_94_code 1 = .ok (.iload_n 1, 1) := by decide +kernel
theorem d19_2 : decode jdk_52_method_94_code 2 = .ok (.aload_n 2, 1) := by decide +kernel
theorem d19_3 : decode jdk_52_method_94_code 3 = .ok (.invokestatic 48, 3) := by decide +kernel
theorem pd_42138748 : parseMethodDescriptor "([B)I" = some ⟨[(.array .byte)], some .int⟩ := by decide +kernel
theorem d19_6 : decode jdk_52_method_94_code 6 = .ok (.invokestatic 419, 3) := by decide +kernel
theorem pd_35459080 : parseMethodDescriptor "(III)I" = some ⟨[.int, .int, .int], some .int⟩ := by decide +kernel
theorem d19_9 : decode jdk_52_method_94_code 9 = .ok (.pop, 1) := by decide +kernel
theorem d19_10 : decode jdk_52_method_94_code 10 = .ok (.return_, 1) := by decide +kernel
def Q_uChk_ (Z : State) (i : Int32) (cn : Int32) (n : Int32) (a : Addr) (ka : ClassId) (N : Int32) (vs : List Value) (fm : Value) (h0 : Heap) (n0 : Nat) (rv_ : Option Value) (rh_ : Heap) (rL_ : List Loc) : Prop := (rv_ = none) ∧ (Fr n0 rL_) ∧ (rh_ = h0)
set_option maxRecDepth 65536 in
set_option maxHeartbeats 40000000 in
theorem uChk_ (l : Launch) (Z : State) (a0 : Array Value) (hw : HW Z a0) (ws : List Jvm.Cond) (i : Int32) (cn : Int32) (n : Int32) (a : Addr) (ka : ClassId) (N : Int32) (vs : List Value) (fm : Value) (h0 : Heap) (n0 : Nat) (O0 : Old Z n0 h0) (P0 : sT1 Z fm) (P1 : fm.isRef = true) (P2 : ¬ (((n ||| i) ||| cn) < (0 : Int32))) (P3 : ¬ ((n - i) < cn)) (P4 : Arv Z h0 a ka .byte N vs (.int 0)) (P5 : (N >>> ((1 : Int32) &&& 31)) = n) :
    MetQ l yM26 (Jvm.Cond.code yM26 jdk_52_method_94_code 3 none) ws (rM 2 0 0 29) Z #[(.int i), (.int cn), (.ref a)] h0 (Q_uChk_ Z i cn n a ka N vs fm h0 n0) := by
  have hfm := P1
  have hret := P5
  refine metQ (plainFor_of_name pn_46608628) hisR (fun m => ef19_IIR m i cn a) ?_
  intro p e s m below meth c s₁ P Bd hx hby hml hZ hown hnm X0 e0 hP R0
  have N0 := Fr.nil n0
  have R177 : Go p e below P s₁ (mkF m 3 #[iV i, iV cn, rV a] [(.ref a), (.int cn), (.int i)]) := fun t_ k_ => R0 t_ (XS.iloadN X0.here hx rfl (hb hby d19_0) rfl (XS.iloadN X0.here hx rfl (hb hby d19_1) rfl (XS.aloadN X0.here hx rfl (hb hby d19_2) rfl rfl k_)))
  obtain ⟨rv178, T178, Lc178, X178, hQ178, R178⟩ := callQ X0 hx hZ hown e0 R177 (uLen_ l Z a0 hw [] a ka N vs n h0 n0 O0 P4 hret) (hwI hw 103 rfl) (hwI hw 104 rfl) (hwI hw 88 rfl) (hwI hw 105 rfl) [(.int cn), (.int i)] rfl (by rw [hml]; rfl) (lenOf pd_42138748 rfl) rfl (W := 2) (wR rfl) (hb hby d19_3)
  obtain ⟨rfl, N178q, K178⟩ := hQ178
  have N178 := Fr.app N0 N178q
  obtain ⟨rv179, T179, Lc179, X179, hQ179, R179⟩ := callQ X178 hx hZ hown K178 R178 (sChk_ l Z a0 hw [] i cn n fm h0 n0 O0 P0 hfm P2 P3) (hwI hw 106 rfl) (hwI hw 107 rfl) (hwI hw 10 rfl) (hwI hw 108 rfl) [] rfl (by rw [hml]; rfl) (lenOf pd_35459080 rfl) rfl (W := 0) (wR rfl) (hb hby d19_6)
  obtain ⟨rfl, N179q, K179⟩ := hQ179
  have N179 := Fr.app N178 N179q
  have R180 : Go p e below P T179 (mkF m 10 #[iV i, iV cn, rV a] []) := fun t_ k_ => R179 t_ (XS.pop X179.here hx rfl (hb hby d19_9) rfl rfl k_)
  obtain ⟨fs, hr, hrun, hended, hW, hsame⟩ := X179.leave (v := none) (fun _ => rfl)
  exact ⟨_, _, hP _ (R180 _ (X179.returnOut hx Bd.returns (hb hby d19_10) hr)), hrun, hended, _, _, rfl, ⟨rfl, N179, K179⟩, ⟨_, rfl⟩, hW, hsame.mono (by decide) (by decide)⟩
theorem ef18_RIRII (m : MethodId) (x0 : Addr) (x1 : Int32) (x2 : Addr) (x3 : Int32) (x4 : Int32) : entryFrame m #[(.ref x0), (.int x1), (.ref x2), (.int x3), (.int x4)] 6 = mkF m 0 #[rV x0, iV x1, rV x2, iV x3, iV x4, uS] [] := by first | (simp [entryFrame, mkF, argsToLocals, Value.category]; done) | rfl
theorem d18_0 : decode jdk_52_method_86_code 0 = .ok (.iload_n 3, 1) := by decide +kernel
theorem d18_1 : decode jdk_52_method_86_code 1 = .ok (.iload 4, 2) := by decide +kernel
theorem d18_3 : decode jdk_52_method_86_code 3 = .ok (.aload_n 2, 1) := by decide +kernel
theorem d18_4 : decode jdk_52_method_86_code 4 = .ok (.invokestatic 173, 3) := by decide +kernel
theorem pd_86030037 : parseMethodDescriptor "(II[B)V" = some ⟨[.int, .int, (.array .byte)], none⟩ := by decide +kernel
theorem d18_7 : decode jdk_52_method_86_code 7 = .ok (.iconst 0, 1) := by decide +kernel
theorem d18_8 : decode jdk_52_method_86_code 8 = .ok (.istore 5, 2) := by decide +kernel
theorem d18_10 : decode jdk_52_method_86_code 10 = .ok (.iload 5, 2) := by decide +kernel
theorem d18_12 : decode jdk_52_method_86_code 12 = .ok (.iload 4, 2) := by decide +kernel
theorem d18_14 : decode jdk_52_method_86_code 14 = .ok (.if_icmp .ge 27, 3) := by decide +kernel
theorem d18_41 : decode jdk_52_method_86_code 41 = .ok (.return_, 1) := by decide +kernel
def Q_inf0_ (Z : State) (a : Addr) (d : Addr) (kd : ClassId) (N : Int32) (vs : List Value) (n : Int32) (fm : Value) (h0 : Heap) (n0 : Nat) (rv_ : Option Value) (rh_ : Heap) (rL_ : List Loc) : Prop := (rv_ = none) ∧ (Fr n0 rL_) ∧ (rh_ = h0)
set_option maxRecDepth 65536 in
set_option maxHeartbeats 40000000 in
theorem inf0_ (l : Launch) (Z : State) (a0 : Array Value) (hw : HW Z a0) (ws : List Jvm.Cond) (a : Addr) (d : Addr) (kd : ClassId) (N : Int32) (vs : List Value) (n : Int32) (fm : Value) (h0 : Heap) (n0 : Nat) (O0 : Old Z n0 h0) (P0 : sT1 Z fm) (P1 : fm.isRef = true) (P2 : ¬ (((n ||| (0 : Int32)) ||| (0 : Int32)) < (0 : Int32))) (P3 : ¬ ((n - (0 : Int32)) < (0 : Int32))) (P4 : Arv Z h0 d kd .byte N vs (.int 0)) (P5 : (N >>> ((1 : Int32) &&& 31)) = n) :
    MetQ l yM27 (Jvm.Cond.code yM27 jdk_52_method_86_code 6 none) ws (rM 3 0 0 43) Z #[(.ref a), (.int 0), (.ref d), (.int 0), (.int 0)] h0 (Q_inf0_ Z a d kd N vs n fm h0 n0) := by
  have hfm := P1
  have hret := P5
  refine metQ (plainFor_of_name pn_46608628) hisR (fun m => ef18_RIRII m a (0 : Int32) d (0 : Int32) (0 : Int32)) ?_
  intro p e s m below meth c s₁ P Bd hx hby hml hZ hown hnm X0 e0 hP R0
  have N0 := Fr.nil n0
  have R181 : Go p e below P s₁ (mkF m 4 #[rV a, iV 0, rV d, iV 0, iV 0, uS] [(.ref d), (.int 0), (.int 0)]) := fun t_ k_ => R0 t_ (XS.iloadN X0.here hx rfl (hb hby d18_0) rfl (XS.iload X0.here hx rfl (hb hby d18_1) rfl (XS.aloadN X0.here hx rfl (hb hby d18_3) rfl rfl k_)))
  obtain ⟨rv182, T182, Lc182, X182, hQ182, R182⟩ := callQ X0 hx hZ hown e0 R181 (uChk_ l Z a0 hw [] (0 : Int32) (0 : Int32) n d kd N vs fm h0 n0 O0 P0 hfm P2 P3 P4 hret) (hwI hw 100 rfl) (hwI hw 101 rfl) (hwI hw 88 rfl) (hwI hw 102 rfl) [] rfl (by rw [hml]; rfl) (lenOf pd_86030037 rfl) rfl (W := 0) (wR rfl) (hb hby d18_4)
  obtain ⟨rfl, N182q, K182⟩ := hQ182
  have N182 := Fr.app N0 N182q
  have R183 : Go p e below P T182 (mkF m 41 #[rV a, iV 0, rV d, iV 0, iV 0, iV 0] []) := fun t_ k_ => R182 t_ (XS.iconst X182.here hx rfl (hb hby d18_7) (XS.istore X182.here hx rfl (hb hby d18_8) rfl (l' := #[rV a, iV 0, rV d, iV 0, iV 0, iV 0]) rfl (XS.iload X182.here hx rfl (hb hby d18_10) rfl (XS.iload X182.here hx rfl (hb hby d18_12) rfl (XS.icmpYes X182.here hx rfl (pc0 := 14) (pc' := 41) rfl (hb hby d18_14) rfl (flt (by decide : ¬ ((0 : Int32) < (0 : Int32)))).2.1 (by decide) (by decide) k_)))))
  obtain ⟨fs, hr, hrun, hended, hW, hsame⟩ := X182.leave (v := none) (fun _ => rfl)
  exact ⟨_, _, hP _ (R183 _ (X182.returnOut hx Bd.returns (hb hby d18_41) hr)), hrun, hended, _, _, rfl, ⟨rfl, N182, K182⟩, ⟨_, rfl⟩, hW, hsame.mono (by decide) (by decide)⟩
theorem ef17_RIRII (m : MethodId) (x0 : Addr) (x1 : Int32) (x2 : Addr) (x3 : Int32) (x4 : Int32) : entryFrame m #[(.ref x0), (.int x1), (.ref x2), (.int x3), (.int x4)] 5 = mkF m 0 #[rV x0, iV x1, rV x2, iV x3, iV x4] [] := by first | (simp [entryFrame, mkF, argsToLocals, Value.category]; done) | rfl
theorem d17_0 : decode jdk_43_method_50_code 0 = .ok (.aload_n 0, 1) := by decide +kernel
theorem d17_1 : decode jdk_43_method_50_code 1 = .ok (.iload_n 1, 1) := by decide +kernel
theorem d17_2 : decode jdk_43_method_50_code 2 = .ok (.aload_n 2, 1) := by decide +kernel
theorem d17_3 : decode jdk_43_method_50_code 3 = .ok (.iload_n 3, 1) := by decide +kernel
theorem d17_4 : decode jdk_43_method_50_code 4 = .ok (.iload 4, 2) := by decide +kernel
theorem d17_6 : decode jdk_43_method_50_code 6 = .ok (.invokestatic 240, 3) := by decide +kernel
theorem pd_17825761 : parseMethodDescriptor "([BI[BII)V" = some ⟨[(.array .byte), .int, (.array .byte), .int, .int], none⟩ := by decide +kernel
theorem d17_9 : decode jdk_43_method_50_code 9 = .ok (.return_, 1) := by decide +kernel
def Q_inL0_ (Z : State) (a : Addr) (d : Addr) (kd : ClassId) (N : Int32) (vs : List Value) (n : Int32) (fm : Value) (h0 : Heap) (n0 : Nat) (rv_ : Option Value) (rh_ : Heap) (rL_ : List Loc) : Prop := (rv_ = none) ∧ (Fr n0 rL_) ∧ (rh_ = h0)
set_option maxRecDepth 65536 in
set_option maxHeartbeats 40000000 in
theorem inL0_ (l : Launch) (Z : State) (a0 : Array Value) (hw : HW Z a0) (ws : List Jvm.Cond) (a : Addr) (d : Addr) (kd : ClassId) (N : Int32) (vs : List Value) (n : Int32) (fm : Value) (h0 : Heap) (n0 : Nat) (O0 : Old Z n0 h0) (P0 : sT1 Z fm) (P1 : fm.isRef = true) (P2 : ¬ (((n ||| (0 : Int32)) ||| (0 : Int32)) < (0 : Int32))) (P3 : ¬ ((n - (0 : Int32)) < (0 : Int32))) (P4 : Arv Z h0 d kd .byte N vs (.int 0)) (P5 : (N >>> ((1 : Int32) &&& 31)) = n) :
    MetQ l yM28 (Jvm.Cond.code yM28 jdk_43_method_50_code 5 none) ws (rM 4 0 0 60) Z #[(.ref a), (.int 0), (.ref d), (.int 0), (.int 0)] h0 (Q_inL0_ Z a d kd N vs n fm h0 n0) := by
  have hfm := P1
  have hret := P5
  refine metQ (plainFor_of_name pn_27686809) hisR (fun m => ef17_RIRII m a (0 : Int32) d (0 : Int32) (0 : Int32)) ?_
  intro p e s m below meth c s₁ P Bd hx hby hml hZ hown hnm X0 e0 hP R0
  have N0 := Fr.nil n0
  have R184 : Go p e below P s₁ (mkF m 6 #[rV a, iV 0, rV d, iV 0, iV 0] [(.int 0), (.int 0), (.ref d), (.int 0), (.ref a)]) := fun t_ k_ => R0 t_ (XS.aloadN X0.here hx rfl (hb hby d17_0) rfl rfl (XS.iloadN X0.here hx rfl (hb hby d17_1) rfl (XS.aloadN X0.here hx rfl (hb hby d17_2) rfl rfl (XS.iloadN X0.here hx rfl (hb hby d17_3) rfl (XS.iload X0.here hx rfl (hb hby d17_4) rfl k_)))))
  obtain ⟨rv185, T185, Lc185, X185, hQ185, R185⟩ := callQ X0 hx hZ hown e0 R184 (inf0_ l Z a0 hw [] a d kd N vs n fm h0 n0 O0 P0 hfm P2 P3 P4 hret) (hwI hw 97 rfl) (hwI hw 98 rfl) (hwI hw 88 rfl) (hwI hw 99 rfl) [] rfl (by rw [hml]; rfl) (lenOf pd_17825761 rfl) rfl (W := 0) (wR rfl) (hb hby d17_6)
  obtain ⟨rfl, N185q, K185⟩ := hQ185
  have N185 := Fr.app N0 N185q
  obtain ⟨fs, hr, hrun, hended, hW, hsame⟩ := X185.leave (v := none) (fun _ => rfl)
  exact ⟨_, _, hP _ (R185 _ (X185.returnOut hx Bd.returns (hb hby d17_9) hr)), hrun, hended, _, _, rfl, ⟨rfl, N185, K185⟩, ⟨_, rfl⟩, hW, hsame.mono (by decide) (by decide)⟩
theorem d18_17 : decode jdk_52_method_86_code 17 = .ok (.aload_n 2, 1) := by decide +kernel
theorem d18_18 : decode jdk_52_method_86_code 18 = .ok (.iload_n 3, 1) := by decide +kernel
theorem d18_19 : decode jdk_52_method_86_code 19 = .ok (.iinc 3 1, 3) := by decide +kernel
theorem d18_22 : decode jdk_52_method_86_code 22 = .ok (.aload_n 0, 1) := by decide +kernel
theorem d18_23 : decode jdk_52_method_86_code 23 = .ok (.iload_n 1, 1) := by decide +kernel
theorem d18_24 : decode jdk_52_method_86_code 24 = .ok (.iinc 1 1, 3) := by decide +kernel
theorem d18_27 : decode jdk_52_method_86_code 27 = .ok (.baload, 1) := by decide +kernel
theorem d18_28 : decode jdk_52_method_86_code 28 = .ok (.sipush 255, 3) := by decide +kernel
theorem d18_31 : decode jdk_52_method_86_code 31 = .ok (.iand, 1) := by decide +kernel
theorem d18_32 : decode jdk_52_method_86_code 32 = .ok (.invokestatic 111, 3) := by decide +kernel
theorem pd_14998797 : parseMethodDescriptor "([BII)V" = some ⟨[(.array .byte), .int, .int], none⟩ := by decide +kernel
theorem d18_35 : decode jdk_52_method_86_code 35 = .ok (.iinc 5 1, 3) := by decide +kernel
theorem d18_38 : decode jdk_52_method_86_code 38 = .ok (.goto (-28), 3) := by decide +kernel
def Q_inf1_2_ (Z : State) (a : Addr) (ka : ClassId) (v0 : Int32) (v1 : Int32) (d : Addr) (kd : ClassId) (N : Int32) (vs : List Value) (n : Int32) (fm : Value) (cc : Int32) (h0 : Heap) (n0 : Nat) (rv_ : Option Value) (rh_ : Heap) (rL_ : List Loc) : Prop := (rv_ = none) ∧ (Fr n0 rL_) ∧ (Keep h0 rh_ [d]) ∧ (Arv Z rh_ d kd .byte N ((vs.set (2 * 0) (.int (loB cc))).set (2 * 0 + 1) (.int (hiB cc))) (.int 0))
set_option maxRecDepth 65536 in
set_option maxHeartbeats 40000000 in
theorem inf1_2_ (l : Launch) (Z : State) (a0 : Array Value) (hw : HW Z a0) (ws : List Jvm.Cond) (a : Addr) (ka : ClassId) (v0 : Int32) (v1 : Int32) (d : Addr) (kd : ClassId) (N : Int32) (vs : List Value) (n : Int32) (fm : Value) (cc : Int32) (h0 : Heap) (n0 : Nat) (O0 : Old Z n0 h0) (P0 : sT2 Z (.int 1)) (P1 : sT3 Z (.int 0)) (P2 : sT4 Z (.int 8)) (P3 : sT1 Z fm) (P4 : fm.isRef = true) (P5 : ¬ (((n ||| (0 : Int32)) ||| (1 : Int32)) < (0 : Int32))) (P6 : ¬ ((n - (0 : Int32)) < (1 : Int32))) (P7 : Arv Z h0 a ka .byte (2 : Int32) [(.int v0), (.int v1)] (.int 0)) (P8 : Arv Z h0 d kd .byte N vs (.int 0)) (P9 : (N >>> ((1 : Int32) &&& 31)) = n) (P10 : n0 ≤ d) (P11 : a ≠ d) (P12 : (v0 &&& (255 : Int32)) = cc) (P13 : 2 * 0 + 1 < vs.length) (P14 : N = Int32.ofNat vs.length) (P15 : vs.length ≤ 4000) :
    MetQ l yM27 (Jvm.Cond.code yM27 jdk_52_method_86_code 6 none) ws (rM 3 0 0 43) Z #[(.ref a), (.int 0), (.ref d), (.int 0), (.int 1)] h0 (Q_inf1_2_ Z a ka v0 v1 d kd N vs n fm cc h0 n0) := by
  have hfm := P4
  have hret := P9
  have hc0 := P12
  have hj := P13
  have hN := P14
  have hl := P15
  refine metQ (plainFor_of_name pn_46608628) hisR (fun m => ef18_RIRII m a (0 : Int32) d (0 : Int32) (1 : Int32)) ?_
  intro p e s m below meth c s₁ P Bd hx hby hml hZ hown hnm X0 e0 hP R0
  have N0 := Fr.nil n0
  have R186 : Go p e below P s₁ (mkF m 4 #[rV a, iV 0, rV d, iV 0, iV 1, uS] [(.ref d), (.int 1), (.int 0)]) := fun t_ k_ => R0 t_ (XS.iloadN X0.here hx rfl (hb hby d18_0) rfl (XS.iload X0.here hx rfl (hb hby d18_1) rfl (XS.aloadN X0.here hx rfl (hb hby d18_3) rfl rfl k_)))
  obtain ⟨rv187, T187, Lc187, X187, hQ187, R187⟩ := callQ X0 hx hZ hown e0 R186 (uChk_ l Z a0 hw [] (0 : Int32) (1 : Int32) n d kd N vs fm h0 n0 O0 P3 hfm P5 P6 P8 hret) (hwI hw 100 rfl) (hwI hw 101 rfl) (hwI hw 88 rfl) (hwI hw 102 rfl) [] rfl (by rw [hml]; rfl) (lenOf pd_86030037 rfl) rfl (W := 0) (wR rfl) (hb hby d18_4)
  obtain ⟨rfl, N187q, K187⟩ := hQ187
  have N187 := Fr.app N0 N187q
  have R188 : Go p e below P T187 (mkF m 27 #[rV a, iV 1, rV d, iV 1, iV 1, iV 0] [(.int 0), (.ref a), (.int 0), (.ref d)]) := fun t_ k_ => R187 t_ (XS.iconst X187.here hx rfl (hb hby d18_7) (XS.istore X187.here hx rfl (hb hby d18_8) rfl (l' := #[rV a, iV 0, rV d, iV 0, iV 1, iV 0]) rfl (XS.iload X187.here hx rfl (hb hby d18_10) rfl (XS.iload X187.here hx rfl (hb hby d18_12) rfl (XS.icmpNo X187.here hx rfl (hb hby d18_14) rfl (tlt (by decide : (0 : Int32) < (1 : Int32))).2.1 (XS.aloadN X187.here hx rfl (hb hby d18_17) rfl rfl (XS.iloadN X187.here hx rfl (hb hby d18_18) rfl (XS.iinc X187.here hx rfl (hb hby d18_19) rfl (l' := #[rV a, iV 0, rV d, iV ((0 : Int32) + (1 : Int32)), iV 1, iV 0]) rfl (XS.aloadN X187.here hx rfl (hb hby d18_22) rfl rfl (XS.iloadN X187.here hx rfl (hb hby d18_23) rfl (XS.iinc X187.here hx rfl (hb hby d18_24) rfl (l' := #[rV a, iV ((0 : Int32) + (1 : Int32)), rV d, iV 1, iV 1, iV 0]) rfl k_)))))))))))
  obtain ⟨cl189, cl189A, cl189q, cl189S, cl189N, cl189H, cl189G⟩ := id P7
  have ib190 := inb_of (j := (0 : Int32)) cl189S ⟨by decide, by decide⟩
  have R191 : Go p e below P T187 (mkF m 32 #[rV a, iV 1, rV d, iV 1, iV 1, iV 0] [(.int (v0 &&& (255 : Int32))), (.int 0), (.ref d)]) := fun t_ k_ => R188 t_ (apS (X187.baloadBytes hx (v := (.int v0)) (by rw [K187]; exact cl189A.1) (State.isArrayOf_alike hZ.alike cl189A.2.1) cl189A.2.2 ib190 (cl189H.at ib190 rfl) rfl rfl (hb hby d18_27)) (XS.sipush X187.here hx rfl (hb hby d18_28) (XS.iand X187.here hx rfl (hb hby d18_31) rfl k_)))
  have er192 : (v0 &&& (255 : Int32)) = cc := hc0
  have R193 : Go p e below P T187 (mkF m 32 #[rV a, iV 1, rV d, iV 1, iV 1, iV 0] [(.int cc), (.int 0), (.ref d)]) := by have q := R191; rw [er192] at q; exact q
  obtain ⟨rv194, T194, Lc194, X194, hQ194, R194⟩ := callQ X187 hx hZ hown K187 R193 (putC_ l Z a0 hw [] d kd N vs 0 (0 : Int32) cc h0 n0 O0 P0 P1 P2 P8 P10 rfl hj hN hl) (hwI hw 112 rfl) (hwI hw 113 rfl) (hwI hw 88 rfl) (hwI hw 114 rfl) [] rfl (by rw [hml]; rfl) (lenOf pd_14998797 rfl) rfl (W := 0) (wR rfl) (hb hby d18_32)
  obtain ⟨rfl, N194q, K194, p194_0⟩ := hQ194
  have N194 := Fr.app N187 N194q
  have O194 := O0.keep K194 (allS P10 all0)
  have R195 : Go p e below P T194 (mkF m 41 #[rV a, iV 1, rV d, iV 1, iV 1, iV 1] []) := fun t_ k_ => R194 t_ (XS.iinc X194.here hx rfl (hb hby d18_35) rfl (l' := #[rV a, iV 1, rV d, iV 1, iV 1, iV ((0 : Int32) + (1 : Int32))]) rfl (XS.goto X194.here hx rfl (pc0 := 38) (pc' := 10) rfl (hb hby d18_38) (by decide) (by decide) (XS.iload X194.here hx rfl (hb hby d18_10) rfl (XS.iload X194.here hx rfl (hb hby d18_12) rfl (XS.icmpYes X194.here hx rfl (pc0 := 14) (pc' := 41) rfl (hb hby d18_14) rfl (flt (by decide : ¬ ((1 : Int32) < (1 : Int32)))).2.1 (by decide) (by decide) k_)))))
  obtain ⟨fs, hr, hrun, hended, hW, hsame⟩ := X194.leave (v := none) (fun _ => rfl)
  exact ⟨_, _, hP _ (R195 _ (X194.returnOut hx Bd.returns (hb hby d18_41) hr)), hrun, hended, _, _, rfl, ⟨rfl, N194, ((Keep.refl h0 [d]).trans K194 (allS (Or.inl (List.mem_of_getElem? (i := 0) rfl)) all0)), p194_0⟩, ⟨_, rfl⟩, hW, hsame.mono (by decide) (by decide)⟩
def Q_inL1_2_ (Z : State) (a : Addr) (ka : ClassId) (v0 : Int32) (v1 : Int32) (d : Addr) (kd : ClassId) (N : Int32) (vs : List Value) (n : Int32) (fm : Value) (cc : Int32) (h0 : Heap) (n0 : Nat) (rv_ : Option Value) (rh_ : Heap) (rL_ : List Loc) : Prop := (rv_ = none) ∧ (Fr n0 rL_) ∧ (Keep h0 rh_ [d]) ∧ (Arv Z rh_ d kd .byte N ((vs.set (2 * 0) (.int (loB cc))).set (2 * 0 + 1) (.int (hiB cc))) (.int 0))
set_option maxRecDepth 65536 in
set_option maxHeartbeats 40000000 in
theorem inL1_2_ (l : Launch) (Z : State) (a0 : Array Value) (hw : HW Z a0) (ws : List Jvm.Cond) (a : Addr) (ka : ClassId) (v0 : Int32) (v1 : Int32) (d : Addr) (kd : ClassId) (N : Int32) (vs : List Value) (n : Int32) (fm : Value) (cc : Int32) (h0 : Heap) (n0 : Nat) (O0 : Old Z n0 h0) (P0 : sT2 Z (.int 1)) (P1 : sT3 Z (.int 0)) (P2 : sT4 Z (.int 8)) (P3 : sT1 Z fm) (P4 : fm.isRef = true) (P5 : ¬ (((n ||| (0 : Int32)) ||| (1 : Int32)) < (0 : Int32))) (P6 : ¬ ((n - (0 : Int32)) < (1 : Int32))) (P7 : Arv Z h0 a ka .byte (2 : Int32) [(.int v0), (.int v1)] (.int 0)) (P8 : Arv Z h0 d kd .byte N vs (.int 0)) (P9 : (N >>> ((1 : Int32) &&& 31)) = n) (P10 : n0 ≤ d) (P11 : a ≠ d) (P12 : (v0 &&& (255 : Int32)) = cc) (P13 : 2 * 0 + 1 < vs.length) (P14 : N = Int32.ofNat vs.length) (P15 : vs.length ≤ 4000) :
    MetQ l yM28 (Jvm.Cond.code yM28 jdk_43_method_50_code 5 none) ws (rM 4 0 0 60) Z #[(.ref a), (.int 0), (.ref d), (.int 0), (.int 1)] h0 (Q_inL1_2_ Z a ka v0 v1 d kd N vs n fm cc h0 n0) := by
  have hfm := P4
  have hret := P9
  have hc0 := P12
  have hj := P13
  have hN := P14
  have hl := P15
  refine metQ (plainFor_of_name pn_27686809) hisR (fun m => ef17_RIRII m a (0 : Int32) d (0 : Int32) (1 : Int32)) ?_
  intro p e s m below meth c s₁ P Bd hx hby hml hZ hown hnm X0 e0 hP R0
  have N0 := Fr.nil n0
  have R196 : Go p e below P s₁ (mkF m 6 #[rV a, iV 0, rV d, iV 0, iV 1] [(.int 1), (.int 0), (.ref d), (.int 0), (.ref a)]) := fun t_ k_ => R0 t_ (XS.aloadN X0.here hx rfl (hb hby d17_0) rfl rfl (XS.iloadN X0.here hx rfl (hb hby d17_1) rfl (XS.aloadN X0.here hx rfl (hb hby d17_2) rfl rfl (XS.iloadN X0.here hx rfl (hb hby d17_3) rfl (XS.iload X0.here hx rfl (hb hby d17_4) rfl k_)))))
  obtain ⟨rv197, T197, Lc197, X197, hQ197, R197⟩ := callQ X0 hx hZ hown e0 R196 (inf1_2_ l Z a0 hw [] a ka v0 v1 d kd N vs n fm cc h0 n0 O0 P0 P1 P2 P3 hfm P5 P6 P7 P8 hret P10 P11 hc0 hj hN hl) (hwI hw 97 rfl) (hwI hw 98 rfl) (hwI hw 88 rfl) (hwI hw 99 rfl) [] rfl (by rw [hml]; rfl) (lenOf pd_17825761 rfl) rfl (W := 0) (wR rfl) (hb hby d17_6)
  obtain ⟨rfl, N197q, K197, p197_0⟩ := hQ197
  have N197 := Fr.app N0 N197q
  have O197 := O0.keep K197 (allS P10 all0)
  obtain ⟨fs, hr, hrun, hended, hW, hsame⟩ := X197.leave (v := none) (fun _ => rfl)
  exact ⟨_, _, hP _ (R197 _ (X197.returnOut hx Bd.returns (hb hby d17_9) hr)), hrun, hended, _, _, rfl, ⟨rfl, N197, ((Keep.refl h0 [d]).trans K197 (allS (Or.inl (List.mem_of_getElem? (i := 0) rfl)) all0)), p197_0⟩, ⟨_, rfl⟩, hW, hsame.mono (by decide) (by decide)⟩
def Q_inf1_3_ (Z : State) (a : Addr) (ka : ClassId) (v0 : Int32) (v1 : Int32) (v2 : Int32) (d : Addr) (kd : ClassId) (N : Int32) (vs : List Value) (n : Int32) (fm : Value) (cc : Int32) (h0 : Heap) (n0 : Nat) (rv_ : Option Value) (rh_ : Heap) (rL_ : List Loc) : Prop := (rv_ = none) ∧ (Fr n0 rL_) ∧ (Keep h0 rh_ [d]) ∧ (Arv Z rh_ d kd .byte N ((vs.set (2 * 0) (.int (loB cc))).set (2 * 0 + 1) (.int (hiB cc))) (.int 0))
set_option maxRecDepth 65536 in
set_option maxHeartbeats 40000000 in
theorem inf1_3_ (l : Launch) (Z : State) (a0 : Array Value) (hw : HW Z a0) (ws : List Jvm.Cond) (a : Addr) (ka : ClassId) (v0 : Int32) (v1 : Int32) (v2 : Int32) (d : Addr) (kd : ClassId) (N : Int32) (vs : List Value) (n : Int32) (fm : Value) (cc : Int32) (h0 : Heap) (n0 : Nat) (O0 : Old Z n0 h0) (P0 : sT2 Z (.int 1)) (P1 : sT3 Z (.int 0)) (P2 : sT4 Z (.int 8)) (P3 : sT1 Z fm) (P4 : fm.isRef = true) (P5 : ¬ (((n ||| (0 : Int32)) ||| (1 : Int32)) < (0 : Int32))) (P6 : ¬ ((n - (0 : Int32)) < (1 : Int32))) (P7 : Arv Z h0 a ka .byte (3 : Int32) [(.int v0), (.int v1), (.int v2)] (.int 0)) (P8 : Arv Z h0 d kd .byte N vs (.int 0)) (P9 : (N >>> ((1 : Int32) &&& 31)) = n) (P10 : n0 ≤ d) (P11 : a ≠ d) (P12 : (v0 &&& (255 : Int32)) = cc) (P13 : 2 * 0 + 1 < vs.length) (P14 : N = Int32.ofNat vs.length) (P15 : vs.length ≤ 4000) :
    MetQ l yM27 (Jvm.Cond.code yM27 jdk_52_method_86_code 6 none) ws (rM 3 0 0 43) Z #[(.ref a), (.int 0), (.ref d), (.int 0), (.int 1)] h0 (Q_inf1_3_ Z a ka v0 v1 v2 d kd N vs n fm cc h0 n0) := by
  have hfm := P4
  have hret := P9
  have hc0 := P12
  have hj := P13
  have hN := P14
  have hl := P15
  refine metQ (plainFor_of_name pn_46608628) hisR (fun m => ef18_RIRII m a (0 : Int32) d (0 : Int32) (1 : Int32)) ?_
  intro p e s m below meth c s₁ P Bd hx hby hml hZ hown hnm X0 e0 hP R0
  have N0 := Fr.nil n0
  have R198 : Go p e below P s₁ (mkF m 4 #[rV a, iV 0, rV d, iV 0, iV 1, uS] [(.ref d), (.int 1), (.int 0)]) := fun t_ k_ => R0 t_ (XS.iloadN X0.here hx rfl (hb hby d18_0) rfl (XS.iload X0.here hx rfl (hb hby d18_1) rfl (XS.aloadN X0.here hx rfl (hb hby d18_3) rfl rfl k_)))
  obtain ⟨rv199, T199, Lc199, X199, hQ199, R199⟩ := callQ X0 hx hZ hown e0 R198 (uChk_ l Z a0 hw [] (0 : Int32) (1 : Int32) n d kd N vs fm h0 n0 O0 P3 hfm P5 P6 P8 hret) (hwI hw 100 rfl) (hwI hw 101 rfl) (hwI hw 88 rfl) (hwI hw 102 rfl) [] rfl (by rw [hml]; rfl) (lenOf pd_86030037 rfl) rfl (W := 0) (wR rfl) (hb hby d18_4)
  obtain ⟨rfl, N199q, K199⟩ := hQ199
  have N199 := Fr.app N0 N199q
  have R200 : Go p e below P T199 (mkF m 27 #[rV a, iV 1, rV d, iV 1, iV 1, iV 0] [(.int 0), (.ref a), (.int 0), (.ref d)]) := fun t_ k_ => R199 t_ (XS.iconst X199.here hx rfl (hb hby d18_7) (XS.istore X199.here hx rfl (hb hby d18_8) rfl (l' := #[rV a, iV 0, rV d, iV 0, iV 1, iV 0]) rfl (XS.iload X199.here hx rfl (hb hby d18_10) rfl (XS.iload X199.here hx rfl (hb hby d18_12) rfl (XS.icmpNo X199.here hx rfl (hb hby d18_14) rfl (tlt (by decide : (0 : Int32) < (1 : Int32))).2.1 (XS.aloadN X199.here hx rfl (hb hby d18_17) rfl rfl (XS.iloadN X199.here hx rfl (hb hby d18_18) rfl (XS.iinc X199.here hx rfl (hb hby d18_19) rfl (l' := #[rV a, iV 0, rV d, iV ((0 : Int32) + (1 : Int32)), iV 1, iV 0]) rfl (XS.aloadN X199.here hx rfl (hb hby d18_22) rfl rfl (XS.iloadN X199.here hx rfl (hb hby d18_23) rfl (XS.iinc X199.here hx rfl (hb hby d18_24) rfl (l' := #[rV a, iV ((0 : Int32) + (1 : Int32)), rV d, iV 1, iV 1, iV 0]) rfl k_)))))))))))
  obtain ⟨cl201, cl201A, cl201q, cl201S, cl201N, cl201H, cl201G⟩ := id P7
  have ib202 := inb_of (j := (0 : Int32)) cl201S ⟨by decide, by decide⟩
  have R203 : Go p e below P T199 (mkF m 32 #[rV a, iV 1, rV d, iV 1, iV 1, iV 0] [(.int (v0 &&& (255 : Int32))), (.int 0), (.ref d)]) := fun t_ k_ => R200 t_ (apS (X199.baloadBytes hx (v := (.int v0)) (by rw [K199]; exact cl201A.1) (State.isArrayOf_alike hZ.alike cl201A.2.1) cl201A.2.2 ib202 (cl201H.at ib202 rfl) rfl rfl (hb hby d18_27)) (XS.sipush X199.here hx rfl (hb hby d18_28) (XS.iand X199.here hx rfl (hb hby d18_31) rfl k_)))
  have er204 : (v0 &&& (255 : Int32)) = cc := hc0
  have R205 : Go p e below P T199 (mkF m 32 #[rV a, iV 1, rV d, iV 1, iV 1, iV 0] [(.int cc), (.int 0), (.ref d)]) := by have q := R203; rw [er204] at q; exact q
  obtain ⟨rv206, T206, Lc206, X206, hQ206, R206⟩ := callQ X199 hx hZ hown K199 R205 (putC_ l Z a0 hw [] d kd N vs 0 (0 : Int32) cc h0 n0 O0 P0 P1 P2 P8 P10 rfl hj hN hl) (hwI hw 112 rfl) (hwI hw 113 rfl) (hwI hw 88 rfl) (hwI hw 114 rfl) [] rfl (by rw [hml]; rfl) (lenOf pd_14998797 rfl) rfl (W := 0) (wR rfl) (hb hby d18_32)
  obtain ⟨rfl, N206q, K206, p206_0⟩ := hQ206
  have N206 := Fr.app N199 N206q
  have O206 := O0.keep K206 (allS P10 all0)
  have R207 : Go p e below P T206 (mkF m 41 #[rV a, iV 1, rV d, iV 1, iV 1, iV 1] []) := fun t_ k_ => R206 t_ (XS.iinc X206.here hx rfl (hb hby d18_35) rfl (l' := #[rV a, iV 1, rV d, iV 1, iV 1, iV ((0 : Int32) + (1 : Int32))]) rfl (XS.goto X206.here hx rfl (pc0 := 38) (pc' := 10) rfl (hb hby d18_38) (by decide) (by decide) (XS.iload X206.here hx rfl (hb hby d18_10) rfl (XS.iload X206.here hx rfl (hb hby d18_12) rfl (XS.icmpYes X206.here hx rfl (pc0 := 14) (pc' := 41) rfl (hb hby d18_14) rfl (flt (by decide : ¬ ((1 : Int32) < (1 : Int32)))).2.1 (by decide) (by decide) k_)))))
  obtain ⟨fs, hr, hrun, hended, hW, hsame⟩ := X206.leave (v := none) (fun _ => rfl)
  exact ⟨_, _, hP _ (R207 _ (X206.returnOut hx Bd.returns (hb hby d18_41) hr)), hrun, hended, _, _, rfl, ⟨rfl, N206, ((Keep.refl h0 [d]).trans K206 (allS (Or.inl (List.mem_of_getElem? (i := 0) rfl)) all0)), p206_0⟩, ⟨_, rfl⟩, hW, hsame.mono (by decide) (by decide)⟩
def Q_inL1_3_ (Z : State) (a : Addr) (ka : ClassId) (v0 : Int32) (v1 : Int32) (v2 : Int32) (d : Addr) (kd : ClassId) (N : Int32) (vs : List Value) (n : Int32) (fm : Value) (cc : Int32) (h0 : Heap) (n0 : Nat) (rv_ : Option Value) (rh_ : Heap) (rL_ : List Loc) : Prop := (rv_ = none) ∧ (Fr n0 rL_) ∧ (Keep h0 rh_ [d]) ∧ (Arv Z rh_ d kd .byte N ((vs.set (2 * 0) (.int (loB cc))).set (2 * 0 + 1) (.int (hiB cc))) (.int 0))
set_option maxRecDepth 65536 in
set_option maxHeartbeats 40000000 in
theorem inL1_3_ (l : Launch) (Z : State) (a0 : Array Value) (hw : HW Z a0) (ws : List Jvm.Cond) (a : Addr) (ka : ClassId) (v0 : Int32) (v1 : Int32) (v2 : Int32) (d : Addr) (kd : ClassId) (N : Int32) (vs : List Value) (n : Int32) (fm : Value) (cc : Int32) (h0 : Heap) (n0 : Nat) (O0 : Old Z n0 h0) (P0 : sT2 Z (.int 1)) (P1 : sT3 Z (.int 0)) (P2 : sT4 Z (.int 8)) (P3 : sT1 Z fm) (P4 : fm.isRef = true) (P5 : ¬ (((n ||| (0 : Int32)) ||| (1 : Int32)) < (0 : Int32))) (P6 : ¬ ((n - (0 : Int32)) < (1 : Int32))) (P7 : Arv Z h0 a ka .byte (3 : Int32) [(.int v0), (.int v1), (.int v2)] (.int 0)) (P8 : Arv Z h0 d kd .byte N vs (.int 0)) (P9 : (N >>> ((1 : Int32) &&& 31)) = n) (P10 : n0 ≤ d) (P11 : a ≠ d) (P12 : (v0 &&& (255 : Int32)) = cc) (P13 : 2 * 0 + 1 < vs.length) (P14 : N = Int32.ofNat vs.length) (P15 : vs.length ≤ 4000) :
    MetQ l yM28 (Jvm.Cond.code yM28 jdk_43_method_50_code 5 none) ws (rM 4 0 0 60) Z #[(.ref a), (.int 0), (.ref d), (.int 0), (.int 1)] h0 (Q_inL1_3_ Z a ka v0 v1 v2 d kd N vs n fm cc h0 n0) := by
  have hfm := P4
  have hret := P9
  have hc0 := P12
  have hj := P13
  have hN := P14
  have hl := P15
  refine metQ (plainFor_of_name pn_27686809) hisR (fun m => ef17_RIRII m a (0 : Int32) d (0 : Int32) (1 : Int32)) ?_
  intro p e s m below meth c s₁ P Bd hx hby hml hZ hown hnm X0 e0 hP R0
  have N0 := Fr.nil n0
  have R208 : Go p e below P s₁ (mkF m 6 #[rV a, iV 0, rV d, iV 0, iV 1] [(.int 1), (.int 0), (.ref d), (.int 0), (.ref a)]) := fun t_ k_ => R0 t_ (XS.aloadN X0.here hx rfl (hb hby d17_0) rfl rfl (XS.iloadN X0.here hx rfl (hb hby d17_1) rfl (XS.aloadN X0.here hx rfl (hb hby d17_2) rfl rfl (XS.iloadN X0.here hx rfl (hb hby d17_3) rfl (XS.iload X0.here hx rfl (hb hby d17_4) rfl k_)))))
  obtain ⟨rv209, T209, Lc209, X209, hQ209, R209⟩ := callQ X0 hx hZ hown e0 R208 (inf1_3_ l Z a0 hw [] a ka v0 v1 v2 d kd N vs n fm cc h0 n0 O0 P0 P1 P2 P3 hfm P5 P6 P7 P8 hret P10 P11 hc0 hj hN hl) (hwI hw 97 rfl) (hwI hw 98 rfl) (hwI hw 88 rfl) (hwI hw 99 rfl) [] rfl (by rw [hml]; rfl) (lenOf pd_17825761 rfl) rfl (W := 0) (wR rfl) (hb hby d17_6)
  obtain ⟨rfl, N209q, K209, p209_0⟩ := hQ209
  have N209 := Fr.app N0 N209q
  have O209 := O0.keep K209 (allS P10 all0)
  obtain ⟨fs, hr, hrun, hended, hW, hsame⟩ := X209.leave (v := none) (fun _ => rfl)
  exact ⟨_, _, hP _ (R209 _ (X209.returnOut hx Bd.returns (hb hby d17_9) hr)), hrun, hended, _, _, rfl, ⟨rfl, N209, ((Keep.refl h0 [d]).trans K209 (allS (Or.inl (List.mem_of_getElem? (i := 0) rfl)) all0)), p209_0⟩, ⟨_, rfl⟩, hW, hsame.mono (by decide) (by decide)⟩
theorem ef24_RIIRII (m : MethodId) (x0 : Addr) (x1 : Int32) (x2 : Int32) (x3 : Addr) (x4 : Int32) (x5 : Int32) : entryFrame m #[(.ref x0), (.int x1), (.int x2), (.ref x3), (.int x4), (.int x5)] 11 = mkF m 0 #[rV x0, iV x1, iV x2, rV x3, iV x4, iV x5, uS, uS, uS, uS, uS] [] := by first | (simp [entryFrame, mkF, argsToLocals, Value.category]; done) | rfl
theorem d24_0 : decode jdk_42_method_38_code 0 = .ok (.iload_n 1, 1) := by decide +kernel
theorem d24_1 : decode jdk_42_method_38_code 1 = .ok (.iload_n 2, 1) := by decide +kernel
theorem d24_2 : decode jdk_42_method_38_code 2 = .ok (.if_icmp .ge 619, 3) := by decide +kernel
theorem d24_5 : decode jdk_42_method_38_code 5 = .ok (.aload_n 0, 1) := by decide +kernel
theorem d24_6 : decode jdk_42_method_38_code 6 = .ok (.iload_n 1, 1) := by decide +kernel
theorem d24_7 : decode jdk_42_method_38_code 7 = .ok (.iinc 1 1, 3) := by decide +kernel
theorem d24_10 : decode jdk_42_method_38_code 10 = .ok (.baload, 1) := by decide +kernel
theorem d24_11 : decode jdk_42_method_38_code 11 = .ok (.istore 6, 2) := by decide +kernel
theorem d24_13 : decode jdk_42_method_38_code 13 = .ok (.iload 6, 2) := by decide +kernel
theorem d24_15 : decode jdk_42_method_38_code 15 = .ok (.ifCond .lt 18, 3) := by decide +kernel
theorem d24_33 : decode jdk_42_method_38_code 33 = .ok (.iload 6, 2) := by decide +kernel
theorem d24_35 : decode jdk_42_method_38_code 35 = .ok (.iconst 5, 1) := by decide +kernel
theorem d24_36 : decode jdk_42_method_38_code 36 = .ok (.ishr, 1) := by decide +kernel
theorem d24_37 : decode jdk_42_method_38_code 37 = .ok (.bipush (-2), 2) := by decide +kernel
theorem d24_39 : decode jdk_42_method_38_code 39 = .ok (.if_icmp .ne 104, 3) := by decide +kernel
theorem d24_42 : decode jdk_42_method_38_code 42 = .ok (.iload 6, 2) := by decide +kernel
theorem d24_44 : decode jdk_42_method_38_code 44 = .ok (.bipush 30, 2) := by decide +kernel
theorem d24_46 : decode jdk_42_method_38_code 46 = .ok (.iand, 1) := by decide +kernel
theorem d24_47 : decode jdk_42_method_38_code 47 = .ok (.ifCond .eq 96, 3) := by decide +kernel
theorem d24_50 : decode jdk_42_method_38_code 50 = .ok (.iload_n 1, 1) := by decide +kernel
theorem d24_51 : decode jdk_42_method_38_code 51 = .ok (.iload_n 2, 1) := by decide +kernel
theorem d24_52 : decode jdk_42_method_38_code 52 = .ok (.if_icmp .ge 67, 3) := by decide +kernel
theorem d24_119 : decode jdk_42_method_38_code 119 = .ok (.iload 5, 2) := by decide +kernel
theorem d24_121 : decode jdk_42_method_38_code 121 = .ok (.ifCond .ne 8, 3) := by decide +kernel
theorem d24_129 : decode jdk_42_method_38_code 129 = .ok (.aload_n 3, 1) := by decide +kernel
theorem d24_130 : decode jdk_42_method_38_code 130 = .ok (.iload 4, 2) := by decide +kernel
theorem d24_132 : decode jdk_42_method_38_code 132 = .ok (.iinc 4 1, 3) := by decide +kernel
theorem d24_135 : decode jdk_42_method_38_code 135 = .ok (.ldc 132, 2) := by decide +kernel
theorem d24_137 : decode jdk_42_method_38_code 137 = .ok (.invokestatic 64, 3) := by decide +kernel
theorem d24_140 : decode jdk_42_method_38_code 140 = .ok (.goto 481, 3) := by decide +kernel
theorem d24_621 : decode jdk_42_method_38_code 621 = .ok (.iload 4, 2) := by decide +kernel
theorem d24_623 : decode jdk_42_method_38_code 623 = .ok (.ireturn, 1) := by decide +kernel
theorem d24_143 : decode jdk_42_method_38_code 143 = .ok (.iload 6, 2) := by decide +kernel
theorem d24_145 : decode jdk_42_method_38_code 145 = .ok (.iconst 4, 1) := by decide +kernel
theorem d24_146 : decode jdk_42_method_38_code 146 = .ok (.ishr, 1) := by decide +kernel
theorem d24_147 : decode jdk_42_method_38_code 147 = .ok (.bipush (-2), 2) := by decide +kernel
theorem d24_149 : decode jdk_42_method_38_code 149 = .ok (.if_icmp .ne 200, 3) := by decide +kernel
theorem d24_152 : decode jdk_42_method_38_code 152 = .ok (.iload_n 1, 1) := by decide +kernel
theorem d24_153 : decode jdk_42_method_38_code 153 = .ok (.iconst 1, 1) := by decide +kernel
theorem d24_154 : decode jdk_42_method_38_code 154 = .ok (.iadd, 1) := by decide +kernel
theorem d24_155 : decode jdk_42_method_38_code 155 = .ok (.iload_n 2, 1) := by decide +kernel
theorem d24_156 : decode jdk_42_method_38_code 156 = .ok (.if_icmp .ge 127, 3) := by decide +kernel
theorem d24_283 : decode jdk_42_method_38_code 283 = .ok (.iload_n 1, 1) := by decide +kernel
theorem d24_284 : decode jdk_42_method_38_code 284 = .ok (.iload_n 2, 1) := by decide +kernel
theorem d24_285 : decode jdk_42_method_38_code 285 = .ok (.if_icmp .ge 40, 3) := by decide +kernel
theorem d24_325 : decode jdk_42_method_38_code 325 = .ok (.iload 5, 2) := by decide +kernel
theorem d24_327 : decode jdk_42_method_38_code 327 = .ok (.ifCond .ne 8, 3) := by decide +kernel
theorem d24_335 : decode jdk_42_method_38_code 335 = .ok (.aload_n 3, 1) := by decide +kernel
theorem d24_336 : decode jdk_42_method_38_code 336 = .ok (.iload 4, 2) := by decide +kernel
theorem d24_338 : decode jdk_42_method_38_code 338 = .ok (.iinc 4 1, 3) := by decide +kernel
theorem d24_341 : decode jdk_42_method_38_code 341 = .ok (.ldc 132, 2) := by decide +kernel
theorem d24_343 : decode jdk_42_method_38_code 343 = .ok (.invokestatic 64, 3) := by decide +kernel
theorem d24_346 : decode jdk_42_method_38_code 346 = .ok (.goto 275, 3) := by decide +kernel
theorem d24_349 : decode jdk_42_method_38_code 349 = .ok (.iload 6, 2) := by decide +kernel
theorem d24_351 : decode jdk_42_method_38_code 351 = .ok (.iconst 3, 1) := by decide +kernel
theorem d24_352 : decode jdk_42_method_38_code 352 = .ok (.ishr, 1) := by decide +kernel
theorem d24_353 : decode jdk_42_method_38_code 353 = .ok (.bipush (-2), 2) := by decide +kernel
theorem d24_355 : decode jdk_42_method_38_code 355 = .ok (.if_icmp .ne 240, 3) := by decide +kernel
theorem d24_358 : decode jdk_42_method_38_code 358 = .ok (.iload_n 1, 1) := by decide +kernel
theorem d24_359 : decode jdk_42_method_38_code 359 = .ok (.iconst 2, 1) := by decide +kernel
theorem d24_360 : decode jdk_42_method_38_code 360 = .ok (.iadd, 1) := by decide +kernel
theorem d24_361 : decode jdk_42_method_38_code 361 = .ok (.iload_n 2, 1) := by decide +kernel
theorem d24_362 : decode jdk_42_method_38_code 362 = .ok (.if_icmp .ge 128, 3) := by decide +kernel
theorem d24_490 : decode jdk_42_method_38_code 490 = .ok (.iload 6, 2) := by decide +kernel
theorem d24_492 : decode jdk_42_method_38_code 492 = .ok (.sipush 255, 3) := by decide +kernel
theorem d24_495 : decode jdk_42_method_38_code 495 = .ok (.iand, 1) := by decide +kernel
theorem d24_496 : decode jdk_42_method_38_code 496 = .ok (.istore 6, 2) := by decide +kernel
theorem d24_498 : decode jdk_42_method_38_code 498 = .ok (.iload 6, 2) := by decide +kernel
theorem d24_500 : decode jdk_42_method_38_code 500 = .ok (.sipush 244, 3) := by decide +kernel
theorem d24_503 : decode jdk_42_method_38_code 503 = .ok (.if_icmp .gt 23, 3) := by decide +kernel
theorem d24_526 : decode jdk_42_method_38_code 526 = .ok (.iload 5, 2) := by decide +kernel
theorem d24_528 : decode jdk_42_method_38_code 528 = .ok (.ifCond .ne 10, 3) := by decide +kernel
theorem d24_538 : decode jdk_42_method_38_code 538 = .ok (.aload_n 3, 1) := by decide +kernel
theorem d24_539 : decode jdk_42_method_38_code 539 = .ok (.iload 4, 2) := by decide +kernel
theorem d24_541 : decode jdk_42_method_38_code 541 = .ok (.iinc 4 1, 3) := by decide +kernel
theorem d24_544 : decode jdk_42_method_38_code 544 = .ok (.ldc 132, 2) := by decide +kernel
theorem d24_546 : decode jdk_42_method_38_code 546 = .ok (.invokestatic 64, 3) := by decide +kernel
theorem d24_549 : decode jdk_42_method_38_code 549 = .ok (.goto (-549), 3) := by decide +kernel
theorem d24_506 : decode jdk_42_method_38_code 506 = .ok (.iload_n 1, 1) := by decide +kernel
theorem d24_507 : decode jdk_42_method_38_code 507 = .ok (.iload_n 2, 1) := by decide +kernel
theorem d24_508 : decode jdk_42_method_38_code 508 = .ok (.if_icmp .ge 44, 3) := by decide +kernel
theorem d24_552 : decode jdk_42_method_38_code 552 = .ok (.iload 5, 2) := by decide +kernel
theorem d24_554 : decode jdk_42_method_38_code 554 = .ok (.ifCond .ne 10, 3) := by decide +kernel
theorem d24_564 : decode jdk_42_method_38_code 564 = .ok (.iinc 1 1, 3) := by decide +kernel
theorem d24_567 : decode jdk_42_method_38_code 567 = .ok (.aload_n 3, 1) := by decide +kernel
theorem d24_568 : decode jdk_42_method_38_code 568 = .ok (.iload 4, 2) := by decide +kernel
theorem d24_570 : decode jdk_42_method_38_code 570 = .ok (.iinc 4 1, 3) := by decide +kernel
theorem d24_573 : decode jdk_42_method_38_code 573 = .ok (.ldc 132, 2) := by decide +kernel
theorem d24_575 : decode jdk_42_method_38_code 575 = .ok (.invokestatic 64, 3) := by decide +kernel
theorem d24_578 : decode jdk_42_method_38_code 578 = .ok (.iload_n 1, 1) := by decide +kernel
theorem d24_579 : decode jdk_42_method_38_code 579 = .ok (.iload_n 2, 1) := by decide +kernel
theorem d24_580 : decode jdk_42_method_38_code 580 = .ok (.if_icmp .ge 41, 3) := by decide +kernel
theorem d24_595 : decode jdk_42_method_38_code 595 = .ok (.iload 5, 2) := by decide +kernel
theorem d24_597 : decode jdk_42_method_38_code 597 = .ok (.ifCond .ne 10, 3) := by decide +kernel
theorem d24_607 : decode jdk_42_method_38_code 607 = .ok (.aload_n 3, 1) := by decide +kernel
theorem d24_608 : decode jdk_42_method_38_code 608 = .ok (.iload 4, 2) := by decide +kernel
theorem d24_610 : decode jdk_42_method_38_code 610 = .ok (.iinc 4 1, 3) := by decide +kernel
theorem d24_613 : decode jdk_42_method_38_code 613 = .ok (.ldc 132, 2) := by decide +kernel
theorem d24_615 : decode jdk_42_method_38_code 615 = .ok (.invokestatic 64, 3) := by decide +kernel
theorem d24_618 : decode jdk_42_method_38_code 618 = .ok (.goto (-618), 3) := by decide +kernel
def Q_decU20h_ (Z : State) (a : Addr) (ka : ClassId) (v0 : Int32) (v1 : Int32) (d : Addr) (kd : ClassId) (vs : List Value) (h0 : Heap) (n0 : Nat) (rv_ : Option Value) (rh_ : Heap) (rL_ : List Loc) : Prop := (rv_ = some (.int 2)) ∧ (Fr n0 rL_) ∧ (Keep h0 rh_ [d]) ∧ (Arv Z rh_ d kd .byte (4 : Int32) ((vs.set (2 * 1) (.int (loB (65533 : Int32)))).set (2 * 1 + 1) (.int (hiB (65533 : Int32)))) (.int 0))
set_option maxRecDepth 65536 in
set_option maxHeartbeats 40000000 in
theorem decU20h_ (l : Launch) (Z : State) (a0 : Array Value) (hw : HW Z a0) (ws : List Jvm.Cond) (a : Addr) (ka : ClassId) (v0 : Int32) (v1 : Int32) (d : Addr) (kd : ClassId) (vs : List Value) (h0 : Heap) (n0 : Nat) (O0 : Old Z n0 h0) (P0 : sT2 Z (.int 1)) (P1 : sT3 Z (.int 0)) (P2 : sT4 Z (.int 8)) (P3 : Arv Z h0 a ka .byte (2 : Int32) [(.int v0), (.int v1)] (.int 0)) (P4 : Arv Z h0 d kd .byte (4 : Int32) vs (.int 0)) (P5 : n0 ≤ d) (P6 : a ≠ d) (P7 : vs.length = 4) (P8 : v1 < (0 : Int32)) :
    MetQ l yM29 (Jvm.Cond.code yM29 jdk_42_method_38_code 11 (some .int)) ws (rM 1 0 0 14) Z #[(.ref a), (.int 1), (.int 2), (.ref d), (.int 1), (.int 1)] h0 (Q_decU20h_ Z a ka v0 v1 d kd vs h0 n0) := by
  have hlen := P7
  refine metQ (plainFor_of_name pn_47582652) hisR (fun m => ef24_RIIRII m a (1 : Int32) (2 : Int32) d (1 : Int32) (1 : Int32)) ?_
  intro p e s m below meth c s₁ P Bd hx hby hml hZ hown hnm X0 e0 hP R0
  have N0 := Fr.nil n0
  have R210 : Go p e below P s₁ (mkF m 10 #[rV a, iV 2, iV 2, rV d, iV 1, iV 1, uS, uS, uS, uS, uS] [(.int 1), (.ref a)]) := fun t_ k_ => R0 t_ (XS.iloadN X0.here hx rfl (hb hby d24_0) rfl (XS.iloadN X0.here hx rfl (hb hby d24_1) rfl (XS.icmpNo X0.here hx rfl (hb hby d24_2) rfl (tlt (by decide : (1 : Int32) < (2 : Int32))).2.1 (XS.aloadN X0.here hx rfl (hb hby d24_5) rfl rfl (XS.iloadN X0.here hx rfl (hb hby d24_6) rfl (XS.iinc X0.here hx rfl (hb hby d24_7) rfl (l' := #[rV a, iV ((1 : Int32) + (1 : Int32)), iV 2, rV d, iV 1, iV 1, uS, uS, uS, uS, uS]) rfl k_))))))
  obtain ⟨cl211, cl211A, cl211q, cl211S, cl211N, cl211H, cl211G⟩ := id P3
  have ib212 := inb_of (j := (1 : Int32)) cl211S ⟨by decide, by decide⟩
  have R213 : Go p e below P s₁ (mkF m 33 #[rV a, iV 2, iV 2, rV d, iV 1, iV 1, iV v1, uS, uS, uS, uS] []) := fun t_ k_ => R210 t_ (apS (X0.baloadBytes hx (v := (.int v1)) (by rw [e0]; exact cl211A.1) (State.isArrayOf_alike hZ.alike cl211A.2.1) cl211A.2.2 ib212 (cl211H.at ib212 rfl) rfl rfl (hb hby d24_10)) (XS.istore X0.here hx rfl (hb hby d24_11) rfl (l' := #[rV a, iV 2, iV 2, rV d, iV 1, iV 1, iV v1, uS, uS, uS, uS]) rfl (XS.iload X0.here hx rfl (hb hby d24_13) rfl (XS.ifYes X0.here hx rfl (pc0 := 15) (pc' := 33) rfl (hb hby d24_15) rfl ((if0 _ _).trans (tlt P8).1) (by decide) (by decide) k_))))
  by_cases j5214 : (v1 >>> ((5 : Int32) &&& 31)) = (-2 : Int32) ∧ ¬ (v1 &&& (30 : Int32)) = (0 : Int32)
  · have R215 : Go p e below P s₁ (mkF m 119 #[rV a, iV 2, iV 2, rV d, iV 1, iV 1, iV v1, uS, uS, uS, uS] []) := fun t_ k_ => R213 t_ (XS.iload X0.here hx rfl (hb hby d24_33) rfl (XS.iconst X0.here hx rfl (hb hby d24_35) (XS.ishr X0.here hx rfl (hb hby d24_36) rfl (XS.bipush X0.here hx rfl (hb hby d24_37) (XS.icmpNo X0.here hx rfl (hb hby d24_39) rfl (teq j5214.1).2 (XS.iload X0.here hx rfl (hb hby d24_42) rfl (XS.bipush X0.here hx rfl (hb hby d24_44) (XS.iand X0.here hx rfl (hb hby d24_46) rfl (XS.ifNo X0.here hx rfl (hb hby d24_47) rfl ((if0 _ _).trans (feq j5214.2).1) (XS.iloadN X0.here hx rfl (hb hby d24_50) rfl (XS.iloadN X0.here hx rfl (hb hby d24_51) rfl (XS.icmpYes X0.here hx rfl (pc0 := 52) (pc' := 119) rfl (hb hby d24_52) rfl (flt (by decide : ¬ ((2 : Int32) < (2 : Int32)))).2.1 (by decide) (by decide) k_))))))))))))
    have R216 : Go p e below P s₁ (mkF m 137 #[rV a, iV 2, iV 2, rV d, iV 2, iV 1, iV v1, uS, uS, uS, uS] [(.int 65533), (.int 1), (.ref d)]) := fun t_ k_ => R215 t_ (XS.iload X0.here hx rfl (hb hby d24_119) rfl (XS.ifYes X0.here hx rfl (pc0 := 121) (pc' := 129) rfl (hb hby d24_121) rfl ((if0 _ _).trans (feq (by decide : ¬ ((1 : Int32) = (0 : Int32)))).2) (by decide) (by decide) (XS.aloadN X0.here hx rfl (hb hby d24_129) rfl rfl (XS.iload X0.here hx rfl (hb hby d24_130) rfl (XS.iinc X0.here hx rfl (hb hby d24_132) rfl (l' := #[rV a, iV 2, iV 2, rV d, iV ((1 : Int32) + (1 : Int32)), iV 1, iV v1, uS, uS, uS, uS]) rfl (apS (X0.ldcInt hx hown (mvT hZ (hwI hw 121 rfl)) rfl (hb hby d24_135)) k_))))))
    obtain ⟨rv217, T217, Lc217, X217, hQ217, R217⟩ := callQ X0 hx hZ hown e0 R216 (putC_ l Z a0 hw [] d kd (4 : Int32) vs 1 (1 : Int32) (65533 : Int32) h0 n0 O0 P0 P1 P2 P4 P5 rfl (lj hlen (by decide)) (lN hlen (by decide)) (ll hlen (by decide))) (hwI hw 122 rfl) (hwI hw 113 rfl) (hwI hw 88 rfl) (hwI hw 114 rfl) [] rfl (by rw [hml]; rfl) (lenOf pd_14998797 rfl) rfl (W := 0) (wR rfl) (hb hby d24_137)
    obtain ⟨rfl, N217q, K217, p217_0⟩ := hQ217
    have N217 := Fr.app N0 N217q
    have O217 := O0.keep K217 (allS P5 all0)
    have R218 : Go p e below P T217 (mkF m 623 #[rV a, iV 2, iV 2, rV d, iV 2, iV 1, iV v1, uS, uS, uS, uS] [(.int 2)]) := fun t_ k_ => R217 t_ (XS.goto X217.here hx rfl (pc0 := 140) (pc' := 621) rfl (hb hby d24_140) (by decide) (by decide) (XS.iload X217.here hx rfl (hb hby d24_621) rfl k_))
    obtain ⟨fs, hr, hrun, hended, hW, hsame⟩ := X217.leave (v := some (.int 2)) (fun h => by rw [Bd.returns] at h; cases h)
    exact ⟨_, _, hP _ (R218 _ (retI X217 hx Bd.returns (hb hby d24_623) hr)), hrun, hended, _, _, rfl, ⟨rfl, N217, ((Keep.refl h0 [d]).trans K217 (allS (Or.inl (List.mem_of_getElem? (i := 0) rfl)) all0)), p217_0⟩, ⟨_, rfl⟩, hW, hsame.mono (by decide) (by decide)⟩
  · have R219 : Go p e below P s₁ (mkF m 143 #[rV a, iV 2, iV 2, rV d, iV 1, iV 1, iV v1, uS, uS, uS, uS] []) := by
      have R221 : Go p e below P s₁ (mkF m 39 #[rV a, iV 2, iV 2, rV d, iV 1, iV 1, iV v1, uS, uS, uS, uS] [(.int (-2)), (.int (v1 >>> ((5 : Int32) &&& 31)))]) := fun t_ k_ => R213 t_ (XS.iload X0.here hx rfl (hb hby d24_33) rfl (XS.iconst X0.here hx rfl (hb hby d24_35) (XS.ishr X0.here hx rfl (hb hby d24_36) rfl (XS.bipush X0.here hx rfl (hb hby d24_37) k_))))
      by_cases hc222 : (v1 >>> ((5 : Int32) &&& 31)) = (-2 : Int32)
      · have R223 : Go p e below P s₁ (mkF m 143 #[rV a, iV 2, iV 2, rV d, iV 1, iV 1, iV v1, uS, uS, uS, uS] []) := fun t_ k_ => R221 t_ (XS.icmpNo X0.here hx rfl (hb hby d24_39) rfl (teq hc222).2 (XS.iload X0.here hx rfl (hb hby d24_42) rfl (XS.bipush X0.here hx rfl (hb hby d24_44) (XS.iand X0.here hx rfl (hb hby d24_46) rfl (XS.ifYes X0.here hx rfl (pc0 := 47) (pc' := 143) rfl (hb hby d24_47) rfl ((if0 _ _).trans (teq (Decidable.of_not_not fun q => j5214 ⟨hc222, q⟩)).1) (by decide) (by decide) k_)))))
        exact R223
      · have R224 : Go p e below P s₁ (mkF m 143 #[rV a, iV 2, iV 2, rV d, iV 1, iV 1, iV v1, uS, uS, uS, uS] []) := fun t_ k_ => R221 t_ (XS.icmpYes X0.here hx rfl (pc0 := 39) (pc' := 143) rfl (hb hby d24_39) rfl (feq hc222).2 (by decide) (by decide) k_)
        exact R224
    have R225 : Go p e below P s₁ (mkF m 149 #[rV a, iV 2, iV 2, rV d, iV 1, iV 1, iV v1, uS, uS, uS, uS] [(.int (-2)), (.int (v1 >>> ((4 : Int32) &&& 31)))]) := fun t_ k_ => R219 t_ (XS.iload X0.here hx rfl (hb hby d24_143) rfl (XS.iconst X0.here hx rfl (hb hby d24_145) (XS.ishr X0.here hx rfl (hb hby d24_146) rfl (XS.bipush X0.here hx rfl (hb hby d24_147) k_))))
    by_cases hc226 : (v1 >>> ((4 : Int32) &&& 31)) = (-2 : Int32)
    · have R227 : Go p e below P s₁ (mkF m 336 #[rV a, iV 2, iV 2, rV d, iV 1, iV 1, iV v1, uS, uS, uS, uS] [(.ref d)]) := fun t_ k_ => R225 t_ (XS.icmpNo X0.here hx rfl (hb hby d24_149) rfl (teq hc226).2 (XS.iloadN X0.here hx rfl (hb hby d24_152) rfl (XS.iconst X0.here hx rfl (hb hby d24_153) (XS.iadd X0.here hx rfl (hb hby d24_154) rfl (XS.iloadN X0.here hx rfl (hb hby d24_155) rfl (XS.icmpYes X0.here hx rfl (pc0 := 156) (pc' := 283) rfl (hb hby d24_156) rfl (flt (by decide : ¬ ((3 : Int32) < (2 : Int32)))).2.1 (by decide) (by decide) (XS.iloadN X0.here hx rfl (hb hby d24_283) rfl (XS.iloadN X0.here hx rfl (hb hby d24_284) rfl (XS.icmpYes X0.here hx rfl (pc0 := 285) (pc' := 325) rfl (hb hby d24_285) rfl (flt (by decide : ¬ ((2 : Int32) < (2 : Int32)))).2.1 (by decide) (by decide) (XS.iload X0.here hx rfl (hb hby d24_325) rfl (XS.ifYes X0.here hx rfl (pc0 := 327) (pc' := 335) rfl (hb hby d24_327) rfl ((if0 _ _).trans (feq (by decide : ¬ ((1 : Int32) = (0 : Int32)))).2) (by decide) (by decide) (XS.aloadN X0.here hx rfl (hb hby d24_335) rfl rfl k_))))))))))))
      have R228 : Go p e below P s₁ (mkF m 343 #[rV a, iV 2, iV 2, rV d, iV 2, iV 1, iV v1, uS, uS, uS, uS] [(.int 65533), (.int 1), (.ref d)]) := fun t_ k_ => R227 t_ (XS.iload X0.here hx rfl (hb hby d24_336) rfl (XS.iinc X0.here hx rfl (hb hby d24_338) rfl (l' := #[rV a, iV 2, iV 2, rV d, iV ((1 : Int32) + (1 : Int32)), iV 1, iV v1, uS, uS, uS, uS]) rfl (apS (X0.ldcInt hx hown (mvT hZ (hwI hw 121 rfl)) rfl (hb hby d24_341)) k_)))
      obtain ⟨rv229, T229, Lc229, X229, hQ229, R229⟩ := callQ X0 hx hZ hown e0 R228 (putC_ l Z a0 hw [] d kd (4 : Int32) vs 1 (1 : Int32) (65533 : Int32) h0 n0 O0 P0 P1 P2 P4 P5 rfl (lj hlen (by decide)) (lN hlen (by decide)) (ll hlen (by decide))) (hwI hw 122 rfl) (hwI hw 113 rfl) (hwI hw 88 rfl) (hwI hw 114 rfl) [] rfl (by rw [hml]; rfl) (lenOf pd_14998797 rfl) rfl (W := 0) (wR rfl) (hb hby d24_343)
      obtain ⟨rfl, N229q, K229, p229_0⟩ := hQ229
      have N229 := Fr.app N0 N229q
      have O229 := O0.keep K229 (allS P5 all0)
      have R230 : Go p e below P T229 (mkF m 623 #[rV a, iV 2, iV 2, rV d, iV 2, iV 1, iV v1, uS, uS, uS, uS] [(.int 2)]) := fun t_ k_ => R229 t_ (XS.goto X229.here hx rfl (pc0 := 346) (pc' := 621) rfl (hb hby d24_346) (by decide) (by decide) (XS.iload X229.here hx rfl (hb hby d24_621) rfl k_))
      obtain ⟨fs, hr, hrun, hended, hW, hsame⟩ := X229.leave (v := some (.int 2)) (fun h => by rw [Bd.returns] at h; cases h)
      exact ⟨_, _, hP _ (R230 _ (retI X229 hx Bd.returns (hb hby d24_623) hr)), hrun, hended, _, _, rfl, ⟨rfl, N229, ((Keep.refl h0 [d]).trans K229 (allS (Or.inl (List.mem_of_getElem? (i := 0) rfl)) all0)), p229_0⟩, ⟨_, rfl⟩, hW, hsame.mono (by decide) (by decide)⟩
    · have R231 : Go p e below P s₁ (mkF m 355 #[rV a, iV 2, iV 2, rV d, iV 1, iV 1, iV v1, uS, uS, uS, uS] [(.int (-2)), (.int (v1 >>> ((3 : Int32) &&& 31)))]) := fun t_ k_ => R225 t_ (XS.icmpYes X0.here hx rfl (pc0 := 149) (pc' := 349) rfl (hb hby d24_149) rfl (feq hc226).2 (by decide) (by decide) (XS.iload X0.here hx rfl (hb hby d24_349) rfl (XS.iconst X0.here hx rfl (hb hby d24_351) (XS.ishr X0.here hx rfl (hb hby d24_352) rfl (XS.bipush X0.here hx rfl (hb hby d24_353) k_)))))
      by_cases hc232 : (v1 >>> ((3 : Int32) &&& 31)) = (-2 : Int32)
      · have R233 : Go p e below P s₁ (mkF m 503 #[rV a, iV 2, iV 2, rV d, iV 1, iV 1, iV (v1 &&& (255 : Int32)), uS, uS, uS, uS] [(.int 244), (.int (v1 &&& (255 : Int32)))]) := fun t_ k_ => R231 t_ (XS.icmpNo X0.here hx rfl (hb hby d24_355) rfl (teq hc232).2 (XS.iloadN X0.here hx rfl (hb hby d24_358) rfl (XS.iconst X0.here hx rfl (hb hby d24_359) (XS.iadd X0.here hx rfl (hb hby d24_360) rfl (XS.iloadN X0.here hx rfl (hb hby d24_361) rfl (XS.icmpYes X0.here hx rfl (pc0 := 362) (pc' := 490) rfl (hb hby d24_362) rfl (flt (by decide : ¬ ((4 : Int32) < (2 : Int32)))).2.1 (by decide) (by decide) (XS.iload X0.here hx rfl (hb hby d24_490) rfl (XS.sipush X0.here hx rfl (hb hby d24_492) (XS.iand X0.here hx rfl (hb hby d24_495) rfl (XS.istore X0.here hx rfl (hb hby d24_496) rfl (l' := #[rV a, iV 2, iV 2, rV d, iV 1, iV 1, iV (v1 &&& (255 : Int32)), uS, uS, uS, uS]) rfl (XS.iload X0.here hx rfl (hb hby d24_498) rfl (XS.sipush X0.here hx rfl (hb hby d24_500) k_))))))))))))
        by_cases hc234 : (244 : Int32) < (v1 &&& (255 : Int32))
        · have R235 : Go p e below P s₁ (mkF m 546 #[rV a, iV 2, iV 2, rV d, iV 2, iV 1, iV (v1 &&& (255 : Int32)), uS, uS, uS, uS] [(.int 65533), (.int 1), (.ref d)]) := fun t_ k_ => R233 t_ (XS.icmpYes X0.here hx rfl (pc0 := 503) (pc' := 526) rfl (hb hby d24_503) rfl (tlt hc234).2.2.1 (by decide) (by decide) (XS.iload X0.here hx rfl (hb hby d24_526) rfl (XS.ifYes X0.here hx rfl (pc0 := 528) (pc' := 538) rfl (hb hby d24_528) rfl ((if0 _ _).trans (feq (by decide : ¬ ((1 : Int32) = (0 : Int32)))).2) (by decide) (by decide) (XS.aloadN X0.here hx rfl (hb hby d24_538) rfl rfl (XS.iload X0.here hx rfl (hb hby d24_539) rfl (XS.iinc X0.here hx rfl (hb hby d24_541) rfl (l' := #[rV a, iV 2, iV 2, rV d, iV ((1 : Int32) + (1 : Int32)), iV 1, iV (v1 &&& (255 : Int32)), uS, uS, uS, uS]) rfl (apS (X0.ldcInt hx hown (mvT hZ (hwI hw 121 rfl)) rfl (hb hby d24_544)) k_)))))))
          obtain ⟨rv236, T236, Lc236, X236, hQ236, R236⟩ := callQ X0 hx hZ hown e0 R235 (putC_ l Z a0 hw [] d kd (4 : Int32) vs 1 (1 : Int32) (65533 : Int32) h0 n0 O0 P0 P1 P2 P4 P5 rfl (lj hlen (by decide)) (lN hlen (by decide)) (ll hlen (by decide))) (hwI hw 122 rfl) (hwI hw 113 rfl) (hwI hw 88 rfl) (hwI hw 114 rfl) [] rfl (by rw [hml]; rfl) (lenOf pd_14998797 rfl) rfl (W := 0) (wR rfl) (hb hby d24_546)
          obtain ⟨rfl, N236q, K236, p236_0⟩ := hQ236
          have N236 := Fr.app N0 N236q
          have O236 := O0.keep K236 (allS P5 all0)
          have R237 : Go p e below P T236 (mkF m 623 #[rV a, iV 2, iV 2, rV d, iV 2, iV 1, iV (v1 &&& (255 : Int32)), uS, uS, uS, uS] [(.int 2)]) := fun t_ k_ => R236 t_ (XS.goto X236.here hx rfl (pc0 := 549) (pc' := 0) rfl (hb hby d24_549) (by decide) (by decide) (XS.iloadN X236.here hx rfl (hb hby d24_0) rfl (XS.iloadN X236.here hx rfl (hb hby d24_1) rfl (XS.icmpYes X236.here hx rfl (pc0 := 2) (pc' := 621) rfl (hb hby d24_2) rfl (flt (by decide : ¬ ((2 : Int32) < (2 : Int32)))).2.1 (by decide) (by decide) (XS.iload X236.here hx rfl (hb hby d24_621) rfl k_)))))
          obtain ⟨fs, hr, hrun, hended, hW, hsame⟩ := X236.leave (v := some (.int 2)) (fun h => by rw [Bd.returns] at h; cases h)
          exact ⟨_, _, hP _ (R237 _ (retI X236 hx Bd.returns (hb hby d24_623) hr)), hrun, hended, _, _, rfl, ⟨rfl, N236, ((Keep.refl h0 [d]).trans K236 (allS (Or.inl (List.mem_of_getElem? (i := 0) rfl)) all0)), p236_0⟩, ⟨_, rfl⟩, hW, hsame.mono (by decide) (by decide)⟩
        · have R238 : Go p e below P s₁ (mkF m 575 #[rV a, iV 3, iV 2, rV d, iV 2, iV 1, iV (v1 &&& (255 : Int32)), uS, uS, uS, uS] [(.int 65533), (.int 1), (.ref d)]) := fun t_ k_ => R233 t_ (XS.icmpNo X0.here hx rfl (hb hby d24_503) rfl (flt hc234).2.2.1 (XS.iloadN X0.here hx rfl (hb hby d24_506) rfl (XS.iloadN X0.here hx rfl (hb hby d24_507) rfl (XS.icmpYes X0.here hx rfl (pc0 := 508) (pc' := 552) rfl (hb hby d24_508) rfl (flt (by decide : ¬ ((2 : Int32) < (2 : Int32)))).2.1 (by decide) (by decide) (XS.iload X0.here hx rfl (hb hby d24_552) rfl (XS.ifYes X0.here hx rfl (pc0 := 554) (pc' := 564) rfl (hb hby d24_554) rfl ((if0 _ _).trans (feq (by decide : ¬ ((1 : Int32) = (0 : Int32)))).2) (by decide) (by decide) (XS.iinc X0.here hx rfl (hb hby d24_564) rfl (l' := #[rV a, iV ((2 : Int32) + (1 : Int32)), iV 2, rV d, iV 1, iV 1, iV (v1 &&& (255 : Int32)), uS, uS, uS, uS]) rfl (XS.aloadN X0.here hx rfl (hb hby d24_567) rfl rfl (XS.iload X0.here hx rfl (hb hby d24_568) rfl (XS.iinc X0.here hx rfl (hb hby d24_570) rfl (l' := #[rV a, iV 3, iV 2, rV d, iV ((1 : Int32) + (1 : Int32)), iV 1, iV (v1 &&& (255 : Int32)), uS, uS, uS, uS]) rfl (apS (X0.ldcInt hx hown (mvT hZ (hwI hw 121 rfl)) rfl (hb hby d24_573)) k_)))))))))))
          obtain ⟨rv239, T239, Lc239, X239, hQ239, R239⟩ := callQ X0 hx hZ hown e0 R238 (putC_ l Z a0 hw [] d kd (4 : Int32) vs 1 (1 : Int32) (65533 : Int32) h0 n0 O0 P0 P1 P2 P4 P5 rfl (lj hlen (by decide)) (lN hlen (by decide)) (ll hlen (by decide))) (hwI hw 122 rfl) (hwI hw 113 rfl) (hwI hw 88 rfl) (hwI hw 114 rfl) [] rfl (by rw [hml]; rfl) (lenOf pd_14998797 rfl) rfl (W := 0) (wR rfl) (hb hby d24_575)
          obtain ⟨rfl, N239q, K239, p239_0⟩ := hQ239
          have N239 := Fr.app N0 N239q
          have O239 := O0.keep K239 (allS P5 all0)
          have R240 : Go p e below P T239 (mkF m 623 #[rV a, iV 3, iV 2, rV d, iV 2, iV 1, iV (v1 &&& (255 : Int32)), uS, uS, uS, uS] [(.int 2)]) := fun t_ k_ => R239 t_ (XS.iloadN X239.here hx rfl (hb hby d24_578) rfl (XS.iloadN X239.here hx rfl (hb hby d24_579) rfl (XS.icmpYes X239.here hx rfl (pc0 := 580) (pc' := 621) rfl (hb hby d24_580) rfl (flt (by decide : ¬ ((3 : Int32) < (2 : Int32)))).2.1 (by decide) (by decide) (XS.iload X239.here hx rfl (hb hby d24_621) rfl k_))))
          obtain ⟨fs, hr, hrun, hended, hW, hsame⟩ := X239.leave (v := some (.int 2)) (fun h => by rw [Bd.returns] at h; cases h)
          exact ⟨_, _, hP _ (R240 _ (retI X239 hx Bd.returns (hb hby d24_623) hr)), hrun, hended, _, _, rfl, ⟨rfl, N239, ((Keep.refl h0 [d]).trans K239 (allS (Or.inl (List.mem_of_getElem? (i := 0) rfl)) all0)), p239_0⟩, ⟨_, rfl⟩, hW, hsame.mono (by decide) (by decide)⟩
      · have R241 : Go p e below P s₁ (mkF m 615 #[rV a, iV 2, iV 2, rV d, iV 2, iV 1, iV v1, uS, uS, uS, uS] [(.int 65533), (.int 1), (.ref d)]) := fun t_ k_ => R231 t_ (XS.icmpYes X0.here hx rfl (pc0 := 355) (pc' := 595) rfl (hb hby d24_355) rfl (feq hc232).2 (by decide) (by decide) (XS.iload X0.here hx rfl (hb hby d24_595) rfl (XS.ifYes X0.here hx rfl (pc0 := 597) (pc' := 607) rfl (hb hby d24_597) rfl ((if0 _ _).trans (feq (by decide : ¬ ((1 : Int32) = (0 : Int32)))).2) (by decide) (by decide) (XS.aloadN X0.here hx rfl (hb hby d24_607) rfl rfl (XS.iload X0.here hx rfl (hb hby d24_608) rfl (XS.iinc X0.here hx rfl (hb hby d24_610) rfl (l' := #[rV a, iV 2, iV 2, rV d, iV ((1 : Int32) + (1 : Int32)), iV 1, iV v1, uS, uS, uS, uS]) rfl (apS (X0.ldcInt hx hown (mvT hZ (hwI hw 121 rfl)) rfl (hb hby d24_613)) k_)))))))
        obtain ⟨rv242, T242, Lc242, X242, hQ242, R242⟩ := callQ X0 hx hZ hown e0 R241 (putC_ l Z a0 hw [] d kd (4 : Int32) vs 1 (1 : Int32) (65533 : Int32) h0 n0 O0 P0 P1 P2 P4 P5 rfl (lj hlen (by decide)) (lN hlen (by decide)) (ll hlen (by decide))) (hwI hw 122 rfl) (hwI hw 113 rfl) (hwI hw 88 rfl) (hwI hw 114 rfl) [] rfl (by rw [hml]; rfl) (lenOf pd_14998797 rfl) rfl (W := 0) (wR rfl) (hb hby d24_615)
        obtain ⟨rfl, N242q, K242, p242_0⟩ := hQ242
        have N242 := Fr.app N0 N242q
        have O242 := O0.keep K242 (allS P5 all0)
        have R243 : Go p e below P T242 (mkF m 623 #[rV a, iV 2, iV 2, rV d, iV 2, iV 1, iV v1, uS, uS, uS, uS] [(.int 2)]) := fun t_ k_ => R242 t_ (XS.goto X242.here hx rfl (pc0 := 618) (pc' := 0) rfl (hb hby d24_618) (by decide) (by decide) (XS.iloadN X242.here hx rfl (hb hby d24_0) rfl (XS.iloadN X242.here hx rfl (hb hby d24_1) rfl (XS.icmpYes X242.here hx rfl (pc0 := 2) (pc' := 621) rfl (hb hby d24_2) rfl (flt (by decide : ¬ ((2 : Int32) < (2 : Int32)))).2.1 (by decide) (by decide) (XS.iload X242.here hx rfl (hb hby d24_621) rfl k_)))))
        obtain ⟨fs, hr, hrun, hended, hW, hsame⟩ := X242.leave (v := some (.int 2)) (fun h => by rw [Bd.returns] at h; cases h)
        exact ⟨_, _, hP _ (R243 _ (retI X242 hx Bd.returns (hb hby d24_623) hr)), hrun, hended, _, _, rfl, ⟨rfl, N242, ((Keep.refl h0 [d]).trans K242 (allS (Or.inl (List.mem_of_getElem? (i := 0) rfl)) all0)), p242_0⟩, ⟨_, rfl⟩, hW, hsame.mono (by decide) (by decide)⟩
def Q_decU30h_ (Z : State) (a : Addr) (ka : ClassId) (v0 : Int32) (v1 : Int32) (v2 : Int32) (d : Addr) (kd : ClassId) (vs : List Value) (h0 : Heap) (n0 : Nat) (rv_ : Option Value) (rh_ : Heap) (rL_ : List Loc) : Prop := (rv_ = some (.int 2)) ∧ (Fr n0 rL_) ∧ (Keep h0 rh_ [d]) ∧ (Arv Z rh_ d kd .byte (6 : Int32) ((vs.set (2 * 1) (.int (loB (65533 : Int32)))).set (2 * 1 + 1) (.int (hiB (65533 : Int32)))) (.int 0))
set_option maxRecDepth 65536 in
set_option maxHeartbeats 40000000 in
theorem decU30h_ (l : Launch) (Z : State) (a0 : Array Value) (hw : HW Z a0) (ws : List Jvm.Cond) (a : Addr) (ka : ClassId) (v0 : Int32) (v1 : Int32) (v2 : Int32) (d : Addr) (kd : ClassId) (vs : List Value) (h0 : Heap) (n0 : Nat) (O0 : Old Z n0 h0) (P0 : sT2 Z (.int 1)) (P1 : sT3 Z (.int 0)) (P2 : sT4 Z (.int 8)) (P3 : Arv Z h0 a ka .byte (3 : Int32) [(.int v0), (.int v1), (.int v2)] (.int 0)) (P4 : Arv Z h0 d kd .byte (6 : Int32) vs (.int 0)) (P5 : n0 ≤ d) (P6 : a ≠ d) (P7 : vs.length = 6) (P8 : v2 < (0 : Int32)) :
    MetQ l yM29 (Jvm.Cond.code yM29 jdk_42_method_38_code 11 (some .int)) ws (rM 1 0 0 14) Z #[(.ref a), (.int 2), (.int 3), (.ref d), (.int 1), (.int 1)] h0 (Q_decU30h_ Z a ka v0 v1 v2 d kd vs h0 n0) := by
  have hlen := P7
  refine metQ (plainFor_of_name pn_47582652) hisR (fun m => ef24_RIIRII m a (2 : Int32) (3 : Int32) d (1 : Int32) (1 : Int32)) ?_
  intro p e s m below meth c s₁ P Bd hx hby hml hZ hown hnm X0 e0 hP R0
  have N0 := Fr.nil n0
  have R244 : Go p e below P s₁ (mkF m 10 #[rV a, iV 3, iV 3, rV d, iV 1, iV 1, uS, uS, uS, uS, uS] [(.int 2), (.ref a)]) := fun t_ k_ => R0 t_ (XS.iloadN X0.here hx rfl (hb hby d24_0) rfl (XS.iloadN X0.here hx rfl (hb hby d24_1) rfl (XS.icmpNo X0.here hx rfl (hb hby d24_2) rfl (tlt (by decide : (2 : Int32) < (3 : Int32))).2.1 (XS.aloadN X0.here hx rfl (hb hby d24_5) rfl rfl (XS.iloadN X0.here hx rfl (hb hby d24_6) rfl (XS.iinc X0.here hx rfl (hb hby d24_7) rfl (l' := #[rV a, iV ((2 : Int32) + (1 : Int32)), iV 3, rV d, iV 1, iV 1, uS, uS, uS, uS, uS]) rfl k_))))))
  obtain ⟨cl245, cl245A, cl245q, cl245S, cl245N, cl245H, cl245G⟩ := id P3
  have ib246 := inb_of (j := (2 : Int32)) cl245S ⟨by decide, by decide⟩
  have R247 : Go p e below P s₁ (mkF m 33 #[rV a, iV 3, iV 3, rV d, iV 1, iV 1, iV v2, uS, uS, uS, uS] []) := fun t_ k_ => R244 t_ (apS (X0.baloadBytes hx (v := (.int v2)) (by rw [e0]; exact cl245A.1) (State.isArrayOf_alike hZ.alike cl245A.2.1) cl245A.2.2 ib246 (cl245H.at ib246 rfl) rfl rfl (hb hby d24_10)) (XS.istore X0.here hx rfl (hb hby d24_11) rfl (l' := #[rV a, iV 3, iV 3, rV d, iV 1, iV 1, iV v2, uS, uS, uS, uS]) rfl (XS.iload X0.here hx rfl (hb hby d24_13) rfl (XS.ifYes X0.here hx rfl (pc0 := 15) (pc' := 33) rfl (hb hby d24_15) rfl ((if0 _ _).trans (tlt P8).1) (by decide) (by decide) k_))))
  by_cases j5248 : (v2 >>> ((5 : Int32) &&& 31)) = (-2 : Int32) ∧ ¬ (v2 &&& (30 : Int32)) = (0 : Int32)
  · have R249 : Go p e below P s₁ (mkF m 119 #[rV a, iV 3, iV 3, rV d, iV 1, iV 1, iV v2, uS, uS, uS, uS] []) := fun t_ k_ => R247 t_ (XS.iload X0.here hx rfl (hb hby d24_33) rfl (XS.iconst X0.here hx rfl (hb hby d24_35) (XS.ishr X0.here hx rfl (hb hby d24_36) rfl (XS.bipush X0.here hx rfl (hb hby d24_37) (XS.icmpNo X0.here hx rfl (hb hby d24_39) rfl (teq j5248.1).2 (XS.iload X0.here hx rfl (hb hby d24_42) rfl (XS.bipush X0.here hx rfl (hb hby d24_44) (XS.iand X0.here hx rfl (hb hby d24_46) rfl (XS.ifNo X0.here hx rfl (hb hby d24_47) rfl ((if0 _ _).trans (feq j5248.2).1) (XS.iloadN X0.here hx rfl (hb hby d24_50) rfl (XS.iloadN X0.here hx rfl (hb hby d24_51) rfl (XS.icmpYes X0.here hx rfl (pc0 := 52) (pc' := 119) rfl (hb hby d24_52) rfl (flt (by decide : ¬ ((3 : Int32) < (3 : Int32)))).2.1 (by decide) (by decide) k_))))))))))))
    have R250 : Go p e below P s₁ (mkF m 137 #[rV a, iV 3, iV 3, rV d, iV 2, iV 1, iV v2, uS, uS, uS, uS] [(.int 65533), (.int 1), (.ref d)]) := fun t_ k_ => R249 t_ (XS.iload X0.here hx rfl (hb hby d24_119) rfl (XS.ifYes X0.here hx rfl (pc0 := 121) (pc' := 129) rfl (hb hby d24_121) rfl ((if0 _ _).trans (feq (by decide : ¬ ((1 : Int32) = (0 : Int32)))).2) (by decide) (by decide) (XS.aloadN X0.here hx rfl (hb hby d24_129) rfl rfl (XS.iload X0.here hx rfl (hb hby d24_130) rfl (XS.iinc X0.here hx rfl (hb hby d24_132) rfl (l' := #[rV a, iV 3, iV 3, rV d, iV ((1 : Int32) + (1 : Int32)), iV 1, iV v2, uS, uS, uS, uS]) rfl (apS (X0.ldcInt hx hown (mvT hZ (hwI hw 121 rfl)) rfl (hb hby d24_135)) k_))))))
    obtain ⟨rv251, T251, Lc251, X251, hQ251, R251⟩ := callQ X0 hx hZ hown e0 R250 (putC_ l Z a0 hw [] d kd (6 : Int32) vs 1 (1 : Int32) (65533 : Int32) h0 n0 O0 P0 P1 P2 P4 P5 rfl (lj hlen (by decide)) (lN hlen (by decide)) (ll hlen (by decide))) (hwI hw 122 rfl) (hwI hw 113 rfl) (hwI hw 88 rfl) (hwI hw 114 rfl) [] rfl (by rw [hml]; rfl) (lenOf pd_14998797 rfl) rfl (W := 0) (wR rfl) (hb hby d24_137)
    obtain ⟨rfl, N251q, K251, p251_0⟩ := hQ251
    have N251 := Fr.app N0 N251q
    have O251 := O0.keep K251 (allS P5 all0)
    have R252 : Go p e below P T251 (mkF m 623 #[rV a, iV 3, iV 3, rV d, iV 2, iV 1, iV v2, uS, uS, uS, uS] [(.int 2)]) := fun t_ k_ => R251 t_ (XS.goto X251.here hx rfl (pc0 := 140) (pc' := 621) rfl (hb hby d24_140) (by decide) (by decide) (XS.iload X251.here hx rfl (hb hby d24_621) rfl k_))
    obtain ⟨fs, hr, hrun, hended, hW, hsame⟩ := X251.leave (v := some (.int 2)) (fun h => by rw [Bd.returns] at h; cases h)
    exact ⟨_, _, hP _ (R252 _ (retI X251 hx Bd.returns (hb hby d24_623) hr)), hrun, hended, _, _, rfl, ⟨rfl, N251, ((Keep.refl h0 [d]).trans K251 (allS (Or.inl (List.mem_of_getElem? (i := 0) rfl)) all0)), p251_0⟩, ⟨_, rfl⟩, hW, hsame.mono (by decide) (by decide)⟩
  · have R253 : Go p e below P s₁ (mkF m 143 #[rV a, iV 3, iV 3, rV d, iV 1, iV 1, iV v2, uS, uS, uS, uS] []) := by
      have R255 : Go p e below P s₁ (mkF m 39 #[rV a, iV 3, iV 3, rV d, iV 1, iV 1, iV v2, uS, uS, uS, uS] [(.int (-2)), (.int (v2 >>> ((5 : Int32) &&& 31)))]) := fun t_ k_ => R247 t_ (XS.iload X0.here hx rfl (hb hby d24_33) rfl (XS.iconst X0.here hx rfl (hb hby d24_35) (XS.ishr X0.here hx rfl (hb hby d24_36) rfl (XS.bipush X0.here hx rfl (hb hby d24_37) k_))))
      by_cases hc256 : (v2 >>> ((5 : Int32) &&& 31)) = (-2 : Int32)
      · have R257 : Go p e below P s₁ (mkF m 143 #[rV a, iV 3, iV 3, rV d, iV 1, iV 1, iV v2, uS, uS, uS, uS] []) := fun t_ k_ => R255 t_ (XS.icmpNo X0.here hx rfl (hb hby d24_39) rfl (teq hc256).2 (XS.iload X0.here hx rfl (hb hby d24_42) rfl (XS.bipush X0.here hx rfl (hb hby d24_44) (XS.iand X0.here hx rfl (hb hby d24_46) rfl (XS.ifYes X0.here hx rfl (pc0 := 47) (pc' := 143) rfl (hb hby d24_47) rfl ((if0 _ _).trans (teq (Decidable.of_not_not fun q => j5248 ⟨hc256, q⟩)).1) (by decide) (by decide) k_)))))
        exact R257
      · have R258 : Go p e below P s₁ (mkF m 143 #[rV a, iV 3, iV 3, rV d, iV 1, iV 1, iV v2, uS, uS, uS, uS] []) := fun t_ k_ => R255 t_ (XS.icmpYes X0.here hx rfl (pc0 := 39) (pc' := 143) rfl (hb hby d24_39) rfl (feq hc256).2 (by decide) (by decide) k_)
        exact R258
    have R259 : Go p e below P s₁ (mkF m 149 #[rV a, iV 3, iV 3, rV d, iV 1, iV 1, iV v2, uS, uS, uS, uS] [(.int (-2)), (.int (v2 >>> ((4 : Int32) &&& 31)))]) := fun t_ k_ => R253 t_ (XS.iload X0.here hx rfl (hb hby d24_143) rfl (XS.iconst X0.here hx rfl (hb hby d24_145) (XS.ishr X0.here hx rfl (hb hby d24_146) rfl (XS.bipush X0.here hx rfl (hb hby d24_147) k_))))
    by_cases hc260 : (v2 >>> ((4 : Int32) &&& 31)) = (-2 : Int32)
    · have R261 : Go p e below P s₁ (mkF m 336 #[rV a, iV 3, iV 3, rV d, iV 1, iV 1, iV v2, uS, uS, uS, uS] [(.ref d)]) := fun t_ k_ => R259 t_ (XS.icmpNo X0.here hx rfl (hb hby d24_149) rfl (teq hc260).2 (XS.iloadN X0.here hx rfl (hb hby d24_152) rfl (XS.iconst X0.here hx rfl (hb hby d24_153) (XS.iadd X0.here hx rfl (hb hby d24_154) rfl (XS.iloadN X0.here hx rfl (hb hby d24_155) rfl (XS.icmpYes X0.here hx rfl (pc0 := 156) (pc' := 283) rfl (hb hby d24_156) rfl (flt (by decide : ¬ ((4 : Int32) < (3 : Int32)))).2.1 (by decide) (by decide) (XS.iloadN X0.here hx rfl (hb hby d24_283) rfl (XS.iloadN X0.here hx rfl (hb hby d24_284) rfl (XS.icmpYes X0.here hx rfl (pc0 := 285) (pc' := 325) rfl (hb hby d24_285) rfl (flt (by decide : ¬ ((3 : Int32) < (3 : Int32)))).2.1 (by decide) (by decide) (XS.iload X0.here hx rfl (hb hby d24_325) rfl (XS.ifYes X0.here hx rfl (pc0 := 327) (pc' := 335) rfl (hb hby d24_327) rfl ((if0 _ _).trans (feq (by decide : ¬ ((1 : Int32) = (0 : Int32)))).2) (by decide) (by decide) (XS.aloadN X0.here hx rfl (hb hby d24_335) rfl rfl k_))))))))))))
      have R262 : Go p e below P s₁ (mkF m 343 #[rV a, iV 3, iV 3, rV d, iV 2, iV 1, iV v2, uS, uS, uS, uS] [(.int 65533), (.int 1), (.ref d)]) := fun t_ k_ => R261 t_ (XS.iload X0.here hx rfl (hb hby d24_336) rfl (XS.iinc X0.here hx rfl (hb hby d24_338) rfl (l' := #[rV a, iV 3, iV 3, rV d, iV ((1 : Int32) + (1 : Int32)), iV 1, iV v2, uS, uS, uS, uS]) rfl (apS (X0.ldcInt hx hown (mvT hZ (hwI hw 121 rfl)) rfl (hb hby d24_341)) k_)))
      obtain ⟨rv263, T263, Lc263, X263, hQ263, R263⟩ := callQ X0 hx hZ hown e0 R262 (putC_ l Z a0 hw [] d kd (6 : Int32) vs 1 (1 : Int32) (65533 : Int32) h0 n0 O0 P0 P1 P2 P4 P5 rfl (lj hlen (by decide)) (lN hlen (by decide)) (ll hlen (by decide))) (hwI hw 122 rfl) (hwI hw 113 rfl) (hwI hw 88 rfl) (hwI hw 114 rfl) [] rfl (by rw [hml]; rfl) (lenOf pd_14998797 rfl) rfl (W := 0) (wR rfl) (hb hby d24_343)
      obtain ⟨rfl, N263q, K263, p263_0⟩ := hQ263
      have N263 := Fr.app N0 N263q
      have O263 := O0.keep K263 (allS P5 all0)
      have R264 : Go p e below P T263 (mkF m 623 #[rV a, iV 3, iV 3, rV d, iV 2, iV 1, iV v2, uS, uS, uS, uS] [(.int 2)]) := fun t_ k_ => R263 t_ (XS.goto X263.here hx rfl (pc0 := 346) (pc' := 621) rfl (hb hby d24_346) (by decide) (by decide) (XS.iload X263.here hx rfl (hb hby d24_621) rfl k_))
      obtain ⟨fs, hr, hrun, hended, hW, hsame⟩ := X263.leave (v := some (.int 2)) (fun h => by rw [Bd.returns] at h; cases h)
      exact ⟨_, _, hP _ (R264 _ (retI X263 hx Bd.returns (hb hby d24_623) hr)), hrun, hended, _, _, rfl, ⟨rfl, N263, ((Keep.refl h0 [d]).trans K263 (allS (Or.inl (List.mem_of_getElem? (i := 0) rfl)) all0)), p263_0⟩, ⟨_, rfl⟩, hW, hsame.mono (by decide) (by decide)⟩
    · have R265 : Go p e below P s₁ (mkF m 355 #[rV a, iV 3, iV 3, rV d, iV 1, iV 1, iV v2, uS, uS, uS, uS] [(.int (-2)), (.int (v2 >>> ((3 : Int32) &&& 31)))]) := fun t_ k_ => R259 t_ (XS.icmpYes X0.here hx rfl (pc0 := 149) (pc' := 349) rfl (hb hby d24_149) rfl (feq hc260).2 (by decide) (by decide) (XS.iload X0.here hx rfl (hb hby d24_349) rfl (XS.iconst X0.here hx rfl (hb hby d24_351) (XS.ishr X0.here hx rfl (hb hby d24_352) rfl (XS.bipush X0.here hx rfl (hb hby d24_353) k_)))))
      by_cases hc266 : (v2 >>> ((3 : Int32) &&& 31)) = (-2 : Int32)
      · have R267 : Go p e below P s₁ (mkF m 503 #[rV a, iV 3, iV 3, rV d, iV 1, iV 1, iV (v2 &&& (255 : Int32)), uS, uS, uS, uS] [(.int 244), (.int (v2 &&& (255 : Int32)))]) := fun t_ k_ => R265 t_ (XS.icmpNo X0.here hx rfl (hb hby d24_355) rfl (teq hc266).2 (XS.iloadN X0.here hx rfl (hb hby d24_358) rfl (XS.iconst X0.here hx rfl (hb hby d24_359) (XS.iadd X0.here hx rfl (hb hby d24_360) rfl (XS.iloadN X0.here hx rfl (hb hby d24_361) rfl (XS.icmpYes X0.here hx rfl (pc0 := 362) (pc' := 490) rfl (hb hby d24_362) rfl (flt (by decide : ¬ ((5 : Int32) < (3 : Int32)))).2.1 (by decide) (by decide) (XS.iload X0.here hx rfl (hb hby d24_490) rfl (XS.sipush X0.here hx rfl (hb hby d24_492) (XS.iand X0.here hx rfl (hb hby d24_495) rfl (XS.istore X0.here hx rfl (hb hby d24_496) rfl (l' := #[rV a, iV 3, iV 3, rV d, iV 1, iV 1, iV (v2 &&& (255 : Int32)), uS, uS, uS, uS]) rfl (XS.iload X0.here hx rfl (hb hby d24_498) rfl (XS.sipush X0.here hx rfl (hb hby d24_500) k_))))))))))))
        by_cases hc268 : (244 : Int32) < (v2 &&& (255 : Int32))
        · have R269 : Go p e below P s₁ (mkF m 546 #[rV a, iV 3, iV 3, rV d, iV 2, iV 1, iV (v2 &&& (255 : Int32)), uS, uS, uS, uS] [(.int 65533), (.int 1), (.ref d)]) := fun t_ k_ => R267 t_ (XS.icmpYes X0.here hx rfl (pc0 := 503) (pc' := 526) rfl (hb hby d24_503) rfl (tlt hc268).2.2.1 (by decide) (by decide) (XS.iload X0.here hx rfl (hb hby d24_526) rfl (XS.ifYes X0.here hx rfl (pc0 := 528) (pc' := 538) rfl (hb hby d24_528) rfl ((if0 _ _).trans (feq (by decide : ¬ ((1 : Int32) = (0 : Int32)))).2) (by decide) (by decide) (XS.aloadN X0.here hx rfl (hb hby d24_538) rfl rfl (XS.iload X0.here hx rfl (hb hby d24_539) rfl (XS.iinc X0.here hx rfl (hb hby d24_541) rfl (l' := #[rV a, iV 3, iV 3, rV d, iV ((1 : Int32) + (1 : Int32)), iV 1, iV (v2 &&& (255 : Int32)), uS, uS, uS, uS]) rfl (apS (X0.ldcInt hx hown (mvT hZ (hwI hw 121 rfl)) rfl (hb hby d24_544)) k_)))))))
          obtain ⟨rv270, T270, Lc270, X270, hQ270, R270⟩ := callQ X0 hx hZ hown e0 R269 (putC_ l Z a0 hw [] d kd (6 : Int32) vs 1 (1 : Int32) (65533 : Int32) h0 n0 O0 P0 P1 P2 P4 P5 rfl (lj hlen (by decide)) (lN hlen (by decide)) (ll hlen (by decide))) (hwI hw 122 rfl) (hwI hw 113 rfl) (hwI hw 88 rfl) (hwI hw 114 rfl) [] rfl (by rw [hml]; rfl) (lenOf pd_14998797 rfl) rfl (W := 0) (wR rfl) (hb hby d24_546)
          obtain ⟨rfl, N270q, K270, p270_0⟩ := hQ270
          have N270 := Fr.app N0 N270q
          have O270 := O0.keep K270 (allS P5 all0)
          have R271 : Go p e below P T270 (mkF m 623 #[rV a, iV 3, iV 3, rV d, iV 2, iV 1, iV (v2 &&& (255 : Int32)), uS, uS, uS, uS] [(.int 2)]) := fun t_ k_ => R270 t_ (XS.goto X270.here hx rfl (pc0 := 549) (pc' := 0) rfl (hb hby d24_549) (by decide) (by decide) (XS.iloadN X270.here hx rfl (hb hby d24_0) rfl (XS.iloadN X270.here hx rfl (hb hby d24_1) rfl (XS.icmpYes X270.here hx rfl (pc0 := 2) (pc' := 621) rfl (hb hby d24_2) rfl (flt (by decide : ¬ ((3 : Int32) < (3 : Int32)))).2.1 (by decide) (by decide) (XS.iload X270.here hx rfl (hb hby d24_621) rfl k_)))))
          obtain ⟨fs, hr, hrun, hended, hW, hsame⟩ := X270.leave (v := some (.int 2)) (fun h => by rw [Bd.returns] at h; cases h)
          exact ⟨_, _, hP _ (R271 _ (retI X270 hx Bd.returns (hb hby d24_623) hr)), hrun, hended, _, _, rfl, ⟨rfl, N270, ((Keep.refl h0 [d]).trans K270 (allS (Or.inl (List.mem_of_getElem? (i := 0) rfl)) all0)), p270_0⟩, ⟨_, rfl⟩, hW, hsame.mono (by decide) (by decide)⟩
        · have R272 : Go p e below P s₁ (mkF m 575 #[rV a, iV 4, iV 3, rV d, iV 2, iV 1, iV (v2 &&& (255 : Int32)), uS, uS, uS, uS] [(.int 65533), (.int 1), (.ref d)]) := fun t_ k_ => R267 t_ (XS.icmpNo X0.here hx rfl (hb hby d24_503) rfl (flt hc268).2.2.1 (XS.iloadN X0.here hx rfl (hb hby d24_506) rfl (XS.iloadN X0.here hx rfl (hb hby d24_507) rfl (XS.icmpYes X0.here hx rfl (pc0 := 508) (pc' := 552) rfl (hb hby d24_508) rfl (flt (by decide : ¬ ((3 : Int32) < (3 : Int32)))).2.1 (by decide) (by decide) (XS.iload X0.here hx rfl (hb hby d24_552) rfl (XS.ifYes X0.here hx rfl (pc0 := 554) (pc' := 564) rfl (hb hby d24_554) rfl ((if0 _ _).trans (feq (by decide : ¬ ((1 : Int32) = (0 : Int32)))).2) (by decide) (by decide) (XS.iinc X0.here hx rfl (hb hby d24_564) rfl (l' := #[rV a, iV ((3 : Int32) + (1 : Int32)), iV 3, rV d, iV 1, iV 1, iV (v2 &&& (255 : Int32)), uS, uS, uS, uS]) rfl (XS.aloadN X0.here hx rfl (hb hby d24_567) rfl rfl (XS.iload X0.here hx rfl (hb hby d24_568) rfl (XS.iinc X0.here hx rfl (hb hby d24_570) rfl (l' := #[rV a, iV 4, iV 3, rV d, iV ((1 : Int32) + (1 : Int32)), iV 1, iV (v2 &&& (255 : Int32)), uS, uS, uS, uS]) rfl (apS (X0.ldcInt hx hown (mvT hZ (hwI hw 121 rfl)) rfl (hb hby d24_573)) k_)))))))))))
          obtain ⟨rv273, T273, Lc273, X273, hQ273, R273⟩ := callQ X0 hx hZ hown e0 R272 (putC_ l Z a0 hw [] d kd (6 : Int32) vs 1 (1 : Int32) (65533 : Int32) h0 n0 O0 P0 P1 P2 P4 P5 rfl (lj hlen (by decide)) (lN hlen (by decide)) (ll hlen (by decide))) (hwI hw 122 rfl) (hwI hw 113 rfl) (hwI hw 88 rfl) (hwI hw 114 rfl) [] rfl (by rw [hml]; rfl) (lenOf pd_14998797 rfl) rfl (W := 0) (wR rfl) (hb hby d24_575)
          obtain ⟨rfl, N273q, K273, p273_0⟩ := hQ273
          have N273 := Fr.app N0 N273q
          have O273 := O0.keep K273 (allS P5 all0)
          have R274 : Go p e below P T273 (mkF m 623 #[rV a, iV 4, iV 3, rV d, iV 2, iV 1, iV (v2 &&& (255 : Int32)), uS, uS, uS, uS] [(.int 2)]) := fun t_ k_ => R273 t_ (XS.iloadN X273.here hx rfl (hb hby d24_578) rfl (XS.iloadN X273.here hx rfl (hb hby d24_579) rfl (XS.icmpYes X273.here hx rfl (pc0 := 580) (pc' := 621) rfl (hb hby d24_580) rfl (flt (by decide : ¬ ((4 : Int32) < (3 : Int32)))).2.1 (by decide) (by decide) (XS.iload X273.here hx rfl (hb hby d24_621) rfl k_))))
          obtain ⟨fs, hr, hrun, hended, hW, hsame⟩ := X273.leave (v := some (.int 2)) (fun h => by rw [Bd.returns] at h; cases h)
          exact ⟨_, _, hP _ (R274 _ (retI X273 hx Bd.returns (hb hby d24_623) hr)), hrun, hended, _, _, rfl, ⟨rfl, N273, ((Keep.refl h0 [d]).trans K273 (allS (Or.inl (List.mem_of_getElem? (i := 0) rfl)) all0)), p273_0⟩, ⟨_, rfl⟩, hW, hsame.mono (by decide) (by decide)⟩
      · have R275 : Go p e below P s₁ (mkF m 615 #[rV a, iV 3, iV 3, rV d, iV 2, iV 1, iV v2, uS, uS, uS, uS] [(.int 65533), (.int 1), (.ref d)]) := fun t_ k_ => R265 t_ (XS.icmpYes X0.here hx rfl (pc0 := 355) (pc' := 595) rfl (hb hby d24_355) rfl (feq hc266).2 (by decide) (by decide) (XS.iload X0.here hx rfl (hb hby d24_595) rfl (XS.ifYes X0.here hx rfl (pc0 := 597) (pc' := 607) rfl (hb hby d24_597) rfl ((if0 _ _).trans (feq (by decide : ¬ ((1 : Int32) = (0 : Int32)))).2) (by decide) (by decide) (XS.aloadN X0.here hx rfl (hb hby d24_607) rfl rfl (XS.iload X0.here hx rfl (hb hby d24_608) rfl (XS.iinc X0.here hx rfl (hb hby d24_610) rfl (l' := #[rV a, iV 3, iV 3, rV d, iV ((1 : Int32) + (1 : Int32)), iV 1, iV v2, uS, uS, uS, uS]) rfl (apS (X0.ldcInt hx hown (mvT hZ (hwI hw 121 rfl)) rfl (hb hby d24_613)) k_)))))))
        obtain ⟨rv276, T276, Lc276, X276, hQ276, R276⟩ := callQ X0 hx hZ hown e0 R275 (putC_ l Z a0 hw [] d kd (6 : Int32) vs 1 (1 : Int32) (65533 : Int32) h0 n0 O0 P0 P1 P2 P4 P5 rfl (lj hlen (by decide)) (lN hlen (by decide)) (ll hlen (by decide))) (hwI hw 122 rfl) (hwI hw 113 rfl) (hwI hw 88 rfl) (hwI hw 114 rfl) [] rfl (by rw [hml]; rfl) (lenOf pd_14998797 rfl) rfl (W := 0) (wR rfl) (hb hby d24_615)
        obtain ⟨rfl, N276q, K276, p276_0⟩ := hQ276
        have N276 := Fr.app N0 N276q
        have O276 := O0.keep K276 (allS P5 all0)
        have R277 : Go p e below P T276 (mkF m 623 #[rV a, iV 3, iV 3, rV d, iV 2, iV 1, iV v2, uS, uS, uS, uS] [(.int 2)]) := fun t_ k_ => R276 t_ (XS.goto X276.here hx rfl (pc0 := 618) (pc' := 0) rfl (hb hby d24_618) (by decide) (by decide) (XS.iloadN X276.here hx rfl (hb hby d24_0) rfl (XS.iloadN X276.here hx rfl (hb hby d24_1) rfl (XS.icmpYes X276.here hx rfl (pc0 := 2) (pc' := 621) rfl (hb hby d24_2) rfl (flt (by decide : ¬ ((3 : Int32) < (3 : Int32)))).2.1 (by decide) (by decide) (XS.iload X276.here hx rfl (hb hby d24_621) rfl k_)))))
        obtain ⟨fs, hr, hrun, hended, hW, hsame⟩ := X276.leave (v := some (.int 2)) (fun h => by rw [Bd.returns] at h; cases h)
        exact ⟨_, _, hP _ (R277 _ (retI X276 hx Bd.returns (hb hby d24_623) hr)), hrun, hended, _, _, rfl, ⟨rfl, N276, ((Keep.refl h0 [d]).trans K276 (allS (Or.inl (List.mem_of_getElem? (i := 0) rfl)) all0)), p276_0⟩, ⟨_, rfl⟩, hW, hsame.mono (by decide) (by decide)⟩
theorem d24_55 : decode jdk_42_method_38_code 55 = .ok (.aload_n 0, 1) := by decide +kernel
theorem d24_56 : decode jdk_42_method_38_code 56 = .ok (.iload_n 1, 1) := by decide +kernel
theorem d24_57 : decode jdk_42_method_38_code 57 = .ok (.iinc 1 1, 3) := by decide +kernel
theorem d24_60 : decode jdk_42_method_38_code 60 = .ok (.baload, 1) := by decide +kernel
theorem d24_61 : decode jdk_42_method_38_code 61 = .ok (.istore 7, 2) := by decide +kernel
theorem d24_63 : decode jdk_42_method_38_code 63 = .ok (.iload 7, 2) := by decide +kernel
theorem d24_65 : decode jdk_42_method_38_code 65 = .ok (.invokestatic 385, 3) := by decide +kernel
theorem pd_52681301 : parseMethodDescriptor "(I)Z" = some ⟨[.int], some .boolean⟩ := by decide +kernel
theorem d24_68 : decode jdk_42_method_38_code 68 = .ok (.ifCond .eq 32, 3) := by decide +kernel
theorem d24_100 : decode jdk_42_method_38_code 100 = .ok (.aload_n 3, 1) := by decide +kernel
theorem d24_101 : decode jdk_42_method_38_code 101 = .ok (.iload 4, 2) := by decide +kernel
theorem d24_103 : decode jdk_42_method_38_code 103 = .ok (.iinc 4 1, 3) := by decide +kernel
theorem d24_106 : decode jdk_42_method_38_code 106 = .ok (.iload 6, 2) := by decide +kernel
theorem d24_108 : decode jdk_42_method_38_code 108 = .ok (.iload 7, 2) := by decide +kernel
theorem d24_110 : decode jdk_42_method_38_code 110 = .ok (.invokestatic 98, 3) := by decide +kernel
theorem pd_1793231 : parseMethodDescriptor "(II)C" = some ⟨[.int, .int], some .char⟩ := by decide +kernel
theorem d24_113 : decode jdk_42_method_38_code 113 = .ok (.invokestatic 64, 3) := by decide +kernel
theorem d24_116 : decode jdk_42_method_38_code 116 = .ok (.goto (-116), 3) := by decide +kernel
theorem d24_18 : decode jdk_42_method_38_code 18 = .ok (.aload_n 3, 1) := by decide +kernel
theorem d24_19 : decode jdk_42_method_38_code 19 = .ok (.iload 4, 2) := by decide +kernel
theorem d24_21 : decode jdk_42_method_38_code 21 = .ok (.iinc 4 1, 3) := by decide +kernel
theorem d24_24 : decode jdk_42_method_38_code 24 = .ok (.iload 6, 2) := by decide +kernel
theorem d24_26 : decode jdk_42_method_38_code 26 = .ok (.i2c, 1) := by decide +kernel
theorem d24_27 : decode jdk_42_method_38_code 27 = .ok (.invokestatic 64, 3) := by decide +kernel
theorem d24_30 : decode jdk_42_method_38_code 30 = .ok (.goto 588, 3) := by decide +kernel
def Q_decU32l_ (Z : State) (a : Addr) (ka : ClassId) (v0 : Int32) (v1 : Int32) (v2 : Int32) (d : Addr) (kd : ClassId) (vs : List Value) (c0 : Int32) (h0 : Heap) (n0 : Nat) (rv_ : Option Value) (rh_ : Heap) (rL_ : List Loc) : Prop := (rv_ = some (.int 2)) ∧ (Fr n0 rL_) ∧ (Keep h0 rh_ [d]) ∧ (Arv Z rh_ d kd .byte (6 : Int32) ((((vs.set (2 * 0) (.int (loB c0))).set (2 * 0 + 1) (.int (hiB c0))).set (2 * 1) (.int (loB v2))).set (2 * 1 + 1) (.int (hiB v2))) (.int 0))
set_option maxRecDepth 65536 in
set_option maxHeartbeats 40000000 in
theorem decU32l_ (l : Launch) (Z : State) (a0 : Array Value) (hw : HW Z a0) (ws : List Jvm.Cond) (a : Addr) (ka : ClassId) (v0 : Int32) (v1 : Int32) (v2 : Int32) (d : Addr) (kd : ClassId) (vs : List Value) (c0 : Int32) (h0 : Heap) (n0 : Nat) (O0 : Old Z n0 h0) (P0 : sT2 Z (.int 1)) (P1 : sT3 Z (.int 0)) (P2 : sT4 Z (.int 8)) (P3 : Arv Z h0 a ka .byte (3 : Int32) [(.int v0), (.int v1), (.int v2)] (.int 0)) (P4 : Arv Z h0 d kd .byte (6 : Int32) vs (.int 0)) (P5 : n0 ≤ d) (P6 : a ≠ d) (P7 : vs.length = 6) (P8 : ¬ (v2 < (0 : Int32))) (P9 : (v2.toUInt32.toUInt16.toUInt32.toInt32) = v2) (P10 : v0 < (0 : Int32)) (P11 : (v0 >>> ((5 : Int32) &&& 31)) = (-2 : Int32)) (P12 : ¬ ((v0 &&& (30 : Int32)) = (0 : Int32))) (P13 : (v1 &&& (192 : Int32)) = (128 : Int32)) (P14 : d2 v0 v1 = c0) :
    MetQ l yM29 (Jvm.Cond.code yM29 jdk_42_method_38_code 11 (some .int)) ws (rM 1 0 0 15) Z #[(.ref a), (.int 0), (.int 3), (.ref d), (.int 0), (.int 1)] h0 (Q_decU32l_ Z a ka v0 v1 v2 d kd vs c0 h0 n0) := by
  have hlen := P7
  have ht := P9
  have hd := P14
  refine metQ (plainFor_of_name pn_47582652) hisR (fun m => ef24_RIIRII m a (0 : Int32) (3 : Int32) d (0 : Int32) (1 : Int32)) ?_
  intro p e s m below meth c s₁ P Bd hx hby hml hZ hown hnm X0 e0 hP R0
  have N0 := Fr.nil n0
  have R278 : Go p e below P s₁ (mkF m 10 #[rV a, iV 1, iV 3, rV d, iV 0, iV 1, uS, uS, uS, uS, uS] [(.int 0), (.ref a)]) := fun t_ k_ => R0 t_ (XS.iloadN X0.here hx rfl (hb hby d24_0) rfl (XS.iloadN X0.here hx rfl (hb hby d24_1) rfl (XS.icmpNo X0.here hx rfl (hb hby d24_2) rfl (tlt (by decide : (0 : Int32) < (3 : Int32))).2.1 (XS.aloadN X0.here hx rfl (hb hby d24_5) rfl rfl (XS.iloadN X0.here hx rfl (hb hby d24_6) rfl (XS.iinc X0.here hx rfl (hb hby d24_7) rfl (l' := #[rV a, iV ((0 : Int32) + (1 : Int32)), iV 3, rV d, iV 0, iV 1, uS, uS, uS, uS, uS]) rfl k_))))))
  obtain ⟨cl279, cl279A, cl279q, cl279S, cl279N, cl279H, cl279G⟩ := id P3
  have ib280 := inb_of (j := (0 : Int32)) cl279S ⟨by decide, by decide⟩
  have R281 : Go p e below P s₁ (mkF m 47 #[rV a, iV 1, iV 3, rV d, iV 0, iV 1, iV v0, uS, uS, uS, uS] [(.int (v0 &&& (30 : Int32)))]) := fun t_ k_ => R278 t_ (apS (X0.baloadBytes hx (v := (.int v0)) (by rw [e0]; exact cl279A.1) (State.isArrayOf_alike hZ.alike cl279A.2.1) cl279A.2.2 ib280 (cl279H.at ib280 rfl) rfl rfl (hb hby d24_10)) (XS.istore X0.here hx rfl (hb hby d24_11) rfl (l' := #[rV a, iV 1, iV 3, rV d, iV 0, iV 1, iV v0, uS, uS, uS, uS]) rfl (XS.iload X0.here hx rfl (hb hby d24_13) rfl (XS.ifYes X0.here hx rfl (pc0 := 15) (pc' := 33) rfl (hb hby d24_15) rfl ((if0 _ _).trans (tlt P10).1) (by decide) (by decide) (XS.iload X0.here hx rfl (hb hby d24_33) rfl (XS.iconst X0.here hx rfl (hb hby d24_35) (XS.ishr X0.here hx rfl (hb hby d24_36) rfl (XS.bipush X0.here hx rfl (hb hby d24_37) (XS.icmpNo X0.here hx rfl (hb hby d24_39) rfl (teq P11).2 (XS.iload X0.here hx rfl (hb hby d24_42) rfl (XS.bipush X0.here hx rfl (hb hby d24_44) (XS.iand X0.here hx rfl (hb hby d24_46) rfl k_))))))))))))
  have R282 : Go p e below P s₁ (mkF m 60 #[rV a, iV 2, iV 3, rV d, iV 0, iV 1, iV v0, uS, uS, uS, uS] [(.int 1), (.ref a)]) := fun t_ k_ => R281 t_ (XS.ifNo X0.here hx rfl (hb hby d24_47) rfl ((if0 _ _).trans (feq P12).1) (XS.iloadN X0.here hx rfl (hb hby d24_50) rfl (XS.iloadN X0.here hx rfl (hb hby d24_51) rfl (XS.icmpNo X0.here hx rfl (hb hby d24_52) rfl (tlt (by decide : (1 : Int32) < (3 : Int32))).2.1 (XS.aloadN X0.here hx rfl (hb hby d24_55) rfl rfl (XS.iloadN X0.here hx rfl (hb hby d24_56) rfl (XS.iinc X0.here hx rfl (hb hby d24_57) rfl (l' := #[rV a, iV ((1 : Int32) + (1 : Int32)), iV 3, rV d, iV 0, iV 1, iV v0, uS, uS, uS, uS]) rfl k_)))))))
  have ib283 := inb_of (j := (1 : Int32)) cl279S ⟨by decide, by decide⟩
  have R284 : Go p e below P s₁ (mkF m 65 #[rV a, iV 2, iV 3, rV d, iV 0, iV 1, iV v0, iV v1, uS, uS, uS] [(.int v1)]) := fun t_ k_ => R282 t_ (apS (X0.baloadBytes hx (v := (.int v1)) (by rw [e0]; exact cl279A.1) (State.isArrayOf_alike hZ.alike cl279A.2.1) cl279A.2.2 ib283 (cl279H.at ib283 rfl) rfl rfl (hb hby d24_60)) (XS.istore X0.here hx rfl (hb hby d24_61) rfl (l' := #[rV a, iV 2, iV 3, rV d, iV 0, iV 1, iV v0, iV v1, uS, uS, uS]) rfl (XS.iload X0.here hx rfl (hb hby d24_63) rfl k_)))
  obtain ⟨rv285, T285, Lc285, X285, hQ285, R285⟩ := callQ X0 hx hZ hown e0 R284 (notCont_ l Z a0 hw [] v1 h0 n0 O0 P13) (hwI hw 168 rfl) (hwI hw 169 rfl) (hwI hw 10 rfl) (hwI hw 170 rfl) [] rfl (by rw [hml]; rfl) (lenOf pd_52681301 rfl) rfl (W := 0) (wR rfl) (hb hby d24_65)
  obtain ⟨rfl, N285q, K285⟩ := hQ285
  have N285 := Fr.app N0 N285q
  have R286 : Go p e below P T285 (mkF m 110 #[rV a, iV 2, iV 3, rV d, iV 1, iV 1, iV v0, iV v1, uS, uS, uS] [(.int v1), (.int v0), (.int 0), (.ref d)]) := fun t_ k_ => R285 t_ (XS.ifYes X285.here hx rfl (pc0 := 68) (pc' := 100) rfl (hb hby d24_68) rfl ((if0 _ _).trans (teq rfl).1) (by decide) (by decide) (XS.aloadN X285.here hx rfl (hb hby d24_100) rfl rfl (XS.iload X285.here hx rfl (hb hby d24_101) rfl (XS.iinc X285.here hx rfl (hb hby d24_103) rfl (l' := #[rV a, iV 2, iV 3, rV d, iV ((0 : Int32) + (1 : Int32)), iV 1, iV v0, iV v1, uS, uS, uS]) rfl (XS.iload X285.here hx rfl (hb hby d24_106) rfl (XS.iload X285.here hx rfl (hb hby d24_108) rfl k_))))))
  obtain ⟨rv287, T287, Lc287, X287, hQ287, R287⟩ := callQ X285 hx hZ hown K285 R286 (dec2_ l Z a0 hw [] v0 v1 c0 h0 n0 O0 hd) (hwI hw 171 rfl) (hwI hw 172 rfl) (hwI hw 10 rfl) (hwI hw 173 rfl) [(.int 0), (.ref d)] rfl (by rw [hml]; rfl) (lenOf pd_1793231 rfl) rfl (W := 2) (wR rfl) (hb hby d24_110)
  obtain ⟨rfl, N287q, K287⟩ := hQ287
  have N287 := Fr.app N285 N287q
  obtain ⟨rv288, T288, Lc288, X288, hQ288, R288⟩ := callQ X287 hx hZ hown K287 R287 (putC_ l Z a0 hw [] d kd (6 : Int32) vs 0 (0 : Int32) c0 h0 n0 O0 P0 P1 P2 P4 P5 rfl (lj hlen (by decide)) (lN hlen (by decide)) (ll hlen (by decide))) (hwI hw 122 rfl) (hwI hw 113 rfl) (hwI hw 88 rfl) (hwI hw 114 rfl) [] rfl (by rw [hml]; rfl) (lenOf pd_14998797 rfl) rfl (W := 0) (wR rfl) (hb hby d24_113)
  obtain ⟨rfl, N288q, K288, p288_0⟩ := hQ288
  have N288 := Fr.app N287 N288q
  have O288 := O0.keep K288 (allS P5 all0)
  have R289 : Go p e below P T288 (mkF m 10 #[rV a, iV 3, iV 3, rV d, iV 1, iV 1, iV v0, iV v1, uS, uS, uS] [(.int 2), (.ref a)]) := fun t_ k_ => R288 t_ (XS.goto X288.here hx rfl (pc0 := 116) (pc' := 0) rfl (hb hby d24_116) (by decide) (by decide) (XS.iloadN X288.here hx rfl (hb hby d24_0) rfl (XS.iloadN X288.here hx rfl (hb hby d24_1) rfl (XS.icmpNo X288.here hx rfl (hb hby d24_2) rfl (tlt (by decide : (2 : Int32) < (3 : Int32))).2.1 (XS.aloadN X288.here hx rfl (hb hby d24_5) rfl rfl (XS.iloadN X288.here hx rfl (hb hby d24_6) rfl (XS.iinc X288.here hx rfl (hb hby d24_7) rfl (l' := #[rV a, iV ((2 : Int32) + (1 : Int32)), iV 3, rV d, iV 1, iV 1, iV v0, iV v1, uS, uS, uS]) rfl k_)))))))
  have f290 := (P3.keep K288 (ninS P6 nin0))
  obtain ⟨cl291, cl291A, cl291q, cl291S, cl291N, cl291H, cl291G⟩ := id f290
  have ib292 := inb_of (j := (2 : Int32)) cl291S ⟨by decide, by decide⟩
  have R293 : Go p e below P T288 (mkF m 27 #[rV a, iV 3, iV 3, rV d, iV 2, iV 1, iV v2, iV v1, uS, uS, uS] [(.int (v2.toUInt32.toUInt16.toUInt32.toInt32)), (.int 1), (.ref d)]) := fun t_ k_ => R289 t_ (apS (X288.baloadBytes hx (v := (.int v2)) (by rw [(rfl : T288.heap = T288.heap)]; exact cl291A.1) (State.isArrayOf_alike hZ.alike cl291A.2.1) cl291A.2.2 ib292 (cl291H.at ib292 rfl) rfl rfl (hb hby d24_10)) (XS.istore X288.here hx rfl (hb hby d24_11) rfl (l' := #[rV a, iV 3, iV 3, rV d, iV 1, iV 1, iV v2, iV v1, uS, uS, uS]) rfl (XS.iload X288.here hx rfl (hb hby d24_13) rfl (XS.ifNo X288.here hx rfl (hb hby d24_15) rfl ((if0 _ _).trans (flt P8).1) (XS.aloadN X288.here hx rfl (hb hby d24_18) rfl rfl (XS.iload X288.here hx rfl (hb hby d24_19) rfl (XS.iinc X288.here hx rfl (hb hby d24_21) rfl (l' := #[rV a, iV 3, iV 3, rV d, iV ((1 : Int32) + (1 : Int32)), iV 1, iV v2, iV v1, uS, uS, uS]) rfl (XS.iload X288.here hx rfl (hb hby d24_24) rfl (XS.i2c X288.here hx rfl (hb hby d24_26) rfl k_)))))))))
  have er294 : (v2.toUInt32.toUInt16.toUInt32.toInt32) = v2 := ht
  have R295 : Go p e below P T288 (mkF m 27 #[rV a, iV 3, iV 3, rV d, iV 2, iV 1, iV v2, iV v1, uS, uS, uS] [(.int v2), (.int 1), (.ref d)]) := by have q := R293; rw [er294] at q; exact q
  obtain ⟨rv296, T296, Lc296, X296, hQ296, R296⟩ := callQ X288 hx hZ hown (rfl : T288.heap = T288.heap) R295 (putC_ l Z a0 hw [] d kd (6 : Int32) (((vs.set (2 * 0) (.int (loB c0))).set (2 * 0 + 1) (.int (hiB c0)))) 1 (1 : Int32) v2 T288.heap n0 O288 P0 P1 P2 p288_0 P5 rfl (lj (ls (ls hlen)) (by decide)) (lN (ls (ls hlen)) (by decide)) (ll (ls (ls hlen)) (by decide))) (hwI hw 122 rfl) (hwI hw 113 rfl) (hwI hw 88 rfl) (hwI hw 114 rfl) [] rfl (by rw [hml]; rfl) (lenOf pd_14998797 rfl) rfl (W := 0) (wR rfl) (hb hby d24_27)
  obtain ⟨rfl, N296q, K296, p296_0⟩ := hQ296
  have N296 := Fr.app N288 N296q
  have O296 := O288.keep K296 (allS P5 all0)
  have R297 : Go p e below P T296 (mkF m 623 #[rV a, iV 3, iV 3, rV d, iV 2, iV 1, iV v2, iV v1, uS, uS, uS] [(.int 2)]) := fun t_ k_ => R296 t_ (XS.goto X296.here hx rfl (pc0 := 30) (pc' := 618) rfl (hb hby d24_30) (by decide) (by decide) (XS.goto X296.here hx rfl (pc0 := 618) (pc' := 0) rfl (hb hby d24_618) (by decide) (by decide) (XS.iloadN X296.here hx rfl (hb hby d24_0) rfl (XS.iloadN X296.here hx rfl (hb hby d24_1) rfl (XS.icmpYes X296.here hx rfl (pc0 := 2) (pc' := 621) rfl (hb hby d24_2) rfl (flt (by decide : ¬ ((3 : Int32) < (3 : Int32)))).2.1 (by decide) (by decide) (XS.iload X296.here hx rfl (hb hby d24_621) rfl k_))))))
  obtain ⟨fs, hr, hrun, hended, hW, hsame⟩ := X296.leave (v := some (.int 2)) (fun h => by rw [Bd.returns] at h; cases h)
  exact ⟨_, _, hP _ (R297 _ (retI X296 hx Bd.returns (hb hby d24_623) hr)), hrun, hended, _, _, rfl, ⟨rfl, N296, (((Keep.refl h0 [d]).trans K288 (allS (Or.inl (List.mem_of_getElem? (i := 0) rfl)) all0)).trans K296 (allS (Or.inl (List.mem_of_getElem? (i := 0) rfl)) all0)), p296_0⟩, ⟨_, rfl⟩, hW, hsame.mono (by decide) (by decide)⟩
def Q_decU32h_ (Z : State) (a : Addr) (ka : ClassId) (v0 : Int32) (v1 : Int32) (v2 : Int32) (d : Addr) (kd : ClassId) (vs : List Value) (c0 : Int32) (h0 : Heap) (n0 : Nat) (rv_ : Option Value) (rh_ : Heap) (rL_ : List Loc) : Prop := (rv_ = some (.int 2)) ∧ (Fr n0 rL_) ∧ (Keep h0 rh_ [d]) ∧ (Arv Z rh_ d kd .byte (6 : Int32) ((((vs.set (2 * 0) (.int (loB c0))).set (2 * 0 + 1) (.int (hiB c0))).set (2 * 1) (.int (loB (65533 : Int32)))).set (2 * 1 + 1) (.int (hiB (65533 : Int32)))) (.int 0))
set_option maxRecDepth 65536 in
set_option maxHeartbeats 40000000 in
theorem decU32h_ (l : Launch) (Z : State) (a0 : Array Value) (hw : HW Z a0) (ws : List Jvm.Cond) (a : Addr) (ka : ClassId) (v0 : Int32) (v1 : Int32) (v2 : Int32) (d : Addr) (kd : ClassId) (vs : List Value) (c0 : Int32) (h0 : Heap) (n0 : Nat) (O0 : Old Z n0 h0) (P0 : sT2 Z (.int 1)) (P1 : sT3 Z (.int 0)) (P2 : sT4 Z (.int 8)) (P3 : Arv Z h0 a ka .byte (3 : Int32) [(.int v0), (.int v1), (.int v2)] (.int 0)) (P4 : Arv Z h0 d kd .byte (6 : Int32) vs (.int 0)) (P5 : n0 ≤ d) (P6 : a ≠ d) (P7 : vs.length = 6) (P8 : v2 < (0 : Int32)) (P9 : v0 < (0 : Int32)) (P10 : (v0 >>> ((5 : Int32) &&& 31)) = (-2 : Int32)) (P11 : ¬ ((v0 &&& (30 : Int32)) = (0 : Int32))) (P12 : (v1 &&& (192 : Int32)) = (128 : Int32)) (P13 : d2 v0 v1 = c0) :
    MetQ l yM29 (Jvm.Cond.code yM29 jdk_42_method_38_code 11 (some .int)) ws (rM 1 0 0 15) Z #[(.ref a), (.int 0), (.int 3), (.ref d), (.int 0), (.int 1)] h0 (Q_decU32h_ Z a ka v0 v1 v2 d kd vs c0 h0 n0) := by
  have hlen := P7
  have hd := P13
  refine metQ (plainFor_of_name pn_47582652) hisR (fun m => ef24_RIIRII m a (0 : Int32) (3 : Int32) d (0 : Int32) (1 : Int32)) ?_
  intro p e s m below meth c s₁ P Bd hx hby hml hZ hown hnm X0 e0 hP R0
  have N0 := Fr.nil n0
  have R298 : Go p e below P s₁ (mkF m 10 #[rV a, iV 1, iV 3, rV d, iV 0, iV 1, uS, uS, uS, uS, uS] [(.int 0), (.ref a)]) := fun t_ k_ => R0 t_ (XS.iloadN X0.here hx rfl (hb hby d24_0) rfl (XS.iloadN X0.here hx rfl (hb hby d24_1) rfl (XS.icmpNo X0.here hx rfl (hb hby d24_2) rfl (tlt (by decide : (0 : Int32) < (3 : Int32))).2.1 (XS.aloadN X0.here hx rfl (hb hby d24_5) rfl rfl (XS.iloadN X0.here hx rfl (hb hby d24_6) rfl (XS.iinc X0.here hx rfl (hb hby d24_7) rfl (l' := #[rV a, iV ((0 : Int32) + (1 : Int32)), iV 3, rV d, iV 0, iV 1, uS, uS, uS, uS, uS]) rfl k_))))))
  obtain ⟨cl299, cl299A, cl299q, cl299S, cl299N, cl299H, cl299G⟩ := id P3
  have ib300 := inb_of (j := (0 : Int32)) cl299S ⟨by decide, by decide⟩
  have R301 : Go p e below P s₁ (mkF m 33 #[rV a, iV 1, iV 3, rV d, iV 0, iV 1, iV v0, uS, uS, uS, uS] []) := fun t_ k_ => R298 t_ (apS (X0.baloadBytes hx (v := (.int v0)) (by rw [e0]; exact cl299A.1) (State.isArrayOf_alike hZ.alike cl299A.2.1) cl299A.2.2 ib300 (cl299H.at ib300 rfl) rfl rfl (hb hby d24_10)) (XS.istore X0.here hx rfl (hb hby d24_11) rfl (l' := #[rV a, iV 1, iV 3, rV d, iV 0, iV 1, iV v0, uS, uS, uS, uS]) rfl (XS.iload X0.here hx rfl (hb hby d24_13) rfl (XS.ifYes X0.here hx rfl (pc0 := 15) (pc' := 33) rfl (hb hby d24_15) rfl ((if0 _ _).trans (tlt P9).1) (by decide) (by decide) k_))))
  have R302 : Go p e below P s₁ (mkF m 55 #[rV a, iV 1, iV 3, rV d, iV 0, iV 1, iV v0, uS, uS, uS, uS] []) := fun t_ k_ => R301 t_ (XS.iload X0.here hx rfl (hb hby d24_33) rfl (XS.iconst X0.here hx rfl (hb hby d24_35) (XS.ishr X0.here hx rfl (hb hby d24_36) rfl (XS.bipush X0.here hx rfl (hb hby d24_37) (XS.icmpNo X0.here hx rfl (hb hby d24_39) rfl (teq P10).2 (XS.iload X0.here hx rfl (hb hby d24_42) rfl (XS.bipush X0.here hx rfl (hb hby d24_44) (XS.iand X0.here hx rfl (hb hby d24_46) rfl (XS.ifNo X0.here hx rfl (hb hby d24_47) rfl ((if0 _ _).trans (feq P11).1) (XS.iloadN X0.here hx rfl (hb hby d24_50) rfl (XS.iloadN X0.here hx rfl (hb hby d24_51) rfl (XS.icmpNo X0.here hx rfl (hb hby d24_52) rfl (tlt (by decide : (1 : Int32) < (3 : Int32))).2.1 k_))))))))))))
  have R303 : Go p e below P s₁ (mkF m 60 #[rV a, iV 2, iV 3, rV d, iV 0, iV 1, iV v0, uS, uS, uS, uS] [(.int 1), (.ref a)]) := fun t_ k_ => R302 t_ (XS.aloadN X0.here hx rfl (hb hby d24_55) rfl rfl (XS.iloadN X0.here hx rfl (hb hby d24_56) rfl (XS.iinc X0.here hx rfl (hb hby d24_57) rfl (l' := #[rV a, iV ((1 : Int32) + (1 : Int32)), iV 3, rV d, iV 0, iV 1, iV v0, uS, uS, uS, uS]) rfl k_)))
  have ib304 := inb_of (j := (1 : Int32)) cl299S ⟨by decide, by decide⟩
  have R305 : Go p e below P s₁ (mkF m 65 #[rV a, iV 2, iV 3, rV d, iV 0, iV 1, iV v0, iV v1, uS, uS, uS] [(.int v1)]) := fun t_ k_ => R303 t_ (apS (X0.baloadBytes hx (v := (.int v1)) (by rw [e0]; exact cl299A.1) (State.isArrayOf_alike hZ.alike cl299A.2.1) cl299A.2.2 ib304 (cl299H.at ib304 rfl) rfl rfl (hb hby d24_60)) (XS.istore X0.here hx rfl (hb hby d24_61) rfl (l' := #[rV a, iV 2, iV 3, rV d, iV 0, iV 1, iV v0, iV v1, uS, uS, uS]) rfl (XS.iload X0.here hx rfl (hb hby d24_63) rfl k_)))
  obtain ⟨rv306, T306, Lc306, X306, hQ306, R306⟩ := callQ X0 hx hZ hown e0 R305 (notCont_ l Z a0 hw [] v1 h0 n0 O0 P12) (hwI hw 168 rfl) (hwI hw 169 rfl) (hwI hw 10 rfl) (hwI hw 170 rfl) [] rfl (by rw [hml]; rfl) (lenOf pd_52681301 rfl) rfl (W := 0) (wR rfl) (hb hby d24_65)
  obtain ⟨rfl, N306q, K306⟩ := hQ306
  have N306 := Fr.app N0 N306q
  have R307 : Go p e below P T306 (mkF m 110 #[rV a, iV 2, iV 3, rV d, iV 1, iV 1, iV v0, iV v1, uS, uS, uS] [(.int v1), (.int v0), (.int 0), (.ref d)]) := fun t_ k_ => R306 t_ (XS.ifYes X306.here hx rfl (pc0 := 68) (pc' := 100) rfl (hb hby d24_68) rfl ((if0 _ _).trans (teq rfl).1) (by decide) (by decide) (XS.aloadN X306.here hx rfl (hb hby d24_100) rfl rfl (XS.iload X306.here hx rfl (hb hby d24_101) rfl (XS.iinc X306.here hx rfl (hb hby d24_103) rfl (l' := #[rV a, iV 2, iV 3, rV d, iV ((0 : Int32) + (1 : Int32)), iV 1, iV v0, iV v1, uS, uS, uS]) rfl (XS.iload X306.here hx rfl (hb hby d24_106) rfl (XS.iload X306.here hx rfl (hb hby d24_108) rfl k_))))))
  obtain ⟨rv308, T308, Lc308, X308, hQ308, R308⟩ := callQ X306 hx hZ hown K306 R307 (dec2_ l Z a0 hw [] v0 v1 c0 h0 n0 O0 hd) (hwI hw 171 rfl) (hwI hw 172 rfl) (hwI hw 10 rfl) (hwI hw 173 rfl) [(.int 0), (.ref d)] rfl (by rw [hml]; rfl) (lenOf pd_1793231 rfl) rfl (W := 2) (wR rfl) (hb hby d24_110)
  obtain ⟨rfl, N308q, K308⟩ := hQ308
  have N308 := Fr.app N306 N308q
  obtain ⟨rv309, T309, Lc309, X309, hQ309, R309⟩ := callQ X308 hx hZ hown K308 R308 (putC_ l Z a0 hw [] d kd (6 : Int32) vs 0 (0 : Int32) c0 h0 n0 O0 P0 P1 P2 P4 P5 rfl (lj hlen (by decide)) (lN hlen (by decide)) (ll hlen (by decide))) (hwI hw 122 rfl) (hwI hw 113 rfl) (hwI hw 88 rfl) (hwI hw 114 rfl) [] rfl (by rw [hml]; rfl) (lenOf pd_14998797 rfl) rfl (W := 0) (wR rfl) (hb hby d24_113)
  obtain ⟨rfl, N309q, K309, p309_0⟩ := hQ309
  have N309 := Fr.app N308 N309q
  have O309 := O0.keep K309 (allS P5 all0)
  have R310 : Go p e below P T309 (mkF m 10 #[rV a, iV 3, iV 3, rV d, iV 1, iV 1, iV v0, iV v1, uS, uS, uS] [(.int 2), (.ref a)]) := fun t_ k_ => R309 t_ (XS.goto X309.here hx rfl (pc0 := 116) (pc' := 0) rfl (hb hby d24_116) (by decide) (by decide) (XS.iloadN X309.here hx rfl (hb hby d24_0) rfl (XS.iloadN X309.here hx rfl (hb hby d24_1) rfl (XS.icmpNo X309.here hx rfl (hb hby d24_2) rfl (tlt (by decide : (2 : Int32) < (3 : Int32))).2.1 (XS.aloadN X309.here hx rfl (hb hby d24_5) rfl rfl (XS.iloadN X309.here hx rfl (hb hby d24_6) rfl (XS.iinc X309.here hx rfl (hb hby d24_7) rfl (l' := #[rV a, iV ((2 : Int32) + (1 : Int32)), iV 3, rV d, iV 1, iV 1, iV v0, iV v1, uS, uS, uS]) rfl k_)))))))
  have f311 := (P3.keep K309 (ninS P6 nin0))
  obtain ⟨cl312, cl312A, cl312q, cl312S, cl312N, cl312H, cl312G⟩ := id f311
  have ib313 := inb_of (j := (2 : Int32)) cl312S ⟨by decide, by decide⟩
  have R314 : Go p e below P T309 (mkF m 33 #[rV a, iV 3, iV 3, rV d, iV 1, iV 1, iV v2, iV v1, uS, uS, uS] []) := fun t_ k_ => R310 t_ (apS (X309.baloadBytes hx (v := (.int v2)) (by rw [(rfl : T309.heap = T309.heap)]; exact cl312A.1) (State.isArrayOf_alike hZ.alike cl312A.2.1) cl312A.2.2 ib313 (cl312H.at ib313 rfl) rfl rfl (hb hby d24_10)) (XS.istore X309.here hx rfl (hb hby d24_11) rfl (l' := #[rV a, iV 3, iV 3, rV d, iV 1, iV 1, iV v2, iV v1, uS, uS, uS]) rfl (XS.iload X309.here hx rfl (hb hby d24_13) rfl (XS.ifYes X309.here hx rfl (pc0 := 15) (pc' := 33) rfl (hb hby d24_15) rfl ((if0 _ _).trans (tlt P8).1) (by decide) (by decide) k_))))
  by_cases j5315 : (v2 >>> ((5 : Int32) &&& 31)) = (-2 : Int32) ∧ ¬ (v2 &&& (30 : Int32)) = (0 : Int32)
  · have R316 : Go p e below P T309 (mkF m 119 #[rV a, iV 3, iV 3, rV d, iV 1, iV 1, iV v2, iV v1, uS, uS, uS] []) := fun t_ k_ => R314 t_ (XS.iload X309.here hx rfl (hb hby d24_33) rfl (XS.iconst X309.here hx rfl (hb hby d24_35) (XS.ishr X309.here hx rfl (hb hby d24_36) rfl (XS.bipush X309.here hx rfl (hb hby d24_37) (XS.icmpNo X309.here hx rfl (hb hby d24_39) rfl (teq j5315.1).2 (XS.iload X309.here hx rfl (hb hby d24_42) rfl (XS.bipush X309.here hx rfl (hb hby d24_44) (XS.iand X309.here hx rfl (hb hby d24_46) rfl (XS.ifNo X309.here hx rfl (hb hby d24_47) rfl ((if0 _ _).trans (feq j5315.2).1) (XS.iloadN X309.here hx rfl (hb hby d24_50) rfl (XS.iloadN X309.here hx rfl (hb hby d24_51) rfl (XS.icmpYes X309.here hx rfl (pc0 := 52) (pc' := 119) rfl (hb hby d24_52) rfl (flt (by decide : ¬ ((3 : Int32) < (3 : Int32)))).2.1 (by decide) (by decide) k_))))))))))))
    have R317 : Go p e below P T309 (mkF m 137 #[rV a, iV 3, iV 3, rV d, iV 2, iV 1, iV v2, iV v1, uS, uS, uS] [(.int 65533), (.int 1), (.ref d)]) := fun t_ k_ => R316 t_ (XS.iload X309.here hx rfl (hb hby d24_119) rfl (XS.ifYes X309.here hx rfl (pc0 := 121) (pc' := 129) rfl (hb hby d24_121) rfl ((if0 _ _).trans (feq (by decide : ¬ ((1 : Int32) = (0 : Int32)))).2) (by decide) (by decide) (XS.aloadN X309.here hx rfl (hb hby d24_129) rfl rfl (XS.iload X309.here hx rfl (hb hby d24_130) rfl (XS.iinc X309.here hx rfl (hb hby d24_132) rfl (l' := #[rV a, iV 3, iV 3, rV d, iV ((1 : Int32) + (1 : Int32)), iV 1, iV v2, iV v1, uS, uS, uS]) rfl (apS (X309.ldcInt hx hown (mvT hZ (hwI hw 121 rfl)) rfl (hb hby d24_135)) k_))))))
    obtain ⟨rv318, T318, Lc318, X318, hQ318, R318⟩ := callQ X309 hx hZ hown (rfl : T309.heap = T309.heap) R317 (putC_ l Z a0 hw [] d kd (6 : Int32) (((vs.set (2 * 0) (.int (loB c0))).set (2 * 0 + 1) (.int (hiB c0)))) 1 (1 : Int32) (65533 : Int32) T309.heap n0 O309 P0 P1 P2 p309_0 P5 rfl (lj (ls (ls hlen)) (by decide)) (lN (ls (ls hlen)) (by decide)) (ll (ls (ls hlen)) (by decide))) (hwI hw 122 rfl) (hwI hw 113 rfl) (hwI hw 88 rfl) (hwI hw 114 rfl) [] rfl (by rw [hml]; rfl) (lenOf pd_14998797 rfl) rfl (W := 0) (wR rfl) (hb hby d24_137)
    obtain ⟨rfl, N318q, K318, p318_0⟩ := hQ318
    have N318 := Fr.app N309 N318q
    have O318 := O309.keep K318 (allS P5 all0)
    have R319 : Go p e below P T318 (mkF m 623 #[rV a, iV 3, iV 3, rV d, iV 2, iV 1, iV v2, iV v1, uS, uS, uS] [(.int 2)]) := fun t_ k_ => R318 t_ (XS.goto X318.here hx rfl (pc0 := 140) (pc' := 621) rfl (hb hby d24_140) (by decide) (by decide) (XS.iload X318.here hx rfl (hb hby d24_621) rfl k_))
    obtain ⟨fs, hr, hrun, hended, hW, hsame⟩ := X318.leave (v := some (.int 2)) (fun h => by rw [Bd.returns] at h; cases h)
    exact ⟨_, _, hP _ (R319 _ (retI X318 hx Bd.returns (hb hby d24_623) hr)), hrun, hended, _, _, rfl, ⟨rfl, N318, (((Keep.refl h0 [d]).trans K309 (allS (Or.inl (List.mem_of_getElem? (i := 0) rfl)) all0)).trans K318 (allS (Or.inl (List.mem_of_getElem? (i := 0) rfl)) all0)), p318_0⟩, ⟨_, rfl⟩, hW, hsame.mono (by decide) (by decide)⟩
  · have R320 : Go p e below P T309 (mkF m 143 #[rV a, iV 3, iV 3, rV d, iV 1, iV 1, iV v2, iV v1, uS, uS, uS] []) := by
      have R322 : Go p e below P T309 (mkF m 39 #[rV a, iV 3, iV 3, rV d, iV 1, iV 1, iV v2, iV v1, uS, uS, uS] [(.int (-2)), (.int (v2 >>> ((5 : Int32) &&& 31)))]) := fun t_ k_ => R314 t_ (XS.iload X309.here hx rfl (hb hby d24_33) rfl (XS.iconst X309.here hx rfl (hb hby d24_35) (XS.ishr X309.here hx rfl (hb hby d24_36) rfl (XS.bipush X309.here hx rfl (hb hby d24_37) k_))))
      by_cases hc323 : (v2 >>> ((5 : Int32) &&& 31)) = (-2 : Int32)
      · have R324 : Go p e below P T309 (mkF m 143 #[rV a, iV 3, iV 3, rV d, iV 1, iV 1, iV v2, iV v1, uS, uS, uS] []) := fun t_ k_ => R322 t_ (XS.icmpNo X309.here hx rfl (hb hby d24_39) rfl (teq hc323).2 (XS.iload X309.here hx rfl (hb hby d24_42) rfl (XS.bipush X309.here hx rfl (hb hby d24_44) (XS.iand X309.here hx rfl (hb hby d24_46) rfl (XS.ifYes X309.here hx rfl (pc0 := 47) (pc' := 143) rfl (hb hby d24_47) rfl ((if0 _ _).trans (teq (Decidable.of_not_not fun q => j5315 ⟨hc323, q⟩)).1) (by decide) (by decide) k_)))))
        exact R324
      · have R325 : Go p e below P T309 (mkF m 143 #[rV a, iV 3, iV 3, rV d, iV 1, iV 1, iV v2, iV v1, uS, uS, uS] []) := fun t_ k_ => R322 t_ (XS.icmpYes X309.here hx rfl (pc0 := 39) (pc' := 143) rfl (hb hby d24_39) rfl (feq hc323).2 (by decide) (by decide) k_)
        exact R325
    have R326 : Go p e below P T309 (mkF m 149 #[rV a, iV 3, iV 3, rV d, iV 1, iV 1, iV v2, iV v1, uS, uS, uS] [(.int (-2)), (.int (v2 >>> ((4 : Int32) &&& 31)))]) := fun t_ k_ => R320 t_ (XS.iload X309.here hx rfl (hb hby d24_143) rfl (XS.iconst X309.here hx rfl (hb hby d24_145) (XS.ishr X309.here hx rfl (hb hby d24_146) rfl (XS.bipush X309.here hx rfl (hb hby d24_147) k_))))
    by_cases hc327 : (v2 >>> ((4 : Int32) &&& 31)) = (-2 : Int32)
    · have R328 : Go p e below P T309 (mkF m 336 #[rV a, iV 3, iV 3, rV d, iV 1, iV 1, iV v2, iV v1, uS, uS, uS] [(.ref d)]) := fun t_ k_ => R326 t_ (XS.icmpNo X309.here hx rfl (hb hby d24_149) rfl (teq hc327).2 (XS.iloadN X309.here hx rfl (hb hby d24_152) rfl (XS.iconst X309.here hx rfl (hb hby d24_153) (XS.iadd X309.here hx rfl (hb hby d24_154) rfl (XS.iloadN X309.here hx rfl (hb hby d24_155) rfl (XS.icmpYes X309.here hx rfl (pc0 := 156) (pc' := 283) rfl (hb hby d24_156) rfl (flt (by decide : ¬ ((4 : Int32) < (3 : Int32)))).2.1 (by decide) (by decide) (XS.iloadN X309.here hx rfl (hb hby d24_283) rfl (XS.iloadN X309.here hx rfl (hb hby d24_284) rfl (XS.icmpYes X309.here hx rfl (pc0 := 285) (pc' := 325) rfl (hb hby d24_285) rfl (flt (by decide : ¬ ((3 : Int32) < (3 : Int32)))).2.1 (by decide) (by decide) (XS.iload X309.here hx rfl (hb hby d24_325) rfl (XS.ifYes X309.here hx rfl (pc0 := 327) (pc' := 335) rfl (hb hby d24_327) rfl ((if0 _ _).trans (feq (by decide : ¬ ((1 : Int32) = (0 : Int32)))).2) (by decide) (by decide) (XS.aloadN X309.here hx rfl (hb hby d24_335) rfl rfl k_))))))))))))
      have R329 : Go p e below P T309 (mkF m 343 #[rV a, iV 3, iV 3, rV d, iV 2, iV 1, iV v2, iV v1, uS, uS, uS] [(.int 65533), (.int 1), (.ref d)]) := fun t_ k_ => R328 t_ (XS.iload X309.here hx rfl (hb hby d24_336) rfl (XS.iinc X309.here hx rfl (hb hby d24_338) rfl (l' := #[rV a, iV 3, iV 3, rV d, iV ((1 : Int32) + (1 : Int32)), iV 1, iV v2, iV v1, uS, uS, uS]) rfl (apS (X309.ldcInt hx hown (mvT hZ (hwI hw 121 rfl)) rfl (hb hby d24_341)) k_)))
      obtain ⟨rv330, T330, Lc330, X330, hQ330, R330⟩ := callQ X309 hx hZ hown (rfl : T309.heap = T309.heap) R329 (putC_ l Z a0 hw [] d kd (6 : Int32) (((vs.set (2 * 0) (.int (loB c0))).set (2 * 0 + 1) (.int (hiB c0)))) 1 (1 : Int32) (65533 : Int32) T309.heap n0 O309 P0 P1 P2 p309_0 P5 rfl (lj (ls (ls hlen)) (by decide)) (lN (ls (ls hlen)) (by decide)) (ll (ls (ls hlen)) (by decide))) (hwI hw 122 rfl) (hwI hw 113 rfl) (hwI hw 88 rfl) (hwI hw 114 rfl) [] rfl (by rw [hml]; rfl) (lenOf pd_14998797 rfl) rfl (W := 0) (wR rfl) (hb hby d24_343)
      obtain ⟨rfl, N330q, K330, p330_0⟩ := hQ330
      have N330 := Fr.app N309 N330q
      have O330 := O309.keep K330 (allS P5 all0)
      have R331 : Go p e below P T330 (mkF m 623 #[rV a, iV 3, iV 3, rV d, iV 2, iV 1, iV v2, iV v1, uS, uS, uS] [(.int 2)]) := fun t_ k_ => R330 t_ (XS.goto X330.here hx rfl (pc0 := 346) (pc' := 621) rfl (hb hby d24_346) (by decide) (by decide) (XS.iload X330.here hx rfl (hb hby d24_621) rfl k_))
      obtain ⟨fs, hr, hrun, hended, hW, hsame⟩ := X330.leave (v := some (.int 2)) (fun h => by rw [Bd.returns] at h; cases h)
      exact ⟨_, _, hP _ (R331 _ (retI X330 hx Bd.returns (hb hby d24_623) hr)), hrun, hended, _, _, rfl, ⟨rfl, N330, (((Keep.refl h0 [d]).trans K309 (allS (Or.inl (List.mem_of_getElem? (i := 0) rfl)) all0)).trans K330 (allS (Or.inl (List.mem_of_getElem? (i := 0) rfl)) all0)), p330_0⟩, ⟨_, rfl⟩, hW, hsame.mono (by decide) (by decide)⟩
    · have R332 : Go p e below P T309 (mkF m 355 #[rV a, iV 3, iV 3, rV d, iV 1, iV 1, iV v2, iV v1, uS, uS, uS] [(.int (-2)), (.int (v2 >>> ((3 : Int32) &&& 31)))]) := fun t_ k_ => R326 t_ (XS.icmpYes X309.here hx rfl (pc0 := 149) (pc' := 349) rfl (hb hby d24_149) rfl (feq hc327).2 (by decide) (by decide) (XS.iload X309.here hx rfl (hb hby d24_349) rfl (XS.iconst X309.here hx rfl (hb hby d24_351) (XS.ishr X309.here hx rfl (hb hby d24_352) rfl (XS.bipush X309.here hx rfl (hb hby d24_353) k_)))))
      by_cases hc333 : (v2 >>> ((3 : Int32) &&& 31)) = (-2 : Int32)
      · have R334 : Go p e below P T309 (mkF m 503 #[rV a, iV 3, iV 3, rV d, iV 1, iV 1, iV (v2 &&& (255 : Int32)), iV v1, uS, uS, uS] [(.int 244), (.int (v2 &&& (255 : Int32)))]) := fun t_ k_ => R332 t_ (XS.icmpNo X309.here hx rfl (hb hby d24_355) rfl (teq hc333).2 (XS.iloadN X309.here hx rfl (hb hby d24_358) rfl (XS.iconst X309.here hx rfl (hb hby d24_359) (XS.iadd X309.here hx rfl (hb hby d24_360) rfl (XS.iloadN X309.here hx rfl (hb hby d24_361) rfl (XS.icmpYes X309.here hx rfl (pc0 := 362) (pc' := 490) rfl (hb hby d24_362) rfl (flt (by decide : ¬ ((5 : Int32) < (3 : Int32)))).2.1 (by decide) (by decide) (XS.iload X309.here hx rfl (hb hby d24_490) rfl (XS.sipush X309.here hx rfl (hb hby d24_492) (XS.iand X309.here hx rfl (hb hby d24_495) rfl (XS.istore X309.here hx rfl (hb hby d24_496) rfl (l' := #[rV a, iV 3, iV 3, rV d, iV 1, iV 1, iV (v2 &&& (255 : Int32)), iV v1, uS, uS, uS]) rfl (XS.iload X309.here hx rfl (hb hby d24_498) rfl (XS.sipush X309.here hx rfl (hb hby d24_500) k_))))))))))))
        by_cases hc335 : (244 : Int32) < (v2 &&& (255 : Int32))
        · have R336 : Go p e below P T309 (mkF m 546 #[rV a, iV 3, iV 3, rV d, iV 2, iV 1, iV (v2 &&& (255 : Int32)), iV v1, uS, uS, uS] [(.int 65533), (.int 1), (.ref d)]) := fun t_ k_ => R334 t_ (XS.icmpYes X309.here hx rfl (pc0 := 503) (pc' := 526) rfl (hb hby d24_503) rfl (tlt hc335).2.2.1 (by decide) (by decide) (XS.iload X309.here hx rfl (hb hby d24_526) rfl (XS.ifYes X309.here hx rfl (pc0 := 528) (pc' := 538) rfl (hb hby d24_528) rfl ((if0 _ _).trans (feq (by decide : ¬ ((1 : Int32) = (0 : Int32)))).2) (by decide) (by decide) (XS.aloadN X309.here hx rfl (hb hby d24_538) rfl rfl (XS.iload X309.here hx rfl (hb hby d24_539) rfl (XS.iinc X309.here hx rfl (hb hby d24_541) rfl (l' := #[rV a, iV 3, iV 3, rV d, iV ((1 : Int32) + (1 : Int32)), iV 1, iV (v2 &&& (255 : Int32)), iV v1, uS, uS, uS]) rfl (apS (X309.ldcInt hx hown (mvT hZ (hwI hw 121 rfl)) rfl (hb hby d24_544)) k_)))))))
          obtain ⟨rv337, T337, Lc337, X337, hQ337, R337⟩ := callQ X309 hx hZ hown (rfl : T309.heap = T309.heap) R336 (putC_ l Z a0 hw [] d kd (6 : Int32) (((vs.set (2 * 0) (.int (loB c0))).set (2 * 0 + 1) (.int (hiB c0)))) 1 (1 : Int32) (65533 : Int32) T309.heap n0 O309 P0 P1 P2 p309_0 P5 rfl (lj (ls (ls hlen)) (by decide)) (lN (ls (ls hlen)) (by decide)) (ll (ls (ls hlen)) (by decide))) (hwI hw 122 rfl) (hwI hw 113 rfl) (hwI hw 88 rfl) (hwI hw 114 rfl) [] rfl (by rw [hml]; rfl) (lenOf pd_14998797 rfl) rfl (W := 0) (wR rfl) (hb hby d24_546)
          obtain ⟨rfl, N337q, K337, p337_0⟩ := hQ337
          have N337 := Fr.app N309 N337q
          have O337 := O309.keep K337 (allS P5 all0)
          have R338 : Go p e below P T337 (mkF m 623 #[rV a, iV 3, iV 3, rV d, iV 2, iV 1, iV (v2 &&& (255 : Int32)), iV v1, uS, uS, uS] [(.int 2)]) := fun t_ k_ => R337 t_ (XS.goto X337.here hx rfl (pc0 := 549) (pc' := 0) rfl (hb hby d24_549) (by decide) (by decide) (XS.iloadN X337.here hx rfl (hb hby d24_0) rfl (XS.iloadN X337.here hx rfl (hb hby d24_1) rfl (XS.icmpYes X337.here hx rfl (pc0 := 2) (pc' := 621) rfl (hb hby d24_2) rfl (flt (by decide : ¬ ((3 : Int32) < (3 : Int32)))).2.1 (by decide) (by decide) (XS.iload X337.here hx rfl (hb hby d24_621) rfl k_)))))
          obtain ⟨fs, hr, hrun, hended, hW, hsame⟩ := X337.leave (v := some (.int 2)) (fun h => by rw [Bd.returns] at h; cases h)
          exact ⟨_, _, hP _ (R338 _ (retI X337 hx Bd.returns (hb hby d24_623) hr)), hrun, hended, _, _, rfl, ⟨rfl, N337, (((Keep.refl h0 [d]).trans K309 (allS (Or.inl (List.mem_of_getElem? (i := 0) rfl)) all0)).trans K337 (allS (Or.inl (List.mem_of_getElem? (i := 0) rfl)) all0)), p337_0⟩, ⟨_, rfl⟩, hW, hsame.mono (by decide) (by decide)⟩
        · have R339 : Go p e below P T309 (mkF m 575 #[rV a, iV 4, iV 3, rV d, iV 2, iV 1, iV (v2 &&& (255 : Int32)), iV v1, uS, uS, uS] [(.int 65533), (.int 1), (.ref d)]) := fun t_ k_ => R334 t_ (XS.icmpNo X309.here hx rfl (hb hby d24_503) rfl (flt hc335).2.2.1 (XS.iloadN X309.here hx rfl (hb hby d24_506) rfl (XS.iloadN X309.here hx rfl (hb hby d24_507) rfl (XS.icmpYes X309.here hx rfl (pc0 := 508) (pc' := 552) rfl (hb hby d24_508) rfl (flt (by decide : ¬ ((3 : Int32) < (3 : Int32)))).2.1 (by decide) (by decide) (XS.iload X309.here hx rfl (hb hby d24_552) rfl (XS.ifYes X309.here hx rfl (pc0 := 554) (pc' := 564) rfl (hb hby d24_554) rfl ((if0 _ _).trans (feq (by decide : ¬ ((1 : Int32) = (0 : Int32)))).2) (by decide) (by decide) (XS.iinc X309.here hx rfl (hb hby d24_564) rfl (l' := #[rV a, iV ((3 : Int32) + (1 : Int32)), iV 3, rV d, iV 1, iV 1, iV (v2 &&& (255 : Int32)), iV v1, uS, uS, uS]) rfl (XS.aloadN X309.here hx rfl (hb hby d24_567) rfl rfl (XS.iload X309.here hx rfl (hb hby d24_568) rfl (XS.iinc X309.here hx rfl (hb hby d24_570) rfl (l' := #[rV a, iV 4, iV 3, rV d, iV ((1 : Int32) + (1 : Int32)), iV 1, iV (v2 &&& (255 : Int32)), iV v1, uS, uS, uS]) rfl (apS (X309.ldcInt hx hown (mvT hZ (hwI hw 121 rfl)) rfl (hb hby d24_573)) k_)))))))))))
          obtain ⟨rv340, T340, Lc340, X340, hQ340, R340⟩ := callQ X309 hx hZ hown (rfl : T309.heap = T309.heap) R339 (putC_ l Z a0 hw [] d kd (6 : Int32) (((vs.set (2 * 0) (.int (loB c0))).set (2 * 0 + 1) (.int (hiB c0)))) 1 (1 : Int32) (65533 : Int32) T309.heap n0 O309 P0 P1 P2 p309_0 P5 rfl (lj (ls (ls hlen)) (by decide)) (lN (ls (ls hlen)) (by decide)) (ll (ls (ls hlen)) (by decide))) (hwI hw 122 rfl) (hwI hw 113 rfl) (hwI hw 88 rfl) (hwI hw 114 rfl) [] rfl (by rw [hml]; rfl) (lenOf pd_14998797 rfl) rfl (W := 0) (wR rfl) (hb hby d24_575)
          obtain ⟨rfl, N340q, K340, p340_0⟩ := hQ340
          have N340 := Fr.app N309 N340q
          have O340 := O309.keep K340 (allS P5 all0)
          have R341 : Go p e below P T340 (mkF m 623 #[rV a, iV 4, iV 3, rV d, iV 2, iV 1, iV (v2 &&& (255 : Int32)), iV v1, uS, uS, uS] [(.int 2)]) := fun t_ k_ => R340 t_ (XS.iloadN X340.here hx rfl (hb hby d24_578) rfl (XS.iloadN X340.here hx rfl (hb hby d24_579) rfl (XS.icmpYes X340.here hx rfl (pc0 := 580) (pc' := 621) rfl (hb hby d24_580) rfl (flt (by decide : ¬ ((4 : Int32) < (3 : Int32)))).2.1 (by decide) (by decide) (XS.iload X340.here hx rfl (hb hby d24_621) rfl k_))))
          obtain ⟨fs, hr, hrun, hended, hW, hsame⟩ := X340.leave (v := some (.int 2)) (fun h => by rw [Bd.returns] at h; cases h)
          exact ⟨_, _, hP _ (R341 _ (retI X340 hx Bd.returns (hb hby d24_623) hr)), hrun, hended, _, _, rfl, ⟨rfl, N340, (((Keep.refl h0 [d]).trans K309 (allS (Or.inl (List.mem_of_getElem? (i := 0) rfl)) all0)).trans K340 (allS (Or.inl (List.mem_of_getElem? (i := 0) rfl)) all0)), p340_0⟩, ⟨_, rfl⟩, hW, hsame.mono (by decide) (by decide)⟩
      · have R342 : Go p e below P T309 (mkF m 615 #[rV a, iV 3, iV 3, rV d, iV 2, iV 1, iV v2, iV v1, uS, uS, uS] [(.int 65533), (.int 1), (.ref d)]) := fun t_ k_ => R332 t_ (XS.icmpYes X309.here hx rfl (pc0 := 355) (pc' := 595) rfl (hb hby d24_355) rfl (feq hc333).2 (by decide) (by decide) (XS.iload X309.here hx rfl (hb hby d24_595) rfl (XS.ifYes X309.here hx rfl (pc0 := 597) (pc' := 607) rfl (hb hby d24_597) rfl ((if0 _ _).trans (feq (by decide : ¬ ((1 : Int32) = (0 : Int32)))).2) (by decide) (by decide) (XS.aloadN X309.here hx rfl (hb hby d24_607) rfl rfl (XS.iload X309.here hx rfl (hb hby d24_608) rfl (XS.iinc X309.here hx rfl (hb hby d24_610) rfl (l' := #[rV a, iV 3, iV 3, rV d, iV ((1 : Int32) + (1 : Int32)), iV 1, iV v2, iV v1, uS, uS, uS]) rfl (apS (X309.ldcInt hx hown (mvT hZ (hwI hw 121 rfl)) rfl (hb hby d24_613)) k_)))))))
        obtain ⟨rv343, T343, Lc343, X343, hQ343, R343⟩ := callQ X309 hx hZ hown (rfl : T309.heap = T309.heap) R342 (putC_ l Z a0 hw [] d kd (6 : Int32) (((vs.set (2 * 0) (.int (loB c0))).set (2 * 0 + 1) (.int (hiB c0)))) 1 (1 : Int32) (65533 : Int32) T309.heap n0 O309 P0 P1 P2 p309_0 P5 rfl (lj (ls (ls hlen)) (by decide)) (lN (ls (ls hlen)) (by decide)) (ll (ls (ls hlen)) (by decide))) (hwI hw 122 rfl) (hwI hw 113 rfl) (hwI hw 88 rfl) (hwI hw 114 rfl) [] rfl (by rw [hml]; rfl) (lenOf pd_14998797 rfl) rfl (W := 0) (wR rfl) (hb hby d24_615)
        obtain ⟨rfl, N343q, K343, p343_0⟩ := hQ343
        have N343 := Fr.app N309 N343q
        have O343 := O309.keep K343 (allS P5 all0)
        have R344 : Go p e below P T343 (mkF m 623 #[rV a, iV 3, iV 3, rV d, iV 2, iV 1, iV v2, iV v1, uS, uS, uS] [(.int 2)]) := fun t_ k_ => R343 t_ (XS.goto X343.here hx rfl (pc0 := 618) (pc' := 0) rfl (hb hby d24_618) (by decide) (by decide) (XS.iloadN X343.here hx rfl (hb hby d24_0) rfl (XS.iloadN X343.here hx rfl (hb hby d24_1) rfl (XS.icmpYes X343.here hx rfl (pc0 := 2) (pc' := 621) rfl (hb hby d24_2) rfl (flt (by decide : ¬ ((3 : Int32) < (3 : Int32)))).2.1 (by decide) (by decide) (XS.iload X343.here hx rfl (hb hby d24_621) rfl k_)))))
        obtain ⟨fs, hr, hrun, hended, hW, hsame⟩ := X343.leave (v := some (.int 2)) (fun h => by rw [Bd.returns] at h; cases h)
        exact ⟨_, _, hP _ (R344 _ (retI X343 hx Bd.returns (hb hby d24_623) hr)), hrun, hended, _, _, rfl, ⟨rfl, N343, (((Keep.refl h0 [d]).trans K309 (allS (Or.inl (List.mem_of_getElem? (i := 0) rfl)) all0)).trans K343 (allS (Or.inl (List.mem_of_getElem? (i := 0) rfl)) all0)), p343_0⟩, ⟨_, rfl⟩, hW, hsame.mono (by decide) (by decide)⟩
theorem d24_159 : decode jdk_42_method_38_code 159 = .ok (.aload_n 0, 1) := by decide +kernel
theorem d24_160 : decode jdk_42_method_38_code 160 = .ok (.iload_n 1, 1) := by decide +kernel
theorem d24_161 : decode jdk_42_method_38_code 161 = .ok (.iinc 1 1, 3) := by decide +kernel
theorem d24_164 : decode jdk_42_method_38_code 164 = .ok (.baload, 1) := by decide +kernel
theorem d24_165 : decode jdk_42_method_38_code 165 = .ok (.istore 7, 2) := by decide +kernel
theorem d24_167 : decode jdk_42_method_38_code 167 = .ok (.aload_n 0, 1) := by decide +kernel
theorem d24_168 : decode jdk_42_method_38_code 168 = .ok (.iload_n 1, 1) := by decide +kernel
theorem d24_169 : decode jdk_42_method_38_code 169 = .ok (.iinc 1 1, 3) := by decide +kernel
theorem d24_172 : decode jdk_42_method_38_code 172 = .ok (.baload, 1) := by decide +kernel
theorem d24_173 : decode jdk_42_method_38_code 173 = .ok (.istore 8, 2) := by decide +kernel
theorem d24_175 : decode jdk_42_method_38_code 175 = .ok (.iload 6, 2) := by decide +kernel
theorem d24_177 : decode jdk_42_method_38_code 177 = .ok (.iload 7, 2) := by decide +kernel
theorem d24_179 : decode jdk_42_method_38_code 179 = .ok (.iload 8, 2) := by decide +kernel
theorem d24_181 : decode jdk_42_method_38_code 181 = .ok (.invokestatic 392, 3) := by decide +kernel
theorem pd_35459097 : parseMethodDescriptor "(III)Z" = some ⟨[.int, .int, .int], some .boolean⟩ := by decide +kernel
theorem d24_184 : decode jdk_42_method_38_code 184 = .ok (.ifCond .eq 40, 3) := by decide +kernel
theorem d24_224 : decode jdk_42_method_38_code 224 = .ok (.iload 6, 2) := by decide +kernel
theorem d24_226 : decode jdk_42_method_38_code 226 = .ok (.iload 7, 2) := by decide +kernel
theorem d24_228 : decode jdk_42_method_38_code 228 = .ok (.iload 8, 2) := by decide +kernel
theorem d24_230 : decode jdk_42_method_38_code 230 = .ok (.invokestatic 400, 3) := by decide +kernel
theorem pd_35459074 : parseMethodDescriptor "(III)C" = some ⟨[.int, .int, .int], some .char⟩ := by decide +kernel
theorem d24_233 : decode jdk_42_method_38_code 233 = .ok (.istore 9, 2) := by decide +kernel
theorem d24_235 : decode jdk_42_method_38_code 235 = .ok (.iload 9, 2) := by decide +kernel
theorem d24_237 : decode jdk_42_method_38_code 237 = .ok (.invokestatic 404, 3) := by decide +kernel
theorem pd_52578335 : parseMethodDescriptor "(C)Z" = some ⟨[.char], some .boolean⟩ := by decide +kernel
theorem d24_240 : decode jdk_42_method_38_code 240 = .ok (.ifCond .eq 29, 3) := by decide +kernel
theorem d24_269 : decode jdk_42_method_38_code 269 = .ok (.aload_n 3, 1) := by decide +kernel
theorem d24_270 : decode jdk_42_method_38_code 270 = .ok (.iload 4, 2) := by decide +kernel
theorem d24_272 : decode jdk_42_method_38_code 272 = .ok (.iinc 4 1, 3) := by decide +kernel
theorem d24_275 : decode jdk_42_method_38_code 275 = .ok (.iload 9, 2) := by decide +kernel
theorem d24_277 : decode jdk_42_method_38_code 277 = .ok (.invokestatic 64, 3) := by decide +kernel
theorem d24_280 : decode jdk_42_method_38_code 280 = .ok (.goto (-280), 3) := by decide +kernel
def Q_decU43l_ (Z : State) (a : Addr) (ka : ClassId) (v0 : Int32) (v1 : Int32) (v2 : Int32) (v3 : Int32) (d : Addr) (kd : ClassId) (vs : List Value) (c0 : Int32) (h0 : Heap) (n0 : Nat) (rv_ : Option Value) (rh_ : Heap) (rL_ : List Loc) : Prop := (rv_ = some (.int 2)) ∧ (Fr n0 rL_) ∧ (Keep h0 rh_ [d]) ∧ (Arv Z rh_ d kd .byte (8 : Int32) ((((vs.set (2 * 0) (.int (loB c0))).set (2 * 0 + 1) (.int (hiB c0))).set (2 * 1) (.int (loB v3))).set (2 * 1 + 1) (.int (hiB v3))) (.int 0))
set_option maxRecDepth 65536 in
set_option maxHeartbeats 40000000 in
theorem decU43l_ (l : Launch) (Z : State) (a0 : Array Value) (hw : HW Z a0) (ws : List Jvm.Cond) (a : Addr) (ka : ClassId) (v0 : Int32) (v1 : Int32) (v2 : Int32) (v3 : Int32) (d : Addr) (kd : ClassId) (vs : List Value) (c0 : Int32) (h0 : Heap) (n0 : Nat) (O0 : Old Z n0 h0) (P0 : sT2 Z (.int 1)) (P1 : sT3 Z (.int 0)) (P2 : sT4 Z (.int 8)) (P3 : Arv Z h0 a ka .byte (4 : Int32) [(.int v0), (.int v1), (.int v2), (.int v3)] (.int 0)) (P4 : Arv Z h0 d kd .byte (8 : Int32) vs (.int 0)) (P5 : n0 ≤ d) (P6 : a ≠ d) (P7 : vs.length = 8) (P8 : ¬ (v3 < (0 : Int32))) (P9 : (v3.toUInt32.toUInt16.toUInt32.toInt32) = v3) (P10 : v0 < (0 : Int32)) (P11 : ¬ ((v0 >>> ((5 : Int32) &&& 31)) = (-2 : Int32))) (P12 : (v0 >>> ((4 : Int32) &&& 31)) = (-2 : Int32)) (P13 : (v1 &&& (192 : Int32)) = (128 : Int32)) (P14 : (v2 &&& (192 : Int32)) = (128 : Int32)) (P15 : v0 = (-32 : Int32) → ¬ (v1 &&& (224 : Int32)) = (128 : Int32)) (P16 : d3 v0 v1 v2 = c0) (P17 : c0 < (55296 : Int32) ∨ ¬ c0 < (57344 : Int32)) :
    MetQ l yM29 (Jvm.Cond.code yM29 jdk_42_method_38_code 11 (some .int)) ws (rM 1 0 0 14) Z #[(.ref a), (.int 0), (.int 4), (.ref d), (.int 0), (.int 1)] h0 (Q_decU43l_ Z a ka v0 v1 v2 v3 d kd vs c0 h0 n0) := by
  have hlen := P7
  have ht := P9
  have hE := P15
  have hd := P16
  have hns := P17
  refine metQ (plainFor_of_name pn_47582652) hisR (fun m => ef24_RIIRII m a (0 : Int32) (4 : Int32) d (0 : Int32) (1 : Int32)) ?_
  intro p e s m below meth c s₁ P Bd hx hby hml hZ hown hnm X0 e0 hP R0
  have N0 := Fr.nil n0
  have R345 : Go p e below P s₁ (mkF m 10 #[rV a, iV 1, iV 4, rV d, iV 0, iV 1, uS, uS, uS, uS, uS] [(.int 0), (.ref a)]) := fun t_ k_ => R0 t_ (XS.iloadN X0.here hx rfl (hb hby d24_0) rfl (XS.iloadN X0.here hx rfl (hb hby d24_1) rfl (XS.icmpNo X0.here hx rfl (hb hby d24_2) rfl (tlt (by decide : (0 : Int32) < (4 : Int32))).2.1 (XS.aloadN X0.here hx rfl (hb hby d24_5) rfl rfl (XS.iloadN X0.here hx rfl (hb hby d24_6) rfl (XS.iinc X0.here hx rfl (hb hby d24_7) rfl (l' := #[rV a, iV ((0 : Int32) + (1 : Int32)), iV 4, rV d, iV 0, iV 1, uS, uS, uS, uS, uS]) rfl k_))))))
  obtain ⟨cl346, cl346A, cl346q, cl346S, cl346N, cl346H, cl346G⟩ := id P3
  have ib347 := inb_of (j := (0 : Int32)) cl346S ⟨by decide, by decide⟩
  have R348 : Go p e below P s₁ (mkF m 147 #[rV a, iV 1, iV 4, rV d, iV 0, iV 1, iV v0, uS, uS, uS, uS] [(.int (v0 >>> ((4 : Int32) &&& 31)))]) := fun t_ k_ => R345 t_ (apS (X0.baloadBytes hx (v := (.int v0)) (by rw [e0]; exact cl346A.1) (State.isArrayOf_alike hZ.alike cl346A.2.1) cl346A.2.2 ib347 (cl346H.at ib347 rfl) rfl rfl (hb hby d24_10)) (XS.istore X0.here hx rfl (hb hby d24_11) rfl (l' := #[rV a, iV 1, iV 4, rV d, iV 0, iV 1, iV v0, uS, uS, uS, uS]) rfl (XS.iload X0.here hx rfl (hb hby d24_13) rfl (XS.ifYes X0.here hx rfl (pc0 := 15) (pc' := 33) rfl (hb hby d24_15) rfl ((if0 _ _).trans (tlt P10).1) (by decide) (by decide) (XS.iload X0.here hx rfl (hb hby d24_33) rfl (XS.iconst X0.here hx rfl (hb hby d24_35) (XS.ishr X0.here hx rfl (hb hby d24_36) rfl (XS.bipush X0.here hx rfl (hb hby d24_37) (XS.icmpYes X0.here hx rfl (pc0 := 39) (pc' := 143) rfl (hb hby d24_39) rfl (feq P11).2 (by decide) (by decide) (XS.iload X0.here hx rfl (hb hby d24_143) rfl (XS.iconst X0.here hx rfl (hb hby d24_145) (XS.ishr X0.here hx rfl (hb hby d24_146) rfl k_))))))))))))
  have R349 : Go p e below P s₁ (mkF m 164 #[rV a, iV 2, iV 4, rV d, iV 0, iV 1, iV v0, uS, uS, uS, uS] [(.int 1), (.ref a)]) := fun t_ k_ => R348 t_ (XS.bipush X0.here hx rfl (hb hby d24_147) (XS.icmpNo X0.here hx rfl (hb hby d24_149) rfl (teq P12).2 (XS.iloadN X0.here hx rfl (hb hby d24_152) rfl (XS.iconst X0.here hx rfl (hb hby d24_153) (XS.iadd X0.here hx rfl (hb hby d24_154) rfl (XS.iloadN X0.here hx rfl (hb hby d24_155) rfl (XS.icmpNo X0.here hx rfl (hb hby d24_156) rfl (tlt (by decide : (2 : Int32) < (4 : Int32))).2.1 (XS.aloadN X0.here hx rfl (hb hby d24_159) rfl rfl (XS.iloadN X0.here hx rfl (hb hby d24_160) rfl (XS.iinc X0.here hx rfl (hb hby d24_161) rfl (l' := #[rV a, iV ((1 : Int32) + (1 : Int32)), iV 4, rV d, iV 0, iV 1, iV v0, uS, uS, uS, uS]) rfl k_))))))))))
  have ib350 := inb_of (j := (1 : Int32)) cl346S ⟨by decide, by decide⟩
  have R351 : Go p e below P s₁ (mkF m 172 #[rV a, iV 3, iV 4, rV d, iV 0, iV 1, iV v0, iV v1, uS, uS, uS] [(.int 2), (.ref a)]) := fun t_ k_ => R349 t_ (apS (X0.baloadBytes hx (v := (.int v1)) (by rw [e0]; exact cl346A.1) (State.isArrayOf_alike hZ.alike cl346A.2.1) cl346A.2.2 ib350 (cl346H.at ib350 rfl) rfl rfl (hb hby d24_164)) (XS.istore X0.here hx rfl (hb hby d24_165) rfl (l' := #[rV a, iV 2, iV 4, rV d, iV 0, iV 1, iV v0, iV v1, uS, uS, uS]) rfl (XS.aloadN X0.here hx rfl (hb hby d24_167) rfl rfl (XS.iloadN X0.here hx rfl (hb hby d24_168) rfl (XS.iinc X0.here hx rfl (hb hby d24_169) rfl (l' := #[rV a, iV ((2 : Int32) + (1 : Int32)), iV 4, rV d, iV 0, iV 1, iV v0, iV v1, uS, uS, uS]) rfl k_)))))
  have ib352 := inb_of (j := (2 : Int32)) cl346S ⟨by decide, by decide⟩
  have R353 : Go p e below P s₁ (mkF m 181 #[rV a, iV 3, iV 4, rV d, iV 0, iV 1, iV v0, iV v1, iV v2, uS, uS] [(.int v2), (.int v1), (.int v0)]) := fun t_ k_ => R351 t_ (apS (X0.baloadBytes hx (v := (.int v2)) (by rw [e0]; exact cl346A.1) (State.isArrayOf_alike hZ.alike cl346A.2.1) cl346A.2.2 ib352 (cl346H.at ib352 rfl) rfl rfl (hb hby d24_172)) (XS.istore X0.here hx rfl (hb hby d24_173) rfl (l' := #[rV a, iV 3, iV 4, rV d, iV 0, iV 1, iV v0, iV v1, iV v2, uS, uS]) rfl (XS.iload X0.here hx rfl (hb hby d24_175) rfl (XS.iload X0.here hx rfl (hb hby d24_177) rfl (XS.iload X0.here hx rfl (hb hby d24_179) rfl k_)))))
  obtain ⟨rv354, T354, Lc354, X354, hQ354, R354⟩ := callQ X0 hx hZ hown e0 R353 (mal3_ l Z a0 hw [] v0 v1 v2 h0 n0 O0 P13 P14 hE) (hwI hw 174 rfl) (hwI hw 175 rfl) (hwI hw 10 rfl) (hwI hw 176 rfl) [] rfl (by rw [hml]; rfl) (lenOf pd_35459097 rfl) rfl (W := 0) (wR rfl) (hb hby d24_181)
  obtain ⟨rfl, N354q, K354⟩ := hQ354
  have N354 := Fr.app N0 N354q
  have R355 : Go p e below P T354 (mkF m 230 #[rV a, iV 3, iV 4, rV d, iV 0, iV 1, iV v0, iV v1, iV v2, uS, uS] [(.int v2), (.int v1), (.int v0)]) := fun t_ k_ => R354 t_ (XS.ifYes X354.here hx rfl (pc0 := 184) (pc' := 224) rfl (hb hby d24_184) rfl ((if0 _ _).trans (teq rfl).1) (by decide) (by decide) (XS.iload X354.here hx rfl (hb hby d24_224) rfl (XS.iload X354.here hx rfl (hb hby d24_226) rfl (XS.iload X354.here hx rfl (hb hby d24_228) rfl k_))))
  obtain ⟨rv356, T356, Lc356, X356, hQ356, R356⟩ := callQ X354 hx hZ hown K354 R355 (dec3_ l Z a0 hw [] v0 v1 v2 c0 h0 n0 O0 hd) (hwI hw 177 rfl) (hwI hw 178 rfl) (hwI hw 10 rfl) (hwI hw 179 rfl) [] rfl (by rw [hml]; rfl) (lenOf pd_35459074 rfl) rfl (W := 0) (wR rfl) (hb hby d24_230)
  obtain ⟨rfl, N356q, K356⟩ := hQ356
  have N356 := Fr.app N354 N356q
  have R357 : Go p e below P T356 (mkF m 237 #[rV a, iV 3, iV 4, rV d, iV 0, iV 1, iV v0, iV v1, iV v2, iV c0, uS] [(.int c0)]) := fun t_ k_ => R356 t_ (XS.istore X356.here hx rfl (hb hby d24_233) rfl (l' := #[rV a, iV 3, iV 4, rV d, iV 0, iV 1, iV v0, iV v1, iV v2, iV c0, uS]) rfl (XS.iload X356.here hx rfl (hb hby d24_235) rfl k_))
  obtain ⟨rv358, T358, Lc358, X358, hQ358, R358⟩ := callQ X356 hx hZ hown K356 R357 (isSur_ l Z a0 hw [] c0 h0 n0 O0 hns) (hwI hw 181 rfl) (hwI hw 182 rfl) (hwI hw 144 rfl) (hwI hw 183 rfl) [] rfl (by rw [hml]; rfl) (lenOf pd_52578335 rfl) rfl (W := 0) (wR rfl) (hb hby d24_237)
  obtain ⟨rfl, N358q, K358⟩ := hQ358
  have N358 := Fr.app N356 N358q
  have R359 : Go p e below P T358 (mkF m 277 #[rV a, iV 3, iV 4, rV d, iV 1, iV 1, iV v0, iV v1, iV v2, iV c0, uS] [(.int c0), (.int 0), (.ref d)]) := fun t_ k_ => R358 t_ (XS.ifYes X358.here hx rfl (pc0 := 240) (pc' := 269) rfl (hb hby d24_240) rfl ((if0 _ _).trans (teq rfl).1) (by decide) (by decide) (XS.aloadN X358.here hx rfl (hb hby d24_269) rfl rfl (XS.iload X358.here hx rfl (hb hby d24_270) rfl (XS.iinc X358.here hx rfl (hb hby d24_272) rfl (l' := #[rV a, iV 3, iV 4, rV d, iV ((0 : Int32) + (1 : Int32)), iV 1, iV v0, iV v1, iV v2, iV c0, uS]) rfl (XS.iload X358.here hx rfl (hb hby d24_275) rfl k_)))))
  obtain ⟨rv360, T360, Lc360, X360, hQ360, R360⟩ := callQ X358 hx hZ hown K358 R359 (putC_ l Z a0 hw [] d kd (8 : Int32) vs 0 (0 : Int32) c0 h0 n0 O0 P0 P1 P2 P4 P5 rfl (lj hlen (by decide)) (lN hlen (by decide)) (ll hlen (by decide))) (hwI hw 122 rfl) (hwI hw 113 rfl) (hwI hw 88 rfl) (hwI hw 114 rfl) [] rfl (by rw [hml]; rfl) (lenOf pd_14998797 rfl) rfl (W := 0) (wR rfl) (hb hby d24_277)
  obtain ⟨rfl, N360q, K360, p360_0⟩ := hQ360
  have N360 := Fr.app N358 N360q
  have O360 := O0.keep K360 (allS P5 all0)
  have R361 : Go p e below P T360 (mkF m 10 #[rV a, iV 4, iV 4, rV d, iV 1, iV 1, iV v0, iV v1, iV v2, iV c0, uS] [(.int 3), (.ref a)]) := fun t_ k_ => R360 t_ (XS.goto X360.here hx rfl (pc0 := 280) (pc' := 0) rfl (hb hby d24_280) (by decide) (by decide) (XS.iloadN X360.here hx rfl (hb hby d24_0) rfl (XS.iloadN X360.here hx rfl (hb hby d24_1) rfl (XS.icmpNo X360.here hx rfl (hb hby d24_2) rfl (tlt (by decide : (3 : Int32) < (4 : Int32))).2.1 (XS.aloadN X360.here hx rfl (hb hby d24_5) rfl rfl (XS.iloadN X360.here hx rfl (hb hby d24_6) rfl (XS.iinc X360.here hx rfl (hb hby d24_7) rfl (l' := #[rV a, iV ((3 : Int32) + (1 : Int32)), iV 4, rV d, iV 1, iV 1, iV v0, iV v1, iV v2, iV c0, uS]) rfl k_)))))))
  have f362 := (P3.keep K360 (ninS P6 nin0))
  obtain ⟨cl363, cl363A, cl363q, cl363S, cl363N, cl363H, cl363G⟩ := id f362
  have ib364 := inb_of (j := (3 : Int32)) cl363S ⟨by decide, by decide⟩
  have R365 : Go p e below P T360 (mkF m 27 #[rV a, iV 4, iV 4, rV d, iV 2, iV 1, iV v3, iV v1, iV v2, iV c0, uS] [(.int (v3.toUInt32.toUInt16.toUInt32.toInt32)), (.int 1), (.ref d)]) := fun t_ k_ => R361 t_ (apS (X360.baloadBytes hx (v := (.int v3)) (by rw [(rfl : T360.heap = T360.heap)]; exact cl363A.1) (State.isArrayOf_alike hZ.alike cl363A.2.1) cl363A.2.2 ib364 (cl363H.at ib364 rfl) rfl rfl (hb hby d24_10)) (XS.istore X360.here hx rfl (hb hby d24_11) rfl (l' := #[rV a, iV 4, iV 4, rV d, iV 1, iV 1, iV v3, iV v1, iV v2, iV c0, uS]) rfl (XS.iload X360.here hx rfl (hb hby d24_13) rfl (XS.ifNo X360.here hx rfl (hb hby d24_15) rfl ((if0 _ _).trans (flt P8).1) (XS.aloadN X360.here hx rfl (hb hby d24_18) rfl rfl (XS.iload X360.here hx rfl (hb hby d24_19) rfl (XS.iinc X360.here hx rfl (hb hby d24_21) rfl (l' := #[rV a, iV 4, iV 4, rV d, iV ((1 : Int32) + (1 : Int32)), iV 1, iV v3, iV v1, iV v2, iV c0, uS]) rfl (XS.iload X360.here hx rfl (hb hby d24_24) rfl (XS.i2c X360.here hx rfl (hb hby d24_26) rfl k_)))))))))
  have er366 : (v3.toUInt32.toUInt16.toUInt32.toInt32) = v3 := ht
  have R367 : Go p e below P T360 (mkF m 27 #[rV a, iV 4, iV 4, rV d, iV 2, iV 1, iV v3, iV v1, iV v2, iV c0, uS] [(.int v3), (.int 1), (.ref d)]) := by have q := R365; rw [er366] at q; exact q
  obtain ⟨rv368, T368, Lc368, X368, hQ368, R368⟩ := callQ X360 hx hZ hown (rfl : T360.heap = T360.heap) R367 (putC_ l Z a0 hw [] d kd (8 : Int32) (((vs.set (2 * 0) (.int (loB c0))).set (2 * 0 + 1) (.int (hiB c0)))) 1 (1 : Int32) v3 T360.heap n0 O360 P0 P1 P2 p360_0 P5 rfl (lj (ls (ls hlen)) (by decide)) (lN (ls (ls hlen)) (by decide)) (ll (ls (ls hlen)) (by decide))) (hwI hw 122 rfl) (hwI hw 113 rfl) (hwI hw 88 rfl) (hwI hw 114 rfl) [] rfl (by rw [hml]; rfl) (lenOf pd_14998797 rfl) rfl (W := 0) (wR rfl) (hb hby d24_27)
  obtain ⟨rfl, N368q, K368, p368_0⟩ := hQ368
  have N368 := Fr.app N360 N368q
  have O368 := O360.keep K368 (allS P5 all0)
  have R369 : Go p e below P T368 (mkF m 623 #[rV a, iV 4, iV 4, rV d, iV 2, iV 1, iV v3, iV v1, iV v2, iV c0, uS] [(.int 2)]) := fun t_ k_ => R368 t_ (XS.goto X368.here hx rfl (pc0 := 30) (pc' := 618) rfl (hb hby d24_30) (by decide) (by decide) (XS.goto X368.here hx rfl (pc0 := 618) (pc' := 0) rfl (hb hby d24_618) (by decide) (by decide) (XS.iloadN X368.here hx rfl (hb hby d24_0) rfl (XS.iloadN X368.here hx rfl (hb hby d24_1) rfl (XS.icmpYes X368.here hx rfl (pc0 := 2) (pc' := 621) rfl (hb hby d24_2) rfl (flt (by decide : ¬ ((4 : Int32) < (4 : Int32)))).2.1 (by decide) (by decide) (XS.iload X368.here hx rfl (hb hby d24_621) rfl k_))))))
  obtain ⟨fs, hr, hrun, hended, hW, hsame⟩ := X368.leave (v := some (.int 2)) (fun h => by rw [Bd.returns] at h; cases h)
  exact ⟨_, _, hP _ (R369 _ (retI X368 hx Bd.returns (hb hby d24_623) hr)), hrun, hended, _, _, rfl, ⟨rfl, N368, (((Keep.refl h0 [d]).trans K360 (allS (Or.inl (List.mem_of_getElem? (i := 0) rfl)) all0)).trans K368 (allS (Or.inl (List.mem_of_getElem? (i := 0) rfl)) all0)), p368_0⟩, ⟨_, rfl⟩, hW, hsame.mono (by decide) (by decide)⟩
def Q_decU43h_ (Z : State) (a : Addr) (ka : ClassId) (v0 : Int32) (v1 : Int32) (v2 : Int32) (v3 : Int32) (d : Addr) (kd : ClassId) (vs : List Value) (c0 : Int32) (h0 : Heap) (n0 : Nat) (rv_ : Option Value) (rh_ : Heap) (rL_ : List Loc) : Prop := (rv_ = some (.int 2)) ∧ (Fr n0 rL_) ∧ (Keep h0 rh_ [d]) ∧ (Arv Z rh_ d kd .byte (8 : Int32) ((((vs.set (2 * 0) (.int (loB c0))).set (2 * 0 + 1) (.int (hiB c0))).set (2 * 1) (.int (loB (65533 : Int32)))).set (2 * 1 + 1) (.int (hiB (65533 : Int32)))) (.int 0))
set_option maxRecDepth 65536 in
set_option maxHeartbeats 40000000 in
theorem decU43h_ (l : Launch) (Z : State) (a0 : Array Value) (hw : HW Z a0) (ws : List Jvm.Cond) (a : Addr) (ka : ClassId) (v0 : Int32) (v1 : Int32) (v2 : Int32) (v3 : Int32) (d : Addr) (kd : ClassId) (vs : List Value) (c0 : Int32) (h0 : Heap) (n0 : Nat) (O0 : Old Z n0 h0) (P0 : sT2 Z (.int 1)) (P1 : sT3 Z (.int 0)) (P2 : sT4 Z (.int 8)) (P3 : Arv Z h0 a ka .byte (4 : Int32) [(.int v0), (.int v1), (.int v2), (.int v3)] (.int 0)) (P4 : Arv Z h0 d kd .byte (8 : Int32) vs (.int 0)) (P5 : n0 ≤ d) (P6 : a ≠ d) (P7 : vs.length = 8) (P8 : v3 < (0 : Int32)) (P9 : v0 < (0 : Int32)) (P10 : ¬ ((v0 >>> ((5 : Int32) &&& 31)) = (-2 : Int32))) (P11 : (v0 >>> ((4 : Int32) &&& 31)) = (-2 : Int32)) (P12 : (v1 &&& (192 : Int32)) = (128 : Int32)) (P13 : (v2 &&& (192 : Int32)) = (128 : Int32)) (P14 : v0 = (-32 : Int32) → ¬ (v1 &&& (224 : Int32)) = (128 : Int32)) (P15 : d3 v0 v1 v2 = c0) (P16 : c0 < (55296 : Int32) ∨ ¬ c0 < (57344 : Int32)) :
    MetQ l yM29 (Jvm.Cond.code yM29 jdk_42_method_38_code 11 (some .int)) ws (rM 1 0 0 14) Z #[(.ref a), (.int 0), (.int 4), (.ref d), (.int 0), (.int 1)] h0 (Q_decU43h_ Z a ka v0 v1 v2 v3 d kd vs c0 h0 n0) := by
  have hlen := P7
  have hE := P14
  have hd := P15
  have hns := P16
  refine metQ (plainFor_of_name pn_47582652) hisR (fun m => ef24_RIIRII m a (0 : Int32) (4 : Int32) d (0 : Int32) (1 : Int32)) ?_
  intro p e s m below meth c s₁ P Bd hx hby hml hZ hown hnm X0 e0 hP R0
  have N0 := Fr.nil n0
  have R370 : Go p e below P s₁ (mkF m 10 #[rV a, iV 1, iV 4, rV d, iV 0, iV 1, uS, uS, uS, uS, uS] [(.int 0), (.ref a)]) := fun t_ k_ => R0 t_ (XS.iloadN X0.here hx rfl (hb hby d24_0) rfl (XS.iloadN X0.here hx rfl (hb hby d24_1) rfl (XS.icmpNo X0.here hx rfl (hb hby d24_2) rfl (tlt (by decide : (0 : Int32) < (4 : Int32))).2.1 (XS.aloadN X0.here hx rfl (hb hby d24_5) rfl rfl (XS.iloadN X0.here hx rfl (hb hby d24_6) rfl (XS.iinc X0.here hx rfl (hb hby d24_7) rfl (l' := #[rV a, iV ((0 : Int32) + (1 : Int32)), iV 4, rV d, iV 0, iV 1, uS, uS, uS, uS, uS]) rfl k_))))))
  obtain ⟨cl371, cl371A, cl371q, cl371S, cl371N, cl371H, cl371G⟩ := id P3
  have ib372 := inb_of (j := (0 : Int32)) cl371S ⟨by decide, by decide⟩
  have R373 : Go p e below P s₁ (mkF m 33 #[rV a, iV 1, iV 4, rV d, iV 0, iV 1, iV v0, uS, uS, uS, uS] []) := fun t_ k_ => R370 t_ (apS (X0.baloadBytes hx (v := (.int v0)) (by rw [e0]; exact cl371A.1) (State.isArrayOf_alike hZ.alike cl371A.2.1) cl371A.2.2 ib372 (cl371H.at ib372 rfl) rfl rfl (hb hby d24_10)) (XS.istore X0.here hx rfl (hb hby d24_11) rfl (l' := #[rV a, iV 1, iV 4, rV d, iV 0, iV 1, iV v0, uS, uS, uS, uS]) rfl (XS.iload X0.here hx rfl (hb hby d24_13) rfl (XS.ifYes X0.here hx rfl (pc0 := 15) (pc' := 33) rfl (hb hby d24_15) rfl ((if0 _ _).trans (tlt P9).1) (by decide) (by decide) k_))))
  have R374 : Go p e below P s₁ (mkF m 154 #[rV a, iV 1, iV 4, rV d, iV 0, iV 1, iV v0, uS, uS, uS, uS] [(.int 1), (.int 1)]) := fun t_ k_ => R373 t_ (XS.iload X0.here hx rfl (hb hby d24_33) rfl (XS.iconst X0.here hx rfl (hb hby d24_35) (XS.ishr X0.here hx rfl (hb hby d24_36) rfl (XS.bipush X0.here hx rfl (hb hby d24_37) (XS.icmpYes X0.here hx rfl (pc0 := 39) (pc' := 143) rfl (hb hby d24_39) rfl (feq P10).2 (by decide) (by decide) (XS.iload X0.here hx rfl (hb hby d24_143) rfl (XS.iconst X0.here hx rfl (hb hby d24_145) (XS.ishr X0.here hx rfl (hb hby d24_146) rfl (XS.bipush X0.here hx rfl (hb hby d24_147) (XS.icmpNo X0.here hx rfl (hb hby d24_149) rfl (teq P11).2 (XS.iloadN X0.here hx rfl (hb hby d24_152) rfl (XS.iconst X0.here hx rfl (hb hby d24_153) k_))))))))))))
  have R375 : Go p e below P s₁ (mkF m 164 #[rV a, iV 2, iV 4, rV d, iV 0, iV 1, iV v0, uS, uS, uS, uS] [(.int 1), (.ref a)]) := fun t_ k_ => R374 t_ (XS.iadd X0.here hx rfl (hb hby d24_154) rfl (XS.iloadN X0.here hx rfl (hb hby d24_155) rfl (XS.icmpNo X0.here hx rfl (hb hby d24_156) rfl (tlt (by decide : (2 : Int32) < (4 : Int32))).2.1 (XS.aloadN X0.here hx rfl (hb hby d24_159) rfl rfl (XS.iloadN X0.here hx rfl (hb hby d24_160) rfl (XS.iinc X0.here hx rfl (hb hby d24_161) rfl (l' := #[rV a, iV ((1 : Int32) + (1 : Int32)), iV 4, rV d, iV 0, iV 1, iV v0, uS, uS, uS, uS]) rfl k_))))))
  have ib376 := inb_of (j := (1 : Int32)) cl371S ⟨by decide, by decide⟩
  have R377 : Go p e below P s₁ (mkF m 172 #[rV a, iV 3, iV 4, rV d, iV 0, iV 1, iV v0, iV v1, uS, uS, uS] [(.int 2), (.ref a)]) := fun t_ k_ => R375 t_ (apS (X0.baloadBytes hx (v := (.int v1)) (by rw [e0]; exact cl371A.1) (State.isArrayOf_alike hZ.alike cl371A.2.1) cl371A.2.2 ib376 (cl371H.at ib376 rfl) rfl rfl (hb hby d24_164)) (XS.istore X0.here hx rfl (hb hby d24_165) rfl (l' := #[rV a, iV 2, iV 4, rV d, iV 0, iV 1, iV v0, iV v1, uS, uS, uS]) rfl (XS.aloadN X0.here hx rfl (hb hby d24_167) rfl rfl (XS.iloadN X0.here hx rfl (hb hby d24_168) rfl (XS.iinc X0.here hx rfl (hb hby d24_169) rfl (l' := #[rV a, iV ((2 : Int32) + (1 : Int32)), iV 4, rV d, iV 0, iV 1, iV v0, iV v1, uS, uS, uS]) rfl k_)))))
  have ib378 := inb_of (j := (2 : Int32)) cl371S ⟨by decide, by decide⟩
  have R379 : Go p e below P s₁ (mkF m 181 #[rV a, iV 3, iV 4, rV d, iV 0, iV 1, iV v0, iV v1, iV v2, uS, uS] [(.int v2), (.int v1), (.int v0)]) := fun t_ k_ => R377 t_ (apS (X0.baloadBytes hx (v := (.int v2)) (by rw [e0]; exact cl371A.1) (State.isArrayOf_alike hZ.alike cl371A.2.1) cl371A.2.2 ib378 (cl371H.at ib378 rfl) rfl rfl (hb hby d24_172)) (XS.istore X0.here hx rfl (hb hby d24_173) rfl (l' := #[rV a, iV 3, iV 4, rV d, iV 0, iV 1, iV v0, iV v1, iV v2, uS, uS]) rfl (XS.iload X0.here hx rfl (hb hby d24_175) rfl (XS.iload X0.here hx rfl (hb hby d24_177) rfl (XS.iload X0.here hx rfl (hb hby d24_179) rfl k_)))))
  obtain ⟨rv380, T380, Lc380, X380, hQ380, R380⟩ := callQ X0 hx hZ hown e0 R379 (mal3_ l Z a0 hw [] v0 v1 v2 h0 n0 O0 P12 P13 hE) (hwI hw 174 rfl) (hwI hw 175 rfl) (hwI hw 10 rfl) (hwI hw 176 rfl) [] rfl (by rw [hml]; rfl) (lenOf pd_35459097 rfl) rfl (W := 0) (wR rfl) (hb hby d24_181)
  obtain ⟨rfl, N380q, K380⟩ := hQ380
  have N380 := Fr.app N0 N380q
  have R381 : Go p e below P T380 (mkF m 230 #[rV a, iV 3, iV 4, rV d, iV 0, iV 1, iV v0, iV v1, iV v2, uS, uS] [(.int v2), (.int v1), (.int v0)]) := fun t_ k_ => R380 t_ (XS.ifYes X380.here hx rfl (pc0 := 184) (pc' := 224) rfl (hb hby d24_184) rfl ((if0 _ _).trans (teq rfl).1) (by decide) (by decide) (XS.iload X380.here hx rfl (hb hby d24_224) rfl (XS.iload X380.here hx rfl (hb hby d24_226) rfl (XS.iload X380.here hx rfl (hb hby d24_228) rfl k_))))
  obtain ⟨rv382, T382, Lc382, X382, hQ382, R382⟩ := callQ X380 hx hZ hown K380 R381 (dec3_ l Z a0 hw [] v0 v1 v2 c0 h0 n0 O0 hd) (hwI hw 177 rfl) (hwI hw 178 rfl) (hwI hw 10 rfl) (hwI hw 179 rfl) [] rfl (by rw [hml]; rfl) (lenOf pd_35459074 rfl) rfl (W := 0) (wR rfl) (hb hby d24_230)
  obtain ⟨rfl, N382q, K382⟩ := hQ382
  have N382 := Fr.app N380 N382q
  have R383 : Go p e below P T382 (mkF m 237 #[rV a, iV 3, iV 4, rV d, iV 0, iV 1, iV v0, iV v1, iV v2, iV c0, uS] [(.int c0)]) := fun t_ k_ => R382 t_ (XS.istore X382.here hx rfl (hb hby d24_233) rfl (l' := #[rV a, iV 3, iV 4, rV d, iV 0, iV 1, iV v0, iV v1, iV v2, iV c0, uS]) rfl (XS.iload X382.here hx rfl (hb hby d24_235) rfl k_))
  obtain ⟨rv384, T384, Lc384, X384, hQ384, R384⟩ := callQ X382 hx hZ hown K382 R383 (isSur_ l Z a0 hw [] c0 h0 n0 O0 hns) (hwI hw 181 rfl) (hwI hw 182 rfl) (hwI hw 144 rfl) (hwI hw 183 rfl) [] rfl (by rw [hml]; rfl) (lenOf pd_52578335 rfl) rfl (W := 0) (wR rfl) (hb hby d24_237)
  obtain ⟨rfl, N384q, K384⟩ := hQ384
  have N384 := Fr.app N382 N384q
  have R385 : Go p e below P T384 (mkF m 277 #[rV a, iV 3, iV 4, rV d, iV 1, iV 1, iV v0, iV v1, iV v2, iV c0, uS] [(.int c0), (.int 0), (.ref d)]) := fun t_ k_ => R384 t_ (XS.ifYes X384.here hx rfl (pc0 := 240) (pc' := 269) rfl (hb hby d24_240) rfl ((if0 _ _).trans (teq rfl).1) (by decide) (by decide) (XS.aloadN X384.here hx rfl (hb hby d24_269) rfl rfl (XS.iload X384.here hx rfl (hb hby d24_270) rfl (XS.iinc X384.here hx rfl (hb hby d24_272) rfl (l' := #[rV a, iV 3, iV 4, rV d, iV ((0 : Int32) + (1 : Int32)), iV 1, iV v0, iV v1, iV v2, iV c0, uS]) rfl (XS.iload X384.here hx rfl (hb hby d24_275) rfl k_)))))
  obtain ⟨rv386, T386, Lc386, X386, hQ386, R386⟩ := callQ X384 hx hZ hown K384 R385 (putC_ l Z a0 hw [] d kd (8 : Int32) vs 0 (0 : Int32) c0 h0 n0 O0 P0 P1 P2 P4 P5 rfl (lj hlen (by decide)) (lN hlen (by decide)) (ll hlen (by decide))) (hwI hw 122 rfl) (hwI hw 113 rfl) (hwI hw 88 rfl) (hwI hw 114 rfl) [] rfl (by rw [hml]; rfl) (lenOf pd_14998797 rfl) rfl (W := 0) (wR rfl) (hb hby d24_277)
  obtain ⟨rfl, N386q, K386, p386_0⟩ := hQ386
  have N386 := Fr.app N384 N386q
  have O386 := O0.keep K386 (allS P5 all0)
  have R387 : Go p e below P T386 (mkF m 10 #[rV a, iV 4, iV 4, rV d, iV 1, iV 1, iV v0, iV v1, iV v2, iV c0, uS] [(.int 3), (.ref a)]) := fun t_ k_ => R386 t_ (XS.goto X386.here hx rfl (pc0 := 280) (pc' := 0) rfl (hb hby d24_280) (by decide) (by decide) (XS.iloadN X386.here hx rfl (hb hby d24_0) rfl (XS.iloadN X386.here hx rfl (hb hby d24_1) rfl (XS.icmpNo X386.here hx rfl (hb hby d24_2) rfl (tlt (by decide : (3 : Int32) < (4 : Int32))).2.1 (XS.aloadN X386.here hx rfl (hb hby d24_5) rfl rfl (XS.iloadN X386.here hx rfl (hb hby d24_6) rfl (XS.iinc X386.here hx rfl (hb hby d24_7) rfl (l' := #[rV a, iV ((3 : Int32) + (1 : Int32)), iV 4, rV d, iV 1, iV 1, iV v0, iV v1, iV v2, iV c0, uS]) rfl k_)))))))
  have f388 := (P3.keep K386 (ninS P6 nin0))
  obtain ⟨cl389, cl389A, cl389q, cl389S, cl389N, cl389H, cl389G⟩ := id f388
  have ib390 := inb_of (j := (3 : Int32)) cl389S ⟨by decide, by decide⟩
  have R391 : Go p e below P T386 (mkF m 33 #[rV a, iV 4, iV 4, rV d, iV 1, iV 1, iV v3, iV v1, iV v2, iV c0, uS] []) := fun t_ k_ => R387 t_ (apS (X386.baloadBytes hx (v := (.int v3)) (by rw [(rfl : T386.heap = T386.heap)]; exact cl389A.1) (State.isArrayOf_alike hZ.alike cl389A.2.1) cl389A.2.2 ib390 (cl389H.at ib390 rfl) rfl rfl (hb hby d24_10)) (XS.istore X386.here hx rfl (hb hby d24_11) rfl (l' := #[rV a, iV 4, iV 4, rV d, iV 1, iV 1, iV v3, iV v1, iV v2, iV c0, uS]) rfl (XS.iload X386.here hx rfl (hb hby d24_13) rfl (XS.ifYes X386.here hx rfl (pc0 := 15) (pc' := 33) rfl (hb hby d24_15) rfl ((if0 _ _).trans (tlt P8).1) (by decide) (by decide) k_))))
  by_cases j5392 : (v3 >>> ((5 : Int32) &&& 31)) = (-2 : Int32) ∧ ¬ (v3 &&& (30 : Int32)) = (0 : Int32)
  · have R393 : Go p e below P T386 (mkF m 119 #[rV a, iV 4, iV 4, rV d, iV 1, iV 1, iV v3, iV v1, iV v2, iV c0, uS] []) := fun t_ k_ => R391 t_ (XS.iload X386.here hx rfl (hb hby d24_33) rfl (XS.iconst X386.here hx rfl (hb hby d24_35) (XS.ishr X386.here hx rfl (hb hby d24_36) rfl (XS.bipush X386.here hx rfl (hb hby d24_37) (XS.icmpNo X386.here hx rfl (hb hby d24_39) rfl (teq j5392.1).2 (XS.iload X386.here hx rfl (hb hby d24_42) rfl (XS.bipush X386.here hx rfl (hb hby d24_44) (XS.iand X386.here hx rfl (hb hby d24_46) rfl (XS.ifNo X386.here hx rfl (hb hby d24_47) rfl ((if0 _ _).trans (feq j5392.2).1) (XS.iloadN X386.here hx rfl (hb hby d24_50) rfl (XS.iloadN X386.here hx rfl (hb hby d24_51) rfl (XS.icmpYes X386.here hx rfl (pc0 := 52) (pc' := 119) rfl (hb hby d24_52) rfl (flt (by decide : ¬ ((4 : Int32) < (4 : Int32)))).2.1 (by decide) (by decide) k_))))))))))))
    have R394 : Go p e below P T386 (mkF m 137 #[rV a, iV 4, iV 4, rV d, iV 2, iV 1, iV v3, iV v1, iV v2, iV c0, uS] [(.int 65533), (.int 1), (.ref d)]) := fun t_ k_ => R393 t_ (XS.iload X386.here hx rfl (hb hby d24_119) rfl (XS.ifYes X386.here hx rfl (pc0 := 121) (pc' := 129) rfl (hb hby d24_121) rfl ((if0 _ _).trans (feq (by decide : ¬ ((1 : Int32) = (0 : Int32)))).2) (by decide) (by decide) (XS.aloadN X386.here hx rfl (hb hby d24_129) rfl rfl (XS.iload X386.here hx rfl (hb hby d24_130) rfl (XS.iinc X386.here hx rfl (hb hby d24_132) rfl (l' := #[rV a, iV 4, iV 4, rV d, iV ((1 : Int32) + (1 : Int32)), iV 1, iV v3, iV v1, iV v2, iV c0, uS]) rfl (apS (X386.ldcInt hx hown (mvT hZ (hwI hw 121 rfl)) rfl (hb hby d24_135)) k_))))))
    obtain ⟨rv395, T395, Lc395, X395, hQ395, R395⟩ := callQ X386 hx hZ hown (rfl : T386.heap = T386.heap) R394 (putC_ l Z a0 hw [] d kd (8 : Int32) (((vs.set (2 * 0) (.int (loB c0))).set (2 * 0 + 1) (.int (hiB c0)))) 1 (1 : Int32) (65533 : Int32) T386.heap n0 O386 P0 P1 P2 p386_0 P5 rfl (lj (ls (ls hlen)) (by decide)) (lN (ls (ls hlen)) (by decide)) (ll (ls (ls hlen)) (by decide))) (hwI hw 122 rfl) (hwI hw 113 rfl) (hwI hw 88 rfl) (hwI hw 114 rfl) [] rfl (by rw [hml]; rfl) (lenOf pd_14998797 rfl) rfl (W := 0) (wR rfl) (hb hby d24_137)
    obtain ⟨rfl, N395q, K395, p395_0⟩ := hQ395
    have N395 := Fr.app N386 N395q
    have O395 := O386.keep K395 (allS P5 all0)
    have R396 : Go p e below P T395 (mkF m 623 #[rV a, iV 4, iV 4, rV d, iV 2, iV 1, iV v3, iV v1, iV v2, iV c0, uS] [(.int 2)]) := fun t_ k_ => R395 t_ (XS.goto X395.here hx rfl (pc0 := 140) (pc' := 621) rfl (hb hby d24_140) (by decide) (by decide) (XS.iload X395.here hx rfl (hb hby d24_621) rfl k_))
    obtain ⟨fs, hr, hrun, hended, hW, hsame⟩ := X395.leave (v := some (.int 2)) (fun h => by rw [Bd.returns] at h; cases h)
    exact ⟨_, _, hP _ (R396 _ (retI X395 hx Bd.returns (hb hby d24_623) hr)), hrun, hended, _, _, rfl, ⟨rfl, N395, (((Keep.refl h0 [d]).trans K386 (allS (Or.inl (List.mem_of_getElem? (i := 0) rfl)) all0)).trans K395 (allS (Or.inl (List.mem_of_getElem? (i := 0) rfl)) all0)), p395_0⟩, ⟨_, rfl⟩, hW, hsame.mono (by decide) (by decide)⟩
  · have R397 : Go p e below P T386 (mkF m 143 #[rV a, iV 4, iV 4, rV d, iV 1, iV 1, iV v3, iV v1, iV v2, iV c0, uS] []) := by
      have R399 : Go p e below P T386 (mkF m 39 #[rV a, iV 4, iV 4, rV d, iV 1, iV 1, iV v3, iV v1, iV v2, iV c0, uS] [(.int (-2)), (.int (v3 >>> ((5 : Int32) &&& 31)))]) := fun t_ k_ => R391 t_ (XS.iload X386.here hx rfl (hb hby d24_33) rfl (XS.iconst X386.here hx rfl (hb hby d24_35) (XS.ishr X386.here hx rfl (hb hby d24_36) rfl (XS.bipush X386.here hx rfl (hb hby d24_37) k_))))
      by_cases hc400 : (v3 >>> ((5 : Int32) &&& 31)) = (-2 : Int32)
      · have R401 : Go p e below P T386 (mkF m 143 #[rV a, iV 4, iV 4, rV d, iV 1, iV 1, iV v3, iV v1, iV v2, iV c0, uS] []) := fun t_ k_ => R399 t_ (XS.icmpNo X386.here hx rfl (hb hby d24_39) rfl (teq hc400).2 (XS.iload X386.here hx rfl (hb hby d24_42) rfl (XS.bipush X386.here hx rfl (hb hby d24_44) (XS.iand X386.here hx rfl (hb hby d24_46) rfl (XS.ifYes X386.here hx rfl (pc0 := 47) (pc' := 143) rfl (hb hby d24_47) rfl ((if0 _ _).trans (teq (Decidable.of_not_not fun q => j5392 ⟨hc400, q⟩)).1) (by decide) (by decide) k_)))))
        exact R401
      · have R402 : Go p e below P T386 (mkF m 143 #[rV a, iV 4, iV 4, rV d, iV 1, iV 1, iV v3, iV v1, iV v2, iV c0, uS] []) := fun t_ k_ => R399 t_ (XS.icmpYes X386.here hx rfl (pc0 := 39) (pc' := 143) rfl (hb hby d24_39) rfl (feq hc400).2 (by decide) (by decide) k_)
        exact R402
    have R403 : Go p e below P T386 (mkF m 149 #[rV a, iV 4, iV 4, rV d, iV 1, iV 1, iV v3, iV v1, iV v2, iV c0, uS] [(.int (-2)), (.int (v3 >>> ((4 : Int32) &&& 31)))]) := fun t_ k_ => R397 t_ (XS.iload X386.here hx rfl (hb hby d24_143) rfl (XS.iconst X386.here hx rfl (hb hby d24_145) (XS.ishr X386.here hx rfl (hb hby d24_146) rfl (XS.bipush X386.here hx rfl (hb hby d24_147) k_))))
    by_cases hc404 : (v3 >>> ((4 : Int32) &&& 31)) = (-2 : Int32)
    · have R405 : Go p e below P T386 (mkF m 336 #[rV a, iV 4, iV 4, rV d, iV 1, iV 1, iV v3, iV v1, iV v2, iV c0, uS] [(.ref d)]) := fun t_ k_ => R403 t_ (XS.icmpNo X386.here hx rfl (hb hby d24_149) rfl (teq hc404).2 (XS.iloadN X386.here hx rfl (hb hby d24_152) rfl (XS.iconst X386.here hx rfl (hb hby d24_153) (XS.iadd X386.here hx rfl (hb hby d24_154) rfl (XS.iloadN X386.here hx rfl (hb hby d24_155) rfl (XS.icmpYes X386.here hx rfl (pc0 := 156) (pc' := 283) rfl (hb hby d24_156) rfl (flt (by decide : ¬ ((5 : Int32) < (4 : Int32)))).2.1 (by decide) (by decide) (XS.iloadN X386.here hx rfl (hb hby d24_283) rfl (XS.iloadN X386.here hx rfl (hb hby d24_284) rfl (XS.icmpYes X386.here hx rfl (pc0 := 285) (pc' := 325) rfl (hb hby d24_285) rfl (flt (by decide : ¬ ((4 : Int32) < (4 : Int32)))).2.1 (by decide) (by decide) (XS.iload X386.here hx rfl (hb hby d24_325) rfl (XS.ifYes X386.here hx rfl (pc0 := 327) (pc' := 335) rfl (hb hby d24_327) rfl ((if0 _ _).trans (feq (by decide : ¬ ((1 : Int32) = (0 : Int32)))).2) (by decide) (by decide) (XS.aloadN X386.here hx rfl (hb hby d24_335) rfl rfl k_))))))))))))
      have R406 : Go p e below P T386 (mkF m 343 #[rV a, iV 4, iV 4, rV d, iV 2, iV 1, iV v3, iV v1, iV v2, iV c0, uS] [(.int 65533), (.int 1), (.ref d)]) := fun t_ k_ => R405 t_ (XS.iload X386.here hx rfl (hb hby d24_336) rfl (XS.iinc X386.here hx rfl (hb hby d24_338) rfl (l' := #[rV a, iV 4, iV 4, rV d, iV ((1 : Int32) + (1 : Int32)), iV 1, iV v3, iV v1, iV v2, iV c0, uS]) rfl (apS (X386.ldcInt hx hown (mvT hZ (hwI hw 121 rfl)) rfl (hb hby d24_341)) k_)))
      obtain ⟨rv407, T407, Lc407, X407, hQ407, R407⟩ := callQ X386 hx hZ hown (rfl : T386.heap = T386.heap) R406 (putC_ l Z a0 hw [] d kd (8 : Int32) (((vs.set (2 * 0) (.int (loB c0))).set (2 * 0 + 1) (.int (hiB c0)))) 1 (1 : Int32) (65533 : Int32) T386.heap n0 O386 P0 P1 P2 p386_0 P5 rfl (lj (ls (ls hlen)) (by decide)) (lN (ls (ls hlen)) (by decide)) (ll (ls (ls hlen)) (by decide))) (hwI hw 122 rfl) (hwI hw 113 rfl) (hwI hw 88 rfl) (hwI hw 114 rfl) [] rfl (by rw [hml]; rfl) (lenOf pd_14998797 rfl) rfl (W := 0) (wR rfl) (hb hby d24_343)
      obtain ⟨rfl, N407q, K407, p407_0⟩ := hQ407
      have N407 := Fr.app N386 N407q
      have O407 := O386.keep K407 (allS P5 all0)
      have R408 : Go p e below P T407 (mkF m 623 #[rV a, iV 4, iV 4, rV d, iV 2, iV 1, iV v3, iV v1, iV v2, iV c0, uS] [(.int 2)]) := fun t_ k_ => R407 t_ (XS.goto X407.here hx rfl (pc0 := 346) (pc' := 621) rfl (hb hby d24_346) (by decide) (by decide) (XS.iload X407.here hx rfl (hb hby d24_621) rfl k_))
      obtain ⟨fs, hr, hrun, hended, hW, hsame⟩ := X407.leave (v := some (.int 2)) (fun h => by rw [Bd.returns] at h; cases h)
      exact ⟨_, _, hP _ (R408 _ (retI X407 hx Bd.returns (hb hby d24_623) hr)), hrun, hended, _, _, rfl, ⟨rfl, N407, (((Keep.refl h0 [d]).trans K386 (allS (Or.inl (List.mem_of_getElem? (i := 0) rfl)) all0)).trans K407 (allS (Or.inl (List.mem_of_getElem? (i := 0) rfl)) all0)), p407_0⟩, ⟨_, rfl⟩, hW, hsame.mono (by decide) (by decide)⟩
    · have R409 : Go p e below P T386 (mkF m 355 #[rV a, iV 4, iV 4, rV d, iV 1, iV 1, iV v3, iV v1, iV v2, iV c0, uS] [(.int (-2)), (.int (v3 >>> ((3 : Int32) &&& 31)))]) := fun t_ k_ => R403 t_ (XS.icmpYes X386.here hx rfl (pc0 := 149) (pc' := 349) rfl (hb hby d24_149) rfl (feq hc404).2 (by decide) (by decide) (XS.iload X386.here hx rfl (hb hby d24_349) rfl (XS.iconst X386.here hx rfl (hb hby d24_351) (XS.ishr X386.here hx rfl (hb hby d24_352) rfl (XS.bipush X386.here hx rfl (hb hby d24_353) k_)))))
      by_cases hc410 : (v3 >>> ((3 : Int32) &&& 31)) = (-2 : Int32)
      · have R411 : Go p e below P T386 (mkF m 503 #[rV a, iV 4, iV 4, rV d, iV 1, iV 1, iV (v3 &&& (255 : Int32)), iV v1, iV v2, iV c0, uS] [(.int 244), (.int (v3 &&& (255 : Int32)))]) := fun t_ k_ => R409 t_ (XS.icmpNo X386.here hx rfl (hb hby d24_355) rfl (teq hc410).2 (XS.iloadN X386.here hx rfl (hb hby d24_358) rfl (XS.iconst X386.here hx rfl (hb hby d24_359) (XS.iadd X386.here hx rfl (hb hby d24_360) rfl (XS.iloadN X386.here hx rfl (hb hby d24_361) rfl (XS.icmpYes X386.here hx rfl (pc0 := 362) (pc' := 490) rfl (hb hby d24_362) rfl (flt (by decide : ¬ ((6 : Int32) < (4 : Int32)))).2.1 (by decide) (by decide) (XS.iload X386.here hx rfl (hb hby d24_490) rfl (XS.sipush X386.here hx rfl (hb hby d24_492) (XS.iand X386.here hx rfl (hb hby d24_495) rfl (XS.istore X386.here hx rfl (hb hby d24_496) rfl (l' := #[rV a, iV 4, iV 4, rV d, iV 1, iV 1, iV (v3 &&& (255 : Int32)), iV v1, iV v2, iV c0, uS]) rfl (XS.iload X386.here hx rfl (hb hby d24_498) rfl (XS.sipush X386.here hx rfl (hb hby d24_500) k_))))))))))))
        by_cases hc412 : (244 : Int32) < (v3 &&& (255 : Int32))
        · have R413 : Go p e below P T386 (mkF m 546 #[rV a, iV 4, iV 4, rV d, iV 2, iV 1, iV (v3 &&& (255 : Int32)), iV v1, iV v2, iV c0, uS] [(.int 65533), (.int 1), (.ref d)]) := fun t_ k_ => R411 t_ (XS.icmpYes X386.here hx rfl (pc0 := 503) (pc' := 526) rfl (hb hby d24_503) rfl (tlt hc412).2.2.1 (by decide) (by decide) (XS.iload X386.here hx rfl (hb hby d24_526) rfl (XS.ifYes X386.here hx rfl (pc0 := 528) (pc' := 538) rfl (hb hby d24_528) rfl ((if0 _ _).trans (feq (by decide : ¬ ((1 : Int32) = (0 : Int32)))).2) (by decide) (by decide) (XS.aloadN X386.here hx rfl (hb hby d24_538) rfl rfl (XS.iload X386.here hx rfl (hb hby d24_539) rfl (XS.iinc X386.here hx rfl (hb hby d24_541) rfl (l' := #[rV a, iV 4, iV 4, rV d, iV ((1 : Int32) + (1 : Int32)), iV 1, iV (v3 &&& (255 : Int32)), iV v1, iV v2, iV c0, uS]) rfl (apS (X386.ldcInt hx hown (mvT hZ (hwI hw 121 rfl)) rfl (hb hby d24_544)) k_)))))))
          obtain ⟨rv414, T414, Lc414, X414, hQ414, R414⟩ := callQ X386 hx hZ hown (rfl : T386.heap = T386.heap) R413 (putC_ l Z a0 hw [] d kd (8 : Int32) (((vs.set (2 * 0) (.int (loB c0))).set (2 * 0 + 1) (.int (hiB c0)))) 1 (1 : Int32) (65533 : Int32) T386.heap n0 O386 P0 P1 P2 p386_0 P5 rfl (lj (ls (ls hlen)) (by decide)) (lN (ls (ls hlen)) (by decide)) (ll (ls (ls hlen)) (by decide))) (hwI hw 122 rfl) (hwI hw 113 rfl) (hwI hw 88 rfl) (hwI hw 114 rfl) [] rfl (by rw [hml]; rfl) (lenOf pd_14998797 rfl) rfl (W := 0) (wR rfl) (hb hby d24_546)
          obtain ⟨rfl, N414q, K414, p414_0⟩ := hQ414
          have N414 := Fr.app N386 N414q
          have O414 := O386.keep K414 (allS P5 all0)
          have R415 : Go p e below P T414 (mkF m 623 #[rV a, iV 4, iV 4, rV d, iV 2, iV 1, iV (v3 &&& (255 : Int32)), iV v1, iV v2, iV c0, uS] [(.int 2)]) := fun t_ k_ => R414 t_ (XS.goto X414.here hx rfl (pc0 := 549) (pc' := 0) rfl (hb hby d24_549) (by decide) (by decide) (XS.iloadN X414.here hx rfl (hb hby d24_0) rfl (XS.iloadN X414.here hx rfl (hb hby d24_1) rfl (XS.icmpYes X414.here hx rfl (pc0 := 2) (pc' := 621) rfl (hb hby d24_2) rfl (flt (by decide : ¬ ((4 : Int32) < (4 : Int32)))).2.1 (by decide) (by decide) (XS.iload X414.here hx rfl (hb hby d24_621) rfl k_)))))
          obtain ⟨fs, hr, hrun, hended, hW, hsame⟩ := X414.leave (v := some (.int 2)) (fun h => by rw [Bd.returns] at h; cases h)
          exact ⟨_, _, hP _ (R415 _ (retI X414 hx Bd.returns (hb hby d24_623) hr)), hrun, hended, _, _, rfl, ⟨rfl, N414, (((Keep.refl h0 [d]).trans K386 (allS (Or.inl (List.mem_of_getElem? (i := 0) rfl)) all0)).trans K414 (allS (Or.inl (List.mem_of_getElem? (i := 0) rfl)) all0)), p414_0⟩, ⟨_, rfl⟩, hW, hsame.mono (by decide) (by decide)⟩
        · have R416 : Go p e below P T386 (mkF m 575 #[rV a, iV 5, iV 4, rV d, iV 2, iV 1, iV (v3 &&& (255 : Int32)), iV v1, iV v2, iV c0, uS] [(.int 65533), (.int 1), (.ref d)]) := fun t_ k_ => R411 t_ (XS.icmpNo X386.here hx rfl (hb hby d24_503) rfl (flt hc412).2.2.1 (XS.iloadN X386.here hx rfl (hb hby d24_506) rfl (XS.iloadN X386.here hx rfl (hb hby d24_507) rfl (XS.icmpYes X386.here hx rfl (pc0 := 508) (pc' := 552) rfl (hb hby d24_508) rfl (flt (by decide : ¬ ((4 : Int32) < (4 : Int32)))).2.1 (by decide) (by decide) (XS.iload X386.here hx rfl (hb hby d24_552) rfl (XS.ifYes X386.here hx rfl (pc0 := 554) (pc' := 564) rfl (hb hby d24_554) rfl ((if0 _ _).trans (feq (by decide : ¬ ((1 : Int32) = (0 : Int32)))).2) (by decide) (by decide) (XS.iinc X386.here hx rfl (hb hby d24_564) rfl (l' := #[rV a, iV ((4 : Int32) + (1 : Int32)), iV 4, rV d, iV 1, iV 1, iV (v3 &&& (255 : Int32)), iV v1, iV v2, iV c0, uS]) rfl (XS.aloadN X386.here hx rfl (hb hby d24_567) rfl rfl (XS.iload X386.here hx rfl (hb hby d24_568) rfl (XS.iinc X386.here hx rfl (hb hby d24_570) rfl (l' := #[rV a, iV 5, iV 4, rV d, iV ((1 : Int32) + (1 : Int32)), iV 1, iV (v3 &&& (255 : Int32)), iV v1, iV v2, iV c0, uS]) rfl (apS (X386.ldcInt hx hown (mvT hZ (hwI hw 121 rfl)) rfl (hb hby d24_573)) k_)))))))))))
          obtain ⟨rv417, T417, Lc417, X417, hQ417, R417⟩ := callQ X386 hx hZ hown (rfl : T386.heap = T386.heap) R416 (putC_ l Z a0 hw [] d kd (8 : Int32) (((vs.set (2 * 0) (.int (loB c0))).set (2 * 0 + 1) (.int (hiB c0)))) 1 (1 : Int32) (65533 : Int32) T386.heap n0 O386 P0 P1 P2 p386_0 P5 rfl (lj (ls (ls hlen)) (by decide)) (lN (ls (ls hlen)) (by decide)) (ll (ls (ls hlen)) (by decide))) (hwI hw 122 rfl) (hwI hw 113 rfl) (hwI hw 88 rfl) (hwI hw 114 rfl) [] rfl (by rw [hml]; rfl) (lenOf pd_14998797 rfl) rfl (W := 0) (wR rfl) (hb hby d24_575)
          obtain ⟨rfl, N417q, K417, p417_0⟩ := hQ417
          have N417 := Fr.app N386 N417q
          have O417 := O386.keep K417 (allS P5 all0)
          have R418 : Go p e below P T417 (mkF m 623 #[rV a, iV 5, iV 4, rV d, iV 2, iV 1, iV (v3 &&& (255 : Int32)), iV v1, iV v2, iV c0, uS] [(.int 2)]) := fun t_ k_ => R417 t_ (XS.iloadN X417.here hx rfl (hb hby d24_578) rfl (XS.iloadN X417.here hx rfl (hb hby d24_579) rfl (XS.icmpYes X417.here hx rfl (pc0 := 580) (pc' := 621) rfl (hb hby d24_580) rfl (flt (by decide : ¬ ((5 : Int32) < (4 : Int32)))).2.1 (by decide) (by decide) (XS.iload X417.here hx rfl (hb hby d24_621) rfl k_))))
          obtain ⟨fs, hr, hrun, hended, hW, hsame⟩ := X417.leave (v := some (.int 2)) (fun h => by rw [Bd.returns] at h; cases h)
          exact ⟨_, _, hP _ (R418 _ (retI X417 hx Bd.returns (hb hby d24_623) hr)), hrun, hended, _, _, rfl, ⟨rfl, N417, (((Keep.refl h0 [d]).trans K386 (allS (Or.inl (List.mem_of_getElem? (i := 0) rfl)) all0)).trans K417 (allS (Or.inl (List.mem_of_getElem? (i := 0) rfl)) all0)), p417_0⟩, ⟨_, rfl⟩, hW, hsame.mono (by decide) (by decide)⟩
      · have R419 : Go p e below P T386 (mkF m 615 #[rV a, iV 4, iV 4, rV d, iV 2, iV 1, iV v3, iV v1, iV v2, iV c0, uS] [(.int 65533), (.int 1), (.ref d)]) := fun t_ k_ => R409 t_ (XS.icmpYes X386.here hx rfl (pc0 := 355) (pc' := 595) rfl (hb hby d24_355) rfl (feq hc410).2 (by decide) (by decide) (XS.iload X386.here hx rfl (hb hby d24_595) rfl (XS.ifYes X386.here hx rfl (pc0 := 597) (pc' := 607) rfl (hb hby d24_597) rfl ((if0 _ _).trans (feq (by decide : ¬ ((1 : Int32) = (0 : Int32)))).2) (by decide) (by decide) (XS.aloadN X386.here hx rfl (hb hby d24_607) rfl rfl (XS.iload X386.here hx rfl (hb hby d24_608) rfl (XS.iinc X386.here hx rfl (hb hby d24_610) rfl (l' := #[rV a, iV 4, iV 4, rV d, iV ((1 : Int32) + (1 : Int32)), iV 1, iV v3, iV v1, iV v2, iV c0, uS]) rfl (apS (X386.ldcInt hx hown (mvT hZ (hwI hw 121 rfl)) rfl (hb hby d24_613)) k_)))))))
        obtain ⟨rv420, T420, Lc420, X420, hQ420, R420⟩ := callQ X386 hx hZ hown (rfl : T386.heap = T386.heap) R419 (putC_ l Z a0 hw [] d kd (8 : Int32) (((vs.set (2 * 0) (.int (loB c0))).set (2 * 0 + 1) (.int (hiB c0)))) 1 (1 : Int32) (65533 : Int32) T386.heap n0 O386 P0 P1 P2 p386_0 P5 rfl (lj (ls (ls hlen)) (by decide)) (lN (ls (ls hlen)) (by decide)) (ll (ls (ls hlen)) (by decide))) (hwI hw 122 rfl) (hwI hw 113 rfl) (hwI hw 88 rfl) (hwI hw 114 rfl) [] rfl (by rw [hml]; rfl) (lenOf pd_14998797 rfl) rfl (W := 0) (wR rfl) (hb hby d24_615)
        obtain ⟨rfl, N420q, K420, p420_0⟩ := hQ420
        have N420 := Fr.app N386 N420q
        have O420 := O386.keep K420 (allS P5 all0)
        have R421 : Go p e below P T420 (mkF m 623 #[rV a, iV 4, iV 4, rV d, iV 2, iV 1, iV v3, iV v1, iV v2, iV c0, uS] [(.int 2)]) := fun t_ k_ => R420 t_ (XS.goto X420.here hx rfl (pc0 := 618) (pc' := 0) rfl (hb hby d24_618) (by decide) (by decide) (XS.iloadN X420.here hx rfl (hb hby d24_0) rfl (XS.iloadN X420.here hx rfl (hb hby d24_1) rfl (XS.icmpYes X420.here hx rfl (pc0 := 2) (pc' := 621) rfl (hb hby d24_2) rfl (flt (by decide : ¬ ((4 : Int32) < (4 : Int32)))).2.1 (by decide) (by decide) (XS.iload X420.here hx rfl (hb hby d24_621) rfl k_)))))
        obtain ⟨fs, hr, hrun, hended, hW, hsame⟩ := X420.leave (v := some (.int 2)) (fun h => by rw [Bd.returns] at h; cases h)
        exact ⟨_, _, hP _ (R421 _ (retI X420 hx Bd.returns (hb hby d24_623) hr)), hrun, hended, _, _, rfl, ⟨rfl, N420, (((Keep.refl h0 [d]).trans K386 (allS (Or.inl (List.mem_of_getElem? (i := 0) rfl)) all0)).trans K420 (allS (Or.inl (List.mem_of_getElem? (i := 0) rfl)) all0)), p420_0⟩, ⟨_, rfl⟩, hW, hsame.mono (by decide) (by decide)⟩
theorem d24_365 : decode jdk_42_method_38_code 365 = .ok (.aload_n 0, 1) := by decide +kernel
theorem d24_366 : decode jdk_42_method_38_code 366 = .ok (.iload_n 1, 1) := by decide +kernel
theorem d24_367 : decode jdk_42_method_38_code 367 = .ok (.iinc 1 1, 3) := by decide +kernel
theorem d24_370 : decode jdk_42_method_38_code 370 = .ok (.baload, 1) := by decide +kernel
theorem d24_371 : decode jdk_42_method_38_code 371 = .ok (.istore 7, 2) := by decide +kernel
theorem d24_373 : decode jdk_42_method_38_code 373 = .ok (.aload_n 0, 1) := by decide +kernel
theorem d24_374 : decode jdk_42_method_38_code 374 = .ok (.iload_n 1, 1) := by decide +kernel
theorem d24_375 : decode jdk_42_method_38_code 375 = .ok (.iinc 1 1, 3) := by decide +kernel
theorem d24_378 : decode jdk_42_method_38_code 378 = .ok (.baload, 1) := by decide +kernel
theorem d24_379 : decode jdk_42_method_38_code 379 = .ok (.istore 8, 2) := by decide +kernel
theorem d24_381 : decode jdk_42_method_38_code 381 = .ok (.aload_n 0, 1) := by decide +kernel
theorem d24_382 : decode jdk_42_method_38_code 382 = .ok (.iload_n 1, 1) := by decide +kernel
theorem d24_383 : decode jdk_42_method_38_code 383 = .ok (.iinc 1 1, 3) := by decide +kernel
theorem d24_386 : decode jdk_42_method_38_code 386 = .ok (.baload, 1) := by decide +kernel
theorem d24_387 : decode jdk_42_method_38_code 387 = .ok (.istore 9, 2) := by decide +kernel
theorem d24_389 : decode jdk_42_method_38_code 389 = .ok (.iload 6, 2) := by decide +kernel
theorem d24_391 : decode jdk_42_method_38_code 391 = .ok (.iload 7, 2) := by decide +kernel
theorem d24_393 : decode jdk_42_method_38_code 393 = .ok (.iload 8, 2) := by decide +kernel
theorem d24_395 : decode jdk_42_method_38_code 395 = .ok (.iload 9, 2) := by decide +kernel
theorem d24_397 : decode jdk_42_method_38_code 397 = .ok (.invokestatic 411, 3) := by decide +kernel
theorem pd_45684513 : parseMethodDescriptor "(IIII)I" = some ⟨[.int, .int, .int, .int], some .int⟩ := by decide +kernel
theorem d24_400 : decode jdk_42_method_38_code 400 = .ok (.istore 10, 2) := by decide +kernel
theorem d24_402 : decode jdk_42_method_38_code 402 = .ok (.iload 7, 2) := by decide +kernel
theorem d24_404 : decode jdk_42_method_38_code 404 = .ok (.iload 8, 2) := by decide +kernel
theorem d24_406 : decode jdk_42_method_38_code 406 = .ok (.iload 9, 2) := by decide +kernel
theorem d24_408 : decode jdk_42_method_38_code 408 = .ok (.invokestatic 415, 3) := by decide +kernel
theorem d24_411 : decode jdk_42_method_38_code 411 = .ok (.ifCond .ne 11, 3) := by decide +kernel
theorem d24_414 : decode jdk_42_method_38_code 414 = .ok (.iload 10, 2) := by decide +kernel
theorem d24_416 : decode jdk_42_method_38_code 416 = .ok (.invokestatic 418, 3) := by decide +kernel
theorem d24_419 : decode jdk_42_method_38_code 419 = .ok (.ifCond .ne 40, 3) := by decide +kernel
theorem d24_459 : decode jdk_42_method_38_code 459 = .ok (.aload_n 3, 1) := by decide +kernel
theorem d24_460 : decode jdk_42_method_38_code 460 = .ok (.iload 4, 2) := by decide +kernel
theorem d24_462 : decode jdk_42_method_38_code 462 = .ok (.iinc 4 1, 3) := by decide +kernel
theorem d24_465 : decode jdk_42_method_38_code 465 = .ok (.iload 10, 2) := by decide +kernel
theorem d24_467 : decode jdk_42_method_38_code 467 = .ok (.invokestatic 424, 3) := by decide +kernel
theorem pd_52681278 : parseMethodDescriptor "(I)C" = some ⟨[.int], some .char⟩ := by decide +kernel
theorem d24_470 : decode jdk_42_method_38_code 470 = .ok (.invokestatic 64, 3) := by decide +kernel
theorem d24_473 : decode jdk_42_method_38_code 473 = .ok (.aload_n 3, 1) := by decide +kernel
theorem d24_474 : decode jdk_42_method_38_code 474 = .ok (.iload 4, 2) := by decide +kernel
theorem d24_476 : decode jdk_42_method_38_code 476 = .ok (.iinc 4 1, 3) := by decide +kernel
theorem d24_479 : decode jdk_42_method_38_code 479 = .ok (.iload 10, 2) := by decide +kernel
theorem d24_481 : decode jdk_42_method_38_code 481 = .ok (.invokestatic 428, 3) := by decide +kernel
theorem d24_484 : decode jdk_42_method_38_code 484 = .ok (.invokestatic 64, 3) := by decide +kernel
theorem d24_487 : decode jdk_42_method_38_code 487 = .ok (.goto (-487), 3) := by decide +kernel
def Q_decU54l_ (Z : State) (a : Addr) (ka : ClassId) (v0 : Int32) (v1 : Int32) (v2 : Int32) (v3 : Int32) (v4 : Int32) (d : Addr) (kd : ClassId) (vs : List Value) (c0 : Int32) (c1 : Int32) (cp : Int32) (h0 : Heap) (n0 : Nat) (rv_ : Option Value) (rh_ : Heap) (rL_ : List Loc) : Prop := (rv_ = some (.int 3)) ∧ (Fr n0 rL_) ∧ (Keep h0 rh_ [d]) ∧ (Arv Z rh_ d kd .byte (10 : Int32) ((((((vs.set (2 * 0) (.int (loB c0))).set (2 * 0 + 1) (.int (hiB c0))).set (2 * 1) (.int (loB c1))).set (2 * 1 + 1) (.int (hiB c1))).set (2 * 2) (.int (loB v4))).set (2 * 2 + 1) (.int (hiB v4))) (.int 0))
set_option maxRecDepth 65536 in
set_option maxHeartbeats 40000000 in
theorem decU54l_ (l : Launch) (Z : State) (a0 : Array Value) (hw : HW Z a0) (ws : List Jvm.Cond) (a : Addr) (ka : ClassId) (v0 : Int32) (v1 : Int32) (v2 : Int32) (v3 : Int32) (v4 : Int32) (d : Addr) (kd : ClassId) (vs : List Value) (c0 : Int32) (c1 : Int32) (cp : Int32) (h0 : Heap) (n0 : Nat) (O0 : Old Z n0 h0) (P0 : sT2 Z (.int 1)) (P1 : sT3 Z (.int 0)) (P2 : sT4 Z (.int 8)) (P3 : Arv Z h0 a ka .byte (5 : Int32) [(.int v0), (.int v1), (.int v2), (.int v3), (.int v4)] (.int 0)) (P4 : Arv Z h0 d kd .byte (10 : Int32) vs (.int 0)) (P5 : n0 ≤ d) (P6 : a ≠ d) (P7 : vs.length = 10) (P8 : ¬ (v4 < (0 : Int32))) (P9 : (v4.toUInt32.toUInt16.toUInt32.toInt32) = v4) (P10 : v0 < (0 : Int32)) (P11 : ¬ ((v0 >>> ((5 : Int32) &&& 31)) = (-2 : Int32))) (P12 : ¬ ((v0 >>> ((4 : Int32) &&& 31)) = (-2 : Int32))) (P13 : (v0 >>> ((3 : Int32) &&& 31)) = (-2 : Int32)) (P14 : (v1 &&& (192 : Int32)) = (128 : Int32)) (P15 : (v2 &&& (192 : Int32)) = (128 : Int32)) (P16 : (v3 &&& (192 : Int32)) = (128 : Int32)) (P17 : d4 v0 v1 v2 v3 = cp) (P18 : ¬ (cp < (65536 : Int32))) (P19 : cp < (1114112 : Int32)) (P20 : hiS cp = c0) (P21 : loS cp = c1) :
    MetQ l yM29 (Jvm.Cond.code yM29 jdk_42_method_38_code 11 (some .int)) ws (rM 1 0 0 15) Z #[(.ref a), (.int 0), (.int 5), (.ref d), (.int 0), (.int 1)] h0 (Q_decU54l_ Z a ka v0 v1 v2 v3 v4 d kd vs c0 c1 cp h0 n0) := by
  have hlen := P7
  have ht := P9
  have hd := P17
  have hh := P20
  have hlo := P21
  refine metQ (plainFor_of_name pn_47582652) hisR (fun m => ef24_RIIRII m a (0 : Int32) (5 : Int32) d (0 : Int32) (1 : Int32)) ?_
  intro p e s m below meth c s₁ P Bd hx hby hml hZ hown hnm X0 e0 hP R0
  have N0 := Fr.nil n0
  have R422 : Go p e below P s₁ (mkF m 10 #[rV a, iV 1, iV 5, rV d, iV 0, iV 1, uS, uS, uS, uS, uS] [(.int 0), (.ref a)]) := fun t_ k_ => R0 t_ (XS.iloadN X0.here hx rfl (hb hby d24_0) rfl (XS.iloadN X0.here hx rfl (hb hby d24_1) rfl (XS.icmpNo X0.here hx rfl (hb hby d24_2) rfl (tlt (by decide : (0 : Int32) < (5 : Int32))).2.1 (XS.aloadN X0.here hx rfl (hb hby d24_5) rfl rfl (XS.iloadN X0.here hx rfl (hb hby d24_6) rfl (XS.iinc X0.here hx rfl (hb hby d24_7) rfl (l' := #[rV a, iV ((0 : Int32) + (1 : Int32)), iV 5, rV d, iV 0, iV 1, uS, uS, uS, uS, uS]) rfl k_))))))
  obtain ⟨cl423, cl423A, cl423q, cl423S, cl423N, cl423H, cl423G⟩ := id P3
  have ib424 := inb_of (j := (0 : Int32)) cl423S ⟨by decide, by decide⟩
  have R425 : Go p e below P s₁ (mkF m 147 #[rV a, iV 1, iV 5, rV d, iV 0, iV 1, iV v0, uS, uS, uS, uS] [(.int (v0 >>> ((4 : Int32) &&& 31)))]) := fun t_ k_ => R422 t_ (apS (X0.baloadBytes hx (v := (.int v0)) (by rw [e0]; exact cl423A.1) (State.isArrayOf_alike hZ.alike cl423A.2.1) cl423A.2.2 ib424 (cl423H.at ib424 rfl) rfl rfl (hb hby d24_10)) (XS.istore X0.here hx rfl (hb hby d24_11) rfl (l' := #[rV a, iV 1, iV 5, rV d, iV 0, iV 1, iV v0, uS, uS, uS, uS]) rfl (XS.iload X0.here hx rfl (hb hby d24_13) rfl (XS.ifYes X0.here hx rfl (pc0 := 15) (pc' := 33) rfl (hb hby d24_15) rfl ((if0 _ _).trans (tlt P10).1) (by decide) (by decide) (XS.iload X0.here hx rfl (hb hby d24_33) rfl (XS.iconst X0.here hx rfl (hb hby d24_35) (XS.ishr X0.here hx rfl (hb hby d24_36) rfl (XS.bipush X0.here hx rfl (hb hby d24_37) (XS.icmpYes X0.here hx rfl (pc0 := 39) (pc' := 143) rfl (hb hby d24_39) rfl (feq P11).2 (by decide) (by decide) (XS.iload X0.here hx rfl (hb hby d24_143) rfl (XS.iconst X0.here hx rfl (hb hby d24_145) (XS.ishr X0.here hx rfl (hb hby d24_146) rfl k_))))))))))))
  have R426 : Go p e below P s₁ (mkF m 365 #[rV a, iV 1, iV 5, rV d, iV 0, iV 1, iV v0, uS, uS, uS, uS] []) := fun t_ k_ => R425 t_ (XS.bipush X0.here hx rfl (hb hby d24_147) (XS.icmpYes X0.here hx rfl (pc0 := 149) (pc' := 349) rfl (hb hby d24_149) rfl (feq P12).2 (by decide) (by decide) (XS.iload X0.here hx rfl (hb hby d24_349) rfl (XS.iconst X0.here hx rfl (hb hby d24_351) (XS.ishr X0.here hx rfl (hb hby d24_352) rfl (XS.bipush X0.here hx rfl (hb hby d24_353) (XS.icmpNo X0.here hx rfl (hb hby d24_355) rfl (teq P13).2 (XS.iloadN X0.here hx rfl (hb hby d24_358) rfl (XS.iconst X0.here hx rfl (hb hby d24_359) (XS.iadd X0.here hx rfl (hb hby d24_360) rfl (XS.iloadN X0.here hx rfl (hb hby d24_361) rfl (XS.icmpNo X0.here hx rfl (hb hby d24_362) rfl (tlt (by decide : (3 : Int32) < (5 : Int32))).2.1 k_))))))))))))
  have R427 : Go p e below P s₁ (mkF m 370 #[rV a, iV 2, iV 5, rV d, iV 0, iV 1, iV v0, uS, uS, uS, uS] [(.int 1), (.ref a)]) := fun t_ k_ => R426 t_ (XS.aloadN X0.here hx rfl (hb hby d24_365) rfl rfl (XS.iloadN X0.here hx rfl (hb hby d24_366) rfl (XS.iinc X0.here hx rfl (hb hby d24_367) rfl (l' := #[rV a, iV ((1 : Int32) + (1 : Int32)), iV 5, rV d, iV 0, iV 1, iV v0, uS, uS, uS, uS]) rfl k_)))
  have ib428 := inb_of (j := (1 : Int32)) cl423S ⟨by decide, by decide⟩
  have R429 : Go p e below P s₁ (mkF m 378 #[rV a, iV 3, iV 5, rV d, iV 0, iV 1, iV v0, iV v1, uS, uS, uS] [(.int 2), (.ref a)]) := fun t_ k_ => R427 t_ (apS (X0.baloadBytes hx (v := (.int v1)) (by rw [e0]; exact cl423A.1) (State.isArrayOf_alike hZ.alike cl423A.2.1) cl423A.2.2 ib428 (cl423H.at ib428 rfl) rfl rfl (hb hby d24_370)) (XS.istore X0.here hx rfl (hb hby d24_371) rfl (l' := #[rV a, iV 2, iV 5, rV d, iV 0, iV 1, iV v0, iV v1, uS, uS, uS]) rfl (XS.aloadN X0.here hx rfl (hb hby d24_373) rfl rfl (XS.iloadN X0.here hx rfl (hb hby d24_374) rfl (XS.iinc X0.here hx rfl (hb hby d24_375) rfl (l' := #[rV a, iV ((2 : Int32) + (1 : Int32)), iV 5, rV d, iV 0, iV 1, iV v0, iV v1, uS, uS, uS]) rfl k_)))))
  have ib430 := inb_of (j := (2 : Int32)) cl423S ⟨by decide, by decide⟩
  have R431 : Go p e below P s₁ (mkF m 386 #[rV a, iV 4, iV 5, rV d, iV 0, iV 1, iV v0, iV v1, iV v2, uS, uS] [(.int 3), (.ref a)]) := fun t_ k_ => R429 t_ (apS (X0.baloadBytes hx (v := (.int v2)) (by rw [e0]; exact cl423A.1) (State.isArrayOf_alike hZ.alike cl423A.2.1) cl423A.2.2 ib430 (cl423H.at ib430 rfl) rfl rfl (hb hby d24_378)) (XS.istore X0.here hx rfl (hb hby d24_379) rfl (l' := #[rV a, iV 3, iV 5, rV d, iV 0, iV 1, iV v0, iV v1, iV v2, uS, uS]) rfl (XS.aloadN X0.here hx rfl (hb hby d24_381) rfl rfl (XS.iloadN X0.here hx rfl (hb hby d24_382) rfl (XS.iinc X0.here hx rfl (hb hby d24_383) rfl (l' := #[rV a, iV ((3 : Int32) + (1 : Int32)), iV 5, rV d, iV 0, iV 1, iV v0, iV v1, iV v2, uS, uS]) rfl k_)))))
  have ib432 := inb_of (j := (3 : Int32)) cl423S ⟨by decide, by decide⟩
  have R433 : Go p e below P s₁ (mkF m 397 #[rV a, iV 4, iV 5, rV d, iV 0, iV 1, iV v0, iV v1, iV v2, iV v3, uS] [(.int v3), (.int v2), (.int v1), (.int v0)]) := fun t_ k_ => R431 t_ (apS (X0.baloadBytes hx (v := (.int v3)) (by rw [e0]; exact cl423A.1) (State.isArrayOf_alike hZ.alike cl423A.2.1) cl423A.2.2 ib432 (cl423H.at ib432 rfl) rfl rfl (hb hby d24_386)) (XS.istore X0.here hx rfl (hb hby d24_387) rfl (l' := #[rV a, iV 4, iV 5, rV d, iV 0, iV 1, iV v0, iV v1, iV v2, iV v3, uS]) rfl (XS.iload X0.here hx rfl (hb hby d24_389) rfl (XS.iload X0.here hx rfl (hb hby d24_391) rfl (XS.iload X0.here hx rfl (hb hby d24_393) rfl (XS.iload X0.here hx rfl (hb hby d24_395) rfl k_))))))
  obtain ⟨rv434, T434, Lc434, X434, hQ434, R434⟩ := callQ X0 hx hZ hown e0 R433 (dec4_ l Z a0 hw [] v0 v1 v2 v3 cp h0 n0 O0 hd) (hwI hw 135 rfl) (hwI hw 136 rfl) (hwI hw 10 rfl) (hwI hw 137 rfl) [] rfl (by rw [hml]; rfl) (lenOf pd_45684513 rfl) rfl (W := 0) (wR rfl) (hb hby d24_397)
  obtain ⟨rfl, N434q, K434⟩ := hQ434
  have N434 := Fr.app N0 N434q
  have R435 : Go p e below P T434 (mkF m 408 #[rV a, iV 4, iV 5, rV d, iV 0, iV 1, iV v0, iV v1, iV v2, iV v3, iV cp] [(.int v3), (.int v2), (.int v1)]) := fun t_ k_ => R434 t_ (XS.istore X434.here hx rfl (hb hby d24_400) rfl (l' := #[rV a, iV 4, iV 5, rV d, iV 0, iV 1, iV v0, iV v1, iV v2, iV v3, iV cp]) rfl (XS.iload X434.here hx rfl (hb hby d24_402) rfl (XS.iload X434.here hx rfl (hb hby d24_404) rfl (XS.iload X434.here hx rfl (hb hby d24_406) rfl k_))))
  obtain ⟨rv436, T436, Lc436, X436, hQ436, R436⟩ := callQ X434 hx hZ hown K434 R435 (mal4_ l Z a0 hw [] v1 v2 v3 h0 n0 O0 P14 P15 P16) (hwI hw 139 rfl) (hwI hw 140 rfl) (hwI hw 10 rfl) (hwI hw 141 rfl) [] rfl (by rw [hml]; rfl) (lenOf pd_35459097 rfl) rfl (W := 0) (wR rfl) (hb hby d24_408)
  obtain ⟨rfl, N436q, K436⟩ := hQ436
  have N436 := Fr.app N434 N436q
  have R437 : Go p e below P T436 (mkF m 416 #[rV a, iV 4, iV 5, rV d, iV 0, iV 1, iV v0, iV v1, iV v2, iV v3, iV cp] [(.int cp)]) := fun t_ k_ => R436 t_ (XS.ifNo X436.here hx rfl (hb hby d24_411) rfl ((if0 _ _).trans (teq rfl).2) (XS.iload X436.here hx rfl (hb hby d24_414) rfl k_))
  obtain ⟨rv438, T438, Lc438, X438, hQ438, R438⟩ := callQ X436 hx hZ hown K436 R437 (isSup_ l Z a0 hw [] cp h0 n0 O0 P18 P19) (hwI hw 142 rfl) (hwI hw 143 rfl) (hwI hw 144 rfl) (hwI hw 145 rfl) [] rfl (by rw [hml]; rfl) (lenOf pd_52681301 rfl) rfl (W := 0) (wR rfl) (hb hby d24_416)
  obtain ⟨rfl, N438q, K438⟩ := hQ438
  have N438 := Fr.app N436 N438q
  have R439 : Go p e below P T438 (mkF m 467 #[rV a, iV 4, iV 5, rV d, iV 1, iV 1, iV v0, iV v1, iV v2, iV v3, iV cp] [(.int cp), (.int 0), (.ref d)]) := fun t_ k_ => R438 t_ (XS.ifYes X438.here hx rfl (pc0 := 419) (pc' := 459) rfl (hb hby d24_419) rfl ((if0 _ _).trans (feq (by decide : ¬ ((1 : Int32) = (0 : Int32)))).2) (by decide) (by decide) (XS.aloadN X438.here hx rfl (hb hby d24_459) rfl rfl (XS.iload X438.here hx rfl (hb hby d24_460) rfl (XS.iinc X438.here hx rfl (hb hby d24_462) rfl (l' := #[rV a, iV 4, iV 5, rV d, iV ((0 : Int32) + (1 : Int32)), iV 1, iV v0, iV v1, iV v2, iV v3, iV cp]) rfl (XS.iload X438.here hx rfl (hb hby d24_465) rfl k_)))))
  obtain ⟨rv440, T440, Lc440, X440, hQ440, R440⟩ := callQ X438 hx hZ hown K438 R439 (hiS_ l Z a0 hw [] cp c0 h0 n0 O0 hh) (hwI hw 148 rfl) (hwI hw 149 rfl) (hwI hw 144 rfl) (hwI hw 150 rfl) [(.int 0), (.ref d)] rfl (by rw [hml]; rfl) (lenOf pd_52681278 rfl) rfl (W := 2) (wR rfl) (hb hby d24_467)
  obtain ⟨rfl, N440q, K440⟩ := hQ440
  have N440 := Fr.app N438 N440q
  obtain ⟨rv441, T441, Lc441, X441, hQ441, R441⟩ := callQ X440 hx hZ hown K440 R440 (putC_ l Z a0 hw [] d kd (10 : Int32) vs 0 (0 : Int32) c0 h0 n0 O0 P0 P1 P2 P4 P5 rfl (lj hlen (by decide)) (lN hlen (by decide)) (ll hlen (by decide))) (hwI hw 122 rfl) (hwI hw 113 rfl) (hwI hw 88 rfl) (hwI hw 114 rfl) [] rfl (by rw [hml]; rfl) (lenOf pd_14998797 rfl) rfl (W := 0) (wR rfl) (hb hby d24_470)
  obtain ⟨rfl, N441q, K441, p441_0⟩ := hQ441
  have N441 := Fr.app N440 N441q
  have O441 := O0.keep K441 (allS P5 all0)
  have R442 : Go p e below P T441 (mkF m 481 #[rV a, iV 4, iV 5, rV d, iV 2, iV 1, iV v0, iV v1, iV v2, iV v3, iV cp] [(.int cp), (.int 1), (.ref d)]) := fun t_ k_ => R441 t_ (XS.aloadN X441.here hx rfl (hb hby d24_473) rfl rfl (XS.iload X441.here hx rfl (hb hby d24_474) rfl (XS.iinc X441.here hx rfl (hb hby d24_476) rfl (l' := #[rV a, iV 4, iV 5, rV d, iV ((1 : Int32) + (1 : Int32)), iV 1, iV v0, iV v1, iV v2, iV v3, iV cp]) rfl (XS.iload X441.here hx rfl (hb hby d24_479) rfl k_))))
  obtain ⟨rv443, T443, Lc443, X443, hQ443, R443⟩ := callQ X441 hx hZ hown (rfl : T441.heap = T441.heap) R442 (loS_ l Z a0 hw [] cp c1 T441.heap n0 O441 hlo) (hwI hw 152 rfl) (hwI hw 153 rfl) (hwI hw 144 rfl) (hwI hw 154 rfl) [(.int 1), (.ref d)] rfl (by rw [hml]; rfl) (lenOf pd_52681278 rfl) rfl (W := 2) (wR rfl) (hb hby d24_481)
  obtain ⟨rfl, N443q, K443⟩ := hQ443
  have N443 := Fr.app N441 N443q
  obtain ⟨rv444, T444, Lc444, X444, hQ444, R444⟩ := callQ X443 hx hZ hown K443 R443 (putC_ l Z a0 hw [] d kd (10 : Int32) (((vs.set (2 * 0) (.int (loB c0))).set (2 * 0 + 1) (.int (hiB c0)))) 1 (1 : Int32) c1 T441.heap n0 O441 P0 P1 P2 p441_0 P5 rfl (lj (ls (ls hlen)) (by decide)) (lN (ls (ls hlen)) (by decide)) (ll (ls (ls hlen)) (by decide))) (hwI hw 122 rfl) (hwI hw 113 rfl) (hwI hw 88 rfl) (hwI hw 114 rfl) [] rfl (by rw [hml]; rfl) (lenOf pd_14998797 rfl) rfl (W := 0) (wR rfl) (hb hby d24_484)
  obtain ⟨rfl, N444q, K444, p444_0⟩ := hQ444
  have N444 := Fr.app N443 N444q
  have O444 := O441.keep K444 (allS P5 all0)
  have R445 : Go p e below P T444 (mkF m 10 #[rV a, iV 5, iV 5, rV d, iV 2, iV 1, iV v0, iV v1, iV v2, iV v3, iV cp] [(.int 4), (.ref a)]) := fun t_ k_ => R444 t_ (XS.goto X444.here hx rfl (pc0 := 487) (pc' := 0) rfl (hb hby d24_487) (by decide) (by decide) (XS.iloadN X444.here hx rfl (hb hby d24_0) rfl (XS.iloadN X444.here hx rfl (hb hby d24_1) rfl (XS.icmpNo X444.here hx rfl (hb hby d24_2) rfl (tlt (by decide : (4 : Int32) < (5 : Int32))).2.1 (XS.aloadN X444.here hx rfl (hb hby d24_5) rfl rfl (XS.iloadN X444.here hx rfl (hb hby d24_6) rfl (XS.iinc X444.here hx rfl (hb hby d24_7) rfl (l' := #[rV a, iV ((4 : Int32) + (1 : Int32)), iV 5, rV d, iV 2, iV 1, iV v0, iV v1, iV v2, iV v3, iV cp]) rfl k_)))))))
  have f446 := ((P3.keep K441 (ninS P6 nin0)).keep K444 (ninS P6 nin0))
  obtain ⟨cl447, cl447A, cl447q, cl447S, cl447N, cl447H, cl447G⟩ := id f446
  have ib448 := inb_of (j := (4 : Int32)) cl447S ⟨by decide, by decide⟩
  have R449 : Go p e below P T444 (mkF m 27 #[rV a, iV 5, iV 5, rV d, iV 3, iV 1, iV v4, iV v1, iV v2, iV v3, iV cp] [(.int (v4.toUInt32.toUInt16.toUInt32.toInt32)), (.int 2), (.ref d)]) := fun t_ k_ => R445 t_ (apS (X444.baloadBytes hx (v := (.int v4)) (by rw [(rfl : T444.heap = T444.heap)]; exact cl447A.1) (State.isArrayOf_alike hZ.alike cl447A.2.1) cl447A.2.2 ib448 (cl447H.at ib448 rfl) rfl rfl (hb hby d24_10)) (XS.istore X444.here hx rfl (hb hby d24_11) rfl (l' := #[rV a, iV 5, iV 5, rV d, iV 2, iV 1, iV v4, iV v1, iV v2, iV v3, iV cp]) rfl (XS.iload X444.here hx rfl (hb hby d24_13) rfl (XS.ifNo X444.here hx rfl (hb hby d24_15) rfl ((if0 _ _).trans (flt P8).1) (XS.aloadN X444.here hx rfl (hb hby d24_18) rfl rfl (XS.iload X444.here hx rfl (hb hby d24_19) rfl (XS.iinc X444.here hx rfl (hb hby d24_21) rfl (l' := #[rV a, iV 5, iV 5, rV d, iV ((2 : Int32) + (1 : Int32)), iV 1, iV v4, iV v1, iV v2, iV v3, iV cp]) rfl (XS.iload X444.here hx rfl (hb hby d24_24) rfl (XS.i2c X444.here hx rfl (hb hby d24_26) rfl k_)))))))))
  have er450 : (v4.toUInt32.toUInt16.toUInt32.toInt32) = v4 := ht
  have R451 : Go p e below P T444 (mkF m 27 #[rV a, iV 5, iV 5, rV d, iV 3, iV 1, iV v4, iV v1, iV v2, iV v3, iV cp] [(.int v4), (.int 2), (.ref d)]) := by have q := R449; rw [er450] at q; exact q
  obtain ⟨rv452, T452, Lc452, X452, hQ452, R452⟩ := callQ X444 hx hZ hown (rfl : T444.heap = T444.heap) R451 (putC_ l Z a0 hw [] d kd (10 : Int32) ((((((vs.set (2 * 0) (.int (loB c0))).set (2 * 0 + 1) (.int (hiB c0)))).set (2 * 1) (.int (loB c1))).set (2 * 1 + 1) (.int (hiB c1)))) 2 (2 : Int32) v4 T444.heap n0 O444 P0 P1 P2 p444_0 P5 rfl (lj (ls (ls (ls (ls hlen)))) (by decide)) (lN (ls (ls (ls (ls hlen)))) (by decide)) (ll (ls (ls (ls (ls hlen)))) (by decide))) (hwI hw 122 rfl) (hwI hw 113 rfl) (hwI hw 88 rfl) (hwI hw 114 rfl) [] rfl (by rw [hml]; rfl) (lenOf pd_14998797 rfl) rfl (W := 0) (wR rfl) (hb hby d24_27)
  obtain ⟨rfl, N452q, K452, p452_0⟩ := hQ452
  have N452 := Fr.app N444 N452q
  have O452 := O444.keep K452 (allS P5 all0)
  have R453 : Go p e below P T452 (mkF m 623 #[rV a, iV 5, iV 5, rV d, iV 3, iV 1, iV v4, iV v1, iV v2, iV v3, iV cp] [(.int 3)]) := fun t_ k_ => R452 t_ (XS.goto X452.here hx rfl (pc0 := 30) (pc' := 618) rfl (hb hby d24_30) (by decide) (by decide) (XS.goto X452.here hx rfl (pc0 := 618) (pc' := 0) rfl (hb hby d24_618) (by decide) (by decide) (XS.iloadN X452.here hx rfl (hb hby d24_0) rfl (XS.iloadN X452.here hx rfl (hb hby d24_1) rfl (XS.icmpYes X452.here hx rfl (pc0 := 2) (pc' := 621) rfl (hb hby d24_2) rfl (flt (by decide : ¬ ((5 : Int32) < (5 : Int32)))).2.1 (by decide) (by decide) (XS.iload X452.here hx rfl (hb hby d24_621) rfl k_))))))
  obtain ⟨fs, hr, hrun, hended, hW, hsame⟩ := X452.leave (v := some (.int 3)) (fun h => by rw [Bd.returns] at h; cases h)
  exact ⟨_, _, hP _ (R453 _ (retI X452 hx Bd.returns (hb hby d24_623) hr)), hrun, hended, _, _, rfl, ⟨rfl, N452, ((((Keep.refl h0 [d]).trans K441 (allS (Or.inl (List.mem_of_getElem? (i := 0) rfl)) all0)).trans K444 (allS (Or.inl (List.mem_of_getElem? (i := 0) rfl)) all0)).trans K452 (allS (Or.inl (List.mem_of_getElem? (i := 0) rfl)) all0)), p452_0⟩, ⟨_, rfl⟩, hW, hsame.mono (by decide) (by decide)⟩
def Q_decU54h_ (Z : State) (a : Addr) (ka : ClassId) (v0 : Int32) (v1 : Int32) (v2 : Int32) (v3 : Int32) (v4 : Int32) (d : Addr) (kd : ClassId) (vs : List Value) (c0 : Int32) (c1 : Int32) (cp : Int32) (h0 : Heap) (n0 : Nat) (rv_ : Option Value) (rh_ : Heap) (rL_ : List Loc) : Prop := (rv_ = some (.int 3)) ∧ (Fr n0 rL_) ∧ (Keep h0 rh_ [d]) ∧ (Arv Z rh_ d kd .byte (10 : Int32) ((((((vs.set (2 * 0) (.int (loB c0))).set (2 * 0 + 1) (.int (hiB c0))).set (2 * 1) (.int (loB c1))).set (2 * 1 + 1) (.int (hiB c1))).set (2 * 2) (.int (loB (65533 : Int32)))).set (2 * 2 + 1) (.int (hiB (65533 : Int32)))) (.int 0))
set_option maxRecDepth 65536 in
set_option maxHeartbeats 40000000 in
theorem decU54h_ (l : Launch) (Z : State) (a0 : Array Value) (hw : HW Z a0) (ws : List Jvm.Cond) (a : Addr) (ka : ClassId) (v0 : Int32) (v1 : Int32) (v2 : Int32) (v3 : Int32) (v4 : Int32) (d : Addr) (kd : ClassId) (vs : List Value) (c0 : Int32) (c1 : Int32) (cp : Int32) (h0 : Heap) (n0 : Nat) (O0 : Old Z n0 h0) (P0 : sT2 Z (.int 1)) (P1 : sT3 Z (.int 0)) (P2 : sT4 Z (.int 8)) (P3 : Arv Z h0 a ka .byte (5 : Int32) [(.int v0), (.int v1), (.int v2), (.int v3), (.int v4)] (.int 0)) (P4 : Arv Z h0 d kd .byte (10 : Int32) vs (.int 0)) (P5 : n0 ≤ d) (P6 : a ≠ d) (P7 : vs.length = 10) (P8 : v4 < (0 : Int32)) (P9 : v0 < (0 : Int32)) (P10 : ¬ ((v0 >>> ((5 : Int32) &&& 31)) = (-2 : Int32))) (P11 : ¬ ((v0 >>> ((4 : Int32) &&& 31)) = (-2 : Int32))) (P12 : (v0 >>> ((3 : Int32) &&& 31)) = (-2 : Int32)) (P13 : (v1 &&& (192 : Int32)) = (128 : Int32)) (P14 : (v2 &&& (192 : Int32)) = (128 : Int32)) (P15 : (v3 &&& (192 : Int32)) = (128 : Int32)) (P16 : d4 v0 v1 v2 v3 = cp) (P17 : ¬ (cp < (65536 : Int32))) (P18 : cp < (1114112 : Int32)) (P19 : hiS cp = c0) (P20 : loS cp = c1) :
    MetQ l yM29 (Jvm.Cond.code yM29 jdk_42_method_38_code 11 (some .int)) ws (rM 1 0 0 15) Z #[(.ref a), (.int 0), (.int 5), (.ref d), (.int 0), (.int 1)] h0 (Q_decU54h_ Z a ka v0 v1 v2 v3 v4 d kd vs c0 c1 cp h0 n0) := by
  have hlen := P7
  have hd := P16
  have hh := P19
  have hlo := P20
  refine metQ (plainFor_of_name pn_47582652) hisR (fun m => ef24_RIIRII m a (0 : Int32) (5 : Int32) d (0 : Int32) (1 : Int32)) ?_
  intro p e s m below meth c s₁ P Bd hx hby hml hZ hown hnm X0 e0 hP R0
  have N0 := Fr.nil n0
  have R454 : Go p e below P s₁ (mkF m 10 #[rV a, iV 1, iV 5, rV d, iV 0, iV 1, uS, uS, uS, uS, uS] [(.int 0), (.ref a)]) := fun t_ k_ => R0 t_ (XS.iloadN X0.here hx rfl (hb hby d24_0) rfl (XS.iloadN X0.here hx rfl (hb hby d24_1) rfl (XS.icmpNo X0.here hx rfl (hb hby d24_2) rfl (tlt (by decide : (0 : Int32) < (5 : Int32))).2.1 (XS.aloadN X0.here hx rfl (hb hby d24_5) rfl rfl (XS.iloadN X0.here hx rfl (hb hby d24_6) rfl (XS.iinc X0.here hx rfl (hb hby d24_7) rfl (l' := #[rV a, iV ((0 : Int32) + (1 : Int32)), iV 5, rV d, iV 0, iV 1, uS, uS, uS, uS, uS]) rfl k_))))))
  obtain ⟨cl455, cl455A, cl455q, cl455S, cl455N, cl455H, cl455G⟩ := id P3
  have ib456 := inb_of (j := (0 : Int32)) cl455S ⟨by decide, by decide⟩
  have R457 : Go p e below P s₁ (mkF m 33 #[rV a, iV 1, iV 5, rV d, iV 0, iV 1, iV v0, uS, uS, uS, uS] []) := fun t_ k_ => R454 t_ (apS (X0.baloadBytes hx (v := (.int v0)) (by rw [e0]; exact cl455A.1) (State.isArrayOf_alike hZ.alike cl455A.2.1) cl455A.2.2 ib456 (cl455H.at ib456 rfl) rfl rfl (hb hby d24_10)) (XS.istore X0.here hx rfl (hb hby d24_11) rfl (l' := #[rV a, iV 1, iV 5, rV d, iV 0, iV 1, iV v0, uS, uS, uS, uS]) rfl (XS.iload X0.here hx rfl (hb hby d24_13) rfl (XS.ifYes X0.here hx rfl (pc0 := 15) (pc' := 33) rfl (hb hby d24_15) rfl ((if0 _ _).trans (tlt P9).1) (by decide) (by decide) k_))))
  have R458 : Go p e below P s₁ (mkF m 352 #[rV a, iV 1, iV 5, rV d, iV 0, iV 1, iV v0, uS, uS, uS, uS] [(.int 3), (.int v0)]) := fun t_ k_ => R457 t_ (XS.iload X0.here hx rfl (hb hby d24_33) rfl (XS.iconst X0.here hx rfl (hb hby d24_35) (XS.ishr X0.here hx rfl (hb hby d24_36) rfl (XS.bipush X0.here hx rfl (hb hby d24_37) (XS.icmpYes X0.here hx rfl (pc0 := 39) (pc' := 143) rfl (hb hby d24_39) rfl (feq P10).2 (by decide) (by decide) (XS.iload X0.here hx rfl (hb hby d24_143) rfl (XS.iconst X0.here hx rfl (hb hby d24_145) (XS.ishr X0.here hx rfl (hb hby d24_146) rfl (XS.bipush X0.here hx rfl (hb hby d24_147) (XS.icmpYes X0.here hx rfl (pc0 := 149) (pc' := 349) rfl (hb hby d24_149) rfl (feq P11).2 (by decide) (by decide) (XS.iload X0.here hx rfl (hb hby d24_349) rfl (XS.iconst X0.here hx rfl (hb hby d24_351) k_))))))))))))
  have R459 : Go p e below P s₁ (mkF m 370 #[rV a, iV 2, iV 5, rV d, iV 0, iV 1, iV v0, uS, uS, uS, uS] [(.int 1), (.ref a)]) := fun t_ k_ => R458 t_ (XS.ishr X0.here hx rfl (hb hby d24_352) rfl (XS.bipush X0.here hx rfl (hb hby d24_353) (XS.icmpNo X0.here hx rfl (hb hby d24_355) rfl (teq P12).2 (XS.iloadN X0.here hx rfl (hb hby d24_358) rfl (XS.iconst X0.here hx rfl (hb hby d24_359) (XS.iadd X0.here hx rfl (hb hby d24_360) rfl (XS.iloadN X0.here hx rfl (hb hby d24_361) rfl (XS.icmpNo X0.here hx rfl (hb hby d24_362) rfl (tlt (by decide : (3 : Int32) < (5 : Int32))).2.1 (XS.aloadN X0.here hx rfl (hb hby d24_365) rfl rfl (XS.iloadN X0.here hx rfl (hb hby d24_366) rfl (XS.iinc X0.here hx rfl (hb hby d24_367) rfl (l' := #[rV a, iV ((1 : Int32) + (1 : Int32)), iV 5, rV d, iV 0, iV 1, iV v0, uS, uS, uS, uS]) rfl k_)))))))))))
  have ib460 := inb_of (j := (1 : Int32)) cl455S ⟨by decide, by decide⟩
  have R461 : Go p e below P s₁ (mkF m 378 #[rV a, iV 3, iV 5, rV d, iV 0, iV 1, iV v0, iV v1, uS, uS, uS] [(.int 2), (.ref a)]) := fun t_ k_ => R459 t_ (apS (X0.baloadBytes hx (v := (.int v1)) (by rw [e0]; exact cl455A.1) (State.isArrayOf_alike hZ.alike cl455A.2.1) cl455A.2.2 ib460 (cl455H.at ib460 rfl) rfl rfl (hb hby d24_370)) (XS.istore X0.here hx rfl (hb hby d24_371) rfl (l' := #[rV a, iV 2, iV 5, rV d, iV 0, iV 1, iV v0, iV v1, uS, uS, uS]) rfl (XS.aloadN X0.here hx rfl (hb hby d24_373) rfl rfl (XS.iloadN X0.here hx rfl (hb hby d24_374) rfl (XS.iinc X0.here hx rfl (hb hby d24_375) rfl (l' := #[rV a, iV ((2 : Int32) + (1 : Int32)), iV 5, rV d, iV 0, iV 1, iV v0, iV v1, uS, uS, uS]) rfl k_)))))
  have ib462 := inb_of (j := (2 : Int32)) cl455S ⟨by decide, by decide⟩
  have R463 : Go p e below P s₁ (mkF m 386 #[rV a, iV 4, iV 5, rV d, iV 0, iV 1, iV v0, iV v1, iV v2, uS, uS] [(.int 3), (.ref a)]) := fun t_ k_ => R461 t_ (apS (X0.baloadBytes hx (v := (.int v2)) (by rw [e0]; exact cl455A.1) (State.isArrayOf_alike hZ.alike cl455A.2.1) cl455A.2.2 ib462 (cl455H.at ib462 rfl) rfl rfl (hb hby d24_378)) (XS.istore X0.here hx rfl (hb hby d24_379) rfl (l' := #[rV a, iV 3, iV 5, rV d, iV 0, iV 1, iV v0, iV v1, iV v2, uS, uS]) rfl (XS.aloadN X0.here hx rfl (hb hby d24_381) rfl rfl (XS.iloadN X0.here hx rfl (hb hby d24_382) rfl (XS.iinc X0.here hx rfl (hb hby d24_383) rfl (l' := #[rV a, iV ((3 : Int32) + (1 : Int32)), iV 5, rV d, iV 0, iV 1, iV v0, iV v1, iV v2, uS, uS]) rfl k_)))))
  have ib464 := inb_of (j := (3 : Int32)) cl455S ⟨by decide, by decide⟩
  have R465 : Go p e below P s₁ (mkF m 397 #[rV a, iV 4, iV 5, rV d, iV 0, iV 1, iV v0, iV v1, iV v2, iV v3, uS] [(.int v3), (.int v2), (.int v1), (.int v0)]) := fun t_ k_ => R463 t_ (apS (X0.baloadBytes hx (v := (.int v3)) (by rw [e0]; exact cl455A.1) (State.isArrayOf_alike hZ.alike cl455A.2.1) cl455A.2.2 ib464 (cl455H.at ib464 rfl) rfl rfl (hb hby d24_386)) (XS.istore X0.here hx rfl (hb hby d24_387) rfl (l' := #[rV a, iV 4, iV 5, rV d, iV 0, iV 1, iV v0, iV v1, iV v2, iV v3, uS]) rfl (XS.iload X0.here hx rfl (hb hby d24_389) rfl (XS.iload X0.here hx rfl (hb hby d24_391) rfl (XS.iload X0.here hx rfl (hb hby d24_393) rfl (XS.iload X0.here hx rfl (hb hby d24_395) rfl k_))))))
  obtain ⟨rv466, T466, Lc466, X466, hQ466, R466⟩ := callQ X0 hx hZ hown e0 R465 (dec4_ l Z a0 hw [] v0 v1 v2 v3 cp h0 n0 O0 hd) (hwI hw 135 rfl) (hwI hw 136 rfl) (hwI hw 10 rfl) (hwI hw 137 rfl) [] rfl (by rw [hml]; rfl) (lenOf pd_45684513 rfl) rfl (W := 0) (wR rfl) (hb hby d24_397)
  obtain ⟨rfl, N466q, K466⟩ := hQ466
  have N466 := Fr.app N0 N466q
  have R467 : Go p e below P T466 (mkF m 408 #[rV a, iV 4, iV 5, rV d, iV 0, iV 1, iV v0, iV v1, iV v2, iV v3, iV cp] [(.int v3), (.int v2), (.int v1)]) := fun t_ k_ => R466 t_ (XS.istore X466.here hx rfl (hb hby d24_400) rfl (l' := #[rV a, iV 4, iV 5, rV d, iV 0, iV 1, iV v0, iV v1, iV v2, iV v3, iV cp]) rfl (XS.iload X466.here hx rfl (hb hby d24_402) rfl (XS.iload X466.here hx rfl (hb hby d24_404) rfl (XS.iload X466.here hx rfl (hb hby d24_406) rfl k_))))
  obtain ⟨rv468, T468, Lc468, X468, hQ468, R468⟩ := callQ X466 hx hZ hown K466 R467 (mal4_ l Z a0 hw [] v1 v2 v3 h0 n0 O0 P13 P14 P15) (hwI hw 139 rfl) (hwI hw 140 rfl) (hwI hw 10 rfl) (hwI hw 141 rfl) [] rfl (by rw [hml]; rfl) (lenOf pd_35459097 rfl) rfl (W := 0) (wR rfl) (hb hby d24_408)
  obtain ⟨rfl, N468q, K468⟩ := hQ468
  have N468 := Fr.app N466 N468q
  have R469 : Go p e below P T468 (mkF m 416 #[rV a, iV 4, iV 5, rV d, iV 0, iV 1, iV v0, iV v1, iV v2, iV v3, iV cp] [(.int cp)]) := fun t_ k_ => R468 t_ (XS.ifNo X468.here hx rfl (hb hby d24_411) rfl ((if0 _ _).trans (teq rfl).2) (XS.iload X468.here hx rfl (hb hby d24_414) rfl k_))
  obtain ⟨rv470, T470, Lc470, X470, hQ470, R470⟩ := callQ X468 hx hZ hown K468 R469 (isSup_ l Z a0 hw [] cp h0 n0 O0 P17 P18) (hwI hw 142 rfl) (hwI hw 143 rfl) (hwI hw 144 rfl) (hwI hw 145 rfl) [] rfl (by rw [hml]; rfl) (lenOf pd_52681301 rfl) rfl (W := 0) (wR rfl) (hb hby d24_416)
  obtain ⟨rfl, N470q, K470⟩ := hQ470
  have N470 := Fr.app N468 N470q
  have R471 : Go p e below P T470 (mkF m 467 #[rV a, iV 4, iV 5, rV d, iV 1, iV 1, iV v0, iV v1, iV v2, iV v3, iV cp] [(.int cp), (.int 0), (.ref d)]) := fun t_ k_ => R470 t_ (XS.ifYes X470.here hx rfl (pc0 := 419) (pc' := 459) rfl (hb hby d24_419) rfl ((if0 _ _).trans (feq (by decide : ¬ ((1 : Int32) = (0 : Int32)))).2) (by decide) (by decide) (XS.aloadN X470.here hx rfl (hb hby d24_459) rfl rfl (XS.iload X470.here hx rfl (hb hby d24_460) rfl (XS.iinc X470.here hx rfl (hb hby d24_462) rfl (l' := #[rV a, iV 4, iV 5, rV d, iV ((0 : Int32) + (1 : Int32)), iV 1, iV v0, iV v1, iV v2, iV v3, iV cp]) rfl (XS.iload X470.here hx rfl (hb hby d24_465) rfl k_)))))
  obtain ⟨rv472, T472, Lc472, X472, hQ472, R472⟩ := callQ X470 hx hZ hown K470 R471 (hiS_ l Z a0 hw [] cp c0 h0 n0 O0 hh) (hwI hw 148 rfl) (hwI hw 149 rfl) (hwI hw 144 rfl) (hwI hw 150 rfl) [(.int 0), (.ref d)] rfl (by rw [hml]; rfl) (lenOf pd_52681278 rfl) rfl (W := 2) (wR rfl) (hb hby d24_467)
  obtain ⟨rfl, N472q, K472⟩ := hQ472
  have N472 := Fr.app N470 N472q
  obtain ⟨rv473, T473, Lc473, X473, hQ473, R473⟩ := callQ X472 hx hZ hown K472 R472 (putC_ l Z a0 hw [] d kd (10 : Int32) vs 0 (0 : Int32) c0 h0 n0 O0 P0 P1 P2 P4 P5 rfl (lj hlen (by decide)) (lN hlen (by decide)) (ll hlen (by decide))) (hwI hw 122 rfl) (hwI hw 113 rfl) (hwI hw 88 rfl) (hwI hw 114 rfl) [] rfl (by rw [hml]; rfl) (lenOf pd_14998797 rfl) rfl (W := 0) (wR rfl) (hb hby d24_470)
  obtain ⟨rfl, N473q, K473, p473_0⟩ := hQ473
  have N473 := Fr.app N472 N473q
  have O473 := O0.keep K473 (allS P5 all0)
  have R474 : Go p e below P T473 (mkF m 481 #[rV a, iV 4, iV 5, rV d, iV 2, iV 1, iV v0, iV v1, iV v2, iV v3, iV cp] [(.int cp), (.int 1), (.ref d)]) := fun t_ k_ => R473 t_ (XS.aloadN X473.here hx rfl (hb hby d24_473) rfl rfl (XS.iload X473.here hx rfl (hb hby d24_474) rfl (XS.iinc X473.here hx rfl (hb hby d24_476) rfl (l' := #[rV a, iV 4, iV 5, rV d, iV ((1 : Int32) + (1 : Int32)), iV 1, iV v0, iV v1, iV v2, iV v3, iV cp]) rfl (XS.iload X473.here hx rfl (hb hby d24_479) rfl k_))))
  obtain ⟨rv475, T475, Lc475, X475, hQ475, R475⟩ := callQ X473 hx hZ hown (rfl : T473.heap = T473.heap) R474 (loS_ l Z a0 hw [] cp c1 T473.heap n0 O473 hlo) (hwI hw 152 rfl) (hwI hw 153 rfl) (hwI hw 144 rfl) (hwI hw 154 rfl) [(.int 1), (.ref d)] rfl (by rw [hml]; rfl) (lenOf pd_52681278 rfl) rfl (W := 2) (wR rfl) (hb hby d24_481)
  obtain ⟨rfl, N475q, K475⟩ := hQ475
  have N475 := Fr.app N473 N475q
  obtain ⟨rv476, T476, Lc476, X476, hQ476, R476⟩ := callQ X475 hx hZ hown K475 R475 (putC_ l Z a0 hw [] d kd (10 : Int32) (((vs.set (2 * 0) (.int (loB c0))).set (2 * 0 + 1) (.int (hiB c0)))) 1 (1 : Int32) c1 T473.heap n0 O473 P0 P1 P2 p473_0 P5 rfl (lj (ls (ls hlen)) (by decide)) (lN (ls (ls hlen)) (by decide)) (ll (ls (ls hlen)) (by decide))) (hwI hw 122 rfl) (hwI hw 113 rfl) (hwI hw 88 rfl) (hwI hw 114 rfl) [] rfl (by rw [hml]; rfl) (lenOf pd_14998797 rfl) rfl (W := 0) (wR rfl) (hb hby d24_484)
  obtain ⟨rfl, N476q, K476, p476_0⟩ := hQ476
  have N476 := Fr.app N475 N476q
  have O476 := O473.keep K476 (allS P5 all0)
  have R477 : Go p e below P T476 (mkF m 10 #[rV a, iV 5, iV 5, rV d, iV 2, iV 1, iV v0, iV v1, iV v2, iV v3, iV cp] [(.int 4), (.ref a)]) := fun t_ k_ => R476 t_ (XS.goto X476.here hx rfl (pc0 := 487) (pc' := 0) rfl (hb hby d24_487) (by decide) (by decide) (XS.iloadN X476.here hx rfl (hb hby d24_0) rfl (XS.iloadN X476.here hx rfl (hb hby d24_1) rfl (XS.icmpNo X476.here hx rfl (hb hby d24_2) rfl (tlt (by decide : (4 : Int32) < (5 : Int32))).2.1 (XS.aloadN X476.here hx rfl (hb hby d24_5) rfl rfl (XS.iloadN X476.here hx rfl (hb hby d24_6) rfl (XS.iinc X476.here hx rfl (hb hby d24_7) rfl (l' := #[rV a, iV ((4 : Int32) + (1 : Int32)), iV 5, rV d, iV 2, iV 1, iV v0, iV v1, iV v2, iV v3, iV cp]) rfl k_)))))))
  have f478 := ((P3.keep K473 (ninS P6 nin0)).keep K476 (ninS P6 nin0))
  obtain ⟨cl479, cl479A, cl479q, cl479S, cl479N, cl479H, cl479G⟩ := id f478
  have ib480 := inb_of (j := (4 : Int32)) cl479S ⟨by decide, by decide⟩
  have R481 : Go p e below P T476 (mkF m 33 #[rV a, iV 5, iV 5, rV d, iV 2, iV 1, iV v4, iV v1, iV v2, iV v3, iV cp] []) := fun t_ k_ => R477 t_ (apS (X476.baloadBytes hx (v := (.int v4)) (by rw [(rfl : T476.heap = T476.heap)]; exact cl479A.1) (State.isArrayOf_alike hZ.alike cl479A.2.1) cl479A.2.2 ib480 (cl479H.at ib480 rfl) rfl rfl (hb hby d24_10)) (XS.istore X476.here hx rfl (hb hby d24_11) rfl (l' := #[rV a, iV 5, iV 5, rV d, iV 2, iV 1, iV v4, iV v1, iV v2, iV v3, iV cp]) rfl (XS.iload X476.here hx rfl (hb hby d24_13) rfl (XS.ifYes X476.here hx rfl (pc0 := 15) (pc' := 33) rfl (hb hby d24_15) rfl ((if0 _ _).trans (tlt P8).1) (by decide) (by decide) k_))))
  by_cases j5482 : (v4 >>> ((5 : Int32) &&& 31)) = (-2 : Int32) ∧ ¬ (v4 &&& (30 : Int32)) = (0 : Int32)
  · have R483 : Go p e below P T476 (mkF m 119 #[rV a, iV 5, iV 5, rV d, iV 2, iV 1, iV v4, iV v1, iV v2, iV v3, iV cp] []) := fun t_ k_ => R481 t_ (XS.iload X476.here hx rfl (hb hby d24_33) rfl (XS.iconst X476.here hx rfl (hb hby d24_35) (XS.ishr X476.here hx rfl (hb hby d24_36) rfl (XS.bipush X476.here hx rfl (hb hby d24_37) (XS.icmpNo X476.here hx rfl (hb hby d24_39) rfl (teq j5482.1).2 (XS.iload X476.here hx rfl (hb hby d24_42) rfl (XS.bipush X476.here hx rfl (hb hby d24_44) (XS.iand X476.here hx rfl (hb hby d24_46) rfl (XS.ifNo X476.here hx rfl (hb hby d24_47) rfl ((if0 _ _).trans (feq j5482.2).1) (XS.iloadN X476.here hx rfl (hb hby d24_50) rfl (XS.iloadN X476.here hx rfl (hb hby d24_51) rfl (XS.icmpYes X476.here hx rfl (pc0 := 52) (pc' := 119) rfl (hb hby d24_52) rfl (flt (by decide : ¬ ((5 : Int32) < (5 : Int32)))).2.1 (by decide) (by decide) k_))))))))))))
    have R484 : Go p e below P T476 (mkF m 137 #[rV a, iV 5, iV 5, rV d, iV 3, iV 1, iV v4, iV v1, iV v2, iV v3, iV cp] [(.int 65533), (.int 2), (.ref d)]) := fun t_ k_ => R483 t_ (XS.iload X476.here hx rfl (hb hby d24_119) rfl (XS.ifYes X476.here hx rfl (pc0 := 121) (pc' := 129) rfl (hb hby d24_121) rfl ((if0 _ _).trans (feq (by decide : ¬ ((1 : Int32) = (0 : Int32)))).2) (by decide) (by decide) (XS.aloadN X476.here hx rfl (hb hby d24_129) rfl rfl (XS.iload X476.here hx rfl (hb hby d24_130) rfl (XS.iinc X476.here hx rfl (hb hby d24_132) rfl (l' := #[rV a, iV 5, iV 5, rV d, iV ((2 : Int32) + (1 : Int32)), iV 1, iV v4, iV v1, iV v2, iV v3, iV cp]) rfl (apS (X476.ldcInt hx hown (mvT hZ (hwI hw 121 rfl)) rfl (hb hby d24_135)) k_))))))
    obtain ⟨rv485, T485, Lc485, X485, hQ485, R485⟩ := callQ X476 hx hZ hown (rfl : T476.heap = T476.heap) R484 (putC_ l Z a0 hw [] d kd (10 : Int32) ((((((vs.set (2 * 0) (.int (loB c0))).set (2 * 0 + 1) (.int (hiB c0)))).set (2 * 1) (.int (loB c1))).set (2 * 1 + 1) (.int (hiB c1)))) 2 (2 : Int32) (65533 : Int32) T476.heap n0 O476 P0 P1 P2 p476_0 P5 rfl (lj (ls (ls (ls (ls hlen)))) (by decide)) (lN (ls (ls (ls (ls hlen)))) (by decide)) (ll (ls (ls (ls (ls hlen)))) (by decide))) (hwI hw 122 rfl) (hwI hw 113 rfl) (hwI hw 88 rfl) (hwI hw 114 rfl) [] rfl (by rw [hml]; rfl) (lenOf pd_14998797 rfl) rfl (W := 0) (wR rfl) (hb hby d24_137)
    obtain ⟨rfl, N485q, K485, p485_0⟩ := hQ485
    have N485 := Fr.app N476 N485q
    have O485 := O476.keep K485 (allS P5 all0)
    have R486 : Go p e below P T485 (mkF m 623 #[rV a, iV 5, iV 5, rV d, iV 3, iV 1, iV v4, iV v1, iV v2, iV v3, iV cp] [(.int 3)]) := fun t_ k_ => R485 t_ (XS.goto X485.here hx rfl (pc0 := 140) (pc' := 621) rfl (hb hby d24_140) (by decide) (by decide) (XS.iload X485.here hx rfl (hb hby d24_621) rfl k_))
    obtain ⟨fs, hr, hrun, hended, hW, hsame⟩ := X485.leave (v := some (.int 3)) (fun h => by rw [Bd.returns] at h; cases h)
    exact ⟨_, _, hP _ (R486 _ (retI X485 hx Bd.returns (hb hby d24_623) hr)), hrun, hended, _, _, rfl, ⟨rfl, N485, ((((Keep.refl h0 [d]).trans K473 (allS (Or.inl (List.mem_of_getElem? (i := 0) rfl)) all0)).trans K476 (allS (Or.inl (List.mem_of_getElem? (i := 0) rfl)) all0)).trans K485 (allS (Or.inl (List.mem_of_getElem? (i := 0) rfl)) all0)), p485_0⟩, ⟨_, rfl⟩, hW, hsame.mono (by decide) (by decide)⟩
  · have R487 : Go p e below P T476 (mkF m 143 #[rV a, iV 5, iV 5, rV d, iV 2, iV 1, iV v4, iV v1, iV v2, iV v3, iV cp] []) := by
      have R489 : Go p e below P T476 (mkF m 39 #[rV a, iV 5, iV 5, rV d, iV 2, iV 1, iV v4, iV v1, iV v2, iV v3, iV cp] [(.int (-2)), (.int (v4 >>> ((5 : Int32) &&& 31)))]) := fun t_ k_ => R481 t_ (XS.iload X476.here hx rfl (hb hby d24_33) rfl (XS.iconst X476.here hx rfl (hb hby d24_35) (XS.ishr X476.here hx rfl (hb hby d24_36) rfl (XS.bipush X476.here hx rfl (hb hby d24_37) k_))))
      by_cases hc490 : (v4 >>> ((5 : Int32) &&& 31)) = (-2 : Int32)
      · have R491 : Go p e below P T476 (mkF m 143 #[rV a, iV 5, iV 5, rV d, iV 2, iV 1, iV v4, iV v1, iV v2, iV v3, iV cp] []) := fun t_ k_ => R489 t_ (XS.icmpNo X476.here hx rfl (hb hby d24_39) rfl (teq hc490).2 (XS.iload X476.here hx rfl (hb hby d24_42) rfl (XS.bipush X476.here hx rfl (hb hby d24_44) (XS.iand X476.here hx rfl (hb hby d24_46) rfl (XS.ifYes X476.here hx rfl (pc0 := 47) (pc' := 143) rfl (hb hby d24_47) rfl ((if0 _ _).trans (teq (Decidable.of_not_not fun q => j5482 ⟨hc490, q⟩)).1) (by decide) (by decide) k_)))))
        exact R491
      · have R492 : Go p e below P T476 (mkF m 143 #[rV a, iV 5, iV 5, rV d, iV 2, iV 1, iV v4, iV v1, iV v2, iV v3, iV cp] []) := fun t_ k_ => R489 t_ (XS.icmpYes X476.here hx rfl (pc0 := 39) (pc' := 143) rfl (hb hby d24_39) rfl (feq hc490).2 (by decide) (by decide) k_)
        exact R492
    have R493 : Go p e below P T476 (mkF m 149 #[rV a, iV 5, iV 5, rV d, iV 2, iV 1, iV v4, iV v1, iV v2, iV v3, iV cp] [(.int (-2)), (.int (v4 >>> ((4 : Int32) &&& 31)))]) := fun t_ k_ => R487 t_ (XS.iload X476.here hx rfl (hb hby d24_143) rfl (XS.iconst X476.here hx rfl (hb hby d24_145) (XS.ishr X476.here hx rfl (hb hby d24_146) rfl (XS.bipush X476.here hx rfl (hb hby d24_147) k_))))
    by_cases hc494 : (v4 >>> ((4 : Int32) &&& 31)) = (-2 : Int32)
    · have R495 : Go p e below P T476 (mkF m 336 #[rV a, iV 5, iV 5, rV d, iV 2, iV 1, iV v4, iV v1, iV v2, iV v3, iV cp] [(.ref d)]) := fun t_ k_ => R493 t_ (XS.icmpNo X476.here hx rfl (hb hby d24_149) rfl (teq hc494).2 (XS.iloadN X476.here hx rfl (hb hby d24_152) rfl (XS.iconst X476.here hx rfl (hb hby d24_153) (XS.iadd X476.here hx rfl (hb hby d24_154) rfl (XS.iloadN X476.here hx rfl (hb hby d24_155) rfl (XS.icmpYes X476.here hx rfl (pc0 := 156) (pc' := 283) rfl (hb hby d24_156) rfl (flt (by decide : ¬ ((6 : Int32) < (5 : Int32)))).2.1 (by decide) (by decide) (XS.iloadN X476.here hx rfl (hb hby d24_283) rfl (XS.iloadN X476.here hx rfl (hb hby d24_284) rfl (XS.icmpYes X476.here hx rfl (pc0 := 285) (pc' := 325) rfl (hb hby d24_285) rfl (flt (by decide : ¬ ((5 : Int32) < (5 : Int32)))).2.1 (by decide) (by decide) (XS.iload X476.here hx rfl (hb hby d24_325) rfl (XS.ifYes X476.here hx rfl (pc0 := 327) (pc' := 335) rfl (hb hby d24_327) rfl ((if0 _ _).trans (feq (by decide : ¬ ((1 : Int32) = (0 : Int32)))).2) (by decide) (by decide) (XS.aloadN X476.here hx rfl (hb hby d24_335) rfl rfl k_))))))))))))
      have R496 : Go p e below P T476 (mkF m 343 #[rV a, iV 5, iV 5, rV d, iV 3, iV 1, iV v4, iV v1, iV v2, iV v3, iV cp] [(.int 65533), (.int 2), (.ref d)]) := fun t_ k_ => R495 t_ (XS.iload X476.here hx rfl (hb hby d24_336) rfl (XS.iinc X476.here hx rfl (hb hby d24_338) rfl (l' := #[rV a, iV 5, iV 5, rV d, iV ((2 : Int32) + (1 : Int32)), iV 1, iV v4, iV v1, iV v2, iV v3, iV cp]) rfl (apS (X476.ldcInt hx hown (mvT hZ (hwI hw 121 rfl)) rfl (hb hby d24_341)) k_)))
      obtain ⟨rv497, T497, Lc497, X497, hQ497, R497⟩ := callQ X476 hx hZ hown (rfl : T476.heap = T476.heap) R496 (putC_ l Z a0 hw [] d kd (10 : Int32) ((((((vs.set (2 * 0) (.int (loB c0))).set (2 * 0 + 1) (.int (hiB c0)))).set (2 * 1) (.int (loB c1))).set (2 * 1 + 1) (.int (hiB c1)))) 2 (2 : Int32) (65533 : Int32) T476.heap n0 O476 P0 P1 P2 p476_0 P5 rfl (lj (ls (ls (ls (ls hlen)))) (by decide)) (lN (ls (ls (ls (ls hlen)))) (by decide)) (ll (ls (ls (ls (ls hlen)))) (by decide))) (hwI hw 122 rfl) (hwI hw 113 rfl) (hwI hw 88 rfl) (hwI hw 114 rfl) [] rfl (by rw [hml]; rfl) (lenOf pd_14998797 rfl) rfl (W := 0) (wR rfl) (hb hby d24_343)
      obtain ⟨rfl, N497q, K497, p497_0⟩ := hQ497
      have N497 := Fr.app N476 N497q
      have O497 := O476.keep K497 (allS P5 all0)
      have R498 : Go p e below P T497 (mkF m 623 #[rV a, iV 5, iV 5, rV d, iV 3, iV 1, iV v4, iV v1, iV v2, iV v3, iV cp] [(.int 3)]) := fun t_ k_ => R497 t_ (XS.goto X497.here hx rfl (pc0 := 346) (pc' := 621) rfl (hb hby d24_346) (by decide) (by decide) (XS.iload X497.here hx rfl (hb hby d24_621) rfl k_))
      obtain ⟨fs, hr, hrun, hended, hW, hsame⟩ := X497.leave (v := some (.int 3)) (fun h => by rw [Bd.returns] at h; cases h)
      exact ⟨_, _, hP _ (R498 _ (retI X497 hx Bd.returns (hb hby d24_623) hr)), hrun, hended, _, _, rfl, ⟨rfl, N497, ((((Keep.refl h0 [d]).trans K473 (allS (Or.inl (List.mem_of_getElem? (i := 0) rfl)) all0)).trans K476 (allS (Or.inl (List.mem_of_getElem? (i := 0) rfl)) all0)).trans K497 (allS (Or.inl (List.mem_of_getElem? (i := 0) rfl)) all0)), p497_0⟩, ⟨_, rfl⟩, hW, hsame.mono (by decide) (by decide)⟩
    · have R499 : Go p e below P T476 (mkF m 355 #[rV a, iV 5, iV 5, rV d, iV 2, iV 1, iV v4, iV v1, iV v2, iV v3, iV cp] [(.int (-2)), (.int (v4 >>> ((3 : Int32) &&& 31)))]) := fun t_ k_ => R493 t_ (XS.icmpYes X476.here hx rfl (pc0 := 149) (pc' := 349) rfl (hb hby d24_149) rfl (feq hc494).2 (by decide) (by decide) (XS.iload X476.here hx rfl (hb hby d24_349) rfl (XS.iconst X476.here hx rfl (hb hby d24_351) (XS.ishr X476.here hx rfl (hb hby d24_352) rfl (XS.bipush X476.here hx rfl (hb hby d24_353) k_)))))
      by_cases hc500 : (v4 >>> ((3 : Int32) &&& 31)) = (-2 : Int32)
      · have R501 : Go p e below P T476 (mkF m 503 #[rV a, iV 5, iV 5, rV d, iV 2, iV 1, iV (v4 &&& (255 : Int32)), iV v1, iV v2, iV v3, iV cp] [(.int 244), (.int (v4 &&& (255 : Int32)))]) := fun t_ k_ => R499 t_ (XS.icmpNo X476.here hx rfl (hb hby d24_355) rfl (teq hc500).2 (XS.iloadN X476.here hx rfl (hb hby d24_358) rfl (XS.iconst X476.here hx rfl (hb hby d24_359) (XS.iadd X476.here hx rfl (hb hby d24_360) rfl (XS.iloadN X476.here hx rfl (hb hby d24_361) rfl (XS.icmpYes X476.here hx rfl (pc0 := 362) (pc' := 490) rfl (hb hby d24_362) rfl (flt (by decide : ¬ ((7 : Int32) < (5 : Int32)))).2.1 (by decide) (by decide) (XS.iload X476.here hx rfl (hb hby d24_490) rfl (XS.sipush X476.here hx rfl (hb hby d24_492) (XS.iand X476.here hx rfl (hb hby d24_495) rfl (XS.istore X476.here hx rfl (hb hby d24_496) rfl (l' := #[rV a, iV 5, iV 5, rV d, iV 2, iV 1, iV (v4 &&& (255 : Int32)), iV v1, iV v2, iV v3, iV cp]) rfl (XS.iload X476.here hx rfl (hb hby d24_498) rfl (XS.sipush X476.here hx rfl (hb hby d24_500) k_))))))))))))
        by_cases hc502 : (244 : Int32) < (v4 &&& (255 : Int32))
        · have R503 : Go p e below P T476 (mkF m 546 #[rV a, iV 5, iV 5, rV d, iV 3, iV 1, iV (v4 &&& (255 : Int32)), iV v1, iV v2, iV v3, iV cp] [(.int 65533), (.int 2), (.ref d)]) := fun t_ k_ => R501 t_ (XS.icmpYes X476.here hx rfl (pc0 := 503) (pc' := 526) rfl (hb hby d24_503) rfl (tlt hc502).2.2.1 (by decide) (by decide) (XS.iload X476.here hx rfl (hb hby d24_526) rfl (XS.ifYes X476.here hx rfl (pc0 := 528) (pc' := 538) rfl (hb hby d24_528) rfl ((if0 _ _).trans (feq (by decide : ¬ ((1 : Int32) = (0 : Int32)))).2) (by decide) (by decide) (XS.aloadN X476.here hx rfl (hb hby d24_538) rfl rfl (XS.iload X476.here hx rfl (hb hby d24_539) rfl (XS.iinc X476.here hx rfl (hb hby d24_541) rfl (l' := #[rV a, iV 5, iV 5, rV d, iV ((2 : Int32) + (1 : Int32)), iV 1, iV (v4 &&& (255 : Int32)), iV v1, iV v2, iV v3, iV cp]) rfl (apS (X476.ldcInt hx hown (mvT hZ (hwI hw 121 rfl)) rfl (hb hby d24_544)) k_)))))))
          obtain ⟨rv504, T504, Lc504, X504, hQ504, R504⟩ := callQ X476 hx hZ hown (rfl : T476.heap = T476.heap) R503 (putC_ l Z a0 hw [] d kd (10 : Int32) ((((((vs.set (2 * 0) (.int (loB c0))).set (2 * 0 + 1) (.int (hiB c0)))).set (2 * 1) (.int (loB c1))).set (2 * 1 + 1) (.int (hiB c1)))) 2 (2 : Int32) (65533 : Int32) T476.heap n0 O476 P0 P1 P2 p476_0 P5 rfl (lj (ls (ls (ls (ls hlen)))) (by decide)) (lN (ls (ls (ls (ls hlen)))) (by decide)) (ll (ls (ls (ls (ls hlen)))) (by decide))) (hwI hw 122 rfl) (hwI hw 113 rfl) (hwI hw 88 rfl) (hwI hw 114 rfl) [] rfl (by rw [hml]; rfl) (lenOf pd_14998797 rfl) rfl (W := 0) (wR rfl) (hb hby d24_546)
          obtain ⟨rfl, N504q, K504, p504_0⟩ := hQ504
          have N504 := Fr.app N476 N504q
          have O504 := O476.keep K504 (allS P5 all0)
          have R505 : Go p e below P T504 (mkF m 623 #[rV a, iV 5, iV 5, rV d, iV 3, iV 1, iV (v4 &&& (255 : Int32)), iV v1, iV v2, iV v3, iV cp] [(.int 3)]) := fun t_ k_ => R504 t_ (XS.goto X504.here hx rfl (pc0 := 549) (pc' := 0) rfl (hb hby d24_549) (by decide) (by decide) (XS.iloadN X504.here hx rfl (hb hby d24_0) rfl (XS.iloadN X504.here hx rfl (hb hby d24_1) rfl (XS.icmpYes X504.here hx rfl (pc0 := 2) (pc' := 621) rfl (hb hby d24_2) rfl (flt (by decide : ¬ ((5 : Int32) < (5 : Int32)))).2.1 (by decide) (by decide) (XS.iload X504.here hx rfl (hb hby d24_621) rfl k_)))))
          obtain ⟨fs, hr, hrun, hended, hW, hsame⟩ := X504.leave (v := some (.int 3)) (fun h => by rw [Bd.returns] at h; cases h)
          exact ⟨_, _, hP _ (R505 _ (retI X504 hx Bd.returns (hb hby d24_623) hr)), hrun, hended, _, _, rfl, ⟨rfl, N504, ((((Keep.refl h0 [d]).trans K473 (allS (Or.inl (List.mem_of_getElem? (i := 0) rfl)) all0)).trans K476 (allS (Or.inl (List.mem_of_getElem? (i := 0) rfl)) all0)).trans K504 (allS (Or.inl (List.mem_of_getElem? (i := 0) rfl)) all0)), p504_0⟩, ⟨_, rfl⟩, hW, hsame.mono (by decide) (by decide)⟩
        · have R506 : Go p e below P T476 (mkF m 575 #[rV a, iV 6, iV 5, rV d, iV 3, iV 1, iV (v4 &&& (255 : Int32)), iV v1, iV v2, iV v3, iV cp] [(.int 65533), (.int 2), (.ref d)]) := fun t_ k_ => R501 t_ (XS.icmpNo X476.here hx rfl (hb hby d24_503) rfl (flt hc502).2.2.1 (XS.iloadN X476.here hx rfl (hb hby d24_506) rfl (XS.iloadN X476.here hx rfl (hb hby d24_507) rfl (XS.icmpYes X476.here hx rfl (pc0 := 508) (pc' := 552) rfl (hb hby d24_508) rfl (flt (by decide : ¬ ((5 : Int32) < (5 : Int32)))).2.1 (by decide) (by decide) (XS.iload X476.here hx rfl (hb hby d24_552) rfl (XS.ifYes X476.here hx rfl (pc0 := 554) (pc' := 564) rfl (hb hby d24_554) rfl ((if0 _ _).trans (feq (by decide : ¬ ((1 : Int32) = (0 : Int32)))).2) (by decide) (by decide) (XS.iinc X476.here hx rfl (hb hby d24_564) rfl (l' := #[rV a, iV ((5 : Int32) + (1 : Int32)), iV 5, rV d, iV 2, iV 1, iV (v4 &&& (255 : Int32)), iV v1, iV v2, iV v3, iV cp]) rfl (XS.aloadN X476.here hx rfl (hb hby d24_567) rfl rfl (XS.iload X476.here hx rfl (hb hby d24_568) rfl (XS.iinc X476.here hx rfl (hb hby d24_570) rfl (l' := #[rV a, iV 6, iV 5, rV d, iV ((2 : Int32) + (1 : Int32)), iV 1, iV (v4 &&& (255 : Int32)), iV v1, iV v2, iV v3, iV cp]) rfl (apS (X476.ldcInt hx hown (mvT hZ (hwI hw 121 rfl)) rfl (hb hby d24_573)) k_)))))))))))
          obtain ⟨rv507, T507, Lc507, X507, hQ507, R507⟩ := callQ X476 hx hZ hown (rfl : T476.heap = T476.heap) R506 (putC_ l Z a0 hw [] d kd (10 : Int32) ((((((vs.set (2 * 0) (.int (loB c0))).set (2 * 0 + 1) (.int (hiB c0)))).set (2 * 1) (.int (loB c1))).set (2 * 1 + 1) (.int (hiB c1)))) 2 (2 : Int32) (65533 : Int32) T476.heap n0 O476 P0 P1 P2 p476_0 P5 rfl (lj (ls (ls (ls (ls hlen)))) (by decide)) (lN (ls (ls (ls (ls hlen)))) (by decide)) (ll (ls (ls (ls (ls hlen)))) (by decide))) (hwI hw 122 rfl) (hwI hw 113 rfl) (hwI hw 88 rfl) (hwI hw 114 rfl) [] rfl (by rw [hml]; rfl) (lenOf pd_14998797 rfl) rfl (W := 0) (wR rfl) (hb hby d24_575)
          obtain ⟨rfl, N507q, K507, p507_0⟩ := hQ507
          have N507 := Fr.app N476 N507q
          have O507 := O476.keep K507 (allS P5 all0)
          have R508 : Go p e below P T507 (mkF m 623 #[rV a, iV 6, iV 5, rV d, iV 3, iV 1, iV (v4 &&& (255 : Int32)), iV v1, iV v2, iV v3, iV cp] [(.int 3)]) := fun t_ k_ => R507 t_ (XS.iloadN X507.here hx rfl (hb hby d24_578) rfl (XS.iloadN X507.here hx rfl (hb hby d24_579) rfl (XS.icmpYes X507.here hx rfl (pc0 := 580) (pc' := 621) rfl (hb hby d24_580) rfl (flt (by decide : ¬ ((6 : Int32) < (5 : Int32)))).2.1 (by decide) (by decide) (XS.iload X507.here hx rfl (hb hby d24_621) rfl k_))))
          obtain ⟨fs, hr, hrun, hended, hW, hsame⟩ := X507.leave (v := some (.int 3)) (fun h => by rw [Bd.returns] at h; cases h)
          exact ⟨_, _, hP _ (R508 _ (retI X507 hx Bd.returns (hb hby d24_623) hr)), hrun, hended, _, _, rfl, ⟨rfl, N507, ((((Keep.refl h0 [d]).trans K473 (allS (Or.inl (List.mem_of_getElem? (i := 0) rfl)) all0)).trans K476 (allS (Or.inl (List.mem_of_getElem? (i := 0) rfl)) all0)).trans K507 (allS (Or.inl (List.mem_of_getElem? (i := 0) rfl)) all0)), p507_0⟩, ⟨_, rfl⟩, hW, hsame.mono (by decide) (by decide)⟩
      · have R509 : Go p e below P T476 (mkF m 615 #[rV a, iV 5, iV 5, rV d, iV 3, iV 1, iV v4, iV v1, iV v2, iV v3, iV cp] [(.int 65533), (.int 2), (.ref d)]) := fun t_ k_ => R499 t_ (XS.icmpYes X476.here hx rfl (pc0 := 355) (pc' := 595) rfl (hb hby d24_355) rfl (feq hc500).2 (by decide) (by decide) (XS.iload X476.here hx rfl (hb hby d24_595) rfl (XS.ifYes X476.here hx rfl (pc0 := 597) (pc' := 607) rfl (hb hby d24_597) rfl ((if0 _ _).trans (feq (by decide : ¬ ((1 : Int32) = (0 : Int32)))).2) (by decide) (by decide) (XS.aloadN X476.here hx rfl (hb hby d24_607) rfl rfl (XS.iload X476.here hx rfl (hb hby d24_608) rfl (XS.iinc X476.here hx rfl (hb hby d24_610) rfl (l' := #[rV a, iV 5, iV 5, rV d, iV ((2 : Int32) + (1 : Int32)), iV 1, iV v4, iV v1, iV v2, iV v3, iV cp]) rfl (apS (X476.ldcInt hx hown (mvT hZ (hwI hw 121 rfl)) rfl (hb hby d24_613)) k_)))))))
        obtain ⟨rv510, T510, Lc510, X510, hQ510, R510⟩ := callQ X476 hx hZ hown (rfl : T476.heap = T476.heap) R509 (putC_ l Z a0 hw [] d kd (10 : Int32) ((((((vs.set (2 * 0) (.int (loB c0))).set (2 * 0 + 1) (.int (hiB c0)))).set (2 * 1) (.int (loB c1))).set (2 * 1 + 1) (.int (hiB c1)))) 2 (2 : Int32) (65533 : Int32) T476.heap n0 O476 P0 P1 P2 p476_0 P5 rfl (lj (ls (ls (ls (ls hlen)))) (by decide)) (lN (ls (ls (ls (ls hlen)))) (by decide)) (ll (ls (ls (ls (ls hlen)))) (by decide))) (hwI hw 122 rfl) (hwI hw 113 rfl) (hwI hw 88 rfl) (hwI hw 114 rfl) [] rfl (by rw [hml]; rfl) (lenOf pd_14998797 rfl) rfl (W := 0) (wR rfl) (hb hby d24_615)
        obtain ⟨rfl, N510q, K510, p510_0⟩ := hQ510
        have N510 := Fr.app N476 N510q
        have O510 := O476.keep K510 (allS P5 all0)
        have R511 : Go p e below P T510 (mkF m 623 #[rV a, iV 5, iV 5, rV d, iV 3, iV 1, iV v4, iV v1, iV v2, iV v3, iV cp] [(.int 3)]) := fun t_ k_ => R510 t_ (XS.goto X510.here hx rfl (pc0 := 618) (pc' := 0) rfl (hb hby d24_618) (by decide) (by decide) (XS.iloadN X510.here hx rfl (hb hby d24_0) rfl (XS.iloadN X510.here hx rfl (hb hby d24_1) rfl (XS.icmpYes X510.here hx rfl (pc0 := 2) (pc' := 621) rfl (hb hby d24_2) rfl (flt (by decide : ¬ ((5 : Int32) < (5 : Int32)))).2.1 (by decide) (by decide) (XS.iload X510.here hx rfl (hb hby d24_621) rfl k_)))))
        obtain ⟨fs, hr, hrun, hended, hW, hsame⟩ := X510.leave (v := some (.int 3)) (fun h => by rw [Bd.returns] at h; cases h)
        exact ⟨_, _, hP _ (R511 _ (retI X510 hx Bd.returns (hb hby d24_623) hr)), hrun, hended, _, _, rfl, ⟨rfl, N510, ((((Keep.refl h0 [d]).trans K473 (allS (Or.inl (List.mem_of_getElem? (i := 0) rfl)) all0)).trans K476 (allS (Or.inl (List.mem_of_getElem? (i := 0) rfl)) all0)).trans K510 (allS (Or.inl (List.mem_of_getElem? (i := 0) rfl)) all0)), p510_0⟩, ⟨_, rfl⟩, hW, hsame.mono (by decide) (by decide)⟩
theorem pn_99309442 : plainName "java/lang/StringCoding" = true := by first | (simp [plainName, overriddenIn]; done) | decide +kernel
theorem ef6_RII (m : MethodId) (x0 : Addr) (x1 : Int32) (x2 : Int32) : entryFrame m #[(.ref x0), (.int x1), (.int x2)] 5 = mkF m 0 #[rV x0, iV x1, iV x2, uS, uS] [] := by first | (simp [entryFrame, mkF, argsToLocals, Value.category]; done) | rfl
theorem d6_0 : decode jdk_123_method_3_code 0 = .ok (.iload_n 1, 1) := by decide +kernel
theorem d6_1 : decode jdk_123_method_3_code 1 = .ok (.iload_n 2, 1) := by decide +kernel
theorem d6_2 : decode jdk_123_method_3_code 2 = .ok (.iadd, 1) := by decide +kernel
theorem d6_3 : decode jdk_123_method_3_code 3 = .ok (.istore_n 3, 1) := by decide +kernel
theorem d6_4 : decode jdk_123_method_3_code 4 = .ok (.iload_n 1, 1) := by decide +kernel
theorem d6_5 : decode jdk_123_method_3_code 5 = .ok (.istore 4, 2) := by decide +kernel
theorem d6_7 : decode jdk_123_method_3_code 7 = .ok (.iload 4, 2) := by decide +kernel
theorem d6_9 : decode jdk_123_method_3_code 9 = .ok (.iload_n 3, 1) := by decide +kernel
theorem d6_10 : decode jdk_123_method_3_code 10 = .ok (.if_icmp .ge 21, 3) := by decide +kernel
theorem d6_13 : decode jdk_123_method_3_code 13 = .ok (.aload_n 0, 1) := by decide +kernel
theorem d6_14 : decode jdk_123_method_3_code 14 = .ok (.iload 4, 2) := by decide +kernel
theorem d6_16 : decode jdk_123_method_3_code 16 = .ok (.baload, 1) := by decide +kernel
theorem d6_17 : decode jdk_123_method_3_code 17 = .ok (.ifCond .ge 8, 3) := by decide +kernel
theorem d6_25 : decode jdk_123_method_3_code 25 = .ok (.iinc 4 1, 3) := by decide +kernel
theorem d6_28 : decode jdk_123_method_3_code 28 = .ok (.goto (-21), 3) := by decide +kernel
theorem d6_31 : decode jdk_123_method_3_code 31 = .ok (.iload_n 2, 1) := by decide +kernel
theorem d6_32 : decode jdk_123_method_3_code 32 = .ok (.ireturn, 1) := by decide +kernel
def Q_cpos2n_ (Z : State) (a : Addr) (ka : ClassId) (v0 : Int32) (v1 : Int32) (h0 : Heap) (n0 : Nat) (rv_ : Option Value) (rh_ : Heap) (rL_ : List Loc) : Prop := (rv_ = some (.int 2)) ∧ (Fr n0 rL_) ∧ (rh_ = h0)
set_option maxRecDepth 65536 in
set_option maxHeartbeats 40000000 in
theorem cpos2n_ (l : Launch) (Z : State) (a0 : Array Value) (hw : HW Z a0) (ws : List Jvm.Cond) (a : Addr) (ka : ClassId) (v0 : Int32) (v1 : Int32) (h0 : Heap) (n0 : Nat) (O0 : Old Z n0 h0) (P0 : Arv Z h0 a ka .byte (2 : Int32) [(.int v0), (.int v1)] (.int 0)) (P1 : ¬ (v0 < (0 : Int32))) (P2 : ¬ (v1 < (0 : Int32))) :
    MetQ l yM30 (Jvm.Cond.code yM30 jdk_123_method_3_code 5 (some .int)) ws (rM 0 0 0 0) Z #[(.ref a), (.int 0), (.int 2)] h0 (Q_cpos2n_ Z a ka v0 v1 h0 n0) := by
  refine metQ (plainFor_of_name pn_99309442) hisR (fun m => ef6_RII m a (0 : Int32) (2 : Int32)) ?_
  intro p e s m below meth c s₁ P Bd hx hby hml hZ hown hnm X0 e0 hP R0
  have N0 := Fr.nil n0
  have R512 : Go p e below P s₁ (mkF m 16 #[rV a, iV 0, iV 2, iV 2, iV 0] [(.int 0), (.ref a)]) := fun t_ k_ => R0 t_ (XS.iloadN X0.here hx rfl (hb hby d6_0) rfl (XS.iloadN X0.here hx rfl (hb hby d6_1) rfl (XS.iadd X0.here hx rfl (hb hby d6_2) rfl (XS.istoreN X0.here hx rfl (hb hby d6_3) rfl (l' := #[rV a, iV 0, iV 2, iV 2, uS]) rfl (XS.iloadN X0.here hx rfl (hb hby d6_4) rfl (XS.istore X0.here hx rfl (hb hby d6_5) rfl (l' := #[rV a, iV 0, iV 2, iV 2, iV 0]) rfl (XS.iload X0.here hx rfl (hb hby d6_7) rfl (XS.iloadN X0.here hx rfl (hb hby d6_9) rfl (XS.icmpNo X0.here hx rfl (hb hby d6_10) rfl (tlt (by decide : (0 : Int32) < (2 : Int32))).2.1 (XS.aloadN X0.here hx rfl (hb hby d6_13) rfl rfl (XS.iload X0.here hx rfl (hb hby d6_14) rfl k_)))))))))))
  obtain ⟨cl513, cl513A, cl513q, cl513S, cl513N, cl513H, cl513G⟩ := id P0
  have ib514 := inb_of (j := (0 : Int32)) cl513S ⟨by decide, by decide⟩
  have R515 : Go p e below P s₁ (mkF m 16 #[rV a, iV 0, iV 2, iV 2, iV 1] [(.int 1), (.ref a)]) := fun t_ k_ => R512 t_ (apS (X0.baloadBytes hx (v := (.int v0)) (by rw [e0]; exact cl513A.1) (State.isArrayOf_alike hZ.alike cl513A.2.1) cl513A.2.2 ib514 (cl513H.at ib514 rfl) rfl rfl (hb hby d6_16)) (XS.ifYes X0.here hx rfl (pc0 := 17) (pc' := 25) rfl (hb hby d6_17) rfl ((if0 _ _).trans (flt P1).2.1) (by decide) (by decide) (XS.iinc X0.here hx rfl (hb hby d6_25) rfl (l' := #[rV a, iV 0, iV 2, iV 2, iV ((0 : Int32) + (1 : Int32))]) rfl (XS.goto X0.here hx rfl (pc0 := 28) (pc' := 7) rfl (hb hby d6_28) (by decide) (by decide) (XS.iload X0.here hx rfl (hb hby d6_7) rfl (XS.iloadN X0.here hx rfl (hb hby d6_9) rfl (XS.icmpNo X0.here hx rfl (hb hby d6_10) rfl (tlt (by decide : (1 : Int32) < (2 : Int32))).2.1 (XS.aloadN X0.here hx rfl (hb hby d6_13) rfl rfl (XS.iload X0.here hx rfl (hb hby d6_14) rfl k_)))))))))
  have ib516 := inb_of (j := (1 : Int32)) cl513S ⟨by decide, by decide⟩
  have R517 : Go p e below P s₁ (mkF m 32 #[rV a, iV 0, iV 2, iV 2, iV 2] [(.int 2)]) := fun t_ k_ => R515 t_ (apS (X0.baloadBytes hx (v := (.int v1)) (by rw [e0]; exact cl513A.1) (State.isArrayOf_alike hZ.alike cl513A.2.1) cl513A.2.2 ib516 (cl513H.at ib516 rfl) rfl rfl (hb hby d6_16)) (XS.ifYes X0.here hx rfl (pc0 := 17) (pc' := 25) rfl (hb hby d6_17) rfl ((if0 _ _).trans (flt P2).2.1) (by decide) (by decide) (XS.iinc X0.here hx rfl (hb hby d6_25) rfl (l' := #[rV a, iV 0, iV 2, iV 2, iV ((1 : Int32) + (1 : Int32))]) rfl (XS.goto X0.here hx rfl (pc0 := 28) (pc' := 7) rfl (hb hby d6_28) (by decide) (by decide) (XS.iload X0.here hx rfl (hb hby d6_7) rfl (XS.iloadN X0.here hx rfl (hb hby d6_9) rfl (XS.icmpYes X0.here hx rfl (pc0 := 10) (pc' := 31) rfl (hb hby d6_10) rfl (flt (by decide : ¬ ((2 : Int32) < (2 : Int32)))).2.1 (by decide) (by decide) (XS.iloadN X0.here hx rfl (hb hby d6_31) rfl k_))))))))
  obtain ⟨fs, hr, hrun, hended, hW, hsame⟩ := X0.leave (v := some (.int 2)) (fun h => by rw [Bd.returns] at h; cases h)
  exact ⟨_, _, hP _ (R517 _ (retI X0 hx Bd.returns (hb hby d6_32) hr)), hrun, hended, _, _, rfl, ⟨rfl, N0, e0⟩, ⟨_, rfl⟩, hW, hsame.mono (by decide) (by decide)⟩
theorem d6_20 : decode jdk_123_method_3_code 20 = .ok (.iload 4, 2) := by decide +kernel
theorem d6_22 : decode jdk_123_method_3_code 22 = .ok (.iload_n 1, 1) := by decide +kernel
theorem d6_23 : decode jdk_123_method_3_code 23 = .ok (.isub, 1) := by decide +kernel
theorem d6_24 : decode jdk_123_method_3_code 24 = .ok (.ireturn, 1) := by decide +kernel
def Q_cpos21_ (Z : State) (a : Addr) (ka : ClassId) (v0 : Int32) (v1 : Int32) (h0 : Heap) (n0 : Nat) (rv_ : Option Value) (rh_ : Heap) (rL_ : List Loc) : Prop := (rv_ = some (.int 1)) ∧ (Fr n0 rL_) ∧ (rh_ = h0)
set_option maxRecDepth 65536 in
set_option maxHeartbeats 40000000 in
theorem cpos21_ (l : Launch) (Z : State) (a0 : Array Value) (hw : HW Z a0) (ws : List Jvm.Cond) (a : Addr) (ka : ClassId) (v0 : Int32) (v1 : Int32) (h0 : Heap) (n0 : Nat) (O0 : Old Z n0 h0) (P0 : Arv Z h0 a ka .byte (2 : Int32) [(.int v0), (.int v1)] (.int 0)) (P1 : ¬ (v0 < (0 : Int32))) (P2 : v1 < (0 : Int32)) :
    MetQ l yM30 (Jvm.Cond.code yM30 jdk_123_method_3_code 5 (some .int)) ws (rM 0 0 0 0) Z #[(.ref a), (.int 0), (.int 2)] h0 (Q_cpos21_ Z a ka v0 v1 h0 n0) := by
  refine metQ (plainFor_of_name pn_99309442) hisR (fun m => ef6_RII m a (0 : Int32) (2 : Int32)) ?_
  intro p e s m below meth c s₁ P Bd hx hby hml hZ hown hnm X0 e0 hP R0
  have N0 := Fr.nil n0
  have R518 : Go p e below P s₁ (mkF m 16 #[rV a, iV 0, iV 2, iV 2, iV 0] [(.int 0), (.ref a)]) := fun t_ k_ => R0 t_ (XS.iloadN X0.here hx rfl (hb hby d6_0) rfl (XS.iloadN X0.here hx rfl (hb hby d6_1) rfl (XS.iadd X0.here hx rfl (hb hby d6_2) rfl (XS.istoreN X0.here hx rfl (hb hby d6_3) rfl (l' := #[rV a, iV 0, iV 2, iV 2, uS]) rfl (XS.iloadN X0.here hx rfl (hb hby d6_4) rfl (XS.istore X0.here hx rfl (hb hby d6_5) rfl (l' := #[rV a, iV 0, iV 2, iV 2, iV 0]) rfl (XS.iload X0.here hx rfl (hb hby d6_7) rfl (XS.iloadN X0.here hx rfl (hb hby d6_9) rfl (XS.icmpNo X0.here hx rfl (hb hby d6_10) rfl (tlt (by decide : (0 : Int32) < (2 : Int32))).2.1 (XS.aloadN X0.here hx rfl (hb hby d6_13) rfl rfl (XS.iload X0.here hx rfl (hb hby d6_14) rfl k_)))))))))))
  obtain ⟨cl519, cl519A, cl519q, cl519S, cl519N, cl519H, cl519G⟩ := id P0
  have ib520 := inb_of (j := (0 : Int32)) cl519S ⟨by decide, by decide⟩
  have R521 : Go p e below P s₁ (mkF m 16 #[rV a, iV 0, iV 2, iV 2, iV 1] [(.int 1), (.ref a)]) := fun t_ k_ => R518 t_ (apS (X0.baloadBytes hx (v := (.int v0)) (by rw [e0]; exact cl519A.1) (State.isArrayOf_alike hZ.alike cl519A.2.1) cl519A.2.2 ib520 (cl519H.at ib520 rfl) rfl rfl (hb hby d6_16)) (XS.ifYes X0.here hx rfl (pc0 := 17) (pc' := 25) rfl (hb hby d6_17) rfl ((if0 _ _).trans (flt P1).2.1) (by decide) (by decide) (XS.iinc X0.here hx rfl (hb hby d6_25) rfl (l' := #[rV a, iV 0, iV 2, iV 2, iV ((0 : Int32) + (1 : Int32))]) rfl (XS.goto X0.here hx rfl (pc0 := 28) (pc' := 7) rfl (hb hby d6_28) (by decide) (by decide) (XS.iload X0.here hx rfl (hb hby d6_7) rfl (XS.iloadN X0.here hx rfl (hb hby d6_9) rfl (XS.icmpNo X0.here hx rfl (hb hby d6_10) rfl (tlt (by decide : (1 : Int32) < (2 : Int32))).2.1 (XS.aloadN X0.here hx rfl (hb hby d6_13) rfl rfl (XS.iload X0.here hx rfl (hb hby d6_14) rfl k_)))))))))
  have ib522 := inb_of (j := (1 : Int32)) cl519S ⟨by decide, by decide⟩
  have R523 : Go p e below P s₁ (mkF m 24 #[rV a, iV 0, iV 2, iV 2, iV 1] [(.int 1)]) := fun t_ k_ => R521 t_ (apS (X0.baloadBytes hx (v := (.int v1)) (by rw [e0]; exact cl519A.1) (State.isArrayOf_alike hZ.alike cl519A.2.1) cl519A.2.2 ib522 (cl519H.at ib522 rfl) rfl rfl (hb hby d6_16)) (XS.ifNo X0.here hx rfl (hb hby d6_17) rfl ((if0 _ _).trans (tlt P2).2.1) (XS.iload X0.here hx rfl (hb hby d6_20) rfl (XS.iloadN X0.here hx rfl (hb hby d6_22) rfl (XS.isub X0.here hx rfl (hb hby d6_23) rfl k_)))))
  obtain ⟨fs, hr, hrun, hended, hW, hsame⟩ := X0.leave (v := some (.int 1)) (fun h => by rw [Bd.returns] at h; cases h)
  exact ⟨_, _, hP _ (R523 _ (retI X0 hx Bd.returns (hb hby d6_24) hr)), hrun, hended, _, _, rfl, ⟨rfl, N0, e0⟩, ⟨_, rfl⟩, hW, hsame.mono (by decide) (by decide)⟩
def Q_cpos30_ (Z : State) (a : Addr) (ka : ClassId) (v0 : Int32) (v1 : Int32) (v2 : Int32) (h0 : Heap) (n0 : Nat) (rv_ : Option Value) (rh_ : Heap) (rL_ : List Loc) : Prop := (rv_ = some (.int 0)) ∧ (Fr n0 rL_) ∧ (rh_ = h0)
set_option maxRecDepth 65536 in
set_option maxHeartbeats 40000000 in
theorem cpos30_ (l : Launch) (Z : State) (a0 : Array Value) (hw : HW Z a0) (ws : List Jvm.Cond) (a : Addr) (ka : ClassId) (v0 : Int32) (v1 : Int32) (v2 : Int32) (h0 : Heap) (n0 : Nat) (O0 : Old Z n0 h0) (P0 : Arv Z h0 a ka .byte (3 : Int32) [(.int v0), (.int v1), (.int v2)] (.int 0)) (P1 : v0 < (0 : Int32)) :
    MetQ l yM30 (Jvm.Cond.code yM30 jdk_123_method_3_code 5 (some .int)) ws (rM 0 0 0 0) Z #[(.ref a), (.int 0), (.int 3)] h0 (Q_cpos30_ Z a ka v0 v1 v2 h0 n0) := by
  refine metQ (plainFor_of_name pn_99309442) hisR (fun m => ef6_RII m a (0 : Int32) (3 : Int32)) ?_
  intro p e s m below meth c s₁ P Bd hx hby hml hZ hown hnm X0 e0 hP R0
  have N0 := Fr.nil n0
  have R524 : Go p e below P s₁ (mkF m 16 #[rV a, iV 0, iV 3, iV 3, iV 0] [(.int 0), (.ref a)]) := fun t_ k_ => R0 t_ (XS.iloadN X0.here hx rfl (hb hby d6_0) rfl (XS.iloadN X0.here hx rfl (hb hby d6_1) rfl (XS.iadd X0.here hx rfl (hb hby d6_2) rfl (XS.istoreN X0.here hx rfl (hb hby d6_3) rfl (l' := #[rV a, iV 0, iV 3, iV 3, uS]) rfl (XS.iloadN X0.here hx rfl (hb hby d6_4) rfl (XS.istore X0.here hx rfl (hb hby d6_5) rfl (l' := #[rV a, iV 0, iV 3, iV 3, iV 0]) rfl (XS.iload X0.here hx rfl (hb hby d6_7) rfl (XS.iloadN X0.here hx rfl (hb hby d6_9) rfl (XS.icmpNo X0.here hx rfl (hb hby d6_10) rfl (tlt (by decide : (0 : Int32) < (3 : Int32))).2.1 (XS.aloadN X0.here hx rfl (hb hby d6_13) rfl rfl (XS.iload X0.here hx rfl (hb hby d6_14) rfl k_)))))))))))
  obtain ⟨cl525, cl525A, cl525q, cl525S, cl525N, cl525H, cl525G⟩ := id P0
  have ib526 := inb_of (j := (0 : Int32)) cl525S ⟨by decide, by decide⟩
  have R527 : Go p e below P s₁ (mkF m 24 #[rV a, iV 0, iV 3, iV 3, iV 0] [(.int 0)]) := fun t_ k_ => R524 t_ (apS (X0.baloadBytes hx (v := (.int v0)) (by rw [e0]; exact cl525A.1) (State.isArrayOf_alike hZ.alike cl525A.2.1) cl525A.2.2 ib526 (cl525H.at ib526 rfl) rfl rfl (hb hby d6_16)) (XS.ifNo X0.here hx rfl (hb hby d6_17) rfl ((if0 _ _).trans (tlt P1).2.1) (XS.iload X0.here hx rfl (hb hby d6_20) rfl (XS.iloadN X0.here hx rfl (hb hby d6_22) rfl (XS.isub X0.here hx rfl (hb hby d6_23) rfl k_)))))
  obtain ⟨fs, hr, hrun, hended, hW, hsame⟩ := X0.leave (v := some (.int 0)) (fun h => by rw [Bd.returns] at h; cases h)
  exact ⟨_, _, hP _ (R527 _ (retI X0 hx Bd.returns (hb hby d6_24) hr)), hrun, hended, _, _, rfl, ⟨rfl, N0, e0⟩, ⟨_, rfl⟩, hW, hsame.mono (by decide) (by decide)⟩
def Q_cpos40_ (Z : State) (a : Addr) (ka : ClassId) (v0 : Int32) (v1 : Int32) (v2 : Int32) (v3 : Int32) (h0 : Heap) (n0 : Nat) (rv_ : Option Value) (rh_ : Heap) (rL_ : List Loc) : Prop := (rv_ = some (.int 0)) ∧ (Fr n0 rL_) ∧ (rh_ = h0)
set_option maxRecDepth 65536 in
set_option maxHeartbeats 40000000 in
theorem cpos40_ (l : Launch) (Z : State) (a0 : Array Value) (hw : HW Z a0) (ws : List Jvm.Cond) (a : Addr) (ka : ClassId) (v0 : Int32) (v1 : Int32) (v2 : Int32) (v3 : Int32) (h0 : Heap) (n0 : Nat) (O0 : Old Z n0 h0) (P0 : Arv Z h0 a ka .byte (4 : Int32) [(.int v0), (.int v1), (.int v2), (.int v3)] (.int 0)) (P1 : v0 < (0 : Int32)) :
    MetQ l yM30 (Jvm.Cond.code yM30 jdk_123_method_3_code 5 (some .int)) ws (rM 0 0 0 0) Z #[(.ref a), (.int 0), (.int 4)] h0 (Q_cpos40_ Z a ka v0 v1 v2 v3 h0 n0) := by
  refine metQ (plainFor_of_name pn_99309442) hisR (fun m => ef6_RII m a (0 : Int32) (4 : Int32)) ?_
  intro p e s m below meth c s₁ P Bd hx hby hml hZ hown hnm X0 e0 hP R0
  have N0 := Fr.nil n0
  have R528 : Go p e below P s₁ (mkF m 16 #[rV a, iV 0, iV 4, iV 4, iV 0] [(.int 0), (.ref a)]) := fun t_ k_ => R0 t_ (XS.iloadN X0.here hx rfl (hb hby d6_0) rfl (XS.iloadN X0.here hx rfl (hb hby d6_1) rfl (XS.iadd X0.here hx rfl (hb hby d6_2) rfl (XS.istoreN X0.here hx rfl (hb hby d6_3) rfl (l' := #[rV a, iV 0, iV 4, iV 4, uS]) rfl (XS.iloadN X0.here hx rfl (hb hby d6_4) rfl (XS.istore X0.here hx rfl (hb hby d6_5) rfl (l' := #[rV a, iV 0, iV 4, iV 4, iV 0]) rfl (XS.iload X0.here hx rfl (hb hby d6_7) rfl (XS.iloadN X0.here hx rfl (hb hby d6_9) rfl (XS.icmpNo X0.here hx rfl (hb hby d6_10) rfl (tlt (by decide : (0 : Int32) < (4 : Int32))).2.1 (XS.aloadN X0.here hx rfl (hb hby d6_13) rfl rfl (XS.iload X0.here hx rfl (hb hby d6_14) rfl k_)))))))))))
  obtain ⟨cl529, cl529A, cl529q, cl529S, cl529N, cl529H, cl529G⟩ := id P0
  have ib530 := inb_of (j := (0 : Int32)) cl529S ⟨by decide, by decide⟩
  have R531 : Go p e below P s₁ (mkF m 24 #[rV a, iV 0, iV 4, iV 4, iV 0] [(.int 0)]) := fun t_ k_ => R528 t_ (apS (X0.baloadBytes hx (v := (.int v0)) (by rw [e0]; exact cl529A.1) (State.isArrayOf_alike hZ.alike cl529A.2.1) cl529A.2.2 ib530 (cl529H.at ib530 rfl) rfl rfl (hb hby d6_16)) (XS.ifNo X0.here hx rfl (hb hby d6_17) rfl ((if0 _ _).trans (tlt P1).2.1) (XS.iload X0.here hx rfl (hb hby d6_20) rfl (XS.iloadN X0.here hx rfl (hb hby d6_22) rfl (XS.isub X0.here hx rfl (hb hby d6_23) rfl k_)))))
  obtain ⟨fs, hr, hrun, hended, hW, hsame⟩ := X0.leave (v := some (.int 0)) (fun h => by rw [Bd.returns] at h; cases h)
  exact ⟨_, _, hP _ (R531 _ (retI X0 hx Bd.returns (hb hby d6_24) hr)), hrun, hended, _, _, rfl, ⟨rfl, N0, e0⟩, ⟨_, rfl⟩, hW, hsame.mono (by decide) (by decide)⟩
def Q_cpos50_ (Z : State) (a : Addr) (ka : ClassId) (v0 : Int32) (v1 : Int32) (v2 : Int32) (v3 : Int32) (v4 : Int32) (h0 : Heap) (n0 : Nat) (rv_ : Option Value) (rh_ : Heap) (rL_ : List Loc) : Prop := (rv_ = some (.int 0)) ∧ (Fr n0 rL_) ∧ (rh_ = h0)
set_option maxRecDepth 65536 in
set_option maxHeartbeats 40000000 in
theorem cpos50_ (l : Launch) (Z : State) (a0 : Array Value) (hw : HW Z a0) (ws : List Jvm.Cond) (a : Addr) (ka : ClassId) (v0 : Int32) (v1 : Int32) (v2 : Int32) (v3 : Int32) (v4 : Int32) (h0 : Heap) (n0 : Nat) (O0 : Old Z n0 h0) (P0 : Arv Z h0 a ka .byte (5 : Int32) [(.int v0), (.int v1), (.int v2), (.int v3), (.int v4)] (.int 0)) (P1 : v0 < (0 : Int32)) :
    MetQ l yM30 (Jvm.Cond.code yM30 jdk_123_method_3_code 5 (some .int)) ws (rM 0 0 0 0) Z #[(.ref a), (.int 0), (.int 5)] h0 (Q_cpos50_ Z a ka v0 v1 v2 v3 v4 h0 n0) := by
  refine metQ (plainFor_of_name pn_99309442) hisR (fun m => ef6_RII m a (0 : Int32) (5 : Int32)) ?_
  intro p e s m below meth c s₁ P Bd hx hby hml hZ hown hnm X0 e0 hP R0
  have N0 := Fr.nil n0
  have R532 : Go p e below P s₁ (mkF m 16 #[rV a, iV 0, iV 5, iV 5, iV 0] [(.int 0), (.ref a)]) := fun t_ k_ => R0 t_ (XS.iloadN X0.here hx rfl (hb hby d6_0) rfl (XS.iloadN X0.here hx rfl (hb hby d6_1) rfl (XS.iadd X0.here hx rfl (hb hby d6_2) rfl (XS.istoreN X0.here hx rfl (hb hby d6_3) rfl (l' := #[rV a, iV 0, iV 5, iV 5, uS]) rfl (XS.iloadN X0.here hx rfl (hb hby d6_4) rfl (XS.istore X0.here hx rfl (hb hby d6_5) rfl (l' := #[rV a, iV 0, iV 5, iV 5, iV 0]) rfl (XS.iload X0.here hx rfl (hb hby d6_7) rfl (XS.iloadN X0.here hx rfl (hb hby d6_9) rfl (XS.icmpNo X0.here hx rfl (hb hby d6_10) rfl (tlt (by decide : (0 : Int32) < (5 : Int32))).2.1 (XS.aloadN X0.here hx rfl (hb hby d6_13) rfl rfl (XS.iload X0.here hx rfl (hb hby d6_14) rfl k_)))))))))))
  obtain ⟨cl533, cl533A, cl533q, cl533S, cl533N, cl533H, cl533G⟩ := id P0
  have ib534 := inb_of (j := (0 : Int32)) cl533S ⟨by decide, by decide⟩
  have R535 : Go p e below P s₁ (mkF m 24 #[rV a, iV 0, iV 5, iV 5, iV 0] [(.int 0)]) := fun t_ k_ => R532 t_ (apS (X0.baloadBytes hx (v := (.int v0)) (by rw [e0]; exact cl533A.1) (State.isArrayOf_alike hZ.alike cl533A.2.1) cl533A.2.2 ib534 (cl533H.at ib534 rfl) rfl rfl (hb hby d6_16)) (XS.ifNo X0.here hx rfl (hb hby d6_17) rfl ((if0 _ _).trans (tlt P1).2.1) (XS.iload X0.here hx rfl (hb hby d6_20) rfl (XS.iloadN X0.here hx rfl (hb hby d6_22) rfl (XS.isub X0.here hx rfl (hb hby d6_23) rfl k_)))))
  obtain ⟨fs, hr, hrun, hended, hW, hsame⟩ := X0.leave (v := some (.int 0)) (fun h => by rw [Bd.returns] at h; cases h)
  exact ⟨_, _, hP _ (R535 _ (retI X0 hx Bd.returns (hb hby d6_24) hr)), hrun, hended, _, _, rfl, ⟨rfl, N0, e0⟩, ⟨_, rfl⟩, hW, hsame.mono (by decide) (by decide)⟩
theorem pn_58157509 : plainName "java/util/Arrays" = true := by first | (simp [plainName, overriddenIn]; done) | decide +kernel
theorem ef7_RII (m : MethodId) (x0 : Addr) (x1 : Int32) (x2 : Int32) : entryFrame m #[(.ref x0), (.int x1), (.int x2)] 3 = mkF m 0 #[rV x0, iV x1, iV x2] [] := by first | (simp [entryFrame, mkF, argsToLocals, Value.category]; done) | rfl
theorem d7_0 : decode jdk_65_method_132_code 0 = .ok (.iload_n 1, 1) := by decide +kernel
theorem d7_1 : decode jdk_65_method_132_code 1 = .ok (.ifCond .ne 9, 3) := by decide +kernel
theorem d7_4 : decode jdk_65_method_132_code 4 = .ok (.iload_n 2, 1) := by decide +kernel
theorem d7_5 : decode jdk_65_method_132_code 5 = .ok (.aload_n 0, 1) := by decide +kernel
theorem d7_6 : decode jdk_65_method_132_code 6 = .ok (.arraylength, 1) := by decide +kernel
theorem d7_7 : decode jdk_65_method_132_code 7 = .ok (.if_icmp .eq 10, 3) := by decide +kernel
theorem d7_17 : decode jdk_65_method_132_code 17 = .ok (.aload_n 0, 1) := by decide +kernel
theorem d7_18 : decode jdk_65_method_132_code 18 = .ok (.invokevirtual 310, 3) := by decide +kernel
theorem d7_21 : decode jdk_65_method_132_code 21 = .ok (.checkcast 311, 3) := by decide +kernel
theorem d7_24 : decode jdk_65_method_132_code 24 = .ok (.areturn, 1) := by decide +kernel
def Q_cor2_ (Z : State) (a : Addr) (ka : ClassId) (v0 : Int32) (v1 : Int32) (h0 : Heap) (n0 : Nat) (rv_ : Option Value) (rh_ : Heap) (rL_ : List Loc) : Prop := ∃ b : Addr, ∃ kb : ClassId, (rv_ = some (.ref b)) ∧ (Fr n0 rL_) ∧ (Keep h0 rh_ []) ∧ (h0.size ≤ b) ∧ (Arv Z rh_ b kb .byte (2 : Int32) [(.int v0), (.int v1)] (.int 0))
set_option maxRecDepth 65536 in
set_option maxHeartbeats 40000000 in
theorem cor2_ (l : Launch) (Z : State) (a0 : Array Value) (hw : HW Z a0) (ws : List Jvm.Cond) (a : Addr) (ka : ClassId) (v0 : Int32) (v1 : Int32) (h0 : Heap) (n0 : Nat) (O0 : Old Z n0 h0) (P0 : Arv Z h0 a ka .byte (2 : Int32) [(.int v0), (.int v1)] (.int 0)) (P1 : Exa Z h0 a "[B") :
    MetQ l yM31 (Jvm.Cond.code yM31 jdk_65_method_132_code 3 (some (.array .byte))) ws (rM 1 1 2 14) Z #[(.ref a), (.int 0), (.int 2)] h0 (Q_cor2_ Z a ka v0 v1 h0 n0) := by
  refine metQ (plainFor_of_name pn_58157509) hisR (fun m => ef7_RII m a (0 : Int32) (2 : Int32)) ?_
  intro p e s m below meth c s₁ P Bd hx hby hml hZ hown hnm X0 e0 hP R0
  have N0 := Fr.nil n0
  have R536 : Go p e below P s₁ (mkF m 6 #[rV a, iV 0, iV 2] [(.ref a), (.int 2)]) := fun t_ k_ => R0 t_ (XS.iloadN X0.here hx rfl (hb hby d7_0) rfl (XS.ifNo X0.here hx rfl (hb hby d7_1) rfl ((if0 _ _).trans (teq rfl).2) (XS.iloadN X0.here hx rfl (hb hby d7_4) rfl (XS.aloadN X0.here hx rfl (hb hby d7_5) rfl rfl k_))))
  obtain ⟨cl537, cl537A, -, cl537S, cl537N, -, -⟩ := id P0
  have R538 : Go p e below P s₁ (mkF m 7 #[rV a, iV 0, iV 2] [(.int 2), (.int 2)]) := fun t_ k_ => R536 t_ (X0.arraylength hx (by rw [e0]; exact cl537A.1) (State.isArrayOf_alike hZ.alike cl537A.2.1) (g := (mkF m 6 #[rV a, iV 0, iV 2] [(.ref a), (.int 2)])) rfl rfl (hb hby d7_6) t_ (by rw [len_of cl537S cl537N]; exact k_))
  have R539 : Go p e below P s₁ (mkF m 18 #[rV a, iV 0, iV 2] [(.ref a)]) := fun t_ k_ => R538 t_ (XS.icmpYes X0.here hx rfl (pc0 := 7) (pc' := 17) rfl (hb hby d7_7) rfl (teq rfl).1 (by decide) (by decide) (XS.aloadN X0.here hx rfl (hb hby d7_17) rfl rfl k_))
  obtain ⟨T540, h540, X540, e540, E540, V540, Ex540, st540⟩ := cloneV X0 hx hZ hown (hwI hw 40 rfl) (mvId (hwI hw 41 rfl)) (hwI hw 45 rfl) (hwI hw 43 rfl) (hwI hw 44 rfl) (hwI hw 46 rfl) e0 P0 P1 (g := (mkF m 18 #[rV a, iV 0, iV 2] [(.ref a)])) rfl (by rw [hml]; rfl) rfl (hb hby d7_18) (by decide) (W := 0) (cap := 2) (by show 2 * 0 + _ ≤ _; exact Nat.le_of_eq rfl) (by decide) (by decide) (by decide) (by decide)
  obtain ⟨b540, g540⟩ : ∃ z, z = h0.size := ⟨_, rfl⟩
  rw [← g540] at V540 Ex540 st540
  have O540 := O0.ext E540
  have R541 : Go p e below P T540 (mkF m 21 #[rV a, iV 0, iV 2] [(.ref b540)]) := fun t_ k_ => R539 t_ (st540 t_ k_)
  obtain ⟨T542, X542, e542, st542⟩ := castY X540 hx hZ hown (hwI hw 47 rfl) e540 (Ins.self Ex540) (g := (mkF m 21 #[rV a, iV 0, iV 2] [(.ref b540)])) rfl rfl (hb hby d7_21)
  have R543 : Go p e below P T542 (mkF m 24 #[rV a, iV 0, iV 2] [(.ref b540)]) := fun t_ k_ => R541 t_ (st542 t_ k_)
  obtain ⟨fs, hr, hrun, hended, hW, hsame⟩ := X542.leave (v := some (.ref b540)) (fun h => by rw [Bd.returns] at h; cases h)
  exact ⟨_, _, hP _ (R543 _ (retOut X542 hx Bd.returns rfl (Or.inr (Or.inr (Or.inr (Or.inr ⟨rfl, rfl, rfl⟩)))) (hb hby d7_24) hr)), hrun, hended, _, _, rfl, ⟨b540, ka, rfl, N0, (e542.symm ▸ ((Keep.refl h0 []).ext E540)), (Nat.le_of_eq g540.symm), (e542.symm ▸ V540)⟩, ⟨_, rfl⟩, hW, hsame.mono (by decide) (by decide)⟩
def Q_cor3_ (Z : State) (a : Addr) (ka : ClassId) (v0 : Int32) (v1 : Int32) (v2 : Int32) (h0 : Heap) (n0 : Nat) (rv_ : Option Value) (rh_ : Heap) (rL_ : List Loc) : Prop := ∃ b : Addr, ∃ kb : ClassId, (rv_ = some (.ref b)) ∧ (Fr n0 rL_) ∧ (Keep h0 rh_ []) ∧ (h0.size ≤ b) ∧ (Arv Z rh_ b kb .byte (3 : Int32) [(.int v0), (.int v1), (.int v2)] (.int 0))
set_option maxRecDepth 65536 in
set_option maxHeartbeats 40000000 in
theorem cor3_ (l : Launch) (Z : State) (a0 : Array Value) (hw : HW Z a0) (ws : List Jvm.Cond) (a : Addr) (ka : ClassId) (v0 : Int32) (v1 : Int32) (v2 : Int32) (h0 : Heap) (n0 : Nat) (O0 : Old Z n0 h0) (P0 : Arv Z h0 a ka .byte (3 : Int32) [(.int v0), (.int v1), (.int v2)] (.int 0)) (P1 : Exa Z h0 a "[B") :
    MetQ l yM31 (Jvm.Cond.code yM31 jdk_65_method_132_code 3 (some (.array .byte))) ws (rM 1 1 3 14) Z #[(.ref a), (.int 0), (.int 3)] h0 (Q_cor3_ Z a ka v0 v1 v2 h0 n0) := by
  refine metQ (plainFor_of_name pn_58157509) hisR (fun m => ef7_RII m a (0 : Int32) (3 : Int32)) ?_
  intro p e s m below meth c s₁ P Bd hx hby hml hZ hown hnm X0 e0 hP R0
  have N0 := Fr.nil n0
  have R544 : Go p e below P s₁ (mkF m 6 #[rV a, iV 0, iV 3] [(.ref a), (.int 3)]) := fun t_ k_ => R0 t_ (XS.iloadN X0.here hx rfl (hb hby d7_0) rfl (XS.ifNo X0.here hx rfl (hb hby d7_1) rfl ((if0 _ _).trans (teq rfl).2) (XS.iloadN X0.here hx rfl (hb hby d7_4) rfl (XS.aloadN X0.here hx rfl (hb hby d7_5) rfl rfl k_))))
  obtain ⟨cl545, cl545A, -, cl545S, cl545N, -, -⟩ := id P0
  have R546 : Go p e below P s₁ (mkF m 7 #[rV a, iV 0, iV 3] [(.int 3), (.int 3)]) := fun t_ k_ => R544 t_ (X0.arraylength hx (by rw [e0]; exact cl545A.1) (State.isArrayOf_alike hZ.alike cl545A.2.1) (g := (mkF m 6 #[rV a, iV 0, iV 3] [(.ref a), (.int 3)])) rfl rfl (hb hby d7_6) t_ (by rw [len_of cl545S cl545N]; exact k_))
  have R547 : Go p e below P s₁ (mkF m 18 #[rV a, iV 0, iV 3] [(.ref a)]) := fun t_ k_ => R546 t_ (XS.icmpYes X0.here hx rfl (pc0 := 7) (pc' := 17) rfl (hb hby d7_7) rfl (teq rfl).1 (by decide) (by decide) (XS.aloadN X0.here hx rfl (hb hby d7_17) rfl rfl k_))
  obtain ⟨T548, h548, X548, e548, E548, V548, Ex548, st548⟩ := cloneV X0 hx hZ hown (hwI hw 40 rfl) (mvId (hwI hw 41 rfl)) (hwI hw 45 rfl) (hwI hw 43 rfl) (hwI hw 44 rfl) (hwI hw 46 rfl) e0 P0 P1 (g := (mkF m 18 #[rV a, iV 0, iV 3] [(.ref a)])) rfl (by rw [hml]; rfl) rfl (hb hby d7_18) (by decide) (W := 0) (cap := 3) (by show 2 * 0 + _ ≤ _; exact Nat.le_of_eq rfl) (by decide) (by decide) (by decide) (by decide)
  obtain ⟨b548, g548⟩ : ∃ z, z = h0.size := ⟨_, rfl⟩
  rw [← g548] at V548 Ex548 st548
  have O548 := O0.ext E548
  have R549 : Go p e below P T548 (mkF m 21 #[rV a, iV 0, iV 3] [(.ref b548)]) := fun t_ k_ => R547 t_ (st548 t_ k_)
  obtain ⟨T550, X550, e550, st550⟩ := castY X548 hx hZ hown (hwI hw 47 rfl) e548 (Ins.self Ex548) (g := (mkF m 21 #[rV a, iV 0, iV 3] [(.ref b548)])) rfl rfl (hb hby d7_21)
  have R551 : Go p e below P T550 (mkF m 24 #[rV a, iV 0, iV 3] [(.ref b548)]) := fun t_ k_ => R549 t_ (st550 t_ k_)
  obtain ⟨fs, hr, hrun, hended, hW, hsame⟩ := X550.leave (v := some (.ref b548)) (fun h => by rw [Bd.returns] at h; cases h)
  exact ⟨_, _, hP _ (R551 _ (retOut X550 hx Bd.returns rfl (Or.inr (Or.inr (Or.inr (Or.inr ⟨rfl, rfl, rfl⟩)))) (hb hby d7_24) hr)), hrun, hended, _, _, rfl, ⟨b548, ka, rfl, N0, (e550.symm ▸ ((Keep.refl h0 []).ext E548)), (Nat.le_of_eq g548.symm), (e550.symm ▸ V548)⟩, ⟨_, rfl⟩, hW, hsame.mono (by decide) (by decide)⟩
def Q_cor4_ (Z : State) (a : Addr) (ka : ClassId) (v0 : Int32) (v1 : Int32) (v2 : Int32) (v3 : Int32) (h0 : Heap) (n0 : Nat) (rv_ : Option Value) (rh_ : Heap) (rL_ : List Loc) : Prop := ∃ b : Addr, ∃ kb : ClassId, (rv_ = some (.ref b)) ∧ (Fr n0 rL_) ∧ (Keep h0 rh_ []) ∧ (h0.size ≤ b) ∧ (Arv Z rh_ b kb .byte (4 : Int32) [(.int v0), (.int v1), (.int v2), (.int v3)] (.int 0))
set_option maxRecDepth 65536 in
set_option maxHeartbeats 40000000 in
theorem cor4_ (l : Launch) (Z : State) (a0 : Array Value) (hw : HW Z a0) (ws : List Jvm.Cond) (a : Addr) (ka : ClassId) (v0 : Int32) (v1 : Int32) (v2 : Int32) (v3 : Int32) (h0 : Heap) (n0 : Nat) (O0 : Old Z n0 h0) (P0 : Arv Z h0 a ka .byte (4 : Int32) [(.int v0), (.int v1), (.int v2), (.int v3)] (.int 0)) (P1 : Exa Z h0 a "[B") :
    MetQ l yM31 (Jvm.Cond.code yM31 jdk_65_method_132_code 3 (some (.array .byte))) ws (rM 1 1 4 14) Z #[(.ref a), (.int 0), (.int 4)] h0 (Q_cor4_ Z a ka v0 v1 v2 v3 h0 n0) := by
  refine metQ (plainFor_of_name pn_58157509) hisR (fun m => ef7_RII m a (0 : Int32) (4 : Int32)) ?_
  intro p e s m below meth c s₁ P Bd hx hby hml hZ hown hnm X0 e0 hP R0
  have N0 := Fr.nil n0
  have R552 : Go p e below P s₁ (mkF m 6 #[rV a, iV 0, iV 4] [(.ref a), (.int 4)]) := fun t_ k_ => R0 t_ (XS.iloadN X0.here hx rfl (hb hby d7_0) rfl (XS.ifNo X0.here hx rfl (hb hby d7_1) rfl ((if0 _ _).trans (teq rfl).2) (XS.iloadN X0.here hx rfl (hb hby d7_4) rfl (XS.aloadN X0.here hx rfl (hb hby d7_5) rfl rfl k_))))
  obtain ⟨cl553, cl553A, -, cl553S, cl553N, -, -⟩ := id P0
  have R554 : Go p e below P s₁ (mkF m 7 #[rV a, iV 0, iV 4] [(.int 4), (.int 4)]) := fun t_ k_ => R552 t_ (X0.arraylength hx (by rw [e0]; exact cl553A.1) (State.isArrayOf_alike hZ.alike cl553A.2.1) (g := (mkF m 6 #[rV a, iV 0, iV 4] [(.ref a), (.int 4)])) rfl rfl (hb hby d7_6) t_ (by rw [len_of cl553S cl553N]; exact k_))
  have R555 : Go p e below P s₁ (mkF m 18 #[rV a, iV 0, iV 4] [(.ref a)]) := fun t_ k_ => R554 t_ (XS.icmpYes X0.here hx rfl (pc0 := 7) (pc' := 17) rfl (hb hby d7_7) rfl (teq rfl).1 (by decide) (by decide) (XS.aloadN X0.here hx rfl (hb hby d7_17) rfl rfl k_))
  obtain ⟨T556, h556, X556, e556, E556, V556, Ex556, st556⟩ := cloneV X0 hx hZ hown (hwI hw 40 rfl) (mvId (hwI hw 41 rfl)) (hwI hw 45 rfl) (hwI hw 43 rfl) (hwI hw 44 rfl) (hwI hw 46 rfl) e0 P0 P1 (g := (mkF m 18 #[rV a, iV 0, iV 4] [(.ref a)])) rfl (by rw [hml]; rfl) rfl (hb hby d7_18) (by decide) (W := 0) (cap := 4) (by show 2 * 0 + _ ≤ _; exact Nat.le_of_eq rfl) (by decide) (by decide) (by decide) (by decide)
  obtain ⟨b556, g556⟩ : ∃ z, z = h0.size := ⟨_, rfl⟩
  rw [← g556] at V556 Ex556 st556
  have O556 := O0.ext E556
  have R557 : Go p e below P T556 (mkF m 21 #[rV a, iV 0, iV 4] [(.ref b556)]) := fun t_ k_ => R555 t_ (st556 t_ k_)
  obtain ⟨T558, X558, e558, st558⟩ := castY X556 hx hZ hown (hwI hw 47 rfl) e556 (Ins.self Ex556) (g := (mkF m 21 #[rV a, iV 0, iV 4] [(.ref b556)])) rfl rfl (hb hby d7_21)
  have R559 : Go p e below P T558 (mkF m 24 #[rV a, iV 0, iV 4] [(.ref b556)]) := fun t_ k_ => R557 t_ (st558 t_ k_)
  obtain ⟨fs, hr, hrun, hended, hW, hsame⟩ := X558.leave (v := some (.ref b556)) (fun h => by rw [Bd.returns] at h; cases h)
  exact ⟨_, _, hP _ (R559 _ (retOut X558 hx Bd.returns rfl (Or.inr (Or.inr (Or.inr (Or.inr ⟨rfl, rfl, rfl⟩)))) (hb hby d7_24) hr)), hrun, hended, _, _, rfl, ⟨b556, ka, rfl, N0, (e558.symm ▸ ((Keep.refl h0 []).ext E556)), (Nat.le_of_eq g556.symm), (e558.symm ▸ V556)⟩, ⟨_, rfl⟩, hW, hsame.mono (by decide) (by decide)⟩
def Q_cor5_ (Z : State) (a : Addr) (ka : ClassId) (v0 : Int32) (v1 : Int32) (v2 : Int32) (v3 : Int32) (v4 : Int32) (h0 : Heap) (n0 : Nat) (rv_ : Option Value) (rh_ : Heap) (rL_ : List Loc) : Prop := ∃ b : Addr, ∃ kb : ClassId, (rv_ = some (.ref b)) ∧ (Fr n0 rL_) ∧ (Keep h0 rh_ []) ∧ (h0.size ≤ b) ∧ (Arv Z rh_ b kb .byte (5 : Int32) [(.int v0), (.int v1), (.int v2), (.int v3), (.int v4)] (.int 0))
set_option maxRecDepth 65536 in
set_option maxHeartbeats 40000000 in
theorem cor5_ (l : Launch) (Z : State) (a0 : Array Value) (hw : HW Z a0) (ws : List Jvm.Cond) (a : Addr) (ka : ClassId) (v0 : Int32) (v1 : Int32) (v2 : Int32) (v3 : Int32) (v4 : Int32) (h0 : Heap) (n0 : Nat) (O0 : Old Z n0 h0) (P0 : Arv Z h0 a ka .byte (5 : Int32) [(.int v0), (.int v1), (.int v2), (.int v3), (.int v4)] (.int 0)) (P1 : Exa Z h0 a "[B") :
    MetQ l yM31 (Jvm.Cond.code yM31 jdk_65_method_132_code 3 (some (.array .byte))) ws (rM 1 1 5 14) Z #[(.ref a), (.int 0), (.int 5)] h0 (Q_cor5_ Z a ka v0 v1 v2 v3 v4 h0 n0) := by
  refine metQ (plainFor_of_name pn_58157509) hisR (fun m => ef7_RII m a (0 : Int32) (5 : Int32)) ?_
  intro p e s m below meth c s₁ P Bd hx hby hml hZ hown hnm X0 e0 hP R0
  have N0 := Fr.nil n0
  have R560 : Go p e below P s₁ (mkF m 6 #[rV a, iV 0, iV 5] [(.ref a), (.int 5)]) := fun t_ k_ => R0 t_ (XS.iloadN X0.here hx rfl (hb hby d7_0) rfl (XS.ifNo X0.here hx rfl (hb hby d7_1) rfl ((if0 _ _).trans (teq rfl).2) (XS.iloadN X0.here hx rfl (hb hby d7_4) rfl (XS.aloadN X0.here hx rfl (hb hby d7_5) rfl rfl k_))))
  obtain ⟨cl561, cl561A, -, cl561S, cl561N, -, -⟩ := id P0
  have R562 : Go p e below P s₁ (mkF m 7 #[rV a, iV 0, iV 5] [(.int 5), (.int 5)]) := fun t_ k_ => R560 t_ (X0.arraylength hx (by rw [e0]; exact cl561A.1) (State.isArrayOf_alike hZ.alike cl561A.2.1) (g := (mkF m 6 #[rV a, iV 0, iV 5] [(.ref a), (.int 5)])) rfl rfl (hb hby d7_6) t_ (by rw [len_of cl561S cl561N]; exact k_))
  have R563 : Go p e below P s₁ (mkF m 18 #[rV a, iV 0, iV 5] [(.ref a)]) := fun t_ k_ => R562 t_ (XS.icmpYes X0.here hx rfl (pc0 := 7) (pc' := 17) rfl (hb hby d7_7) rfl (teq rfl).1 (by decide) (by decide) (XS.aloadN X0.here hx rfl (hb hby d7_17) rfl rfl k_))
  obtain ⟨T564, h564, X564, e564, E564, V564, Ex564, st564⟩ := cloneV X0 hx hZ hown (hwI hw 40 rfl) (mvId (hwI hw 41 rfl)) (hwI hw 45 rfl) (hwI hw 43 rfl) (hwI hw 44 rfl) (hwI hw 46 rfl) e0 P0 P1 (g := (mkF m 18 #[rV a, iV 0, iV 5] [(.ref a)])) rfl (by rw [hml]; rfl) rfl (hb hby d7_18) (by decide) (W := 0) (cap := 5) (by show 2 * 0 + _ ≤ _; exact Nat.le_of_eq rfl) (by decide) (by decide) (by decide) (by decide)
  obtain ⟨b564, g564⟩ : ∃ z, z = h0.size := ⟨_, rfl⟩
  rw [← g564] at V564 Ex564 st564
  have O564 := O0.ext E564
  have R565 : Go p e below P T564 (mkF m 21 #[rV a, iV 0, iV 5] [(.ref b564)]) := fun t_ k_ => R563 t_ (st564 t_ k_)
  obtain ⟨T566, X566, e566, st566⟩ := castY X564 hx hZ hown (hwI hw 47 rfl) e564 (Ins.self Ex564) (g := (mkF m 21 #[rV a, iV 0, iV 5] [(.ref b564)])) rfl rfl (hb hby d7_21)
  have R567 : Go p e below P T566 (mkF m 24 #[rV a, iV 0, iV 5] [(.ref b564)]) := fun t_ k_ => R565 t_ (st566 t_ k_)
  obtain ⟨fs, hr, hrun, hended, hW, hsame⟩ := X566.leave (v := some (.ref b564)) (fun h => by rw [Bd.returns] at h; cases h)
  exact ⟨_, _, hP _ (R567 _ (retOut X566 hx Bd.returns rfl (Or.inr (Or.inr (Or.inr (Or.inr ⟨rfl, rfl, rfl⟩)))) (hb hby d7_24) hr)), hrun, hended, _, _, rfl, ⟨b564, ka, rfl, N0, (e566.symm ▸ ((Keep.refl h0 []).ext E564)), (Nat.le_of_eq g564.symm), (e566.symm ▸ V564)⟩, ⟨_, rfl⟩, hW, hsame.mono (by decide) (by decide)⟩
theorem ef33_RI (m : MethodId) (x0 : Addr) (x1 : Int32) : entryFrame m #[(.ref x0), (.int x1)] 3 = mkF m 0 #[rV x0, iV x1, uS] [] := by first | (simp [entryFrame, mkF, argsToLocals, Value.category]; done) | rfl
theorem d33_0 : decode jdk_65_method_121_code 0 = .ok (.iload_n 1, 1) := by decide +kernel
theorem d33_1 : decode jdk_65_method_121_code 1 = .ok (.aload_n 0, 1) := by decide +kernel
theorem d33_2 : decode jdk_65_method_121_code 2 = .ok (.arraylength, 1) := by decide +kernel
theorem d33_3 : decode jdk_65_method_121_code 3 = .ok (.if_icmp .ne 11, 3) := by decide +kernel
theorem d33_14 : decode jdk_65_method_121_code 14 = .ok (.iload_n 1, 1) := by decide +kernel
theorem d33_15 : decode jdk_65_method_121_code 15 = .ok (.newarray .byte, 2) := by decide +kernel
theorem d33_17 : decode jdk_65_method_121_code 17 = .ok (.astore_n 2, 1) := by decide +kernel
theorem d33_18 : decode jdk_65_method_121_code 18 = .ok (.aload_n 0, 1) := by decide +kernel
theorem d33_19 : decode jdk_65_method_121_code 19 = .ok (.iconst 0, 1) := by decide +kernel
theorem d33_20 : decode jdk_65_method_121_code 20 = .ok (.aload_n 2, 1) := by decide +kernel
theorem d33_21 : decode jdk_65_method_121_code 21 = .ok (.iconst 0, 1) := by decide +kernel
theorem d33_22 : decode jdk_65_method_121_code 22 = .ok (.aload_n 0, 1) := by decide +kernel
theorem d33_23 : decode jdk_65_method_121_code 23 = .ok (.arraylength, 1) := by decide +kernel
theorem d33_24 : decode jdk_65_method_121_code 24 = .ok (.iload_n 1, 1) := by decide +kernel
theorem d33_25 : decode jdk_65_method_121_code 25 = .ok (.invokestatic 304, 3) := by decide +kernel
theorem pd_1793237 : parseMethodDescriptor "(II)I" = some ⟨[.int, .int], some .int⟩ := by decide +kernel
theorem d33_28 : decode jdk_65_method_121_code 28 = .ok (.invokestatic 150, 3) := by decide +kernel
theorem d33_31 : decode jdk_65_method_121_code 31 = .ok (.aload_n 2, 1) := by decide +kernel
theorem d33_32 : decode jdk_65_method_121_code 32 = .ok (.areturn, 1) := by decide +kernel
def Q_copy3_2_ (Z : State) (a : Addr) (ka : ClassId) (v0 : Int32) (v1 : Int32) (v2 : Int32) (h0 : Heap) (n0 : Nat) (rv_ : Option Value) (rh_ : Heap) (rL_ : List Loc) : Prop := ∃ b : Addr, ∃ kb : ClassId, (rv_ = some (.ref b)) ∧ (Fr n0 rL_) ∧ (Keep h0 rh_ []) ∧ (h0.size ≤ b) ∧ (Arv Z rh_ b kb .byte (2 : Int32) [(.int v0), (.int v1)] (.int 0))
set_option maxRecDepth 65536 in
set_option maxHeartbeats 40000000 in
theorem copy3_2_ (l : Launch) (Z : State) (a0 : Array Value) (hw : HW Z a0) (ws : List Jvm.Cond) (a : Addr) (ka : ClassId) (v0 : Int32) (v1 : Int32) (v2 : Int32) (h0 : Heap) (n0 : Nat) (O0 : Old Z n0 h0) (P0 : Arv Z h0 a ka .byte (3 : Int32) [(.int v0), (.int v1), (.int v2)] (.int 0)) :
    MetQ l yM32 (Jvm.Cond.code yM32 jdk_65_method_121_code 3 (some (.array .byte))) ws (rM 1 1 2 18) Z #[(.ref a), (.int 2)] h0 (Q_copy3_2_ Z a ka v0 v1 v2 h0 n0) := by
  refine metQ (plainFor_of_name pn_58157509) hisR (fun m => ef33_RI m a (2 : Int32)) ?_
  intro p e s m below meth c s₁ P Bd hx hby hml hZ hown hnm X0 e0 hP R0
  have N0 := Fr.nil n0
  have R568 : Go p e below P s₁ (mkF m 2 #[rV a, iV 2, uS] [(.ref a), (.int 2)]) := fun t_ k_ => R0 t_ (XS.iloadN X0.here hx rfl (hb hby d33_0) rfl (XS.aloadN X0.here hx rfl (hb hby d33_1) rfl rfl k_))
  obtain ⟨cl569, cl569A, -, cl569S, cl569N, -, -⟩ := id P0
  have R570 : Go p e below P s₁ (mkF m 3 #[rV a, iV 2, uS] [(.int 3), (.int 2)]) := fun t_ k_ => R568 t_ (X0.arraylength hx (by rw [e0]; exact cl569A.1) (State.isArrayOf_alike hZ.alike cl569A.2.1) (g := (mkF m 2 #[rV a, iV 2, uS] [(.ref a), (.int 2)])) rfl rfl (hb hby d33_2) t_ (by rw [len_of cl569S cl569N]; exact k_))
  obtain ⟨T571, h571, k571, X571, e571, E571, A571, st571⟩ := newP X0 hx hZ (hwI hw 3 rfl) e0 (g := (mkF m 15 #[rV a, iV 2, uS] [(.int 2)])) rfl (hb hby d33_15) rfl (by decide) (cap := 2) (by decide) (by decide) (by decide) (by decide)
  obtain ⟨b571, g571⟩ : ∃ z, z = h0.size := ⟨_, rfl⟩
  rw [← g571] at A571 st571
  have O571 := O0.ext E571
  have V571 : Arv Z h571 b571 k571 .byte (2 : Int32) [(.int 0), (.int 0)] (.int 0) := (Arv.new A571 (by decide)).pad (pad_rep [] (.int 0) 2)
  have R572 : Go p e below P T571 (mkF m 23 #[rV a, iV 2, rV b571] [(.ref a), (.int 0), (.ref b571), (.int 0), (.ref a)]) := fun t_ k_ => R570 t_ (XS.icmpYes X0.here hx rfl (pc0 := 3) (pc' := 14) rfl (hb hby d33_3) rfl (feq (by decide : ¬ ((2 : Int32) = (3 : Int32)))).2 (by decide) (by decide) (XS.iloadN X0.here hx rfl (hb hby d33_14) rfl (st571 t_ (XS.astoreN X571.here hx rfl (hb hby d33_17) rfl rfl (l' := #[rV a, iV 2, rV b571]) rfl (XS.aloadN X571.here hx rfl (hb hby d33_18) rfl rfl (XS.iconst X571.here hx rfl (hb hby d33_19) (XS.aloadN X571.here hx rfl (hb hby d33_20) rfl rfl (XS.iconst X571.here hx rfl (hb hby d33_21) (XS.aloadN X571.here hx rfl (hb hby d33_22) rfl rfl k_)))))))))
  have f573 := (P0.ext E571)
  obtain ⟨cl574, cl574A, -, cl574S, cl574N, -, -⟩ := id f573
  have R575 : Go p e below P T571 (mkF m 24 #[rV a, iV 2, rV b571] [(.int 3), (.int 0), (.ref b571), (.int 0), (.ref a)]) := fun t_ k_ => R572 t_ (X571.arraylength hx (by rw [e571]; exact cl574A.1) (State.isArrayOf_alike hZ.alike cl574A.2.1) (g := (mkF m 23 #[rV a, iV 2, rV b571] [(.ref a), (.int 0), (.ref b571), (.int 0), (.ref a)])) rfl rfl (hb hby d33_23) t_ (by rw [len_of cl574S cl574N]; exact k_))
  have R576 : Go p e below P T571 (mkF m 25 #[rV a, iV 2, rV b571] [(.int 2), (.int 3), (.int 0), (.ref b571), (.int 0), (.ref a)]) := fun t_ k_ => R575 t_ (XS.iloadN X571.here hx rfl (hb hby d33_24) rfl k_)
  obtain ⟨rv577, T577, Lc577, X577, hQ577, R577⟩ := callQ X571 hx hZ hown e571 R576 (min_ l Z a0 hw [] (3 : Int32) (2 : Int32) (2 : Int32) h571 n0 O571 (by decide)) (hwI hw 159 rfl) (hwI hw 160 rfl) (hwI hw 161 rfl) (hwI hw 162 rfl) [(.int 0), (.ref b571), (.int 0), (.ref a)] rfl (by rw [hml]; rfl) (lenOf pd_1793237 rfl) rfl (W := 4) (wR rfl) (hb hby d33_25)
  obtain ⟨rfl, N577q, K577⟩ := hQ577
  have N577 := Fr.app N0 N577q
  obtain ⟨T578, h578, L578, X578, e578, N578, K578, V578, st578⟩ := cpA X577 hx hZ hown (hwI hw 163 rfl) (hwI hw 166 rfl) (hwI hw 164 rfl) (hwI hw 165 rfl) K577 (us := [(.int v0), (.int v1)]) f573 V571 (Or.inl ⟨rfl, rfl⟩) (by decide) (by decide) (by decide) (by decide) (by decide) rfl (by decide) N577 (Nat.le_trans (oldLe O0) (Nat.le_of_eq g571.symm)) (g := (mkF m 28 #[rV a, iV 2, rV b571] [(.int 2), (.int 0), (.ref b571), (.int 0), (.ref a)])) rfl (by rw [hml]; rfl) rfl (hb hby d33_28) (by decide) (W := 0) (by show 2 * 0 + _ ≤ _; exact Nat.le_of_eq rfl) (by decide)
  have O578 := O571.keep K578 (allS (Nat.le_trans (oldLe O0) (Nat.le_of_eq g571.symm)) all0)
  have Vc578 : Arv Z h578 b571 k571 .byte (2 : Int32) [(.int v0), (.int v1)] (.int 0) := V578
  have R579 : Go p e below P T578 (mkF m 32 #[rV a, iV 2, rV b571] [(.ref b571)]) := fun t_ k_ => R577 t_ (st578 t_ (XS.aloadN X578.here hx rfl (hb hby d33_31) rfl rfl k_))
  obtain ⟨fs, hr, hrun, hended, hW, hsame⟩ := X578.leave (v := some (.ref b571)) (fun h => by rw [Bd.returns] at h; cases h)
  exact ⟨_, _, hP _ (R579 _ (retOut X578 hx Bd.returns rfl (Or.inr (Or.inr (Or.inr (Or.inr ⟨rfl, rfl, rfl⟩)))) (hb hby d33_32) hr)), hrun, hended, _, _, rfl, ⟨b571, k571, rfl, N578, (e578.symm ▸ (((Keep.refl h0 []).ext E571).trans K578 (allS (Or.inr (Nat.le_of_eq g571.symm)) all0))), (Nat.le_of_eq g571.symm), (e578.symm ▸ Vc578)⟩, ⟨_, rfl⟩, hW, hsame.mono (by decide) (by decide)⟩
def Q_copy6_4_ (Z : State) (a : Addr) (ka : ClassId) (v0 : Int32) (v1 : Int32) (v2 : Int32) (v3 : Int32) (v4 : Int32) (v5 : Int32) (h0 : Heap) (n0 : Nat) (rv_ : Option Value) (rh_ : Heap) (rL_ : List Loc) : Prop := ∃ b : Addr, ∃ kb : ClassId, (rv_ = some (.ref b)) ∧ (Fr n0 rL_) ∧ (Keep h0 rh_ []) ∧ (h0.size ≤ b) ∧ (Arv Z rh_ b kb .byte (4 : Int32) [(.int v0), (.int v1), (.int v2), (.int v3)] (.int 0))
set_option maxRecDepth 65536 in
set_option maxHeartbeats 40000000 in
theorem copy6_4_ (l : Launch) (Z : State) (a0 : Array Value) (hw : HW Z a0) (ws : List Jvm.Cond) (a : Addr) (ka : ClassId) (v0 : Int32) (v1 : Int32) (v2 : Int32) (v3 : Int32) (v4 : Int32) (v5 : Int32) (h0 : Heap) (n0 : Nat) (O0 : Old Z n0 h0) (P0 : Arv Z h0 a ka .byte (6 : Int32) [(.int v0), (.int v1), (.int v2), (.int v3), (.int v4), (.int v5)] (.int 0)) :
    MetQ l yM32 (Jvm.Cond.code yM32 jdk_65_method_121_code 3 (some (.array .byte))) ws (rM 1 1 4 18) Z #[(.ref a), (.int 4)] h0 (Q_copy6_4_ Z a ka v0 v1 v2 v3 v4 v5 h0 n0) := by
  refine metQ (plainFor_of_name pn_58157509) hisR (fun m => ef33_RI m a (4 : Int32)) ?_
  intro p e s m below meth c s₁ P Bd hx hby hml hZ hown hnm X0 e0 hP R0
  have N0 := Fr.nil n0
  have R580 : Go p e below P s₁ (mkF m 2 #[rV a, iV 4, uS] [(.ref a), (.int 4)]) := fun t_ k_ => R0 t_ (XS.iloadN X0.here hx rfl (hb hby d33_0) rfl (XS.aloadN X0.here hx rfl (hb hby d33_1) rfl rfl k_))
  obtain ⟨cl581, cl581A, -, cl581S, cl581N, -, -⟩ := id P0
  have R582 : Go p e below P s₁ (mkF m 3 #[rV a, iV 4, uS] [(.int 6), (.int 4)]) := fun t_ k_ => R580 t_ (X0.arraylength hx (by rw [e0]; exact cl581A.1) (State.isArrayOf_alike hZ.alike cl581A.2.1) (g := (mkF m 2 #[rV a, iV 4, uS] [(.ref a), (.int 4)])) rfl rfl (hb hby d33_2) t_ (by rw [len_of cl581S cl581N]; exact k_))
  obtain ⟨T583, h583, k583, X583, e583, E583, A583, st583⟩ := newP X0 hx hZ (hwI hw 3 rfl) e0 (g := (mkF m 15 #[rV a, iV 4, uS] [(.int 4)])) rfl (hb hby d33_15) rfl (by decide) (cap := 4) (by decide) (by decide) (by decide) (by decide)
  obtain ⟨b583, g583⟩ : ∃ z, z = h0.size := ⟨_, rfl⟩
  rw [← g583] at A583 st583
  have O583 := O0.ext E583
  have V583 : Arv Z h583 b583 k583 .byte (4 : Int32) [(.int 0), (.int 0), (.int 0), (.int 0)] (.int 0) := (Arv.new A583 (by decide)).pad (pad_rep [] (.int 0) 4)
  have R584 : Go p e below P T583 (mkF m 23 #[rV a, iV 4, rV b583] [(.ref a), (.int 0), (.ref b583), (.int 0), (.ref a)]) := fun t_ k_ => R582 t_ (XS.icmpYes X0.here hx rfl (pc0 := 3) (pc' := 14) rfl (hb hby d33_3) rfl (feq (by decide : ¬ ((4 : Int32) = (6 : Int32)))).2 (by decide) (by decide) (XS.iloadN X0.here hx rfl (hb hby d33_14) rfl (st583 t_ (XS.astoreN X583.here hx rfl (hb hby d33_17) rfl rfl (l' := #[rV a, iV 4, rV b583]) rfl (XS.aloadN X583.here hx rfl (hb hby d33_18) rfl rfl (XS.iconst X583.here hx rfl (hb hby d33_19) (XS.aloadN X583.here hx rfl (hb hby d33_20) rfl rfl (XS.iconst X583.here hx rfl (hb hby d33_21) (XS.aloadN X583.here hx rfl (hb hby d33_22) rfl rfl k_)))))))))
  have f585 := (P0.ext E583)
  obtain ⟨cl586, cl586A, -, cl586S, cl586N, -, -⟩ := id f585
  have R587 : Go p e below P T583 (mkF m 24 #[rV a, iV 4, rV b583] [(.int 6), (.int 0), (.ref b583), (.int 0), (.ref a)]) := fun t_ k_ => R584 t_ (X583.arraylength hx (by rw [e583]; exact cl586A.1) (State.isArrayOf_alike hZ.alike cl586A.2.1) (g := (mkF m 23 #[rV a, iV 4, rV b583] [(.ref a), (.int 0), (.ref b583), (.int 0), (.ref a)])) rfl rfl (hb hby d33_23) t_ (by rw [len_of cl586S cl586N]; exact k_))
  have R588 : Go p e below P T583 (mkF m 25 #[rV a, iV 4, rV b583] [(.int 4), (.int 6), (.int 0), (.ref b583), (.int 0), (.ref a)]) := fun t_ k_ => R587 t_ (XS.iloadN X583.here hx rfl (hb hby d33_24) rfl k_)
  obtain ⟨rv589, T589, Lc589, X589, hQ589, R589⟩ := callQ X583 hx hZ hown e583 R588 (min_ l Z a0 hw [] (6 : Int32) (4 : Int32) (4 : Int32) h583 n0 O583 (by decide)) (hwI hw 159 rfl) (hwI hw 160 rfl) (hwI hw 161 rfl) (hwI hw 162 rfl) [(.int 0), (.ref b583), (.int 0), (.ref a)] rfl (by rw [hml]; rfl) (lenOf pd_1793237 rfl) rfl (W := 4) (wR rfl) (hb hby d33_25)
  obtain ⟨rfl, N589q, K589⟩ := hQ589
  have N589 := Fr.app N0 N589q
  obtain ⟨T590, h590, L590, X590, e590, N590, K590, V590, st590⟩ := cpA X589 hx hZ hown (hwI hw 163 rfl) (hwI hw 166 rfl) (hwI hw 164 rfl) (hwI hw 165 rfl) K589 (us := [(.int v0), (.int v1), (.int v2), (.int v3)]) f585 V583 (Or.inl ⟨rfl, rfl⟩) (by decide) (by decide) (by decide) (by decide) (by decide) rfl (by decide) N589 (Nat.le_trans (oldLe O0) (Nat.le_of_eq g583.symm)) (g := (mkF m 28 #[rV a, iV 4, rV b583] [(.int 4), (.int 0), (.ref b583), (.int 0), (.ref a)])) rfl (by rw [hml]; rfl) rfl (hb hby d33_28) (by decide) (W := 0) (by show 2 * 0 + _ ≤ _; exact Nat.le_of_eq rfl) (by decide)
  have O590 := O583.keep K590 (allS (Nat.le_trans (oldLe O0) (Nat.le_of_eq g583.symm)) all0)
  have Vc590 : Arv Z h590 b583 k583 .byte (4 : Int32) [(.int v0), (.int v1), (.int v2), (.int v3)] (.int 0) := V590
  have R591 : Go p e below P T590 (mkF m 32 #[rV a, iV 4, rV b583] [(.ref b583)]) := fun t_ k_ => R589 t_ (st590 t_ (XS.aloadN X590.here hx rfl (hb hby d33_31) rfl rfl k_))
  obtain ⟨fs, hr, hrun, hended, hW, hsame⟩ := X590.leave (v := some (.ref b583)) (fun h => by rw [Bd.returns] at h; cases h)
  exact ⟨_, _, hP _ (R591 _ (retOut X590 hx Bd.returns rfl (Or.inr (Or.inr (Or.inr (Or.inr ⟨rfl, rfl, rfl⟩)))) (hb hby d33_32) hr)), hrun, hended, _, _, rfl, ⟨b583, k583, rfl, N590, (e590.symm ▸ (((Keep.refl h0 []).ext E583).trans K590 (allS (Or.inr (Nat.le_of_eq g583.symm)) all0))), (Nat.le_of_eq g583.symm), (e590.symm ▸ Vc590)⟩, ⟨_, rfl⟩, hW, hsame.mono (by decide) (by decide)⟩
def Q_copy8_4_ (Z : State) (a : Addr) (ka : ClassId) (v0 : Int32) (v1 : Int32) (v2 : Int32) (v3 : Int32) (v4 : Int32) (v5 : Int32) (v6 : Int32) (v7 : Int32) (h0 : Heap) (n0 : Nat) (rv_ : Option Value) (rh_ : Heap) (rL_ : List Loc) : Prop := ∃ b : Addr, ∃ kb : ClassId, (rv_ = some (.ref b)) ∧ (Fr n0 rL_) ∧ (Keep h0 rh_ []) ∧ (h0.size ≤ b) ∧ (Arv Z rh_ b kb .byte (4 : Int32) [(.int v0), (.int v1), (.int v2), (.int v3)] (.int 0))
set_option maxRecDepth 65536 in
set_option maxHeartbeats 40000000 in
theorem copy8_4_ (l : Launch) (Z : State) (a0 : Array Value) (hw : HW Z a0) (ws : List Jvm.Cond) (a : Addr) (ka : ClassId) (v0 : Int32) (v1 : Int32) (v2 : Int32) (v3 : Int32) (v4 : Int32) (v5 : Int32) (v6 : Int32) (v7 : Int32) (h0 : Heap) (n0 : Nat) (O0 : Old Z n0 h0) (P0 : Arv Z h0 a ka .byte (8 : Int32) [(.int v0), (.int v1), (.int v2), (.int v3), (.int v4), (.int v5), (.int v6), (.int v7)] (.int 0)) :
    MetQ l yM32 (Jvm.Cond.code yM32 jdk_65_method_121_code 3 (some (.array .byte))) ws (rM 1 1 4 18) Z #[(.ref a), (.int 4)] h0 (Q_copy8_4_ Z a ka v0 v1 v2 v3 v4 v5 v6 v7 h0 n0) := by
  refine metQ (plainFor_of_name pn_58157509) hisR (fun m => ef33_RI m a (4 : Int32)) ?_
  intro p e s m below meth c s₁ P Bd hx hby hml hZ hown hnm X0 e0 hP R0
  have N0 := Fr.nil n0
  have R592 : Go p e below P s₁ (mkF m 2 #[rV a, iV 4, uS] [(.ref a), (.int 4)]) := fun t_ k_ => R0 t_ (XS.iloadN X0.here hx rfl (hb hby d33_0) rfl (XS.aloadN X0.here hx rfl (hb hby d33_1) rfl rfl k_))
  obtain ⟨cl593, cl593A, -, cl593S, cl593N, -, -⟩ := id P0
  have R594 : Go p e below P s₁ (mkF m 3 #[rV a, iV 4, uS] [(.int 8), (.int 4)]) := fun t_ k_ => R592 t_ (X0.arraylength hx (by rw [e0]; exact cl593A.1) (State.isArrayOf_alike hZ.alike cl593A.2.1) (g := (mkF m 2 #[rV a, iV 4, uS] [(.ref a), (.int 4)])) rfl rfl (hb hby d33_2) t_ (by rw [len_of cl593S cl593N]; exact k_))
  obtain ⟨T595, h595, k595, X595, e595, E595, A595, st595⟩ := newP X0 hx hZ (hwI hw 3 rfl) e0 (g := (mkF m 15 #[rV a, iV 4, uS] [(.int 4)])) rfl (hb hby d33_15) rfl (by decide) (cap := 4) (by decide) (by decide) (by decide) (by decide)
  obtain ⟨b595, g595⟩ : ∃ z, z = h0.size := ⟨_, rfl⟩
  rw [← g595] at A595 st595
  have O595 := O0.ext E595
  have V595 : Arv Z h595 b595 k595 .byte (4 : Int32) [(.int 0), (.int 0), (.int 0), (.int 0)] (.int 0) := (Arv.new A595 (by decide)).pad (pad_rep [] (.int 0) 4)
  have R596 : Go p e below P T595 (mkF m 23 #[rV a, iV 4, rV b595] [(.ref a), (.int 0), (.ref b595), (.int 0), (.ref a)]) := fun t_ k_ => R594 t_ (XS.icmpYes X0.here hx rfl (pc0 := 3) (pc' := 14) rfl (hb hby d33_3) rfl (feq (by decide : ¬ ((4 : Int32) = (8 : Int32)))).2 (by decide) (by decide) (XS.iloadN X0.here hx rfl (hb hby d33_14) rfl (st595 t_ (XS.astoreN X595.here hx rfl (hb hby d33_17) rfl rfl (l' := #[rV a, iV 4, rV b595]) rfl (XS.aloadN X595.here hx rfl (hb hby d33_18) rfl rfl (XS.iconst X595.here hx rfl (hb hby d33_19) (XS.aloadN X595.here hx rfl (hb hby d33_20) rfl rfl (XS.iconst X595.here hx rfl (hb hby d33_21) (XS.aloadN X595.here hx rfl (hb hby d33_22) rfl rfl k_)))))))))
  have f597 := (P0.ext E595)
  obtain ⟨cl598, cl598A, -, cl598S, cl598N, -, -⟩ := id f597
  have R599 : Go p e below P T595 (mkF m 24 #[rV a, iV 4, rV b595] [(.int 8), (.int 0), (.ref b595), (.int 0), (.ref a)]) := fun t_ k_ => R596 t_ (X595.arraylength hx (by rw [e595]; exact cl598A.1) (State.isArrayOf_alike hZ.alike cl598A.2.1) (g := (mkF m 23 #[rV a, iV 4, rV b595] [(.ref a), (.int 0), (.ref b595), (.int 0), (.ref a)])) rfl rfl (hb hby d33_23) t_ (by rw [len_of cl598S cl598N]; exact k_))
  have R600 : Go p e below P T595 (mkF m 25 #[rV a, iV 4, rV b595] [(.int 4), (.int 8), (.int 0), (.ref b595), (.int 0), (.ref a)]) := fun t_ k_ => R599 t_ (XS.iloadN X595.here hx rfl (hb hby d33_24) rfl k_)
  obtain ⟨rv601, T601, Lc601, X601, hQ601, R601⟩ := callQ X595 hx hZ hown e595 R600 (min_ l Z a0 hw [] (8 : Int32) (4 : Int32) (4 : Int32) h595 n0 O595 (by decide)) (hwI hw 159 rfl) (hwI hw 160 rfl) (hwI hw 161 rfl) (hwI hw 162 rfl) [(.int 0), (.ref b595), (.int 0), (.ref a)] rfl (by rw [hml]; rfl) (lenOf pd_1793237 rfl) rfl (W := 4) (wR rfl) (hb hby d33_25)
  obtain ⟨rfl, N601q, K601⟩ := hQ601
  have N601 := Fr.app N0 N601q
  obtain ⟨T602, h602, L602, X602, e602, N602, K602, V602, st602⟩ := cpA X601 hx hZ hown (hwI hw 163 rfl) (hwI hw 166 rfl) (hwI hw 164 rfl) (hwI hw 165 rfl) K601 (us := [(.int v0), (.int v1), (.int v2), (.int v3)]) f597 V595 (Or.inl ⟨rfl, rfl⟩) (by decide) (by decide) (by decide) (by decide) (by decide) rfl (by decide) N601 (Nat.le_trans (oldLe O0) (Nat.le_of_eq g595.symm)) (g := (mkF m 28 #[rV a, iV 4, rV b595] [(.int 4), (.int 0), (.ref b595), (.int 0), (.ref a)])) rfl (by rw [hml]; rfl) rfl (hb hby d33_28) (by decide) (W := 0) (by show 2 * 0 + _ ≤ _; exact Nat.le_of_eq rfl) (by decide)
  have O602 := O595.keep K602 (allS (Nat.le_trans (oldLe O0) (Nat.le_of_eq g595.symm)) all0)
  have Vc602 : Arv Z h602 b595 k595 .byte (4 : Int32) [(.int v0), (.int v1), (.int v2), (.int v3)] (.int 0) := V602
  have R603 : Go p e below P T602 (mkF m 32 #[rV a, iV 4, rV b595] [(.ref b595)]) := fun t_ k_ => R601 t_ (st602 t_ (XS.aloadN X602.here hx rfl (hb hby d33_31) rfl rfl k_))
  obtain ⟨fs, hr, hrun, hended, hW, hsame⟩ := X602.leave (v := some (.ref b595)) (fun h => by rw [Bd.returns] at h; cases h)
  exact ⟨_, _, hP _ (R603 _ (retOut X602 hx Bd.returns rfl (Or.inr (Or.inr (Or.inr (Or.inr ⟨rfl, rfl, rfl⟩)))) (hb hby d33_32) hr)), hrun, hended, _, _, rfl, ⟨b595, k595, rfl, N602, (e602.symm ▸ (((Keep.refl h0 []).ext E595).trans K602 (allS (Or.inr (Nat.le_of_eq g595.symm)) all0))), (Nat.le_of_eq g595.symm), (e602.symm ▸ Vc602)⟩, ⟨_, rfl⟩, hW, hsame.mono (by decide) (by decide)⟩
def Q_copy10_6_ (Z : State) (a : Addr) (ka : ClassId) (v0 : Int32) (v1 : Int32) (v2 : Int32) (v3 : Int32) (v4 : Int32) (v5 : Int32) (v6 : Int32) (v7 : Int32) (v8 : Int32) (v9 : Int32) (h0 : Heap) (n0 : Nat) (rv_ : Option Value) (rh_ : Heap) (rL_ : List Loc) : Prop := ∃ b : Addr, ∃ kb : ClassId, (rv_ = some (.ref b)) ∧ (Fr n0 rL_) ∧ (Keep h0 rh_ []) ∧ (h0.size ≤ b) ∧ (Arv Z rh_ b kb .byte (6 : Int32) [(.int v0), (.int v1), (.int v2), (.int v3), (.int v4), (.int v5)] (.int 0))
set_option maxRecDepth 65536 in
set_option maxHeartbeats 40000000 in
theorem copy10_6_ (l : Launch) (Z : State) (a0 : Array Value) (hw : HW Z a0) (ws : List Jvm.Cond) (a : Addr) (ka : ClassId) (v0 : Int32) (v1 : Int32) (v2 : Int32) (v3 : Int32) (v4 : Int32) (v5 : Int32) (v6 : Int32) (v7 : Int32) (v8 : Int32) (v9 : Int32) (h0 : Heap) (n0 : Nat) (O0 : Old Z n0 h0) (P0 : Arv Z h0 a ka .byte (10 : Int32) [(.int v0), (.int v1), (.int v2), (.int v3), (.int v4), (.int v5), (.int v6), (.int v7), (.int v8), (.int v9)] (.int 0)) :
    MetQ l yM32 (Jvm.Cond.code yM32 jdk_65_method_121_code 3 (some (.array .byte))) ws (rM 1 1 6 18) Z #[(.ref a), (.int 6)] h0 (Q_copy10_6_ Z a ka v0 v1 v2 v3 v4 v5 v6 v7 v8 v9 h0 n0) := by
  refine metQ (plainFor_of_name pn_58157509) hisR (fun m => ef33_RI m a (6 : Int32)) ?_
  intro p e s m below meth c s₁ P Bd hx hby hml hZ hown hnm X0 e0 hP R0
  have N0 := Fr.nil n0
  have R604 : Go p e below P s₁ (mkF m 2 #[rV a, iV 6, uS] [(.ref a), (.int 6)]) := fun t_ k_ => R0 t_ (XS.iloadN X0.here hx rfl (hb hby d33_0) rfl (XS.aloadN X0.here hx rfl (hb hby d33_1) rfl rfl k_))
  obtain ⟨cl605, cl605A, -, cl605S, cl605N, -, -⟩ := id P0
  have R606 : Go p e below P s₁ (mkF m 3 #[rV a, iV 6, uS] [(.int 10), (.int 6)]) := fun t_ k_ => R604 t_ (X0.arraylength hx (by rw [e0]; exact cl605A.1) (State.isArrayOf_alike hZ.alike cl605A.2.1) (g := (mkF m 2 #[rV a, iV 6, uS] [(.ref a), (.int 6)])) rfl rfl (hb hby d33_2) t_ (by rw [len_of cl605S cl605N]; exact k_))
  obtain ⟨T607, h607, k607, X607, e607, E607, A607, st607⟩ := newP X0 hx hZ (hwI hw 3 rfl) e0 (g := (mkF m 15 #[rV a, iV 6, uS] [(.int 6)])) rfl (hb hby d33_15) rfl (by decide) (cap := 6) (by decide) (by decide) (by decide) (by decide)
  obtain ⟨b607, g607⟩ : ∃ z, z = h0.size := ⟨_, rfl⟩
  rw [← g607] at A607 st607
  have O607 := O0.ext E607
  have V607 : Arv Z h607 b607 k607 .byte (6 : Int32) [(.int 0), (.int 0), (.int 0), (.int 0), (.int 0), (.int 0)] (.int 0) := (Arv.new A607 (by decide)).pad (pad_rep [] (.int 0) 6)
  have R608 : Go p e below P T607 (mkF m 23 #[rV a, iV 6, rV b607] [(.ref a), (.int 0), (.ref b607), (.int 0), (.ref a)]) := fun t_ k_ => R606 t_ (XS.icmpYes X0.here hx rfl (pc0 := 3) (pc' := 14) rfl (hb hby d33_3) rfl (feq (by decide : ¬ ((6 : Int32) = (10 : Int32)))).2 (by decide) (by decide) (XS.iloadN X0.here hx rfl (hb hby d33_14) rfl (st607 t_ (XS.astoreN X607.here hx rfl (hb hby d33_17) rfl rfl (l' := #[rV a, iV 6, rV b607]) rfl (XS.aloadN X607.here hx rfl (hb hby d33_18) rfl rfl (XS.iconst X607.here hx rfl (hb hby d33_19) (XS.aloadN X607.here hx rfl (hb hby d33_20) rfl rfl (XS.iconst X607.here hx rfl (hb hby d33_21) (XS.aloadN X607.here hx rfl (hb hby d33_22) rfl rfl k_)))))))))
  have f609 := (P0.ext E607)
  obtain ⟨cl610, cl610A, -, cl610S, cl610N, -, -⟩ := id f609
  have R611 : Go p e below P T607 (mkF m 24 #[rV a, iV 6, rV b607] [(.int 10), (.int 0), (.ref b607), (.int 0), (.ref a)]) := fun t_ k_ => R608 t_ (X607.arraylength hx (by rw [e607]; exact cl610A.1) (State.isArrayOf_alike hZ.alike cl610A.2.1) (g := (mkF m 23 #[rV a, iV 6, rV b607] [(.ref a), (.int 0), (.ref b607), (.int 0), (.ref a)])) rfl rfl (hb hby d33_23) t_ (by rw [len_of cl610S cl610N]; exact k_))
  have R612 : Go p e below P T607 (mkF m 25 #[rV a, iV 6, rV b607] [(.int 6), (.int 10), (.int 0), (.ref b607), (.int 0), (.ref a)]) := fun t_ k_ => R611 t_ (XS.iloadN X607.here hx rfl (hb hby d33_24) rfl k_)
  obtain ⟨rv613, T613, Lc613, X613, hQ613, R613⟩ := callQ X607 hx hZ hown e607 R612 (min_ l Z a0 hw [] (10 : Int32) (6 : Int32) (6 : Int32) h607 n0 O607 (by decide)) (hwI hw 159 rfl) (hwI hw 160 rfl) (hwI hw 161 rfl) (hwI hw 162 rfl) [(.int 0), (.ref b607), (.int 0), (.ref a)] rfl (by rw [hml]; rfl) (lenOf pd_1793237 rfl) rfl (W := 4) (wR rfl) (hb hby d33_25)
  obtain ⟨rfl, N613q, K613⟩ := hQ613
  have N613 := Fr.app N0 N613q
  obtain ⟨T614, h614, L614, X614, e614, N614, K614, V614, st614⟩ := cpA X613 hx hZ hown (hwI hw 163 rfl) (hwI hw 166 rfl) (hwI hw 164 rfl) (hwI hw 165 rfl) K613 (us := [(.int v0), (.int v1), (.int v2), (.int v3), (.int v4), (.int v5)]) f609 V607 (Or.inl ⟨rfl, rfl⟩) (by decide) (by decide) (by decide) (by decide) (by decide) rfl (by decide) N613 (Nat.le_trans (oldLe O0) (Nat.le_of_eq g607.symm)) (g := (mkF m 28 #[rV a, iV 6, rV b607] [(.int 6), (.int 0), (.ref b607), (.int 0), (.ref a)])) rfl (by rw [hml]; rfl) rfl (hb hby d33_28) (by decide) (W := 0) (by show 2 * 0 + _ ≤ _; exact Nat.le_of_eq rfl) (by decide)
  have O614 := O607.keep K614 (allS (Nat.le_trans (oldLe O0) (Nat.le_of_eq g607.symm)) all0)
  have Vc614 : Arv Z h614 b607 k607 .byte (6 : Int32) [(.int v0), (.int v1), (.int v2), (.int v3), (.int v4), (.int v5)] (.int 0) := V614
  have R615 : Go p e below P T614 (mkF m 32 #[rV a, iV 6, rV b607] [(.ref b607)]) := fun t_ k_ => R613 t_ (st614 t_ (XS.aloadN X614.here hx rfl (hb hby d33_31) rfl rfl k_))
  obtain ⟨fs, hr, hrun, hended, hW, hsame⟩ := X614.leave (v := some (.ref b607)) (fun h => by rw [Bd.returns] at h; cases h)
  exact ⟨_, _, hP _ (R615 _ (retOut X614 hx Bd.returns rfl (Or.inr (Or.inr (Or.inr (Or.inr ⟨rfl, rfl, rfl⟩)))) (hb hby d33_32) hr)), hrun, hended, _, _, rfl, ⟨b607, k607, rfl, N614, (e614.symm ▸ (((Keep.refl h0 []).ext E607).trans K614 (allS (Or.inr (Nat.le_of_eq g607.symm)) all0))), (Nat.le_of_eq g607.symm), (e614.symm ▸ Vc614)⟩, ⟨_, rfl⟩, hW, hsame.mono (by decide) (by decide)⟩
theorem ef4_RRRII (m : MethodId) (x0 : Addr) (x1 : Addr) (x2 : Addr) (x3 : Int32) (x4 : Int32) : entryFrame m #[(.ref x0), (.ref x1), (.ref x2), (.int x3), (.int x4)] 11 = mkF m 0 #[rV x0, rV x1, rV x2, iV x3, iV x4, uS, uS, uS, uS, uS, uS] [] := by first | (simp [entryFrame, mkF, argsToLocals, Value.category]; done) | rfl
theorem d4_0 : decode jdk_42_method_11_code 0 = .ok (.aload_n 0, 1) := by decide +kernel
theorem d4_1 : decode jdk_42_method_11_code 1 = .ok (.invokespecial 1, 3) := by decide +kernel
theorem d4_4 : decode jdk_42_method_11_code 4 = .ok (.iload 4, 2) := by decide +kernel
theorem d4_6 : decode jdk_42_method_11_code 6 = .ok (.ifCond .ne 24, 3) := by decide +kernel
theorem d4_30 : decode jdk_42_method_11_code 30 = .ok (.aload_n 1, 1) := by decide +kernel
theorem d4_31 : decode jdk_42_method_11_code 31 = .ok (.getstatic 86, 3) := by decide +kernel
theorem d4_34 : decode jdk_42_method_11_code 34 = .ok (.if_acmp .ne 312, 3) := by decide +kernel
theorem d4_37 : decode jdk_42_method_11_code 37 = .ok (.getstatic 38, 3) := by decide +kernel
theorem d4_40 : decode jdk_42_method_11_code 40 = .ok (.ifCond .eq 252, 3) := by decide +kernel
theorem d4_43 : decode jdk_42_method_11_code 43 = .ok (.aload_n 2, 1) := by decide +kernel
theorem d4_44 : decode jdk_42_method_11_code 44 = .ok (.iload_n 3, 1) := by decide +kernel
theorem d4_45 : decode jdk_42_method_11_code 45 = .ok (.iload 4, 2) := by decide +kernel
theorem d4_47 : decode jdk_42_method_11_code 47 = .ok (.invokestatic 92, 3) := by decide +kernel
theorem pd_14998784 : parseMethodDescriptor "([BII)I" = some ⟨[(.array .byte), .int, .int], some .int⟩ := by decide +kernel
theorem d4_50 : decode jdk_42_method_11_code 50 = .ok (.istore 5, 2) := by decide +kernel
theorem d4_52 : decode jdk_42_method_11_code 52 = .ok (.iload 5, 2) := by decide +kernel
theorem d4_54 : decode jdk_42_method_11_code 54 = .ok (.iload 4, 2) := by decide +kernel
theorem d4_56 : decode jdk_42_method_11_code 56 = .ok (.if_icmp .ne 22, 3) := by decide +kernel
theorem d4_59 : decode jdk_42_method_11_code 59 = .ok (.aload_n 0, 1) := by decide +kernel
theorem d4_60 : decode jdk_42_method_11_code 60 = .ok (.aload_n 2, 1) := by decide +kernel
theorem d4_61 : decode jdk_42_method_11_code 61 = .ok (.iload_n 3, 1) := by decide +kernel
theorem d4_62 : decode jdk_42_method_11_code 62 = .ok (.iload_n 3, 1) := by decide +kernel
theorem d4_63 : decode jdk_42_method_11_code 63 = .ok (.iload 4, 2) := by decide +kernel
theorem d4_65 : decode jdk_42_method_11_code 65 = .ok (.iadd, 1) := by decide +kernel
theorem d4_66 : decode jdk_42_method_11_code 66 = .ok (.invokestatic 54, 3) := by decide +kernel
theorem pd_64843128 : parseMethodDescriptor "([BII)[B" = some ⟨[(.array .byte), .int, .int], some (.array .byte)⟩ := by decide +kernel
theorem d4_69 : decode jdk_42_method_11_code 69 = .ok (.putfield 9, 3) := by decide +kernel
theorem d4_72 : decode jdk_42_method_11_code 72 = .ok (.aload_n 0, 1) := by decide +kernel
theorem d4_73 : decode jdk_42_method_11_code 73 = .ok (.iconst 0, 1) := by decide +kernel
theorem d4_74 : decode jdk_42_method_11_code 74 = .ok (.putfield 15, 3) := by decide +kernel
theorem d4_77 : decode jdk_42_method_11_code 77 = .ok (.return_, 1) := by decide +kernel
def Q_iniA1_ (Z : State) (x : Addr) (a : Addr) (ka : ClassId) (v0 : Int32) (v1 : Int32) (wU : Addr) (zc : Int32) (fm : Value) (h0 : Heap) (n0 : Nat) (rv_ : Option Value) (rh_ : Heap) (rL_ : List Loc) : Prop := ∃ t : Addr, ∃ kb : ClassId, (rv_ = none) ∧ (Fr n0 rL_) ∧ (Keep h0 rh_ [x]) ∧ (Exa Z rh_ x "java/lang/String") ∧ (Fld Z rh_ x "java/lang/String" "coder" "B" (.int 0)) ∧ (Fld Z rh_ x "java/lang/String" "value" "[B" (.ref t)) ∧ (Arv Z rh_ t kb .byte (2 : Int32) [(.int v0), (.int v1)] (.int 0))
set_option maxRecDepth 65536 in
set_option maxHeartbeats 40000000 in
theorem iniA1_ (l : Launch) (Z : State) (a0 : Array Value) (hw : HW Z a0) (ws : List Jvm.Cond) (x : Addr) (a : Addr) (ka : ClassId) (v0 : Int32) (v1 : Int32) (wU : Addr) (zc : Int32) (fm : Value) (h0 : Heap) (n0 : Nat) (O0 : Old Z n0 h0) (P0 : Exa Z h0 x "java/lang/String") (P1 : Fld Z h0 x "java/lang/String" "value" "[B" .null) (P2 : Fld Z h0 x "java/lang/String" "coder" "B" (.int 0)) (P3 : n0 ≤ x) (P4 : Arv Z h0 a ka .byte (2 : Int32) [(.int v0), (.int v1)] (.int 0)) (P5 : Exa Z h0 a "[B") (P6 : sT5 Z (.ref wU)) (P7 : sT0 Z (.int zc)) (P8 : ¬ zc = 0) (P9 : sT2 Z (.int 1)) (P10 : sT3 Z (.int 0)) (P11 : sT4 Z (.int 8)) (P12 : sT1 Z fm) (P13 : fm.isRef = true) (P14 : ¬ (v0 < (0 : Int32))) (P15 : ¬ (v1 < (0 : Int32))) :
    MetQ l yM33 (Jvm.Cond.codeWith yM33 jdk_42_method_11_code 11 none [((800 : Nat), (813 : Nat), (816 : Nat), (202 : Nat))]) ws (rM 2 1 2 29) Z #[(.ref x), (.ref wU), (.ref a), (.int 0), (.int 2)] h0 (Q_iniA1_ Z x a ka v0 v1 wU zc fm h0 n0) := by
  have hzc := P8
  have hfm := P13
  refine metQ (plainFor_of_name pn_47582652) hisWith (fun m => ef4_RRRII m x wU a (0 : Int32) (2 : Int32)) ?_
  intro p e s m below meth c s₁ P Bd hx hby hml hZ hown hnm X0 e0 hP R0
  have N0 := Fr.nil n0
  have R616 : Go p e below P s₁ (mkF m 1 #[rV x, rV wU, rV a, iV 0, iV 2, uS, uS, uS, uS, uS, uS] [(.ref x)]) := fun t_ k_ => R0 t_ (XS.aloadN X0.here hx rfl (hb hby d4_0) rfl rfl k_)
  obtain ⟨T617, X617, e617, st617⟩ := initO X0 hx hZ hown (hwI hw 26 rfl) (hwI hw 27 rfl) (hwI hw 28 rfl) e0 (g := (mkF m 1 #[rV x, rV wU, rV a, iV 0, iV 2, uS, uS, uS, uS, uS, uS] [(.ref x)])) rfl (by rw [hml]; rfl) rfl (hb hby d4_1) (by decide) (W := 0) (by show 2 * 0 + _ ≤ _; exact Nat.le_of_eq rfl) (by decide)
  obtain ⟨T618, X618, e618, st618⟩ := getS2 X617 hx hZ hown (host := "") (Or.inl (hwI hw 29 rfl)) Via.refl e617 (P6.ext O0.2) (g := (mkF m 31 #[rV x, rV wU, rV a, iV 0, iV 2, uS, uS, uS, uS, uS, uS] [(.ref wU)])) rfl (hb hby d4_31)
  obtain ⟨T619, X619, e619, st619⟩ := getS2 X618 hx hZ hown (host := "") (Or.inl (hwI hw 31 rfl)) Via.refl e618 (P7.ext O0.2) (g := (mkF m 37 #[rV x, rV wU, rV a, iV 0, iV 2, uS, uS, uS, uS, uS, uS] [])) rfl (hb hby d4_37)
  have R620 : Go p e below P T619 (mkF m 47 #[rV x, rV wU, rV a, iV 0, iV 2, uS, uS, uS, uS, uS, uS] [(.int 2), (.int 0), (.ref a)]) := fun t_ k_ => R616 t_ (st617 t_ (XS.iload X617.here hx rfl (hb hby d4_4) rfl (XS.ifYes X617.here hx rfl (pc0 := 6) (pc' := 30) rfl (hb hby d4_6) rfl ((if0 _ _).trans (feq (by decide : ¬ ((2 : Int32) = (0 : Int32)))).2) (by decide) (by decide) (XS.aloadN X617.here hx rfl (hb hby d4_30) rfl rfl (st618 t_ (Jvm.RoadKit.acmp (g := (mkF m 34 #[rV x, rV wU, rV a, iV 0, iV 2, uS, uS, uS, uS, uS, uS] [(.ref wU), (.ref wU)])) X618 hx rfl rfl rfl (pc0 := 34) (pc' := 37) (same := true) rfl (hb hby d4_34) rfl (decide_eq_true (congrArg Value.ref rfl)) (by decide) (by decide) (st619 t_ (XS.ifNo X619.here hx rfl (hb hby d4_40) rfl ((if0 _ _).trans (feq hzc).1) (XS.aloadN X619.here hx rfl (hb hby d4_43) rfl rfl (XS.iloadN X619.here hx rfl (hb hby d4_44) rfl (XS.iload X619.here hx rfl (hb hby d4_45) rfl k_)))))))))))
  obtain ⟨rv621, T621, Lc621, X621, hQ621, R621⟩ := callQ X619 hx hZ hown e619 R620 (cpos2n_ l Z a0 hw [] a ka v0 v1 h0 n0 O0 P4 P14 P15) (hwI hw 32 rfl) (hwI hw 33 rfl) (hwI hw 34 rfl) (hwI hw 35 rfl) [] rfl (by rw [hml]; rfl) (lenOf pd_14998784 rfl) rfl (W := 0) (wR rfl) (hb hby d4_47)
  obtain ⟨rfl, N621q, K621⟩ := hQ621
  have N621 := Fr.app N0 N621q
  have R622 : Go p e below P T621 (mkF m 66 #[rV x, rV wU, rV a, iV 0, iV 2, iV 2, uS, uS, uS, uS, uS] [(.int 2), (.int 0), (.ref a), (.ref x)]) := fun t_ k_ => R621 t_ (XS.istore X621.here hx rfl (hb hby d4_50) rfl (l' := #[rV x, rV wU, rV a, iV 0, iV 2, iV 2, uS, uS, uS, uS, uS]) rfl (XS.iload X621.here hx rfl (hb hby d4_52) rfl (XS.iload X621.here hx rfl (hb hby d4_54) rfl (XS.icmpNo X621.here hx rfl (hb hby d4_56) rfl (teq rfl).2 (XS.aloadN X621.here hx rfl (hb hby d4_59) rfl rfl (XS.aloadN X621.here hx rfl (hb hby d4_60) rfl rfl (XS.iloadN X621.here hx rfl (hb hby d4_61) rfl (XS.iloadN X621.here hx rfl (hb hby d4_62) rfl (XS.iload X621.here hx rfl (hb hby d4_63) rfl (XS.iadd X621.here hx rfl (hb hby d4_65) rfl k_))))))))))
  obtain ⟨rv623, T623, Lc623, X623, hQ623, R623⟩ := callQ X621 hx hZ hown K621 R622 (cor2_ l Z a0 hw [] a ka v0 v1 h0 n0 O0 P4 P5) (hwI hw 36 rfl) (hwI hw 37 rfl) (hwI hw 38 rfl) (hwI hw 39 rfl) [(.ref x)] rfl (by rw [hml]; rfl) (lenOf pd_64843128 rfl) rfl (W := 1) (wR rfl) (hb hby d4_66)
  obtain ⟨b_623, kb_623, rfl, N623q, K623, p623_0, p623_1⟩ := hQ623
  have N623 := Fr.app N621 N623q
  have O623 := O0.keep K623 all0
  have f624 := (P0.keep K623)
  have f625 := (P1.keep K623 nin0)
  obtain ⟨T626, h626, X626, e626, W626, st626⟩ := putF X623 hx hZ hown (host := "") (Or.inl (hwI hw 49 rfl)) Via.refl (rfl : T623.heap = T623.heap) f625 f624 (Or.inr ⟨(hwI hw 50 rfl), rfl, hnm⟩) (hwI hw 9 rfl) (ty := (.array .byte)) (by decide) rfl rfl (g := (mkF m 69 #[rV x, rV wU, rV a, iV 0, iV 2, iV 2, uS, uS, uS, uS, uS] [(.ref b_623), (.ref x)])) rfl rfl (hb hby d4_69)
  have N626 := Fr.snoc X626 N623 P3
  have Fw626 := f625.same W626
  have O626 := O623.wr W626 P3
  have f627 := (f624.wr W626)
  have f628 := ((P2.keep K623 nin0).other W626 (Or.inr (slot_ne (Or.inr (hwI hw 52 rfl)) (Or.inr (hwI hw 50 rfl)) (by decide) (t := .byte) (t' := (.array .byte)) (by decide) (by decide))))
  obtain ⟨T629, h629, X629, e629, W629, st629⟩ := putFN X626 hx hZ hown (hwI hw 51 rfl) Via.refl e626 f628 f627 (Or.inr ⟨(hwI hw 52 rfl), rfl, hnm⟩) (hwI hw 9 rfl) (ty := .byte) (v' := (.int 0)) (by decide) rfl rfl (g := (mkF m 74 #[rV x, rV wU, rV a, iV 0, iV 2, iV 2, uS, uS, uS, uS, uS] [(.int 0), (.ref x)])) rfl rfl (hb hby d4_74)
  have N629 := Fr.snoc X629 N626 P3
  have Fw629 := f628.same W629
  have O629 := O626.wr W629 P3
  have R630 : Go p e below P T629 (mkF m 77 #[rV x, rV wU, rV a, iV 0, iV 2, iV 2, uS, uS, uS, uS, uS] []) := fun t_ k_ => R623 t_ (st626 t_ (XS.aloadN X626.here hx rfl (hb hby d4_72) rfl rfl (XS.iconst X626.here hx rfl (hb hby d4_73) (st629 t_ k_))))
  obtain ⟨fs, hr, hrun, hended, hW, hsame⟩ := X629.leave (v := none) (fun _ => rfl)
  have f631 := (f627.wr W629)
  have f632 := (Fw626.other W629 (Or.inr (slot_ne (Or.inr (hwI hw 50 rfl)) (Or.inr (hwI hw 52 rfl)) (by decide) (t := (.array .byte)) (t' := .byte) (by decide) (by decide))))
  have f633 := ((p623_1.other W626 (Ne.symm (Nat.ne_of_lt (Nat.lt_of_lt_of_le P0.lt p623_0)))).other W629 (Ne.symm (Nat.ne_of_lt (Nat.lt_of_lt_of_le P0.lt p623_0))))
  exact ⟨_, _, hP _ (R630 _ (X629.returnOut hx Bd.returns (hb hby d4_77) hr)), hrun, hended, _, _, rfl, ⟨b_623, kb_623, rfl, N629, (e629.symm ▸ ((((Keep.refl h0 [x]).trans K623 all0).wr W626 (Or.inl (List.mem_of_getElem? (i := 0) rfl))).wr W629 (Or.inl (List.mem_of_getElem? (i := 0) rfl)))), (e629.symm ▸ f631), (e629.symm ▸ Fw629), (e629.symm ▸ f632), (e629.symm ▸ f633)⟩, ⟨_, rfl⟩, hW, hsame.mono (by decide) (by decide)⟩
theorem ef2_RRR (m : MethodId) (x0 : Addr) (x1 : Addr) (x2 : Addr) : entryFrame m #[(.ref x0), (.ref x1), (.ref x2)] 3 = mkF m 0 #[rV x0, rV x1, rV x2] [] := by first | (simp [entryFrame, mkF, argsToLocals, Value.category]; done) | rfl
theorem d2_0 : decode jdk_42_method_49_code 0 = .ok (.aload_n 0, 1) := by decide +kernel
theorem d2_1 : decode jdk_42_method_49_code 1 = .ok (.aload_n 2, 1) := by decide +kernel
theorem d2_2 : decode jdk_42_method_49_code 2 = .ok (.invokestatic 78, 3) := by decide +kernel
theorem pd_72566344 : parseMethodDescriptor "(Ljava/lang/Object;)Ljava/lang/Object;" = some ⟨[(.object "java/lang/Object")], some (.object "java/lang/Object")⟩ := by decide +kernel
theorem d2_5 : decode jdk_42_method_49_code 5 = .ok (.checkcast 84, 3) := by decide +kernel
theorem d2_8 : decode jdk_42_method_49_code 8 = .ok (.aload_n 1, 1) := by decide +kernel
theorem d2_9 : decode jdk_42_method_49_code 9 = .ok (.iconst 0, 1) := by decide +kernel
theorem d2_10 : decode jdk_42_method_49_code 10 = .ok (.aload_n 1, 1) := by decide +kernel
theorem d2_11 : decode jdk_42_method_49_code 11 = .ok (.arraylength, 1) := by decide +kernel
theorem d2_12 : decode jdk_42_method_49_code 12 = .ok (.invokespecial 75, 3) := by decide +kernel
theorem pd_41235415 : parseMethodDescriptor "(Ljava/nio/charset/Charset;[BII)V" = some ⟨[(.object "java/nio/charset/Charset"), (.array .byte), .int, .int], none⟩ := by decide +kernel
theorem d2_15 : decode jdk_42_method_49_code 15 = .ok (.return_, 1) := by decide +kernel
def Q_injA1_ (Z : State) (x : Addr) (a : Addr) (ka : ClassId) (v0 : Int32) (v1 : Int32) (wU : Addr) (zc : Int32) (fm : Value) (h0 : Heap) (n0 : Nat) (rv_ : Option Value) (rh_ : Heap) (rL_ : List Loc) : Prop := ∃ t : Addr, ∃ kb : ClassId, (rv_ = none) ∧ (Fr n0 rL_) ∧ (Keep h0 rh_ [x]) ∧ (Exa Z rh_ x "java/lang/String") ∧ (Fld Z rh_ x "java/lang/String" "coder" "B" (.int 0)) ∧ (Fld Z rh_ x "java/lang/String" "value" "[B" (.ref t)) ∧ (Arv Z rh_ t kb .byte (2 : Int32) [(.int v0), (.int v1)] (.int 0))
set_option maxRecDepth 65536 in
set_option maxHeartbeats 40000000 in
theorem injA1_ (l : Launch) (Z : State) (a0 : Array Value) (hw : HW Z a0) (ws : List Jvm.Cond) (x : Addr) (a : Addr) (ka : ClassId) (v0 : Int32) (v1 : Int32) (wU : Addr) (zc : Int32) (fm : Value) (h0 : Heap) (n0 : Nat) (O0 : Old Z n0 h0) (P0 : Exa Z h0 x "java/lang/String") (P1 : Fld Z h0 x "java/lang/String" "value" "[B" .null) (P2 : Fld Z h0 x "java/lang/String" "coder" "B" (.int 0)) (P3 : n0 ≤ x) (P4 : Arv Z h0 a ka .byte (2 : Int32) [(.int v0), (.int v1)] (.int 0)) (P5 : Exa Z h0 a "[B") (P6 : sT5 Z (.ref wU)) (P7 : sT0 Z (.int zc)) (P8 : ¬ zc = 0) (P9 : sT2 Z (.int 1)) (P10 : sT3 Z (.int 0)) (P11 : sT4 Z (.int 8)) (P12 : sT1 Z fm) (P13 : fm.isRef = true) (P14 : Exa Z Z.heap wU "sun/nio/cs/UTF_8") (P15 : ¬ (v0 < (0 : Int32))) (P16 : ¬ (v1 < (0 : Int32))) :
    MetQ l yM34 (Jvm.Cond.code yM34 jdk_42_method_49_code 3 none) ws (rM 3 1 2 51) Z #[(.ref x), (.ref a), (.ref wU)] h0 (Q_injA1_ Z x a ka v0 v1 wU zc fm h0 n0) := by
  have hzc := P8
  have hfm := P13
  refine metQ (plainFor_of_name pn_47582652) hisR (fun m => ef2_RRR m x a wU) ?_
  intro p e s m below meth c s₁ P Bd hx hby hml hZ hown hnm X0 e0 hP R0
  have N0 := Fr.nil n0
  have R634 : Go p e below P s₁ (mkF m 2 #[rV x, rV a, rV wU] [(.ref wU), (.ref x)]) := fun t_ k_ => R0 t_ (XS.aloadN X0.here hx rfl (hb hby d2_0) rfl rfl (XS.aloadN X0.here hx rfl (hb hby d2_1) rfl rfl k_))
  obtain ⟨rv635, T635, Lc635, X635, hQ635, R635⟩ := callQ X0 hx hZ hown e0 R634 (rnn_ l Z a0 hw [] wU h0 n0 O0) (hwI hw 16 rfl) (hwI hw 17 rfl) (hwI hw 18 rfl) (hwI hw 19 rfl) [(.ref x)] rfl (by rw [hml]; rfl) (lenOf pd_72566344 rfl) rfl (W := 1) (wR rfl) (hb hby d2_2)
  obtain ⟨rfl, N635q, K635⟩ := hQ635
  have N635 := Fr.app N0 N635q
  obtain ⟨T636, X636, e636, st636⟩ := castY X635 hx hZ hown (hwI hw 20 rfl) K635 (Ins.of_exa (P14.ext O0.2) (hwI hw 21 rfl)) (g := (mkF m 5 #[rV x, rV a, rV wU] [(.ref wU), (.ref x)])) rfl rfl (hb hby d2_5)
  have R637 : Go p e below P T636 (mkF m 11 #[rV x, rV a, rV wU] [(.ref a), (.int 0), (.ref a), (.ref wU), (.ref x)]) := fun t_ k_ => R635 t_ (st636 t_ (XS.aloadN X636.here hx rfl (hb hby d2_8) rfl rfl (XS.iconst X636.here hx rfl (hb hby d2_9) (XS.aloadN X636.here hx rfl (hb hby d2_10) rfl rfl k_))))
  obtain ⟨cl638, cl638A, -, cl638S, cl638N, -, -⟩ := id P4
  have R639 : Go p e below P T636 (mkF m 12 #[rV x, rV a, rV wU] [(.int 2), (.int 0), (.ref a), (.ref wU), (.ref x)]) := fun t_ k_ => R637 t_ (X636.arraylength hx (by rw [e636]; exact cl638A.1) (State.isArrayOf_alike hZ.alike cl638A.2.1) (g := (mkF m 11 #[rV x, rV a, rV wU] [(.ref a), (.int 0), (.ref a), (.ref wU), (.ref x)])) rfl rfl (hb hby d2_11) t_ (by rw [len_of cl638S cl638N]; exact k_))
  obtain ⟨rv640, _, ⟨T640, L640, k640, n640⟩, -, X640, ⟨Lc640, hQ640, l640, y640, z640⟩, st640⟩ := X636.specialBackH hx (y := yM33) rfl hown (mvT hZ (hwI hw 22 rfl)) (mvT hZ (hwI hw 23 rfl)) (mvT hZ (hwI hw 25 rfl)) (by decide) (backOfWith (W := 0) (iniA1_ l Z a0 hw [] x a ka v0 v1 wU zc fm h0 n0 O0 P0 P1 P2 P3 P4 P5 P6 P7 hzc P9 P10 P11 P12 hfm P15 P16) hZ (hwI hw 25 rfl) (hwI hw 10 rfl) (by decide) (by decide)) (g := (mkF m 12 #[rV x, rV a, rV wU] [(.int 2), (.int 0), (.ref a), (.ref wU), (.ref x)])) rfl (by rw [hml]; rfl) (Steps.refl _) (a := x) (argsL := [(.ref wU), (.ref a), (.int 0), (.int 2)]) (rest := []) (lenOf pd_41235415 rfl) rfl (by show 2 * 0 + _ ≤ _; exact Nat.le_of_eq rfl) (hb hby d2_12) (fun _ _ => ⟨rfl, e636, (by decide : 0 + 1 ≤ _), (by decide : 0 + 2 ≤ _)⟩)
  dsimp only [Pt.U, Pt.locs, Pt.cells, Pt.slots] at X640 l640 y640 z640 st640 hQ640
  subst l640 y640 z640
  obtain ⟨t_640, kb_640, rfl, N640q, K640, p640_0, p640_1, p640_2, p640_3⟩ := hQ640
  have N640 := Fr.app N635 N640q
  have O640 := O0.keep K640 (allS P3 all0)
  have R641 : Go p e below P T640 (mkF m 15 #[rV x, rV a, rV wU] []) := fun t_ k_ => R639 t_ (st640.trans k_)
  obtain ⟨fs, hr, hrun, hended, hW, hsame⟩ := X640.leave (v := none) (fun _ => rfl)
  exact ⟨_, _, hP _ (R641 _ (X640.returnOut hx Bd.returns (hb hby d2_15) hr)), hrun, hended, _, _, rfl, ⟨t_640, kb_640, rfl, N640, ((Keep.refl h0 [x]).trans K640 (allS (Or.inl (List.mem_of_getElem? (i := 0) rfl)) all0)), p640_0, p640_1, p640_2, p640_3⟩, ⟨_, rfl⟩, hW, hsame.mono (by decide) (by decide)⟩
theorem pn_4625033 : plainName "com/example/lerlo/lerlo/Utf8" = true := by first | (simp [plainName, overriddenIn]; done) | decide +kernel
theorem ef1_R (m : MethodId) (x0 : Addr) : entryFrame m #[(.ref x0)] 1 = mkF m 0 #[rV x0] [] := by first | (simp [entryFrame, mkF, argsToLocals, Value.category]; done) | rfl
theorem d1_0 : decode prog_5_method_5_code 0 = .ok (.new 26, 3) := by decide +kernel
theorem d1_3 : decode prog_5_method_5_code 3 = .ok (.dup, 1) := by decide +kernel
theorem d1_4 : decode prog_5_method_5_code 4 = .ok (.aload_n 0, 1) := by decide +kernel
theorem d1_5 : decode prog_5_method_5_code 5 = .ok (.getstatic 7, 3) := by decide +kernel
theorem d1_8 : decode prog_5_method_5_code 8 = .ok (.invokespecial 68, 3) := by decide +kernel
theorem pd_90622059 : parseMethodDescriptor "([BLjava/nio/charset/Charset;)V" = some ⟨[(.array .byte), (.object "java/nio/charset/Charset")], none⟩ := by decide +kernel
theorem d1_11 : decode prog_5_method_5_code 11 = .ok (.areturn, 1) := by decide +kernel
def Q_decA1_ (Z : State) (a : Addr) (ka : ClassId) (v0 : Int32) (v1 : Int32) (wU : Addr) (zc : Int32) (fm : Value) (h0 : Heap) (n0 : Nat) (rv_ : Option Value) (rh_ : Heap) (rL_ : List Loc) : Prop := ∃ x : Addr, ∃ t : Addr, ∃ kb : ClassId, (rv_ = some (.ref x)) ∧ (Fr n0 rL_) ∧ (Keep h0 rh_ []) ∧ (h0.size ≤ x) ∧ (Exa Z rh_ x "java/lang/String") ∧ (Fld Z rh_ x "java/lang/String" "coder" "B" (.int 0)) ∧ (Fld Z rh_ x "java/lang/String" "value" "[B" (.ref t)) ∧ (Arv Z rh_ t kb .byte (2 : Int32) [(.int v0), (.int v1)] (.int 0))
set_option maxRecDepth 65536 in
set_option maxHeartbeats 40000000 in
theorem decA1_ (l : Launch) (Z : State) (a0 : Array Value) (hw : HW Z a0) (ws : List Jvm.Cond) (a : Addr) (ka : ClassId) (v0 : Int32) (v1 : Int32) (wU : Addr) (zc : Int32) (fm : Value) (h0 : Heap) (n0 : Nat) (O0 : Old Z n0 h0) (P0 : Arv Z h0 a ka .byte (2 : Int32) [(.int v0), (.int v1)] (.int 0)) (P1 : Exa Z h0 a "[B") (P2 : sT5 Z (.ref wU)) (P3 : sT0 Z (.int zc)) (P4 : ¬ zc = 0) (P5 : sT2 Z (.int 1)) (P6 : sT3 Z (.int 0)) (P7 : sT4 Z (.int 8)) (P8 : sT1 Z fm) (P9 : fm.isRef = true) (P10 : sT6 Z (.ref wU)) (P11 : Exa Z Z.heap wU "sun/nio/cs/UTF_8") (P12 : ¬ (v0 < (0 : Int32))) (P13 : ¬ (v1 < (0 : Int32))) :
    MetQ l yM35 (Jvm.Cond.code yM35 prog_5_method_5_code 1 (some (.object "java/lang/String"))) ws (rM 4 2 6 66) Z #[(.ref a)] h0 (Q_decA1_ Z a ka v0 v1 wU zc fm h0 n0) := by
  have hzc := P4
  have hfm := P9
  refine metQ (plainFor_of_name pn_4625033) hisR (fun m => ef1_R m a) ?_
  intro p e s m below meth c s₁ P Bd hx hby hml hZ hown hnm X0 e0 hP R0
  have N0 := Fr.nil n0
  obtain ⟨T642, h642, X642, e642, E642, A642, D642, -, st642⟩ := newO X0 hx hZ hown (hwI hw 8 rfl) (hwI hw 9 rfl) (hwI hw 10 rfl) e0 (g := (mkF m 0 #[rV a] [])) rfl (hb hby d1_0) (by decide) (by decide)
  obtain ⟨b642, g642⟩ : ∃ z, z = h0.size := ⟨_, rfl⟩
  rw [← g642] at A642 D642 st642
  have O642 := O0.ext E642
  have F642_50 : Fld Z h642 b642 "java/lang/String" "value" "[B" .null := D642 (Or.inr (hwI hw 50 rfl)) (ty := (.array .byte)) (by decide)
  have F642_52 : Fld Z h642 b642 "java/lang/String" "coder" "B" (.int 0) := D642 (Or.inr (hwI hw 52 rfl)) (ty := .byte) (by decide)
  obtain ⟨T643, X643, e643, st643⟩ := getS2 X642 hx hZ hown (host := "") (Or.inl (hwI hw 11 rfl)) Via.refl e642 (P10.ext O642.2) (g := (mkF m 5 #[rV a] [(.ref a), (.ref b642), (.ref b642)])) rfl (hb hby d1_5)
  have R644 : Go p e below P T643 (mkF m 8 #[rV a] [(.ref wU), (.ref a), (.ref b642), (.ref b642)]) := fun t_ k_ => R0 t_ (st642 t_ (XS.dup X642.here hx rfl (hb hby d1_3) rfl rfl (XS.aloadN X642.here hx rfl (hb hby d1_4) rfl rfl (st643 t_ k_))))
  have f645 := (P0.ext E642)
  have f646 := (P1.ext E642)
  obtain ⟨rv647, _, ⟨T647, L647, k647, n647⟩, -, X647, ⟨Lc647, hQ647, l647, y647, z647⟩, st647⟩ := X643.specialBack hx (y := yM34) rfl hown (mvT hZ (hwI hw 13 rfl)) (mvT hZ (hwI hw 14 rfl)) (mvT hZ (hwI hw 15 rfl)) (by decide) (backOf (W := 1) (injA1_ l Z a0 hw [] b642 a ka v0 v1 wU zc fm h642 n0 O642 A642 F642_50 F642_52 (Nat.le_trans (oldLe O0) (Nat.le_of_eq g642.symm)) f645 f646 P2 P3 hzc P5 P6 P7 P8 hfm P11 P12 P13) hZ (hwI hw 15 rfl) (hwI hw 10 rfl) (by decide) (by decide)) (g := (mkF m 8 #[rV a] [(.ref wU), (.ref a), (.ref b642), (.ref b642)])) rfl (by rw [hml]; rfl) (Steps.refl _) (a := b642) (argsL := [(.ref a), (.ref wU)]) (rest := [(.ref b642)]) (lenOf pd_90622059 rfl) rfl (by show 2 * 0 + _ ≤ _; exact Nat.le_of_eq rfl) (hb hby d1_8) (fun _ _ => ⟨rfl, e643, (by decide : 1 + 1 ≤ _), (by decide : 4 + 2 ≤ _)⟩)
  dsimp only [Pt.U, Pt.locs, Pt.cells, Pt.slots] at X647 l647 y647 z647 st647 hQ647
  subst l647 y647 z647
  obtain ⟨t_647, kb_647, rfl, N647q, K647, p647_0, p647_1, p647_2, p647_3⟩ := hQ647
  have N647 := Fr.app N0 N647q
  have O647 := O642.keep K647 (allS (Nat.le_trans (oldLe O0) (Nat.le_of_eq g642.symm)) all0)
  have R648 : Go p e below P T647 (mkF m 11 #[rV a] [(.ref b642)]) := fun t_ k_ => R644 t_ (st647.trans k_)
  obtain ⟨fs, hr, hrun, hended, hW, hsame⟩ := X647.leave (v := some (.ref b642)) (fun h => by rw [Bd.returns] at h; cases h)
  exact ⟨_, _, hP _ (R648 _ (retOut X647 hx Bd.returns rfl (Or.inr (Or.inr (Or.inr (Or.inr ⟨rfl, rfl, rfl⟩)))) (hb hby d1_11) hr)), hrun, hended, _, _, rfl, ⟨b642, t_647, kb_647, rfl, N647, (((Keep.refl h0 []).ext E642).trans K647 (allS (Or.inr (Nat.le_of_eq g642.symm)) all0)), (Nat.le_of_eq g642.symm), p647_0, p647_1, p647_2, p647_3⟩, ⟨_, rfl⟩, hW, hsame.mono (by decide) (by decide)⟩
theorem d4_78 : decode jdk_42_method_11_code 78 = .ok (.aload_n 2, 1) := by decide +kernel
theorem d4_79 : decode jdk_42_method_11_code 79 = .ok (.iload_n 3, 1) := by decide +kernel
theorem d4_80 : decode jdk_42_method_11_code 80 = .ok (.iload_n 3, 1) := by decide +kernel
theorem d4_81 : decode jdk_42_method_11_code 81 = .ok (.iload 4, 2) := by decide +kernel
theorem d4_83 : decode jdk_42_method_11_code 83 = .ok (.iadd, 1) := by decide +kernel
theorem d4_84 : decode jdk_42_method_11_code 84 = .ok (.invokestatic 54, 3) := by decide +kernel
theorem d4_87 : decode jdk_42_method_11_code 87 = .ok (.astore 6, 2) := by decide +kernel
theorem d4_89 : decode jdk_42_method_11_code 89 = .ok (.iload 5, 2) := by decide +kernel
theorem d4_91 : decode jdk_42_method_11_code 91 = .ok (.istore 7, 2) := by decide +kernel
theorem d4_93 : decode jdk_42_method_11_code 93 = .ok (.iload 7, 2) := by decide +kernel
theorem d4_95 : decode jdk_42_method_11_code 95 = .ok (.iload 4, 2) := by decide +kernel
theorem d4_97 : decode jdk_42_method_11_code 97 = .ok (.if_icmp .ge 93, 3) := by decide +kernel
theorem d4_100 : decode jdk_42_method_11_code 100 = .ok (.aload 6, 2) := by decide +kernel
theorem d4_102 : decode jdk_42_method_11_code 102 = .ok (.iload 7, 2) := by decide +kernel
theorem d4_104 : decode jdk_42_method_11_code 104 = .ok (.iinc 7 1, 3) := by decide +kernel
theorem d4_107 : decode jdk_42_method_11_code 107 = .ok (.baload, 1) := by decide +kernel
theorem d4_108 : decode jdk_42_method_11_code 108 = .ok (.istore 8, 2) := by decide +kernel
theorem d4_110 : decode jdk_42_method_11_code 110 = .ok (.iload 8, 2) := by decide +kernel
theorem d4_112 : decode jdk_42_method_11_code 112 = .ok (.ifCond .lt 17, 3) := by decide +kernel
theorem d4_129 : decode jdk_42_method_11_code 129 = .ok (.iload 8, 2) := by decide +kernel
theorem d4_131 : decode jdk_42_method_11_code 131 = .ok (.sipush 254, 3) := by decide +kernel
theorem d4_134 : decode jdk_42_method_11_code 134 = .ok (.iand, 1) := by decide +kernel
theorem d4_135 : decode jdk_42_method_11_code 135 = .ok (.sipush 194, 3) := by decide +kernel
theorem d4_138 : decode jdk_42_method_11_code 138 = .ok (.if_icmp .ne 46, 3) := by decide +kernel
theorem d4_141 : decode jdk_42_method_11_code 141 = .ok (.iload 7, 2) := by decide +kernel
theorem d4_143 : decode jdk_42_method_11_code 143 = .ok (.iload 4, 2) := by decide +kernel
theorem d4_145 : decode jdk_42_method_11_code 145 = .ok (.if_icmp .ge 39, 3) := by decide +kernel
theorem d4_184 : decode jdk_42_method_11_code 184 = .ok (.iinc 7 (-1), 3) := by decide +kernel
theorem d4_187 : decode jdk_42_method_11_code 187 = .ok (.goto 3, 3) := by decide +kernel
theorem d4_190 : decode jdk_42_method_11_code 190 = .ok (.iload 7, 2) := by decide +kernel
theorem d4_192 : decode jdk_42_method_11_code 192 = .ok (.iload 4, 2) := by decide +kernel
theorem d4_194 : decode jdk_42_method_11_code 194 = .ok (.if_icmp .ne 32, 3) := by decide +kernel
theorem d4_226 : decode jdk_42_method_11_code 226 = .ok (.iload 4, 2) := by decide +kernel
theorem d4_228 : decode jdk_42_method_11_code 228 = .ok (.invokestatic 60, 3) := by decide +kernel
theorem pd_1250628 : parseMethodDescriptor "(I)[B" = some ⟨[.int], some (.array .byte)⟩ := by decide +kernel
theorem d4_231 : decode jdk_42_method_11_code 231 = .ok (.astore 8, 2) := by decide +kernel
theorem d4_233 : decode jdk_42_method_11_code 233 = .ok (.aload 6, 2) := by decide +kernel
theorem d4_235 : decode jdk_42_method_11_code 235 = .ok (.iconst 0, 1) := by decide +kernel
theorem d4_236 : decode jdk_42_method_11_code 236 = .ok (.aload 8, 2) := by decide +kernel
theorem d4_238 : decode jdk_42_method_11_code 238 = .ok (.iconst 0, 1) := by decide +kernel
theorem d4_239 : decode jdk_42_method_11_code 239 = .ok (.iload 5, 2) := by decide +kernel
theorem d4_241 : decode jdk_42_method_11_code 241 = .ok (.invokestatic 106, 3) := by decide +kernel
theorem d4_244 : decode jdk_42_method_11_code 244 = .ok (.aload 6, 2) := by decide +kernel
theorem d4_246 : decode jdk_42_method_11_code 246 = .ok (.iload 7, 2) := by decide +kernel
theorem d4_248 : decode jdk_42_method_11_code 248 = .ok (.iload 4, 2) := by decide +kernel
theorem d4_250 : decode jdk_42_method_11_code 250 = .ok (.aload 8, 2) := by decide +kernel
theorem d4_252 : decode jdk_42_method_11_code 252 = .ok (.iload 5, 2) := by decide +kernel
theorem d4_254 : decode jdk_42_method_11_code 254 = .ok (.iconst 1, 1) := by decide +kernel
theorem d4_255 : decode jdk_42_method_11_code 255 = .ok (.invokestatic 112, 3) := by decide +kernel
theorem pd_22962144 : parseMethodDescriptor "([BII[BIZ)I" = some ⟨[(.array .byte), .int, .int, (.array .byte), .int, .boolean], some .int⟩ := by decide +kernel
theorem d4_258 : decode jdk_42_method_11_code 258 = .ok (.istore 5, 2) := by decide +kernel
theorem d4_260 : decode jdk_42_method_11_code 260 = .ok (.iload 5, 2) := by decide +kernel
theorem d4_262 : decode jdk_42_method_11_code 262 = .ok (.iload 4, 2) := by decide +kernel
theorem d4_264 : decode jdk_42_method_11_code 264 = .ok (.if_icmp .eq 14, 3) := by decide +kernel
theorem d4_278 : decode jdk_42_method_11_code 278 = .ok (.aload_n 0, 1) := by decide +kernel
theorem d4_279 : decode jdk_42_method_11_code 279 = .ok (.aload 8, 2) := by decide +kernel
theorem d4_281 : decode jdk_42_method_11_code 281 = .ok (.putfield 9, 3) := by decide +kernel
theorem d4_284 : decode jdk_42_method_11_code 284 = .ok (.aload_n 0, 1) := by decide +kernel
theorem d4_285 : decode jdk_42_method_11_code 285 = .ok (.iconst 1, 1) := by decide +kernel
theorem d4_286 : decode jdk_42_method_11_code 286 = .ok (.putfield 15, 3) := by decide +kernel
theorem d4_289 : decode jdk_42_method_11_code 289 = .ok (.goto 590, 3) := by decide +kernel
theorem d4_879 : decode jdk_42_method_11_code 879 = .ok (.return_, 1) := by decide +kernel
def Q_iniA2_ (Z : State) (x : Addr) (a : Addr) (ka : ClassId) (v0 : Int32) (v1 : Int32) (c0 : Int32) (wU : Addr) (zc : Int32) (fm : Value) (h0 : Heap) (n0 : Nat) (rv_ : Option Value) (rh_ : Heap) (rL_ : List Loc) : Prop := ∃ t : Addr, ∃ kb : ClassId, (rv_ = none) ∧ (Fr n0 rL_) ∧ (Keep h0 rh_ [x]) ∧ (Exa Z rh_ x "java/lang/String") ∧ (Fld Z rh_ x "java/lang/String" "coder" "B" (.int 1)) ∧ (Fld Z rh_ x "java/lang/String" "value" "[B" (.ref t)) ∧ (Arv Z rh_ t kb .byte (4 : Int32) [(.int (loB c0)), (.int (hiB c0)), (.int (loB (65533 : Int32))), (.int (hiB (65533 : Int32)))] (.int 0))
set_option maxRecDepth 65536 in
set_option maxHeartbeats 40000000 in
theorem iniA2_ (l : Launch) (Z : State) (a0 : Array Value) (hw : HW Z a0) (ws : List Jvm.Cond) (x : Addr) (a : Addr) (ka : ClassId) (v0 : Int32) (v1 : Int32) (c0 : Int32) (wU : Addr) (zc : Int32) (fm : Value) (h0 : Heap) (n0 : Nat) (O0 : Old Z n0 h0) (P0 : Exa Z h0 x "java/lang/String") (P1 : Fld Z h0 x "java/lang/String" "value" "[B" .null) (P2 : Fld Z h0 x "java/lang/String" "coder" "B" (.int 0)) (P3 : n0 ≤ x) (P4 : Arv Z h0 a ka .byte (2 : Int32) [(.int v0), (.int v1)] (.int 0)) (P5 : Exa Z h0 a "[B") (P6 : sT5 Z (.ref wU)) (P7 : sT0 Z (.int zc)) (P8 : ¬ zc = 0) (P9 : sT2 Z (.int 1)) (P10 : sT3 Z (.int 0)) (P11 : sT4 Z (.int 8)) (P12 : sT1 Z fm) (P13 : fm.isRef = true) (P14 : ¬ (v0 < (0 : Int32))) (P15 : v1 < (0 : Int32)) (P16 : (v0 &&& (255 : Int32)) = c0) :
    MetQ l yM33 (Jvm.Cond.codeWith yM33 jdk_42_method_11_code 11 none [((800 : Nat), (813 : Nat), (816 : Nat), (202 : Nat))]) ws (rM 5 2 6 76) Z #[(.ref x), (.ref wU), (.ref a), (.int 0), (.int 2)] h0 (Q_iniA2_ Z x a ka v0 v1 c0 wU zc fm h0 n0) := by
  have hzc := P8
  have hfm := P13
  have hc0 := P16
  refine metQ (plainFor_of_name pn_47582652) hisWith (fun m => ef4_RRRII m x wU a (0 : Int32) (2 : Int32)) ?_
  intro p e s m below meth c s₁ P Bd hx hby hml hZ hown hnm X0 e0 hP R0
  have N0 := Fr.nil n0
  have R649 : Go p e below P s₁ (mkF m 1 #[rV x, rV wU, rV a, iV 0, iV 2, uS, uS, uS, uS, uS, uS] [(.ref x)]) := fun t_ k_ => R0 t_ (XS.aloadN X0.here hx rfl (hb hby d4_0) rfl rfl k_)
  obtain ⟨T650, X650, e650, st650⟩ := initO X0 hx hZ hown (hwI hw 26 rfl) (hwI hw 27 rfl) (hwI hw 28 rfl) e0 (g := (mkF m 1 #[rV x, rV wU, rV a, iV 0, iV 2, uS, uS, uS, uS, uS, uS] [(.ref x)])) rfl (by rw [hml]; rfl) rfl (hb hby d4_1) (by decide) (W := 0) (by show 2 * 0 + _ ≤ _; exact Nat.le_of_eq rfl) (by decide)
  obtain ⟨T651, X651, e651, st651⟩ := getS2 X650 hx hZ hown (host := "") (Or.inl (hwI hw 29 rfl)) Via.refl e650 (P6.ext O0.2) (g := (mkF m 31 #[rV x, rV wU, rV a, iV 0, iV 2, uS, uS, uS, uS, uS, uS] [(.ref wU)])) rfl (hb hby d4_31)
  obtain ⟨T652, X652, e652, st652⟩ := getS2 X651 hx hZ hown (host := "") (Or.inl (hwI hw 31 rfl)) Via.refl e651 (P7.ext O0.2) (g := (mkF m 37 #[rV x, rV wU, rV a, iV 0, iV 2, uS, uS, uS, uS, uS, uS] [])) rfl (hb hby d4_37)
  have R653 : Go p e below P T652 (mkF m 47 #[rV x, rV wU, rV a, iV 0, iV 2, uS, uS, uS, uS, uS, uS] [(.int 2), (.int 0), (.ref a)]) := fun t_ k_ => R649 t_ (st650 t_ (XS.iload X650.here hx rfl (hb hby d4_4) rfl (XS.ifYes X650.here hx rfl (pc0 := 6) (pc' := 30) rfl (hb hby d4_6) rfl ((if0 _ _).trans (feq (by decide : ¬ ((2 : Int32) = (0 : Int32)))).2) (by decide) (by decide) (XS.aloadN X650.here hx rfl (hb hby d4_30) rfl rfl (st651 t_ (Jvm.RoadKit.acmp (g := (mkF m 34 #[rV x, rV wU, rV a, iV 0, iV 2, uS, uS, uS, uS, uS, uS] [(.ref wU), (.ref wU)])) X651 hx rfl rfl rfl (pc0 := 34) (pc' := 37) (same := true) rfl (hb hby d4_34) rfl (decide_eq_true (congrArg Value.ref rfl)) (by decide) (by decide) (st652 t_ (XS.ifNo X652.here hx rfl (hb hby d4_40) rfl ((if0 _ _).trans (feq hzc).1) (XS.aloadN X652.here hx rfl (hb hby d4_43) rfl rfl (XS.iloadN X652.here hx rfl (hb hby d4_44) rfl (XS.iload X652.here hx rfl (hb hby d4_45) rfl k_)))))))))))
  obtain ⟨rv654, T654, Lc654, X654, hQ654, R654⟩ := callQ X652 hx hZ hown e652 R653 (cpos21_ l Z a0 hw [] a ka v0 v1 h0 n0 O0 P4 P14 P15) (hwI hw 32 rfl) (hwI hw 33 rfl) (hwI hw 34 rfl) (hwI hw 35 rfl) [] rfl (by rw [hml]; rfl) (lenOf pd_14998784 rfl) rfl (W := 0) (wR rfl) (hb hby d4_47)
  obtain ⟨rfl, N654q, K654⟩ := hQ654
  have N654 := Fr.app N0 N654q
  have R655 : Go p e below P T654 (mkF m 84 #[rV x, rV wU, rV a, iV 0, iV 2, iV 1, uS, uS, uS, uS, uS] [(.int 2), (.int 0), (.ref a)]) := fun t_ k_ => R654 t_ (XS.istore X654.here hx rfl (hb hby d4_50) rfl (l' := #[rV x, rV wU, rV a, iV 0, iV 2, iV 1, uS, uS, uS, uS, uS]) rfl (XS.iload X654.here hx rfl (hb hby d4_52) rfl (XS.iload X654.here hx rfl (hb hby d4_54) rfl (XS.icmpYes X654.here hx rfl (pc0 := 56) (pc' := 78) rfl (hb hby d4_56) rfl (feq (by decide : ¬ ((1 : Int32) = (2 : Int32)))).2 (by decide) (by decide) (XS.aloadN X654.here hx rfl (hb hby d4_78) rfl rfl (XS.iloadN X654.here hx rfl (hb hby d4_79) rfl (XS.iloadN X654.here hx rfl (hb hby d4_80) rfl (XS.iload X654.here hx rfl (hb hby d4_81) rfl (XS.iadd X654.here hx rfl (hb hby d4_83) rfl k_)))))))))
  obtain ⟨rv656, T656, Lc656, X656, hQ656, R656⟩ := callQ X654 hx hZ hown K654 R655 (cor2_ l Z a0 hw [] a ka v0 v1 h0 n0 O0 P4 P5) (hwI hw 36 rfl) (hwI hw 37 rfl) (hwI hw 38 rfl) (hwI hw 39 rfl) [] rfl (by rw [hml]; rfl) (lenOf pd_64843128 rfl) rfl (W := 0) (wR rfl) (hb hby d4_84)
  obtain ⟨b_656, kb_656, rfl, N656q, K656, p656_0, p656_1⟩ := hQ656
  have N656 := Fr.app N654 N656q
  have O656 := O0.keep K656 all0
  have R657 : Go p e below P T656 (mkF m 107 #[rV x, rV wU, rV a, iV 0, iV 2, iV 1, rV b_656, iV 2, uS, uS, uS] [(.int 1), (.ref b_656)]) := fun t_ k_ => R656 t_ (XS.astore X656.here hx rfl (hb hby d4_87) rfl rfl (l' := #[rV x, rV wU, rV a, iV 0, iV 2, iV 1, rV b_656, uS, uS, uS, uS]) rfl (XS.iload X656.here hx rfl (hb hby d4_89) rfl (XS.istore X656.here hx rfl (hb hby d4_91) rfl (l' := #[rV x, rV wU, rV a, iV 0, iV 2, iV 1, rV b_656, iV 1, uS, uS, uS]) rfl (XS.iload X656.here hx rfl (hb hby d4_93) rfl (XS.iload X656.here hx rfl (hb hby d4_95) rfl (XS.icmpNo X656.here hx rfl (hb hby d4_97) rfl (tlt (by decide : (1 : Int32) < (2 : Int32))).2.1 (XS.aload X656.here hx rfl (hb hby d4_100) rfl rfl (XS.iload X656.here hx rfl (hb hby d4_102) rfl (XS.iinc X656.here hx rfl (hb hby d4_104) rfl (l' := #[rV x, rV wU, rV a, iV 0, iV 2, iV 1, rV b_656, iV ((1 : Int32) + (1 : Int32)), uS, uS, uS]) rfl k_)))))))))
  obtain ⟨cl658, cl658A, cl658q, cl658S, cl658N, cl658H, cl658G⟩ := id p656_1
  have ib659 := inb_of (j := (1 : Int32)) cl658S ⟨by decide, by decide⟩
  have R660 : Go p e below P T656 (mkF m 129 #[rV x, rV wU, rV a, iV 0, iV 2, iV 1, rV b_656, iV 2, iV v1, uS, uS] []) := fun t_ k_ => R657 t_ (apS (X656.baloadBytes hx (v := (.int v1)) (by rw [(rfl : T656.heap = T656.heap)]; exact cl658A.1) (State.isArrayOf_alike hZ.alike cl658A.2.1) cl658A.2.2 ib659 (cl658H.at ib659 rfl) rfl rfl (hb hby d4_107)) (XS.istore X656.here hx rfl (hb hby d4_108) rfl (l' := #[rV x, rV wU, rV a, iV 0, iV 2, iV 1, rV b_656, iV 2, iV v1, uS, uS]) rfl (XS.iload X656.here hx rfl (hb hby d4_110) rfl (XS.ifYes X656.here hx rfl (pc0 := 112) (pc' := 129) rfl (hb hby d4_112) rfl ((if0 _ _).trans (tlt P15).1) (by decide) (by decide) k_))))
  have R661 : Go p e below P T656 (mkF m 184 #[rV x, rV wU, rV a, iV 0, iV 2, iV 1, rV b_656, iV 2, iV v1, uS, uS] []) := by
    have R663 : Go p e below P T656 (mkF m 138 #[rV x, rV wU, rV a, iV 0, iV 2, iV 1, rV b_656, iV 2, iV v1, uS, uS] [(.int 194), (.int (v1 &&& (254 : Int32)))]) := fun t_ k_ => R660 t_ (XS.iload X656.here hx rfl (hb hby d4_129) rfl (XS.sipush X656.here hx rfl (hb hby d4_131) (XS.iand X656.here hx rfl (hb hby d4_134) rfl (XS.sipush X656.here hx rfl (hb hby d4_135) k_))))
    by_cases hc664 : (v1 &&& (254 : Int32)) = (194 : Int32)
    · have R665 : Go p e below P T656 (mkF m 184 #[rV x, rV wU, rV a, iV 0, iV 2, iV 1, rV b_656, iV 2, iV v1, uS, uS] []) := fun t_ k_ => R663 t_ (XS.icmpNo X656.here hx rfl (hb hby d4_138) rfl (teq hc664).2 (XS.iload X656.here hx rfl (hb hby d4_141) rfl (XS.iload X656.here hx rfl (hb hby d4_143) rfl (XS.icmpYes X656.here hx rfl (pc0 := 145) (pc' := 184) rfl (hb hby d4_145) rfl (flt (by decide : ¬ ((2 : Int32) < (2 : Int32)))).2.1 (by decide) (by decide) k_))))
      exact R665
    · have R666 : Go p e below P T656 (mkF m 184 #[rV x, rV wU, rV a, iV 0, iV 2, iV 1, rV b_656, iV 2, iV v1, uS, uS] []) := fun t_ k_ => R663 t_ (XS.icmpYes X656.here hx rfl (pc0 := 138) (pc' := 184) rfl (hb hby d4_138) rfl (feq hc664).2 (by decide) (by decide) k_)
      exact R666
  have R667 : Go p e below P T656 (mkF m 228 #[rV x, rV wU, rV a, iV 0, iV 2, iV 1, rV b_656, iV 1, iV v1, uS, uS] [(.int 2)]) := fun t_ k_ => R661 t_ (XS.iinc X656.here hx rfl (hb hby d4_184) rfl (l' := #[rV x, rV wU, rV a, iV 0, iV 2, iV 1, rV b_656, iV ((2 : Int32) + (-1 : Int32)), iV v1, uS, uS]) rfl (XS.goto X656.here hx rfl (pc0 := 187) (pc' := 190) rfl (hb hby d4_187) (by decide) (by decide) (XS.iload X656.here hx rfl (hb hby d4_190) rfl (XS.iload X656.here hx rfl (hb hby d4_192) rfl (XS.icmpYes X656.here hx rfl (pc0 := 194) (pc' := 226) rfl (hb hby d4_194) rfl (feq (by decide : ¬ ((1 : Int32) = (2 : Int32)))).2 (by decide) (by decide) (XS.iload X656.here hx rfl (hb hby d4_226) rfl k_))))))
  obtain ⟨rv668, T668, Lc668, X668, hQ668, R668⟩ := callQ X656 hx hZ hown (rfl : T656.heap = T656.heap) R667 (newB2_ l Z a0 hw []  T656.heap n0 O656) (hwI hw 86 rfl) (hwI hw 87 rfl) (hwI hw 88 rfl) (hwI hw 89 rfl) [] rfl (by rw [hml]; rfl) (lenOf pd_1250628 rfl) rfl (W := 0) (wR rfl) (hb hby d4_228)
  obtain ⟨b_668, kb_668, rfl, N668q, K668, p668_0, p668_1⟩ := hQ668
  have N668 := Fr.app N656 N668q
  have O668 := O656.keep K668 all0
  have R669 : Go p e below P T668 (mkF m 241 #[rV x, rV wU, rV a, iV 0, iV 2, iV 1, rV b_656, iV 1, rV b_668, uS, uS] [(.int 1), (.int 0), (.ref b_668), (.int 0), (.ref b_656)]) := fun t_ k_ => R668 t_ (XS.astore X668.here hx rfl (hb hby d4_231) rfl rfl (l' := #[rV x, rV wU, rV a, iV 0, iV 2, iV 1, rV b_656, iV 1, rV b_668, uS, uS]) rfl (XS.aload X668.here hx rfl (hb hby d4_233) rfl rfl (XS.iconst X668.here hx rfl (hb hby d4_235) (XS.aload X668.here hx rfl (hb hby d4_236) rfl rfl (XS.iconst X668.here hx rfl (hb hby d4_238) (XS.iload X668.here hx rfl (hb hby d4_239) rfl k_))))))
  have f670 := (p656_1.keep K668 nin0)
  obtain ⟨rv671, T671, Lc671, X671, hQ671, R671⟩ := callQ X668 hx hZ hown (rfl : T668.heap = T668.heap) R669 (inL1_2_ l Z a0 hw [] b_656 kb_656 v0 v1 b_668 kb_668 (4 : Int32) ([(.int 0), (.int 0), (.int 0), (.int 0)]) (2 : Int32) fm c0 T668.heap n0 O668 P9 P10 P11 P12 hfm (by decide) (by decide) f670 p668_1 (by decide) (Nat.le_trans (oldLe O656) p668_0) (Nat.ne_of_lt (Nat.lt_of_lt_of_le p656_1.lt p668_0)) hc0 (Nat.le_of_ble_eq_true rfl) rfl (Nat.le_of_ble_eq_true rfl)) (hwI hw 94 rfl) (hwI hw 95 rfl) (hwI hw 76 rfl) (hwI hw 96 rfl) [] rfl (by rw [hml]; rfl) (lenOf pd_17825761 rfl) rfl (W := 0) (wR rfl) (hb hby d4_241)
  obtain ⟨rfl, N671q, K671, p671_0⟩ := hQ671
  have N671 := Fr.app N668 N671q
  have O671 := O668.keep K671 (allS (Nat.le_trans (oldLe O656) p668_0) all0)
  have R672 : Go p e below P T671 (mkF m 255 #[rV x, rV wU, rV a, iV 0, iV 2, iV 1, rV b_656, iV 1, rV b_668, uS, uS] [(.int 1), (.int 1), (.ref b_668), (.int 2), (.int 1), (.ref b_656)]) := fun t_ k_ => R671 t_ (XS.aload X671.here hx rfl (hb hby d4_244) rfl rfl (XS.iload X671.here hx rfl (hb hby d4_246) rfl (XS.iload X671.here hx rfl (hb hby d4_248) rfl (XS.aload X671.here hx rfl (hb hby d4_250) rfl rfl (XS.iload X671.here hx rfl (hb hby d4_252) rfl (XS.iconst X671.here hx rfl (hb hby d4_254) k_))))))
  have f673 := (f670.keep K671 (ninS (Nat.ne_of_lt (Nat.lt_of_lt_of_le p656_1.lt p668_0)) nin0))
  obtain ⟨rv674, T674, Lc674, X674, hQ674, R674⟩ := callQ X671 hx hZ hown (rfl : T671.heap = T671.heap) R672 (decU20h_ l Z a0 hw [] b_656 kb_656 v0 v1 b_668 kb_668 (((([(.int 0), (.int 0), (.int 0), (.int 0)]).set (2 * 0) (.int (loB c0))).set (2 * 0 + 1) (.int (hiB c0)))) T671.heap n0 O671 P9 P10 P11 f673 p671_0 (Nat.le_trans (oldLe O656) p668_0) (Nat.ne_of_lt (Nat.lt_of_lt_of_le p656_1.lt p668_0)) rfl P15) (hwI hw 118 rfl) (hwI hw 119 rfl) (hwI hw 10 rfl) (hwI hw 120 rfl) [] rfl (by rw [hml]; rfl) (lenOf pd_22962144 rfl) rfl (W := 0) (wR rfl) (hb hby d4_255)
  obtain ⟨rfl, N674q, K674, p674_0⟩ := hQ674
  have N674 := Fr.app N671 N674q
  have O674 := O671.keep K674 (allS (Nat.le_trans (oldLe O656) p668_0) all0)
  have R675 : Go p e below P T674 (mkF m 260 #[rV x, rV wU, rV a, iV 0, iV 2, iV 2, rV b_656, iV 1, rV b_668, uS, uS] []) := fun t_ k_ => R674 t_ (XS.istore X674.here hx rfl (hb hby d4_258) rfl (l' := #[rV x, rV wU, rV a, iV 0, iV 2, iV 2, rV b_656, iV 1, rV b_668, uS, uS]) rfl k_)
  have Vl676 : Arv Z T674.heap b_668 kb_668 .byte (4 : Int32) [(.int (loB c0)), (.int (hiB c0)), (.int (loB (65533 : Int32))), (.int (hiB (65533 : Int32)))] (.int 0) := p674_0
  have f677 := ((((P0.keep K656).keep K668).keep K671).keep K674)
  have f678 := ((((P1.keep K656 nin0).keep K668 nin0).keep K671 (ninS (Nat.ne_of_lt (Nat.lt_of_lt_of_le (P0.keep K656).lt p668_0)) nin0)).keep K674 (ninS (Nat.ne_of_lt (Nat.lt_of_lt_of_le (P0.keep K656).lt p668_0)) nin0))
  obtain ⟨T679, h679, X679, e679, W679, st679⟩ := putF X674 hx hZ hown (host := "") (Or.inl (hwI hw 49 rfl)) Via.refl (rfl : T674.heap = T674.heap) f678 f677 (Or.inr ⟨(hwI hw 50 rfl), rfl, hnm⟩) (hwI hw 9 rfl) (ty := (.array .byte)) (by decide) rfl rfl (g := (mkF m 281 #[rV x, rV wU, rV a, iV 0, iV 2, iV 2, rV b_656, iV 1, rV b_668, uS, uS] [(.ref b_668), (.ref x)])) rfl rfl (hb hby d4_281)
  have N679 := Fr.snoc X679 N674 P3
  have Fw679 := f678.same W679
  have O679 := O674.wr W679 P3
  have f680 := (f677.wr W679)
  have f681 := (((((P2.keep K656 nin0).keep K668 nin0).keep K671 (ninS (Nat.ne_of_lt (Nat.lt_of_lt_of_le (P0.keep K656).lt p668_0)) nin0)).keep K674 (ninS (Nat.ne_of_lt (Nat.lt_of_lt_of_le (P0.keep K656).lt p668_0)) nin0)).other W679 (Or.inr (slot_ne (Or.inr (hwI hw 52 rfl)) (Or.inr (hwI hw 50 rfl)) (by decide) (t := .byte) (t' := (.array .byte)) (by decide) (by decide))))
  obtain ⟨T682, h682, X682, e682, W682, st682⟩ := putFN X679 hx hZ hown (hwI hw 51 rfl) Via.refl e679 f681 f680 (Or.inr ⟨(hwI hw 52 rfl), rfl, hnm⟩) (hwI hw 9 rfl) (ty := .byte) (v' := (.int 1)) (by decide) rfl rfl (g := (mkF m 286 #[rV x, rV wU, rV a, iV 0, iV 2, iV 2, rV b_656, iV 1, rV b_668, uS, uS] [(.int 1), (.ref x)])) rfl rfl (hb hby d4_286)
  have N682 := Fr.snoc X682 N679 P3
  have Fw682 := f681.same W682
  have O682 := O679.wr W682 P3
  have R683 : Go p e below P T682 (mkF m 879 #[rV x, rV wU, rV a, iV 0, iV 2, iV 2, rV b_656, iV 1, rV b_668, uS, uS] []) := fun t_ k_ => R675 t_ (XS.iload X674.here hx rfl (hb hby d4_260) rfl (XS.iload X674.here hx rfl (hb hby d4_262) rfl (XS.icmpYes X674.here hx rfl (pc0 := 264) (pc' := 278) rfl (hb hby d4_264) rfl (teq rfl).1 (by decide) (by decide) (XS.aloadN X674.here hx rfl (hb hby d4_278) rfl rfl (XS.aload X674.here hx rfl (hb hby d4_279) rfl rfl (st679 t_ (XS.aloadN X679.here hx rfl (hb hby d4_284) rfl rfl (XS.iconst X679.here hx rfl (hb hby d4_285) (st682 t_ (XS.goto X682.here hx rfl (pc0 := 289) (pc' := 879) rfl (hb hby d4_289) (by decide) (by decide) k_))))))))))
  obtain ⟨fs, hr, hrun, hended, hW, hsame⟩ := X682.leave (v := none) (fun _ => rfl)
  have f684 := (f680.wr W682)
  have f685 := (Fw679.other W682 (Or.inr (slot_ne (Or.inr (hwI hw 50 rfl)) (Or.inr (hwI hw 52 rfl)) (by decide) (t := (.array .byte)) (t' := .byte) (by decide) (by decide))))
  have f686 := ((Vl676.other W679 (Ne.symm (Nat.ne_of_lt (Nat.lt_of_lt_of_le (P0.keep K656).lt p668_0)))).other W682 (Ne.symm (Nat.ne_of_lt (Nat.lt_of_lt_of_le (P0.keep K656).lt p668_0))))
  exact ⟨_, _, hP _ (R683 _ (X682.returnOut hx Bd.returns (hb hby d4_879) hr)), hrun, hended, _, _, rfl, ⟨b_668, kb_668, rfl, N682, (e682.symm ▸ (((((((Keep.refl h0 [x]).trans K656 all0).trans K668 all0).trans K671 (allS (Or.inr (Nat.le_trans ((Keep.refl h0 [x]).trans K656 all0).1 p668_0)) all0)).trans K674 (allS (Or.inr (Nat.le_trans ((Keep.refl h0 [x]).trans K656 all0).1 p668_0)) all0)).wr W679 (Or.inl (List.mem_of_getElem? (i := 0) rfl))).wr W682 (Or.inl (List.mem_of_getElem? (i := 0) rfl)))), (e682.symm ▸ f684), (e682.symm ▸ Fw682), (e682.symm ▸ f685), (e682.symm ▸ f686)⟩, ⟨_, rfl⟩, hW, hsame.mono (by decide) (by decide)⟩
def Q_injA2_ (Z : State) (x : Addr) (a : Addr) (ka : ClassId) (v0 : Int32) (v1 : Int32) (c0 : Int32) (wU : Addr) (zc : Int32) (fm : Value) (h0 : Heap) (n0 : Nat) (rv_ : Option Value) (rh_ : Heap) (rL_ : List Loc) : Prop := ∃ t : Addr, ∃ kb : ClassId, (rv_ = none) ∧ (Fr n0 rL_) ∧ (Keep h0 rh_ [x]) ∧ (Exa Z rh_ x "java/lang/String") ∧ (Fld Z rh_ x "java/lang/String" "coder" "B" (.int 1)) ∧ (Fld Z rh_ x "java/lang/String" "value" "[B" (.ref t)) ∧ (Arv Z rh_ t kb .byte (4 : Int32) [(.int (loB c0)), (.int (hiB c0)), (.int (loB (65533 : Int32))), (.int (hiB (65533 : Int32)))] (.int 0))
set_option maxRecDepth 65536 in
set_option maxHeartbeats 40000000 in
theorem injA2_ (l : Launch) (Z : State) (a0 : Array Value) (hw : HW Z a0) (ws : List Jvm.Cond) (x : Addr) (a : Addr) (ka : ClassId) (v0 : Int32) (v1 : Int32) (c0 : Int32) (wU : Addr) (zc : Int32) (fm : Value) (h0 : Heap) (n0 : Nat) (O0 : Old Z n0 h0) (P0 : Exa Z h0 x "java/lang/String") (P1 : Fld Z h0 x "java/lang/String" "value" "[B" .null) (P2 : Fld Z h0 x "java/lang/String" "coder" "B" (.int 0)) (P3 : n0 ≤ x) (P4 : Arv Z h0 a ka .byte (2 : Int32) [(.int v0), (.int v1)] (.int 0)) (P5 : Exa Z h0 a "[B") (P6 : sT5 Z (.ref wU)) (P7 : sT0 Z (.int zc)) (P8 : ¬ zc = 0) (P9 : sT2 Z (.int 1)) (P10 : sT3 Z (.int 0)) (P11 : sT4 Z (.int 8)) (P12 : sT1 Z fm) (P13 : fm.isRef = true) (P14 : Exa Z Z.heap wU "sun/nio/cs/UTF_8") (P15 : ¬ (v0 < (0 : Int32))) (P16 : v1 < (0 : Int32)) (P17 : (v0 &&& (255 : Int32)) = c0) :
    MetQ l yM34 (Jvm.Cond.code yM34 jdk_42_method_49_code 3 none) ws (rM 6 2 6 98) Z #[(.ref x), (.ref a), (.ref wU)] h0 (Q_injA2_ Z x a ka v0 v1 c0 wU zc fm h0 n0) := by
  have hzc := P8
  have hfm := P13
  have hc0 := P17
  refine metQ (plainFor_of_name pn_47582652) hisR (fun m => ef2_RRR m x a wU) ?_
  intro p e s m below meth c s₁ P Bd hx hby hml hZ hown hnm X0 e0 hP R0
  have N0 := Fr.nil n0
  have R687 : Go p e below P s₁ (mkF m 2 #[rV x, rV a, rV wU] [(.ref wU), (.ref x)]) := fun t_ k_ => R0 t_ (XS.aloadN X0.here hx rfl (hb hby d2_0) rfl rfl (XS.aloadN X0.here hx rfl (hb hby d2_1) rfl rfl k_))
  obtain ⟨rv688, T688, Lc688, X688, hQ688, R688⟩ := callQ X0 hx hZ hown e0 R687 (rnn_ l Z a0 hw [] wU h0 n0 O0) (hwI hw 16 rfl) (hwI hw 17 rfl) (hwI hw 18 rfl) (hwI hw 19 rfl) [(.ref x)] rfl (by rw [hml]; rfl) (lenOf pd_72566344 rfl) rfl (W := 1) (wR rfl) (hb hby d2_2)
  obtain ⟨rfl, N688q, K688⟩ := hQ688
  have N688 := Fr.app N0 N688q
  obtain ⟨T689, X689, e689, st689⟩ := castY X688 hx hZ hown (hwI hw 20 rfl) K688 (Ins.of_exa (P14.ext O0.2) (hwI hw 21 rfl)) (g := (mkF m 5 #[rV x, rV a, rV wU] [(.ref wU), (.ref x)])) rfl rfl (hb hby d2_5)
  have R690 : Go p e below P T689 (mkF m 11 #[rV x, rV a, rV wU] [(.ref a), (.int 0), (.ref a), (.ref wU), (.ref x)]) := fun t_ k_ => R688 t_ (st689 t_ (XS.aloadN X689.here hx rfl (hb hby d2_8) rfl rfl (XS.iconst X689.here hx rfl (hb hby d2_9) (XS.aloadN X689.here hx rfl (hb hby d2_10) rfl rfl k_))))
  obtain ⟨cl691, cl691A, -, cl691S, cl691N, -, -⟩ := id P4
  have R692 : Go p e below P T689 (mkF m 12 #[rV x, rV a, rV wU] [(.int 2), (.int 0), (.ref a), (.ref wU), (.ref x)]) := fun t_ k_ => R690 t_ (X689.arraylength hx (by rw [e689]; exact cl691A.1) (State.isArrayOf_alike hZ.alike cl691A.2.1) (g := (mkF m 11 #[rV x, rV a, rV wU] [(.ref a), (.int 0), (.ref a), (.ref wU), (.ref x)])) rfl rfl (hb hby d2_11) t_ (by rw [len_of cl691S cl691N]; exact k_))
  obtain ⟨rv693, _, ⟨T693, L693, k693, n693⟩, -, X693, ⟨Lc693, hQ693, l693, y693, z693⟩, st693⟩ := X689.specialBackH hx (y := yM33) rfl hown (mvT hZ (hwI hw 22 rfl)) (mvT hZ (hwI hw 23 rfl)) (mvT hZ (hwI hw 25 rfl)) (by decide) (backOfWith (W := 0) (iniA2_ l Z a0 hw [] x a ka v0 v1 c0 wU zc fm h0 n0 O0 P0 P1 P2 P3 P4 P5 P6 P7 hzc P9 P10 P11 P12 hfm P15 P16 hc0) hZ (hwI hw 25 rfl) (hwI hw 10 rfl) (by decide) (by decide)) (g := (mkF m 12 #[rV x, rV a, rV wU] [(.int 2), (.int 0), (.ref a), (.ref wU), (.ref x)])) rfl (by rw [hml]; rfl) (Steps.refl _) (a := x) (argsL := [(.ref wU), (.ref a), (.int 0), (.int 2)]) (rest := []) (lenOf pd_41235415 rfl) rfl (by show 2 * 0 + _ ≤ _; exact Nat.le_of_eq rfl) (hb hby d2_12) (fun _ _ => ⟨rfl, e689, (by decide : 0 + 2 ≤ _), (by decide : 0 + 6 ≤ _)⟩)
  dsimp only [Pt.U, Pt.locs, Pt.cells, Pt.slots] at X693 l693 y693 z693 st693 hQ693
  subst l693 y693 z693
  obtain ⟨t_693, kb_693, rfl, N693q, K693, p693_0, p693_1, p693_2, p693_3⟩ := hQ693
  have N693 := Fr.app N688 N693q
  have O693 := O0.keep K693 (allS P3 all0)
  have R694 : Go p e below P T693 (mkF m 15 #[rV x, rV a, rV wU] []) := fun t_ k_ => R692 t_ (st693.trans k_)
  obtain ⟨fs, hr, hrun, hended, hW, hsame⟩ := X693.leave (v := none) (fun _ => rfl)
  exact ⟨_, _, hP _ (R694 _ (X693.returnOut hx Bd.returns (hb hby d2_15) hr)), hrun, hended, _, _, rfl, ⟨t_693, kb_693, rfl, N693, ((Keep.refl h0 [x]).trans K693 (allS (Or.inl (List.mem_of_getElem? (i := 0) rfl)) all0)), p693_0, p693_1, p693_2, p693_3⟩, ⟨_, rfl⟩, hW, hsame.mono (by decide) (by decide)⟩
def Q_decA2_ (Z : State) (a : Addr) (ka : ClassId) (v0 : Int32) (v1 : Int32) (c0 : Int32) (wU : Addr) (zc : Int32) (fm : Value) (h0 : Heap) (n0 : Nat) (rv_ : Option Value) (rh_ : Heap) (rL_ : List Loc) : Prop := ∃ x : Addr, ∃ t : Addr, ∃ kb : ClassId, (rv_ = some (.ref x)) ∧ (Fr n0 rL_) ∧ (Keep h0 rh_ []) ∧ (h0.size ≤ x) ∧ (Exa Z rh_ x "java/lang/String") ∧ (Fld Z rh_ x "java/lang/String" "coder" "B" (.int 1)) ∧ (Fld Z rh_ x "java/lang/String" "value" "[B" (.ref t)) ∧ (Arv Z rh_ t kb .byte (4 : Int32) [(.int (loB c0)), (.int (hiB c0)), (.int (loB (65533 : Int32))), (.int (hiB (65533 : Int32)))] (.int 0))
set_option maxRecDepth 65536 in
set_option maxHeartbeats 40000000 in
theorem decA2_ (l : Launch) (Z : State) (a0 : Array Value) (hw : HW Z a0) (ws : List Jvm.Cond) (a : Addr) (ka : ClassId) (v0 : Int32) (v1 : Int32) (c0 : Int32) (wU : Addr) (zc : Int32) (fm : Value) (h0 : Heap) (n0 : Nat) (O0 : Old Z n0 h0) (P0 : Arv Z h0 a ka .byte (2 : Int32) [(.int v0), (.int v1)] (.int 0)) (P1 : Exa Z h0 a "[B") (P2 : sT5 Z (.ref wU)) (P3 : sT0 Z (.int zc)) (P4 : ¬ zc = 0) (P5 : sT2 Z (.int 1)) (P6 : sT3 Z (.int 0)) (P7 : sT4 Z (.int 8)) (P8 : sT1 Z fm) (P9 : fm.isRef = true) (P10 : sT6 Z (.ref wU)) (P11 : Exa Z Z.heap wU "sun/nio/cs/UTF_8") (P12 : ¬ (v0 < (0 : Int32))) (P13 : v1 < (0 : Int32)) (P14 : (v0 &&& (255 : Int32)) = c0) :
    MetQ l yM35 (Jvm.Cond.code yM35 prog_5_method_5_code 1 (some (.object "java/lang/String"))) ws (rM 7 3 10 113) Z #[(.ref a)] h0 (Q_decA2_ Z a ka v0 v1 c0 wU zc fm h0 n0) := by
  have hzc := P4
  have hfm := P9
  have hc0 := P14
  refine metQ (plainFor_of_name pn_4625033) hisR (fun m => ef1_R m a) ?_
  intro p e s m below meth c s₁ P Bd hx hby hml hZ hown hnm X0 e0 hP R0
  have N0 := Fr.nil n0
  obtain ⟨T695, h695, X695, e695, E695, A695, D695, -, st695⟩ := newO X0 hx hZ hown (hwI hw 8 rfl) (hwI hw 9 rfl) (hwI hw 10 rfl) e0 (g := (mkF m 0 #[rV a] [])) rfl (hb hby d1_0) (by decide) (by decide)
  obtain ⟨b695, g695⟩ : ∃ z, z = h0.size := ⟨_, rfl⟩
  rw [← g695] at A695 D695 st695
  have O695 := O0.ext E695
  have F695_50 : Fld Z h695 b695 "java/lang/String" "value" "[B" .null := D695 (Or.inr (hwI hw 50 rfl)) (ty := (.array .byte)) (by decide)
  have F695_52 : Fld Z h695 b695 "java/lang/String" "coder" "B" (.int 0) := D695 (Or.inr (hwI hw 52 rfl)) (ty := .byte) (by decide)
  obtain ⟨T696, X696, e696, st696⟩ := getS2 X695 hx hZ hown (host := "") (Or.inl (hwI hw 11 rfl)) Via.refl e695 (P10.ext O695.2) (g := (mkF m 5 #[rV a] [(.ref a), (.ref b695), (.ref b695)])) rfl (hb hby d1_5)
  have R697 : Go p e below P T696 (mkF m 8 #[rV a] [(.ref wU), (.ref a), (.ref b695), (.ref b695)]) := fun t_ k_ => R0 t_ (st695 t_ (XS.dup X695.here hx rfl (hb hby d1_3) rfl rfl (XS.aloadN X695.here hx rfl (hb hby d1_4) rfl rfl (st696 t_ k_))))
  have f698 := (P0.ext E695)
  have f699 := (P1.ext E695)
  obtain ⟨rv700, _, ⟨T700, L700, k700, n700⟩, -, X700, ⟨Lc700, hQ700, l700, y700, z700⟩, st700⟩ := X696.specialBack hx (y := yM34) rfl hown (mvT hZ (hwI hw 13 rfl)) (mvT hZ (hwI hw 14 rfl)) (mvT hZ (hwI hw 15 rfl)) (by decide) (backOf (W := 1) (injA2_ l Z a0 hw [] b695 a ka v0 v1 c0 wU zc fm h695 n0 O695 A695 F695_50 F695_52 (Nat.le_trans (oldLe O0) (Nat.le_of_eq g695.symm)) f698 f699 P2 P3 hzc P5 P6 P7 P8 hfm P11 P12 P13 hc0) hZ (hwI hw 15 rfl) (hwI hw 10 rfl) (by decide) (by decide)) (g := (mkF m 8 #[rV a] [(.ref wU), (.ref a), (.ref b695), (.ref b695)])) rfl (by rw [hml]; rfl) (Steps.refl _) (a := b695) (argsL := [(.ref a), (.ref wU)]) (rest := [(.ref b695)]) (lenOf pd_90622059 rfl) rfl (by show 2 * 0 + _ ≤ _; exact Nat.le_of_eq rfl) (hb hby d1_8) (fun _ _ => ⟨rfl, e696, (by decide : 1 + 2 ≤ _), (by decide : 4 + 6 ≤ _)⟩)
  dsimp only [Pt.U, Pt.locs, Pt.cells, Pt.slots] at X700 l700 y700 z700 st700 hQ700
  subst l700 y700 z700
  obtain ⟨t_700, kb_700, rfl, N700q, K700, p700_0, p700_1, p700_2, p700_3⟩ := hQ700
  have N700 := Fr.app N0 N700q
  have O700 := O695.keep K700 (allS (Nat.le_trans (oldLe O0) (Nat.le_of_eq g695.symm)) all0)
  have R701 : Go p e below P T700 (mkF m 11 #[rV a] [(.ref b695)]) := fun t_ k_ => R697 t_ (st700.trans k_)
  obtain ⟨fs, hr, hrun, hended, hW, hsame⟩ := X700.leave (v := some (.ref b695)) (fun h => by rw [Bd.returns] at h; cases h)
  exact ⟨_, _, hP _ (R701 _ (retOut X700 hx Bd.returns rfl (Or.inr (Or.inr (Or.inr (Or.inr ⟨rfl, rfl, rfl⟩)))) (hb hby d1_11) hr)), hrun, hended, _, _, rfl, ⟨b695, t_700, kb_700, rfl, N700, (((Keep.refl h0 []).ext E695).trans K700 (allS (Or.inr (Nat.le_of_eq g695.symm)) all0)), (Nat.le_of_eq g695.symm), p700_0, p700_1, p700_2, p700_3⟩, ⟨_, rfl⟩, hW, hsame.mono (by decide) (by decide)⟩
theorem d4_148 : decode jdk_42_method_11_code 148 = .ok (.aload 6, 2) := by decide +kernel
theorem d4_150 : decode jdk_42_method_11_code 150 = .ok (.iload 7, 2) := by decide +kernel
theorem d4_152 : decode jdk_42_method_11_code 152 = .ok (.baload, 1) := by decide +kernel
theorem d4_153 : decode jdk_42_method_11_code 153 = .ok (.istore 9, 2) := by decide +kernel
theorem d4_155 : decode jdk_42_method_11_code 155 = .ok (.iload 9, 2) := by decide +kernel
theorem d4_157 : decode jdk_42_method_11_code 157 = .ok (.bipush (-64), 2) := by decide +kernel
theorem d4_159 : decode jdk_42_method_11_code 159 = .ok (.if_icmp .ge 25, 3) := by decide +kernel
theorem d4_162 : decode jdk_42_method_11_code 162 = .ok (.aload 6, 2) := by decide +kernel
theorem d4_164 : decode jdk_42_method_11_code 164 = .ok (.iload 5, 2) := by decide +kernel
theorem d4_166 : decode jdk_42_method_11_code 166 = .ok (.iinc 5 1, 3) := by decide +kernel
theorem d4_169 : decode jdk_42_method_11_code 169 = .ok (.iload 8, 2) := by decide +kernel
theorem d4_171 : decode jdk_42_method_11_code 171 = .ok (.iload 9, 2) := by decide +kernel
theorem d4_173 : decode jdk_42_method_11_code 173 = .ok (.invokestatic 98, 3) := by decide +kernel
theorem d4_176 : decode jdk_42_method_11_code 176 = .ok (.i2b, 1) := by decide +kernel
theorem d4_177 : decode jdk_42_method_11_code 177 = .ok (.bastore, 1) := by decide +kernel
theorem d4_178 : decode jdk_42_method_11_code 178 = .ok (.iinc 7 1, 3) := by decide +kernel
theorem d4_181 : decode jdk_42_method_11_code 181 = .ok (.goto (-88), 3) := by decide +kernel
theorem d4_115 : decode jdk_42_method_11_code 115 = .ok (.aload 6, 2) := by decide +kernel
theorem d4_117 : decode jdk_42_method_11_code 117 = .ok (.iload 5, 2) := by decide +kernel
theorem d4_119 : decode jdk_42_method_11_code 119 = .ok (.iinc 5 1, 3) := by decide +kernel
theorem d4_122 : decode jdk_42_method_11_code 122 = .ok (.iload 8, 2) := by decide +kernel
theorem d4_124 : decode jdk_42_method_11_code 124 = .ok (.i2b, 1) := by decide +kernel
theorem d4_125 : decode jdk_42_method_11_code 125 = .ok (.bastore, 1) := by decide +kernel
theorem d4_126 : decode jdk_42_method_11_code 126 = .ok (.goto (-33), 3) := by decide +kernel
theorem d4_197 : decode jdk_42_method_11_code 197 = .ok (.iload 5, 2) := by decide +kernel
theorem d4_199 : decode jdk_42_method_11_code 199 = .ok (.aload 6, 2) := by decide +kernel
theorem d4_201 : decode jdk_42_method_11_code 201 = .ok (.arraylength, 1) := by decide +kernel
theorem d4_202 : decode jdk_42_method_11_code 202 = .ok (.if_icmp .eq 12, 3) := by decide +kernel
theorem d4_205 : decode jdk_42_method_11_code 205 = .ok (.aload 6, 2) := by decide +kernel
theorem d4_207 : decode jdk_42_method_11_code 207 = .ok (.iload 5, 2) := by decide +kernel
theorem d4_209 : decode jdk_42_method_11_code 209 = .ok (.invokestatic 102, 3) := by decide +kernel
theorem pd_14456175 : parseMethodDescriptor "([BI)[B" = some ⟨[(.array .byte), .int], some (.array .byte)⟩ := by decide +kernel
theorem d4_212 : decode jdk_42_method_11_code 212 = .ok (.astore 6, 2) := by decide +kernel
theorem d4_214 : decode jdk_42_method_11_code 214 = .ok (.aload_n 0, 1) := by decide +kernel
theorem d4_215 : decode jdk_42_method_11_code 215 = .ok (.aload 6, 2) := by decide +kernel
theorem d4_217 : decode jdk_42_method_11_code 217 = .ok (.putfield 9, 3) := by decide +kernel
theorem d4_220 : decode jdk_42_method_11_code 220 = .ok (.aload_n 0, 1) := by decide +kernel
theorem d4_221 : decode jdk_42_method_11_code 221 = .ok (.iconst 0, 1) := by decide +kernel
theorem d4_222 : decode jdk_42_method_11_code 222 = .ok (.putfield 15, 3) := by decide +kernel
theorem d4_225 : decode jdk_42_method_11_code 225 = .ok (.return_, 1) := by decide +kernel
def Q_iniBl_ (Z : State) (x : Addr) (a : Addr) (ka : ClassId) (v0 : Int32) (v1 : Int32) (v2 : Int32) (c0 : Int32) (wU : Addr) (zc : Int32) (fm : Value) (h0 : Heap) (n0 : Nat) (rv_ : Option Value) (rh_ : Heap) (rL_ : List Loc) : Prop := ∃ t : Addr, ∃ kb : ClassId, (rv_ = none) ∧ (Fr n0 rL_) ∧ (Keep h0 rh_ [x]) ∧ (Exa Z rh_ x "java/lang/String") ∧ (Fld Z rh_ x "java/lang/String" "coder" "B" (.int 0)) ∧ (Fld Z rh_ x "java/lang/String" "value" "[B" (.ref t)) ∧ (Arv Z rh_ t kb .byte (2 : Int32) [(.int (c0.toInt8.toInt32)), (.int v2)] (.int 0))
set_option maxRecDepth 65536 in
set_option maxHeartbeats 40000000 in
theorem iniBl_ (l : Launch) (Z : State) (a0 : Array Value) (hw : HW Z a0) (ws : List Jvm.Cond) (x : Addr) (a : Addr) (ka : ClassId) (v0 : Int32) (v1 : Int32) (v2 : Int32) (c0 : Int32) (wU : Addr) (zc : Int32) (fm : Value) (h0 : Heap) (n0 : Nat) (O0 : Old Z n0 h0) (P0 : Exa Z h0 x "java/lang/String") (P1 : Fld Z h0 x "java/lang/String" "value" "[B" .null) (P2 : Fld Z h0 x "java/lang/String" "coder" "B" (.int 0)) (P3 : n0 ≤ x) (P4 : Arv Z h0 a ka .byte (3 : Int32) [(.int v0), (.int v1), (.int v2)] (.int 0)) (P5 : Exa Z h0 a "[B") (P6 : sT5 Z (.ref wU)) (P7 : sT0 Z (.int zc)) (P8 : ¬ zc = 0) (P9 : sT2 Z (.int 1)) (P10 : sT3 Z (.int 0)) (P11 : sT4 Z (.int 8)) (P12 : sT1 Z fm) (P13 : fm.isRef = true) (P14 : v0 < (0 : Int32)) (P15 : (v0 &&& (254 : Int32)) = (194 : Int32)) (P16 : v1 < (-64 : Int32)) (P17 : d2 v0 v1 = c0) (P18 : ¬ (v2 < (0 : Int32))) (P19 : nar .byte (v2.toInt8.toInt32) = v2) :
    MetQ l yM33 (Jvm.Cond.codeWith yM33 jdk_42_method_11_code 11 none [((800 : Nat), (813 : Nat), (816 : Nat), (202 : Nat))]) ws (rM 2 2 5 32) Z #[(.ref x), (.ref wU), (.ref a), (.int 0), (.int 3)] h0 (Q_iniBl_ Z x a ka v0 v1 v2 c0 wU zc fm h0 n0) := by
  have hzc := P8
  have hfm := P13
  have hd := P17
  have hb8 := P19
  refine metQ (plainFor_of_name pn_47582652) hisWith (fun m => ef4_RRRII m x wU a (0 : Int32) (3 : Int32)) ?_
  intro p e s m below meth c s₁ P Bd hx hby hml hZ hown hnm X0 e0 hP R0
  have N0 := Fr.nil n0
  have R702 : Go p e below P s₁ (mkF m 1 #[rV x, rV wU, rV a, iV 0, iV 3, uS, uS, uS, uS, uS, uS] [(.ref x)]) := fun t_ k_ => R0 t_ (XS.aloadN X0.here hx rfl (hb hby d4_0) rfl rfl k_)
  obtain ⟨T703, X703, e703, st703⟩ := initO X0 hx hZ hown (hwI hw 26 rfl) (hwI hw 27 rfl) (hwI hw 28 rfl) e0 (g := (mkF m 1 #[rV x, rV wU, rV a, iV 0, iV 3, uS, uS, uS, uS, uS, uS] [(.ref x)])) rfl (by rw [hml]; rfl) rfl (hb hby d4_1) (by decide) (W := 0) (by show 2 * 0 + _ ≤ _; exact Nat.le_of_eq rfl) (by decide)
  obtain ⟨T704, X704, e704, st704⟩ := getS2 X703 hx hZ hown (host := "") (Or.inl (hwI hw 29 rfl)) Via.refl e703 (P6.ext O0.2) (g := (mkF m 31 #[rV x, rV wU, rV a, iV 0, iV 3, uS, uS, uS, uS, uS, uS] [(.ref wU)])) rfl (hb hby d4_31)
  obtain ⟨T705, X705, e705, st705⟩ := getS2 X704 hx hZ hown (host := "") (Or.inl (hwI hw 31 rfl)) Via.refl e704 (P7.ext O0.2) (g := (mkF m 37 #[rV x, rV wU, rV a, iV 0, iV 3, uS, uS, uS, uS, uS, uS] [])) rfl (hb hby d4_37)
  have R706 : Go p e below P T705 (mkF m 47 #[rV x, rV wU, rV a, iV 0, iV 3, uS, uS, uS, uS, uS, uS] [(.int 3), (.int 0), (.ref a)]) := fun t_ k_ => R702 t_ (st703 t_ (XS.iload X703.here hx rfl (hb hby d4_4) rfl (XS.ifYes X703.here hx rfl (pc0 := 6) (pc' := 30) rfl (hb hby d4_6) rfl ((if0 _ _).trans (feq (by decide : ¬ ((3 : Int32) = (0 : Int32)))).2) (by decide) (by decide) (XS.aloadN X703.here hx rfl (hb hby d4_30) rfl rfl (st704 t_ (Jvm.RoadKit.acmp (g := (mkF m 34 #[rV x, rV wU, rV a, iV 0, iV 3, uS, uS, uS, uS, uS, uS] [(.ref wU), (.ref wU)])) X704 hx rfl rfl rfl (pc0 := 34) (pc' := 37) (same := true) rfl (hb hby d4_34) rfl (decide_eq_true (congrArg Value.ref rfl)) (by decide) (by decide) (st705 t_ (XS.ifNo X705.here hx rfl (hb hby d4_40) rfl ((if0 _ _).trans (feq hzc).1) (XS.aloadN X705.here hx rfl (hb hby d4_43) rfl rfl (XS.iloadN X705.here hx rfl (hb hby d4_44) rfl (XS.iload X705.here hx rfl (hb hby d4_45) rfl k_)))))))))))
  obtain ⟨rv707, T707, Lc707, X707, hQ707, R707⟩ := callQ X705 hx hZ hown e705 R706 (cpos30_ l Z a0 hw [] a ka v0 v1 v2 h0 n0 O0 P4 P14) (hwI hw 32 rfl) (hwI hw 33 rfl) (hwI hw 34 rfl) (hwI hw 35 rfl) [] rfl (by rw [hml]; rfl) (lenOf pd_14998784 rfl) rfl (W := 0) (wR rfl) (hb hby d4_47)
  obtain ⟨rfl, N707q, K707⟩ := hQ707
  have N707 := Fr.app N0 N707q
  have R708 : Go p e below P T707 (mkF m 84 #[rV x, rV wU, rV a, iV 0, iV 3, iV 0, uS, uS, uS, uS, uS] [(.int 3), (.int 0), (.ref a)]) := fun t_ k_ => R707 t_ (XS.istore X707.here hx rfl (hb hby d4_50) rfl (l' := #[rV x, rV wU, rV a, iV 0, iV 3, iV 0, uS, uS, uS, uS, uS]) rfl (XS.iload X707.here hx rfl (hb hby d4_52) rfl (XS.iload X707.here hx rfl (hb hby d4_54) rfl (XS.icmpYes X707.here hx rfl (pc0 := 56) (pc' := 78) rfl (hb hby d4_56) rfl (feq (by decide : ¬ ((0 : Int32) = (3 : Int32)))).2 (by decide) (by decide) (XS.aloadN X707.here hx rfl (hb hby d4_78) rfl rfl (XS.iloadN X707.here hx rfl (hb hby d4_79) rfl (XS.iloadN X707.here hx rfl (hb hby d4_80) rfl (XS.iload X707.here hx rfl (hb hby d4_81) rfl (XS.iadd X707.here hx rfl (hb hby d4_83) rfl k_)))))))))
  obtain ⟨rv709, T709, Lc709, X709, hQ709, R709⟩ := callQ X707 hx hZ hown K707 R708 (cor3_ l Z a0 hw [] a ka v0 v1 v2 h0 n0 O0 P4 P5) (hwI hw 36 rfl) (hwI hw 37 rfl) (hwI hw 38 rfl) (hwI hw 39 rfl) [] rfl (by rw [hml]; rfl) (lenOf pd_64843128 rfl) rfl (W := 0) (wR rfl) (hb hby d4_84)
  obtain ⟨b_709, kb_709, rfl, N709q, K709, p709_0, p709_1⟩ := hQ709
  have N709 := Fr.app N707 N709q
  have O709 := O0.keep K709 all0
  have R710 : Go p e below P T709 (mkF m 107 #[rV x, rV wU, rV a, iV 0, iV 3, iV 0, rV b_709, iV 1, uS, uS, uS] [(.int 0), (.ref b_709)]) := fun t_ k_ => R709 t_ (XS.astore X709.here hx rfl (hb hby d4_87) rfl rfl (l' := #[rV x, rV wU, rV a, iV 0, iV 3, iV 0, rV b_709, uS, uS, uS, uS]) rfl (XS.iload X709.here hx rfl (hb hby d4_89) rfl (XS.istore X709.here hx rfl (hb hby d4_91) rfl (l' := #[rV x, rV wU, rV a, iV 0, iV 3, iV 0, rV b_709, iV 0, uS, uS, uS]) rfl (XS.iload X709.here hx rfl (hb hby d4_93) rfl (XS.iload X709.here hx rfl (hb hby d4_95) rfl (XS.icmpNo X709.here hx rfl (hb hby d4_97) rfl (tlt (by decide : (0 : Int32) < (3 : Int32))).2.1 (XS.aload X709.here hx rfl (hb hby d4_100) rfl rfl (XS.iload X709.here hx rfl (hb hby d4_102) rfl (XS.iinc X709.here hx rfl (hb hby d4_104) rfl (l' := #[rV x, rV wU, rV a, iV 0, iV 3, iV 0, rV b_709, iV ((0 : Int32) + (1 : Int32)), uS, uS, uS]) rfl k_)))))))))
  obtain ⟨cl711, cl711A, cl711q, cl711S, cl711N, cl711H, cl711G⟩ := id p709_1
  have ib712 := inb_of (j := (0 : Int32)) cl711S ⟨by decide, by decide⟩
  have R713 : Go p e below P T709 (mkF m 129 #[rV x, rV wU, rV a, iV 0, iV 3, iV 0, rV b_709, iV 1, iV v0, uS, uS] []) := fun t_ k_ => R710 t_ (apS (X709.baloadBytes hx (v := (.int v0)) (by rw [(rfl : T709.heap = T709.heap)]; exact cl711A.1) (State.isArrayOf_alike hZ.alike cl711A.2.1) cl711A.2.2 ib712 (cl711H.at ib712 rfl) rfl rfl (hb hby d4_107)) (XS.istore X709.here hx rfl (hb hby d4_108) rfl (l' := #[rV x, rV wU, rV a, iV 0, iV 3, iV 0, rV b_709, iV 1, iV v0, uS, uS]) rfl (XS.iload X709.here hx rfl (hb hby d4_110) rfl (XS.ifYes X709.here hx rfl (pc0 := 112) (pc' := 129) rfl (hb hby d4_112) rfl ((if0 _ _).trans (tlt P14).1) (by decide) (by decide) k_))))
  have R714 : Go p e below P T709 (mkF m 152 #[rV x, rV wU, rV a, iV 0, iV 3, iV 0, rV b_709, iV 1, iV v0, uS, uS] [(.int 1), (.ref b_709)]) := fun t_ k_ => R713 t_ (XS.iload X709.here hx rfl (hb hby d4_129) rfl (XS.sipush X709.here hx rfl (hb hby d4_131) (XS.iand X709.here hx rfl (hb hby d4_134) rfl (XS.sipush X709.here hx rfl (hb hby d4_135) (XS.icmpNo X709.here hx rfl (hb hby d4_138) rfl (teq P15).2 (XS.iload X709.here hx rfl (hb hby d4_141) rfl (XS.iload X709.here hx rfl (hb hby d4_143) rfl (XS.icmpNo X709.here hx rfl (hb hby d4_145) rfl (tlt (by decide : (1 : Int32) < (3 : Int32))).2.1 (XS.aload X709.here hx rfl (hb hby d4_148) rfl rfl (XS.iload X709.here hx rfl (hb hby d4_150) rfl k_))))))))))
  have ib715 := inb_of (j := (1 : Int32)) cl711S ⟨by decide, by decide⟩
  have R716 : Go p e below P T709 (mkF m 173 #[rV x, rV wU, rV a, iV 0, iV 3, iV 1, rV b_709, iV 1, iV v0, iV v1, uS] [(.int v1), (.int v0), (.int 0), (.ref b_709)]) := fun t_ k_ => R714 t_ (apS (X709.baloadBytes hx (v := (.int v1)) (by rw [(rfl : T709.heap = T709.heap)]; exact cl711A.1) (State.isArrayOf_alike hZ.alike cl711A.2.1) cl711A.2.2 ib715 (cl711H.at ib715 rfl) rfl rfl (hb hby d4_152)) (XS.istore X709.here hx rfl (hb hby d4_153) rfl (l' := #[rV x, rV wU, rV a, iV 0, iV 3, iV 0, rV b_709, iV 1, iV v0, iV v1, uS]) rfl (XS.iload X709.here hx rfl (hb hby d4_155) rfl (XS.bipush X709.here hx rfl (hb hby d4_157) (XS.icmpNo X709.here hx rfl (hb hby d4_159) rfl (tlt P16).2.1 (XS.aload X709.here hx rfl (hb hby d4_162) rfl rfl (XS.iload X709.here hx rfl (hb hby d4_164) rfl (XS.iinc X709.here hx rfl (hb hby d4_166) rfl (l' := #[rV x, rV wU, rV a, iV 0, iV 3, iV ((0 : Int32) + (1 : Int32)), rV b_709, iV 1, iV v0, iV v1, uS]) rfl (XS.iload X709.here hx rfl (hb hby d4_169) rfl (XS.iload X709.here hx rfl (hb hby d4_171) rfl k_))))))))))
  obtain ⟨rv717, T717, Lc717, X717, hQ717, R717⟩ := callQ X709 hx hZ hown (rfl : T709.heap = T709.heap) R716 (dec2_ l Z a0 hw [] v0 v1 c0 T709.heap n0 O709 hd) (hwI hw 171 rfl) (hwI hw 172 rfl) (hwI hw 10 rfl) (hwI hw 173 rfl) [(.int 0), (.ref b_709)] rfl (by rw [hml]; rfl) (lenOf pd_1793231 rfl) rfl (W := 2) (wR rfl) (hb hby d4_173)
  obtain ⟨rfl, N717q, K717⟩ := hQ717
  have N717 := Fr.app N709 N717q
  obtain ⟨cl718, cl718A, cl718q, cl718S, cl718N, cl718H, cl718G⟩ := id p709_1
  obtain ⟨T719, h719, X719, e719, W719, st719⟩ := stB X717 hx hZ K717 cl718A (j := (0 : Int32)) (inb_of cl718S ⟨by decide, by decide⟩) (g := (mkF m 177 #[rV x, rV wU, rV a, iV 0, iV 3, iV 1, rV b_709, iV 1, iV v0, iV v1, uS] [(.int (c0.toInt8.toInt32)), (.int 0), (.ref b_709)])) rfl rfl (hb hby d4_177)
  have V719 : Arv Z h719 b_709 kb_709 .byte (3 : Int32) [(.int (nar .byte (c0.toInt8.toInt32))), (.int v1), (.int v2)] (.int 0) := Arv.set cl718A cl718q cl718S cl718N cl718H cl718G (fits_nar_byte _) W719 0 rfl (Nat.le_of_ble_eq_true rfl)
  have N719 := Fr.snoc X719 N717 (Nat.le_trans (oldLe O0) p709_0)
  have O719 := O709.wr W719 (Nat.le_trans (oldLe O0) p709_0)
  have V719s : Arv Z h719 b_709 kb_709 .byte (3 : Int32) [(.int (c0.toInt8.toInt32)), (.int v1), (.int v2)] (.int 0) := by have q := V719; rw [nar_b8] at q; exact q
  have R720 : Go p e below P T719 (mkF m 107 #[rV x, rV wU, rV a, iV 0, iV 3, iV 1, rV b_709, iV 3, iV v0, iV v1, uS] [(.int 2), (.ref b_709)]) := fun t_ k_ => R717 t_ (XS.i2b X717.here hx rfl (hb hby d4_176) rfl (st719 t_ (XS.iinc X719.here hx rfl (hb hby d4_178) rfl (l' := #[rV x, rV wU, rV a, iV 0, iV 3, iV 1, rV b_709, iV ((1 : Int32) + (1 : Int32)), iV v0, iV v1, uS]) rfl (XS.goto X719.here hx rfl (pc0 := 181) (pc' := 93) rfl (hb hby d4_181) (by decide) (by decide) (XS.iload X719.here hx rfl (hb hby d4_93) rfl (XS.iload X719.here hx rfl (hb hby d4_95) rfl (XS.icmpNo X719.here hx rfl (hb hby d4_97) rfl (tlt (by decide : (2 : Int32) < (3 : Int32))).2.1 (XS.aload X719.here hx rfl (hb hby d4_100) rfl rfl (XS.iload X719.here hx rfl (hb hby d4_102) rfl (XS.iinc X719.here hx rfl (hb hby d4_104) rfl (l' := #[rV x, rV wU, rV a, iV 0, iV 3, iV 1, rV b_709, iV ((2 : Int32) + (1 : Int32)), iV v0, iV v1, uS]) rfl k_))))))))))
  obtain ⟨cl721, cl721A, cl721q, cl721S, cl721N, cl721H, cl721G⟩ := id V719s
  have ib722 := inb_of (j := (2 : Int32)) cl721S ⟨by decide, by decide⟩
  obtain ⟨cl723, cl723A, cl723q, cl723S, cl723N, cl723H, cl723G⟩ := id V719s
  obtain ⟨T724, h724, X724, e724, W724, st724⟩ := stB X719 hx hZ e719 cl723A (j := (1 : Int32)) (inb_of cl723S ⟨by decide, by decide⟩) (g := (mkF m 125 #[rV x, rV wU, rV a, iV 0, iV 3, iV 2, rV b_709, iV 3, iV v2, iV v1, uS] [(.int (v2.toInt8.toInt32)), (.int 1), (.ref b_709)])) rfl rfl (hb hby d4_125)
  have V724 : Arv Z h724 b_709 kb_709 .byte (3 : Int32) [(.int (c0.toInt8.toInt32)), (.int (nar .byte (v2.toInt8.toInt32))), (.int v2)] (.int 0) := Arv.set cl723A cl723q cl723S cl723N cl723H cl723G (fits_nar_byte _) W724 1 rfl (Nat.le_of_ble_eq_true rfl)
  have N724 := Fr.snoc X724 N719 (Nat.le_trans (oldLe O0) p709_0)
  have O724 := O719.wr W724 (Nat.le_trans (oldLe O0) p709_0)
  have V724s : Arv Z h724 b_709 kb_709 .byte (3 : Int32) [(.int (c0.toInt8.toInt32)), (.int v2), (.int v2)] (.int 0) := by have q := V724; rw [hb8] at q; exact q
  have R725 : Go p e below P T724 (mkF m 95 #[rV x, rV wU, rV a, iV 0, iV 3, iV 2, rV b_709, iV 3, iV v2, iV v1, uS] [(.int 3)]) := fun t_ k_ => R720 t_ (apS (X719.baloadBytes hx (v := (.int v2)) (by rw [e719]; exact cl721A.1) (State.isArrayOf_alike hZ.alike cl721A.2.1) cl721A.2.2 ib722 (cl721H.at ib722 rfl) rfl rfl (hb hby d4_107)) (XS.istore X719.here hx rfl (hb hby d4_108) rfl (l' := #[rV x, rV wU, rV a, iV 0, iV 3, iV 1, rV b_709, iV 3, iV v2, iV v1, uS]) rfl (XS.iload X719.here hx rfl (hb hby d4_110) rfl (XS.ifNo X719.here hx rfl (hb hby d4_112) rfl ((if0 _ _).trans (flt P18).1) (XS.aload X719.here hx rfl (hb hby d4_115) rfl rfl (XS.iload X719.here hx rfl (hb hby d4_117) rfl (XS.iinc X719.here hx rfl (hb hby d4_119) rfl (l' := #[rV x, rV wU, rV a, iV 0, iV 3, iV ((1 : Int32) + (1 : Int32)), rV b_709, iV 3, iV v2, iV v1, uS]) rfl (XS.iload X719.here hx rfl (hb hby d4_122) rfl (XS.i2b X719.here hx rfl (hb hby d4_124) rfl (st724 t_ (XS.goto X724.here hx rfl (pc0 := 126) (pc' := 93) rfl (hb hby d4_126) (by decide) (by decide) (XS.iload X724.here hx rfl (hb hby d4_93) rfl k_))))))))))))
  have R726 : Go p e below P T724 (mkF m 201 #[rV x, rV wU, rV a, iV 0, iV 3, iV 2, rV b_709, iV 3, iV v2, iV v1, uS] [(.ref b_709), (.int 2)]) := fun t_ k_ => R725 t_ (XS.iload X724.here hx rfl (hb hby d4_95) rfl (XS.icmpYes X724.here hx rfl (pc0 := 97) (pc' := 190) rfl (hb hby d4_97) rfl (flt (by decide : ¬ ((3 : Int32) < (3 : Int32)))).2.1 (by decide) (by decide) (XS.iload X724.here hx rfl (hb hby d4_190) rfl (XS.iload X724.here hx rfl (hb hby d4_192) rfl (XS.icmpNo X724.here hx rfl (hb hby d4_194) rfl (teq rfl).2 (XS.iload X724.here hx rfl (hb hby d4_197) rfl (XS.aload X724.here hx rfl (hb hby d4_199) rfl rfl k_)))))))
  obtain ⟨cl727, cl727A, -, cl727S, cl727N, -, -⟩ := id V724s
  have R728 : Go p e below P T724 (mkF m 202 #[rV x, rV wU, rV a, iV 0, iV 3, iV 2, rV b_709, iV 3, iV v2, iV v1, uS] [(.int 3), (.int 2)]) := fun t_ k_ => R726 t_ (X724.arraylength hx (by rw [e724]; exact cl727A.1) (State.isArrayOf_alike hZ.alike cl727A.2.1) (g := (mkF m 201 #[rV x, rV wU, rV a, iV 0, iV 3, iV 2, rV b_709, iV 3, iV v2, iV v1, uS] [(.ref b_709), (.int 2)])) rfl rfl (hb hby d4_201) t_ (by rw [len_of cl727S cl727N]; exact k_))
  have R729 : Go p e below P T724 (mkF m 209 #[rV x, rV wU, rV a, iV 0, iV 3, iV 2, rV b_709, iV 3, iV v2, iV v1, uS] [(.int 2), (.ref b_709)]) := fun t_ k_ => R728 t_ (XS.icmpNo X724.here hx rfl (hb hby d4_202) rfl (feq (by decide : ¬ ((2 : Int32) = (3 : Int32)))).1 (XS.aload X724.here hx rfl (hb hby d4_205) rfl rfl (XS.iload X724.here hx rfl (hb hby d4_207) rfl k_)))
  obtain ⟨rv730, T730, Lc730, X730, hQ730, R730⟩ := callQ X724 hx hZ hown e724 R729 (copy3_2_ l Z a0 hw [] b_709 kb_709 (c0.toInt8.toInt32) v2 v2 h724 n0 O724 V724s) (hwI hw 156 rfl) (hwI hw 157 rfl) (hwI hw 38 rfl) (hwI hw 158 rfl) [] rfl (by rw [hml]; rfl) (lenOf pd_14456175 rfl) rfl (W := 0) (wR rfl) (hb hby d4_209)
  obtain ⟨b_730, kb_730, rfl, N730q, K730, p730_0, p730_1⟩ := hQ730
  have N730 := Fr.app N724 N730q
  have O730 := O724.keep K730 all0
  have f731 := ((((P0.keep K709).wr W719).wr W724).keep K730)
  have f732 := ((((P1.keep K709 nin0).other W719 (Or.inl (Nat.ne_of_lt (Nat.lt_of_lt_of_le P0.lt p709_0)))).other W724 (Or.inl (Nat.ne_of_lt (Nat.lt_of_lt_of_le P0.lt p709_0)))).keep K730 nin0)
  obtain ⟨T733, h733, X733, e733, W733, st733⟩ := putF X730 hx hZ hown (host := "") (Or.inl (hwI hw 49 rfl)) Via.refl (rfl : T730.heap = T730.heap) f732 f731 (Or.inr ⟨(hwI hw 50 rfl), rfl, hnm⟩) (hwI hw 9 rfl) (ty := (.array .byte)) (by decide) rfl rfl (g := (mkF m 217 #[rV x, rV wU, rV a, iV 0, iV 3, iV 2, rV b_730, iV 3, iV v2, iV v1, uS] [(.ref b_730), (.ref x)])) rfl rfl (hb hby d4_217)
  have N733 := Fr.snoc X733 N730 P3
  have Fw733 := f732.same W733
  have O733 := O730.wr W733 P3
  have f734 := (f731.wr W733)
  have f735 := (((((P2.keep K709 nin0).other W719 (Or.inl (Nat.ne_of_lt (Nat.lt_of_lt_of_le P0.lt p709_0)))).other W724 (Or.inl (Nat.ne_of_lt (Nat.lt_of_lt_of_le P0.lt p709_0)))).keep K730 nin0).other W733 (Or.inr (slot_ne (Or.inr (hwI hw 52 rfl)) (Or.inr (hwI hw 50 rfl)) (by decide) (t := .byte) (t' := (.array .byte)) (by decide) (by decide))))
  obtain ⟨T736, h736, X736, e736, W736, st736⟩ := putFN X733 hx hZ hown (hwI hw 51 rfl) Via.refl e733 f735 f734 (Or.inr ⟨(hwI hw 52 rfl), rfl, hnm⟩) (hwI hw 9 rfl) (ty := .byte) (v' := (.int 0)) (by decide) rfl rfl (g := (mkF m 222 #[rV x, rV wU, rV a, iV 0, iV 3, iV 2, rV b_730, iV 3, iV v2, iV v1, uS] [(.int 0), (.ref x)])) rfl rfl (hb hby d4_222)
  have N736 := Fr.snoc X736 N733 P3
  have Fw736 := f735.same W736
  have O736 := O733.wr W736 P3
  have R737 : Go p e below P T736 (mkF m 225 #[rV x, rV wU, rV a, iV 0, iV 3, iV 2, rV b_730, iV 3, iV v2, iV v1, uS] []) := fun t_ k_ => R730 t_ (XS.astore X730.here hx rfl (hb hby d4_212) rfl rfl (l' := #[rV x, rV wU, rV a, iV 0, iV 3, iV 2, rV b_730, iV 3, iV v2, iV v1, uS]) rfl (XS.aloadN X730.here hx rfl (hb hby d4_214) rfl rfl (XS.aload X730.here hx rfl (hb hby d4_215) rfl rfl (st733 t_ (XS.aloadN X733.here hx rfl (hb hby d4_220) rfl rfl (XS.iconst X733.here hx rfl (hb hby d4_221) (st736 t_ k_)))))))
  obtain ⟨fs, hr, hrun, hended, hW, hsame⟩ := X736.leave (v := none) (fun _ => rfl)
  have f738 := (f734.wr W736)
  have f739 := (Fw733.other W736 (Or.inr (slot_ne (Or.inr (hwI hw 50 rfl)) (Or.inr (hwI hw 52 rfl)) (by decide) (t := (.array .byte)) (t' := .byte) (by decide) (by decide))))
  have f740 := ((p730_1.other W733 (Ne.symm (Nat.ne_of_lt (Nat.lt_of_lt_of_le (((P0.keep K709).wr W719).wr W724).lt p730_0)))).other W736 (Ne.symm (Nat.ne_of_lt (Nat.lt_of_lt_of_le (((P0.keep K709).wr W719).wr W724).lt p730_0))))
  exact ⟨_, _, hP _ (R737 _ (X736.returnOut hx Bd.returns (hb hby d4_225) hr)), hrun, hended, _, _, rfl, ⟨b_730, kb_730, rfl, N736, (e736.symm ▸ (((((((Keep.refl h0 [x]).trans K709 all0).wr W719 (Or.inr p709_0)).wr W724 (Or.inr p709_0)).trans K730 all0).wr W733 (Or.inl (List.mem_of_getElem? (i := 0) rfl))).wr W736 (Or.inl (List.mem_of_getElem? (i := 0) rfl)))), (e736.symm ▸ f738), (e736.symm ▸ Fw736), (e736.symm ▸ f739), (e736.symm ▸ f740)⟩, ⟨_, rfl⟩, hW, hsame.mono (by decide) (by decide)⟩
def Q_injBl_ (Z : State) (x : Addr) (a : Addr) (ka : ClassId) (v0 : Int32) (v1 : Int32) (v2 : Int32) (c0 : Int32) (wU : Addr) (zc : Int32) (fm : Value) (h0 : Heap) (n0 : Nat) (rv_ : Option Value) (rh_ : Heap) (rL_ : List Loc) : Prop := ∃ t : Addr, ∃ kb : ClassId, (rv_ = none) ∧ (Fr n0 rL_) ∧ (Keep h0 rh_ [x]) ∧ (Exa Z rh_ x "java/lang/String") ∧ (Fld Z rh_ x "java/lang/String" "coder" "B" (.int 0)) ∧ (Fld Z rh_ x "java/lang/String" "value" "[B" (.ref t)) ∧ (Arv Z rh_ t kb .byte (2 : Int32) [(.int (c0.toInt8.toInt32)), (.int v2)] (.int 0))
set_option maxRecDepth 65536 in
set_option maxHeartbeats 40000000 in
theorem injBl_ (l : Launch) (Z : State) (a0 : Array Value) (hw : HW Z a0) (ws : List Jvm.Cond) (x : Addr) (a : Addr) (ka : ClassId) (v0 : Int32) (v1 : Int32) (v2 : Int32) (c0 : Int32) (wU : Addr) (zc : Int32) (fm : Value) (h0 : Heap) (n0 : Nat) (O0 : Old Z n0 h0) (P0 : Exa Z h0 x "java/lang/String") (P1 : Fld Z h0 x "java/lang/String" "value" "[B" .null) (P2 : Fld Z h0 x "java/lang/String" "coder" "B" (.int 0)) (P3 : n0 ≤ x) (P4 : Arv Z h0 a ka .byte (3 : Int32) [(.int v0), (.int v1), (.int v2)] (.int 0)) (P5 : Exa Z h0 a "[B") (P6 : sT5 Z (.ref wU)) (P7 : sT0 Z (.int zc)) (P8 : ¬ zc = 0) (P9 : sT2 Z (.int 1)) (P10 : sT3 Z (.int 0)) (P11 : sT4 Z (.int 8)) (P12 : sT1 Z fm) (P13 : fm.isRef = true) (P14 : Exa Z Z.heap wU "sun/nio/cs/UTF_8") (P15 : v0 < (0 : Int32)) (P16 : (v0 &&& (254 : Int32)) = (194 : Int32)) (P17 : v1 < (-64 : Int32)) (P18 : d2 v0 v1 = c0) (P19 : ¬ (v2 < (0 : Int32))) (P20 : nar .byte (v2.toInt8.toInt32) = v2) :
    MetQ l yM34 (Jvm.Cond.code yM34 jdk_42_method_49_code 3 none) ws (rM 3 2 5 54) Z #[(.ref x), (.ref a), (.ref wU)] h0 (Q_injBl_ Z x a ka v0 v1 v2 c0 wU zc fm h0 n0) := by
  have hzc := P8
  have hfm := P13
  have hd := P18
  have hb8 := P20
  refine metQ (plainFor_of_name pn_47582652) hisR (fun m => ef2_RRR m x a wU) ?_
  intro p e s m below meth c s₁ P Bd hx hby hml hZ hown hnm X0 e0 hP R0
  have N0 := Fr.nil n0
  have R741 : Go p e below P s₁ (mkF m 2 #[rV x, rV a, rV wU] [(.ref wU), (.ref x)]) := fun t_ k_ => R0 t_ (XS.aloadN X0.here hx rfl (hb hby d2_0) rfl rfl (XS.aloadN X0.here hx rfl (hb hby d2_1) rfl rfl k_))
  obtain ⟨rv742, T742, Lc742, X742, hQ742, R742⟩ := callQ X0 hx hZ hown e0 R741 (rnn_ l Z a0 hw [] wU h0 n0 O0) (hwI hw 16 rfl) (hwI hw 17 rfl) (hwI hw 18 rfl) (hwI hw 19 rfl) [(.ref x)] rfl (by rw [hml]; rfl) (lenOf pd_72566344 rfl) rfl (W := 1) (wR rfl) (hb hby d2_2)
  obtain ⟨rfl, N742q, K742⟩ := hQ742
  have N742 := Fr.app N0 N742q
  obtain ⟨T743, X743, e743, st743⟩ := castY X742 hx hZ hown (hwI hw 20 rfl) K742 (Ins.of_exa (P14.ext O0.2) (hwI hw 21 rfl)) (g := (mkF m 5 #[rV x, rV a, rV wU] [(.ref wU), (.ref x)])) rfl rfl (hb hby d2_5)
  have R744 : Go p e below P T743 (mkF m 11 #[rV x, rV a, rV wU] [(.ref a), (.int 0), (.ref a), (.ref wU), (.ref x)]) := fun t_ k_ => R742 t_ (st743 t_ (XS.aloadN X743.here hx rfl (hb hby d2_8) rfl rfl (XS.iconst X743.here hx rfl (hb hby d2_9) (XS.aloadN X743.here hx rfl (hb hby d2_10) rfl rfl k_))))
  obtain ⟨cl745, cl745A, -, cl745S, cl745N, -, -⟩ := id P4
  have R746 : Go p e below P T743 (mkF m 12 #[rV x, rV a, rV wU] [(.int 3), (.int 0), (.ref a), (.ref wU), (.ref x)]) := fun t_ k_ => R744 t_ (X743.arraylength hx (by rw [e743]; exact cl745A.1) (State.isArrayOf_alike hZ.alike cl745A.2.1) (g := (mkF m 11 #[rV x, rV a, rV wU] [(.ref a), (.int 0), (.ref a), (.ref wU), (.ref x)])) rfl rfl (hb hby d2_11) t_ (by rw [len_of cl745S cl745N]; exact k_))
  obtain ⟨rv747, _, ⟨T747, L747, k747, n747⟩, -, X747, ⟨Lc747, hQ747, l747, y747, z747⟩, st747⟩ := X743.specialBackH hx (y := yM33) rfl hown (mvT hZ (hwI hw 22 rfl)) (mvT hZ (hwI hw 23 rfl)) (mvT hZ (hwI hw 25 rfl)) (by decide) (backOfWith (W := 0) (iniBl_ l Z a0 hw [] x a ka v0 v1 v2 c0 wU zc fm h0 n0 O0 P0 P1 P2 P3 P4 P5 P6 P7 hzc P9 P10 P11 P12 hfm P15 P16 P17 hd P19 hb8) hZ (hwI hw 25 rfl) (hwI hw 10 rfl) (by decide) (by decide)) (g := (mkF m 12 #[rV x, rV a, rV wU] [(.int 3), (.int 0), (.ref a), (.ref wU), (.ref x)])) rfl (by rw [hml]; rfl) (Steps.refl _) (a := x) (argsL := [(.ref wU), (.ref a), (.int 0), (.int 3)]) (rest := []) (lenOf pd_41235415 rfl) rfl (by show 2 * 0 + _ ≤ _; exact Nat.le_of_eq rfl) (hb hby d2_12) (fun _ _ => ⟨rfl, e743, (by decide : 0 + 2 ≤ _), (by decide : 0 + 5 ≤ _)⟩)
  dsimp only [Pt.U, Pt.locs, Pt.cells, Pt.slots] at X747 l747 y747 z747 st747 hQ747
  subst l747 y747 z747
  obtain ⟨t_747, kb_747, rfl, N747q, K747, p747_0, p747_1, p747_2, p747_3⟩ := hQ747
  have N747 := Fr.app N742 N747q
  have O747 := O0.keep K747 (allS P3 all0)
  have R748 : Go p e below P T747 (mkF m 15 #[rV x, rV a, rV wU] []) := fun t_ k_ => R746 t_ (st747.trans k_)
  obtain ⟨fs, hr, hrun, hended, hW, hsame⟩ := X747.leave (v := none) (fun _ => rfl)
  exact ⟨_, _, hP _ (R748 _ (X747.returnOut hx Bd.returns (hb hby d2_15) hr)), hrun, hended, _, _, rfl, ⟨t_747, kb_747, rfl, N747, ((Keep.refl h0 [x]).trans K747 (allS (Or.inl (List.mem_of_getElem? (i := 0) rfl)) all0)), p747_0, p747_1, p747_2, p747_3⟩, ⟨_, rfl⟩, hW, hsame.mono (by decide) (by decide)⟩
def Q_decBl_ (Z : State) (a : Addr) (ka : ClassId) (v0 : Int32) (v1 : Int32) (v2 : Int32) (c0 : Int32) (wU : Addr) (zc : Int32) (fm : Value) (h0 : Heap) (n0 : Nat) (rv_ : Option Value) (rh_ : Heap) (rL_ : List Loc) : Prop := ∃ x : Addr, ∃ t : Addr, ∃ kb : ClassId, (rv_ = some (.ref x)) ∧ (Fr n0 rL_) ∧ (Keep h0 rh_ []) ∧ (h0.size ≤ x) ∧ (Exa Z rh_ x "java/lang/String") ∧ (Fld Z rh_ x "java/lang/String" "coder" "B" (.int 0)) ∧ (Fld Z rh_ x "java/lang/String" "value" "[B" (.ref t)) ∧ (Arv Z rh_ t kb .byte (2 : Int32) [(.int (c0.toInt8.toInt32)), (.int v2)] (.int 0))
set_option maxRecDepth 65536 in
set_option maxHeartbeats 40000000 in
theorem decBl_ (l : Launch) (Z : State) (a0 : Array Value) (hw : HW Z a0) (ws : List Jvm.Cond) (a : Addr) (ka : ClassId) (v0 : Int32) (v1 : Int32) (v2 : Int32) (c0 : Int32) (wU : Addr) (zc : Int32) (fm : Value) (h0 : Heap) (n0 : Nat) (O0 : Old Z n0 h0) (P0 : Arv Z h0 a ka .byte (3 : Int32) [(.int v0), (.int v1), (.int v2)] (.int 0)) (P1 : Exa Z h0 a "[B") (P2 : sT5 Z (.ref wU)) (P3 : sT0 Z (.int zc)) (P4 : ¬ zc = 0) (P5 : sT2 Z (.int 1)) (P6 : sT3 Z (.int 0)) (P7 : sT4 Z (.int 8)) (P8 : sT1 Z fm) (P9 : fm.isRef = true) (P10 : sT6 Z (.ref wU)) (P11 : Exa Z Z.heap wU "sun/nio/cs/UTF_8") (P12 : v0 < (0 : Int32)) (P13 : (v0 &&& (254 : Int32)) = (194 : Int32)) (P14 : v1 < (-64 : Int32)) (P15 : d2 v0 v1 = c0) (P16 : ¬ (v2 < (0 : Int32))) (P17 : nar .byte (v2.toInt8.toInt32) = v2) :
    MetQ l yM35 (Jvm.Cond.code yM35 prog_5_method_5_code 1 (some (.object "java/lang/String"))) ws (rM 4 3 9 69) Z #[(.ref a)] h0 (Q_decBl_ Z a ka v0 v1 v2 c0 wU zc fm h0 n0) := by
  have hzc := P4
  have hfm := P9
  have hd := P15
  have hb8 := P17
  refine metQ (plainFor_of_name pn_4625033) hisR (fun m => ef1_R m a) ?_
  intro p e s m below meth c s₁ P Bd hx hby hml hZ hown hnm X0 e0 hP R0
  have N0 := Fr.nil n0
  obtain ⟨T749, h749, X749, e749, E749, A749, D749, -, st749⟩ := newO X0 hx hZ hown (hwI hw 8 rfl) (hwI hw 9 rfl) (hwI hw 10 rfl) e0 (g := (mkF m 0 #[rV a] [])) rfl (hb hby d1_0) (by decide) (by decide)
  obtain ⟨b749, g749⟩ : ∃ z, z = h0.size := ⟨_, rfl⟩
  rw [← g749] at A749 D749 st749
  have O749 := O0.ext E749
  have F749_50 : Fld Z h749 b749 "java/lang/String" "value" "[B" .null := D749 (Or.inr (hwI hw 50 rfl)) (ty := (.array .byte)) (by decide)
  have F749_52 : Fld Z h749 b749 "java/lang/String" "coder" "B" (.int 0) := D749 (Or.inr (hwI hw 52 rfl)) (ty := .byte) (by decide)
  obtain ⟨T750, X750, e750, st750⟩ := getS2 X749 hx hZ hown (host := "") (Or.inl (hwI hw 11 rfl)) Via.refl e749 (P10.ext O749.2) (g := (mkF m 5 #[rV a] [(.ref a), (.ref b749), (.ref b749)])) rfl (hb hby d1_5)
  have R751 : Go p e below P T750 (mkF m 8 #[rV a] [(.ref wU), (.ref a), (.ref b749), (.ref b749)]) := fun t_ k_ => R0 t_ (st749 t_ (XS.dup X749.here hx rfl (hb hby d1_3) rfl rfl (XS.aloadN X749.here hx rfl (hb hby d1_4) rfl rfl (st750 t_ k_))))
  have f752 := (P0.ext E749)
  have f753 := (P1.ext E749)
  obtain ⟨rv754, _, ⟨T754, L754, k754, n754⟩, -, X754, ⟨Lc754, hQ754, l754, y754, z754⟩, st754⟩ := X750.specialBack hx (y := yM34) rfl hown (mvT hZ (hwI hw 13 rfl)) (mvT hZ (hwI hw 14 rfl)) (mvT hZ (hwI hw 15 rfl)) (by decide) (backOf (W := 1) (injBl_ l Z a0 hw [] b749 a ka v0 v1 v2 c0 wU zc fm h749 n0 O749 A749 F749_50 F749_52 (Nat.le_trans (oldLe O0) (Nat.le_of_eq g749.symm)) f752 f753 P2 P3 hzc P5 P6 P7 P8 hfm P11 P12 P13 P14 hd P16 hb8) hZ (hwI hw 15 rfl) (hwI hw 10 rfl) (by decide) (by decide)) (g := (mkF m 8 #[rV a] [(.ref wU), (.ref a), (.ref b749), (.ref b749)])) rfl (by rw [hml]; rfl) (Steps.refl _) (a := b749) (argsL := [(.ref a), (.ref wU)]) (rest := [(.ref b749)]) (lenOf pd_90622059 rfl) rfl (by show 2 * 0 + _ ≤ _; exact Nat.le_of_eq rfl) (hb hby d1_8) (fun _ _ => ⟨rfl, e750, (by decide : 1 + 2 ≤ _), (by decide : 4 + 5 ≤ _)⟩)
  dsimp only [Pt.U, Pt.locs, Pt.cells, Pt.slots] at X754 l754 y754 z754 st754 hQ754
  subst l754 y754 z754
  obtain ⟨t_754, kb_754, rfl, N754q, K754, p754_0, p754_1, p754_2, p754_3⟩ := hQ754
  have N754 := Fr.app N0 N754q
  have O754 := O749.keep K754 (allS (Nat.le_trans (oldLe O0) (Nat.le_of_eq g749.symm)) all0)
  have R755 : Go p e below P T754 (mkF m 11 #[rV a] [(.ref b749)]) := fun t_ k_ => R751 t_ (st754.trans k_)
  obtain ⟨fs, hr, hrun, hended, hW, hsame⟩ := X754.leave (v := some (.ref b749)) (fun h => by rw [Bd.returns] at h; cases h)
  exact ⟨_, _, hP _ (R755 _ (retOut X754 hx Bd.returns rfl (Or.inr (Or.inr (Or.inr (Or.inr ⟨rfl, rfl, rfl⟩)))) (hb hby d1_11) hr)), hrun, hended, _, _, rfl, ⟨b749, t_754, kb_754, rfl, N754, (((Keep.refl h0 []).ext E749).trans K754 (allS (Or.inr (Nat.le_of_eq g749.symm)) all0)), (Nat.le_of_eq g749.symm), p754_0, p754_1, p754_2, p754_3⟩, ⟨_, rfl⟩, hW, hsame.mono (by decide) (by decide)⟩
theorem d4_267 : decode jdk_42_method_11_code 267 = .ok (.aload 8, 2) := by decide +kernel
theorem d4_269 : decode jdk_42_method_11_code 269 = .ok (.iload 5, 2) := by decide +kernel
theorem d4_271 : decode jdk_42_method_11_code 271 = .ok (.iconst 1, 1) := by decide +kernel
theorem d4_272 : decode jdk_42_method_11_code 272 = .ok (.ishl, 1) := by decide +kernel
theorem d4_273 : decode jdk_42_method_11_code 273 = .ok (.invokestatic 102, 3) := by decide +kernel
theorem d4_276 : decode jdk_42_method_11_code 276 = .ok (.astore 8, 2) := by decide +kernel
def Q_iniBh_ (Z : State) (x : Addr) (a : Addr) (ka : ClassId) (v0 : Int32) (v1 : Int32) (v2 : Int32) (c0 : Int32) (wU : Addr) (zc : Int32) (fm : Value) (h0 : Heap) (n0 : Nat) (rv_ : Option Value) (rh_ : Heap) (rL_ : List Loc) : Prop := ∃ t : Addr, ∃ kb : ClassId, (rv_ = none) ∧ (Fr n0 rL_) ∧ (Keep h0 rh_ [x]) ∧ (Exa Z rh_ x "java/lang/String") ∧ (Fld Z rh_ x "java/lang/String" "coder" "B" (.int 1)) ∧ (Fld Z rh_ x "java/lang/String" "value" "[B" (.ref t)) ∧ (Arv Z rh_ t kb .byte (4 : Int32) [(.int (loB c0)), (.int (hiB c0)), (.int (loB (65533 : Int32))), (.int (hiB (65533 : Int32)))] (.int 0))
set_option maxRecDepth 65536 in
set_option maxHeartbeats 40000000 in
theorem iniBh_ (l : Launch) (Z : State) (a0 : Array Value) (hw : HW Z a0) (ws : List Jvm.Cond) (x : Addr) (a : Addr) (ka : ClassId) (v0 : Int32) (v1 : Int32) (v2 : Int32) (c0 : Int32) (wU : Addr) (zc : Int32) (fm : Value) (h0 : Heap) (n0 : Nat) (O0 : Old Z n0 h0) (P0 : Exa Z h0 x "java/lang/String") (P1 : Fld Z h0 x "java/lang/String" "value" "[B" .null) (P2 : Fld Z h0 x "java/lang/String" "coder" "B" (.int 0)) (P3 : n0 ≤ x) (P4 : Arv Z h0 a ka .byte (3 : Int32) [(.int v0), (.int v1), (.int v2)] (.int 0)) (P5 : Exa Z h0 a "[B") (P6 : sT5 Z (.ref wU)) (P7 : sT0 Z (.int zc)) (P8 : ¬ zc = 0) (P9 : sT2 Z (.int 1)) (P10 : sT3 Z (.int 0)) (P11 : sT4 Z (.int 8)) (P12 : sT1 Z fm) (P13 : fm.isRef = true) (P14 : v0 < (0 : Int32)) (P15 : (v0 &&& (254 : Int32)) = (194 : Int32)) (P16 : v1 < (-64 : Int32)) (P17 : d2 v0 v1 = c0) (P18 : v2 < (0 : Int32)) (P19 : ((c0.toInt8.toInt32) &&& (255 : Int32)) = c0) :
    MetQ l yM33 (Jvm.Cond.codeWith yM33 jdk_42_method_11_code 11 none [((800 : Nat), (813 : Nat), (816 : Nat), (202 : Nat))]) ws (rM 5 3 13 76) Z #[(.ref x), (.ref wU), (.ref a), (.int 0), (.int 3)] h0 (Q_iniBh_ Z x a ka v0 v1 v2 c0 wU zc fm h0 n0) := by
  have hzc := P8
  have hfm := P13
  have hd := P17
  have hc0 := P19
  refine metQ (plainFor_of_name pn_47582652) hisWith (fun m => ef4_RRRII m x wU a (0 : Int32) (3 : Int32)) ?_
  intro p e s m below meth c s₁ P Bd hx hby hml hZ hown hnm X0 e0 hP R0
  have N0 := Fr.nil n0
  have R756 : Go p e below P s₁ (mkF m 1 #[rV x, rV wU, rV a, iV 0, iV 3, uS, uS, uS, uS, uS, uS] [(.ref x)]) := fun t_ k_ => R0 t_ (XS.aloadN X0.here hx rfl (hb hby d4_0) rfl rfl k_)
  obtain ⟨T757, X757, e757, st757⟩ := initO X0 hx hZ hown (hwI hw 26 rfl) (hwI hw 27 rfl) (hwI hw 28 rfl) e0 (g := (mkF m 1 #[rV x, rV wU, rV a, iV 0, iV 3, uS, uS, uS, uS, uS, uS] [(.ref x)])) rfl (by rw [hml]; rfl) rfl (hb hby d4_1) (by decide) (W := 0) (by show 2 * 0 + _ ≤ _; exact Nat.le_of_eq rfl) (by decide)
  obtain ⟨T758, X758, e758, st758⟩ := getS2 X757 hx hZ hown (host := "") (Or.inl (hwI hw 29 rfl)) Via.refl e757 (P6.ext O0.2) (g := (mkF m 31 #[rV x, rV wU, rV a, iV 0, iV 3, uS, uS, uS, uS, uS, uS] [(.ref wU)])) rfl (hb hby d4_31)
  obtain ⟨T759, X759, e759, st759⟩ := getS2 X758 hx hZ hown (host := "") (Or.inl (hwI hw 31 rfl)) Via.refl e758 (P7.ext O0.2) (g := (mkF m 37 #[rV x, rV wU, rV a, iV 0, iV 3, uS, uS, uS, uS, uS, uS] [])) rfl (hb hby d4_37)
  have R760 : Go p e below P T759 (mkF m 47 #[rV x, rV wU, rV a, iV 0, iV 3, uS, uS, uS, uS, uS, uS] [(.int 3), (.int 0), (.ref a)]) := fun t_ k_ => R756 t_ (st757 t_ (XS.iload X757.here hx rfl (hb hby d4_4) rfl (XS.ifYes X757.here hx rfl (pc0 := 6) (pc' := 30) rfl (hb hby d4_6) rfl ((if0 _ _).trans (feq (by decide : ¬ ((3 : Int32) = (0 : Int32)))).2) (by decide) (by decide) (XS.aloadN X757.here hx rfl (hb hby d4_30) rfl rfl (st758 t_ (Jvm.RoadKit.acmp (g := (mkF m 34 #[rV x, rV wU, rV a, iV 0, iV 3, uS, uS, uS, uS, uS, uS] [(.ref wU), (.ref wU)])) X758 hx rfl rfl rfl (pc0 := 34) (pc' := 37) (same := true) rfl (hb hby d4_34) rfl (decide_eq_true (congrArg Value.ref rfl)) (by decide) (by decide) (st759 t_ (XS.ifNo X759.here hx rfl (hb hby d4_40) rfl ((if0 _ _).trans (feq hzc).1) (XS.aloadN X759.here hx rfl (hb hby d4_43) rfl rfl (XS.iloadN X759.here hx rfl (hb hby d4_44) rfl (XS.iload X759.here hx rfl (hb hby d4_45) rfl k_)))))))))))
  obtain ⟨rv761, T761, Lc761, X761, hQ761, R761⟩ := callQ X759 hx hZ hown e759 R760 (cpos30_ l Z a0 hw [] a ka v0 v1 v2 h0 n0 O0 P4 P14) (hwI hw 32 rfl) (hwI hw 33 rfl) (hwI hw 34 rfl) (hwI hw 35 rfl) [] rfl (by rw [hml]; rfl) (lenOf pd_14998784 rfl) rfl (W := 0) (wR rfl) (hb hby d4_47)
  obtain ⟨rfl, N761q, K761⟩ := hQ761
  have N761 := Fr.app N0 N761q
  have R762 : Go p e below P T761 (mkF m 84 #[rV x, rV wU, rV a, iV 0, iV 3, iV 0, uS, uS, uS, uS, uS] [(.int 3), (.int 0), (.ref a)]) := fun t_ k_ => R761 t_ (XS.istore X761.here hx rfl (hb hby d4_50) rfl (l' := #[rV x, rV wU, rV a, iV 0, iV 3, iV 0, uS, uS, uS, uS, uS]) rfl (XS.iload X761.here hx rfl (hb hby d4_52) rfl (XS.iload X761.here hx rfl (hb hby d4_54) rfl (XS.icmpYes X761.here hx rfl (pc0 := 56) (pc' := 78) rfl (hb hby d4_56) rfl (feq (by decide : ¬ ((0 : Int32) = (3 : Int32)))).2 (by decide) (by decide) (XS.aloadN X761.here hx rfl (hb hby d4_78) rfl rfl (XS.iloadN X761.here hx rfl (hb hby d4_79) rfl (XS.iloadN X761.here hx rfl (hb hby d4_80) rfl (XS.iload X761.here hx rfl (hb hby d4_81) rfl (XS.iadd X761.here hx rfl (hb hby d4_83) rfl k_)))))))))
  obtain ⟨rv763, T763, Lc763, X763, hQ763, R763⟩ := callQ X761 hx hZ hown K761 R762 (cor3_ l Z a0 hw [] a ka v0 v1 v2 h0 n0 O0 P4 P5) (hwI hw 36 rfl) (hwI hw 37 rfl) (hwI hw 38 rfl) (hwI hw 39 rfl) [] rfl (by rw [hml]; rfl) (lenOf pd_64843128 rfl) rfl (W := 0) (wR rfl) (hb hby d4_84)
  obtain ⟨b_763, kb_763, rfl, N763q, K763, p763_0, p763_1⟩ := hQ763
  have N763 := Fr.app N761 N763q
  have O763 := O0.keep K763 all0
  have R764 : Go p e below P T763 (mkF m 107 #[rV x, rV wU, rV a, iV 0, iV 3, iV 0, rV b_763, iV 1, uS, uS, uS] [(.int 0), (.ref b_763)]) := fun t_ k_ => R763 t_ (XS.astore X763.here hx rfl (hb hby d4_87) rfl rfl (l' := #[rV x, rV wU, rV a, iV 0, iV 3, iV 0, rV b_763, uS, uS, uS, uS]) rfl (XS.iload X763.here hx rfl (hb hby d4_89) rfl (XS.istore X763.here hx rfl (hb hby d4_91) rfl (l' := #[rV x, rV wU, rV a, iV 0, iV 3, iV 0, rV b_763, iV 0, uS, uS, uS]) rfl (XS.iload X763.here hx rfl (hb hby d4_93) rfl (XS.iload X763.here hx rfl (hb hby d4_95) rfl (XS.icmpNo X763.here hx rfl (hb hby d4_97) rfl (tlt (by decide : (0 : Int32) < (3 : Int32))).2.1 (XS.aload X763.here hx rfl (hb hby d4_100) rfl rfl (XS.iload X763.here hx rfl (hb hby d4_102) rfl (XS.iinc X763.here hx rfl (hb hby d4_104) rfl (l' := #[rV x, rV wU, rV a, iV 0, iV 3, iV 0, rV b_763, iV ((0 : Int32) + (1 : Int32)), uS, uS, uS]) rfl k_)))))))))
  obtain ⟨cl765, cl765A, cl765q, cl765S, cl765N, cl765H, cl765G⟩ := id p763_1
  have ib766 := inb_of (j := (0 : Int32)) cl765S ⟨by decide, by decide⟩
  have R767 : Go p e below P T763 (mkF m 129 #[rV x, rV wU, rV a, iV 0, iV 3, iV 0, rV b_763, iV 1, iV v0, uS, uS] []) := fun t_ k_ => R764 t_ (apS (X763.baloadBytes hx (v := (.int v0)) (by rw [(rfl : T763.heap = T763.heap)]; exact cl765A.1) (State.isArrayOf_alike hZ.alike cl765A.2.1) cl765A.2.2 ib766 (cl765H.at ib766 rfl) rfl rfl (hb hby d4_107)) (XS.istore X763.here hx rfl (hb hby d4_108) rfl (l' := #[rV x, rV wU, rV a, iV 0, iV 3, iV 0, rV b_763, iV 1, iV v0, uS, uS]) rfl (XS.iload X763.here hx rfl (hb hby d4_110) rfl (XS.ifYes X763.here hx rfl (pc0 := 112) (pc' := 129) rfl (hb hby d4_112) rfl ((if0 _ _).trans (tlt P14).1) (by decide) (by decide) k_))))
  have R768 : Go p e below P T763 (mkF m 152 #[rV x, rV wU, rV a, iV 0, iV 3, iV 0, rV b_763, iV 1, iV v0, uS, uS] [(.int 1), (.ref b_763)]) := fun t_ k_ => R767 t_ (XS.iload X763.here hx rfl (hb hby d4_129) rfl (XS.sipush X763.here hx rfl (hb hby d4_131) (XS.iand X763.here hx rfl (hb hby d4_134) rfl (XS.sipush X763.here hx rfl (hb hby d4_135) (XS.icmpNo X763.here hx rfl (hb hby d4_138) rfl (teq P15).2 (XS.iload X763.here hx rfl (hb hby d4_141) rfl (XS.iload X763.here hx rfl (hb hby d4_143) rfl (XS.icmpNo X763.here hx rfl (hb hby d4_145) rfl (tlt (by decide : (1 : Int32) < (3 : Int32))).2.1 (XS.aload X763.here hx rfl (hb hby d4_148) rfl rfl (XS.iload X763.here hx rfl (hb hby d4_150) rfl k_))))))))))
  have ib769 := inb_of (j := (1 : Int32)) cl765S ⟨by decide, by decide⟩
  have R770 : Go p e below P T763 (mkF m 173 #[rV x, rV wU, rV a, iV 0, iV 3, iV 1, rV b_763, iV 1, iV v0, iV v1, uS] [(.int v1), (.int v0), (.int 0), (.ref b_763)]) := fun t_ k_ => R768 t_ (apS (X763.baloadBytes hx (v := (.int v1)) (by rw [(rfl : T763.heap = T763.heap)]; exact cl765A.1) (State.isArrayOf_alike hZ.alike cl765A.2.1) cl765A.2.2 ib769 (cl765H.at ib769 rfl) rfl rfl (hb hby d4_152)) (XS.istore X763.here hx rfl (hb hby d4_153) rfl (l' := #[rV x, rV wU, rV a, iV 0, iV 3, iV 0, rV b_763, iV 1, iV v0, iV v1, uS]) rfl (XS.iload X763.here hx rfl (hb hby d4_155) rfl (XS.bipush X763.here hx rfl (hb hby d4_157) (XS.icmpNo X763.here hx rfl (hb hby d4_159) rfl (tlt P16).2.1 (XS.aload X763.here hx rfl (hb hby d4_162) rfl rfl (XS.iload X763.here hx rfl (hb hby d4_164) rfl (XS.iinc X763.here hx rfl (hb hby d4_166) rfl (l' := #[rV x, rV wU, rV a, iV 0, iV 3, iV ((0 : Int32) + (1 : Int32)), rV b_763, iV 1, iV v0, iV v1, uS]) rfl (XS.iload X763.here hx rfl (hb hby d4_169) rfl (XS.iload X763.here hx rfl (hb hby d4_171) rfl k_))))))))))
  obtain ⟨rv771, T771, Lc771, X771, hQ771, R771⟩ := callQ X763 hx hZ hown (rfl : T763.heap = T763.heap) R770 (dec2_ l Z a0 hw [] v0 v1 c0 T763.heap n0 O763 hd) (hwI hw 171 rfl) (hwI hw 172 rfl) (hwI hw 10 rfl) (hwI hw 173 rfl) [(.int 0), (.ref b_763)] rfl (by rw [hml]; rfl) (lenOf pd_1793231 rfl) rfl (W := 2) (wR rfl) (hb hby d4_173)
  obtain ⟨rfl, N771q, K771⟩ := hQ771
  have N771 := Fr.app N763 N771q
  obtain ⟨cl772, cl772A, cl772q, cl772S, cl772N, cl772H, cl772G⟩ := id p763_1
  obtain ⟨T773, h773, X773, e773, W773, st773⟩ := stB X771 hx hZ K771 cl772A (j := (0 : Int32)) (inb_of cl772S ⟨by decide, by decide⟩) (g := (mkF m 177 #[rV x, rV wU, rV a, iV 0, iV 3, iV 1, rV b_763, iV 1, iV v0, iV v1, uS] [(.int (c0.toInt8.toInt32)), (.int 0), (.ref b_763)])) rfl rfl (hb hby d4_177)
  have V773 : Arv Z h773 b_763 kb_763 .byte (3 : Int32) [(.int (nar .byte (c0.toInt8.toInt32))), (.int v1), (.int v2)] (.int 0) := Arv.set cl772A cl772q cl772S cl772N cl772H cl772G (fits_nar_byte _) W773 0 rfl (Nat.le_of_ble_eq_true rfl)
  have N773 := Fr.snoc X773 N771 (Nat.le_trans (oldLe O0) p763_0)
  have O773 := O763.wr W773 (Nat.le_trans (oldLe O0) p763_0)
  have V773s : Arv Z h773 b_763 kb_763 .byte (3 : Int32) [(.int (c0.toInt8.toInt32)), (.int v1), (.int v2)] (.int 0) := by have q := V773; rw [nar_b8] at q; exact q
  have R774 : Go p e below P T773 (mkF m 107 #[rV x, rV wU, rV a, iV 0, iV 3, iV 1, rV b_763, iV 3, iV v0, iV v1, uS] [(.int 2), (.ref b_763)]) := fun t_ k_ => R771 t_ (XS.i2b X771.here hx rfl (hb hby d4_176) rfl (st773 t_ (XS.iinc X773.here hx rfl (hb hby d4_178) rfl (l' := #[rV x, rV wU, rV a, iV 0, iV 3, iV 1, rV b_763, iV ((1 : Int32) + (1 : Int32)), iV v0, iV v1, uS]) rfl (XS.goto X773.here hx rfl (pc0 := 181) (pc' := 93) rfl (hb hby d4_181) (by decide) (by decide) (XS.iload X773.here hx rfl (hb hby d4_93) rfl (XS.iload X773.here hx rfl (hb hby d4_95) rfl (XS.icmpNo X773.here hx rfl (hb hby d4_97) rfl (tlt (by decide : (2 : Int32) < (3 : Int32))).2.1 (XS.aload X773.here hx rfl (hb hby d4_100) rfl rfl (XS.iload X773.here hx rfl (hb hby d4_102) rfl (XS.iinc X773.here hx rfl (hb hby d4_104) rfl (l' := #[rV x, rV wU, rV a, iV 0, iV 3, iV 1, rV b_763, iV ((2 : Int32) + (1 : Int32)), iV v0, iV v1, uS]) rfl k_))))))))))
  obtain ⟨cl775, cl775A, cl775q, cl775S, cl775N, cl775H, cl775G⟩ := id V773s
  have ib776 := inb_of (j := (2 : Int32)) cl775S ⟨by decide, by decide⟩
  have R777 : Go p e below P T773 (mkF m 129 #[rV x, rV wU, rV a, iV 0, iV 3, iV 1, rV b_763, iV 3, iV v2, iV v1, uS] []) := fun t_ k_ => R774 t_ (apS (X773.baloadBytes hx (v := (.int v2)) (by rw [e773]; exact cl775A.1) (State.isArrayOf_alike hZ.alike cl775A.2.1) cl775A.2.2 ib776 (cl775H.at ib776 rfl) rfl rfl (hb hby d4_107)) (XS.istore X773.here hx rfl (hb hby d4_108) rfl (l' := #[rV x, rV wU, rV a, iV 0, iV 3, iV 1, rV b_763, iV 3, iV v2, iV v1, uS]) rfl (XS.iload X773.here hx rfl (hb hby d4_110) rfl (XS.ifYes X773.here hx rfl (pc0 := 112) (pc' := 129) rfl (hb hby d4_112) rfl ((if0 _ _).trans (tlt P18).1) (by decide) (by decide) k_))))
  have R778 : Go p e below P T773 (mkF m 184 #[rV x, rV wU, rV a, iV 0, iV 3, iV 1, rV b_763, iV 3, iV v2, iV v1, uS] []) := by
    have R780 : Go p e below P T773 (mkF m 138 #[rV x, rV wU, rV a, iV 0, iV 3, iV 1, rV b_763, iV 3, iV v2, iV v1, uS] [(.int 194), (.int (v2 &&& (254 : Int32)))]) := fun t_ k_ => R777 t_ (XS.iload X773.here hx rfl (hb hby d4_129) rfl (XS.sipush X773.here hx rfl (hb hby d4_131) (XS.iand X773.here hx rfl (hb hby d4_134) rfl (XS.sipush X773.here hx rfl (hb hby d4_135) k_))))
    by_cases hc781 : (v2 &&& (254 : Int32)) = (194 : Int32)
    · have R782 : Go p e below P T773 (mkF m 184 #[rV x, rV wU, rV a, iV 0, iV 3, iV 1, rV b_763, iV 3, iV v2, iV v1, uS] []) := fun t_ k_ => R780 t_ (XS.icmpNo X773.here hx rfl (hb hby d4_138) rfl (teq hc781).2 (XS.iload X773.here hx rfl (hb hby d4_141) rfl (XS.iload X773.here hx rfl (hb hby d4_143) rfl (XS.icmpYes X773.here hx rfl (pc0 := 145) (pc' := 184) rfl (hb hby d4_145) rfl (flt (by decide : ¬ ((3 : Int32) < (3 : Int32)))).2.1 (by decide) (by decide) k_))))
      exact R782
    · have R783 : Go p e below P T773 (mkF m 184 #[rV x, rV wU, rV a, iV 0, iV 3, iV 1, rV b_763, iV 3, iV v2, iV v1, uS] []) := fun t_ k_ => R780 t_ (XS.icmpYes X773.here hx rfl (pc0 := 138) (pc' := 184) rfl (hb hby d4_138) rfl (feq hc781).2 (by decide) (by decide) k_)
      exact R783
  have R784 : Go p e below P T773 (mkF m 228 #[rV x, rV wU, rV a, iV 0, iV 3, iV 1, rV b_763, iV 2, iV v2, iV v1, uS] [(.int 3)]) := fun t_ k_ => R778 t_ (XS.iinc X773.here hx rfl (hb hby d4_184) rfl (l' := #[rV x, rV wU, rV a, iV 0, iV 3, iV 1, rV b_763, iV ((3 : Int32) + (-1 : Int32)), iV v2, iV v1, uS]) rfl (XS.goto X773.here hx rfl (pc0 := 187) (pc' := 190) rfl (hb hby d4_187) (by decide) (by decide) (XS.iload X773.here hx rfl (hb hby d4_190) rfl (XS.iload X773.here hx rfl (hb hby d4_192) rfl (XS.icmpYes X773.here hx rfl (pc0 := 194) (pc' := 226) rfl (hb hby d4_194) rfl (feq (by decide : ¬ ((2 : Int32) = (3 : Int32)))).2 (by decide) (by decide) (XS.iload X773.here hx rfl (hb hby d4_226) rfl k_))))))
  obtain ⟨rv785, T785, Lc785, X785, hQ785, R785⟩ := callQ X773 hx hZ hown e773 R784 (newB3_ l Z a0 hw []  h773 n0 O773) (hwI hw 86 rfl) (hwI hw 87 rfl) (hwI hw 88 rfl) (hwI hw 89 rfl) [] rfl (by rw [hml]; rfl) (lenOf pd_1250628 rfl) rfl (W := 0) (wR rfl) (hb hby d4_228)
  obtain ⟨b_785, kb_785, rfl, N785q, K785, p785_0, p785_1⟩ := hQ785
  have N785 := Fr.app N773 N785q
  have O785 := O773.keep K785 all0
  have R786 : Go p e below P T785 (mkF m 241 #[rV x, rV wU, rV a, iV 0, iV 3, iV 1, rV b_763, iV 2, rV b_785, iV v1, uS] [(.int 1), (.int 0), (.ref b_785), (.int 0), (.ref b_763)]) := fun t_ k_ => R785 t_ (XS.astore X785.here hx rfl (hb hby d4_231) rfl rfl (l' := #[rV x, rV wU, rV a, iV 0, iV 3, iV 1, rV b_763, iV 2, rV b_785, iV v1, uS]) rfl (XS.aload X785.here hx rfl (hb hby d4_233) rfl rfl (XS.iconst X785.here hx rfl (hb hby d4_235) (XS.aload X785.here hx rfl (hb hby d4_236) rfl rfl (XS.iconst X785.here hx rfl (hb hby d4_238) (XS.iload X785.here hx rfl (hb hby d4_239) rfl k_))))))
  have f787 := (V773s.keep K785 nin0)
  obtain ⟨rv788, T788, Lc788, X788, hQ788, R788⟩ := callQ X785 hx hZ hown (rfl : T785.heap = T785.heap) R786 (inL1_3_ l Z a0 hw [] b_763 kb_763 (c0.toInt8.toInt32) v1 v2 b_785 kb_785 (6 : Int32) ([(.int 0), (.int 0), (.int 0), (.int 0), (.int 0), (.int 0)]) (3 : Int32) fm c0 T785.heap n0 O785 P9 P10 P11 P12 hfm (by decide) (by decide) f787 p785_1 (by decide) (Nat.le_trans (oldLe O773) p785_0) (Nat.ne_of_lt (Nat.lt_of_lt_of_le V773s.lt p785_0)) hc0 (Nat.le_of_ble_eq_true rfl) rfl (Nat.le_of_ble_eq_true rfl)) (hwI hw 94 rfl) (hwI hw 95 rfl) (hwI hw 76 rfl) (hwI hw 96 rfl) [] rfl (by rw [hml]; rfl) (lenOf pd_17825761 rfl) rfl (W := 0) (wR rfl) (hb hby d4_241)
  obtain ⟨rfl, N788q, K788, p788_0⟩ := hQ788
  have N788 := Fr.app N785 N788q
  have O788 := O785.keep K788 (allS (Nat.le_trans (oldLe O773) p785_0) all0)
  have R789 : Go p e below P T788 (mkF m 255 #[rV x, rV wU, rV a, iV 0, iV 3, iV 1, rV b_763, iV 2, rV b_785, iV v1, uS] [(.int 1), (.int 1), (.ref b_785), (.int 3), (.int 2), (.ref b_763)]) := fun t_ k_ => R788 t_ (XS.aload X788.here hx rfl (hb hby d4_244) rfl rfl (XS.iload X788.here hx rfl (hb hby d4_246) rfl (XS.iload X788.here hx rfl (hb hby d4_248) rfl (XS.aload X788.here hx rfl (hb hby d4_250) rfl rfl (XS.iload X788.here hx rfl (hb hby d4_252) rfl (XS.iconst X788.here hx rfl (hb hby d4_254) k_))))))
  have f790 := (f787.keep K788 (ninS (Nat.ne_of_lt (Nat.lt_of_lt_of_le V773s.lt p785_0)) nin0))
  obtain ⟨rv791, T791, Lc791, X791, hQ791, R791⟩ := callQ X788 hx hZ hown (rfl : T788.heap = T788.heap) R789 (decU30h_ l Z a0 hw [] b_763 kb_763 (c0.toInt8.toInt32) v1 v2 b_785 kb_785 (((([(.int 0), (.int 0), (.int 0), (.int 0), (.int 0), (.int 0)]).set (2 * 0) (.int (loB c0))).set (2 * 0 + 1) (.int (hiB c0)))) T788.heap n0 O788 P9 P10 P11 f790 p788_0 (Nat.le_trans (oldLe O773) p785_0) (Nat.ne_of_lt (Nat.lt_of_lt_of_le V773s.lt p785_0)) rfl P18) (hwI hw 118 rfl) (hwI hw 119 rfl) (hwI hw 10 rfl) (hwI hw 120 rfl) [] rfl (by rw [hml]; rfl) (lenOf pd_22962144 rfl) rfl (W := 0) (wR rfl) (hb hby d4_255)
  obtain ⟨rfl, N791q, K791, p791_0⟩ := hQ791
  have N791 := Fr.app N788 N791q
  have O791 := O788.keep K791 (allS (Nat.le_trans (oldLe O773) p785_0) all0)
  have R792 : Go p e below P T791 (mkF m 260 #[rV x, rV wU, rV a, iV 0, iV 3, iV 2, rV b_763, iV 2, rV b_785, iV v1, uS] []) := fun t_ k_ => R791 t_ (XS.istore X791.here hx rfl (hb hby d4_258) rfl (l' := #[rV x, rV wU, rV a, iV 0, iV 3, iV 2, rV b_763, iV 2, rV b_785, iV v1, uS]) rfl k_)
  have Vl793 : Arv Z T791.heap b_785 kb_785 .byte (6 : Int32) [(.int (loB c0)), (.int (hiB c0)), (.int (loB (65533 : Int32))), (.int (hiB (65533 : Int32))), (.int 0), (.int 0)] (.int 0) := p791_0
  have R794 : Go p e below P T791 (mkF m 273 #[rV x, rV wU, rV a, iV 0, iV 3, iV 2, rV b_763, iV 2, rV b_785, iV v1, uS] [(.int 4), (.ref b_785)]) := fun t_ k_ => R792 t_ (XS.iload X791.here hx rfl (hb hby d4_260) rfl (XS.iload X791.here hx rfl (hb hby d4_262) rfl (XS.icmpNo X791.here hx rfl (hb hby d4_264) rfl (feq (by decide : ¬ ((2 : Int32) = (3 : Int32)))).1 (XS.aload X791.here hx rfl (hb hby d4_267) rfl rfl (XS.iload X791.here hx rfl (hb hby d4_269) rfl (XS.iconst X791.here hx rfl (hb hby d4_271) (XS.ishl X791.here hx rfl (hb hby d4_272) rfl k_)))))))
  obtain ⟨rv795, T795, Lc795, X795, hQ795, R795⟩ := callQ X791 hx hZ hown (rfl : T791.heap = T791.heap) R794 (copy6_4_ l Z a0 hw [] b_785 kb_785 (loB c0) (hiB c0) (loB (65533 : Int32)) (hiB (65533 : Int32)) (0 : Int32) (0 : Int32) T791.heap n0 O791 Vl793) (hwI hw 156 rfl) (hwI hw 157 rfl) (hwI hw 38 rfl) (hwI hw 158 rfl) [] rfl (by rw [hml]; rfl) (lenOf pd_14456175 rfl) rfl (W := 0) (wR rfl) (hb hby d4_273)
  obtain ⟨b_795, kb_795, rfl, N795q, K795, p795_0, p795_1⟩ := hQ795
  have N795 := Fr.app N791 N795q
  have O795 := O791.keep K795 all0
  have f796 := ((((((P0.keep K763).wr W773).keep K785).keep K788).keep K791).keep K795)
  have f797 := ((((((P1.keep K763 nin0).other W773 (Or.inl (Nat.ne_of_lt (Nat.lt_of_lt_of_le P0.lt p763_0)))).keep K785 nin0).keep K788 (ninS (Nat.ne_of_lt (Nat.lt_of_lt_of_le ((P0.keep K763).wr W773).lt p785_0)) nin0)).keep K791 (ninS (Nat.ne_of_lt (Nat.lt_of_lt_of_le ((P0.keep K763).wr W773).lt p785_0)) nin0)).keep K795 nin0)
  obtain ⟨T798, h798, X798, e798, W798, st798⟩ := putF X795 hx hZ hown (host := "") (Or.inl (hwI hw 49 rfl)) Via.refl (rfl : T795.heap = T795.heap) f797 f796 (Or.inr ⟨(hwI hw 50 rfl), rfl, hnm⟩) (hwI hw 9 rfl) (ty := (.array .byte)) (by decide) rfl rfl (g := (mkF m 281 #[rV x, rV wU, rV a, iV 0, iV 3, iV 2, rV b_763, iV 2, rV b_795, iV v1, uS] [(.ref b_795), (.ref x)])) rfl rfl (hb hby d4_281)
  have N798 := Fr.snoc X798 N795 P3
  have Fw798 := f797.same W798
  have O798 := O795.wr W798 P3
  have f799 := (f796.wr W798)
  have f800 := (((((((P2.keep K763 nin0).other W773 (Or.inl (Nat.ne_of_lt (Nat.lt_of_lt_of_le P0.lt p763_0)))).keep K785 nin0).keep K788 (ninS (Nat.ne_of_lt (Nat.lt_of_lt_of_le ((P0.keep K763).wr W773).lt p785_0)) nin0)).keep K791 (ninS (Nat.ne_of_lt (Nat.lt_of_lt_of_le ((P0.keep K763).wr W773).lt p785_0)) nin0)).keep K795 nin0).other W798 (Or.inr (slot_ne (Or.inr (hwI hw 52 rfl)) (Or.inr (hwI hw 50 rfl)) (by decide) (t := .byte) (t' := (.array .byte)) (by decide) (by decide))))
  obtain ⟨T801, h801, X801, e801, W801, st801⟩ := putFN X798 hx hZ hown (hwI hw 51 rfl) Via.refl e798 f800 f799 (Or.inr ⟨(hwI hw 52 rfl), rfl, hnm⟩) (hwI hw 9 rfl) (ty := .byte) (v' := (.int 1)) (by decide) rfl rfl (g := (mkF m 286 #[rV x, rV wU, rV a, iV 0, iV 3, iV 2, rV b_763, iV 2, rV b_795, iV v1, uS] [(.int 1), (.ref x)])) rfl rfl (hb hby d4_286)
  have N801 := Fr.snoc X801 N798 P3
  have Fw801 := f800.same W801
  have O801 := O798.wr W801 P3
  have R802 : Go p e below P T801 (mkF m 879 #[rV x, rV wU, rV a, iV 0, iV 3, iV 2, rV b_763, iV 2, rV b_795, iV v1, uS] []) := fun t_ k_ => R795 t_ (XS.astore X795.here hx rfl (hb hby d4_276) rfl rfl (l' := #[rV x, rV wU, rV a, iV 0, iV 3, iV 2, rV b_763, iV 2, rV b_795, iV v1, uS]) rfl (XS.aloadN X795.here hx rfl (hb hby d4_278) rfl rfl (XS.aload X795.here hx rfl (hb hby d4_279) rfl rfl (st798 t_ (XS.aloadN X798.here hx rfl (hb hby d4_284) rfl rfl (XS.iconst X798.here hx rfl (hb hby d4_285) (st801 t_ (XS.goto X801.here hx rfl (pc0 := 289) (pc' := 879) rfl (hb hby d4_289) (by decide) (by decide) k_))))))))
  obtain ⟨fs, hr, hrun, hended, hW, hsame⟩ := X801.leave (v := none) (fun _ => rfl)
  have f803 := (f799.wr W801)
  have f804 := (Fw798.other W801 (Or.inr (slot_ne (Or.inr (hwI hw 50 rfl)) (Or.inr (hwI hw 52 rfl)) (by decide) (t := (.array .byte)) (t' := .byte) (by decide) (by decide))))
  have f805 := ((p795_1.other W798 (Ne.symm (Nat.ne_of_lt (Nat.lt_of_lt_of_le (((((P0.keep K763).wr W773).keep K785).keep K788).keep K791).lt p795_0)))).other W801 (Ne.symm (Nat.ne_of_lt (Nat.lt_of_lt_of_le (((((P0.keep K763).wr W773).keep K785).keep K788).keep K791).lt p795_0))))
  exact ⟨_, _, hP _ (R802 _ (X801.returnOut hx Bd.returns (hb hby d4_879) hr)), hrun, hended, _, _, rfl, ⟨b_795, kb_795, rfl, N801, (e801.symm ▸ (((((((((Keep.refl h0 [x]).trans K763 all0).wr W773 (Or.inr p763_0)).trans K785 all0).trans K788 (allS (Or.inr (Nat.le_trans (((Keep.refl h0 [x]).trans K763 all0).wr W773 (Or.inr p763_0)).1 p785_0)) all0)).trans K791 (allS (Or.inr (Nat.le_trans (((Keep.refl h0 [x]).trans K763 all0).wr W773 (Or.inr p763_0)).1 p785_0)) all0)).trans K795 all0).wr W798 (Or.inl (List.mem_of_getElem? (i := 0) rfl))).wr W801 (Or.inl (List.mem_of_getElem? (i := 0) rfl)))), (e801.symm ▸ f803), (e801.symm ▸ Fw801), (e801.symm ▸ f804), (e801.symm ▸ f805)⟩, ⟨_, rfl⟩, hW, hsame.mono (by decide) (by decide)⟩
def Q_injBh_ (Z : State) (x : Addr) (a : Addr) (ka : ClassId) (v0 : Int32) (v1 : Int32) (v2 : Int32) (c0 : Int32) (wU : Addr) (zc : Int32) (fm : Value) (h0 : Heap) (n0 : Nat) (rv_ : Option Value) (rh_ : Heap) (rL_ : List Loc) : Prop := ∃ t : Addr, ∃ kb : ClassId, (rv_ = none) ∧ (Fr n0 rL_) ∧ (Keep h0 rh_ [x]) ∧ (Exa Z rh_ x "java/lang/String") ∧ (Fld Z rh_ x "java/lang/String" "coder" "B" (.int 1)) ∧ (Fld Z rh_ x "java/lang/String" "value" "[B" (.ref t)) ∧ (Arv Z rh_ t kb .byte (4 : Int32) [(.int (loB c0)), (.int (hiB c0)), (.int (loB (65533 : Int32))), (.int (hiB (65533 : Int32)))] (.int 0))
set_option maxRecDepth 65536 in
set_option maxHeartbeats 40000000 in
theorem injBh_ (l : Launch) (Z : State) (a0 : Array Value) (hw : HW Z a0) (ws : List Jvm.Cond) (x : Addr) (a : Addr) (ka : ClassId) (v0 : Int32) (v1 : Int32) (v2 : Int32) (c0 : Int32) (wU : Addr) (zc : Int32) (fm : Value) (h0 : Heap) (n0 : Nat) (O0 : Old Z n0 h0) (P0 : Exa Z h0 x "java/lang/String") (P1 : Fld Z h0 x "java/lang/String" "value" "[B" .null) (P2 : Fld Z h0 x "java/lang/String" "coder" "B" (.int 0)) (P3 : n0 ≤ x) (P4 : Arv Z h0 a ka .byte (3 : Int32) [(.int v0), (.int v1), (.int v2)] (.int 0)) (P5 : Exa Z h0 a "[B") (P6 : sT5 Z (.ref wU)) (P7 : sT0 Z (.int zc)) (P8 : ¬ zc = 0) (P9 : sT2 Z (.int 1)) (P10 : sT3 Z (.int 0)) (P11 : sT4 Z (.int 8)) (P12 : sT1 Z fm) (P13 : fm.isRef = true) (P14 : Exa Z Z.heap wU "sun/nio/cs/UTF_8") (P15 : v0 < (0 : Int32)) (P16 : (v0 &&& (254 : Int32)) = (194 : Int32)) (P17 : v1 < (-64 : Int32)) (P18 : d2 v0 v1 = c0) (P19 : v2 < (0 : Int32)) (P20 : ((c0.toInt8.toInt32) &&& (255 : Int32)) = c0) :
    MetQ l yM34 (Jvm.Cond.code yM34 jdk_42_method_49_code 3 none) ws (rM 6 3 13 98) Z #[(.ref x), (.ref a), (.ref wU)] h0 (Q_injBh_ Z x a ka v0 v1 v2 c0 wU zc fm h0 n0) := by
  have hzc := P8
  have hfm := P13
  have hd := P18
  have hc0 := P20
  refine metQ (plainFor_of_name pn_47582652) hisR (fun m => ef2_RRR m x a wU) ?_
  intro p e s m below meth c s₁ P Bd hx hby hml hZ hown hnm X0 e0 hP R0
  have N0 := Fr.nil n0
  have R806 : Go p e below P s₁ (mkF m 2 #[rV x, rV a, rV wU] [(.ref wU), (.ref x)]) := fun t_ k_ => R0 t_ (XS.aloadN X0.here hx rfl (hb hby d2_0) rfl rfl (XS.aloadN X0.here hx rfl (hb hby d2_1) rfl rfl k_))
  obtain ⟨rv807, T807, Lc807, X807, hQ807, R807⟩ := callQ X0 hx hZ hown e0 R806 (rnn_ l Z a0 hw [] wU h0 n0 O0) (hwI hw 16 rfl) (hwI hw 17 rfl) (hwI hw 18 rfl) (hwI hw 19 rfl) [(.ref x)] rfl (by rw [hml]; rfl) (lenOf pd_72566344 rfl) rfl (W := 1) (wR rfl) (hb hby d2_2)
  obtain ⟨rfl, N807q, K807⟩ := hQ807
  have N807 := Fr.app N0 N807q
  obtain ⟨T808, X808, e808, st808⟩ := castY X807 hx hZ hown (hwI hw 20 rfl) K807 (Ins.of_exa (P14.ext O0.2) (hwI hw 21 rfl)) (g := (mkF m 5 #[rV x, rV a, rV wU] [(.ref wU), (.ref x)])) rfl rfl (hb hby d2_5)
  have R809 : Go p e below P T808 (mkF m 11 #[rV x, rV a, rV wU] [(.ref a), (.int 0), (.ref a), (.ref wU), (.ref x)]) := fun t_ k_ => R807 t_ (st808 t_ (XS.aloadN X808.here hx rfl (hb hby d2_8) rfl rfl (XS.iconst X808.here hx rfl (hb hby d2_9) (XS.aloadN X808.here hx rfl (hb hby d2_10) rfl rfl k_))))
  obtain ⟨cl810, cl810A, -, cl810S, cl810N, -, -⟩ := id P4
  have R811 : Go p e below P T808 (mkF m 12 #[rV x, rV a, rV wU] [(.int 3), (.int 0), (.ref a), (.ref wU), (.ref x)]) := fun t_ k_ => R809 t_ (X808.arraylength hx (by rw [e808]; exact cl810A.1) (State.isArrayOf_alike hZ.alike cl810A.2.1) (g := (mkF m 11 #[rV x, rV a, rV wU] [(.ref a), (.int 0), (.ref a), (.ref wU), (.ref x)])) rfl rfl (hb hby d2_11) t_ (by rw [len_of cl810S cl810N]; exact k_))
  obtain ⟨rv812, _, ⟨T812, L812, k812, n812⟩, -, X812, ⟨Lc812, hQ812, l812, y812, z812⟩, st812⟩ := X808.specialBackH hx (y := yM33) rfl hown (mvT hZ (hwI hw 22 rfl)) (mvT hZ (hwI hw 23 rfl)) (mvT hZ (hwI hw 25 rfl)) (by decide) (backOfWith (W := 0) (iniBh_ l Z a0 hw [] x a ka v0 v1 v2 c0 wU zc fm h0 n0 O0 P0 P1 P2 P3 P4 P5 P6 P7 hzc P9 P10 P11 P12 hfm P15 P16 P17 hd P19 hc0) hZ (hwI hw 25 rfl) (hwI hw 10 rfl) (by decide) (by decide)) (g := (mkF m 12 #[rV x, rV a, rV wU] [(.int 3), (.int 0), (.ref a), (.ref wU), (.ref x)])) rfl (by rw [hml]; rfl) (Steps.refl _) (a := x) (argsL := [(.ref wU), (.ref a), (.int 0), (.int 3)]) (rest := []) (lenOf pd_41235415 rfl) rfl (by show 2 * 0 + _ ≤ _; exact Nat.le_of_eq rfl) (hb hby d2_12) (fun _ _ => ⟨rfl, e808, (by decide : 0 + 3 ≤ _), (by decide : 0 + 13 ≤ _)⟩)
  dsimp only [Pt.U, Pt.locs, Pt.cells, Pt.slots] at X812 l812 y812 z812 st812 hQ812
  subst l812 y812 z812
  obtain ⟨t_812, kb_812, rfl, N812q, K812, p812_0, p812_1, p812_2, p812_3⟩ := hQ812
  have N812 := Fr.app N807 N812q
  have O812 := O0.keep K812 (allS P3 all0)
  have R813 : Go p e below P T812 (mkF m 15 #[rV x, rV a, rV wU] []) := fun t_ k_ => R811 t_ (st812.trans k_)
  obtain ⟨fs, hr, hrun, hended, hW, hsame⟩ := X812.leave (v := none) (fun _ => rfl)
  exact ⟨_, _, hP _ (R813 _ (X812.returnOut hx Bd.returns (hb hby d2_15) hr)), hrun, hended, _, _, rfl, ⟨t_812, kb_812, rfl, N812, ((Keep.refl h0 [x]).trans K812 (allS (Or.inl (List.mem_of_getElem? (i := 0) rfl)) all0)), p812_0, p812_1, p812_2, p812_3⟩, ⟨_, rfl⟩, hW, hsame.mono (by decide) (by decide)⟩
def Q_decBh_ (Z : State) (a : Addr) (ka : ClassId) (v0 : Int32) (v1 : Int32) (v2 : Int32) (c0 : Int32) (wU : Addr) (zc : Int32) (fm : Value) (h0 : Heap) (n0 : Nat) (rv_ : Option Value) (rh_ : Heap) (rL_ : List Loc) : Prop := ∃ x : Addr, ∃ t : Addr, ∃ kb : ClassId, (rv_ = some (.ref x)) ∧ (Fr n0 rL_) ∧ (Keep h0 rh_ []) ∧ (h0.size ≤ x) ∧ (Exa Z rh_ x "java/lang/String") ∧ (Fld Z rh_ x "java/lang/String" "coder" "B" (.int 1)) ∧ (Fld Z rh_ x "java/lang/String" "value" "[B" (.ref t)) ∧ (Arv Z rh_ t kb .byte (4 : Int32) [(.int (loB c0)), (.int (hiB c0)), (.int (loB (65533 : Int32))), (.int (hiB (65533 : Int32)))] (.int 0))
set_option maxRecDepth 65536 in
set_option maxHeartbeats 40000000 in
theorem decBh_ (l : Launch) (Z : State) (a0 : Array Value) (hw : HW Z a0) (ws : List Jvm.Cond) (a : Addr) (ka : ClassId) (v0 : Int32) (v1 : Int32) (v2 : Int32) (c0 : Int32) (wU : Addr) (zc : Int32) (fm : Value) (h0 : Heap) (n0 : Nat) (O0 : Old Z n0 h0) (P0 : Arv Z h0 a ka .byte (3 : Int32) [(.int v0), (.int v1), (.int v2)] (.int 0)) (P1 : Exa Z h0 a "[B") (P2 : sT5 Z (.ref wU)) (P3 : sT0 Z (.int zc)) (P4 : ¬ zc = 0) (P5 : sT2 Z (.int 1)) (P6 : sT3 Z (.int 0)) (P7 : sT4 Z (.int 8)) (P8 : sT1 Z fm) (P9 : fm.isRef = true) (P10 : sT6 Z (.ref wU)) (P11 : Exa Z Z.heap wU "sun/nio/cs/UTF_8") (P12 : v0 < (0 : Int32)) (P13 : (v0 &&& (254 : Int32)) = (194 : Int32)) (P14 : v1 < (-64 : Int32)) (P15 : d2 v0 v1 = c0) (P16 : v2 < (0 : Int32)) (P17 : ((c0.toInt8.toInt32) &&& (255 : Int32)) = c0) :
    MetQ l yM35 (Jvm.Cond.code yM35 prog_5_method_5_code 1 (some (.object "java/lang/String"))) ws (rM 7 4 17 113) Z #[(.ref a)] h0 (Q_decBh_ Z a ka v0 v1 v2 c0 wU zc fm h0 n0) := by
  have hzc := P4
  have hfm := P9
  have hd := P15
  have hc0 := P17
  refine metQ (plainFor_of_name pn_4625033) hisR (fun m => ef1_R m a) ?_
  intro p e s m below meth c s₁ P Bd hx hby hml hZ hown hnm X0 e0 hP R0
  have N0 := Fr.nil n0
  obtain ⟨T814, h814, X814, e814, E814, A814, D814, -, st814⟩ := newO X0 hx hZ hown (hwI hw 8 rfl) (hwI hw 9 rfl) (hwI hw 10 rfl) e0 (g := (mkF m 0 #[rV a] [])) rfl (hb hby d1_0) (by decide) (by decide)
  obtain ⟨b814, g814⟩ : ∃ z, z = h0.size := ⟨_, rfl⟩
  rw [← g814] at A814 D814 st814
  have O814 := O0.ext E814
  have F814_50 : Fld Z h814 b814 "java/lang/String" "value" "[B" .null := D814 (Or.inr (hwI hw 50 rfl)) (ty := (.array .byte)) (by decide)
  have F814_52 : Fld Z h814 b814 "java/lang/String" "coder" "B" (.int 0) := D814 (Or.inr (hwI hw 52 rfl)) (ty := .byte) (by decide)
  obtain ⟨T815, X815, e815, st815⟩ := getS2 X814 hx hZ hown (host := "") (Or.inl (hwI hw 11 rfl)) Via.refl e814 (P10.ext O814.2) (g := (mkF m 5 #[rV a] [(.ref a), (.ref b814), (.ref b814)])) rfl (hb hby d1_5)
  have R816 : Go p e below P T815 (mkF m 8 #[rV a] [(.ref wU), (.ref a), (.ref b814), (.ref b814)]) := fun t_ k_ => R0 t_ (st814 t_ (XS.dup X814.here hx rfl (hb hby d1_3) rfl rfl (XS.aloadN X814.here hx rfl (hb hby d1_4) rfl rfl (st815 t_ k_))))
  have f817 := (P0.ext E814)
  have f818 := (P1.ext E814)
  obtain ⟨rv819, _, ⟨T819, L819, k819, n819⟩, -, X819, ⟨Lc819, hQ819, l819, y819, z819⟩, st819⟩ := X815.specialBack hx (y := yM34) rfl hown (mvT hZ (hwI hw 13 rfl)) (mvT hZ (hwI hw 14 rfl)) (mvT hZ (hwI hw 15 rfl)) (by decide) (backOf (W := 1) (injBh_ l Z a0 hw [] b814 a ka v0 v1 v2 c0 wU zc fm h814 n0 O814 A814 F814_50 F814_52 (Nat.le_trans (oldLe O0) (Nat.le_of_eq g814.symm)) f817 f818 P2 P3 hzc P5 P6 P7 P8 hfm P11 P12 P13 P14 hd P16 hc0) hZ (hwI hw 15 rfl) (hwI hw 10 rfl) (by decide) (by decide)) (g := (mkF m 8 #[rV a] [(.ref wU), (.ref a), (.ref b814), (.ref b814)])) rfl (by rw [hml]; rfl) (Steps.refl _) (a := b814) (argsL := [(.ref a), (.ref wU)]) (rest := [(.ref b814)]) (lenOf pd_90622059 rfl) rfl (by show 2 * 0 + _ ≤ _; exact Nat.le_of_eq rfl) (hb hby d1_8) (fun _ _ => ⟨rfl, e815, (by decide : 1 + 3 ≤ _), (by decide : 4 + 13 ≤ _)⟩)
  dsimp only [Pt.U, Pt.locs, Pt.cells, Pt.slots] at X819 l819 y819 z819 st819 hQ819
  subst l819 y819 z819
  obtain ⟨t_819, kb_819, rfl, N819q, K819, p819_0, p819_1, p819_2, p819_3⟩ := hQ819
  have N819 := Fr.app N0 N819q
  have O819 := O814.keep K819 (allS (Nat.le_trans (oldLe O0) (Nat.le_of_eq g814.symm)) all0)
  have R820 : Go p e below P T819 (mkF m 11 #[rV a] [(.ref b814)]) := fun t_ k_ => R816 t_ (st819.trans k_)
  obtain ⟨fs, hr, hrun, hended, hW, hsame⟩ := X819.leave (v := some (.ref b814)) (fun h => by rw [Bd.returns] at h; cases h)
  exact ⟨_, _, hP _ (R820 _ (retOut X819 hx Bd.returns rfl (Or.inr (Or.inr (Or.inr (Or.inr ⟨rfl, rfl, rfl⟩)))) (hb hby d1_11) hr)), hrun, hended, _, _, rfl, ⟨b814, t_819, kb_819, rfl, N819, (((Keep.refl h0 []).ext E814).trans K819 (allS (Or.inr (Nat.le_of_eq g814.symm)) all0)), (Nat.le_of_eq g814.symm), p819_0, p819_1, p819_2, p819_3⟩, ⟨_, rfl⟩, hW, hsame.mono (by decide) (by decide)⟩
def Q_iniB2l_ (Z : State) (x : Addr) (a : Addr) (ka : ClassId) (v0 : Int32) (v1 : Int32) (v2 : Int32) (c0 : Int32) (wU : Addr) (zc : Int32) (fm : Value) (h0 : Heap) (n0 : Nat) (rv_ : Option Value) (rh_ : Heap) (rL_ : List Loc) : Prop := ∃ t : Addr, ∃ kb : ClassId, (rv_ = none) ∧ (Fr n0 rL_) ∧ (Keep h0 rh_ [x]) ∧ (Exa Z rh_ x "java/lang/String") ∧ (Fld Z rh_ x "java/lang/String" "coder" "B" (.int 1)) ∧ (Fld Z rh_ x "java/lang/String" "value" "[B" (.ref t)) ∧ (Arv Z rh_ t kb .byte (4 : Int32) [(.int (loB c0)), (.int (hiB c0)), (.int (loB v2)), (.int (hiB v2))] (.int 0))
set_option maxRecDepth 65536 in
set_option maxHeartbeats 40000000 in
theorem iniB2l_ (l : Launch) (Z : State) (a0 : Array Value) (hw : HW Z a0) (ws : List Jvm.Cond) (x : Addr) (a : Addr) (ka : ClassId) (v0 : Int32) (v1 : Int32) (v2 : Int32) (c0 : Int32) (wU : Addr) (zc : Int32) (fm : Value) (h0 : Heap) (n0 : Nat) (O0 : Old Z n0 h0) (P0 : Exa Z h0 x "java/lang/String") (P1 : Fld Z h0 x "java/lang/String" "value" "[B" .null) (P2 : Fld Z h0 x "java/lang/String" "coder" "B" (.int 0)) (P3 : n0 ≤ x) (P4 : Arv Z h0 a ka .byte (3 : Int32) [(.int v0), (.int v1), (.int v2)] (.int 0)) (P5 : Exa Z h0 a "[B") (P6 : sT5 Z (.ref wU)) (P7 : sT0 Z (.int zc)) (P8 : ¬ zc = 0) (P9 : sT2 Z (.int 1)) (P10 : sT3 Z (.int 0)) (P11 : sT4 Z (.int 8)) (P12 : sT1 Z fm) (P13 : fm.isRef = true) (P14 : v0 < (0 : Int32)) (P15 : ¬ ((v0 &&& (254 : Int32)) = (194 : Int32))) (P16 : ¬ (v2 < (0 : Int32))) (P17 : (v2.toUInt32.toUInt16.toUInt32.toInt32) = v2) (P18 : (v0 >>> ((5 : Int32) &&& 31)) = (-2 : Int32)) (P19 : ¬ ((v0 &&& (30 : Int32)) = (0 : Int32))) (P20 : (v1 &&& (192 : Int32)) = (128 : Int32)) (P21 : d2 v0 v1 = c0) :
    MetQ l yM33 (Jvm.Cond.codeWith yM33 jdk_42_method_11_code 11 none [((800 : Nat), (813 : Nat), (816 : Nat), (202 : Nat))]) ws (rM 5 3 13 76) Z #[(.ref x), (.ref wU), (.ref a), (.int 0), (.int 3)] h0 (Q_iniB2l_ Z x a ka v0 v1 v2 c0 wU zc fm h0 n0) := by
  have hzc := P8
  have hfm := P13
  have ht := P17
  have hd := P21
  refine metQ (plainFor_of_name pn_47582652) hisWith (fun m => ef4_RRRII m x wU a (0 : Int32) (3 : Int32)) ?_
  intro p e s m below meth c s₁ P Bd hx hby hml hZ hown hnm X0 e0 hP R0
  have N0 := Fr.nil n0
  have R821 : Go p e below P s₁ (mkF m 1 #[rV x, rV wU, rV a, iV 0, iV 3, uS, uS, uS, uS, uS, uS] [(.ref x)]) := fun t_ k_ => R0 t_ (XS.aloadN X0.here hx rfl (hb hby d4_0) rfl rfl k_)
  obtain ⟨T822, X822, e822, st822⟩ := initO X0 hx hZ hown (hwI hw 26 rfl) (hwI hw 27 rfl) (hwI hw 28 rfl) e0 (g := (mkF m 1 #[rV x, rV wU, rV a, iV 0, iV 3, uS, uS, uS, uS, uS, uS] [(.ref x)])) rfl (by rw [hml]; rfl) rfl (hb hby d4_1) (by decide) (W := 0) (by show 2 * 0 + _ ≤ _; exact Nat.le_of_eq rfl) (by decide)
  obtain ⟨T823, X823, e823, st823⟩ := getS2 X822 hx hZ hown (host := "") (Or.inl (hwI hw 29 rfl)) Via.refl e822 (P6.ext O0.2) (g := (mkF m 31 #[rV x, rV wU, rV a, iV 0, iV 3, uS, uS, uS, uS, uS, uS] [(.ref wU)])) rfl (hb hby d4_31)
  obtain ⟨T824, X824, e824, st824⟩ := getS2 X823 hx hZ hown (host := "") (Or.inl (hwI hw 31 rfl)) Via.refl e823 (P7.ext O0.2) (g := (mkF m 37 #[rV x, rV wU, rV a, iV 0, iV 3, uS, uS, uS, uS, uS, uS] [])) rfl (hb hby d4_37)
  have R825 : Go p e below P T824 (mkF m 47 #[rV x, rV wU, rV a, iV 0, iV 3, uS, uS, uS, uS, uS, uS] [(.int 3), (.int 0), (.ref a)]) := fun t_ k_ => R821 t_ (st822 t_ (XS.iload X822.here hx rfl (hb hby d4_4) rfl (XS.ifYes X822.here hx rfl (pc0 := 6) (pc' := 30) rfl (hb hby d4_6) rfl ((if0 _ _).trans (feq (by decide : ¬ ((3 : Int32) = (0 : Int32)))).2) (by decide) (by decide) (XS.aloadN X822.here hx rfl (hb hby d4_30) rfl rfl (st823 t_ (Jvm.RoadKit.acmp (g := (mkF m 34 #[rV x, rV wU, rV a, iV 0, iV 3, uS, uS, uS, uS, uS, uS] [(.ref wU), (.ref wU)])) X823 hx rfl rfl rfl (pc0 := 34) (pc' := 37) (same := true) rfl (hb hby d4_34) rfl (decide_eq_true (congrArg Value.ref rfl)) (by decide) (by decide) (st824 t_ (XS.ifNo X824.here hx rfl (hb hby d4_40) rfl ((if0 _ _).trans (feq hzc).1) (XS.aloadN X824.here hx rfl (hb hby d4_43) rfl rfl (XS.iloadN X824.here hx rfl (hb hby d4_44) rfl (XS.iload X824.here hx rfl (hb hby d4_45) rfl k_)))))))))))
  obtain ⟨rv826, T826, Lc826, X826, hQ826, R826⟩ := callQ X824 hx hZ hown e824 R825 (cpos30_ l Z a0 hw [] a ka v0 v1 v2 h0 n0 O0 P4 P14) (hwI hw 32 rfl) (hwI hw 33 rfl) (hwI hw 34 rfl) (hwI hw 35 rfl) [] rfl (by rw [hml]; rfl) (lenOf pd_14998784 rfl) rfl (W := 0) (wR rfl) (hb hby d4_47)
  obtain ⟨rfl, N826q, K826⟩ := hQ826
  have N826 := Fr.app N0 N826q
  have R827 : Go p e below P T826 (mkF m 84 #[rV x, rV wU, rV a, iV 0, iV 3, iV 0, uS, uS, uS, uS, uS] [(.int 3), (.int 0), (.ref a)]) := fun t_ k_ => R826 t_ (XS.istore X826.here hx rfl (hb hby d4_50) rfl (l' := #[rV x, rV wU, rV a, iV 0, iV 3, iV 0, uS, uS, uS, uS, uS]) rfl (XS.iload X826.here hx rfl (hb hby d4_52) rfl (XS.iload X826.here hx rfl (hb hby d4_54) rfl (XS.icmpYes X826.here hx rfl (pc0 := 56) (pc' := 78) rfl (hb hby d4_56) rfl (feq (by decide : ¬ ((0 : Int32) = (3 : Int32)))).2 (by decide) (by decide) (XS.aloadN X826.here hx rfl (hb hby d4_78) rfl rfl (XS.iloadN X826.here hx rfl (hb hby d4_79) rfl (XS.iloadN X826.here hx rfl (hb hby d4_80) rfl (XS.iload X826.here hx rfl (hb hby d4_81) rfl (XS.iadd X826.here hx rfl (hb hby d4_83) rfl k_)))))))))
  obtain ⟨rv828, T828, Lc828, X828, hQ828, R828⟩ := callQ X826 hx hZ hown K826 R827 (cor3_ l Z a0 hw [] a ka v0 v1 v2 h0 n0 O0 P4 P5) (hwI hw 36 rfl) (hwI hw 37 rfl) (hwI hw 38 rfl) (hwI hw 39 rfl) [] rfl (by rw [hml]; rfl) (lenOf pd_64843128 rfl) rfl (W := 0) (wR rfl) (hb hby d4_84)
  obtain ⟨b_828, kb_828, rfl, N828q, K828, p828_0, p828_1⟩ := hQ828
  have N828 := Fr.app N826 N828q
  have O828 := O0.keep K828 all0
  have R829 : Go p e below P T828 (mkF m 107 #[rV x, rV wU, rV a, iV 0, iV 3, iV 0, rV b_828, iV 1, uS, uS, uS] [(.int 0), (.ref b_828)]) := fun t_ k_ => R828 t_ (XS.astore X828.here hx rfl (hb hby d4_87) rfl rfl (l' := #[rV x, rV wU, rV a, iV 0, iV 3, iV 0, rV b_828, uS, uS, uS, uS]) rfl (XS.iload X828.here hx rfl (hb hby d4_89) rfl (XS.istore X828.here hx rfl (hb hby d4_91) rfl (l' := #[rV x, rV wU, rV a, iV 0, iV 3, iV 0, rV b_828, iV 0, uS, uS, uS]) rfl (XS.iload X828.here hx rfl (hb hby d4_93) rfl (XS.iload X828.here hx rfl (hb hby d4_95) rfl (XS.icmpNo X828.here hx rfl (hb hby d4_97) rfl (tlt (by decide : (0 : Int32) < (3 : Int32))).2.1 (XS.aload X828.here hx rfl (hb hby d4_100) rfl rfl (XS.iload X828.here hx rfl (hb hby d4_102) rfl (XS.iinc X828.here hx rfl (hb hby d4_104) rfl (l' := #[rV x, rV wU, rV a, iV 0, iV 3, iV 0, rV b_828, iV ((0 : Int32) + (1 : Int32)), uS, uS, uS]) rfl k_)))))))))
  obtain ⟨cl830, cl830A, cl830q, cl830S, cl830N, cl830H, cl830G⟩ := id p828_1
  have ib831 := inb_of (j := (0 : Int32)) cl830S ⟨by decide, by decide⟩
  have R832 : Go p e below P T828 (mkF m 129 #[rV x, rV wU, rV a, iV 0, iV 3, iV 0, rV b_828, iV 1, iV v0, uS, uS] []) := fun t_ k_ => R829 t_ (apS (X828.baloadBytes hx (v := (.int v0)) (by rw [(rfl : T828.heap = T828.heap)]; exact cl830A.1) (State.isArrayOf_alike hZ.alike cl830A.2.1) cl830A.2.2 ib831 (cl830H.at ib831 rfl) rfl rfl (hb hby d4_107)) (XS.istore X828.here hx rfl (hb hby d4_108) rfl (l' := #[rV x, rV wU, rV a, iV 0, iV 3, iV 0, rV b_828, iV 1, iV v0, uS, uS]) rfl (XS.iload X828.here hx rfl (hb hby d4_110) rfl (XS.ifYes X828.here hx rfl (pc0 := 112) (pc' := 129) rfl (hb hby d4_112) rfl ((if0 _ _).trans (tlt P14).1) (by decide) (by decide) k_))))
  have R833 : Go p e below P T828 (mkF m 228 #[rV x, rV wU, rV a, iV 0, iV 3, iV 0, rV b_828, iV 0, iV v0, uS, uS] [(.int 3)]) := fun t_ k_ => R832 t_ (XS.iload X828.here hx rfl (hb hby d4_129) rfl (XS.sipush X828.here hx rfl (hb hby d4_131) (XS.iand X828.here hx rfl (hb hby d4_134) rfl (XS.sipush X828.here hx rfl (hb hby d4_135) (XS.icmpYes X828.here hx rfl (pc0 := 138) (pc' := 184) rfl (hb hby d4_138) rfl (feq P15).2 (by decide) (by decide) (XS.iinc X828.here hx rfl (hb hby d4_184) rfl (l' := #[rV x, rV wU, rV a, iV 0, iV 3, iV 0, rV b_828, iV ((1 : Int32) + (-1 : Int32)), iV v0, uS, uS]) rfl (XS.goto X828.here hx rfl (pc0 := 187) (pc' := 190) rfl (hb hby d4_187) (by decide) (by decide) (XS.iload X828.here hx rfl (hb hby d4_190) rfl (XS.iload X828.here hx rfl (hb hby d4_192) rfl (XS.icmpYes X828.here hx rfl (pc0 := 194) (pc' := 226) rfl (hb hby d4_194) rfl (feq (by decide : ¬ ((0 : Int32) = (3 : Int32)))).2 (by decide) (by decide) (XS.iload X828.here hx rfl (hb hby d4_226) rfl k_)))))))))))
  obtain ⟨rv834, T834, Lc834, X834, hQ834, R834⟩ := callQ X828 hx hZ hown (rfl : T828.heap = T828.heap) R833 (newB3_ l Z a0 hw []  T828.heap n0 O828) (hwI hw 86 rfl) (hwI hw 87 rfl) (hwI hw 88 rfl) (hwI hw 89 rfl) [] rfl (by rw [hml]; rfl) (lenOf pd_1250628 rfl) rfl (W := 0) (wR rfl) (hb hby d4_228)
  obtain ⟨b_834, kb_834, rfl, N834q, K834, p834_0, p834_1⟩ := hQ834
  have N834 := Fr.app N828 N834q
  have O834 := O828.keep K834 all0
  have R835 : Go p e below P T834 (mkF m 241 #[rV x, rV wU, rV a, iV 0, iV 3, iV 0, rV b_828, iV 0, rV b_834, uS, uS] [(.int 0), (.int 0), (.ref b_834), (.int 0), (.ref b_828)]) := fun t_ k_ => R834 t_ (XS.astore X834.here hx rfl (hb hby d4_231) rfl rfl (l' := #[rV x, rV wU, rV a, iV 0, iV 3, iV 0, rV b_828, iV 0, rV b_834, uS, uS]) rfl (XS.aload X834.here hx rfl (hb hby d4_233) rfl rfl (XS.iconst X834.here hx rfl (hb hby d4_235) (XS.aload X834.here hx rfl (hb hby d4_236) rfl rfl (XS.iconst X834.here hx rfl (hb hby d4_238) (XS.iload X834.here hx rfl (hb hby d4_239) rfl k_))))))
  obtain ⟨rv836, T836, Lc836, X836, hQ836, R836⟩ := callQ X834 hx hZ hown (rfl : T834.heap = T834.heap) R835 (inL0_ l Z a0 hw [] b_828 b_834 kb_834 (6 : Int32) ([(.int 0), (.int 0), (.int 0), (.int 0), (.int 0), (.int 0)]) (3 : Int32) fm T834.heap n0 O834 P12 hfm (by decide) (by decide) p834_1 (by decide)) (hwI hw 94 rfl) (hwI hw 95 rfl) (hwI hw 76 rfl) (hwI hw 96 rfl) [] rfl (by rw [hml]; rfl) (lenOf pd_17825761 rfl) rfl (W := 0) (wR rfl) (hb hby d4_241)
  obtain ⟨rfl, N836q, K836⟩ := hQ836
  have N836 := Fr.app N834 N836q
  have R837 : Go p e below P T836 (mkF m 255 #[rV x, rV wU, rV a, iV 0, iV 3, iV 0, rV b_828, iV 0, rV b_834, uS, uS] [(.int 1), (.int 0), (.ref b_834), (.int 3), (.int 0), (.ref b_828)]) := fun t_ k_ => R836 t_ (XS.aload X836.here hx rfl (hb hby d4_244) rfl rfl (XS.iload X836.here hx rfl (hb hby d4_246) rfl (XS.iload X836.here hx rfl (hb hby d4_248) rfl (XS.aload X836.here hx rfl (hb hby d4_250) rfl rfl (XS.iload X836.here hx rfl (hb hby d4_252) rfl (XS.iconst X836.here hx rfl (hb hby d4_254) k_))))))
  have f838 := (p828_1.keep K834 nin0)
  obtain ⟨rv839, T839, Lc839, X839, hQ839, R839⟩ := callQ X836 hx hZ hown K836 R837 (decU32l_ l Z a0 hw [] b_828 kb_828 v0 v1 v2 b_834 kb_834 ([(.int 0), (.int 0), (.int 0), (.int 0), (.int 0), (.int 0)]) c0 T834.heap n0 O834 P9 P10 P11 f838 p834_1 (Nat.le_trans (oldLe O828) p834_0) (Nat.ne_of_lt (Nat.lt_of_lt_of_le p828_1.lt p834_0)) rfl P16 ht P14 P18 P19 P20 hd) (hwI hw 118 rfl) (hwI hw 119 rfl) (hwI hw 10 rfl) (hwI hw 120 rfl) [] rfl (by rw [hml]; rfl) (lenOf pd_22962144 rfl) rfl (W := 0) (wR rfl) (hb hby d4_255)
  obtain ⟨rfl, N839q, K839, p839_0⟩ := hQ839
  have N839 := Fr.app N836 N839q
  have O839 := O834.keep K839 (allS (Nat.le_trans (oldLe O828) p834_0) all0)
  have R840 : Go p e below P T839 (mkF m 260 #[rV x, rV wU, rV a, iV 0, iV 3, iV 2, rV b_828, iV 0, rV b_834, uS, uS] []) := fun t_ k_ => R839 t_ (XS.istore X839.here hx rfl (hb hby d4_258) rfl (l' := #[rV x, rV wU, rV a, iV 0, iV 3, iV 2, rV b_828, iV 0, rV b_834, uS, uS]) rfl k_)
  have Vl841 : Arv Z T839.heap b_834 kb_834 .byte (6 : Int32) [(.int (loB c0)), (.int (hiB c0)), (.int (loB v2)), (.int (hiB v2)), (.int 0), (.int 0)] (.int 0) := p839_0
  have R842 : Go p e below P T839 (mkF m 273 #[rV x, rV wU, rV a, iV 0, iV 3, iV 2, rV b_828, iV 0, rV b_834, uS, uS] [(.int 4), (.ref b_834)]) := fun t_ k_ => R840 t_ (XS.iload X839.here hx rfl (hb hby d4_260) rfl (XS.iload X839.here hx rfl (hb hby d4_262) rfl (XS.icmpNo X839.here hx rfl (hb hby d4_264) rfl (feq (by decide : ¬ ((2 : Int32) = (3 : Int32)))).1 (XS.aload X839.here hx rfl (hb hby d4_267) rfl rfl (XS.iload X839.here hx rfl (hb hby d4_269) rfl (XS.iconst X839.here hx rfl (hb hby d4_271) (XS.ishl X839.here hx rfl (hb hby d4_272) rfl k_)))))))
  obtain ⟨rv843, T843, Lc843, X843, hQ843, R843⟩ := callQ X839 hx hZ hown (rfl : T839.heap = T839.heap) R842 (copy6_4_ l Z a0 hw [] b_834 kb_834 (loB c0) (hiB c0) (loB v2) (hiB v2) (0 : Int32) (0 : Int32) T839.heap n0 O839 Vl841) (hwI hw 156 rfl) (hwI hw 157 rfl) (hwI hw 38 rfl) (hwI hw 158 rfl) [] rfl (by rw [hml]; rfl) (lenOf pd_14456175 rfl) rfl (W := 0) (wR rfl) (hb hby d4_273)
  obtain ⟨b_843, kb_843, rfl, N843q, K843, p843_0, p843_1⟩ := hQ843
  have N843 := Fr.app N839 N843q
  have O843 := O839.keep K843 all0
  have f844 := ((((P0.keep K828).keep K834).keep K839).keep K843)
  have f845 := ((((P1.keep K828 nin0).keep K834 nin0).keep K839 (ninS (Nat.ne_of_lt (Nat.lt_of_lt_of_le (P0.keep K828).lt p834_0)) nin0)).keep K843 nin0)
  obtain ⟨T846, h846, X846, e846, W846, st846⟩ := putF X843 hx hZ hown (host := "") (Or.inl (hwI hw 49 rfl)) Via.refl (rfl : T843.heap = T843.heap) f845 f844 (Or.inr ⟨(hwI hw 50 rfl), rfl, hnm⟩) (hwI hw 9 rfl) (ty := (.array .byte)) (by decide) rfl rfl (g := (mkF m 281 #[rV x, rV wU, rV a, iV 0, iV 3, iV 2, rV b_828, iV 0, rV b_843, uS, uS] [(.ref b_843), (.ref x)])) rfl rfl (hb hby d4_281)
  have N846 := Fr.snoc X846 N843 P3
  have Fw846 := f845.same W846
  have O846 := O843.wr W846 P3
  have f847 := (f844.wr W846)
  have f848 := (((((P2.keep K828 nin0).keep K834 nin0).keep K839 (ninS (Nat.ne_of_lt (Nat.lt_of_lt_of_le (P0.keep K828).lt p834_0)) nin0)).keep K843 nin0).other W846 (Or.inr (slot_ne (Or.inr (hwI hw 52 rfl)) (Or.inr (hwI hw 50 rfl)) (by decide) (t := .byte) (t' := (.array .byte)) (by decide) (by decide))))
  obtain ⟨T849, h849, X849, e849, W849, st849⟩ := putFN X846 hx hZ hown (hwI hw 51 rfl) Via.refl e846 f848 f847 (Or.inr ⟨(hwI hw 52 rfl), rfl, hnm⟩) (hwI hw 9 rfl) (ty := .byte) (v' := (.int 1)) (by decide) rfl rfl (g := (mkF m 286 #[rV x, rV wU, rV a, iV 0, iV 3, iV 2, rV b_828, iV 0, rV b_843, uS, uS] [(.int 1), (.ref x)])) rfl rfl (hb hby d4_286)
  have N849 := Fr.snoc X849 N846 P3
  have Fw849 := f848.same W849
  have O849 := O846.wr W849 P3
  have R850 : Go p e below P T849 (mkF m 879 #[rV x, rV wU, rV a, iV 0, iV 3, iV 2, rV b_828, iV 0, rV b_843, uS, uS] []) := fun t_ k_ => R843 t_ (XS.astore X843.here hx rfl (hb hby d4_276) rfl rfl (l' := #[rV x, rV wU, rV a, iV 0, iV 3, iV 2, rV b_828, iV 0, rV b_843, uS, uS]) rfl (XS.aloadN X843.here hx rfl (hb hby d4_278) rfl rfl (XS.aload X843.here hx rfl (hb hby d4_279) rfl rfl (st846 t_ (XS.aloadN X846.here hx rfl (hb hby d4_284) rfl rfl (XS.iconst X846.here hx rfl (hb hby d4_285) (st849 t_ (XS.goto X849.here hx rfl (pc0 := 289) (pc' := 879) rfl (hb hby d4_289) (by decide) (by decide) k_))))))))
  obtain ⟨fs, hr, hrun, hended, hW, hsame⟩ := X849.leave (v := none) (fun _ => rfl)
  have f851 := (f847.wr W849)
  have f852 := (Fw846.other W849 (Or.inr (slot_ne (Or.inr (hwI hw 50 rfl)) (Or.inr (hwI hw 52 rfl)) (by decide) (t := (.array .byte)) (t' := .byte) (by decide) (by decide))))
  have f853 := ((p843_1.other W846 (Ne.symm (Nat.ne_of_lt (Nat.lt_of_lt_of_le (((P0.keep K828).keep K834).keep K839).lt p843_0)))).other W849 (Ne.symm (Nat.ne_of_lt (Nat.lt_of_lt_of_le (((P0.keep K828).keep K834).keep K839).lt p843_0))))
  exact ⟨_, _, hP _ (R850 _ (X849.returnOut hx Bd.returns (hb hby d4_879) hr)), hrun, hended, _, _, rfl, ⟨b_843, kb_843, rfl, N849, (e849.symm ▸ (((((((Keep.refl h0 [x]).trans K828 all0).trans K834 all0).trans K839 (allS (Or.inr (Nat.le_trans ((Keep.refl h0 [x]).trans K828 all0).1 p834_0)) all0)).trans K843 all0).wr W846 (Or.inl (List.mem_of_getElem? (i := 0) rfl))).wr W849 (Or.inl (List.mem_of_getElem? (i := 0) rfl)))), (e849.symm ▸ f851), (e849.symm ▸ Fw849), (e849.symm ▸ f852), (e849.symm ▸ f853)⟩, ⟨_, rfl⟩, hW, hsame.mono (by decide) (by decide)⟩
def Q_injB2l_ (Z : State) (x : Addr) (a : Addr) (ka : ClassId) (v0 : Int32) (v1 : Int32) (v2 : Int32) (c0 : Int32) (wU : Addr) (zc : Int32) (fm : Value) (h0 : Heap) (n0 : Nat) (rv_ : Option Value) (rh_ : Heap) (rL_ : List Loc) : Prop := ∃ t : Addr, ∃ kb : ClassId, (rv_ = none) ∧ (Fr n0 rL_) ∧ (Keep h0 rh_ [x]) ∧ (Exa Z rh_ x "java/lang/String") ∧ (Fld Z rh_ x "java/lang/String" "coder" "B" (.int 1)) ∧ (Fld Z rh_ x "java/lang/String" "value" "[B" (.ref t)) ∧ (Arv Z rh_ t kb .byte (4 : Int32) [(.int (loB c0)), (.int (hiB c0)), (.int (loB v2)), (.int (hiB v2))] (.int 0))
set_option maxRecDepth 65536 in
set_option maxHeartbeats 40000000 in
theorem injB2l_ (l : Launch) (Z : State) (a0 : Array Value) (hw : HW Z a0) (ws : List Jvm.Cond) (x : Addr) (a : Addr) (ka : ClassId) (v0 : Int32) (v1 : Int32) (v2 : Int32) (c0 : Int32) (wU : Addr) (zc : Int32) (fm : Value) (h0 : Heap) (n0 : Nat) (O0 : Old Z n0 h0) (P0 : Exa Z h0 x "java/lang/String") (P1 : Fld Z h0 x "java/lang/String" "value" "[B" .null) (P2 : Fld Z h0 x "java/lang/String" "coder" "B" (.int 0)) (P3 : n0 ≤ x) (P4 : Arv Z h0 a ka .byte (3 : Int32) [(.int v0), (.int v1), (.int v2)] (.int 0)) (P5 : Exa Z h0 a "[B") (P6 : sT5 Z (.ref wU)) (P7 : sT0 Z (.int zc)) (P8 : ¬ zc = 0) (P9 : sT2 Z (.int 1)) (P10 : sT3 Z (.int 0)) (P11 : sT4 Z (.int 8)) (P12 : sT1 Z fm) (P13 : fm.isRef = true) (P14 : Exa Z Z.heap wU "sun/nio/cs/UTF_8") (P15 : v0 < (0 : Int32)) (P16 : ¬ ((v0 &&& (254 : Int32)) = (194 : Int32))) (P17 : ¬ (v2 < (0 : Int32))) (P18 : (v2.toUInt32.toUInt16.toUInt32.toInt32) = v2) (P19 : (v0 >>> ((5 : Int32) &&& 31)) = (-2 : Int32)) (P20 : ¬ ((v0 &&& (30 : Int32)) = (0 : Int32))) (P21 : (v1 &&& (192 : Int32)) = (128 : Int32)) (P22 : d2 v0 v1 = c0) :
    MetQ l yM34 (Jvm.Cond.code yM34 jdk_42_method_49_code 3 none) ws (rM 6 3 13 98) Z #[(.ref x), (.ref a), (.ref wU)] h0 (Q_injB2l_ Z x a ka v0 v1 v2 c0 wU zc fm h0 n0) := by
  have hzc := P8
  have hfm := P13
  have ht := P18
  have hd := P22
  refine metQ (plainFor_of_name pn_47582652) hisR (fun m => ef2_RRR m x a wU) ?_
  intro p e s m below meth c s₁ P Bd hx hby hml hZ hown hnm X0 e0 hP R0
  have N0 := Fr.nil n0
  have R854 : Go p e below P s₁ (mkF m 2 #[rV x, rV a, rV wU] [(.ref wU), (.ref x)]) := fun t_ k_ => R0 t_ (XS.aloadN X0.here hx rfl (hb hby d2_0) rfl rfl (XS.aloadN X0.here hx rfl (hb hby d2_1) rfl rfl k_))
  obtain ⟨rv855, T855, Lc855, X855, hQ855, R855⟩ := callQ X0 hx hZ hown e0 R854 (rnn_ l Z a0 hw [] wU h0 n0 O0) (hwI hw 16 rfl) (hwI hw 17 rfl) (hwI hw 18 rfl) (hwI hw 19 rfl) [(.ref x)] rfl (by rw [hml]; rfl) (lenOf pd_72566344 rfl) rfl (W := 1) (wR rfl) (hb hby d2_2)
  obtain ⟨rfl, N855q, K855⟩ := hQ855
  have N855 := Fr.app N0 N855q
  obtain ⟨T856, X856, e856, st856⟩ := castY X855 hx hZ hown (hwI hw 20 rfl) K855 (Ins.of_exa (P14.ext O0.2) (hwI hw 21 rfl)) (g := (mkF m 5 #[rV x, rV a, rV wU] [(.ref wU), (.ref x)])) rfl rfl (hb hby d2_5)
  have R857 : Go p e below P T856 (mkF m 11 #[rV x, rV a, rV wU] [(.ref a), (.int 0), (.ref a), (.ref wU), (.ref x)]) := fun t_ k_ => R855 t_ (st856 t_ (XS.aloadN X856.here hx rfl (hb hby d2_8) rfl rfl (XS.iconst X856.here hx rfl (hb hby d2_9) (XS.aloadN X856.here hx rfl (hb hby d2_10) rfl rfl k_))))
  obtain ⟨cl858, cl858A, -, cl858S, cl858N, -, -⟩ := id P4
  have R859 : Go p e below P T856 (mkF m 12 #[rV x, rV a, rV wU] [(.int 3), (.int 0), (.ref a), (.ref wU), (.ref x)]) := fun t_ k_ => R857 t_ (X856.arraylength hx (by rw [e856]; exact cl858A.1) (State.isArrayOf_alike hZ.alike cl858A.2.1) (g := (mkF m 11 #[rV x, rV a, rV wU] [(.ref a), (.int 0), (.ref a), (.ref wU), (.ref x)])) rfl rfl (hb hby d2_11) t_ (by rw [len_of cl858S cl858N]; exact k_))
  obtain ⟨rv860, _, ⟨T860, L860, k860, n860⟩, -, X860, ⟨Lc860, hQ860, l860, y860, z860⟩, st860⟩ := X856.specialBackH hx (y := yM33) rfl hown (mvT hZ (hwI hw 22 rfl)) (mvT hZ (hwI hw 23 rfl)) (mvT hZ (hwI hw 25 rfl)) (by decide) (backOfWith (W := 0) (iniB2l_ l Z a0 hw [] x a ka v0 v1 v2 c0 wU zc fm h0 n0 O0 P0 P1 P2 P3 P4 P5 P6 P7 hzc P9 P10 P11 P12 hfm P15 P16 P17 ht P19 P20 P21 hd) hZ (hwI hw 25 rfl) (hwI hw 10 rfl) (by decide) (by decide)) (g := (mkF m 12 #[rV x, rV a, rV wU] [(.int 3), (.int 0), (.ref a), (.ref wU), (.ref x)])) rfl (by rw [hml]; rfl) (Steps.refl _) (a := x) (argsL := [(.ref wU), (.ref a), (.int 0), (.int 3)]) (rest := []) (lenOf pd_41235415 rfl) rfl (by show 2 * 0 + _ ≤ _; exact Nat.le_of_eq rfl) (hb hby d2_12) (fun _ _ => ⟨rfl, e856, (by decide : 0 + 3 ≤ _), (by decide : 0 + 13 ≤ _)⟩)
  dsimp only [Pt.U, Pt.locs, Pt.cells, Pt.slots] at X860 l860 y860 z860 st860 hQ860
  subst l860 y860 z860
  obtain ⟨t_860, kb_860, rfl, N860q, K860, p860_0, p860_1, p860_2, p860_3⟩ := hQ860
  have N860 := Fr.app N855 N860q
  have O860 := O0.keep K860 (allS P3 all0)
  have R861 : Go p e below P T860 (mkF m 15 #[rV x, rV a, rV wU] []) := fun t_ k_ => R859 t_ (st860.trans k_)
  obtain ⟨fs, hr, hrun, hended, hW, hsame⟩ := X860.leave (v := none) (fun _ => rfl)
  exact ⟨_, _, hP _ (R861 _ (X860.returnOut hx Bd.returns (hb hby d2_15) hr)), hrun, hended, _, _, rfl, ⟨t_860, kb_860, rfl, N860, ((Keep.refl h0 [x]).trans K860 (allS (Or.inl (List.mem_of_getElem? (i := 0) rfl)) all0)), p860_0, p860_1, p860_2, p860_3⟩, ⟨_, rfl⟩, hW, hsame.mono (by decide) (by decide)⟩
def Q_decB2l_ (Z : State) (a : Addr) (ka : ClassId) (v0 : Int32) (v1 : Int32) (v2 : Int32) (c0 : Int32) (wU : Addr) (zc : Int32) (fm : Value) (h0 : Heap) (n0 : Nat) (rv_ : Option Value) (rh_ : Heap) (rL_ : List Loc) : Prop := ∃ x : Addr, ∃ t : Addr, ∃ kb : ClassId, (rv_ = some (.ref x)) ∧ (Fr n0 rL_) ∧ (Keep h0 rh_ []) ∧ (h0.size ≤ x) ∧ (Exa Z rh_ x "java/lang/String") ∧ (Fld Z rh_ x "java/lang/String" "coder" "B" (.int 1)) ∧ (Fld Z rh_ x "java/lang/String" "value" "[B" (.ref t)) ∧ (Arv Z rh_ t kb .byte (4 : Int32) [(.int (loB c0)), (.int (hiB c0)), (.int (loB v2)), (.int (hiB v2))] (.int 0))
set_option maxRecDepth 65536 in
set_option maxHeartbeats 40000000 in
theorem decB2l_ (l : Launch) (Z : State) (a0 : Array Value) (hw : HW Z a0) (ws : List Jvm.Cond) (a : Addr) (ka : ClassId) (v0 : Int32) (v1 : Int32) (v2 : Int32) (c0 : Int32) (wU : Addr) (zc : Int32) (fm : Value) (h0 : Heap) (n0 : Nat) (O0 : Old Z n0 h0) (P0 : Arv Z h0 a ka .byte (3 : Int32) [(.int v0), (.int v1), (.int v2)] (.int 0)) (P1 : Exa Z h0 a "[B") (P2 : sT5 Z (.ref wU)) (P3 : sT0 Z (.int zc)) (P4 : ¬ zc = 0) (P5 : sT2 Z (.int 1)) (P6 : sT3 Z (.int 0)) (P7 : sT4 Z (.int 8)) (P8 : sT1 Z fm) (P9 : fm.isRef = true) (P10 : sT6 Z (.ref wU)) (P11 : Exa Z Z.heap wU "sun/nio/cs/UTF_8") (P12 : v0 < (0 : Int32)) (P13 : ¬ ((v0 &&& (254 : Int32)) = (194 : Int32))) (P14 : ¬ (v2 < (0 : Int32))) (P15 : (v2.toUInt32.toUInt16.toUInt32.toInt32) = v2) (P16 : (v0 >>> ((5 : Int32) &&& 31)) = (-2 : Int32)) (P17 : ¬ ((v0 &&& (30 : Int32)) = (0 : Int32))) (P18 : (v1 &&& (192 : Int32)) = (128 : Int32)) (P19 : d2 v0 v1 = c0) :
    MetQ l yM35 (Jvm.Cond.code yM35 prog_5_method_5_code 1 (some (.object "java/lang/String"))) ws (rM 7 4 17 113) Z #[(.ref a)] h0 (Q_decB2l_ Z a ka v0 v1 v2 c0 wU zc fm h0 n0) := by
  have hzc := P4
  have hfm := P9
  have ht := P15
  have hd := P19
  refine metQ (plainFor_of_name pn_4625033) hisR (fun m => ef1_R m a) ?_
  intro p e s m below meth c s₁ P Bd hx hby hml hZ hown hnm X0 e0 hP R0
  have N0 := Fr.nil n0
  obtain ⟨T862, h862, X862, e862, E862, A862, D862, -, st862⟩ := newO X0 hx hZ hown (hwI hw 8 rfl) (hwI hw 9 rfl) (hwI hw 10 rfl) e0 (g := (mkF m 0 #[rV a] [])) rfl (hb hby d1_0) (by decide) (by decide)
  obtain ⟨b862, g862⟩ : ∃ z, z = h0.size := ⟨_, rfl⟩
  rw [← g862] at A862 D862 st862
  have O862 := O0.ext E862
  have F862_50 : Fld Z h862 b862 "java/lang/String" "value" "[B" .null := D862 (Or.inr (hwI hw 50 rfl)) (ty := (.array .byte)) (by decide)
  have F862_52 : Fld Z h862 b862 "java/lang/String" "coder" "B" (.int 0) := D862 (Or.inr (hwI hw 52 rfl)) (ty := .byte) (by decide)
  obtain ⟨T863, X863, e863, st863⟩ := getS2 X862 hx hZ hown (host := "") (Or.inl (hwI hw 11 rfl)) Via.refl e862 (P10.ext O862.2) (g := (mkF m 5 #[rV a] [(.ref a), (.ref b862), (.ref b862)])) rfl (hb hby d1_5)
  have R864 : Go p e below P T863 (mkF m 8 #[rV a] [(.ref wU), (.ref a), (.ref b862), (.ref b862)]) := fun t_ k_ => R0 t_ (st862 t_ (XS.dup X862.here hx rfl (hb hby d1_3) rfl rfl (XS.aloadN X862.here hx rfl (hb hby d1_4) rfl rfl (st863 t_ k_))))
  have f865 := (P0.ext E862)
  have f866 := (P1.ext E862)
  obtain ⟨rv867, _, ⟨T867, L867, k867, n867⟩, -, X867, ⟨Lc867, hQ867, l867, y867, z867⟩, st867⟩ := X863.specialBack hx (y := yM34) rfl hown (mvT hZ (hwI hw 13 rfl)) (mvT hZ (hwI hw 14 rfl)) (mvT hZ (hwI hw 15 rfl)) (by decide) (backOf (W := 1) (injB2l_ l Z a0 hw [] b862 a ka v0 v1 v2 c0 wU zc fm h862 n0 O862 A862 F862_50 F862_52 (Nat.le_trans (oldLe O0) (Nat.le_of_eq g862.symm)) f865 f866 P2 P3 hzc P5 P6 P7 P8 hfm P11 P12 P13 P14 ht P16 P17 P18 hd) hZ (hwI hw 15 rfl) (hwI hw 10 rfl) (by decide) (by decide)) (g := (mkF m 8 #[rV a] [(.ref wU), (.ref a), (.ref b862), (.ref b862)])) rfl (by rw [hml]; rfl) (Steps.refl _) (a := b862) (argsL := [(.ref a), (.ref wU)]) (rest := [(.ref b862)]) (lenOf pd_90622059 rfl) rfl (by show 2 * 0 + _ ≤ _; exact Nat.le_of_eq rfl) (hb hby d1_8) (fun _ _ => ⟨rfl, e863, (by decide : 1 + 3 ≤ _), (by decide : 4 + 13 ≤ _)⟩)
  dsimp only [Pt.U, Pt.locs, Pt.cells, Pt.slots] at X867 l867 y867 z867 st867 hQ867
  subst l867 y867 z867
  obtain ⟨t_867, kb_867, rfl, N867q, K867, p867_0, p867_1, p867_2, p867_3⟩ := hQ867
  have N867 := Fr.app N0 N867q
  have O867 := O862.keep K867 (allS (Nat.le_trans (oldLe O0) (Nat.le_of_eq g862.symm)) all0)
  have R868 : Go p e below P T867 (mkF m 11 #[rV a] [(.ref b862)]) := fun t_ k_ => R864 t_ (st867.trans k_)
  obtain ⟨fs, hr, hrun, hended, hW, hsame⟩ := X867.leave (v := some (.ref b862)) (fun h => by rw [Bd.returns] at h; cases h)
  exact ⟨_, _, hP _ (R868 _ (retOut X867 hx Bd.returns rfl (Or.inr (Or.inr (Or.inr (Or.inr ⟨rfl, rfl, rfl⟩)))) (hb hby d1_11) hr)), hrun, hended, _, _, rfl, ⟨b862, t_867, kb_867, rfl, N867, (((Keep.refl h0 []).ext E862).trans K867 (allS (Or.inr (Nat.le_of_eq g862.symm)) all0)), (Nat.le_of_eq g862.symm), p867_0, p867_1, p867_2, p867_3⟩, ⟨_, rfl⟩, hW, hsame.mono (by decide) (by decide)⟩
def Q_iniB2h_ (Z : State) (x : Addr) (a : Addr) (ka : ClassId) (v0 : Int32) (v1 : Int32) (v2 : Int32) (c0 : Int32) (wU : Addr) (zc : Int32) (fm : Value) (h0 : Heap) (n0 : Nat) (rv_ : Option Value) (rh_ : Heap) (rL_ : List Loc) : Prop := ∃ t : Addr, ∃ kb : ClassId, (rv_ = none) ∧ (Fr n0 rL_) ∧ (Keep h0 rh_ [x]) ∧ (Exa Z rh_ x "java/lang/String") ∧ (Fld Z rh_ x "java/lang/String" "coder" "B" (.int 1)) ∧ (Fld Z rh_ x "java/lang/String" "value" "[B" (.ref t)) ∧ (Arv Z rh_ t kb .byte (4 : Int32) [(.int (loB c0)), (.int (hiB c0)), (.int (loB (65533 : Int32))), (.int (hiB (65533 : Int32)))] (.int 0))
set_option maxRecDepth 65536 in
set_option maxHeartbeats 40000000 in
theorem iniB2h_ (l : Launch) (Z : State) (a0 : Array Value) (hw : HW Z a0) (ws : List Jvm.Cond) (x : Addr) (a : Addr) (ka : ClassId) (v0 : Int32) (v1 : Int32) (v2 : Int32) (c0 : Int32) (wU : Addr) (zc : Int32) (fm : Value) (h0 : Heap) (n0 : Nat) (O0 : Old Z n0 h0) (P0 : Exa Z h0 x "java/lang/String") (P1 : Fld Z h0 x "java/lang/String" "value" "[B" .null) (P2 : Fld Z h0 x "java/lang/String" "coder" "B" (.int 0)) (P3 : n0 ≤ x) (P4 : Arv Z h0 a ka .byte (3 : Int32) [(.int v0), (.int v1), (.int v2)] (.int 0)) (P5 : Exa Z h0 a "[B") (P6 : sT5 Z (.ref wU)) (P7 : sT0 Z (.int zc)) (P8 : ¬ zc = 0) (P9 : sT2 Z (.int 1)) (P10 : sT3 Z (.int 0)) (P11 : sT4 Z (.int 8)) (P12 : sT1 Z fm) (P13 : fm.isRef = true) (P14 : v0 < (0 : Int32)) (P15 : ¬ ((v0 &&& (254 : Int32)) = (194 : Int32))) (P16 : v2 < (0 : Int32)) (P17 : (v0 >>> ((5 : Int32) &&& 31)) = (-2 : Int32)) (P18 : ¬ ((v0 &&& (30 : Int32)) = (0 : Int32))) (P19 : (v1 &&& (192 : Int32)) = (128 : Int32)) (P20 : d2 v0 v1 = c0) :
    MetQ l yM33 (Jvm.Cond.codeWith yM33 jdk_42_method_11_code 11 none [((800 : Nat), (813 : Nat), (816 : Nat), (202 : Nat))]) ws (rM 5 3 13 76) Z #[(.ref x), (.ref wU), (.ref a), (.int 0), (.int 3)] h0 (Q_iniB2h_ Z x a ka v0 v1 v2 c0 wU zc fm h0 n0) := by
  have hzc := P8
  have hfm := P13
  have hd := P20
  refine metQ (plainFor_of_name pn_47582652) hisWith (fun m => ef4_RRRII m x wU a (0 : Int32) (3 : Int32)) ?_
  intro p e s m below meth c s₁ P Bd hx hby hml hZ hown hnm X0 e0 hP R0
  have N0 := Fr.nil n0
  have R869 : Go p e below P s₁ (mkF m 1 #[rV x, rV wU, rV a, iV 0, iV 3, uS, uS, uS, uS, uS, uS] [(.ref x)]) := fun t_ k_ => R0 t_ (XS.aloadN X0.here hx rfl (hb hby d4_0) rfl rfl k_)
  obtain ⟨T870, X870, e870, st870⟩ := initO X0 hx hZ hown (hwI hw 26 rfl) (hwI hw 27 rfl) (hwI hw 28 rfl) e0 (g := (mkF m 1 #[rV x, rV wU, rV a, iV 0, iV 3, uS, uS, uS, uS, uS, uS] [(.ref x)])) rfl (by rw [hml]; rfl) rfl (hb hby d4_1) (by decide) (W := 0) (by show 2 * 0 + _ ≤ _; exact Nat.le_of_eq rfl) (by decide)
  obtain ⟨T871, X871, e871, st871⟩ := getS2 X870 hx hZ hown (host := "") (Or.inl (hwI hw 29 rfl)) Via.refl e870 (P6.ext O0.2) (g := (mkF m 31 #[rV x, rV wU, rV a, iV 0, iV 3, uS, uS, uS, uS, uS, uS] [(.ref wU)])) rfl (hb hby d4_31)
  obtain ⟨T872, X872, e872, st872⟩ := getS2 X871 hx hZ hown (host := "") (Or.inl (hwI hw 31 rfl)) Via.refl e871 (P7.ext O0.2) (g := (mkF m 37 #[rV x, rV wU, rV a, iV 0, iV 3, uS, uS, uS, uS, uS, uS] [])) rfl (hb hby d4_37)
  have R873 : Go p e below P T872 (mkF m 47 #[rV x, rV wU, rV a, iV 0, iV 3, uS, uS, uS, uS, uS, uS] [(.int 3), (.int 0), (.ref a)]) := fun t_ k_ => R869 t_ (st870 t_ (XS.iload X870.here hx rfl (hb hby d4_4) rfl (XS.ifYes X870.here hx rfl (pc0 := 6) (pc' := 30) rfl (hb hby d4_6) rfl ((if0 _ _).trans (feq (by decide : ¬ ((3 : Int32) = (0 : Int32)))).2) (by decide) (by decide) (XS.aloadN X870.here hx rfl (hb hby d4_30) rfl rfl (st871 t_ (Jvm.RoadKit.acmp (g := (mkF m 34 #[rV x, rV wU, rV a, iV 0, iV 3, uS, uS, uS, uS, uS, uS] [(.ref wU), (.ref wU)])) X871 hx rfl rfl rfl (pc0 := 34) (pc' := 37) (same := true) rfl (hb hby d4_34) rfl (decide_eq_true (congrArg Value.ref rfl)) (by decide) (by decide) (st872 t_ (XS.ifNo X872.here hx rfl (hb hby d4_40) rfl ((if0 _ _).trans (feq hzc).1) (XS.aloadN X872.here hx rfl (hb hby d4_43) rfl rfl (XS.iloadN X872.here hx rfl (hb hby d4_44) rfl (XS.iload X872.here hx rfl (hb hby d4_45) rfl k_)))))))))))
  obtain ⟨rv874, T874, Lc874, X874, hQ874, R874⟩ := callQ X872 hx hZ hown e872 R873 (cpos30_ l Z a0 hw [] a ka v0 v1 v2 h0 n0 O0 P4 P14) (hwI hw 32 rfl) (hwI hw 33 rfl) (hwI hw 34 rfl) (hwI hw 35 rfl) [] rfl (by rw [hml]; rfl) (lenOf pd_14998784 rfl) rfl (W := 0) (wR rfl) (hb hby d4_47)
  obtain ⟨rfl, N874q, K874⟩ := hQ874
  have N874 := Fr.app N0 N874q
  have R875 : Go p e below P T874 (mkF m 84 #[rV x, rV wU, rV a, iV 0, iV 3, iV 0, uS, uS, uS, uS, uS] [(.int 3), (.int 0), (.ref a)]) := fun t_ k_ => R874 t_ (XS.istore X874.here hx rfl (hb hby d4_50) rfl (l' := #[rV x, rV wU, rV a, iV 0, iV 3, iV 0, uS, uS, uS, uS, uS]) rfl (XS.iload X874.here hx rfl (hb hby d4_52) rfl (XS.iload X874.here hx rfl (hb hby d4_54) rfl (XS.icmpYes X874.here hx rfl (pc0 := 56) (pc' := 78) rfl (hb hby d4_56) rfl (feq (by decide : ¬ ((0 : Int32) = (3 : Int32)))).2 (by decide) (by decide) (XS.aloadN X874.here hx rfl (hb hby d4_78) rfl rfl (XS.iloadN X874.here hx rfl (hb hby d4_79) rfl (XS.iloadN X874.here hx rfl (hb hby d4_80) rfl (XS.iload X874.here hx rfl (hb hby d4_81) rfl (XS.iadd X874.here hx rfl (hb hby d4_83) rfl k_)))))))))
  obtain ⟨rv876, T876, Lc876, X876, hQ876, R876⟩ := callQ X874 hx hZ hown K874 R875 (cor3_ l Z a0 hw [] a ka v0 v1 v2 h0 n0 O0 P4 P5) (hwI hw 36 rfl) (hwI hw 37 rfl) (hwI hw 38 rfl) (hwI hw 39 rfl) [] rfl (by rw [hml]; rfl) (lenOf pd_64843128 rfl) rfl (W := 0) (wR rfl) (hb hby d4_84)
  obtain ⟨b_876, kb_876, rfl, N876q, K876, p876_0, p876_1⟩ := hQ876
  have N876 := Fr.app N874 N876q
  have O876 := O0.keep K876 all0
  have R877 : Go p e below P T876 (mkF m 107 #[rV x, rV wU, rV a, iV 0, iV 3, iV 0, rV b_876, iV 1, uS, uS, uS] [(.int 0), (.ref b_876)]) := fun t_ k_ => R876 t_ (XS.astore X876.here hx rfl (hb hby d4_87) rfl rfl (l' := #[rV x, rV wU, rV a, iV 0, iV 3, iV 0, rV b_876, uS, uS, uS, uS]) rfl (XS.iload X876.here hx rfl (hb hby d4_89) rfl (XS.istore X876.here hx rfl (hb hby d4_91) rfl (l' := #[rV x, rV wU, rV a, iV 0, iV 3, iV 0, rV b_876, iV 0, uS, uS, uS]) rfl (XS.iload X876.here hx rfl (hb hby d4_93) rfl (XS.iload X876.here hx rfl (hb hby d4_95) rfl (XS.icmpNo X876.here hx rfl (hb hby d4_97) rfl (tlt (by decide : (0 : Int32) < (3 : Int32))).2.1 (XS.aload X876.here hx rfl (hb hby d4_100) rfl rfl (XS.iload X876.here hx rfl (hb hby d4_102) rfl (XS.iinc X876.here hx rfl (hb hby d4_104) rfl (l' := #[rV x, rV wU, rV a, iV 0, iV 3, iV 0, rV b_876, iV ((0 : Int32) + (1 : Int32)), uS, uS, uS]) rfl k_)))))))))
  obtain ⟨cl878, cl878A, cl878q, cl878S, cl878N, cl878H, cl878G⟩ := id p876_1
  have ib879 := inb_of (j := (0 : Int32)) cl878S ⟨by decide, by decide⟩
  have R880 : Go p e below P T876 (mkF m 129 #[rV x, rV wU, rV a, iV 0, iV 3, iV 0, rV b_876, iV 1, iV v0, uS, uS] []) := fun t_ k_ => R877 t_ (apS (X876.baloadBytes hx (v := (.int v0)) (by rw [(rfl : T876.heap = T876.heap)]; exact cl878A.1) (State.isArrayOf_alike hZ.alike cl878A.2.1) cl878A.2.2 ib879 (cl878H.at ib879 rfl) rfl rfl (hb hby d4_107)) (XS.istore X876.here hx rfl (hb hby d4_108) rfl (l' := #[rV x, rV wU, rV a, iV 0, iV 3, iV 0, rV b_876, iV 1, iV v0, uS, uS]) rfl (XS.iload X876.here hx rfl (hb hby d4_110) rfl (XS.ifYes X876.here hx rfl (pc0 := 112) (pc' := 129) rfl (hb hby d4_112) rfl ((if0 _ _).trans (tlt P14).1) (by decide) (by decide) k_))))
  have R881 : Go p e below P T876 (mkF m 228 #[rV x, rV wU, rV a, iV 0, iV 3, iV 0, rV b_876, iV 0, iV v0, uS, uS] [(.int 3)]) := fun t_ k_ => R880 t_ (XS.iload X876.here hx rfl (hb hby d4_129) rfl (XS.sipush X876.here hx rfl (hb hby d4_131) (XS.iand X876.here hx rfl (hb hby d4_134) rfl (XS.sipush X876.here hx rfl (hb hby d4_135) (XS.icmpYes X876.here hx rfl (pc0 := 138) (pc' := 184) rfl (hb hby d4_138) rfl (feq P15).2 (by decide) (by decide) (XS.iinc X876.here hx rfl (hb hby d4_184) rfl (l' := #[rV x, rV wU, rV a, iV 0, iV 3, iV 0, rV b_876, iV ((1 : Int32) + (-1 : Int32)), iV v0, uS, uS]) rfl (XS.goto X876.here hx rfl (pc0 := 187) (pc' := 190) rfl (hb hby d4_187) (by decide) (by decide) (XS.iload X876.here hx rfl (hb hby d4_190) rfl (XS.iload X876.here hx rfl (hb hby d4_192) rfl (XS.icmpYes X876.here hx rfl (pc0 := 194) (pc' := 226) rfl (hb hby d4_194) rfl (feq (by decide : ¬ ((0 : Int32) = (3 : Int32)))).2 (by decide) (by decide) (XS.iload X876.here hx rfl (hb hby d4_226) rfl k_)))))))))))
  obtain ⟨rv882, T882, Lc882, X882, hQ882, R882⟩ := callQ X876 hx hZ hown (rfl : T876.heap = T876.heap) R881 (newB3_ l Z a0 hw []  T876.heap n0 O876) (hwI hw 86 rfl) (hwI hw 87 rfl) (hwI hw 88 rfl) (hwI hw 89 rfl) [] rfl (by rw [hml]; rfl) (lenOf pd_1250628 rfl) rfl (W := 0) (wR rfl) (hb hby d4_228)
  obtain ⟨b_882, kb_882, rfl, N882q, K882, p882_0, p882_1⟩ := hQ882
  have N882 := Fr.app N876 N882q
  have O882 := O876.keep K882 all0
  have R883 : Go p e below P T882 (mkF m 241 #[rV x, rV wU, rV a, iV 0, iV 3, iV 0, rV b_876, iV 0, rV b_882, uS, uS] [(.int 0), (.int 0), (.ref b_882), (.int 0), (.ref b_876)]) := fun t_ k_ => R882 t_ (XS.astore X882.here hx rfl (hb hby d4_231) rfl rfl (l' := #[rV x, rV wU, rV a, iV 0, iV 3, iV 0, rV b_876, iV 0, rV b_882, uS, uS]) rfl (XS.aload X882.here hx rfl (hb hby d4_233) rfl rfl (XS.iconst X882.here hx rfl (hb hby d4_235) (XS.aload X882.here hx rfl (hb hby d4_236) rfl rfl (XS.iconst X882.here hx rfl (hb hby d4_238) (XS.iload X882.here hx rfl (hb hby d4_239) rfl k_))))))
  obtain ⟨rv884, T884, Lc884, X884, hQ884, R884⟩ := callQ X882 hx hZ hown (rfl : T882.heap = T882.heap) R883 (inL0_ l Z a0 hw [] b_876 b_882 kb_882 (6 : Int32) ([(.int 0), (.int 0), (.int 0), (.int 0), (.int 0), (.int 0)]) (3 : Int32) fm T882.heap n0 O882 P12 hfm (by decide) (by decide) p882_1 (by decide)) (hwI hw 94 rfl) (hwI hw 95 rfl) (hwI hw 76 rfl) (hwI hw 96 rfl) [] rfl (by rw [hml]; rfl) (lenOf pd_17825761 rfl) rfl (W := 0) (wR rfl) (hb hby d4_241)
  obtain ⟨rfl, N884q, K884⟩ := hQ884
  have N884 := Fr.app N882 N884q
  have R885 : Go p e below P T884 (mkF m 255 #[rV x, rV wU, rV a, iV 0, iV 3, iV 0, rV b_876, iV 0, rV b_882, uS, uS] [(.int 1), (.int 0), (.ref b_882), (.int 3), (.int 0), (.ref b_876)]) := fun t_ k_ => R884 t_ (XS.aload X884.here hx rfl (hb hby d4_244) rfl rfl (XS.iload X884.here hx rfl (hb hby d4_246) rfl (XS.iload X884.here hx rfl (hb hby d4_248) rfl (XS.aload X884.here hx rfl (hb hby d4_250) rfl rfl (XS.iload X884.here hx rfl (hb hby d4_252) rfl (XS.iconst X884.here hx rfl (hb hby d4_254) k_))))))
  have f886 := (p876_1.keep K882 nin0)
  obtain ⟨rv887, T887, Lc887, X887, hQ887, R887⟩ := callQ X884 hx hZ hown K884 R885 (decU32h_ l Z a0 hw [] b_876 kb_876 v0 v1 v2 b_882 kb_882 ([(.int 0), (.int 0), (.int 0), (.int 0), (.int 0), (.int 0)]) c0 T882.heap n0 O882 P9 P10 P11 f886 p882_1 (Nat.le_trans (oldLe O876) p882_0) (Nat.ne_of_lt (Nat.lt_of_lt_of_le p876_1.lt p882_0)) rfl P16 P14 P17 P18 P19 hd) (hwI hw 118 rfl) (hwI hw 119 rfl) (hwI hw 10 rfl) (hwI hw 120 rfl) [] rfl (by rw [hml]; rfl) (lenOf pd_22962144 rfl) rfl (W := 0) (wR rfl) (hb hby d4_255)
  obtain ⟨rfl, N887q, K887, p887_0⟩ := hQ887
  have N887 := Fr.app N884 N887q
  have O887 := O882.keep K887 (allS (Nat.le_trans (oldLe O876) p882_0) all0)
  have R888 : Go p e below P T887 (mkF m 260 #[rV x, rV wU, rV a, iV 0, iV 3, iV 2, rV b_876, iV 0, rV b_882, uS, uS] []) := fun t_ k_ => R887 t_ (XS.istore X887.here hx rfl (hb hby d4_258) rfl (l' := #[rV x, rV wU, rV a, iV 0, iV 3, iV 2, rV b_876, iV 0, rV b_882, uS, uS]) rfl k_)
  have Vl889 : Arv Z T887.heap b_882 kb_882 .byte (6 : Int32) [(.int (loB c0)), (.int (hiB c0)), (.int (loB (65533 : Int32))), (.int (hiB (65533 : Int32))), (.int 0), (.int 0)] (.int 0) := p887_0
  have R890 : Go p e below P T887 (mkF m 273 #[rV x, rV wU, rV a, iV 0, iV 3, iV 2, rV b_876, iV 0, rV b_882, uS, uS] [(.int 4), (.ref b_882)]) := fun t_ k_ => R888 t_ (XS.iload X887.here hx rfl (hb hby d4_260) rfl (XS.iload X887.here hx rfl (hb hby d4_262) rfl (XS.icmpNo X887.here hx rfl (hb hby d4_264) rfl (feq (by decide : ¬ ((2 : Int32) = (3 : Int32)))).1 (XS.aload X887.here hx rfl (hb hby d4_267) rfl rfl (XS.iload X887.here hx rfl (hb hby d4_269) rfl (XS.iconst X887.here hx rfl (hb hby d4_271) (XS.ishl X887.here hx rfl (hb hby d4_272) rfl k_)))))))
  obtain ⟨rv891, T891, Lc891, X891, hQ891, R891⟩ := callQ X887 hx hZ hown (rfl : T887.heap = T887.heap) R890 (copy6_4_ l Z a0 hw [] b_882 kb_882 (loB c0) (hiB c0) (loB (65533 : Int32)) (hiB (65533 : Int32)) (0 : Int32) (0 : Int32) T887.heap n0 O887 Vl889) (hwI hw 156 rfl) (hwI hw 157 rfl) (hwI hw 38 rfl) (hwI hw 158 rfl) [] rfl (by rw [hml]; rfl) (lenOf pd_14456175 rfl) rfl (W := 0) (wR rfl) (hb hby d4_273)
  obtain ⟨b_891, kb_891, rfl, N891q, K891, p891_0, p891_1⟩ := hQ891
  have N891 := Fr.app N887 N891q
  have O891 := O887.keep K891 all0
  have f892 := ((((P0.keep K876).keep K882).keep K887).keep K891)
  have f893 := ((((P1.keep K876 nin0).keep K882 nin0).keep K887 (ninS (Nat.ne_of_lt (Nat.lt_of_lt_of_le (P0.keep K876).lt p882_0)) nin0)).keep K891 nin0)
  obtain ⟨T894, h894, X894, e894, W894, st894⟩ := putF X891 hx hZ hown (host := "") (Or.inl (hwI hw 49 rfl)) Via.refl (rfl : T891.heap = T891.heap) f893 f892 (Or.inr ⟨(hwI hw 50 rfl), rfl, hnm⟩) (hwI hw 9 rfl) (ty := (.array .byte)) (by decide) rfl rfl (g := (mkF m 281 #[rV x, rV wU, rV a, iV 0, iV 3, iV 2, rV b_876, iV 0, rV b_891, uS, uS] [(.ref b_891), (.ref x)])) rfl rfl (hb hby d4_281)
  have N894 := Fr.snoc X894 N891 P3
  have Fw894 := f893.same W894
  have O894 := O891.wr W894 P3
  have f895 := (f892.wr W894)
  have f896 := (((((P2.keep K876 nin0).keep K882 nin0).keep K887 (ninS (Nat.ne_of_lt (Nat.lt_of_lt_of_le (P0.keep K876).lt p882_0)) nin0)).keep K891 nin0).other W894 (Or.inr (slot_ne (Or.inr (hwI hw 52 rfl)) (Or.inr (hwI hw 50 rfl)) (by decide) (t := .byte) (t' := (.array .byte)) (by decide) (by decide))))
  obtain ⟨T897, h897, X897, e897, W897, st897⟩ := putFN X894 hx hZ hown (hwI hw 51 rfl) Via.refl e894 f896 f895 (Or.inr ⟨(hwI hw 52 rfl), rfl, hnm⟩) (hwI hw 9 rfl) (ty := .byte) (v' := (.int 1)) (by decide) rfl rfl (g := (mkF m 286 #[rV x, rV wU, rV a, iV 0, iV 3, iV 2, rV b_876, iV 0, rV b_891, uS, uS] [(.int 1), (.ref x)])) rfl rfl (hb hby d4_286)
  have N897 := Fr.snoc X897 N894 P3
  have Fw897 := f896.same W897
  have O897 := O894.wr W897 P3
  have R898 : Go p e below P T897 (mkF m 879 #[rV x, rV wU, rV a, iV 0, iV 3, iV 2, rV b_876, iV 0, rV b_891, uS, uS] []) := fun t_ k_ => R891 t_ (XS.astore X891.here hx rfl (hb hby d4_276) rfl rfl (l' := #[rV x, rV wU, rV a, iV 0, iV 3, iV 2, rV b_876, iV 0, rV b_891, uS, uS]) rfl (XS.aloadN X891.here hx rfl (hb hby d4_278) rfl rfl (XS.aload X891.here hx rfl (hb hby d4_279) rfl rfl (st894 t_ (XS.aloadN X894.here hx rfl (hb hby d4_284) rfl rfl (XS.iconst X894.here hx rfl (hb hby d4_285) (st897 t_ (XS.goto X897.here hx rfl (pc0 := 289) (pc' := 879) rfl (hb hby d4_289) (by decide) (by decide) k_))))))))
  obtain ⟨fs, hr, hrun, hended, hW, hsame⟩ := X897.leave (v := none) (fun _ => rfl)
  have f899 := (f895.wr W897)
  have f900 := (Fw894.other W897 (Or.inr (slot_ne (Or.inr (hwI hw 50 rfl)) (Or.inr (hwI hw 52 rfl)) (by decide) (t := (.array .byte)) (t' := .byte) (by decide) (by decide))))
  have f901 := ((p891_1.other W894 (Ne.symm (Nat.ne_of_lt (Nat.lt_of_lt_of_le (((P0.keep K876).keep K882).keep K887).lt p891_0)))).other W897 (Ne.symm (Nat.ne_of_lt (Nat.lt_of_lt_of_le (((P0.keep K876).keep K882).keep K887).lt p891_0))))
  exact ⟨_, _, hP _ (R898 _ (X897.returnOut hx Bd.returns (hb hby d4_879) hr)), hrun, hended, _, _, rfl, ⟨b_891, kb_891, rfl, N897, (e897.symm ▸ (((((((Keep.refl h0 [x]).trans K876 all0).trans K882 all0).trans K887 (allS (Or.inr (Nat.le_trans ((Keep.refl h0 [x]).trans K876 all0).1 p882_0)) all0)).trans K891 all0).wr W894 (Or.inl (List.mem_of_getElem? (i := 0) rfl))).wr W897 (Or.inl (List.mem_of_getElem? (i := 0) rfl)))), (e897.symm ▸ f899), (e897.symm ▸ Fw897), (e897.symm ▸ f900), (e897.symm ▸ f901)⟩, ⟨_, rfl⟩, hW, hsame.mono (by decide) (by decide)⟩
def Q_injB2h_ (Z : State) (x : Addr) (a : Addr) (ka : ClassId) (v0 : Int32) (v1 : Int32) (v2 : Int32) (c0 : Int32) (wU : Addr) (zc : Int32) (fm : Value) (h0 : Heap) (n0 : Nat) (rv_ : Option Value) (rh_ : Heap) (rL_ : List Loc) : Prop := ∃ t : Addr, ∃ kb : ClassId, (rv_ = none) ∧ (Fr n0 rL_) ∧ (Keep h0 rh_ [x]) ∧ (Exa Z rh_ x "java/lang/String") ∧ (Fld Z rh_ x "java/lang/String" "coder" "B" (.int 1)) ∧ (Fld Z rh_ x "java/lang/String" "value" "[B" (.ref t)) ∧ (Arv Z rh_ t kb .byte (4 : Int32) [(.int (loB c0)), (.int (hiB c0)), (.int (loB (65533 : Int32))), (.int (hiB (65533 : Int32)))] (.int 0))
set_option maxRecDepth 65536 in
set_option maxHeartbeats 40000000 in
theorem injB2h_ (l : Launch) (Z : State) (a0 : Array Value) (hw : HW Z a0) (ws : List Jvm.Cond) (x : Addr) (a : Addr) (ka : ClassId) (v0 : Int32) (v1 : Int32) (v2 : Int32) (c0 : Int32) (wU : Addr) (zc : Int32) (fm : Value) (h0 : Heap) (n0 : Nat) (O0 : Old Z n0 h0) (P0 : Exa Z h0 x "java/lang/String") (P1 : Fld Z h0 x "java/lang/String" "value" "[B" .null) (P2 : Fld Z h0 x "java/lang/String" "coder" "B" (.int 0)) (P3 : n0 ≤ x) (P4 : Arv Z h0 a ka .byte (3 : Int32) [(.int v0), (.int v1), (.int v2)] (.int 0)) (P5 : Exa Z h0 a "[B") (P6 : sT5 Z (.ref wU)) (P7 : sT0 Z (.int zc)) (P8 : ¬ zc = 0) (P9 : sT2 Z (.int 1)) (P10 : sT3 Z (.int 0)) (P11 : sT4 Z (.int 8)) (P12 : sT1 Z fm) (P13 : fm.isRef = true) (P14 : Exa Z Z.heap wU "sun/nio/cs/UTF_8") (P15 : v0 < (0 : Int32)) (P16 : ¬ ((v0 &&& (254 : Int32)) = (194 : Int32))) (P17 : v2 < (0 : Int32)) (P18 : (v0 >>> ((5 : Int32) &&& 31)) = (-2 : Int32)) (P19 : ¬ ((v0 &&& (30 : Int32)) = (0 : Int32))) (P20 : (v1 &&& (192 : Int32)) = (128 : Int32)) (P21 : d2 v0 v1 = c0) :
    MetQ l yM34 (Jvm.Cond.code yM34 jdk_42_method_49_code 3 none) ws (rM 6 3 13 98) Z #[(.ref x), (.ref a), (.ref wU)] h0 (Q_injB2h_ Z x a ka v0 v1 v2 c0 wU zc fm h0 n0) := by
  have hzc := P8
  have hfm := P13
  have hd := P21
  refine metQ (plainFor_of_name pn_47582652) hisR (fun m => ef2_RRR m x a wU) ?_
  intro p e s m below meth c s₁ P Bd hx hby hml hZ hown hnm X0 e0 hP R0
  have N0 := Fr.nil n0
  have R902 : Go p e below P s₁ (mkF m 2 #[rV x, rV a, rV wU] [(.ref wU), (.ref x)]) := fun t_ k_ => R0 t_ (XS.aloadN X0.here hx rfl (hb hby d2_0) rfl rfl (XS.aloadN X0.here hx rfl (hb hby d2_1) rfl rfl k_))
  obtain ⟨rv903, T903, Lc903, X903, hQ903, R903⟩ := callQ X0 hx hZ hown e0 R902 (rnn_ l Z a0 hw [] wU h0 n0 O0) (hwI hw 16 rfl) (hwI hw 17 rfl) (hwI hw 18 rfl) (hwI hw 19 rfl) [(.ref x)] rfl (by rw [hml]; rfl) (lenOf pd_72566344 rfl) rfl (W := 1) (wR rfl) (hb hby d2_2)
  obtain ⟨rfl, N903q, K903⟩ := hQ903
  have N903 := Fr.app N0 N903q
  obtain ⟨T904, X904, e904, st904⟩ := castY X903 hx hZ hown (hwI hw 20 rfl) K903 (Ins.of_exa (P14.ext O0.2) (hwI hw 21 rfl)) (g := (mkF m 5 #[rV x, rV a, rV wU] [(.ref wU), (.ref x)])) rfl rfl (hb hby d2_5)
  have R905 : Go p e below P T904 (mkF m 11 #[rV x, rV a, rV wU] [(.ref a), (.int 0), (.ref a), (.ref wU), (.ref x)]) := fun t_ k_ => R903 t_ (st904 t_ (XS.aloadN X904.here hx rfl (hb hby d2_8) rfl rfl (XS.iconst X904.here hx rfl (hb hby d2_9) (XS.aloadN X904.here hx rfl (hb hby d2_10) rfl rfl k_))))
  obtain ⟨cl906, cl906A, -, cl906S, cl906N, -, -⟩ := id P4
  have R907 : Go p e below P T904 (mkF m 12 #[rV x, rV a, rV wU] [(.int 3), (.int 0), (.ref a), (.ref wU), (.ref x)]) := fun t_ k_ => R905 t_ (X904.arraylength hx (by rw [e904]; exact cl906A.1) (State.isArrayOf_alike hZ.alike cl906A.2.1) (g := (mkF m 11 #[rV x, rV a, rV wU] [(.ref a), (.int 0), (.ref a), (.ref wU), (.ref x)])) rfl rfl (hb hby d2_11) t_ (by rw [len_of cl906S cl906N]; exact k_))
  obtain ⟨rv908, _, ⟨T908, L908, k908, n908⟩, -, X908, ⟨Lc908, hQ908, l908, y908, z908⟩, st908⟩ := X904.specialBackH hx (y := yM33) rfl hown (mvT hZ (hwI hw 22 rfl)) (mvT hZ (hwI hw 23 rfl)) (mvT hZ (hwI hw 25 rfl)) (by decide) (backOfWith (W := 0) (iniB2h_ l Z a0 hw [] x a ka v0 v1 v2 c0 wU zc fm h0 n0 O0 P0 P1 P2 P3 P4 P5 P6 P7 hzc P9 P10 P11 P12 hfm P15 P16 P17 P18 P19 P20 hd) hZ (hwI hw 25 rfl) (hwI hw 10 rfl) (by decide) (by decide)) (g := (mkF m 12 #[rV x, rV a, rV wU] [(.int 3), (.int 0), (.ref a), (.ref wU), (.ref x)])) rfl (by rw [hml]; rfl) (Steps.refl _) (a := x) (argsL := [(.ref wU), (.ref a), (.int 0), (.int 3)]) (rest := []) (lenOf pd_41235415 rfl) rfl (by show 2 * 0 + _ ≤ _; exact Nat.le_of_eq rfl) (hb hby d2_12) (fun _ _ => ⟨rfl, e904, (by decide : 0 + 3 ≤ _), (by decide : 0 + 13 ≤ _)⟩)
  dsimp only [Pt.U, Pt.locs, Pt.cells, Pt.slots] at X908 l908 y908 z908 st908 hQ908
  subst l908 y908 z908
  obtain ⟨t_908, kb_908, rfl, N908q, K908, p908_0, p908_1, p908_2, p908_3⟩ := hQ908
  have N908 := Fr.app N903 N908q
  have O908 := O0.keep K908 (allS P3 all0)
  have R909 : Go p e below P T908 (mkF m 15 #[rV x, rV a, rV wU] []) := fun t_ k_ => R907 t_ (st908.trans k_)
  obtain ⟨fs, hr, hrun, hended, hW, hsame⟩ := X908.leave (v := none) (fun _ => rfl)
  exact ⟨_, _, hP _ (R909 _ (X908.returnOut hx Bd.returns (hb hby d2_15) hr)), hrun, hended, _, _, rfl, ⟨t_908, kb_908, rfl, N908, ((Keep.refl h0 [x]).trans K908 (allS (Or.inl (List.mem_of_getElem? (i := 0) rfl)) all0)), p908_0, p908_1, p908_2, p908_3⟩, ⟨_, rfl⟩, hW, hsame.mono (by decide) (by decide)⟩
def Q_decB2h_ (Z : State) (a : Addr) (ka : ClassId) (v0 : Int32) (v1 : Int32) (v2 : Int32) (c0 : Int32) (wU : Addr) (zc : Int32) (fm : Value) (h0 : Heap) (n0 : Nat) (rv_ : Option Value) (rh_ : Heap) (rL_ : List Loc) : Prop := ∃ x : Addr, ∃ t : Addr, ∃ kb : ClassId, (rv_ = some (.ref x)) ∧ (Fr n0 rL_) ∧ (Keep h0 rh_ []) ∧ (h0.size ≤ x) ∧ (Exa Z rh_ x "java/lang/String") ∧ (Fld Z rh_ x "java/lang/String" "coder" "B" (.int 1)) ∧ (Fld Z rh_ x "java/lang/String" "value" "[B" (.ref t)) ∧ (Arv Z rh_ t kb .byte (4 : Int32) [(.int (loB c0)), (.int (hiB c0)), (.int (loB (65533 : Int32))), (.int (hiB (65533 : Int32)))] (.int 0))
set_option maxRecDepth 65536 in
set_option maxHeartbeats 40000000 in
theorem decB2h_ (l : Launch) (Z : State) (a0 : Array Value) (hw : HW Z a0) (ws : List Jvm.Cond) (a : Addr) (ka : ClassId) (v0 : Int32) (v1 : Int32) (v2 : Int32) (c0 : Int32) (wU : Addr) (zc : Int32) (fm : Value) (h0 : Heap) (n0 : Nat) (O0 : Old Z n0 h0) (P0 : Arv Z h0 a ka .byte (3 : Int32) [(.int v0), (.int v1), (.int v2)] (.int 0)) (P1 : Exa Z h0 a "[B") (P2 : sT5 Z (.ref wU)) (P3 : sT0 Z (.int zc)) (P4 : ¬ zc = 0) (P5 : sT2 Z (.int 1)) (P6 : sT3 Z (.int 0)) (P7 : sT4 Z (.int 8)) (P8 : sT1 Z fm) (P9 : fm.isRef = true) (P10 : sT6 Z (.ref wU)) (P11 : Exa Z Z.heap wU "sun/nio/cs/UTF_8") (P12 : v0 < (0 : Int32)) (P13 : ¬ ((v0 &&& (254 : Int32)) = (194 : Int32))) (P14 : v2 < (0 : Int32)) (P15 : (v0 >>> ((5 : Int32) &&& 31)) = (-2 : Int32)) (P16 : ¬ ((v0 &&& (30 : Int32)) = (0 : Int32))) (P17 : (v1 &&& (192 : Int32)) = (128 : Int32)) (P18 : d2 v0 v1 = c0) :
    MetQ l yM35 (Jvm.Cond.code yM35 prog_5_method_5_code 1 (some (.object "java/lang/String"))) ws (rM 7 4 17 113) Z #[(.ref a)] h0 (Q_decB2h_ Z a ka v0 v1 v2 c0 wU zc fm h0 n0) := by
  have hzc := P4
  have hfm := P9
  have hd := P18
  refine metQ (plainFor_of_name pn_4625033) hisR (fun m => ef1_R m a) ?_
  intro p e s m below meth c s₁ P Bd hx hby hml hZ hown hnm X0 e0 hP R0
  have N0 := Fr.nil n0
  obtain ⟨T910, h910, X910, e910, E910, A910, D910, -, st910⟩ := newO X0 hx hZ hown (hwI hw 8 rfl) (hwI hw 9 rfl) (hwI hw 10 rfl) e0 (g := (mkF m 0 #[rV a] [])) rfl (hb hby d1_0) (by decide) (by decide)
  obtain ⟨b910, g910⟩ : ∃ z, z = h0.size := ⟨_, rfl⟩
  rw [← g910] at A910 D910 st910
  have O910 := O0.ext E910
  have F910_50 : Fld Z h910 b910 "java/lang/String" "value" "[B" .null := D910 (Or.inr (hwI hw 50 rfl)) (ty := (.array .byte)) (by decide)
  have F910_52 : Fld Z h910 b910 "java/lang/String" "coder" "B" (.int 0) := D910 (Or.inr (hwI hw 52 rfl)) (ty := .byte) (by decide)
  obtain ⟨T911, X911, e911, st911⟩ := getS2 X910 hx hZ hown (host := "") (Or.inl (hwI hw 11 rfl)) Via.refl e910 (P10.ext O910.2) (g := (mkF m 5 #[rV a] [(.ref a), (.ref b910), (.ref b910)])) rfl (hb hby d1_5)
  have R912 : Go p e below P T911 (mkF m 8 #[rV a] [(.ref wU), (.ref a), (.ref b910), (.ref b910)]) := fun t_ k_ => R0 t_ (st910 t_ (XS.dup X910.here hx rfl (hb hby d1_3) rfl rfl (XS.aloadN X910.here hx rfl (hb hby d1_4) rfl rfl (st911 t_ k_))))
  have f913 := (P0.ext E910)
  have f914 := (P1.ext E910)
  obtain ⟨rv915, _, ⟨T915, L915, k915, n915⟩, -, X915, ⟨Lc915, hQ915, l915, y915, z915⟩, st915⟩ := X911.specialBack hx (y := yM34) rfl hown (mvT hZ (hwI hw 13 rfl)) (mvT hZ (hwI hw 14 rfl)) (mvT hZ (hwI hw 15 rfl)) (by decide) (backOf (W := 1) (injB2h_ l Z a0 hw [] b910 a ka v0 v1 v2 c0 wU zc fm h910 n0 O910 A910 F910_50 F910_52 (Nat.le_trans (oldLe O0) (Nat.le_of_eq g910.symm)) f913 f914 P2 P3 hzc P5 P6 P7 P8 hfm P11 P12 P13 P14 P15 P16 P17 hd) hZ (hwI hw 15 rfl) (hwI hw 10 rfl) (by decide) (by decide)) (g := (mkF m 8 #[rV a] [(.ref wU), (.ref a), (.ref b910), (.ref b910)])) rfl (by rw [hml]; rfl) (Steps.refl _) (a := b910) (argsL := [(.ref a), (.ref wU)]) (rest := [(.ref b910)]) (lenOf pd_90622059 rfl) rfl (by show 2 * 0 + _ ≤ _; exact Nat.le_of_eq rfl) (hb hby d1_8) (fun _ _ => ⟨rfl, e911, (by decide : 1 + 3 ≤ _), (by decide : 4 + 13 ≤ _)⟩)
  dsimp only [Pt.U, Pt.locs, Pt.cells, Pt.slots] at X915 l915 y915 z915 st915 hQ915
  subst l915 y915 z915
  obtain ⟨t_915, kb_915, rfl, N915q, K915, p915_0, p915_1, p915_2, p915_3⟩ := hQ915
  have N915 := Fr.app N0 N915q
  have O915 := O910.keep K915 (allS (Nat.le_trans (oldLe O0) (Nat.le_of_eq g910.symm)) all0)
  have R916 : Go p e below P T915 (mkF m 11 #[rV a] [(.ref b910)]) := fun t_ k_ => R912 t_ (st915.trans k_)
  obtain ⟨fs, hr, hrun, hended, hW, hsame⟩ := X915.leave (v := some (.ref b910)) (fun h => by rw [Bd.returns] at h; cases h)
  exact ⟨_, _, hP _ (R916 _ (retOut X915 hx Bd.returns rfl (Or.inr (Or.inr (Or.inr (Or.inr ⟨rfl, rfl, rfl⟩)))) (hb hby d1_11) hr)), hrun, hended, _, _, rfl, ⟨b910, t_915, kb_915, rfl, N915, (((Keep.refl h0 []).ext E910).trans K915 (allS (Or.inr (Nat.le_of_eq g910.symm)) all0)), (Nat.le_of_eq g910.symm), p915_0, p915_1, p915_2, p915_3⟩, ⟨_, rfl⟩, hW, hsame.mono (by decide) (by decide)⟩
def Q_iniCl_ (Z : State) (x : Addr) (a : Addr) (ka : ClassId) (v0 : Int32) (v1 : Int32) (v2 : Int32) (v3 : Int32) (c0 : Int32) (wU : Addr) (zc : Int32) (fm : Value) (h0 : Heap) (n0 : Nat) (rv_ : Option Value) (rh_ : Heap) (rL_ : List Loc) : Prop := ∃ t : Addr, ∃ kb : ClassId, (rv_ = none) ∧ (Fr n0 rL_) ∧ (Keep h0 rh_ [x]) ∧ (Exa Z rh_ x "java/lang/String") ∧ (Fld Z rh_ x "java/lang/String" "coder" "B" (.int 1)) ∧ (Fld Z rh_ x "java/lang/String" "value" "[B" (.ref t)) ∧ (Arv Z rh_ t kb .byte (4 : Int32) [(.int (loB c0)), (.int (hiB c0)), (.int (loB v3)), (.int (hiB v3))] (.int 0))
set_option maxRecDepth 65536 in
set_option maxHeartbeats 40000000 in
theorem iniCl_ (l : Launch) (Z : State) (a0 : Array Value) (hw : HW Z a0) (ws : List Jvm.Cond) (x : Addr) (a : Addr) (ka : ClassId) (v0 : Int32) (v1 : Int32) (v2 : Int32) (v3 : Int32) (c0 : Int32) (wU : Addr) (zc : Int32) (fm : Value) (h0 : Heap) (n0 : Nat) (O0 : Old Z n0 h0) (P0 : Exa Z h0 x "java/lang/String") (P1 : Fld Z h0 x "java/lang/String" "value" "[B" .null) (P2 : Fld Z h0 x "java/lang/String" "coder" "B" (.int 0)) (P3 : n0 ≤ x) (P4 : Arv Z h0 a ka .byte (4 : Int32) [(.int v0), (.int v1), (.int v2), (.int v3)] (.int 0)) (P5 : Exa Z h0 a "[B") (P6 : sT5 Z (.ref wU)) (P7 : sT0 Z (.int zc)) (P8 : ¬ zc = 0) (P9 : sT2 Z (.int 1)) (P10 : sT3 Z (.int 0)) (P11 : sT4 Z (.int 8)) (P12 : sT1 Z fm) (P13 : fm.isRef = true) (P14 : v0 < (0 : Int32)) (P15 : ¬ ((v0 &&& (254 : Int32)) = (194 : Int32))) (P16 : ¬ (v3 < (0 : Int32))) (P17 : (v3.toUInt32.toUInt16.toUInt32.toInt32) = v3) (P18 : ¬ ((v0 >>> ((5 : Int32) &&& 31)) = (-2 : Int32))) (P19 : (v0 >>> ((4 : Int32) &&& 31)) = (-2 : Int32)) (P20 : (v1 &&& (192 : Int32)) = (128 : Int32)) (P21 : (v2 &&& (192 : Int32)) = (128 : Int32)) (P22 : v0 = (-32 : Int32) → ¬ (v1 &&& (224 : Int32)) = (128 : Int32)) (P23 : d3 v0 v1 v2 = c0) (P24 : c0 < (55296 : Int32) ∨ ¬ c0 < (57344 : Int32)) :
    MetQ l yM33 (Jvm.Cond.codeWith yM33 jdk_42_method_11_code 11 none [((800 : Nat), (813 : Nat), (816 : Nat), (202 : Nat))]) ws (rM 5 3 16 76) Z #[(.ref x), (.ref wU), (.ref a), (.int 0), (.int 4)] h0 (Q_iniCl_ Z x a ka v0 v1 v2 v3 c0 wU zc fm h0 n0) := by
  have hzc := P8
  have hfm := P13
  have ht := P17
  have hE := P22
  have hd := P23
  have hns := P24
  refine metQ (plainFor_of_name pn_47582652) hisWith (fun m => ef4_RRRII m x wU a (0 : Int32) (4 : Int32)) ?_
  intro p e s m below meth c s₁ P Bd hx hby hml hZ hown hnm X0 e0 hP R0
  have N0 := Fr.nil n0
  have R917 : Go p e below P s₁ (mkF m 1 #[rV x, rV wU, rV a, iV 0, iV 4, uS, uS, uS, uS, uS, uS] [(.ref x)]) := fun t_ k_ => R0 t_ (XS.aloadN X0.here hx rfl (hb hby d4_0) rfl rfl k_)
  obtain ⟨T918, X918, e918, st918⟩ := initO X0 hx hZ hown (hwI hw 26 rfl) (hwI hw 27 rfl) (hwI hw 28 rfl) e0 (g := (mkF m 1 #[rV x, rV wU, rV a, iV 0, iV 4, uS, uS, uS, uS, uS, uS] [(.ref x)])) rfl (by rw [hml]; rfl) rfl (hb hby d4_1) (by decide) (W := 0) (by show 2 * 0 + _ ≤ _; exact Nat.le_of_eq rfl) (by decide)
  obtain ⟨T919, X919, e919, st919⟩ := getS2 X918 hx hZ hown (host := "") (Or.inl (hwI hw 29 rfl)) Via.refl e918 (P6.ext O0.2) (g := (mkF m 31 #[rV x, rV wU, rV a, iV 0, iV 4, uS, uS, uS, uS, uS, uS] [(.ref wU)])) rfl (hb hby d4_31)
  obtain ⟨T920, X920, e920, st920⟩ := getS2 X919 hx hZ hown (host := "") (Or.inl (hwI hw 31 rfl)) Via.refl e919 (P7.ext O0.2) (g := (mkF m 37 #[rV x, rV wU, rV a, iV 0, iV 4, uS, uS, uS, uS, uS, uS] [])) rfl (hb hby d4_37)
  have R921 : Go p e below P T920 (mkF m 47 #[rV x, rV wU, rV a, iV 0, iV 4, uS, uS, uS, uS, uS, uS] [(.int 4), (.int 0), (.ref a)]) := fun t_ k_ => R917 t_ (st918 t_ (XS.iload X918.here hx rfl (hb hby d4_4) rfl (XS.ifYes X918.here hx rfl (pc0 := 6) (pc' := 30) rfl (hb hby d4_6) rfl ((if0 _ _).trans (feq (by decide : ¬ ((4 : Int32) = (0 : Int32)))).2) (by decide) (by decide) (XS.aloadN X918.here hx rfl (hb hby d4_30) rfl rfl (st919 t_ (Jvm.RoadKit.acmp (g := (mkF m 34 #[rV x, rV wU, rV a, iV 0, iV 4, uS, uS, uS, uS, uS, uS] [(.ref wU), (.ref wU)])) X919 hx rfl rfl rfl (pc0 := 34) (pc' := 37) (same := true) rfl (hb hby d4_34) rfl (decide_eq_true (congrArg Value.ref rfl)) (by decide) (by decide) (st920 t_ (XS.ifNo X920.here hx rfl (hb hby d4_40) rfl ((if0 _ _).trans (feq hzc).1) (XS.aloadN X920.here hx rfl (hb hby d4_43) rfl rfl (XS.iloadN X920.here hx rfl (hb hby d4_44) rfl (XS.iload X920.here hx rfl (hb hby d4_45) rfl k_)))))))))))
  obtain ⟨rv922, T922, Lc922, X922, hQ922, R922⟩ := callQ X920 hx hZ hown e920 R921 (cpos40_ l Z a0 hw [] a ka v0 v1 v2 v3 h0 n0 O0 P4 P14) (hwI hw 32 rfl) (hwI hw 33 rfl) (hwI hw 34 rfl) (hwI hw 35 rfl) [] rfl (by rw [hml]; rfl) (lenOf pd_14998784 rfl) rfl (W := 0) (wR rfl) (hb hby d4_47)
  obtain ⟨rfl, N922q, K922⟩ := hQ922
  have N922 := Fr.app N0 N922q
  have R923 : Go p e below P T922 (mkF m 84 #[rV x, rV wU, rV a, iV 0, iV 4, iV 0, uS, uS, uS, uS, uS] [(.int 4), (.int 0), (.ref a)]) := fun t_ k_ => R922 t_ (XS.istore X922.here hx rfl (hb hby d4_50) rfl (l' := #[rV x, rV wU, rV a, iV 0, iV 4, iV 0, uS, uS, uS, uS, uS]) rfl (XS.iload X922.here hx rfl (hb hby d4_52) rfl (XS.iload X922.here hx rfl (hb hby d4_54) rfl (XS.icmpYes X922.here hx rfl (pc0 := 56) (pc' := 78) rfl (hb hby d4_56) rfl (feq (by decide : ¬ ((0 : Int32) = (4 : Int32)))).2 (by decide) (by decide) (XS.aloadN X922.here hx rfl (hb hby d4_78) rfl rfl (XS.iloadN X922.here hx rfl (hb hby d4_79) rfl (XS.iloadN X922.here hx rfl (hb hby d4_80) rfl (XS.iload X922.here hx rfl (hb hby d4_81) rfl (XS.iadd X922.here hx rfl (hb hby d4_83) rfl k_)))))))))
  obtain ⟨rv924, T924, Lc924, X924, hQ924, R924⟩ := callQ X922 hx hZ hown K922 R923 (cor4_ l Z a0 hw [] a ka v0 v1 v2 v3 h0 n0 O0 P4 P5) (hwI hw 36 rfl) (hwI hw 37 rfl) (hwI hw 38 rfl) (hwI hw 39 rfl) [] rfl (by rw [hml]; rfl) (lenOf pd_64843128 rfl) rfl (W := 0) (wR rfl) (hb hby d4_84)
  obtain ⟨b_924, kb_924, rfl, N924q, K924, p924_0, p924_1⟩ := hQ924
  have N924 := Fr.app N922 N924q
  have O924 := O0.keep K924 all0
  have R925 : Go p e below P T924 (mkF m 107 #[rV x, rV wU, rV a, iV 0, iV 4, iV 0, rV b_924, iV 1, uS, uS, uS] [(.int 0), (.ref b_924)]) := fun t_ k_ => R924 t_ (XS.astore X924.here hx rfl (hb hby d4_87) rfl rfl (l' := #[rV x, rV wU, rV a, iV 0, iV 4, iV 0, rV b_924, uS, uS, uS, uS]) rfl (XS.iload X924.here hx rfl (hb hby d4_89) rfl (XS.istore X924.here hx rfl (hb hby d4_91) rfl (l' := #[rV x, rV wU, rV a, iV 0, iV 4, iV 0, rV b_924, iV 0, uS, uS, uS]) rfl (XS.iload X924.here hx rfl (hb hby d4_93) rfl (XS.iload X924.here hx rfl (hb hby d4_95) rfl (XS.icmpNo X924.here hx rfl (hb hby d4_97) rfl (tlt (by decide : (0 : Int32) < (4 : Int32))).2.1 (XS.aload X924.here hx rfl (hb hby d4_100) rfl rfl (XS.iload X924.here hx rfl (hb hby d4_102) rfl (XS.iinc X924.here hx rfl (hb hby d4_104) rfl (l' := #[rV x, rV wU, rV a, iV 0, iV 4, iV 0, rV b_924, iV ((0 : Int32) + (1 : Int32)), uS, uS, uS]) rfl k_)))))))))
  obtain ⟨cl926, cl926A, cl926q, cl926S, cl926N, cl926H, cl926G⟩ := id p924_1
  have ib927 := inb_of (j := (0 : Int32)) cl926S ⟨by decide, by decide⟩
  have R928 : Go p e below P T924 (mkF m 129 #[rV x, rV wU, rV a, iV 0, iV 4, iV 0, rV b_924, iV 1, iV v0, uS, uS] []) := fun t_ k_ => R925 t_ (apS (X924.baloadBytes hx (v := (.int v0)) (by rw [(rfl : T924.heap = T924.heap)]; exact cl926A.1) (State.isArrayOf_alike hZ.alike cl926A.2.1) cl926A.2.2 ib927 (cl926H.at ib927 rfl) rfl rfl (hb hby d4_107)) (XS.istore X924.here hx rfl (hb hby d4_108) rfl (l' := #[rV x, rV wU, rV a, iV 0, iV 4, iV 0, rV b_924, iV 1, iV v0, uS, uS]) rfl (XS.iload X924.here hx rfl (hb hby d4_110) rfl (XS.ifYes X924.here hx rfl (pc0 := 112) (pc' := 129) rfl (hb hby d4_112) rfl ((if0 _ _).trans (tlt P14).1) (by decide) (by decide) k_))))
  have R929 : Go p e below P T924 (mkF m 228 #[rV x, rV wU, rV a, iV 0, iV 4, iV 0, rV b_924, iV 0, iV v0, uS, uS] [(.int 4)]) := fun t_ k_ => R928 t_ (XS.iload X924.here hx rfl (hb hby d4_129) rfl (XS.sipush X924.here hx rfl (hb hby d4_131) (XS.iand X924.here hx rfl (hb hby d4_134) rfl (XS.sipush X924.here hx rfl (hb hby d4_135) (XS.icmpYes X924.here hx rfl (pc0 := 138) (pc' := 184) rfl (hb hby d4_138) rfl (feq P15).2 (by decide) (by decide) (XS.iinc X924.here hx rfl (hb hby d4_184) rfl (l' := #[rV x, rV wU, rV a, iV 0, iV 4, iV 0, rV b_924, iV ((1 : Int32) + (-1 : Int32)), iV v0, uS, uS]) rfl (XS.goto X924.here hx rfl (pc0 := 187) (pc' := 190) rfl (hb hby d4_187) (by decide) (by decide) (XS.iload X924.here hx rfl (hb hby d4_190) rfl (XS.iload X924.here hx rfl (hb hby d4_192) rfl (XS.icmpYes X924.here hx rfl (pc0 := 194) (pc' := 226) rfl (hb hby d4_194) rfl (feq (by decide : ¬ ((0 : Int32) = (4 : Int32)))).2 (by decide) (by decide) (XS.iload X924.here hx rfl (hb hby d4_226) rfl k_)))))))))))
  obtain ⟨rv930, T930, Lc930, X930, hQ930, R930⟩ := callQ X924 hx hZ hown (rfl : T924.heap = T924.heap) R929 (newB4_ l Z a0 hw []  T924.heap n0 O924) (hwI hw 86 rfl) (hwI hw 87 rfl) (hwI hw 88 rfl) (hwI hw 89 rfl) [] rfl (by rw [hml]; rfl) (lenOf pd_1250628 rfl) rfl (W := 0) (wR rfl) (hb hby d4_228)
  obtain ⟨b_930, kb_930, rfl, N930q, K930, p930_0, p930_1⟩ := hQ930
  have N930 := Fr.app N924 N930q
  have O930 := O924.keep K930 all0
  have R931 : Go p e below P T930 (mkF m 241 #[rV x, rV wU, rV a, iV 0, iV 4, iV 0, rV b_924, iV 0, rV b_930, uS, uS] [(.int 0), (.int 0), (.ref b_930), (.int 0), (.ref b_924)]) := fun t_ k_ => R930 t_ (XS.astore X930.here hx rfl (hb hby d4_231) rfl rfl (l' := #[rV x, rV wU, rV a, iV 0, iV 4, iV 0, rV b_924, iV 0, rV b_930, uS, uS]) rfl (XS.aload X930.here hx rfl (hb hby d4_233) rfl rfl (XS.iconst X930.here hx rfl (hb hby d4_235) (XS.aload X930.here hx rfl (hb hby d4_236) rfl rfl (XS.iconst X930.here hx rfl (hb hby d4_238) (XS.iload X930.here hx rfl (hb hby d4_239) rfl k_))))))
  obtain ⟨rv932, T932, Lc932, X932, hQ932, R932⟩ := callQ X930 hx hZ hown (rfl : T930.heap = T930.heap) R931 (inL0_ l Z a0 hw [] b_924 b_930 kb_930 (8 : Int32) ([(.int 0), (.int 0), (.int 0), (.int 0), (.int 0), (.int 0), (.int 0), (.int 0)]) (4 : Int32) fm T930.heap n0 O930 P12 hfm (by decide) (by decide) p930_1 (by decide)) (hwI hw 94 rfl) (hwI hw 95 rfl) (hwI hw 76 rfl) (hwI hw 96 rfl) [] rfl (by rw [hml]; rfl) (lenOf pd_17825761 rfl) rfl (W := 0) (wR rfl) (hb hby d4_241)
  obtain ⟨rfl, N932q, K932⟩ := hQ932
  have N932 := Fr.app N930 N932q
  have R933 : Go p e below P T932 (mkF m 255 #[rV x, rV wU, rV a, iV 0, iV 4, iV 0, rV b_924, iV 0, rV b_930, uS, uS] [(.int 1), (.int 0), (.ref b_930), (.int 4), (.int 0), (.ref b_924)]) := fun t_ k_ => R932 t_ (XS.aload X932.here hx rfl (hb hby d4_244) rfl rfl (XS.iload X932.here hx rfl (hb hby d4_246) rfl (XS.iload X932.here hx rfl (hb hby d4_248) rfl (XS.aload X932.here hx rfl (hb hby d4_250) rfl rfl (XS.iload X932.here hx rfl (hb hby d4_252) rfl (XS.iconst X932.here hx rfl (hb hby d4_254) k_))))))
  have f934 := (p924_1.keep K930 nin0)
  obtain ⟨rv935, T935, Lc935, X935, hQ935, R935⟩ := callQ X932 hx hZ hown K932 R933 (decU43l_ l Z a0 hw [] b_924 kb_924 v0 v1 v2 v3 b_930 kb_930 ([(.int 0), (.int 0), (.int 0), (.int 0), (.int 0), (.int 0), (.int 0), (.int 0)]) c0 T930.heap n0 O930 P9 P10 P11 f934 p930_1 (Nat.le_trans (oldLe O924) p930_0) (Nat.ne_of_lt (Nat.lt_of_lt_of_le p924_1.lt p930_0)) rfl P16 ht P14 P18 P19 P20 P21 hE hd hns) (hwI hw 118 rfl) (hwI hw 119 rfl) (hwI hw 10 rfl) (hwI hw 120 rfl) [] rfl (by rw [hml]; rfl) (lenOf pd_22962144 rfl) rfl (W := 0) (wR rfl) (hb hby d4_255)
  obtain ⟨rfl, N935q, K935, p935_0⟩ := hQ935
  have N935 := Fr.app N932 N935q
  have O935 := O930.keep K935 (allS (Nat.le_trans (oldLe O924) p930_0) all0)
  have R936 : Go p e below P T935 (mkF m 260 #[rV x, rV wU, rV a, iV 0, iV 4, iV 2, rV b_924, iV 0, rV b_930, uS, uS] []) := fun t_ k_ => R935 t_ (XS.istore X935.here hx rfl (hb hby d4_258) rfl (l' := #[rV x, rV wU, rV a, iV 0, iV 4, iV 2, rV b_924, iV 0, rV b_930, uS, uS]) rfl k_)
  have Vl937 : Arv Z T935.heap b_930 kb_930 .byte (8 : Int32) [(.int (loB c0)), (.int (hiB c0)), (.int (loB v3)), (.int (hiB v3)), (.int 0), (.int 0), (.int 0), (.int 0)] (.int 0) := p935_0
  have R938 : Go p e below P T935 (mkF m 273 #[rV x, rV wU, rV a, iV 0, iV 4, iV 2, rV b_924, iV 0, rV b_930, uS, uS] [(.int 4), (.ref b_930)]) := fun t_ k_ => R936 t_ (XS.iload X935.here hx rfl (hb hby d4_260) rfl (XS.iload X935.here hx rfl (hb hby d4_262) rfl (XS.icmpNo X935.here hx rfl (hb hby d4_264) rfl (feq (by decide : ¬ ((2 : Int32) = (4 : Int32)))).1 (XS.aload X935.here hx rfl (hb hby d4_267) rfl rfl (XS.iload X935.here hx rfl (hb hby d4_269) rfl (XS.iconst X935.here hx rfl (hb hby d4_271) (XS.ishl X935.here hx rfl (hb hby d4_272) rfl k_)))))))
  obtain ⟨rv939, T939, Lc939, X939, hQ939, R939⟩ := callQ X935 hx hZ hown (rfl : T935.heap = T935.heap) R938 (copy8_4_ l Z a0 hw [] b_930 kb_930 (loB c0) (hiB c0) (loB v3) (hiB v3) (0 : Int32) (0 : Int32) (0 : Int32) (0 : Int32) T935.heap n0 O935 Vl937) (hwI hw 156 rfl) (hwI hw 157 rfl) (hwI hw 38 rfl) (hwI hw 158 rfl) [] rfl (by rw [hml]; rfl) (lenOf pd_14456175 rfl) rfl (W := 0) (wR rfl) (hb hby d4_273)
  obtain ⟨b_939, kb_939, rfl, N939q, K939, p939_0, p939_1⟩ := hQ939
  have N939 := Fr.app N935 N939q
  have O939 := O935.keep K939 all0
  have f940 := ((((P0.keep K924).keep K930).keep K935).keep K939)
  have f941 := ((((P1.keep K924 nin0).keep K930 nin0).keep K935 (ninS (Nat.ne_of_lt (Nat.lt_of_lt_of_le (P0.keep K924).lt p930_0)) nin0)).keep K939 nin0)
  obtain ⟨T942, h942, X942, e942, W942, st942⟩ := putF X939 hx hZ hown (host := "") (Or.inl (hwI hw 49 rfl)) Via.refl (rfl : T939.heap = T939.heap) f941 f940 (Or.inr ⟨(hwI hw 50 rfl), rfl, hnm⟩) (hwI hw 9 rfl) (ty := (.array .byte)) (by decide) rfl rfl (g := (mkF m 281 #[rV x, rV wU, rV a, iV 0, iV 4, iV 2, rV b_924, iV 0, rV b_939, uS, uS] [(.ref b_939), (.ref x)])) rfl rfl (hb hby d4_281)
  have N942 := Fr.snoc X942 N939 P3
  have Fw942 := f941.same W942
  have O942 := O939.wr W942 P3
  have f943 := (f940.wr W942)
  have f944 := (((((P2.keep K924 nin0).keep K930 nin0).keep K935 (ninS (Nat.ne_of_lt (Nat.lt_of_lt_of_le (P0.keep K924).lt p930_0)) nin0)).keep K939 nin0).other W942 (Or.inr (slot_ne (Or.inr (hwI hw 52 rfl)) (Or.inr (hwI hw 50 rfl)) (by decide) (t := .byte) (t' := (.array .byte)) (by decide) (by decide))))
  obtain ⟨T945, h945, X945, e945, W945, st945⟩ := putFN X942 hx hZ hown (hwI hw 51 rfl) Via.refl e942 f944 f943 (Or.inr ⟨(hwI hw 52 rfl), rfl, hnm⟩) (hwI hw 9 rfl) (ty := .byte) (v' := (.int 1)) (by decide) rfl rfl (g := (mkF m 286 #[rV x, rV wU, rV a, iV 0, iV 4, iV 2, rV b_924, iV 0, rV b_939, uS, uS] [(.int 1), (.ref x)])) rfl rfl (hb hby d4_286)
  have N945 := Fr.snoc X945 N942 P3
  have Fw945 := f944.same W945
  have O945 := O942.wr W945 P3
  have R946 : Go p e below P T945 (mkF m 879 #[rV x, rV wU, rV a, iV 0, iV 4, iV 2, rV b_924, iV 0, rV b_939, uS, uS] []) := fun t_ k_ => R939 t_ (XS.astore X939.here hx rfl (hb hby d4_276) rfl rfl (l' := #[rV x, rV wU, rV a, iV 0, iV 4, iV 2, rV b_924, iV 0, rV b_939, uS, uS]) rfl (XS.aloadN X939.here hx rfl (hb hby d4_278) rfl rfl (XS.aload X939.here hx rfl (hb hby d4_279) rfl rfl (st942 t_ (XS.aloadN X942.here hx rfl (hb hby d4_284) rfl rfl (XS.iconst X942.here hx rfl (hb hby d4_285) (st945 t_ (XS.goto X945.here hx rfl (pc0 := 289) (pc' := 879) rfl (hb hby d4_289) (by decide) (by decide) k_))))))))
  obtain ⟨fs, hr, hrun, hended, hW, hsame⟩ := X945.leave (v := none) (fun _ => rfl)
  have f947 := (f943.wr W945)
  have f948 := (Fw942.other W945 (Or.inr (slot_ne (Or.inr (hwI hw 50 rfl)) (Or.inr (hwI hw 52 rfl)) (by decide) (t := (.array .byte)) (t' := .byte) (by decide) (by decide))))
  have f949 := ((p939_1.other W942 (Ne.symm (Nat.ne_of_lt (Nat.lt_of_lt_of_le (((P0.keep K924).keep K930).keep K935).lt p939_0)))).other W945 (Ne.symm (Nat.ne_of_lt (Nat.lt_of_lt_of_le (((P0.keep K924).keep K930).keep K935).lt p939_0))))
  exact ⟨_, _, hP _ (R946 _ (X945.returnOut hx Bd.returns (hb hby d4_879) hr)), hrun, hended, _, _, rfl, ⟨b_939, kb_939, rfl, N945, (e945.symm ▸ (((((((Keep.refl h0 [x]).trans K924 all0).trans K930 all0).trans K935 (allS (Or.inr (Nat.le_trans ((Keep.refl h0 [x]).trans K924 all0).1 p930_0)) all0)).trans K939 all0).wr W942 (Or.inl (List.mem_of_getElem? (i := 0) rfl))).wr W945 (Or.inl (List.mem_of_getElem? (i := 0) rfl)))), (e945.symm ▸ f947), (e945.symm ▸ Fw945), (e945.symm ▸ f948), (e945.symm ▸ f949)⟩, ⟨_, rfl⟩, hW, hsame.mono (by decide) (by decide)⟩
def Q_injCl_ (Z : State) (x : Addr) (a : Addr) (ka : ClassId) (v0 : Int32) (v1 : Int32) (v2 : Int32) (v3 : Int32) (c0 : Int32) (wU : Addr) (zc : Int32) (fm : Value) (h0 : Heap) (n0 : Nat) (rv_ : Option Value) (rh_ : Heap) (rL_ : List Loc) : Prop := ∃ t : Addr, ∃ kb : ClassId, (rv_ = none) ∧ (Fr n0 rL_) ∧ (Keep h0 rh_ [x]) ∧ (Exa Z rh_ x "java/lang/String") ∧ (Fld Z rh_ x "java/lang/String" "coder" "B" (.int 1)) ∧ (Fld Z rh_ x "java/lang/String" "value" "[B" (.ref t)) ∧ (Arv Z rh_ t kb .byte (4 : Int32) [(.int (loB c0)), (.int (hiB c0)), (.int (loB v3)), (.int (hiB v3))] (.int 0))
set_option maxRecDepth 65536 in
set_option maxHeartbeats 40000000 in
theorem injCl_ (l : Launch) (Z : State) (a0 : Array Value) (hw : HW Z a0) (ws : List Jvm.Cond) (x : Addr) (a : Addr) (ka : ClassId) (v0 : Int32) (v1 : Int32) (v2 : Int32) (v3 : Int32) (c0 : Int32) (wU : Addr) (zc : Int32) (fm : Value) (h0 : Heap) (n0 : Nat) (O0 : Old Z n0 h0) (P0 : Exa Z h0 x "java/lang/String") (P1 : Fld Z h0 x "java/lang/String" "value" "[B" .null) (P2 : Fld Z h0 x "java/lang/String" "coder" "B" (.int 0)) (P3 : n0 ≤ x) (P4 : Arv Z h0 a ka .byte (4 : Int32) [(.int v0), (.int v1), (.int v2), (.int v3)] (.int 0)) (P5 : Exa Z h0 a "[B") (P6 : sT5 Z (.ref wU)) (P7 : sT0 Z (.int zc)) (P8 : ¬ zc = 0) (P9 : sT2 Z (.int 1)) (P10 : sT3 Z (.int 0)) (P11 : sT4 Z (.int 8)) (P12 : sT1 Z fm) (P13 : fm.isRef = true) (P14 : Exa Z Z.heap wU "sun/nio/cs/UTF_8") (P15 : v0 < (0 : Int32)) (P16 : ¬ ((v0 &&& (254 : Int32)) = (194 : Int32))) (P17 : ¬ (v3 < (0 : Int32))) (P18 : (v3.toUInt32.toUInt16.toUInt32.toInt32) = v3) (P19 : ¬ ((v0 >>> ((5 : Int32) &&& 31)) = (-2 : Int32))) (P20 : (v0 >>> ((4 : Int32) &&& 31)) = (-2 : Int32)) (P21 : (v1 &&& (192 : Int32)) = (128 : Int32)) (P22 : (v2 &&& (192 : Int32)) = (128 : Int32)) (P23 : v0 = (-32 : Int32) → ¬ (v1 &&& (224 : Int32)) = (128 : Int32)) (P24 : d3 v0 v1 v2 = c0) (P25 : c0 < (55296 : Int32) ∨ ¬ c0 < (57344 : Int32)) :
    MetQ l yM34 (Jvm.Cond.code yM34 jdk_42_method_49_code 3 none) ws (rM 6 3 16 98) Z #[(.ref x), (.ref a), (.ref wU)] h0 (Q_injCl_ Z x a ka v0 v1 v2 v3 c0 wU zc fm h0 n0) := by
  have hzc := P8
  have hfm := P13
  have ht := P18
  have hE := P23
  have hd := P24
  have hns := P25
  refine metQ (plainFor_of_name pn_47582652) hisR (fun m => ef2_RRR m x a wU) ?_
  intro p e s m below meth c s₁ P Bd hx hby hml hZ hown hnm X0 e0 hP R0
  have N0 := Fr.nil n0
  have R950 : Go p e below P s₁ (mkF m 2 #[rV x, rV a, rV wU] [(.ref wU), (.ref x)]) := fun t_ k_ => R0 t_ (XS.aloadN X0.here hx rfl (hb hby d2_0) rfl rfl (XS.aloadN X0.here hx rfl (hb hby d2_1) rfl rfl k_))
  obtain ⟨rv951, T951, Lc951, X951, hQ951, R951⟩ := callQ X0 hx hZ hown e0 R950 (rnn_ l Z a0 hw [] wU h0 n0 O0) (hwI hw 16 rfl) (hwI hw 17 rfl) (hwI hw 18 rfl) (hwI hw 19 rfl) [(.ref x)] rfl (by rw [hml]; rfl) (lenOf pd_72566344 rfl) rfl (W := 1) (wR rfl) (hb hby d2_2)
  obtain ⟨rfl, N951q, K951⟩ := hQ951
  have N951 := Fr.app N0 N951q
  obtain ⟨T952, X952, e952, st952⟩ := castY X951 hx hZ hown (hwI hw 20 rfl) K951 (Ins.of_exa (P14.ext O0.2) (hwI hw 21 rfl)) (g := (mkF m 5 #[rV x, rV a, rV wU] [(.ref wU), (.ref x)])) rfl rfl (hb hby d2_5)
  have R953 : Go p e below P T952 (mkF m 11 #[rV x, rV a, rV wU] [(.ref a), (.int 0), (.ref a), (.ref wU), (.ref x)]) := fun t_ k_ => R951 t_ (st952 t_ (XS.aloadN X952.here hx rfl (hb hby d2_8) rfl rfl (XS.iconst X952.here hx rfl (hb hby d2_9) (XS.aloadN X952.here hx rfl (hb hby d2_10) rfl rfl k_))))
  obtain ⟨cl954, cl954A, -, cl954S, cl954N, -, -⟩ := id P4
  have R955 : Go p e below P T952 (mkF m 12 #[rV x, rV a, rV wU] [(.int 4), (.int 0), (.ref a), (.ref wU), (.ref x)]) := fun t_ k_ => R953 t_ (X952.arraylength hx (by rw [e952]; exact cl954A.1) (State.isArrayOf_alike hZ.alike cl954A.2.1) (g := (mkF m 11 #[rV x, rV a, rV wU] [(.ref a), (.int 0), (.ref a), (.ref wU), (.ref x)])) rfl rfl (hb hby d2_11) t_ (by rw [len_of cl954S cl954N]; exact k_))
  obtain ⟨rv956, _, ⟨T956, L956, k956, n956⟩, -, X956, ⟨Lc956, hQ956, l956, y956, z956⟩, st956⟩ := X952.specialBackH hx (y := yM33) rfl hown (mvT hZ (hwI hw 22 rfl)) (mvT hZ (hwI hw 23 rfl)) (mvT hZ (hwI hw 25 rfl)) (by decide) (backOfWith (W := 0) (iniCl_ l Z a0 hw [] x a ka v0 v1 v2 v3 c0 wU zc fm h0 n0 O0 P0 P1 P2 P3 P4 P5 P6 P7 hzc P9 P10 P11 P12 hfm P15 P16 P17 ht P19 P20 P21 P22 hE hd hns) hZ (hwI hw 25 rfl) (hwI hw 10 rfl) (by decide) (by decide)) (g := (mkF m 12 #[rV x, rV a, rV wU] [(.int 4), (.int 0), (.ref a), (.ref wU), (.ref x)])) rfl (by rw [hml]; rfl) (Steps.refl _) (a := x) (argsL := [(.ref wU), (.ref a), (.int 0), (.int 4)]) (rest := []) (lenOf pd_41235415 rfl) rfl (by show 2 * 0 + _ ≤ _; exact Nat.le_of_eq rfl) (hb hby d2_12) (fun _ _ => ⟨rfl, e952, (by decide : 0 + 3 ≤ _), (by decide : 0 + 16 ≤ _)⟩)
  dsimp only [Pt.U, Pt.locs, Pt.cells, Pt.slots] at X956 l956 y956 z956 st956 hQ956
  subst l956 y956 z956
  obtain ⟨t_956, kb_956, rfl, N956q, K956, p956_0, p956_1, p956_2, p956_3⟩ := hQ956
  have N956 := Fr.app N951 N956q
  have O956 := O0.keep K956 (allS P3 all0)
  have R957 : Go p e below P T956 (mkF m 15 #[rV x, rV a, rV wU] []) := fun t_ k_ => R955 t_ (st956.trans k_)
  obtain ⟨fs, hr, hrun, hended, hW, hsame⟩ := X956.leave (v := none) (fun _ => rfl)
  exact ⟨_, _, hP _ (R957 _ (X956.returnOut hx Bd.returns (hb hby d2_15) hr)), hrun, hended, _, _, rfl, ⟨t_956, kb_956, rfl, N956, ((Keep.refl h0 [x]).trans K956 (allS (Or.inl (List.mem_of_getElem? (i := 0) rfl)) all0)), p956_0, p956_1, p956_2, p956_3⟩, ⟨_, rfl⟩, hW, hsame.mono (by decide) (by decide)⟩
def Q_decCl_ (Z : State) (a : Addr) (ka : ClassId) (v0 : Int32) (v1 : Int32) (v2 : Int32) (v3 : Int32) (c0 : Int32) (wU : Addr) (zc : Int32) (fm : Value) (h0 : Heap) (n0 : Nat) (rv_ : Option Value) (rh_ : Heap) (rL_ : List Loc) : Prop := ∃ x : Addr, ∃ t : Addr, ∃ kb : ClassId, (rv_ = some (.ref x)) ∧ (Fr n0 rL_) ∧ (Keep h0 rh_ []) ∧ (h0.size ≤ x) ∧ (Exa Z rh_ x "java/lang/String") ∧ (Fld Z rh_ x "java/lang/String" "coder" "B" (.int 1)) ∧ (Fld Z rh_ x "java/lang/String" "value" "[B" (.ref t)) ∧ (Arv Z rh_ t kb .byte (4 : Int32) [(.int (loB c0)), (.int (hiB c0)), (.int (loB v3)), (.int (hiB v3))] (.int 0))
set_option maxRecDepth 65536 in
set_option maxHeartbeats 40000000 in
theorem decCl_ (l : Launch) (Z : State) (a0 : Array Value) (hw : HW Z a0) (ws : List Jvm.Cond) (a : Addr) (ka : ClassId) (v0 : Int32) (v1 : Int32) (v2 : Int32) (v3 : Int32) (c0 : Int32) (wU : Addr) (zc : Int32) (fm : Value) (h0 : Heap) (n0 : Nat) (O0 : Old Z n0 h0) (P0 : Arv Z h0 a ka .byte (4 : Int32) [(.int v0), (.int v1), (.int v2), (.int v3)] (.int 0)) (P1 : Exa Z h0 a "[B") (P2 : sT5 Z (.ref wU)) (P3 : sT0 Z (.int zc)) (P4 : ¬ zc = 0) (P5 : sT2 Z (.int 1)) (P6 : sT3 Z (.int 0)) (P7 : sT4 Z (.int 8)) (P8 : sT1 Z fm) (P9 : fm.isRef = true) (P10 : sT6 Z (.ref wU)) (P11 : Exa Z Z.heap wU "sun/nio/cs/UTF_8") (P12 : v0 < (0 : Int32)) (P13 : ¬ ((v0 &&& (254 : Int32)) = (194 : Int32))) (P14 : ¬ (v3 < (0 : Int32))) (P15 : (v3.toUInt32.toUInt16.toUInt32.toInt32) = v3) (P16 : ¬ ((v0 >>> ((5 : Int32) &&& 31)) = (-2 : Int32))) (P17 : (v0 >>> ((4 : Int32) &&& 31)) = (-2 : Int32)) (P18 : (v1 &&& (192 : Int32)) = (128 : Int32)) (P19 : (v2 &&& (192 : Int32)) = (128 : Int32)) (P20 : v0 = (-32 : Int32) → ¬ (v1 &&& (224 : Int32)) = (128 : Int32)) (P21 : d3 v0 v1 v2 = c0) (P22 : c0 < (55296 : Int32) ∨ ¬ c0 < (57344 : Int32)) :
    MetQ l yM35 (Jvm.Cond.code yM35 prog_5_method_5_code 1 (some (.object "java/lang/String"))) ws (rM 7 4 20 113) Z #[(.ref a)] h0 (Q_decCl_ Z a ka v0 v1 v2 v3 c0 wU zc fm h0 n0) := by
  have hzc := P4
  have hfm := P9
  have ht := P15
  have hE := P20
  have hd := P21
  have hns := P22
  refine metQ (plainFor_of_name pn_4625033) hisR (fun m => ef1_R m a) ?_
  intro p e s m below meth c s₁ P Bd hx hby hml hZ hown hnm X0 e0 hP R0
  have N0 := Fr.nil n0
  obtain ⟨T958, h958, X958, e958, E958, A958, D958, -, st958⟩ := newO X0 hx hZ hown (hwI hw 8 rfl) (hwI hw 9 rfl) (hwI hw 10 rfl) e0 (g := (mkF m 0 #[rV a] [])) rfl (hb hby d1_0) (by decide) (by decide)
  obtain ⟨b958, g958⟩ : ∃ z, z = h0.size := ⟨_, rfl⟩
  rw [← g958] at A958 D958 st958
  have O958 := O0.ext E958
  have F958_50 : Fld Z h958 b958 "java/lang/String" "value" "[B" .null := D958 (Or.inr (hwI hw 50 rfl)) (ty := (.array .byte)) (by decide)
  have F958_52 : Fld Z h958 b958 "java/lang/String" "coder" "B" (.int 0) := D958 (Or.inr (hwI hw 52 rfl)) (ty := .byte) (by decide)
  obtain ⟨T959, X959, e959, st959⟩ := getS2 X958 hx hZ hown (host := "") (Or.inl (hwI hw 11 rfl)) Via.refl e958 (P10.ext O958.2) (g := (mkF m 5 #[rV a] [(.ref a), (.ref b958), (.ref b958)])) rfl (hb hby d1_5)
  have R960 : Go p e below P T959 (mkF m 8 #[rV a] [(.ref wU), (.ref a), (.ref b958), (.ref b958)]) := fun t_ k_ => R0 t_ (st958 t_ (XS.dup X958.here hx rfl (hb hby d1_3) rfl rfl (XS.aloadN X958.here hx rfl (hb hby d1_4) rfl rfl (st959 t_ k_))))
  have f961 := (P0.ext E958)
  have f962 := (P1.ext E958)
  obtain ⟨rv963, _, ⟨T963, L963, k963, n963⟩, -, X963, ⟨Lc963, hQ963, l963, y963, z963⟩, st963⟩ := X959.specialBack hx (y := yM34) rfl hown (mvT hZ (hwI hw 13 rfl)) (mvT hZ (hwI hw 14 rfl)) (mvT hZ (hwI hw 15 rfl)) (by decide) (backOf (W := 1) (injCl_ l Z a0 hw [] b958 a ka v0 v1 v2 v3 c0 wU zc fm h958 n0 O958 A958 F958_50 F958_52 (Nat.le_trans (oldLe O0) (Nat.le_of_eq g958.symm)) f961 f962 P2 P3 hzc P5 P6 P7 P8 hfm P11 P12 P13 P14 ht P16 P17 P18 P19 hE hd hns) hZ (hwI hw 15 rfl) (hwI hw 10 rfl) (by decide) (by decide)) (g := (mkF m 8 #[rV a] [(.ref wU), (.ref a), (.ref b958), (.ref b958)])) rfl (by rw [hml]; rfl) (Steps.refl _) (a := b958) (argsL := [(.ref a), (.ref wU)]) (rest := [(.ref b958)]) (lenOf pd_90622059 rfl) rfl (by show 2 * 0 + _ ≤ _; exact Nat.le_of_eq rfl) (hb hby d1_8) (fun _ _ => ⟨rfl, e959, (by decide : 1 + 3 ≤ _), (by decide : 4 + 16 ≤ _)⟩)
  dsimp only [Pt.U, Pt.locs, Pt.cells, Pt.slots] at X963 l963 y963 z963 st963 hQ963
  subst l963 y963 z963
  obtain ⟨t_963, kb_963, rfl, N963q, K963, p963_0, p963_1, p963_2, p963_3⟩ := hQ963
  have N963 := Fr.app N0 N963q
  have O963 := O958.keep K963 (allS (Nat.le_trans (oldLe O0) (Nat.le_of_eq g958.symm)) all0)
  have R964 : Go p e below P T963 (mkF m 11 #[rV a] [(.ref b958)]) := fun t_ k_ => R960 t_ (st963.trans k_)
  obtain ⟨fs, hr, hrun, hended, hW, hsame⟩ := X963.leave (v := some (.ref b958)) (fun h => by rw [Bd.returns] at h; cases h)
  exact ⟨_, _, hP _ (R964 _ (retOut X963 hx Bd.returns rfl (Or.inr (Or.inr (Or.inr (Or.inr ⟨rfl, rfl, rfl⟩)))) (hb hby d1_11) hr)), hrun, hended, _, _, rfl, ⟨b958, t_963, kb_963, rfl, N963, (((Keep.refl h0 []).ext E958).trans K963 (allS (Or.inr (Nat.le_of_eq g958.symm)) all0)), (Nat.le_of_eq g958.symm), p963_0, p963_1, p963_2, p963_3⟩, ⟨_, rfl⟩, hW, hsame.mono (by decide) (by decide)⟩
def Q_iniCh_ (Z : State) (x : Addr) (a : Addr) (ka : ClassId) (v0 : Int32) (v1 : Int32) (v2 : Int32) (v3 : Int32) (c0 : Int32) (wU : Addr) (zc : Int32) (fm : Value) (h0 : Heap) (n0 : Nat) (rv_ : Option Value) (rh_ : Heap) (rL_ : List Loc) : Prop := ∃ t : Addr, ∃ kb : ClassId, (rv_ = none) ∧ (Fr n0 rL_) ∧ (Keep h0 rh_ [x]) ∧ (Exa Z rh_ x "java/lang/String") ∧ (Fld Z rh_ x "java/lang/String" "coder" "B" (.int 1)) ∧ (Fld Z rh_ x "java/lang/String" "value" "[B" (.ref t)) ∧ (Arv Z rh_ t kb .byte (4 : Int32) [(.int (loB c0)), (.int (hiB c0)), (.int (loB (65533 : Int32))), (.int (hiB (65533 : Int32)))] (.int 0))
set_option maxRecDepth 65536 in
set_option maxHeartbeats 40000000 in
theorem iniCh_ (l : Launch) (Z : State) (a0 : Array Value) (hw : HW Z a0) (ws : List Jvm.Cond) (x : Addr) (a : Addr) (ka : ClassId) (v0 : Int32) (v1 : Int32) (v2 : Int32) (v3 : Int32) (c0 : Int32) (wU : Addr) (zc : Int32) (fm : Value) (h0 : Heap) (n0 : Nat) (O0 : Old Z n0 h0) (P0 : Exa Z h0 x "java/lang/String") (P1 : Fld Z h0 x "java/lang/String" "value" "[B" .null) (P2 : Fld Z h0 x "java/lang/String" "coder" "B" (.int 0)) (P3 : n0 ≤ x) (P4 : Arv Z h0 a ka .byte (4 : Int32) [(.int v0), (.int v1), (.int v2), (.int v3)] (.int 0)) (P5 : Exa Z h0 a "[B") (P6 : sT5 Z (.ref wU)) (P7 : sT0 Z (.int zc)) (P8 : ¬ zc = 0) (P9 : sT2 Z (.int 1)) (P10 : sT3 Z (.int 0)) (P11 : sT4 Z (.int 8)) (P12 : sT1 Z fm) (P13 : fm.isRef = true) (P14 : v0 < (0 : Int32)) (P15 : ¬ ((v0 &&& (254 : Int32)) = (194 : Int32))) (P16 : v3 < (0 : Int32)) (P17 : ¬ ((v0 >>> ((5 : Int32) &&& 31)) = (-2 : Int32))) (P18 : (v0 >>> ((4 : Int32) &&& 31)) = (-2 : Int32)) (P19 : (v1 &&& (192 : Int32)) = (128 : Int32)) (P20 : (v2 &&& (192 : Int32)) = (128 : Int32)) (P21 : v0 = (-32 : Int32) → ¬ (v1 &&& (224 : Int32)) = (128 : Int32)) (P22 : d3 v0 v1 v2 = c0) (P23 : c0 < (55296 : Int32) ∨ ¬ c0 < (57344 : Int32)) :
    MetQ l yM33 (Jvm.Cond.codeWith yM33 jdk_42_method_11_code 11 none [((800 : Nat), (813 : Nat), (816 : Nat), (202 : Nat))]) ws (rM 5 3 16 76) Z #[(.ref x), (.ref wU), (.ref a), (.int 0), (.int 4)] h0 (Q_iniCh_ Z x a ka v0 v1 v2 v3 c0 wU zc fm h0 n0) := by
  have hzc := P8
  have hfm := P13
  have hE := P21
  have hd := P22
  have hns := P23
  refine metQ (plainFor_of_name pn_47582652) hisWith (fun m => ef4_RRRII m x wU a (0 : Int32) (4 : Int32)) ?_
  intro p e s m below meth c s₁ P Bd hx hby hml hZ hown hnm X0 e0 hP R0
  have N0 := Fr.nil n0
  have R965 : Go p e below P s₁ (mkF m 1 #[rV x, rV wU, rV a, iV 0, iV 4, uS, uS, uS, uS, uS, uS] [(.ref x)]) := fun t_ k_ => R0 t_ (XS.aloadN X0.here hx rfl (hb hby d4_0) rfl rfl k_)
  obtain ⟨T966, X966, e966, st966⟩ := initO X0 hx hZ hown (hwI hw 26 rfl) (hwI hw 27 rfl) (hwI hw 28 rfl) e0 (g := (mkF m 1 #[rV x, rV wU, rV a, iV 0, iV 4, uS, uS, uS, uS, uS, uS] [(.ref x)])) rfl (by rw [hml]; rfl) rfl (hb hby d4_1) (by decide) (W := 0) (by show 2 * 0 + _ ≤ _; exact Nat.le_of_eq rfl) (by decide)
  obtain ⟨T967, X967, e967, st967⟩ := getS2 X966 hx hZ hown (host := "") (Or.inl (hwI hw 29 rfl)) Via.refl e966 (P6.ext O0.2) (g := (mkF m 31 #[rV x, rV wU, rV a, iV 0, iV 4, uS, uS, uS, uS, uS, uS] [(.ref wU)])) rfl (hb hby d4_31)
  obtain ⟨T968, X968, e968, st968⟩ := getS2 X967 hx hZ hown (host := "") (Or.inl (hwI hw 31 rfl)) Via.refl e967 (P7.ext O0.2) (g := (mkF m 37 #[rV x, rV wU, rV a, iV 0, iV 4, uS, uS, uS, uS, uS, uS] [])) rfl (hb hby d4_37)
  have R969 : Go p e below P T968 (mkF m 47 #[rV x, rV wU, rV a, iV 0, iV 4, uS, uS, uS, uS, uS, uS] [(.int 4), (.int 0), (.ref a)]) := fun t_ k_ => R965 t_ (st966 t_ (XS.iload X966.here hx rfl (hb hby d4_4) rfl (XS.ifYes X966.here hx rfl (pc0 := 6) (pc' := 30) rfl (hb hby d4_6) rfl ((if0 _ _).trans (feq (by decide : ¬ ((4 : Int32) = (0 : Int32)))).2) (by decide) (by decide) (XS.aloadN X966.here hx rfl (hb hby d4_30) rfl rfl (st967 t_ (Jvm.RoadKit.acmp (g := (mkF m 34 #[rV x, rV wU, rV a, iV 0, iV 4, uS, uS, uS, uS, uS, uS] [(.ref wU), (.ref wU)])) X967 hx rfl rfl rfl (pc0 := 34) (pc' := 37) (same := true) rfl (hb hby d4_34) rfl (decide_eq_true (congrArg Value.ref rfl)) (by decide) (by decide) (st968 t_ (XS.ifNo X968.here hx rfl (hb hby d4_40) rfl ((if0 _ _).trans (feq hzc).1) (XS.aloadN X968.here hx rfl (hb hby d4_43) rfl rfl (XS.iloadN X968.here hx rfl (hb hby d4_44) rfl (XS.iload X968.here hx rfl (hb hby d4_45) rfl k_)))))))))))
  obtain ⟨rv970, T970, Lc970, X970, hQ970, R970⟩ := callQ X968 hx hZ hown e968 R969 (cpos40_ l Z a0 hw [] a ka v0 v1 v2 v3 h0 n0 O0 P4 P14) (hwI hw 32 rfl) (hwI hw 33 rfl) (hwI hw 34 rfl) (hwI hw 35 rfl) [] rfl (by rw [hml]; rfl) (lenOf pd_14998784 rfl) rfl (W := 0) (wR rfl) (hb hby d4_47)
  obtain ⟨rfl, N970q, K970⟩ := hQ970
  have N970 := Fr.app N0 N970q
  have R971 : Go p e below P T970 (mkF m 84 #[rV x, rV wU, rV a, iV 0, iV 4, iV 0, uS, uS, uS, uS, uS] [(.int 4), (.int 0), (.ref a)]) := fun t_ k_ => R970 t_ (XS.istore X970.here hx rfl (hb hby d4_50) rfl (l' := #[rV x, rV wU, rV a, iV 0, iV 4, iV 0, uS, uS, uS, uS, uS]) rfl (XS.iload X970.here hx rfl (hb hby d4_52) rfl (XS.iload X970.here hx rfl (hb hby d4_54) rfl (XS.icmpYes X970.here hx rfl (pc0 := 56) (pc' := 78) rfl (hb hby d4_56) rfl (feq (by decide : ¬ ((0 : Int32) = (4 : Int32)))).2 (by decide) (by decide) (XS.aloadN X970.here hx rfl (hb hby d4_78) rfl rfl (XS.iloadN X970.here hx rfl (hb hby d4_79) rfl (XS.iloadN X970.here hx rfl (hb hby d4_80) rfl (XS.iload X970.here hx rfl (hb hby d4_81) rfl (XS.iadd X970.here hx rfl (hb hby d4_83) rfl k_)))))))))
  obtain ⟨rv972, T972, Lc972, X972, hQ972, R972⟩ := callQ X970 hx hZ hown K970 R971 (cor4_ l Z a0 hw [] a ka v0 v1 v2 v3 h0 n0 O0 P4 P5) (hwI hw 36 rfl) (hwI hw 37 rfl) (hwI hw 38 rfl) (hwI hw 39 rfl) [] rfl (by rw [hml]; rfl) (lenOf pd_64843128 rfl) rfl (W := 0) (wR rfl) (hb hby d4_84)
  obtain ⟨b_972, kb_972, rfl, N972q, K972, p972_0, p972_1⟩ := hQ972
  have N972 := Fr.app N970 N972q
  have O972 := O0.keep K972 all0
  have R973 : Go p e below P T972 (mkF m 107 #[rV x, rV wU, rV a, iV 0, iV 4, iV 0, rV b_972, iV 1, uS, uS, uS] [(.int 0), (.ref b_972)]) := fun t_ k_ => R972 t_ (XS.astore X972.here hx rfl (hb hby d4_87) rfl rfl (l' := #[rV x, rV wU, rV a, iV 0, iV 4, iV 0, rV b_972, uS, uS, uS, uS]) rfl (XS.iload X972.here hx rfl (hb hby d4_89) rfl (XS.istore X972.here hx rfl (hb hby d4_91) rfl (l' := #[rV x, rV wU, rV a, iV 0, iV 4, iV 0, rV b_972, iV 0, uS, uS, uS]) rfl (XS.iload X972.here hx rfl (hb hby d4_93) rfl (XS.iload X972.here hx rfl (hb hby d4_95) rfl (XS.icmpNo X972.here hx rfl (hb hby d4_97) rfl (tlt (by decide : (0 : Int32) < (4 : Int32))).2.1 (XS.aload X972.here hx rfl (hb hby d4_100) rfl rfl (XS.iload X972.here hx rfl (hb hby d4_102) rfl (XS.iinc X972.here hx rfl (hb hby d4_104) rfl (l' := #[rV x, rV wU, rV a, iV 0, iV 4, iV 0, rV b_972, iV ((0 : Int32) + (1 : Int32)), uS, uS, uS]) rfl k_)))))))))
  obtain ⟨cl974, cl974A, cl974q, cl974S, cl974N, cl974H, cl974G⟩ := id p972_1
  have ib975 := inb_of (j := (0 : Int32)) cl974S ⟨by decide, by decide⟩
  have R976 : Go p e below P T972 (mkF m 129 #[rV x, rV wU, rV a, iV 0, iV 4, iV 0, rV b_972, iV 1, iV v0, uS, uS] []) := fun t_ k_ => R973 t_ (apS (X972.baloadBytes hx (v := (.int v0)) (by rw [(rfl : T972.heap = T972.heap)]; exact cl974A.1) (State.isArrayOf_alike hZ.alike cl974A.2.1) cl974A.2.2 ib975 (cl974H.at ib975 rfl) rfl rfl (hb hby d4_107)) (XS.istore X972.here hx rfl (hb hby d4_108) rfl (l' := #[rV x, rV wU, rV a, iV 0, iV 4, iV 0, rV b_972, iV 1, iV v0, uS, uS]) rfl (XS.iload X972.here hx rfl (hb hby d4_110) rfl (XS.ifYes X972.here hx rfl (pc0 := 112) (pc' := 129) rfl (hb hby d4_112) rfl ((if0 _ _).trans (tlt P14).1) (by decide) (by decide) k_))))
  have R977 : Go p e below P T972 (mkF m 228 #[rV x, rV wU, rV a, iV 0, iV 4, iV 0, rV b_972, iV 0, iV v0, uS, uS] [(.int 4)]) := fun t_ k_ => R976 t_ (XS.iload X972.here hx rfl (hb hby d4_129) rfl (XS.sipush X972.here hx rfl (hb hby d4_131) (XS.iand X972.here hx rfl (hb hby d4_134) rfl (XS.sipush X972.here hx rfl (hb hby d4_135) (XS.icmpYes X972.here hx rfl (pc0 := 138) (pc' := 184) rfl (hb hby d4_138) rfl (feq P15).2 (by decide) (by decide) (XS.iinc X972.here hx rfl (hb hby d4_184) rfl (l' := #[rV x, rV wU, rV a, iV 0, iV 4, iV 0, rV b_972, iV ((1 : Int32) + (-1 : Int32)), iV v0, uS, uS]) rfl (XS.goto X972.here hx rfl (pc0 := 187) (pc' := 190) rfl (hb hby d4_187) (by decide) (by decide) (XS.iload X972.here hx rfl (hb hby d4_190) rfl (XS.iload X972.here hx rfl (hb hby d4_192) rfl (XS.icmpYes X972.here hx rfl (pc0 := 194) (pc' := 226) rfl (hb hby d4_194) rfl (feq (by decide : ¬ ((0 : Int32) = (4 : Int32)))).2 (by decide) (by decide) (XS.iload X972.here hx rfl (hb hby d4_226) rfl k_)))))))))))
  obtain ⟨rv978, T978, Lc978, X978, hQ978, R978⟩ := callQ X972 hx hZ hown (rfl : T972.heap = T972.heap) R977 (newB4_ l Z a0 hw []  T972.heap n0 O972) (hwI hw 86 rfl) (hwI hw 87 rfl) (hwI hw 88 rfl) (hwI hw 89 rfl) [] rfl (by rw [hml]; rfl) (lenOf pd_1250628 rfl) rfl (W := 0) (wR rfl) (hb hby d4_228)
  obtain ⟨b_978, kb_978, rfl, N978q, K978, p978_0, p978_1⟩ := hQ978
  have N978 := Fr.app N972 N978q
  have O978 := O972.keep K978 all0
  have R979 : Go p e below P T978 (mkF m 241 #[rV x, rV wU, rV a, iV 0, iV 4, iV 0, rV b_972, iV 0, rV b_978, uS, uS] [(.int 0), (.int 0), (.ref b_978), (.int 0), (.ref b_972)]) := fun t_ k_ => R978 t_ (XS.astore X978.here hx rfl (hb hby d4_231) rfl rfl (l' := #[rV x, rV wU, rV a, iV 0, iV 4, iV 0, rV b_972, iV 0, rV b_978, uS, uS]) rfl (XS.aload X978.here hx rfl (hb hby d4_233) rfl rfl (XS.iconst X978.here hx rfl (hb hby d4_235) (XS.aload X978.here hx rfl (hb hby d4_236) rfl rfl (XS.iconst X978.here hx rfl (hb hby d4_238) (XS.iload X978.here hx rfl (hb hby d4_239) rfl k_))))))
  obtain ⟨rv980, T980, Lc980, X980, hQ980, R980⟩ := callQ X978 hx hZ hown (rfl : T978.heap = T978.heap) R979 (inL0_ l Z a0 hw [] b_972 b_978 kb_978 (8 : Int32) ([(.int 0), (.int 0), (.int 0), (.int 0), (.int 0), (.int 0), (.int 0), (.int 0)]) (4 : Int32) fm T978.heap n0 O978 P12 hfm (by decide) (by decide) p978_1 (by decide)) (hwI hw 94 rfl) (hwI hw 95 rfl) (hwI hw 76 rfl) (hwI hw 96 rfl) [] rfl (by rw [hml]; rfl) (lenOf pd_17825761 rfl) rfl (W := 0) (wR rfl) (hb hby d4_241)
  obtain ⟨rfl, N980q, K980⟩ := hQ980
  have N980 := Fr.app N978 N980q
  have R981 : Go p e below P T980 (mkF m 255 #[rV x, rV wU, rV a, iV 0, iV 4, iV 0, rV b_972, iV 0, rV b_978, uS, uS] [(.int 1), (.int 0), (.ref b_978), (.int 4), (.int 0), (.ref b_972)]) := fun t_ k_ => R980 t_ (XS.aload X980.here hx rfl (hb hby d4_244) rfl rfl (XS.iload X980.here hx rfl (hb hby d4_246) rfl (XS.iload X980.here hx rfl (hb hby d4_248) rfl (XS.aload X980.here hx rfl (hb hby d4_250) rfl rfl (XS.iload X980.here hx rfl (hb hby d4_252) rfl (XS.iconst X980.here hx rfl (hb hby d4_254) k_))))))
  have f982 := (p972_1.keep K978 nin0)
  obtain ⟨rv983, T983, Lc983, X983, hQ983, R983⟩ := callQ X980 hx hZ hown K980 R981 (decU43h_ l Z a0 hw [] b_972 kb_972 v0 v1 v2 v3 b_978 kb_978 ([(.int 0), (.int 0), (.int 0), (.int 0), (.int 0), (.int 0), (.int 0), (.int 0)]) c0 T978.heap n0 O978 P9 P10 P11 f982 p978_1 (Nat.le_trans (oldLe O972) p978_0) (Nat.ne_of_lt (Nat.lt_of_lt_of_le p972_1.lt p978_0)) rfl P16 P14 P17 P18 P19 P20 hE hd hns) (hwI hw 118 rfl) (hwI hw 119 rfl) (hwI hw 10 rfl) (hwI hw 120 rfl) [] rfl (by rw [hml]; rfl) (lenOf pd_22962144 rfl) rfl (W := 0) (wR rfl) (hb hby d4_255)
  obtain ⟨rfl, N983q, K983, p983_0⟩ := hQ983
  have N983 := Fr.app N980 N983q
  have O983 := O978.keep K983 (allS (Nat.le_trans (oldLe O972) p978_0) all0)
  have R984 : Go p e below P T983 (mkF m 260 #[rV x, rV wU, rV a, iV 0, iV 4, iV 2, rV b_972, iV 0, rV b_978, uS, uS] []) := fun t_ k_ => R983 t_ (XS.istore X983.here hx rfl (hb hby d4_258) rfl (l' := #[rV x, rV wU, rV a, iV 0, iV 4, iV 2, rV b_972, iV 0, rV b_978, uS, uS]) rfl k_)
  have Vl985 : Arv Z T983.heap b_978 kb_978 .byte (8 : Int32) [(.int (loB c0)), (.int (hiB c0)), (.int (loB (65533 : Int32))), (.int (hiB (65533 : Int32))), (.int 0), (.int 0), (.int 0), (.int 0)] (.int 0) := p983_0
  have R986 : Go p e below P T983 (mkF m 273 #[rV x, rV wU, rV a, iV 0, iV 4, iV 2, rV b_972, iV 0, rV b_978, uS, uS] [(.int 4), (.ref b_978)]) := fun t_ k_ => R984 t_ (XS.iload X983.here hx rfl (hb hby d4_260) rfl (XS.iload X983.here hx rfl (hb hby d4_262) rfl (XS.icmpNo X983.here hx rfl (hb hby d4_264) rfl (feq (by decide : ¬ ((2 : Int32) = (4 : Int32)))).1 (XS.aload X983.here hx rfl (hb hby d4_267) rfl rfl (XS.iload X983.here hx rfl (hb hby d4_269) rfl (XS.iconst X983.here hx rfl (hb hby d4_271) (XS.ishl X983.here hx rfl (hb hby d4_272) rfl k_)))))))
  obtain ⟨rv987, T987, Lc987, X987, hQ987, R987⟩ := callQ X983 hx hZ hown (rfl : T983.heap = T983.heap) R986 (copy8_4_ l Z a0 hw [] b_978 kb_978 (loB c0) (hiB c0) (loB (65533 : Int32)) (hiB (65533 : Int32)) (0 : Int32) (0 : Int32) (0 : Int32) (0 : Int32) T983.heap n0 O983 Vl985) (hwI hw 156 rfl) (hwI hw 157 rfl) (hwI hw 38 rfl) (hwI hw 158 rfl) [] rfl (by rw [hml]; rfl) (lenOf pd_14456175 rfl) rfl (W := 0) (wR rfl) (hb hby d4_273)
  obtain ⟨b_987, kb_987, rfl, N987q, K987, p987_0, p987_1⟩ := hQ987
  have N987 := Fr.app N983 N987q
  have O987 := O983.keep K987 all0
  have f988 := ((((P0.keep K972).keep K978).keep K983).keep K987)
  have f989 := ((((P1.keep K972 nin0).keep K978 nin0).keep K983 (ninS (Nat.ne_of_lt (Nat.lt_of_lt_of_le (P0.keep K972).lt p978_0)) nin0)).keep K987 nin0)
  obtain ⟨T990, h990, X990, e990, W990, st990⟩ := putF X987 hx hZ hown (host := "") (Or.inl (hwI hw 49 rfl)) Via.refl (rfl : T987.heap = T987.heap) f989 f988 (Or.inr ⟨(hwI hw 50 rfl), rfl, hnm⟩) (hwI hw 9 rfl) (ty := (.array .byte)) (by decide) rfl rfl (g := (mkF m 281 #[rV x, rV wU, rV a, iV 0, iV 4, iV 2, rV b_972, iV 0, rV b_987, uS, uS] [(.ref b_987), (.ref x)])) rfl rfl (hb hby d4_281)
  have N990 := Fr.snoc X990 N987 P3
  have Fw990 := f989.same W990
  have O990 := O987.wr W990 P3
  have f991 := (f988.wr W990)
  have f992 := (((((P2.keep K972 nin0).keep K978 nin0).keep K983 (ninS (Nat.ne_of_lt (Nat.lt_of_lt_of_le (P0.keep K972).lt p978_0)) nin0)).keep K987 nin0).other W990 (Or.inr (slot_ne (Or.inr (hwI hw 52 rfl)) (Or.inr (hwI hw 50 rfl)) (by decide) (t := .byte) (t' := (.array .byte)) (by decide) (by decide))))
  obtain ⟨T993, h993, X993, e993, W993, st993⟩ := putFN X990 hx hZ hown (hwI hw 51 rfl) Via.refl e990 f992 f991 (Or.inr ⟨(hwI hw 52 rfl), rfl, hnm⟩) (hwI hw 9 rfl) (ty := .byte) (v' := (.int 1)) (by decide) rfl rfl (g := (mkF m 286 #[rV x, rV wU, rV a, iV 0, iV 4, iV 2, rV b_972, iV 0, rV b_987, uS, uS] [(.int 1), (.ref x)])) rfl rfl (hb hby d4_286)
  have N993 := Fr.snoc X993 N990 P3
  have Fw993 := f992.same W993
  have O993 := O990.wr W993 P3
  have R994 : Go p e below P T993 (mkF m 879 #[rV x, rV wU, rV a, iV 0, iV 4, iV 2, rV b_972, iV 0, rV b_987, uS, uS] []) := fun t_ k_ => R987 t_ (XS.astore X987.here hx rfl (hb hby d4_276) rfl rfl (l' := #[rV x, rV wU, rV a, iV 0, iV 4, iV 2, rV b_972, iV 0, rV b_987, uS, uS]) rfl (XS.aloadN X987.here hx rfl (hb hby d4_278) rfl rfl (XS.aload X987.here hx rfl (hb hby d4_279) rfl rfl (st990 t_ (XS.aloadN X990.here hx rfl (hb hby d4_284) rfl rfl (XS.iconst X990.here hx rfl (hb hby d4_285) (st993 t_ (XS.goto X993.here hx rfl (pc0 := 289) (pc' := 879) rfl (hb hby d4_289) (by decide) (by decide) k_))))))))
  obtain ⟨fs, hr, hrun, hended, hW, hsame⟩ := X993.leave (v := none) (fun _ => rfl)
  have f995 := (f991.wr W993)
  have f996 := (Fw990.other W993 (Or.inr (slot_ne (Or.inr (hwI hw 50 rfl)) (Or.inr (hwI hw 52 rfl)) (by decide) (t := (.array .byte)) (t' := .byte) (by decide) (by decide))))
  have f997 := ((p987_1.other W990 (Ne.symm (Nat.ne_of_lt (Nat.lt_of_lt_of_le (((P0.keep K972).keep K978).keep K983).lt p987_0)))).other W993 (Ne.symm (Nat.ne_of_lt (Nat.lt_of_lt_of_le (((P0.keep K972).keep K978).keep K983).lt p987_0))))
  exact ⟨_, _, hP _ (R994 _ (X993.returnOut hx Bd.returns (hb hby d4_879) hr)), hrun, hended, _, _, rfl, ⟨b_987, kb_987, rfl, N993, (e993.symm ▸ (((((((Keep.refl h0 [x]).trans K972 all0).trans K978 all0).trans K983 (allS (Or.inr (Nat.le_trans ((Keep.refl h0 [x]).trans K972 all0).1 p978_0)) all0)).trans K987 all0).wr W990 (Or.inl (List.mem_of_getElem? (i := 0) rfl))).wr W993 (Or.inl (List.mem_of_getElem? (i := 0) rfl)))), (e993.symm ▸ f995), (e993.symm ▸ Fw993), (e993.symm ▸ f996), (e993.symm ▸ f997)⟩, ⟨_, rfl⟩, hW, hsame.mono (by decide) (by decide)⟩
def Q_injCh_ (Z : State) (x : Addr) (a : Addr) (ka : ClassId) (v0 : Int32) (v1 : Int32) (v2 : Int32) (v3 : Int32) (c0 : Int32) (wU : Addr) (zc : Int32) (fm : Value) (h0 : Heap) (n0 : Nat) (rv_ : Option Value) (rh_ : Heap) (rL_ : List Loc) : Prop := ∃ t : Addr, ∃ kb : ClassId, (rv_ = none) ∧ (Fr n0 rL_) ∧ (Keep h0 rh_ [x]) ∧ (Exa Z rh_ x "java/lang/String") ∧ (Fld Z rh_ x "java/lang/String" "coder" "B" (.int 1)) ∧ (Fld Z rh_ x "java/lang/String" "value" "[B" (.ref t)) ∧ (Arv Z rh_ t kb .byte (4 : Int32) [(.int (loB c0)), (.int (hiB c0)), (.int (loB (65533 : Int32))), (.int (hiB (65533 : Int32)))] (.int 0))
set_option maxRecDepth 65536 in
set_option maxHeartbeats 40000000 in
theorem injCh_ (l : Launch) (Z : State) (a0 : Array Value) (hw : HW Z a0) (ws : List Jvm.Cond) (x : Addr) (a : Addr) (ka : ClassId) (v0 : Int32) (v1 : Int32) (v2 : Int32) (v3 : Int32) (c0 : Int32) (wU : Addr) (zc : Int32) (fm : Value) (h0 : Heap) (n0 : Nat) (O0 : Old Z n0 h0) (P0 : Exa Z h0 x "java/lang/String") (P1 : Fld Z h0 x "java/lang/String" "value" "[B" .null) (P2 : Fld Z h0 x "java/lang/String" "coder" "B" (.int 0)) (P3 : n0 ≤ x) (P4 : Arv Z h0 a ka .byte (4 : Int32) [(.int v0), (.int v1), (.int v2), (.int v3)] (.int 0)) (P5 : Exa Z h0 a "[B") (P6 : sT5 Z (.ref wU)) (P7 : sT0 Z (.int zc)) (P8 : ¬ zc = 0) (P9 : sT2 Z (.int 1)) (P10 : sT3 Z (.int 0)) (P11 : sT4 Z (.int 8)) (P12 : sT1 Z fm) (P13 : fm.isRef = true) (P14 : Exa Z Z.heap wU "sun/nio/cs/UTF_8") (P15 : v0 < (0 : Int32)) (P16 : ¬ ((v0 &&& (254 : Int32)) = (194 : Int32))) (P17 : v3 < (0 : Int32)) (P18 : ¬ ((v0 >>> ((5 : Int32) &&& 31)) = (-2 : Int32))) (P19 : (v0 >>> ((4 : Int32) &&& 31)) = (-2 : Int32)) (P20 : (v1 &&& (192 : Int32)) = (128 : Int32)) (P21 : (v2 &&& (192 : Int32)) = (128 : Int32)) (P22 : v0 = (-32 : Int32) → ¬ (v1 &&& (224 : Int32)) = (128 : Int32)) (P23 : d3 v0 v1 v2 = c0) (P24 : c0 < (55296 : Int32) ∨ ¬ c0 < (57344 : Int32)) :
    MetQ l yM34 (Jvm.Cond.code yM34 jdk_42_method_49_code 3 none) ws (rM 6 3 16 98) Z #[(.ref x), (.ref a), (.ref wU)] h0 (Q_injCh_ Z x a ka v0 v1 v2 v3 c0 wU zc fm h0 n0) := by
  have hzc := P8
  have hfm := P13
  have hE := P22
  have hd := P23
  have hns := P24
  refine metQ (plainFor_of_name pn_47582652) hisR (fun m => ef2_RRR m x a wU) ?_
  intro p e s m below meth c s₁ P Bd hx hby hml hZ hown hnm X0 e0 hP R0
  have N0 := Fr.nil n0
  have R998 : Go p e below P s₁ (mkF m 2 #[rV x, rV a, rV wU] [(.ref wU), (.ref x)]) := fun t_ k_ => R0 t_ (XS.aloadN X0.here hx rfl (hb hby d2_0) rfl rfl (XS.aloadN X0.here hx rfl (hb hby d2_1) rfl rfl k_))
  obtain ⟨rv999, T999, Lc999, X999, hQ999, R999⟩ := callQ X0 hx hZ hown e0 R998 (rnn_ l Z a0 hw [] wU h0 n0 O0) (hwI hw 16 rfl) (hwI hw 17 rfl) (hwI hw 18 rfl) (hwI hw 19 rfl) [(.ref x)] rfl (by rw [hml]; rfl) (lenOf pd_72566344 rfl) rfl (W := 1) (wR rfl) (hb hby d2_2)
  obtain ⟨rfl, N999q, K999⟩ := hQ999
  have N999 := Fr.app N0 N999q
  obtain ⟨T1000, X1000, e1000, st1000⟩ := castY X999 hx hZ hown (hwI hw 20 rfl) K999 (Ins.of_exa (P14.ext O0.2) (hwI hw 21 rfl)) (g := (mkF m 5 #[rV x, rV a, rV wU] [(.ref wU), (.ref x)])) rfl rfl (hb hby d2_5)
  have R1001 : Go p e below P T1000 (mkF m 11 #[rV x, rV a, rV wU] [(.ref a), (.int 0), (.ref a), (.ref wU), (.ref x)]) := fun t_ k_ => R999 t_ (st1000 t_ (XS.aloadN X1000.here hx rfl (hb hby d2_8) rfl rfl (XS.iconst X1000.here hx rfl (hb hby d2_9) (XS.aloadN X1000.here hx rfl (hb hby d2_10) rfl rfl k_))))
  obtain ⟨cl1002, cl1002A, -, cl1002S, cl1002N, -, -⟩ := id P4
  have R1003 : Go p e below P T1000 (mkF m 12 #[rV x, rV a, rV wU] [(.int 4), (.int 0), (.ref a), (.ref wU), (.ref x)]) := fun t_ k_ => R1001 t_ (X1000.arraylength hx (by rw [e1000]; exact cl1002A.1) (State.isArrayOf_alike hZ.alike cl1002A.2.1) (g := (mkF m 11 #[rV x, rV a, rV wU] [(.ref a), (.int 0), (.ref a), (.ref wU), (.ref x)])) rfl rfl (hb hby d2_11) t_ (by rw [len_of cl1002S cl1002N]; exact k_))
  obtain ⟨rv1004, _, ⟨T1004, L1004, k1004, n1004⟩, -, X1004, ⟨Lc1004, hQ1004, l1004, y1004, z1004⟩, st1004⟩ := X1000.specialBackH hx (y := yM33) rfl hown (mvT hZ (hwI hw 22 rfl)) (mvT hZ (hwI hw 23 rfl)) (mvT hZ (hwI hw 25 rfl)) (by decide) (backOfWith (W := 0) (iniCh_ l Z a0 hw [] x a ka v0 v1 v2 v3 c0 wU zc fm h0 n0 O0 P0 P1 P2 P3 P4 P5 P6 P7 hzc P9 P10 P11 P12 hfm P15 P16 P17 P18 P19 P20 P21 hE hd hns) hZ (hwI hw 25 rfl) (hwI hw 10 rfl) (by decide) (by decide)) (g := (mkF m 12 #[rV x, rV a, rV wU] [(.int 4), (.int 0), (.ref a), (.ref wU), (.ref x)])) rfl (by rw [hml]; rfl) (Steps.refl _) (a := x) (argsL := [(.ref wU), (.ref a), (.int 0), (.int 4)]) (rest := []) (lenOf pd_41235415 rfl) rfl (by show 2 * 0 + _ ≤ _; exact Nat.le_of_eq rfl) (hb hby d2_12) (fun _ _ => ⟨rfl, e1000, (by decide : 0 + 3 ≤ _), (by decide : 0 + 16 ≤ _)⟩)
  dsimp only [Pt.U, Pt.locs, Pt.cells, Pt.slots] at X1004 l1004 y1004 z1004 st1004 hQ1004
  subst l1004 y1004 z1004
  obtain ⟨t_1004, kb_1004, rfl, N1004q, K1004, p1004_0, p1004_1, p1004_2, p1004_3⟩ := hQ1004
  have N1004 := Fr.app N999 N1004q
  have O1004 := O0.keep K1004 (allS P3 all0)
  have R1005 : Go p e below P T1004 (mkF m 15 #[rV x, rV a, rV wU] []) := fun t_ k_ => R1003 t_ (st1004.trans k_)
  obtain ⟨fs, hr, hrun, hended, hW, hsame⟩ := X1004.leave (v := none) (fun _ => rfl)
  exact ⟨_, _, hP _ (R1005 _ (X1004.returnOut hx Bd.returns (hb hby d2_15) hr)), hrun, hended, _, _, rfl, ⟨t_1004, kb_1004, rfl, N1004, ((Keep.refl h0 [x]).trans K1004 (allS (Or.inl (List.mem_of_getElem? (i := 0) rfl)) all0)), p1004_0, p1004_1, p1004_2, p1004_3⟩, ⟨_, rfl⟩, hW, hsame.mono (by decide) (by decide)⟩
def Q_decCh_ (Z : State) (a : Addr) (ka : ClassId) (v0 : Int32) (v1 : Int32) (v2 : Int32) (v3 : Int32) (c0 : Int32) (wU : Addr) (zc : Int32) (fm : Value) (h0 : Heap) (n0 : Nat) (rv_ : Option Value) (rh_ : Heap) (rL_ : List Loc) : Prop := ∃ x : Addr, ∃ t : Addr, ∃ kb : ClassId, (rv_ = some (.ref x)) ∧ (Fr n0 rL_) ∧ (Keep h0 rh_ []) ∧ (h0.size ≤ x) ∧ (Exa Z rh_ x "java/lang/String") ∧ (Fld Z rh_ x "java/lang/String" "coder" "B" (.int 1)) ∧ (Fld Z rh_ x "java/lang/String" "value" "[B" (.ref t)) ∧ (Arv Z rh_ t kb .byte (4 : Int32) [(.int (loB c0)), (.int (hiB c0)), (.int (loB (65533 : Int32))), (.int (hiB (65533 : Int32)))] (.int 0))
set_option maxRecDepth 65536 in
set_option maxHeartbeats 40000000 in
theorem decCh_ (l : Launch) (Z : State) (a0 : Array Value) (hw : HW Z a0) (ws : List Jvm.Cond) (a : Addr) (ka : ClassId) (v0 : Int32) (v1 : Int32) (v2 : Int32) (v3 : Int32) (c0 : Int32) (wU : Addr) (zc : Int32) (fm : Value) (h0 : Heap) (n0 : Nat) (O0 : Old Z n0 h0) (P0 : Arv Z h0 a ka .byte (4 : Int32) [(.int v0), (.int v1), (.int v2), (.int v3)] (.int 0)) (P1 : Exa Z h0 a "[B") (P2 : sT5 Z (.ref wU)) (P3 : sT0 Z (.int zc)) (P4 : ¬ zc = 0) (P5 : sT2 Z (.int 1)) (P6 : sT3 Z (.int 0)) (P7 : sT4 Z (.int 8)) (P8 : sT1 Z fm) (P9 : fm.isRef = true) (P10 : sT6 Z (.ref wU)) (P11 : Exa Z Z.heap wU "sun/nio/cs/UTF_8") (P12 : v0 < (0 : Int32)) (P13 : ¬ ((v0 &&& (254 : Int32)) = (194 : Int32))) (P14 : v3 < (0 : Int32)) (P15 : ¬ ((v0 >>> ((5 : Int32) &&& 31)) = (-2 : Int32))) (P16 : (v0 >>> ((4 : Int32) &&& 31)) = (-2 : Int32)) (P17 : (v1 &&& (192 : Int32)) = (128 : Int32)) (P18 : (v2 &&& (192 : Int32)) = (128 : Int32)) (P19 : v0 = (-32 : Int32) → ¬ (v1 &&& (224 : Int32)) = (128 : Int32)) (P20 : d3 v0 v1 v2 = c0) (P21 : c0 < (55296 : Int32) ∨ ¬ c0 < (57344 : Int32)) :
    MetQ l yM35 (Jvm.Cond.code yM35 prog_5_method_5_code 1 (some (.object "java/lang/String"))) ws (rM 7 4 20 113) Z #[(.ref a)] h0 (Q_decCh_ Z a ka v0 v1 v2 v3 c0 wU zc fm h0 n0) := by
  have hzc := P4
  have hfm := P9
  have hE := P19
  have hd := P20
  have hns := P21
  refine metQ (plainFor_of_name pn_4625033) hisR (fun m => ef1_R m a) ?_
  intro p e s m below meth c s₁ P Bd hx hby hml hZ hown hnm X0 e0 hP R0
  have N0 := Fr.nil n0
  obtain ⟨T1006, h1006, X1006, e1006, E1006, A1006, D1006, -, st1006⟩ := newO X0 hx hZ hown (hwI hw 8 rfl) (hwI hw 9 rfl) (hwI hw 10 rfl) e0 (g := (mkF m 0 #[rV a] [])) rfl (hb hby d1_0) (by decide) (by decide)
  obtain ⟨b1006, g1006⟩ : ∃ z, z = h0.size := ⟨_, rfl⟩
  rw [← g1006] at A1006 D1006 st1006
  have O1006 := O0.ext E1006
  have F1006_50 : Fld Z h1006 b1006 "java/lang/String" "value" "[B" .null := D1006 (Or.inr (hwI hw 50 rfl)) (ty := (.array .byte)) (by decide)
  have F1006_52 : Fld Z h1006 b1006 "java/lang/String" "coder" "B" (.int 0) := D1006 (Or.inr (hwI hw 52 rfl)) (ty := .byte) (by decide)
  obtain ⟨T1007, X1007, e1007, st1007⟩ := getS2 X1006 hx hZ hown (host := "") (Or.inl (hwI hw 11 rfl)) Via.refl e1006 (P10.ext O1006.2) (g := (mkF m 5 #[rV a] [(.ref a), (.ref b1006), (.ref b1006)])) rfl (hb hby d1_5)
  have R1008 : Go p e below P T1007 (mkF m 8 #[rV a] [(.ref wU), (.ref a), (.ref b1006), (.ref b1006)]) := fun t_ k_ => R0 t_ (st1006 t_ (XS.dup X1006.here hx rfl (hb hby d1_3) rfl rfl (XS.aloadN X1006.here hx rfl (hb hby d1_4) rfl rfl (st1007 t_ k_))))
  have f1009 := (P0.ext E1006)
  have f1010 := (P1.ext E1006)
  obtain ⟨rv1011, _, ⟨T1011, L1011, k1011, n1011⟩, -, X1011, ⟨Lc1011, hQ1011, l1011, y1011, z1011⟩, st1011⟩ := X1007.specialBack hx (y := yM34) rfl hown (mvT hZ (hwI hw 13 rfl)) (mvT hZ (hwI hw 14 rfl)) (mvT hZ (hwI hw 15 rfl)) (by decide) (backOf (W := 1) (injCh_ l Z a0 hw [] b1006 a ka v0 v1 v2 v3 c0 wU zc fm h1006 n0 O1006 A1006 F1006_50 F1006_52 (Nat.le_trans (oldLe O0) (Nat.le_of_eq g1006.symm)) f1009 f1010 P2 P3 hzc P5 P6 P7 P8 hfm P11 P12 P13 P14 P15 P16 P17 P18 hE hd hns) hZ (hwI hw 15 rfl) (hwI hw 10 rfl) (by decide) (by decide)) (g := (mkF m 8 #[rV a] [(.ref wU), (.ref a), (.ref b1006), (.ref b1006)])) rfl (by rw [hml]; rfl) (Steps.refl _) (a := b1006) (argsL := [(.ref a), (.ref wU)]) (rest := [(.ref b1006)]) (lenOf pd_90622059 rfl) rfl (by show 2 * 0 + _ ≤ _; exact Nat.le_of_eq rfl) (hb hby d1_8) (fun _ _ => ⟨rfl, e1007, (by decide : 1 + 3 ≤ _), (by decide : 4 + 16 ≤ _)⟩)
  dsimp only [Pt.U, Pt.locs, Pt.cells, Pt.slots] at X1011 l1011 y1011 z1011 st1011 hQ1011
  subst l1011 y1011 z1011
  obtain ⟨t_1011, kb_1011, rfl, N1011q, K1011, p1011_0, p1011_1, p1011_2, p1011_3⟩ := hQ1011
  have N1011 := Fr.app N0 N1011q
  have O1011 := O1006.keep K1011 (allS (Nat.le_trans (oldLe O0) (Nat.le_of_eq g1006.symm)) all0)
  have R1012 : Go p e below P T1011 (mkF m 11 #[rV a] [(.ref b1006)]) := fun t_ k_ => R1008 t_ (st1011.trans k_)
  obtain ⟨fs, hr, hrun, hended, hW, hsame⟩ := X1011.leave (v := some (.ref b1006)) (fun h => by rw [Bd.returns] at h; cases h)
  exact ⟨_, _, hP _ (R1012 _ (retOut X1011 hx Bd.returns rfl (Or.inr (Or.inr (Or.inr (Or.inr ⟨rfl, rfl, rfl⟩)))) (hb hby d1_11) hr)), hrun, hended, _, _, rfl, ⟨b1006, t_1011, kb_1011, rfl, N1011, (((Keep.refl h0 []).ext E1006).trans K1011 (allS (Or.inr (Nat.le_of_eq g1006.symm)) all0)), (Nat.le_of_eq g1006.symm), p1011_0, p1011_1, p1011_2, p1011_3⟩, ⟨_, rfl⟩, hW, hsame.mono (by decide) (by decide)⟩
def Q_iniDl_ (Z : State) (x : Addr) (a : Addr) (ka : ClassId) (v0 : Int32) (v1 : Int32) (v2 : Int32) (v3 : Int32) (v4 : Int32) (c0 : Int32) (c1 : Int32) (cp : Int32) (wU : Addr) (zc : Int32) (fm : Value) (h0 : Heap) (n0 : Nat) (rv_ : Option Value) (rh_ : Heap) (rL_ : List Loc) : Prop := ∃ t : Addr, ∃ kb : ClassId, (rv_ = none) ∧ (Fr n0 rL_) ∧ (Keep h0 rh_ [x]) ∧ (Exa Z rh_ x "java/lang/String") ∧ (Fld Z rh_ x "java/lang/String" "coder" "B" (.int 1)) ∧ (Fld Z rh_ x "java/lang/String" "value" "[B" (.ref t)) ∧ (Arv Z rh_ t kb .byte (6 : Int32) [(.int (loB c0)), (.int (hiB c0)), (.int (loB c1)), (.int (hiB c1)), (.int (loB v4)), (.int (hiB v4))] (.int 0))
set_option maxRecDepth 65536 in
set_option maxHeartbeats 40000000 in
theorem iniDl_ (l : Launch) (Z : State) (a0 : Array Value) (hw : HW Z a0) (ws : List Jvm.Cond) (x : Addr) (a : Addr) (ka : ClassId) (v0 : Int32) (v1 : Int32) (v2 : Int32) (v3 : Int32) (v4 : Int32) (c0 : Int32) (c1 : Int32) (cp : Int32) (wU : Addr) (zc : Int32) (fm : Value) (h0 : Heap) (n0 : Nat) (O0 : Old Z n0 h0) (P0 : Exa Z h0 x "java/lang/String") (P1 : Fld Z h0 x "java/lang/String" "value" "[B" .null) (P2 : Fld Z h0 x "java/lang/String" "coder" "B" (.int 0)) (P3 : n0 ≤ x) (P4 : Arv Z h0 a ka .byte (5 : Int32) [(.int v0), (.int v1), (.int v2), (.int v3), (.int v4)] (.int 0)) (P5 : Exa Z h0 a "[B") (P6 : sT5 Z (.ref wU)) (P7 : sT0 Z (.int zc)) (P8 : ¬ zc = 0) (P9 : sT2 Z (.int 1)) (P10 : sT3 Z (.int 0)) (P11 : sT4 Z (.int 8)) (P12 : sT1 Z fm) (P13 : fm.isRef = true) (P14 : v0 < (0 : Int32)) (P15 : ¬ ((v0 &&& (254 : Int32)) = (194 : Int32))) (P16 : ¬ (v4 < (0 : Int32))) (P17 : (v4.toUInt32.toUInt16.toUInt32.toInt32) = v4) (P18 : ¬ ((v0 >>> ((5 : Int32) &&& 31)) = (-2 : Int32))) (P19 : ¬ ((v0 >>> ((4 : Int32) &&& 31)) = (-2 : Int32))) (P20 : (v0 >>> ((3 : Int32) &&& 31)) = (-2 : Int32)) (P21 : (v1 &&& (192 : Int32)) = (128 : Int32)) (P22 : (v2 &&& (192 : Int32)) = (128 : Int32)) (P23 : (v3 &&& (192 : Int32)) = (128 : Int32)) (P24 : d4 v0 v1 v2 v3 = cp) (P25 : ¬ (cp < (65536 : Int32))) (P26 : cp < (1114112 : Int32)) (P27 : hiS cp = c0) (P28 : loS cp = c1) :
    MetQ l yM33 (Jvm.Cond.codeWith yM33 jdk_42_method_11_code 11 none [((800 : Nat), (813 : Nat), (816 : Nat), (202 : Nat))]) ws (rM 5 3 21 76) Z #[(.ref x), (.ref wU), (.ref a), (.int 0), (.int 5)] h0 (Q_iniDl_ Z x a ka v0 v1 v2 v3 v4 c0 c1 cp wU zc fm h0 n0) := by
  have hzc := P8
  have hfm := P13
  have ht := P17
  have hd := P24
  have hh := P27
  have hlo := P28
  refine metQ (plainFor_of_name pn_47582652) hisWith (fun m => ef4_RRRII m x wU a (0 : Int32) (5 : Int32)) ?_
  intro p e s m below meth c s₁ P Bd hx hby hml hZ hown hnm X0 e0 hP R0
  have N0 := Fr.nil n0
  have R1013 : Go p e below P s₁ (mkF m 1 #[rV x, rV wU, rV a, iV 0, iV 5, uS, uS, uS, uS, uS, uS] [(.ref x)]) := fun t_ k_ => R0 t_ (XS.aloadN X0.here hx rfl (hb hby d4_0) rfl rfl k_)
  obtain ⟨T1014, X1014, e1014, st1014⟩ := initO X0 hx hZ hown (hwI hw 26 rfl) (hwI hw 27 rfl) (hwI hw 28 rfl) e0 (g := (mkF m 1 #[rV x, rV wU, rV a, iV 0, iV 5, uS, uS, uS, uS, uS, uS] [(.ref x)])) rfl (by rw [hml]; rfl) rfl (hb hby d4_1) (by decide) (W := 0) (by show 2 * 0 + _ ≤ _; exact Nat.le_of_eq rfl) (by decide)
  obtain ⟨T1015, X1015, e1015, st1015⟩ := getS2 X1014 hx hZ hown (host := "") (Or.inl (hwI hw 29 rfl)) Via.refl e1014 (P6.ext O0.2) (g := (mkF m 31 #[rV x, rV wU, rV a, iV 0, iV 5, uS, uS, uS, uS, uS, uS] [(.ref wU)])) rfl (hb hby d4_31)
  obtain ⟨T1016, X1016, e1016, st1016⟩ := getS2 X1015 hx hZ hown (host := "") (Or.inl (hwI hw 31 rfl)) Via.refl e1015 (P7.ext O0.2) (g := (mkF m 37 #[rV x, rV wU, rV a, iV 0, iV 5, uS, uS, uS, uS, uS, uS] [])) rfl (hb hby d4_37)
  have R1017 : Go p e below P T1016 (mkF m 47 #[rV x, rV wU, rV a, iV 0, iV 5, uS, uS, uS, uS, uS, uS] [(.int 5), (.int 0), (.ref a)]) := fun t_ k_ => R1013 t_ (st1014 t_ (XS.iload X1014.here hx rfl (hb hby d4_4) rfl (XS.ifYes X1014.here hx rfl (pc0 := 6) (pc' := 30) rfl (hb hby d4_6) rfl ((if0 _ _).trans (feq (by decide : ¬ ((5 : Int32) = (0 : Int32)))).2) (by decide) (by decide) (XS.aloadN X1014.here hx rfl (hb hby d4_30) rfl rfl (st1015 t_ (Jvm.RoadKit.acmp (g := (mkF m 34 #[rV x, rV wU, rV a, iV 0, iV 5, uS, uS, uS, uS, uS, uS] [(.ref wU), (.ref wU)])) X1015 hx rfl rfl rfl (pc0 := 34) (pc' := 37) (same := true) rfl (hb hby d4_34) rfl (decide_eq_true (congrArg Value.ref rfl)) (by decide) (by decide) (st1016 t_ (XS.ifNo X1016.here hx rfl (hb hby d4_40) rfl ((if0 _ _).trans (feq hzc).1) (XS.aloadN X1016.here hx rfl (hb hby d4_43) rfl rfl (XS.iloadN X1016.here hx rfl (hb hby d4_44) rfl (XS.iload X1016.here hx rfl (hb hby d4_45) rfl k_)))))))))))
  obtain ⟨rv1018, T1018, Lc1018, X1018, hQ1018, R1018⟩ := callQ X1016 hx hZ hown e1016 R1017 (cpos50_ l Z a0 hw [] a ka v0 v1 v2 v3 v4 h0 n0 O0 P4 P14) (hwI hw 32 rfl) (hwI hw 33 rfl) (hwI hw 34 rfl) (hwI hw 35 rfl) [] rfl (by rw [hml]; rfl) (lenOf pd_14998784 rfl) rfl (W := 0) (wR rfl) (hb hby d4_47)
  obtain ⟨rfl, N1018q, K1018⟩ := hQ1018
  have N1018 := Fr.app N0 N1018q
  have R1019 : Go p e below P T1018 (mkF m 84 #[rV x, rV wU, rV a, iV 0, iV 5, iV 0, uS, uS, uS, uS, uS] [(.int 5), (.int 0), (.ref a)]) := fun t_ k_ => R1018 t_ (XS.istore X1018.here hx rfl (hb hby d4_50) rfl (l' := #[rV x, rV wU, rV a, iV 0, iV 5, iV 0, uS, uS, uS, uS, uS]) rfl (XS.iload X1018.here hx rfl (hb hby d4_52) rfl (XS.iload X1018.here hx rfl (hb hby d4_54) rfl (XS.icmpYes X1018.here hx rfl (pc0 := 56) (pc' := 78) rfl (hb hby d4_56) rfl (feq (by decide : ¬ ((0 : Int32) = (5 : Int32)))).2 (by decide) (by decide) (XS.aloadN X1018.here hx rfl (hb hby d4_78) rfl rfl (XS.iloadN X1018.here hx rfl (hb hby d4_79) rfl (XS.iloadN X1018.here hx rfl (hb hby d4_80) rfl (XS.iload X1018.here hx rfl (hb hby d4_81) rfl (XS.iadd X1018.here hx rfl (hb hby d4_83) rfl k_)))))))))
  obtain ⟨rv1020, T1020, Lc1020, X1020, hQ1020, R1020⟩ := callQ X1018 hx hZ hown K1018 R1019 (cor5_ l Z a0 hw [] a ka v0 v1 v2 v3 v4 h0 n0 O0 P4 P5) (hwI hw 36 rfl) (hwI hw 37 rfl) (hwI hw 38 rfl) (hwI hw 39 rfl) [] rfl (by rw [hml]; rfl) (lenOf pd_64843128 rfl) rfl (W := 0) (wR rfl) (hb hby d4_84)
  obtain ⟨b_1020, kb_1020, rfl, N1020q, K1020, p1020_0, p1020_1⟩ := hQ1020
  have N1020 := Fr.app N1018 N1020q
  have O1020 := O0.keep K1020 all0
  have R1021 : Go p e below P T1020 (mkF m 107 #[rV x, rV wU, rV a, iV 0, iV 5, iV 0, rV b_1020, iV 1, uS, uS, uS] [(.int 0), (.ref b_1020)]) := fun t_ k_ => R1020 t_ (XS.astore X1020.here hx rfl (hb hby d4_87) rfl rfl (l' := #[rV x, rV wU, rV a, iV 0, iV 5, iV 0, rV b_1020, uS, uS, uS, uS]) rfl (XS.iload X1020.here hx rfl (hb hby d4_89) rfl (XS.istore X1020.here hx rfl (hb hby d4_91) rfl (l' := #[rV x, rV wU, rV a, iV 0, iV 5, iV 0, rV b_1020, iV 0, uS, uS, uS]) rfl (XS.iload X1020.here hx rfl (hb hby d4_93) rfl (XS.iload X1020.here hx rfl (hb hby d4_95) rfl (XS.icmpNo X1020.here hx rfl (hb hby d4_97) rfl (tlt (by decide : (0 : Int32) < (5 : Int32))).2.1 (XS.aload X1020.here hx rfl (hb hby d4_100) rfl rfl (XS.iload X1020.here hx rfl (hb hby d4_102) rfl (XS.iinc X1020.here hx rfl (hb hby d4_104) rfl (l' := #[rV x, rV wU, rV a, iV 0, iV 5, iV 0, rV b_1020, iV ((0 : Int32) + (1 : Int32)), uS, uS, uS]) rfl k_)))))))))
  obtain ⟨cl1022, cl1022A, cl1022q, cl1022S, cl1022N, cl1022H, cl1022G⟩ := id p1020_1
  have ib1023 := inb_of (j := (0 : Int32)) cl1022S ⟨by decide, by decide⟩
  have R1024 : Go p e below P T1020 (mkF m 129 #[rV x, rV wU, rV a, iV 0, iV 5, iV 0, rV b_1020, iV 1, iV v0, uS, uS] []) := fun t_ k_ => R1021 t_ (apS (X1020.baloadBytes hx (v := (.int v0)) (by rw [(rfl : T1020.heap = T1020.heap)]; exact cl1022A.1) (State.isArrayOf_alike hZ.alike cl1022A.2.1) cl1022A.2.2 ib1023 (cl1022H.at ib1023 rfl) rfl rfl (hb hby d4_107)) (XS.istore X1020.here hx rfl (hb hby d4_108) rfl (l' := #[rV x, rV wU, rV a, iV 0, iV 5, iV 0, rV b_1020, iV 1, iV v0, uS, uS]) rfl (XS.iload X1020.here hx rfl (hb hby d4_110) rfl (XS.ifYes X1020.here hx rfl (pc0 := 112) (pc' := 129) rfl (hb hby d4_112) rfl ((if0 _ _).trans (tlt P14).1) (by decide) (by decide) k_))))
  have R1025 : Go p e below P T1020 (mkF m 228 #[rV x, rV wU, rV a, iV 0, iV 5, iV 0, rV b_1020, iV 0, iV v0, uS, uS] [(.int 5)]) := fun t_ k_ => R1024 t_ (XS.iload X1020.here hx rfl (hb hby d4_129) rfl (XS.sipush X1020.here hx rfl (hb hby d4_131) (XS.iand X1020.here hx rfl (hb hby d4_134) rfl (XS.sipush X1020.here hx rfl (hb hby d4_135) (XS.icmpYes X1020.here hx rfl (pc0 := 138) (pc' := 184) rfl (hb hby d4_138) rfl (feq P15).2 (by decide) (by decide) (XS.iinc X1020.here hx rfl (hb hby d4_184) rfl (l' := #[rV x, rV wU, rV a, iV 0, iV 5, iV 0, rV b_1020, iV ((1 : Int32) + (-1 : Int32)), iV v0, uS, uS]) rfl (XS.goto X1020.here hx rfl (pc0 := 187) (pc' := 190) rfl (hb hby d4_187) (by decide) (by decide) (XS.iload X1020.here hx rfl (hb hby d4_190) rfl (XS.iload X1020.here hx rfl (hb hby d4_192) rfl (XS.icmpYes X1020.here hx rfl (pc0 := 194) (pc' := 226) rfl (hb hby d4_194) rfl (feq (by decide : ¬ ((0 : Int32) = (5 : Int32)))).2 (by decide) (by decide) (XS.iload X1020.here hx rfl (hb hby d4_226) rfl k_)))))))))))
  obtain ⟨rv1026, T1026, Lc1026, X1026, hQ1026, R1026⟩ := callQ X1020 hx hZ hown (rfl : T1020.heap = T1020.heap) R1025 (newB5_ l Z a0 hw []  T1020.heap n0 O1020) (hwI hw 86 rfl) (hwI hw 87 rfl) (hwI hw 88 rfl) (hwI hw 89 rfl) [] rfl (by rw [hml]; rfl) (lenOf pd_1250628 rfl) rfl (W := 0) (wR rfl) (hb hby d4_228)
  obtain ⟨b_1026, kb_1026, rfl, N1026q, K1026, p1026_0, p1026_1⟩ := hQ1026
  have N1026 := Fr.app N1020 N1026q
  have O1026 := O1020.keep K1026 all0
  have R1027 : Go p e below P T1026 (mkF m 241 #[rV x, rV wU, rV a, iV 0, iV 5, iV 0, rV b_1020, iV 0, rV b_1026, uS, uS] [(.int 0), (.int 0), (.ref b_1026), (.int 0), (.ref b_1020)]) := fun t_ k_ => R1026 t_ (XS.astore X1026.here hx rfl (hb hby d4_231) rfl rfl (l' := #[rV x, rV wU, rV a, iV 0, iV 5, iV 0, rV b_1020, iV 0, rV b_1026, uS, uS]) rfl (XS.aload X1026.here hx rfl (hb hby d4_233) rfl rfl (XS.iconst X1026.here hx rfl (hb hby d4_235) (XS.aload X1026.here hx rfl (hb hby d4_236) rfl rfl (XS.iconst X1026.here hx rfl (hb hby d4_238) (XS.iload X1026.here hx rfl (hb hby d4_239) rfl k_))))))
  obtain ⟨rv1028, T1028, Lc1028, X1028, hQ1028, R1028⟩ := callQ X1026 hx hZ hown (rfl : T1026.heap = T1026.heap) R1027 (inL0_ l Z a0 hw [] b_1020 b_1026 kb_1026 (10 : Int32) ([(.int 0), (.int 0), (.int 0), (.int 0), (.int 0), (.int 0), (.int 0), (.int 0), (.int 0), (.int 0)]) (5 : Int32) fm T1026.heap n0 O1026 P12 hfm (by decide) (by decide) p1026_1 (by decide)) (hwI hw 94 rfl) (hwI hw 95 rfl) (hwI hw 76 rfl) (hwI hw 96 rfl) [] rfl (by rw [hml]; rfl) (lenOf pd_17825761 rfl) rfl (W := 0) (wR rfl) (hb hby d4_241)
  obtain ⟨rfl, N1028q, K1028⟩ := hQ1028
  have N1028 := Fr.app N1026 N1028q
  have R1029 : Go p e below P T1028 (mkF m 255 #[rV x, rV wU, rV a, iV 0, iV 5, iV 0, rV b_1020, iV 0, rV b_1026, uS, uS] [(.int 1), (.int 0), (.ref b_1026), (.int 5), (.int 0), (.ref b_1020)]) := fun t_ k_ => R1028 t_ (XS.aload X1028.here hx rfl (hb hby d4_244) rfl rfl (XS.iload X1028.here hx rfl (hb hby d4_246) rfl (XS.iload X1028.here hx rfl (hb hby d4_248) rfl (XS.aload X1028.here hx rfl (hb hby d4_250) rfl rfl (XS.iload X1028.here hx rfl (hb hby d4_252) rfl (XS.iconst X1028.here hx rfl (hb hby d4_254) k_))))))
  have f1030 := (p1020_1.keep K1026 nin0)
  obtain ⟨rv1031, T1031, Lc1031, X1031, hQ1031, R1031⟩ := callQ X1028 hx hZ hown K1028 R1029 (decU54l_ l Z a0 hw [] b_1020 kb_1020 v0 v1 v2 v3 v4 b_1026 kb_1026 ([(.int 0), (.int 0), (.int 0), (.int 0), (.int 0), (.int 0), (.int 0), (.int 0), (.int 0), (.int 0)]) c0 c1 cp T1026.heap n0 O1026 P9 P10 P11 f1030 p1026_1 (Nat.le_trans (oldLe O1020) p1026_0) (Nat.ne_of_lt (Nat.lt_of_lt_of_le p1020_1.lt p1026_0)) rfl P16 ht P14 P18 P19 P20 P21 P22 P23 hd P25 P26 hh hlo) (hwI hw 118 rfl) (hwI hw 119 rfl) (hwI hw 10 rfl) (hwI hw 120 rfl) [] rfl (by rw [hml]; rfl) (lenOf pd_22962144 rfl) rfl (W := 0) (wR rfl) (hb hby d4_255)
  obtain ⟨rfl, N1031q, K1031, p1031_0⟩ := hQ1031
  have N1031 := Fr.app N1028 N1031q
  have O1031 := O1026.keep K1031 (allS (Nat.le_trans (oldLe O1020) p1026_0) all0)
  have R1032 : Go p e below P T1031 (mkF m 260 #[rV x, rV wU, rV a, iV 0, iV 5, iV 3, rV b_1020, iV 0, rV b_1026, uS, uS] []) := fun t_ k_ => R1031 t_ (XS.istore X1031.here hx rfl (hb hby d4_258) rfl (l' := #[rV x, rV wU, rV a, iV 0, iV 5, iV 3, rV b_1020, iV 0, rV b_1026, uS, uS]) rfl k_)
  have Vl1033 : Arv Z T1031.heap b_1026 kb_1026 .byte (10 : Int32) [(.int (loB c0)), (.int (hiB c0)), (.int (loB c1)), (.int (hiB c1)), (.int (loB v4)), (.int (hiB v4)), (.int 0), (.int 0), (.int 0), (.int 0)] (.int 0) := p1031_0
  have R1034 : Go p e below P T1031 (mkF m 273 #[rV x, rV wU, rV a, iV 0, iV 5, iV 3, rV b_1020, iV 0, rV b_1026, uS, uS] [(.int 6), (.ref b_1026)]) := fun t_ k_ => R1032 t_ (XS.iload X1031.here hx rfl (hb hby d4_260) rfl (XS.iload X1031.here hx rfl (hb hby d4_262) rfl (XS.icmpNo X1031.here hx rfl (hb hby d4_264) rfl (feq (by decide : ¬ ((3 : Int32) = (5 : Int32)))).1 (XS.aload X1031.here hx rfl (hb hby d4_267) rfl rfl (XS.iload X1031.here hx rfl (hb hby d4_269) rfl (XS.iconst X1031.here hx rfl (hb hby d4_271) (XS.ishl X1031.here hx rfl (hb hby d4_272) rfl k_)))))))
  obtain ⟨rv1035, T1035, Lc1035, X1035, hQ1035, R1035⟩ := callQ X1031 hx hZ hown (rfl : T1031.heap = T1031.heap) R1034 (copy10_6_ l Z a0 hw [] b_1026 kb_1026 (loB c0) (hiB c0) (loB c1) (hiB c1) (loB v4) (hiB v4) (0 : Int32) (0 : Int32) (0 : Int32) (0 : Int32) T1031.heap n0 O1031 Vl1033) (hwI hw 156 rfl) (hwI hw 157 rfl) (hwI hw 38 rfl) (hwI hw 158 rfl) [] rfl (by rw [hml]; rfl) (lenOf pd_14456175 rfl) rfl (W := 0) (wR rfl) (hb hby d4_273)
  obtain ⟨b_1035, kb_1035, rfl, N1035q, K1035, p1035_0, p1035_1⟩ := hQ1035
  have N1035 := Fr.app N1031 N1035q
  have O1035 := O1031.keep K1035 all0
  have f1036 := ((((P0.keep K1020).keep K1026).keep K1031).keep K1035)
  have f1037 := ((((P1.keep K1020 nin0).keep K1026 nin0).keep K1031 (ninS (Nat.ne_of_lt (Nat.lt_of_lt_of_le (P0.keep K1020).lt p1026_0)) nin0)).keep K1035 nin0)
  obtain ⟨T1038, h1038, X1038, e1038, W1038, st1038⟩ := putF X1035 hx hZ hown (host := "") (Or.inl (hwI hw 49 rfl)) Via.refl (rfl : T1035.heap = T1035.heap) f1037 f1036 (Or.inr ⟨(hwI hw 50 rfl), rfl, hnm⟩) (hwI hw 9 rfl) (ty := (.array .byte)) (by decide) rfl rfl (g := (mkF m 281 #[rV x, rV wU, rV a, iV 0, iV 5, iV 3, rV b_1020, iV 0, rV b_1035, uS, uS] [(.ref b_1035), (.ref x)])) rfl rfl (hb hby d4_281)
  have N1038 := Fr.snoc X1038 N1035 P3
  have Fw1038 := f1037.same W1038
  have O1038 := O1035.wr W1038 P3
  have f1039 := (f1036.wr W1038)
  have f1040 := (((((P2.keep K1020 nin0).keep K1026 nin0).keep K1031 (ninS (Nat.ne_of_lt (Nat.lt_of_lt_of_le (P0.keep K1020).lt p1026_0)) nin0)).keep K1035 nin0).other W1038 (Or.inr (slot_ne (Or.inr (hwI hw 52 rfl)) (Or.inr (hwI hw 50 rfl)) (by decide) (t := .byte) (t' := (.array .byte)) (by decide) (by decide))))
  obtain ⟨T1041, h1041, X1041, e1041, W1041, st1041⟩ := putFN X1038 hx hZ hown (hwI hw 51 rfl) Via.refl e1038 f1040 f1039 (Or.inr ⟨(hwI hw 52 rfl), rfl, hnm⟩) (hwI hw 9 rfl) (ty := .byte) (v' := (.int 1)) (by decide) rfl rfl (g := (mkF m 286 #[rV x, rV wU, rV a, iV 0, iV 5, iV 3, rV b_1020, iV 0, rV b_1035, uS, uS] [(.int 1), (.ref x)])) rfl rfl (hb hby d4_286)
  have N1041 := Fr.snoc X1041 N1038 P3
  have Fw1041 := f1040.same W1041
  have O1041 := O1038.wr W1041 P3
  have R1042 : Go p e below P T1041 (mkF m 879 #[rV x, rV wU, rV a, iV 0, iV 5, iV 3, rV b_1020, iV 0, rV b_1035, uS, uS] []) := fun t_ k_ => R1035 t_ (XS.astore X1035.here hx rfl (hb hby d4_276) rfl rfl (l' := #[rV x, rV wU, rV a, iV 0, iV 5, iV 3, rV b_1020, iV 0, rV b_1035, uS, uS]) rfl (XS.aloadN X1035.here hx rfl (hb hby d4_278) rfl rfl (XS.aload X1035.here hx rfl (hb hby d4_279) rfl rfl (st1038 t_ (XS.aloadN X1038.here hx rfl (hb hby d4_284) rfl rfl (XS.iconst X1038.here hx rfl (hb hby d4_285) (st1041 t_ (XS.goto X1041.here hx rfl (pc0 := 289) (pc' := 879) rfl (hb hby d4_289) (by decide) (by decide) k_))))))))
  obtain ⟨fs, hr, hrun, hended, hW, hsame⟩ := X1041.leave (v := none) (fun _ => rfl)
  have f1043 := (f1039.wr W1041)
  have f1044 := (Fw1038.other W1041 (Or.inr (slot_ne (Or.inr (hwI hw 50 rfl)) (Or.inr (hwI hw 52 rfl)) (by decide) (t := (.array .byte)) (t' := .byte) (by decide) (by decide))))
  have f1045 := ((p1035_1.other W1038 (Ne.symm (Nat.ne_of_lt (Nat.lt_of_lt_of_le (((P0.keep K1020).keep K1026).keep K1031).lt p1035_0)))).other W1041 (Ne.symm (Nat.ne_of_lt (Nat.lt_of_lt_of_le (((P0.keep K1020).keep K1026).keep K1031).lt p1035_0))))
  exact ⟨_, _, hP _ (R1042 _ (X1041.returnOut hx Bd.returns (hb hby d4_879) hr)), hrun, hended, _, _, rfl, ⟨b_1035, kb_1035, rfl, N1041, (e1041.symm ▸ (((((((Keep.refl h0 [x]).trans K1020 all0).trans K1026 all0).trans K1031 (allS (Or.inr (Nat.le_trans ((Keep.refl h0 [x]).trans K1020 all0).1 p1026_0)) all0)).trans K1035 all0).wr W1038 (Or.inl (List.mem_of_getElem? (i := 0) rfl))).wr W1041 (Or.inl (List.mem_of_getElem? (i := 0) rfl)))), (e1041.symm ▸ f1043), (e1041.symm ▸ Fw1041), (e1041.symm ▸ f1044), (e1041.symm ▸ f1045)⟩, ⟨_, rfl⟩, hW, hsame.mono (by decide) (by decide)⟩
def Q_injDl_ (Z : State) (x : Addr) (a : Addr) (ka : ClassId) (v0 : Int32) (v1 : Int32) (v2 : Int32) (v3 : Int32) (v4 : Int32) (c0 : Int32) (c1 : Int32) (cp : Int32) (wU : Addr) (zc : Int32) (fm : Value) (h0 : Heap) (n0 : Nat) (rv_ : Option Value) (rh_ : Heap) (rL_ : List Loc) : Prop := ∃ t : Addr, ∃ kb : ClassId, (rv_ = none) ∧ (Fr n0 rL_) ∧ (Keep h0 rh_ [x]) ∧ (Exa Z rh_ x "java/lang/String") ∧ (Fld Z rh_ x "java/lang/String" "coder" "B" (.int 1)) ∧ (Fld Z rh_ x "java/lang/String" "value" "[B" (.ref t)) ∧ (Arv Z rh_ t kb .byte (6 : Int32) [(.int (loB c0)), (.int (hiB c0)), (.int (loB c1)), (.int (hiB c1)), (.int (loB v4)), (.int (hiB v4))] (.int 0))
set_option maxRecDepth 65536 in
set_option maxHeartbeats 40000000 in
theorem injDl_ (l : Launch) (Z : State) (a0 : Array Value) (hw : HW Z a0) (ws : List Jvm.Cond) (x : Addr) (a : Addr) (ka : ClassId) (v0 : Int32) (v1 : Int32) (v2 : Int32) (v3 : Int32) (v4 : Int32) (c0 : Int32) (c1 : Int32) (cp : Int32) (wU : Addr) (zc : Int32) (fm : Value) (h0 : Heap) (n0 : Nat) (O0 : Old Z n0 h0) (P0 : Exa Z h0 x "java/lang/String") (P1 : Fld Z h0 x "java/lang/String" "value" "[B" .null) (P2 : Fld Z h0 x "java/lang/String" "coder" "B" (.int 0)) (P3 : n0 ≤ x) (P4 : Arv Z h0 a ka .byte (5 : Int32) [(.int v0), (.int v1), (.int v2), (.int v3), (.int v4)] (.int 0)) (P5 : Exa Z h0 a "[B") (P6 : sT5 Z (.ref wU)) (P7 : sT0 Z (.int zc)) (P8 : ¬ zc = 0) (P9 : sT2 Z (.int 1)) (P10 : sT3 Z (.int 0)) (P11 : sT4 Z (.int 8)) (P12 : sT1 Z fm) (P13 : fm.isRef = true) (P14 : Exa Z Z.heap wU "sun/nio/cs/UTF_8") (P15 : v0 < (0 : Int32)) (P16 : ¬ ((v0 &&& (254 : Int32)) = (194 : Int32))) (P17 : ¬ (v4 < (0 : Int32))) (P18 : (v4.toUInt32.toUInt16.toUInt32.toInt32) = v4) (P19 : ¬ ((v0 >>> ((5 : Int32) &&& 31)) = (-2 : Int32))) (P20 : ¬ ((v0 >>> ((4 : Int32) &&& 31)) = (-2 : Int32))) (P21 : (v0 >>> ((3 : Int32) &&& 31)) = (-2 : Int32)) (P22 : (v1 &&& (192 : Int32)) = (128 : Int32)) (P23 : (v2 &&& (192 : Int32)) = (128 : Int32)) (P24 : (v3 &&& (192 : Int32)) = (128 : Int32)) (P25 : d4 v0 v1 v2 v3 = cp) (P26 : ¬ (cp < (65536 : Int32))) (P27 : cp < (1114112 : Int32)) (P28 : hiS cp = c0) (P29 : loS cp = c1) :
    MetQ l yM34 (Jvm.Cond.code yM34 jdk_42_method_49_code 3 none) ws (rM 6 3 21 98) Z #[(.ref x), (.ref a), (.ref wU)] h0 (Q_injDl_ Z x a ka v0 v1 v2 v3 v4 c0 c1 cp wU zc fm h0 n0) := by
  have hzc := P8
  have hfm := P13
  have ht := P18
  have hd := P25
  have hh := P28
  have hlo := P29
  refine metQ (plainFor_of_name pn_47582652) hisR (fun m => ef2_RRR m x a wU) ?_
  intro p e s m below meth c s₁ P Bd hx hby hml hZ hown hnm X0 e0 hP R0
  have N0 := Fr.nil n0
  have R1046 : Go p e below P s₁ (mkF m 2 #[rV x, rV a, rV wU] [(.ref wU), (.ref x)]) := fun t_ k_ => R0 t_ (XS.aloadN X0.here hx rfl (hb hby d2_0) rfl rfl (XS.aloadN X0.here hx rfl (hb hby d2_1) rfl rfl k_))
  obtain ⟨rv1047, T1047, Lc1047, X1047, hQ1047, R1047⟩ := callQ X0 hx hZ hown e0 R1046 (rnn_ l Z a0 hw [] wU h0 n0 O0) (hwI hw 16 rfl) (hwI hw 17 rfl) (hwI hw 18 rfl) (hwI hw 19 rfl) [(.ref x)] rfl (by rw [hml]; rfl) (lenOf pd_72566344 rfl) rfl (W := 1) (wR rfl) (hb hby d2_2)
  obtain ⟨rfl, N1047q, K1047⟩ := hQ1047
  have N1047 := Fr.app N0 N1047q
  obtain ⟨T1048, X1048, e1048, st1048⟩ := castY X1047 hx hZ hown (hwI hw 20 rfl) K1047 (Ins.of_exa (P14.ext O0.2) (hwI hw 21 rfl)) (g := (mkF m 5 #[rV x, rV a, rV wU] [(.ref wU), (.ref x)])) rfl rfl (hb hby d2_5)
  have R1049 : Go p e below P T1048 (mkF m 11 #[rV x, rV a, rV wU] [(.ref a), (.int 0), (.ref a), (.ref wU), (.ref x)]) := fun t_ k_ => R1047 t_ (st1048 t_ (XS.aloadN X1048.here hx rfl (hb hby d2_8) rfl rfl (XS.iconst X1048.here hx rfl (hb hby d2_9) (XS.aloadN X1048.here hx rfl (hb hby d2_10) rfl rfl k_))))
  obtain ⟨cl1050, cl1050A, -, cl1050S, cl1050N, -, -⟩ := id P4
  have R1051 : Go p e below P T1048 (mkF m 12 #[rV x, rV a, rV wU] [(.int 5), (.int 0), (.ref a), (.ref wU), (.ref x)]) := fun t_ k_ => R1049 t_ (X1048.arraylength hx (by rw [e1048]; exact cl1050A.1) (State.isArrayOf_alike hZ.alike cl1050A.2.1) (g := (mkF m 11 #[rV x, rV a, rV wU] [(.ref a), (.int 0), (.ref a), (.ref wU), (.ref x)])) rfl rfl (hb hby d2_11) t_ (by rw [len_of cl1050S cl1050N]; exact k_))
  obtain ⟨rv1052, _, ⟨T1052, L1052, k1052, n1052⟩, -, X1052, ⟨Lc1052, hQ1052, l1052, y1052, z1052⟩, st1052⟩ := X1048.specialBackH hx (y := yM33) rfl hown (mvT hZ (hwI hw 22 rfl)) (mvT hZ (hwI hw 23 rfl)) (mvT hZ (hwI hw 25 rfl)) (by decide) (backOfWith (W := 0) (iniDl_ l Z a0 hw [] x a ka v0 v1 v2 v3 v4 c0 c1 cp wU zc fm h0 n0 O0 P0 P1 P2 P3 P4 P5 P6 P7 hzc P9 P10 P11 P12 hfm P15 P16 P17 ht P19 P20 P21 P22 P23 P24 hd P26 P27 hh hlo) hZ (hwI hw 25 rfl) (hwI hw 10 rfl) (by decide) (by decide)) (g := (mkF m 12 #[rV x, rV a, rV wU] [(.int 5), (.int 0), (.ref a), (.ref wU), (.ref x)])) rfl (by rw [hml]; rfl) (Steps.refl _) (a := x) (argsL := [(.ref wU), (.ref a), (.int 0), (.int 5)]) (rest := []) (lenOf pd_41235415 rfl) rfl (by show 2 * 0 + _ ≤ _; exact Nat.le_of_eq rfl) (hb hby d2_12) (fun _ _ => ⟨rfl, e1048, (by decide : 0 + 3 ≤ _), (by decide : 0 + 21 ≤ _)⟩)
  dsimp only [Pt.U, Pt.locs, Pt.cells, Pt.slots] at X1052 l1052 y1052 z1052 st1052 hQ1052
  subst l1052 y1052 z1052
  obtain ⟨t_1052, kb_1052, rfl, N1052q, K1052, p1052_0, p1052_1, p1052_2, p1052_3⟩ := hQ1052
  have N1052 := Fr.app N1047 N1052q
  have O1052 := O0.keep K1052 (allS P3 all0)
  have R1053 : Go p e below P T1052 (mkF m 15 #[rV x, rV a, rV wU] []) := fun t_ k_ => R1051 t_ (st1052.trans k_)
  obtain ⟨fs, hr, hrun, hended, hW, hsame⟩ := X1052.leave (v := none) (fun _ => rfl)
  exact ⟨_, _, hP _ (R1053 _ (X1052.returnOut hx Bd.returns (hb hby d2_15) hr)), hrun, hended, _, _, rfl, ⟨t_1052, kb_1052, rfl, N1052, ((Keep.refl h0 [x]).trans K1052 (allS (Or.inl (List.mem_of_getElem? (i := 0) rfl)) all0)), p1052_0, p1052_1, p1052_2, p1052_3⟩, ⟨_, rfl⟩, hW, hsame.mono (by decide) (by decide)⟩
def Q_decDl_ (Z : State) (a : Addr) (ka : ClassId) (v0 : Int32) (v1 : Int32) (v2 : Int32) (v3 : Int32) (v4 : Int32) (c0 : Int32) (c1 : Int32) (cp : Int32) (wU : Addr) (zc : Int32) (fm : Value) (h0 : Heap) (n0 : Nat) (rv_ : Option Value) (rh_ : Heap) (rL_ : List Loc) : Prop := ∃ x : Addr, ∃ t : Addr, ∃ kb : ClassId, (rv_ = some (.ref x)) ∧ (Fr n0 rL_) ∧ (Keep h0 rh_ []) ∧ (h0.size ≤ x) ∧ (Exa Z rh_ x "java/lang/String") ∧ (Fld Z rh_ x "java/lang/String" "coder" "B" (.int 1)) ∧ (Fld Z rh_ x "java/lang/String" "value" "[B" (.ref t)) ∧ (Arv Z rh_ t kb .byte (6 : Int32) [(.int (loB c0)), (.int (hiB c0)), (.int (loB c1)), (.int (hiB c1)), (.int (loB v4)), (.int (hiB v4))] (.int 0))
set_option maxRecDepth 65536 in
set_option maxHeartbeats 40000000 in
theorem decDl_ (l : Launch) (Z : State) (a0 : Array Value) (hw : HW Z a0) (ws : List Jvm.Cond) (a : Addr) (ka : ClassId) (v0 : Int32) (v1 : Int32) (v2 : Int32) (v3 : Int32) (v4 : Int32) (c0 : Int32) (c1 : Int32) (cp : Int32) (wU : Addr) (zc : Int32) (fm : Value) (h0 : Heap) (n0 : Nat) (O0 : Old Z n0 h0) (P0 : Arv Z h0 a ka .byte (5 : Int32) [(.int v0), (.int v1), (.int v2), (.int v3), (.int v4)] (.int 0)) (P1 : Exa Z h0 a "[B") (P2 : sT5 Z (.ref wU)) (P3 : sT0 Z (.int zc)) (P4 : ¬ zc = 0) (P5 : sT2 Z (.int 1)) (P6 : sT3 Z (.int 0)) (P7 : sT4 Z (.int 8)) (P8 : sT1 Z fm) (P9 : fm.isRef = true) (P10 : sT6 Z (.ref wU)) (P11 : Exa Z Z.heap wU "sun/nio/cs/UTF_8") (P12 : v0 < (0 : Int32)) (P13 : ¬ ((v0 &&& (254 : Int32)) = (194 : Int32))) (P14 : ¬ (v4 < (0 : Int32))) (P15 : (v4.toUInt32.toUInt16.toUInt32.toInt32) = v4) (P16 : ¬ ((v0 >>> ((5 : Int32) &&& 31)) = (-2 : Int32))) (P17 : ¬ ((v0 >>> ((4 : Int32) &&& 31)) = (-2 : Int32))) (P18 : (v0 >>> ((3 : Int32) &&& 31)) = (-2 : Int32)) (P19 : (v1 &&& (192 : Int32)) = (128 : Int32)) (P20 : (v2 &&& (192 : Int32)) = (128 : Int32)) (P21 : (v3 &&& (192 : Int32)) = (128 : Int32)) (P22 : d4 v0 v1 v2 v3 = cp) (P23 : ¬ (cp < (65536 : Int32))) (P24 : cp < (1114112 : Int32)) (P25 : hiS cp = c0) (P26 : loS cp = c1) :
    MetQ l yM35 (Jvm.Cond.code yM35 prog_5_method_5_code 1 (some (.object "java/lang/String"))) ws (rM 7 4 25 113) Z #[(.ref a)] h0 (Q_decDl_ Z a ka v0 v1 v2 v3 v4 c0 c1 cp wU zc fm h0 n0) := by
  have hzc := P4
  have hfm := P9
  have ht := P15
  have hd := P22
  have hh := P25
  have hlo := P26
  refine metQ (plainFor_of_name pn_4625033) hisR (fun m => ef1_R m a) ?_
  intro p e s m below meth c s₁ P Bd hx hby hml hZ hown hnm X0 e0 hP R0
  have N0 := Fr.nil n0
  obtain ⟨T1054, h1054, X1054, e1054, E1054, A1054, D1054, -, st1054⟩ := newO X0 hx hZ hown (hwI hw 8 rfl) (hwI hw 9 rfl) (hwI hw 10 rfl) e0 (g := (mkF m 0 #[rV a] [])) rfl (hb hby d1_0) (by decide) (by decide)
  obtain ⟨b1054, g1054⟩ : ∃ z, z = h0.size := ⟨_, rfl⟩
  rw [← g1054] at A1054 D1054 st1054
  have O1054 := O0.ext E1054
  have F1054_50 : Fld Z h1054 b1054 "java/lang/String" "value" "[B" .null := D1054 (Or.inr (hwI hw 50 rfl)) (ty := (.array .byte)) (by decide)
  have F1054_52 : Fld Z h1054 b1054 "java/lang/String" "coder" "B" (.int 0) := D1054 (Or.inr (hwI hw 52 rfl)) (ty := .byte) (by decide)
  obtain ⟨T1055, X1055, e1055, st1055⟩ := getS2 X1054 hx hZ hown (host := "") (Or.inl (hwI hw 11 rfl)) Via.refl e1054 (P10.ext O1054.2) (g := (mkF m 5 #[rV a] [(.ref a), (.ref b1054), (.ref b1054)])) rfl (hb hby d1_5)
  have R1056 : Go p e below P T1055 (mkF m 8 #[rV a] [(.ref wU), (.ref a), (.ref b1054), (.ref b1054)]) := fun t_ k_ => R0 t_ (st1054 t_ (XS.dup X1054.here hx rfl (hb hby d1_3) rfl rfl (XS.aloadN X1054.here hx rfl (hb hby d1_4) rfl rfl (st1055 t_ k_))))
  have f1057 := (P0.ext E1054)
  have f1058 := (P1.ext E1054)
  obtain ⟨rv1059, _, ⟨T1059, L1059, k1059, n1059⟩, -, X1059, ⟨Lc1059, hQ1059, l1059, y1059, z1059⟩, st1059⟩ := X1055.specialBack hx (y := yM34) rfl hown (mvT hZ (hwI hw 13 rfl)) (mvT hZ (hwI hw 14 rfl)) (mvT hZ (hwI hw 15 rfl)) (by decide) (backOf (W := 1) (injDl_ l Z a0 hw [] b1054 a ka v0 v1 v2 v3 v4 c0 c1 cp wU zc fm h1054 n0 O1054 A1054 F1054_50 F1054_52 (Nat.le_trans (oldLe O0) (Nat.le_of_eq g1054.symm)) f1057 f1058 P2 P3 hzc P5 P6 P7 P8 hfm P11 P12 P13 P14 ht P16 P17 P18 P19 P20 P21 hd P23 P24 hh hlo) hZ (hwI hw 15 rfl) (hwI hw 10 rfl) (by decide) (by decide)) (g := (mkF m 8 #[rV a] [(.ref wU), (.ref a), (.ref b1054), (.ref b1054)])) rfl (by rw [hml]; rfl) (Steps.refl _) (a := b1054) (argsL := [(.ref a), (.ref wU)]) (rest := [(.ref b1054)]) (lenOf pd_90622059 rfl) rfl (by show 2 * 0 + _ ≤ _; exact Nat.le_of_eq rfl) (hb hby d1_8) (fun _ _ => ⟨rfl, e1055, (by decide : 1 + 3 ≤ _), (by decide : 4 + 21 ≤ _)⟩)
  dsimp only [Pt.U, Pt.locs, Pt.cells, Pt.slots] at X1059 l1059 y1059 z1059 st1059 hQ1059
  subst l1059 y1059 z1059
  obtain ⟨t_1059, kb_1059, rfl, N1059q, K1059, p1059_0, p1059_1, p1059_2, p1059_3⟩ := hQ1059
  have N1059 := Fr.app N0 N1059q
  have O1059 := O1054.keep K1059 (allS (Nat.le_trans (oldLe O0) (Nat.le_of_eq g1054.symm)) all0)
  have R1060 : Go p e below P T1059 (mkF m 11 #[rV a] [(.ref b1054)]) := fun t_ k_ => R1056 t_ (st1059.trans k_)
  obtain ⟨fs, hr, hrun, hended, hW, hsame⟩ := X1059.leave (v := some (.ref b1054)) (fun h => by rw [Bd.returns] at h; cases h)
  exact ⟨_, _, hP _ (R1060 _ (retOut X1059 hx Bd.returns rfl (Or.inr (Or.inr (Or.inr (Or.inr ⟨rfl, rfl, rfl⟩)))) (hb hby d1_11) hr)), hrun, hended, _, _, rfl, ⟨b1054, t_1059, kb_1059, rfl, N1059, (((Keep.refl h0 []).ext E1054).trans K1059 (allS (Or.inr (Nat.le_of_eq g1054.symm)) all0)), (Nat.le_of_eq g1054.symm), p1059_0, p1059_1, p1059_2, p1059_3⟩, ⟨_, rfl⟩, hW, hsame.mono (by decide) (by decide)⟩
def Q_iniDh_ (Z : State) (x : Addr) (a : Addr) (ka : ClassId) (v0 : Int32) (v1 : Int32) (v2 : Int32) (v3 : Int32) (v4 : Int32) (c0 : Int32) (c1 : Int32) (cp : Int32) (wU : Addr) (zc : Int32) (fm : Value) (h0 : Heap) (n0 : Nat) (rv_ : Option Value) (rh_ : Heap) (rL_ : List Loc) : Prop := ∃ t : Addr, ∃ kb : ClassId, (rv_ = none) ∧ (Fr n0 rL_) ∧ (Keep h0 rh_ [x]) ∧ (Exa Z rh_ x "java/lang/String") ∧ (Fld Z rh_ x "java/lang/String" "coder" "B" (.int 1)) ∧ (Fld Z rh_ x "java/lang/String" "value" "[B" (.ref t)) ∧ (Arv Z rh_ t kb .byte (6 : Int32) [(.int (loB c0)), (.int (hiB c0)), (.int (loB c1)), (.int (hiB c1)), (.int (loB (65533 : Int32))), (.int (hiB (65533 : Int32)))] (.int 0))
set_option maxRecDepth 65536 in
set_option maxHeartbeats 40000000 in
theorem iniDh_ (l : Launch) (Z : State) (a0 : Array Value) (hw : HW Z a0) (ws : List Jvm.Cond) (x : Addr) (a : Addr) (ka : ClassId) (v0 : Int32) (v1 : Int32) (v2 : Int32) (v3 : Int32) (v4 : Int32) (c0 : Int32) (c1 : Int32) (cp : Int32) (wU : Addr) (zc : Int32) (fm : Value) (h0 : Heap) (n0 : Nat) (O0 : Old Z n0 h0) (P0 : Exa Z h0 x "java/lang/String") (P1 : Fld Z h0 x "java/lang/String" "value" "[B" .null) (P2 : Fld Z h0 x "java/lang/String" "coder" "B" (.int 0)) (P3 : n0 ≤ x) (P4 : Arv Z h0 a ka .byte (5 : Int32) [(.int v0), (.int v1), (.int v2), (.int v3), (.int v4)] (.int 0)) (P5 : Exa Z h0 a "[B") (P6 : sT5 Z (.ref wU)) (P7 : sT0 Z (.int zc)) (P8 : ¬ zc = 0) (P9 : sT2 Z (.int 1)) (P10 : sT3 Z (.int 0)) (P11 : sT4 Z (.int 8)) (P12 : sT1 Z fm) (P13 : fm.isRef = true) (P14 : v0 < (0 : Int32)) (P15 : ¬ ((v0 &&& (254 : Int32)) = (194 : Int32))) (P16 : v4 < (0 : Int32)) (P17 : ¬ ((v0 >>> ((5 : Int32) &&& 31)) = (-2 : Int32))) (P18 : ¬ ((v0 >>> ((4 : Int32) &&& 31)) = (-2 : Int32))) (P19 : (v0 >>> ((3 : Int32) &&& 31)) = (-2 : Int32)) (P20 : (v1 &&& (192 : Int32)) = (128 : Int32)) (P21 : (v2 &&& (192 : Int32)) = (128 : Int32)) (P22 : (v3 &&& (192 : Int32)) = (128 : Int32)) (P23 : d4 v0 v1 v2 v3 = cp) (P24 : ¬ (cp < (65536 : Int32))) (P25 : cp < (1114112 : Int32)) (P26 : hiS cp = c0) (P27 : loS cp = c1) :
    MetQ l yM33 (Jvm.Cond.codeWith yM33 jdk_42_method_11_code 11 none [((800 : Nat), (813 : Nat), (816 : Nat), (202 : Nat))]) ws (rM 5 3 21 76) Z #[(.ref x), (.ref wU), (.ref a), (.int 0), (.int 5)] h0 (Q_iniDh_ Z x a ka v0 v1 v2 v3 v4 c0 c1 cp wU zc fm h0 n0) := by
  have hzc := P8
  have hfm := P13
  have hd := P23
  have hh := P26
  have hlo := P27
  refine metQ (plainFor_of_name pn_47582652) hisWith (fun m => ef4_RRRII m x wU a (0 : Int32) (5 : Int32)) ?_
  intro p e s m below meth c s₁ P Bd hx hby hml hZ hown hnm X0 e0 hP R0
  have N0 := Fr.nil n0
  have R1061 : Go p e below P s₁ (mkF m 1 #[rV x, rV wU, rV a, iV 0, iV 5, uS, uS, uS, uS, uS, uS] [(.ref x)]) := fun t_ k_ => R0 t_ (XS.aloadN X0.here hx rfl (hb hby d4_0) rfl rfl k_)
  obtain ⟨T1062, X1062, e1062, st1062⟩ := initO X0 hx hZ hown (hwI hw 26 rfl) (hwI hw 27 rfl) (hwI hw 28 rfl) e0 (g := (mkF m 1 #[rV x, rV wU, rV a, iV 0, iV 5, uS, uS, uS, uS, uS, uS] [(.ref x)])) rfl (by rw [hml]; rfl) rfl (hb hby d4_1) (by decide) (W := 0) (by show 2 * 0 + _ ≤ _; exact Nat.le_of_eq rfl) (by decide)
  obtain ⟨T1063, X1063, e1063, st1063⟩ := getS2 X1062 hx hZ hown (host := "") (Or.inl (hwI hw 29 rfl)) Via.refl e1062 (P6.ext O0.2) (g := (mkF m 31 #[rV x, rV wU, rV a, iV 0, iV 5, uS, uS, uS, uS, uS, uS] [(.ref wU)])) rfl (hb hby d4_31)
  obtain ⟨T1064, X1064, e1064, st1064⟩ := getS2 X1063 hx hZ hown (host := "") (Or.inl (hwI hw 31 rfl)) Via.refl e1063 (P7.ext O0.2) (g := (mkF m 37 #[rV x, rV wU, rV a, iV 0, iV 5, uS, uS, uS, uS, uS, uS] [])) rfl (hb hby d4_37)
  have R1065 : Go p e below P T1064 (mkF m 47 #[rV x, rV wU, rV a, iV 0, iV 5, uS, uS, uS, uS, uS, uS] [(.int 5), (.int 0), (.ref a)]) := fun t_ k_ => R1061 t_ (st1062 t_ (XS.iload X1062.here hx rfl (hb hby d4_4) rfl (XS.ifYes X1062.here hx rfl (pc0 := 6) (pc' := 30) rfl (hb hby d4_6) rfl ((if0 _ _).trans (feq (by decide : ¬ ((5 : Int32) = (0 : Int32)))).2) (by decide) (by decide) (XS.aloadN X1062.here hx rfl (hb hby d4_30) rfl rfl (st1063 t_ (Jvm.RoadKit.acmp (g := (mkF m 34 #[rV x, rV wU, rV a, iV 0, iV 5, uS, uS, uS, uS, uS, uS] [(.ref wU), (.ref wU)])) X1063 hx rfl rfl rfl (pc0 := 34) (pc' := 37) (same := true) rfl (hb hby d4_34) rfl (decide_eq_true (congrArg Value.ref rfl)) (by decide) (by decide) (st1064 t_ (XS.ifNo X1064.here hx rfl (hb hby d4_40) rfl ((if0 _ _).trans (feq hzc).1) (XS.aloadN X1064.here hx rfl (hb hby d4_43) rfl rfl (XS.iloadN X1064.here hx rfl (hb hby d4_44) rfl (XS.iload X1064.here hx rfl (hb hby d4_45) rfl k_)))))))))))
  obtain ⟨rv1066, T1066, Lc1066, X1066, hQ1066, R1066⟩ := callQ X1064 hx hZ hown e1064 R1065 (cpos50_ l Z a0 hw [] a ka v0 v1 v2 v3 v4 h0 n0 O0 P4 P14) (hwI hw 32 rfl) (hwI hw 33 rfl) (hwI hw 34 rfl) (hwI hw 35 rfl) [] rfl (by rw [hml]; rfl) (lenOf pd_14998784 rfl) rfl (W := 0) (wR rfl) (hb hby d4_47)
  obtain ⟨rfl, N1066q, K1066⟩ := hQ1066
  have N1066 := Fr.app N0 N1066q
  have R1067 : Go p e below P T1066 (mkF m 84 #[rV x, rV wU, rV a, iV 0, iV 5, iV 0, uS, uS, uS, uS, uS] [(.int 5), (.int 0), (.ref a)]) := fun t_ k_ => R1066 t_ (XS.istore X1066.here hx rfl (hb hby d4_50) rfl (l' := #[rV x, rV wU, rV a, iV 0, iV 5, iV 0, uS, uS, uS, uS, uS]) rfl (XS.iload X1066.here hx rfl (hb hby d4_52) rfl (XS.iload X1066.here hx rfl (hb hby d4_54) rfl (XS.icmpYes X1066.here hx rfl (pc0 := 56) (pc' := 78) rfl (hb hby d4_56) rfl (feq (by decide : ¬ ((0 : Int32) = (5 : Int32)))).2 (by decide) (by decide) (XS.aloadN X1066.here hx rfl (hb hby d4_78) rfl rfl (XS.iloadN X1066.here hx rfl (hb hby d4_79) rfl (XS.iloadN X1066.here hx rfl (hb hby d4_80) rfl (XS.iload X1066.here hx rfl (hb hby d4_81) rfl (XS.iadd X1066.here hx rfl (hb hby d4_83) rfl k_)))))))))
  obtain ⟨rv1068, T1068, Lc1068, X1068, hQ1068, R1068⟩ := callQ X1066 hx hZ hown K1066 R1067 (cor5_ l Z a0 hw [] a ka v0 v1 v2 v3 v4 h0 n0 O0 P4 P5) (hwI hw 36 rfl) (hwI hw 37 rfl) (hwI hw 38 rfl) (hwI hw 39 rfl) [] rfl (by rw [hml]; rfl) (lenOf pd_64843128 rfl) rfl (W := 0) (wR rfl) (hb hby d4_84)
  obtain ⟨b_1068, kb_1068, rfl, N1068q, K1068, p1068_0, p1068_1⟩ := hQ1068
  have N1068 := Fr.app N1066 N1068q
  have O1068 := O0.keep K1068 all0
  have R1069 : Go p e below P T1068 (mkF m 107 #[rV x, rV wU, rV a, iV 0, iV 5, iV 0, rV b_1068, iV 1, uS, uS, uS] [(.int 0), (.ref b_1068)]) := fun t_ k_ => R1068 t_ (XS.astore X1068.here hx rfl (hb hby d4_87) rfl rfl (l' := #[rV x, rV wU, rV a, iV 0, iV 5, iV 0, rV b_1068, uS, uS, uS, uS]) rfl (XS.iload X1068.here hx rfl (hb hby d4_89) rfl (XS.istore X1068.here hx rfl (hb hby d4_91) rfl (l' := #[rV x, rV wU, rV a, iV 0, iV 5, iV 0, rV b_1068, iV 0, uS, uS, uS]) rfl (XS.iload X1068.here hx rfl (hb hby d4_93) rfl (XS.iload X1068.here hx rfl (hb hby d4_95) rfl (XS.icmpNo X1068.here hx rfl (hb hby d4_97) rfl (tlt (by decide : (0 : Int32) < (5 : Int32))).2.1 (XS.aload X1068.here hx rfl (hb hby d4_100) rfl rfl (XS.iload X1068.here hx rfl (hb hby d4_102) rfl (XS.iinc X1068.here hx rfl (hb hby d4_104) rfl (l' := #[rV x, rV wU, rV a, iV 0, iV 5, iV 0, rV b_1068, iV ((0 : Int32) + (1 : Int32)), uS, uS, uS]) rfl k_)))))))))
  obtain ⟨cl1070, cl1070A, cl1070q, cl1070S, cl1070N, cl1070H, cl1070G⟩ := id p1068_1
  have ib1071 := inb_of (j := (0 : Int32)) cl1070S ⟨by decide, by decide⟩
  have R1072 : Go p e below P T1068 (mkF m 129 #[rV x, rV wU, rV a, iV 0, iV 5, iV 0, rV b_1068, iV 1, iV v0, uS, uS] []) := fun t_ k_ => R1069 t_ (apS (X1068.baloadBytes hx (v := (.int v0)) (by rw [(rfl : T1068.heap = T1068.heap)]; exact cl1070A.1) (State.isArrayOf_alike hZ.alike cl1070A.2.1) cl1070A.2.2 ib1071 (cl1070H.at ib1071 rfl) rfl rfl (hb hby d4_107)) (XS.istore X1068.here hx rfl (hb hby d4_108) rfl (l' := #[rV x, rV wU, rV a, iV 0, iV 5, iV 0, rV b_1068, iV 1, iV v0, uS, uS]) rfl (XS.iload X1068.here hx rfl (hb hby d4_110) rfl (XS.ifYes X1068.here hx rfl (pc0 := 112) (pc' := 129) rfl (hb hby d4_112) rfl ((if0 _ _).trans (tlt P14).1) (by decide) (by decide) k_))))
  have R1073 : Go p e below P T1068 (mkF m 228 #[rV x, rV wU, rV a, iV 0, iV 5, iV 0, rV b_1068, iV 0, iV v0, uS, uS] [(.int 5)]) := fun t_ k_ => R1072 t_ (XS.iload X1068.here hx rfl (hb hby d4_129) rfl (XS.sipush X1068.here hx rfl (hb hby d4_131) (XS.iand X1068.here hx rfl (hb hby d4_134) rfl (XS.sipush X1068.here hx rfl (hb hby d4_135) (XS.icmpYes X1068.here hx rfl (pc0 := 138) (pc' := 184) rfl (hb hby d4_138) rfl (feq P15).2 (by decide) (by decide) (XS.iinc X1068.here hx rfl (hb hby d4_184) rfl (l' := #[rV x, rV wU, rV a, iV 0, iV 5, iV 0, rV b_1068, iV ((1 : Int32) + (-1 : Int32)), iV v0, uS, uS]) rfl (XS.goto X1068.here hx rfl (pc0 := 187) (pc' := 190) rfl (hb hby d4_187) (by decide) (by decide) (XS.iload X1068.here hx rfl (hb hby d4_190) rfl (XS.iload X1068.here hx rfl (hb hby d4_192) rfl (XS.icmpYes X1068.here hx rfl (pc0 := 194) (pc' := 226) rfl (hb hby d4_194) rfl (feq (by decide : ¬ ((0 : Int32) = (5 : Int32)))).2 (by decide) (by decide) (XS.iload X1068.here hx rfl (hb hby d4_226) rfl k_)))))))))))
  obtain ⟨rv1074, T1074, Lc1074, X1074, hQ1074, R1074⟩ := callQ X1068 hx hZ hown (rfl : T1068.heap = T1068.heap) R1073 (newB5_ l Z a0 hw []  T1068.heap n0 O1068) (hwI hw 86 rfl) (hwI hw 87 rfl) (hwI hw 88 rfl) (hwI hw 89 rfl) [] rfl (by rw [hml]; rfl) (lenOf pd_1250628 rfl) rfl (W := 0) (wR rfl) (hb hby d4_228)
  obtain ⟨b_1074, kb_1074, rfl, N1074q, K1074, p1074_0, p1074_1⟩ := hQ1074
  have N1074 := Fr.app N1068 N1074q
  have O1074 := O1068.keep K1074 all0
  have R1075 : Go p e below P T1074 (mkF m 241 #[rV x, rV wU, rV a, iV 0, iV 5, iV 0, rV b_1068, iV 0, rV b_1074, uS, uS] [(.int 0), (.int 0), (.ref b_1074), (.int 0), (.ref b_1068)]) := fun t_ k_ => R1074 t_ (XS.astore X1074.here hx rfl (hb hby d4_231) rfl rfl (l' := #[rV x, rV wU, rV a, iV 0, iV 5, iV 0, rV b_1068, iV 0, rV b_1074, uS, uS]) rfl (XS.aload X1074.here hx rfl (hb hby d4_233) rfl rfl (XS.iconst X1074.here hx rfl (hb hby d4_235) (XS.aload X1074.here hx rfl (hb hby d4_236) rfl rfl (XS.iconst X1074.here hx rfl (hb hby d4_238) (XS.iload X1074.here hx rfl (hb hby d4_239) rfl k_))))))
  obtain ⟨rv1076, T1076, Lc1076, X1076, hQ1076, R1076⟩ := callQ X1074 hx hZ hown (rfl : T1074.heap = T1074.heap) R1075 (inL0_ l Z a0 hw [] b_1068 b_1074 kb_1074 (10 : Int32) ([(.int 0), (.int 0), (.int 0), (.int 0), (.int 0), (.int 0), (.int 0), (.int 0), (.int 0), (.int 0)]) (5 : Int32) fm T1074.heap n0 O1074 P12 hfm (by decide) (by decide) p1074_1 (by decide)) (hwI hw 94 rfl) (hwI hw 95 rfl) (hwI hw 76 rfl) (hwI hw 96 rfl) [] rfl (by rw [hml]; rfl) (lenOf pd_17825761 rfl) rfl (W := 0) (wR rfl) (hb hby d4_241)
  obtain ⟨rfl, N1076q, K1076⟩ := hQ1076
  have N1076 := Fr.app N1074 N1076q
  have R1077 : Go p e below P T1076 (mkF m 255 #[rV x, rV wU, rV a, iV 0, iV 5, iV 0, rV b_1068, iV 0, rV b_1074, uS, uS] [(.int 1), (.int 0), (.ref b_1074), (.int 5), (.int 0), (.ref b_1068)]) := fun t_ k_ => R1076 t_ (XS.aload X1076.here hx rfl (hb hby d4_244) rfl rfl (XS.iload X1076.here hx rfl (hb hby d4_246) rfl (XS.iload X1076.here hx rfl (hb hby d4_248) rfl (XS.aload X1076.here hx rfl (hb hby d4_250) rfl rfl (XS.iload X1076.here hx rfl (hb hby d4_252) rfl (XS.iconst X1076.here hx rfl (hb hby d4_254) k_))))))
  have f1078 := (p1068_1.keep K1074 nin0)
  obtain ⟨rv1079, T1079, Lc1079, X1079, hQ1079, R1079⟩ := callQ X1076 hx hZ hown K1076 R1077 (decU54h_ l Z a0 hw [] b_1068 kb_1068 v0 v1 v2 v3 v4 b_1074 kb_1074 ([(.int 0), (.int 0), (.int 0), (.int 0), (.int 0), (.int 0), (.int 0), (.int 0), (.int 0), (.int 0)]) c0 c1 cp T1074.heap n0 O1074 P9 P10 P11 f1078 p1074_1 (Nat.le_trans (oldLe O1068) p1074_0) (Nat.ne_of_lt (Nat.lt_of_lt_of_le p1068_1.lt p1074_0)) rfl P16 P14 P17 P18 P19 P20 P21 P22 hd P24 P25 hh hlo) (hwI hw 118 rfl) (hwI hw 119 rfl) (hwI hw 10 rfl) (hwI hw 120 rfl) [] rfl (by rw [hml]; rfl) (lenOf pd_22962144 rfl) rfl (W := 0) (wR rfl) (hb hby d4_255)
  obtain ⟨rfl, N1079q, K1079, p1079_0⟩ := hQ1079
  have N1079 := Fr.app N1076 N1079q
  have O1079 := O1074.keep K1079 (allS (Nat.le_trans (oldLe O1068) p1074_0) all0)
  have R1080 : Go p e below P T1079 (mkF m 260 #[rV x, rV wU, rV a, iV 0, iV 5, iV 3, rV b_1068, iV 0, rV b_1074, uS, uS] []) := fun t_ k_ => R1079 t_ (XS.istore X1079.here hx rfl (hb hby d4_258) rfl (l' := #[rV x, rV wU, rV a, iV 0, iV 5, iV 3, rV b_1068, iV 0, rV b_1074, uS, uS]) rfl k_)
  have Vl1081 : Arv Z T1079.heap b_1074 kb_1074 .byte (10 : Int32) [(.int (loB c0)), (.int (hiB c0)), (.int (loB c1)), (.int (hiB c1)), (.int (loB (65533 : Int32))), (.int (hiB (65533 : Int32))), (.int 0), (.int 0), (.int 0), (.int 0)] (.int 0) := p1079_0
  have R1082 : Go p e below P T1079 (mkF m 273 #[rV x, rV wU, rV a, iV 0, iV 5, iV 3, rV b_1068, iV 0, rV b_1074, uS, uS] [(.int 6), (.ref b_1074)]) := fun t_ k_ => R1080 t_ (XS.iload X1079.here hx rfl (hb hby d4_260) rfl (XS.iload X1079.here hx rfl (hb hby d4_262) rfl (XS.icmpNo X1079.here hx rfl (hb hby d4_264) rfl (feq (by decide : ¬ ((3 : Int32) = (5 : Int32)))).1 (XS.aload X1079.here hx rfl (hb hby d4_267) rfl rfl (XS.iload X1079.here hx rfl (hb hby d4_269) rfl (XS.iconst X1079.here hx rfl (hb hby d4_271) (XS.ishl X1079.here hx rfl (hb hby d4_272) rfl k_)))))))
  obtain ⟨rv1083, T1083, Lc1083, X1083, hQ1083, R1083⟩ := callQ X1079 hx hZ hown (rfl : T1079.heap = T1079.heap) R1082 (copy10_6_ l Z a0 hw [] b_1074 kb_1074 (loB c0) (hiB c0) (loB c1) (hiB c1) (loB (65533 : Int32)) (hiB (65533 : Int32)) (0 : Int32) (0 : Int32) (0 : Int32) (0 : Int32) T1079.heap n0 O1079 Vl1081) (hwI hw 156 rfl) (hwI hw 157 rfl) (hwI hw 38 rfl) (hwI hw 158 rfl) [] rfl (by rw [hml]; rfl) (lenOf pd_14456175 rfl) rfl (W := 0) (wR rfl) (hb hby d4_273)
  obtain ⟨b_1083, kb_1083, rfl, N1083q, K1083, p1083_0, p1083_1⟩ := hQ1083
  have N1083 := Fr.app N1079 N1083q
  have O1083 := O1079.keep K1083 all0
  have f1084 := ((((P0.keep K1068).keep K1074).keep K1079).keep K1083)
  have f1085 := ((((P1.keep K1068 nin0).keep K1074 nin0).keep K1079 (ninS (Nat.ne_of_lt (Nat.lt_of_lt_of_le (P0.keep K1068).lt p1074_0)) nin0)).keep K1083 nin0)
  obtain ⟨T1086, h1086, X1086, e1086, W1086, st1086⟩ := putF X1083 hx hZ hown (host := "") (Or.inl (hwI hw 49 rfl)) Via.refl (rfl : T1083.heap = T1083.heap) f1085 f1084 (Or.inr ⟨(hwI hw 50 rfl), rfl, hnm⟩) (hwI hw 9 rfl) (ty := (.array .byte)) (by decide) rfl rfl (g := (mkF m 281 #[rV x, rV wU, rV a, iV 0, iV 5, iV 3, rV b_1068, iV 0, rV b_1083, uS, uS] [(.ref b_1083), (.ref x)])) rfl rfl (hb hby d4_281)
  have N1086 := Fr.snoc X1086 N1083 P3
  have Fw1086 := f1085.same W1086
  have O1086 := O1083.wr W1086 P3
  have f1087 := (f1084.wr W1086)
  have f1088 := (((((P2.keep K1068 nin0).keep K1074 nin0).keep K1079 (ninS (Nat.ne_of_lt (Nat.lt_of_lt_of_le (P0.keep K1068).lt p1074_0)) nin0)).keep K1083 nin0).other W1086 (Or.inr (slot_ne (Or.inr (hwI hw 52 rfl)) (Or.inr (hwI hw 50 rfl)) (by decide) (t := .byte) (t' := (.array .byte)) (by decide) (by decide))))
  obtain ⟨T1089, h1089, X1089, e1089, W1089, st1089⟩ := putFN X1086 hx hZ hown (hwI hw 51 rfl) Via.refl e1086 f1088 f1087 (Or.inr ⟨(hwI hw 52 rfl), rfl, hnm⟩) (hwI hw 9 rfl) (ty := .byte) (v' := (.int 1)) (by decide) rfl rfl (g := (mkF m 286 #[rV x, rV wU, rV a, iV 0, iV 5, iV 3, rV b_1068, iV 0, rV b_1083, uS, uS] [(.int 1), (.ref x)])) rfl rfl (hb hby d4_286)
  have N1089 := Fr.snoc X1089 N1086 P3
  have Fw1089 := f1088.same W1089
  have O1089 := O1086.wr W1089 P3
  have R1090 : Go p e below P T1089 (mkF m 879 #[rV x, rV wU, rV a, iV 0, iV 5, iV 3, rV b_1068, iV 0, rV b_1083, uS, uS] []) := fun t_ k_ => R1083 t_ (XS.astore X1083.here hx rfl (hb hby d4_276) rfl rfl (l' := #[rV x, rV wU, rV a, iV 0, iV 5, iV 3, rV b_1068, iV 0, rV b_1083, uS, uS]) rfl (XS.aloadN X1083.here hx rfl (hb hby d4_278) rfl rfl (XS.aload X1083.here hx rfl (hb hby d4_279) rfl rfl (st1086 t_ (XS.aloadN X1086.here hx rfl (hb hby d4_284) rfl rfl (XS.iconst X1086.here hx rfl (hb hby d4_285) (st1089 t_ (XS.goto X1089.here hx rfl (pc0 := 289) (pc' := 879) rfl (hb hby d4_289) (by decide) (by decide) k_))))))))
  obtain ⟨fs, hr, hrun, hended, hW, hsame⟩ := X1089.leave (v := none) (fun _ => rfl)
  have f1091 := (f1087.wr W1089)
  have f1092 := (Fw1086.other W1089 (Or.inr (slot_ne (Or.inr (hwI hw 50 rfl)) (Or.inr (hwI hw 52 rfl)) (by decide) (t := (.array .byte)) (t' := .byte) (by decide) (by decide))))
  have f1093 := ((p1083_1.other W1086 (Ne.symm (Nat.ne_of_lt (Nat.lt_of_lt_of_le (((P0.keep K1068).keep K1074).keep K1079).lt p1083_0)))).other W1089 (Ne.symm (Nat.ne_of_lt (Nat.lt_of_lt_of_le (((P0.keep K1068).keep K1074).keep K1079).lt p1083_0))))
  exact ⟨_, _, hP _ (R1090 _ (X1089.returnOut hx Bd.returns (hb hby d4_879) hr)), hrun, hended, _, _, rfl, ⟨b_1083, kb_1083, rfl, N1089, (e1089.symm ▸ (((((((Keep.refl h0 [x]).trans K1068 all0).trans K1074 all0).trans K1079 (allS (Or.inr (Nat.le_trans ((Keep.refl h0 [x]).trans K1068 all0).1 p1074_0)) all0)).trans K1083 all0).wr W1086 (Or.inl (List.mem_of_getElem? (i := 0) rfl))).wr W1089 (Or.inl (List.mem_of_getElem? (i := 0) rfl)))), (e1089.symm ▸ f1091), (e1089.symm ▸ Fw1089), (e1089.symm ▸ f1092), (e1089.symm ▸ f1093)⟩, ⟨_, rfl⟩, hW, hsame.mono (by decide) (by decide)⟩
def Q_injDh_ (Z : State) (x : Addr) (a : Addr) (ka : ClassId) (v0 : Int32) (v1 : Int32) (v2 : Int32) (v3 : Int32) (v4 : Int32) (c0 : Int32) (c1 : Int32) (cp : Int32) (wU : Addr) (zc : Int32) (fm : Value) (h0 : Heap) (n0 : Nat) (rv_ : Option Value) (rh_ : Heap) (rL_ : List Loc) : Prop := ∃ t : Addr, ∃ kb : ClassId, (rv_ = none) ∧ (Fr n0 rL_) ∧ (Keep h0 rh_ [x]) ∧ (Exa Z rh_ x "java/lang/String") ∧ (Fld Z rh_ x "java/lang/String" "coder" "B" (.int 1)) ∧ (Fld Z rh_ x "java/lang/String" "value" "[B" (.ref t)) ∧ (Arv Z rh_ t kb .byte (6 : Int32) [(.int (loB c0)), (.int (hiB c0)), (.int (loB c1)), (.int (hiB c1)), (.int (loB (65533 : Int32))), (.int (hiB (65533 : Int32)))] (.int 0))
set_option maxRecDepth 65536 in
set_option maxHeartbeats 40000000 in
theorem injDh_ (l : Launch) (Z : State) (a0 : Array Value) (hw : HW Z a0) (ws : List Jvm.Cond) (x : Addr) (a : Addr) (ka : ClassId) (v0 : Int32) (v1 : Int32) (v2 : Int32) (v3 : Int32) (v4 : Int32) (c0 : Int32) (c1 : Int32) (cp : Int32) (wU : Addr) (zc : Int32) (fm : Value) (h0 : Heap) (n0 : Nat) (O0 : Old Z n0 h0) (P0 : Exa Z h0 x "java/lang/String") (P1 : Fld Z h0 x "java/lang/String" "value" "[B" .null) (P2 : Fld Z h0 x "java/lang/String" "coder" "B" (.int 0)) (P3 : n0 ≤ x) (P4 : Arv Z h0 a ka .byte (5 : Int32) [(.int v0), (.int v1), (.int v2), (.int v3), (.int v4)] (.int 0)) (P5 : Exa Z h0 a "[B") (P6 : sT5 Z (.ref wU)) (P7 : sT0 Z (.int zc)) (P8 : ¬ zc = 0) (P9 : sT2 Z (.int 1)) (P10 : sT3 Z (.int 0)) (P11 : sT4 Z (.int 8)) (P12 : sT1 Z fm) (P13 : fm.isRef = true) (P14 : Exa Z Z.heap wU "sun/nio/cs/UTF_8") (P15 : v0 < (0 : Int32)) (P16 : ¬ ((v0 &&& (254 : Int32)) = (194 : Int32))) (P17 : v4 < (0 : Int32)) (P18 : ¬ ((v0 >>> ((5 : Int32) &&& 31)) = (-2 : Int32))) (P19 : ¬ ((v0 >>> ((4 : Int32) &&& 31)) = (-2 : Int32))) (P20 : (v0 >>> ((3 : Int32) &&& 31)) = (-2 : Int32)) (P21 : (v1 &&& (192 : Int32)) = (128 : Int32)) (P22 : (v2 &&& (192 : Int32)) = (128 : Int32)) (P23 : (v3 &&& (192 : Int32)) = (128 : Int32)) (P24 : d4 v0 v1 v2 v3 = cp) (P25 : ¬ (cp < (65536 : Int32))) (P26 : cp < (1114112 : Int32)) (P27 : hiS cp = c0) (P28 : loS cp = c1) :
    MetQ l yM34 (Jvm.Cond.code yM34 jdk_42_method_49_code 3 none) ws (rM 6 3 21 98) Z #[(.ref x), (.ref a), (.ref wU)] h0 (Q_injDh_ Z x a ka v0 v1 v2 v3 v4 c0 c1 cp wU zc fm h0 n0) := by
  have hzc := P8
  have hfm := P13
  have hd := P24
  have hh := P27
  have hlo := P28
  refine metQ (plainFor_of_name pn_47582652) hisR (fun m => ef2_RRR m x a wU) ?_
  intro p e s m below meth c s₁ P Bd hx hby hml hZ hown hnm X0 e0 hP R0
  have N0 := Fr.nil n0
  have R1094 : Go p e below P s₁ (mkF m 2 #[rV x, rV a, rV wU] [(.ref wU), (.ref x)]) := fun t_ k_ => R0 t_ (XS.aloadN X0.here hx rfl (hb hby d2_0) rfl rfl (XS.aloadN X0.here hx rfl (hb hby d2_1) rfl rfl k_))
  obtain ⟨rv1095, T1095, Lc1095, X1095, hQ1095, R1095⟩ := callQ X0 hx hZ hown e0 R1094 (rnn_ l Z a0 hw [] wU h0 n0 O0) (hwI hw 16 rfl) (hwI hw 17 rfl) (hwI hw 18 rfl) (hwI hw 19 rfl) [(.ref x)] rfl (by rw [hml]; rfl) (lenOf pd_72566344 rfl) rfl (W := 1) (wR rfl) (hb hby d2_2)
  obtain ⟨rfl, N1095q, K1095⟩ := hQ1095
  have N1095 := Fr.app N0 N1095q
  obtain ⟨T1096, X1096, e1096, st1096⟩ := castY X1095 hx hZ hown (hwI hw 20 rfl) K1095 (Ins.of_exa (P14.ext O0.2) (hwI hw 21 rfl)) (g := (mkF m 5 #[rV x, rV a, rV wU] [(.ref wU), (.ref x)])) rfl rfl (hb hby d2_5)
  have R1097 : Go p e below P T1096 (mkF m 11 #[rV x, rV a, rV wU] [(.ref a), (.int 0), (.ref a), (.ref wU), (.ref x)]) := fun t_ k_ => R1095 t_ (st1096 t_ (XS.aloadN X1096.here hx rfl (hb hby d2_8) rfl rfl (XS.iconst X1096.here hx rfl (hb hby d2_9) (XS.aloadN X1096.here hx rfl (hb hby d2_10) rfl rfl k_))))
  obtain ⟨cl1098, cl1098A, -, cl1098S, cl1098N, -, -⟩ := id P4
  have R1099 : Go p e below P T1096 (mkF m 12 #[rV x, rV a, rV wU] [(.int 5), (.int 0), (.ref a), (.ref wU), (.ref x)]) := fun t_ k_ => R1097 t_ (X1096.arraylength hx (by rw [e1096]; exact cl1098A.1) (State.isArrayOf_alike hZ.alike cl1098A.2.1) (g := (mkF m 11 #[rV x, rV a, rV wU] [(.ref a), (.int 0), (.ref a), (.ref wU), (.ref x)])) rfl rfl (hb hby d2_11) t_ (by rw [len_of cl1098S cl1098N]; exact k_))
  obtain ⟨rv1100, _, ⟨T1100, L1100, k1100, n1100⟩, -, X1100, ⟨Lc1100, hQ1100, l1100, y1100, z1100⟩, st1100⟩ := X1096.specialBackH hx (y := yM33) rfl hown (mvT hZ (hwI hw 22 rfl)) (mvT hZ (hwI hw 23 rfl)) (mvT hZ (hwI hw 25 rfl)) (by decide) (backOfWith (W := 0) (iniDh_ l Z a0 hw [] x a ka v0 v1 v2 v3 v4 c0 c1 cp wU zc fm h0 n0 O0 P0 P1 P2 P3 P4 P5 P6 P7 hzc P9 P10 P11 P12 hfm P15 P16 P17 P18 P19 P20 P21 P22 P23 hd P25 P26 hh hlo) hZ (hwI hw 25 rfl) (hwI hw 10 rfl) (by decide) (by decide)) (g := (mkF m 12 #[rV x, rV a, rV wU] [(.int 5), (.int 0), (.ref a), (.ref wU), (.ref x)])) rfl (by rw [hml]; rfl) (Steps.refl _) (a := x) (argsL := [(.ref wU), (.ref a), (.int 0), (.int 5)]) (rest := []) (lenOf pd_41235415 rfl) rfl (by show 2 * 0 + _ ≤ _; exact Nat.le_of_eq rfl) (hb hby d2_12) (fun _ _ => ⟨rfl, e1096, (by decide : 0 + 3 ≤ _), (by decide : 0 + 21 ≤ _)⟩)
  dsimp only [Pt.U, Pt.locs, Pt.cells, Pt.slots] at X1100 l1100 y1100 z1100 st1100 hQ1100
  subst l1100 y1100 z1100
  obtain ⟨t_1100, kb_1100, rfl, N1100q, K1100, p1100_0, p1100_1, p1100_2, p1100_3⟩ := hQ1100
  have N1100 := Fr.app N1095 N1100q
  have O1100 := O0.keep K1100 (allS P3 all0)
  have R1101 : Go p e below P T1100 (mkF m 15 #[rV x, rV a, rV wU] []) := fun t_ k_ => R1099 t_ (st1100.trans k_)
  obtain ⟨fs, hr, hrun, hended, hW, hsame⟩ := X1100.leave (v := none) (fun _ => rfl)
  exact ⟨_, _, hP _ (R1101 _ (X1100.returnOut hx Bd.returns (hb hby d2_15) hr)), hrun, hended, _, _, rfl, ⟨t_1100, kb_1100, rfl, N1100, ((Keep.refl h0 [x]).trans K1100 (allS (Or.inl (List.mem_of_getElem? (i := 0) rfl)) all0)), p1100_0, p1100_1, p1100_2, p1100_3⟩, ⟨_, rfl⟩, hW, hsame.mono (by decide) (by decide)⟩
def Q_decDh_ (Z : State) (a : Addr) (ka : ClassId) (v0 : Int32) (v1 : Int32) (v2 : Int32) (v3 : Int32) (v4 : Int32) (c0 : Int32) (c1 : Int32) (cp : Int32) (wU : Addr) (zc : Int32) (fm : Value) (h0 : Heap) (n0 : Nat) (rv_ : Option Value) (rh_ : Heap) (rL_ : List Loc) : Prop := ∃ x : Addr, ∃ t : Addr, ∃ kb : ClassId, (rv_ = some (.ref x)) ∧ (Fr n0 rL_) ∧ (Keep h0 rh_ []) ∧ (h0.size ≤ x) ∧ (Exa Z rh_ x "java/lang/String") ∧ (Fld Z rh_ x "java/lang/String" "coder" "B" (.int 1)) ∧ (Fld Z rh_ x "java/lang/String" "value" "[B" (.ref t)) ∧ (Arv Z rh_ t kb .byte (6 : Int32) [(.int (loB c0)), (.int (hiB c0)), (.int (loB c1)), (.int (hiB c1)), (.int (loB (65533 : Int32))), (.int (hiB (65533 : Int32)))] (.int 0))
set_option maxRecDepth 65536 in
set_option maxHeartbeats 40000000 in
theorem decDh_ (l : Launch) (Z : State) (a0 : Array Value) (hw : HW Z a0) (ws : List Jvm.Cond) (a : Addr) (ka : ClassId) (v0 : Int32) (v1 : Int32) (v2 : Int32) (v3 : Int32) (v4 : Int32) (c0 : Int32) (c1 : Int32) (cp : Int32) (wU : Addr) (zc : Int32) (fm : Value) (h0 : Heap) (n0 : Nat) (O0 : Old Z n0 h0) (P0 : Arv Z h0 a ka .byte (5 : Int32) [(.int v0), (.int v1), (.int v2), (.int v3), (.int v4)] (.int 0)) (P1 : Exa Z h0 a "[B") (P2 : sT5 Z (.ref wU)) (P3 : sT0 Z (.int zc)) (P4 : ¬ zc = 0) (P5 : sT2 Z (.int 1)) (P6 : sT3 Z (.int 0)) (P7 : sT4 Z (.int 8)) (P8 : sT1 Z fm) (P9 : fm.isRef = true) (P10 : sT6 Z (.ref wU)) (P11 : Exa Z Z.heap wU "sun/nio/cs/UTF_8") (P12 : v0 < (0 : Int32)) (P13 : ¬ ((v0 &&& (254 : Int32)) = (194 : Int32))) (P14 : v4 < (0 : Int32)) (P15 : ¬ ((v0 >>> ((5 : Int32) &&& 31)) = (-2 : Int32))) (P16 : ¬ ((v0 >>> ((4 : Int32) &&& 31)) = (-2 : Int32))) (P17 : (v0 >>> ((3 : Int32) &&& 31)) = (-2 : Int32)) (P18 : (v1 &&& (192 : Int32)) = (128 : Int32)) (P19 : (v2 &&& (192 : Int32)) = (128 : Int32)) (P20 : (v3 &&& (192 : Int32)) = (128 : Int32)) (P21 : d4 v0 v1 v2 v3 = cp) (P22 : ¬ (cp < (65536 : Int32))) (P23 : cp < (1114112 : Int32)) (P24 : hiS cp = c0) (P25 : loS cp = c1) :
    MetQ l yM35 (Jvm.Cond.code yM35 prog_5_method_5_code 1 (some (.object "java/lang/String"))) ws (rM 7 4 25 113) Z #[(.ref a)] h0 (Q_decDh_ Z a ka v0 v1 v2 v3 v4 c0 c1 cp wU zc fm h0 n0) := by
  have hzc := P4
  have hfm := P9
  have hd := P21
  have hh := P24
  have hlo := P25
  refine metQ (plainFor_of_name pn_4625033) hisR (fun m => ef1_R m a) ?_
  intro p e s m below meth c s₁ P Bd hx hby hml hZ hown hnm X0 e0 hP R0
  have N0 := Fr.nil n0
  obtain ⟨T1102, h1102, X1102, e1102, E1102, A1102, D1102, -, st1102⟩ := newO X0 hx hZ hown (hwI hw 8 rfl) (hwI hw 9 rfl) (hwI hw 10 rfl) e0 (g := (mkF m 0 #[rV a] [])) rfl (hb hby d1_0) (by decide) (by decide)
  obtain ⟨b1102, g1102⟩ : ∃ z, z = h0.size := ⟨_, rfl⟩
  rw [← g1102] at A1102 D1102 st1102
  have O1102 := O0.ext E1102
  have F1102_50 : Fld Z h1102 b1102 "java/lang/String" "value" "[B" .null := D1102 (Or.inr (hwI hw 50 rfl)) (ty := (.array .byte)) (by decide)
  have F1102_52 : Fld Z h1102 b1102 "java/lang/String" "coder" "B" (.int 0) := D1102 (Or.inr (hwI hw 52 rfl)) (ty := .byte) (by decide)
  obtain ⟨T1103, X1103, e1103, st1103⟩ := getS2 X1102 hx hZ hown (host := "") (Or.inl (hwI hw 11 rfl)) Via.refl e1102 (P10.ext O1102.2) (g := (mkF m 5 #[rV a] [(.ref a), (.ref b1102), (.ref b1102)])) rfl (hb hby d1_5)
  have R1104 : Go p e below P T1103 (mkF m 8 #[rV a] [(.ref wU), (.ref a), (.ref b1102), (.ref b1102)]) := fun t_ k_ => R0 t_ (st1102 t_ (XS.dup X1102.here hx rfl (hb hby d1_3) rfl rfl (XS.aloadN X1102.here hx rfl (hb hby d1_4) rfl rfl (st1103 t_ k_))))
  have f1105 := (P0.ext E1102)
  have f1106 := (P1.ext E1102)
  obtain ⟨rv1107, _, ⟨T1107, L1107, k1107, n1107⟩, -, X1107, ⟨Lc1107, hQ1107, l1107, y1107, z1107⟩, st1107⟩ := X1103.specialBack hx (y := yM34) rfl hown (mvT hZ (hwI hw 13 rfl)) (mvT hZ (hwI hw 14 rfl)) (mvT hZ (hwI hw 15 rfl)) (by decide) (backOf (W := 1) (injDh_ l Z a0 hw [] b1102 a ka v0 v1 v2 v3 v4 c0 c1 cp wU zc fm h1102 n0 O1102 A1102 F1102_50 F1102_52 (Nat.le_trans (oldLe O0) (Nat.le_of_eq g1102.symm)) f1105 f1106 P2 P3 hzc P5 P6 P7 P8 hfm P11 P12 P13 P14 P15 P16 P17 P18 P19 P20 hd P22 P23 hh hlo) hZ (hwI hw 15 rfl) (hwI hw 10 rfl) (by decide) (by decide)) (g := (mkF m 8 #[rV a] [(.ref wU), (.ref a), (.ref b1102), (.ref b1102)])) rfl (by rw [hml]; rfl) (Steps.refl _) (a := b1102) (argsL := [(.ref a), (.ref wU)]) (rest := [(.ref b1102)]) (lenOf pd_90622059 rfl) rfl (by show 2 * 0 + _ ≤ _; exact Nat.le_of_eq rfl) (hb hby d1_8) (fun _ _ => ⟨rfl, e1103, (by decide : 1 + 3 ≤ _), (by decide : 4 + 21 ≤ _)⟩)
  dsimp only [Pt.U, Pt.locs, Pt.cells, Pt.slots] at X1107 l1107 y1107 z1107 st1107 hQ1107
  subst l1107 y1107 z1107
  obtain ⟨t_1107, kb_1107, rfl, N1107q, K1107, p1107_0, p1107_1, p1107_2, p1107_3⟩ := hQ1107
  have N1107 := Fr.app N0 N1107q
  have O1107 := O1102.keep K1107 (allS (Nat.le_trans (oldLe O0) (Nat.le_of_eq g1102.symm)) all0)
  have R1108 : Go p e below P T1107 (mkF m 11 #[rV a] [(.ref b1102)]) := fun t_ k_ => R1104 t_ (st1107.trans k_)
  obtain ⟨fs, hr, hrun, hended, hW, hsame⟩ := X1107.leave (v := some (.ref b1102)) (fun h => by rw [Bd.returns] at h; cases h)
  exact ⟨_, _, hP _ (R1108 _ (retOut X1107 hx Bd.returns rfl (Or.inr (Or.inr (Or.inr (Or.inr ⟨rfl, rfl, rfl⟩)))) (hb hby d1_11) hr)), hrun, hended, _, _, rfl, ⟨b1102, t_1107, kb_1107, rfl, N1107, (((Keep.refl h0 []).ext E1102).trans K1107 (allS (Or.inr (Nat.le_of_eq g1102.symm)) all0)), (Nat.le_of_eq g1102.symm), p1107_0, p1107_1, p1107_2, p1107_3⟩, ⟨_, rfl⟩, hW, hsame.mono (by decide) (by decide)⟩
def Q_ucoder_ (Z : State) (a : Addr) (zc : Int32) (h0 : Heap) (n0 : Nat) (rv_ : Option Value) (rh_ : Heap) (rL_ : List Loc) : Prop := (rv_ = some (.int 1)) ∧ (Fr n0 rL_) ∧ (rh_ = h0)
set_option maxRecDepth 65536 in
set_option maxHeartbeats 40000000 in
theorem ucoder_ (l : Launch) (Z : State) (a0 : Array Value) (hw : HW Z a0) (ws : List Jvm.Cond) (a : Addr) (zc : Int32) (h0 : Heap) (n0 : Nat) (O0 : Old Z n0 h0) (P0 : Fld Z h0 a "java/lang/String" "coder" "B" (.int 1)) (P1 : sT0 Z (.int zc)) (P2 : ¬ zc = 0) :
    MetQ l yM0 (Jvm.Cond.code yM0 jdk_42_method_152_code 1 (some .byte)) ws (rM 0 0 0 0) Z #[(.ref a)] h0 (Q_ucoder_ Z a zc h0 n0) := by
  have hzc := P2
  refine metQ (plainFor_of_name pn_47582652) hisR (fun m => ef9_R m a) ?_
  intro p e s m below meth c s₁ P Bd hx hby hml hZ hown hnm X0 e0 hP R0
  have N0 := Fr.nil n0
  obtain ⟨T1109, X1109, e1109, st1109⟩ := getS2 X0 hx hZ hown (host := "") (Or.inl (hwI hw 31 rfl)) Via.refl e0 (P1.ext O0.2) (g := (mkF m 0 #[rV a] [])) rfl (hb hby d9_0)
  obtain ⟨T1110, X1110, e1110, st1110⟩ := getF X1109 hx hZ hown (host := "") (Or.inl (hwI hw 51 rfl)) Via.refl e1109 P0 (g := (mkF m 7 #[rV a] [(.ref a)])) rfl rfl (hb hby d9_7)
  have R1111 : Go p e below P T1110 (mkF m 14 #[rV a] [(.int 1)]) := fun t_ k_ => R0 t_ (st1109 t_ (XS.ifNo X1109.here hx rfl (hb hby d9_3) rfl ((if0 _ _).trans (feq hzc).1) (XS.aloadN X1109.here hx rfl (hb hby d9_6) rfl rfl (st1110 t_ (XS.goto X1110.here hx rfl (pc0 := 10) (pc' := 14) rfl (hb hby d9_10) (by decide) (by decide) k_)))))
  obtain ⟨fs, hr, hrun, hended, hW, hsame⟩ := X1110.leave (v := some (.int (nar .byte (1 : Int32)))) (fun h => by rw [Bd.returns] at h; cases h)
  exact ⟨_, _, hP _ (R1111 _ (retN X1110 hx (t := .byte) Bd.returns (by simp) (hb hby d9_14) hr)), hrun, hended, _, _, rfl, ⟨rfl, N0, e1110⟩, ⟨_, rfl⟩, hW, hsame.mono (by decide) (by decide)⟩
theorem d11_17 : decode jdk_42_method_154_code 17 = .ok (.iconst 0, 1) := by decide +kernel
def Q_uisL_ (Z : State) (a : Addr) (zc : Int32) (h0 : Heap) (n0 : Nat) (rv_ : Option Value) (rh_ : Heap) (rL_ : List Loc) : Prop := (rv_ = some (.int 0)) ∧ (Fr n0 rL_) ∧ (rh_ = h0)
set_option maxRecDepth 65536 in
set_option maxHeartbeats 40000000 in
theorem uisL_ (l : Launch) (Z : State) (a0 : Array Value) (hw : HW Z a0) (ws : List Jvm.Cond) (a : Addr) (zc : Int32) (h0 : Heap) (n0 : Nat) (O0 : Old Z n0 h0) (P0 : Fld Z h0 a "java/lang/String" "coder" "B" (.int 1)) (P1 : sT0 Z (.int zc)) (P2 : ¬ zc = 0) :
    MetQ l yM1 (Jvm.Cond.code yM1 jdk_42_method_154_code 1 (some .boolean)) ws (rM 0 0 0 0) Z #[(.ref a)] h0 (Q_uisL_ Z a zc h0 n0) := by
  have hzc := P2
  refine metQ (plainFor_of_name pn_47582652) hisR (fun m => ef11_R m a) ?_
  intro p e s m below meth c s₁ P Bd hx hby hml hZ hown hnm X0 e0 hP R0
  have N0 := Fr.nil n0
  obtain ⟨T1112, X1112, e1112, st1112⟩ := getS2 X0 hx hZ hown (host := "") (Or.inl (hwI hw 31 rfl)) Via.refl e0 (P1.ext O0.2) (g := (mkF m 0 #[rV a] [])) rfl (hb hby d11_0)
  obtain ⟨T1113, X1113, e1113, st1113⟩ := getF X1112 hx hZ hown (host := "") (Or.inl (hwI hw 51 rfl)) Via.refl e1112 P0 (g := (mkF m 7 #[rV a] [(.ref a)])) rfl rfl (hb hby d11_7)
  have R1114 : Go p e below P T1113 (mkF m 18 #[rV a] [(.int 0)]) := fun t_ k_ => R0 t_ (st1112 t_ (XS.ifNo X1112.here hx rfl (hb hby d11_3) rfl ((if0 _ _).trans (feq hzc).1) (XS.aloadN X1112.here hx rfl (hb hby d11_6) rfl rfl (st1113 t_ (XS.ifYes X1113.here hx rfl (pc0 := 10) (pc' := 17) rfl (hb hby d11_10) rfl ((if0 _ _).trans (feq (by decide : ¬ ((1 : Int32) = (0 : Int32)))).2) (by decide) (by decide) (XS.iconst X1113.here hx rfl (hb hby d11_17) k_))))))
  obtain ⟨fs, hr, hrun, hended, hW, hsame⟩ := X1113.leave (v := some (.int (nar .boolean (0 : Int32)))) (fun h => by rw [Bd.returns] at h; cases h)
  exact ⟨_, _, hP _ (R1114 _ (retN X1113 hx (t := .boolean) Bd.returns (by simp) (hb hby d11_18) hr)), hrun, hended, _, _, rfl, ⟨rfl, N0, e1113⟩, ⟨_, rfl⟩, hW, hsame.mono (by decide) (by decide)⟩
def Q_ulen_ (Z : State) (a : Addr) (t : Addr) (kb : ClassId) (N : Int32) (vs : List Value) (zc : Int32) (n : Int32) (h0 : Heap) (n0 : Nat) (rv_ : Option Value) (rh_ : Heap) (rL_ : List Loc) : Prop := (rv_ = some (.int n)) ∧ (Fr n0 rL_) ∧ (rh_ = h0)
set_option maxRecDepth 65536 in
set_option maxHeartbeats 40000000 in
theorem ulen_ (l : Launch) (Z : State) (a0 : Array Value) (hw : HW Z a0) (ws : List Jvm.Cond) (a : Addr) (t : Addr) (kb : ClassId) (N : Int32) (vs : List Value) (zc : Int32) (n : Int32) (h0 : Heap) (n0 : Nat) (O0 : Old Z n0 h0) (P0 : Exa Z h0 a "java/lang/String") (P1 : Fld Z h0 a "java/lang/String" "coder" "B" (.int 1)) (P2 : Fld Z h0 a "java/lang/String" "value" "[B" (.ref t)) (P3 : Arv Z h0 t kb .byte N vs (.int 0)) (P4 : sT0 Z (.int zc)) (P5 : ¬ zc = 0) (P6 : (N >>> ((1 : Int32) &&& 31)) = n) :
    MetQ l yM2 (Jvm.Cond.code yM2 jdk_42_method_54_code 1 (some .int)) ws (rM 1 0 0 13) Z #[(.ref a)] h0 (Q_ulen_ Z a t kb N vs zc n h0 n0) := by
  have hzc := P5
  have hret := P6
  refine metQ (plainFor_of_name pn_47582652) hisR (fun m => ef8_R m a) ?_
  intro p e s m below meth c s₁ P Bd hx hby hml hZ hown hnm X0 e0 hP R0
  have N0 := Fr.nil n0
  obtain ⟨T1115, X1115, e1115, st1115⟩ := getF X0 hx hZ hown (host := "") (Or.inl (hwI hw 49 rfl)) Via.refl e0 P2 (g := (mkF m 1 #[rV a] [(.ref a)])) rfl rfl (hb hby d8_1)
  have R1116 : Go p e below P T1115 (mkF m 4 #[rV a] [(.ref t)]) := fun t_ k_ => R0 t_ (XS.aloadN X0.here hx rfl (hb hby d8_0) rfl rfl (st1115 t_ k_))
  obtain ⟨cl1117, cl1117A, -, cl1117S, cl1117N, -, -⟩ := id P3
  have R1118 : Go p e below P T1115 (mkF m 5 #[rV a] [(.int N)]) := fun t_ k_ => R1116 t_ (X1115.arraylength hx (by rw [e1115]; exact cl1117A.1) (State.isArrayOf_alike hZ.alike cl1117A.2.1) (g := (mkF m 4 #[rV a] [(.ref t)])) rfl rfl (hb hby d8_4) t_ (by rw [len_of cl1117S cl1117N]; exact k_))
  have R1119 : Go p e below P T1115 (mkF m 6 #[rV a] [(.ref a), (.int N)]) := fun t_ k_ => R1118 t_ (XS.aloadN X1115.here hx rfl (hb hby d8_5) rfl rfl k_)
  obtain ⟨cq1120, kq1120, q1120a, q1120b, q1120c⟩ := isOf hZ e1115 P0
  obtain ⟨rv1120, _, ⟨T1120, L1120, k1120, n1120⟩, -, X1120, ⟨Lc1120, hQ1120, l1120, y1120, z1120⟩, st1120⟩ := X1115.virtualBack hx (y := yM0) (z := yM0) hown (mvT hZ (hwI hw 59 rfl)) (mvT hZ (hwI hw 60 rfl)) (notFace_of_selects (args := #[]) (mvT hZ (hwI hw 62 rfl))) (mvT hZ (hwI hw 62 rfl)) (mvT hZ (hwI hw 61 rfl)) (by decide) (backOf (W := 1) (ucoder_ l Z a0 hw [] a zc h0 n0 O0 P1 P4 hzc) hZ (hwI hw 63 rfl) (hwI hw 10 rfl) (by decide) (by decide)) q1120a q1120c (g := (mkF m 6 #[rV a] [(.ref a), (.int N)])) rfl (by rw [hml]; rfl) (Steps.refl _) (argsL := []) (rest := [(.int N)]) (lenOf pd_16428514 rfl) rfl (by show 2 * 0 + _ ≤ _; exact Nat.le_of_eq rfl) (hb hby d8_6) (fun _ _ => ⟨rfl, e1115, (by decide : 0 + 0 ≤ _), (by decide : 0 + 0 ≤ _)⟩)
  dsimp only [Pt.U, Pt.locs, Pt.cells, Pt.slots] at X1120 l1120 y1120 z1120 st1120 hQ1120
  subst l1120 y1120 z1120
  obtain ⟨rfl, N1120q, K1120⟩ := hQ1120
  have N1120 := Fr.app N0 N1120q
  have R1121 : Go p e below P T1120 (mkF m 10 #[rV a] [(.int (N >>> ((1 : Int32) &&& 31)))]) := fun t_ k_ => R1119 t_ (st1120.trans (XS.ishr X1120.here hx rfl (hb hby d8_9) rfl k_))
  obtain ⟨fs, hr, hrun, hended, hW, hsame⟩ := X1120.leave (v := some (.int (N >>> ((1 : Int32) &&& 31)))) (fun h => by rw [Bd.returns] at h; cases h)
  exact ⟨_, _, hP _ (R1121 _ (retI X1120 hx Bd.returns (hb hby d8_10) hr)), hrun, hended, _, _, rfl, ⟨(by rw [hret]), N1120, K1120⟩, ⟨_, rfl⟩, hW, hsame.mono (by decide) (by decide)⟩
theorem ef26_IR (m : MethodId) (x0 : Int32) (x1 : Addr) : entryFrame m #[(.int x0), (.ref x1)] 2 = mkF m 0 #[iV x0, rV x1] [] := by first | (simp [entryFrame, mkF, argsToLocals, Value.category]; done) | rfl
theorem d26_0 : decode jdk_52_method_91_code 0 = .ok (.iload_n 0, 1) := by decide +kernel
theorem d26_1 : decode jdk_52_method_91_code 1 = .ok (.aload_n 1, 1) := by decide +kernel
theorem d26_2 : decode jdk_52_method_91_code 2 = .ok (.invokestatic 48, 3) := by decide +kernel
theorem d26_5 : decode jdk_52_method_91_code 5 = .ok (.invokestatic 414, 3) := by decide +kernel
theorem d26_8 : decode jdk_52_method_91_code 8 = .ok (.return_, 1) := by decide +kernel
def Q_uCI_ (Z : State) (i : Int32) (n : Int32) (a : Addr) (ka : ClassId) (N : Int32) (vs : List Value) (fm : Value) (h0 : Heap) (n0 : Nat) (rv_ : Option Value) (rh_ : Heap) (rL_ : List Loc) : Prop := (rv_ = none) ∧ (Fr n0 rL_) ∧ (rh_ = h0)
set_option maxRecDepth 65536 in
set_option maxHeartbeats 40000000 in
theorem uCI_ (l : Launch) (Z : State) (a0 : Array Value) (hw : HW Z a0) (ws : List Jvm.Cond) (i : Int32) (n : Int32) (a : Addr) (ka : ClassId) (N : Int32) (vs : List Value) (fm : Value) (h0 : Heap) (n0 : Nat) (O0 : Old Z n0 h0) (P0 : sT1 Z fm) (P1 : fm.isRef = true) (P2 : Arv Z h0 a ka .byte N vs (.int 0)) (P3 : (N >>> ((1 : Int32) &&& 31)) = n) (P4 : ¬ i < 0 ∧ i < n) :
    MetQ l yM36 (Jvm.Cond.code yM36 jdk_52_method_91_code 2 none) ws (rM 2 0 0 27) Z #[(.int i), (.ref a)] h0 (Q_uCI_ Z i n a ka N vs fm h0 n0) := by
  have hfm := P1
  have hret := P3
  have hin := P4
  refine metQ (plainFor_of_name pn_46608628) hisR (fun m => ef26_IR m i a) ?_
  intro p e s m below meth c s₁ P Bd hx hby hml hZ hown hnm X0 e0 hP R0
  have N0 := Fr.nil n0
  have R1122 : Go p e below P s₁ (mkF m 2 #[iV i, rV a] [(.ref a), (.int i)]) := fun t_ k_ => R0 t_ (XS.iloadN X0.here hx rfl (hb hby d26_0) rfl (XS.aloadN X0.here hx rfl (hb hby d26_1) rfl rfl k_))
  obtain ⟨rv1123, T1123, Lc1123, X1123, hQ1123, R1123⟩ := callQ X0 hx hZ hown e0 R1122 (uLen_ l Z a0 hw [] a ka N vs n h0 n0 O0 P2 hret) (hwI hw 103 rfl) (hwI hw 104 rfl) (hwI hw 88 rfl) (hwI hw 105 rfl) [(.int i)] rfl (by rw [hml]; rfl) (lenOf pd_42138748 rfl) rfl (W := 1) (wR rfl) (hb hby d26_2)
  obtain ⟨rfl, N1123q, K1123⟩ := hQ1123
  have N1123 := Fr.app N0 N1123q
  obtain ⟨rv1124, T1124, Lc1124, X1124, hQ1124, R1124⟩ := callQ X1123 hx hZ hown K1123 R1123 (lchk_ l Z a0 hw [] i n fm h0 n0 O0 P0 hfm hin) (hwI hw 130 rfl) (hwI hw 79 rfl) (hwI hw 10 rfl) (hwI hw 80 rfl) [] rfl (by rw [hml]; rfl) (lenOf pd_1793250 rfl) rfl (W := 0) (wR rfl) (hb hby d26_5)
  obtain ⟨rfl, N1124q, K1124⟩ := hQ1124
  have N1124 := Fr.app N1123 N1124q
  obtain ⟨fs, hr, hrun, hended, hW, hsame⟩ := X1124.leave (v := none) (fun _ => rfl)
  exact ⟨_, _, hP _ (R1124 _ (X1124.returnOut hx Bd.returns (hb hby d26_8) hr)), hrun, hended, _, _, rfl, ⟨rfl, N1124, K1124⟩, ⟨_, rfl⟩, hW, hsame.mono (by decide) (by decide)⟩
theorem ef25_RI (m : MethodId) (x0 : Addr) (x1 : Int32) : entryFrame m #[(.ref x0), (.int x1)] 2 = mkF m 0 #[rV x0, iV x1] [] := by first | (simp [entryFrame, mkF, argsToLocals, Value.category]; done) | rfl
theorem d25_0 : decode jdk_52_method_83_code 0 = .ok (.iload_n 1, 1) := by decide +kernel
theorem d25_1 : decode jdk_52_method_83_code 1 = .ok (.aload_n 0, 1) := by decide +kernel
theorem d25_2 : decode jdk_52_method_83_code 2 = .ok (.invokestatic 67, 3) := by decide +kernel
theorem pd_75804604 : parseMethodDescriptor "(I[B)V" = some ⟨[.int, (.array .byte)], none⟩ := by decide +kernel
theorem d25_5 : decode jdk_52_method_83_code 5 = .ok (.aload_n 0, 1) := by decide +kernel
theorem d25_6 : decode jdk_52_method_83_code 6 = .ok (.iload_n 1, 1) := by decide +kernel
theorem d25_7 : decode jdk_52_method_83_code 7 = .ok (.invokestatic 71, 3) := by decide +kernel
theorem d25_10 : decode jdk_52_method_83_code 10 = .ok (.ireturn, 1) := by decide +kernel
def Q_uch_ (Z : State) (a : Addr) (ka : ClassId) (N : Int32) (vs : List Value) (j : Nat) (i : Int32) (v0 : Int32) (v1 : Int32) (cc : Int32) (n : Int32) (fm : Value) (h0 : Heap) (n0 : Nat) (rv_ : Option Value) (rh_ : Heap) (rL_ : List Loc) : Prop := (rv_ = some (.int cc)) ∧ (Fr n0 rL_) ∧ (rh_ = h0)
set_option maxRecDepth 65536 in
set_option maxHeartbeats 40000000 in
theorem uch_ (l : Launch) (Z : State) (a0 : Array Value) (hw : HW Z a0) (ws : List Jvm.Cond) (a : Addr) (ka : ClassId) (N : Int32) (vs : List Value) (j : Nat) (i : Int32) (v0 : Int32) (v1 : Int32) (cc : Int32) (n : Int32) (fm : Value) (h0 : Heap) (n0 : Nat) (O0 : Old Z n0 h0) (P0 : sT2 Z (.int 1)) (P1 : sT3 Z (.int 0)) (P2 : sT4 Z (.int 8)) (P3 : sT1 Z fm) (P4 : fm.isRef = true) (P5 : Arv Z h0 a ka .byte N vs (.int 0)) (P6 : (N >>> ((1 : Int32) &&& 31)) = n) (P7 : ¬ i < 0 ∧ i < n) (P8 : i = Int32.ofNat j) (P9 : 2 * j + 1 < vs.length) (P10 : N = Int32.ofNat vs.length) (P11 : vs.length ≤ 4000) (P12 : vs.getD (2 * j) (.int 0) = .int v0) (P13 : vs.getD (2 * j + 1) (.int 0) = .int v1) (P14 : charOf v0 v1 = cc) (P15 : nar .char cc = cc) :
    MetQ l yM37 (Jvm.Cond.code yM37 jdk_52_method_83_code 2 (some .char)) ws (rM 3 0 0 40) Z #[(.ref a), (.int i)] h0 (Q_uch_ Z a ka N vs j i v0 v1 cc n fm h0 n0) := by
  have hfm := P4
  have hret := P6
  have hin := P7
  have hi := P8
  have hj := P9
  have hN := P10
  have hl := P11
  have g0 := P12
  have g1 := P13
  have hcc := P14
  have hnc := P15
  refine metQ (plainFor_of_name pn_46608628) hisR (fun m => ef25_RI m a i) ?_
  intro p e s m below meth c s₁ P Bd hx hby hml hZ hown hnm X0 e0 hP R0
  have N0 := Fr.nil n0
  have R1125 : Go p e below P s₁ (mkF m 2 #[rV a, iV i] [(.ref a), (.int i)]) := fun t_ k_ => R0 t_ (XS.iloadN X0.here hx rfl (hb hby d25_0) rfl (XS.aloadN X0.here hx rfl (hb hby d25_1) rfl rfl k_))
  obtain ⟨rv1126, T1126, Lc1126, X1126, hQ1126, R1126⟩ := callQ X0 hx hZ hown e0 R1125 (uCI_ l Z a0 hw [] i n a ka N vs fm h0 n0 O0 P3 hfm P5 hret hin) (hwI hw 127 rfl) (hwI hw 128 rfl) (hwI hw 88 rfl) (hwI hw 129 rfl) [] rfl (by rw [hml]; rfl) (lenOf pd_75804604 rfl) rfl (W := 0) (wR rfl) (hb hby d25_2)
  obtain ⟨rfl, N1126q, K1126⟩ := hQ1126
  have N1126 := Fr.app N0 N1126q
  have R1127 : Go p e below P T1126 (mkF m 7 #[rV a, iV i] [(.int i), (.ref a)]) := fun t_ k_ => R1126 t_ (XS.aloadN X1126.here hx rfl (hb hby d25_5) rfl rfl (XS.iloadN X1126.here hx rfl (hb hby d25_6) rfl k_))
  obtain ⟨rv1128, T1128, Lc1128, X1128, hQ1128, R1128⟩ := callQ X1126 hx hZ hown K1126 R1127 (getC_ l Z a0 hw [] a ka N vs j i v0 v1 cc h0 n0 O0 P0 P1 P2 P5 hi hj hN hl g0 g1 hcc) (hwI hw 131 rfl) (hwI hw 132 rfl) (hwI hw 88 rfl) (hwI hw 133 rfl) [] rfl (by rw [hml]; rfl) (lenOf pd_20721015 rfl) rfl (W := 0) (wR rfl) (hb hby d25_7)
  obtain ⟨rfl, N1128q, K1128⟩ := hQ1128
  have N1128 := Fr.app N1126 N1128q
  obtain ⟨fs, hr, hrun, hended, hW, hsame⟩ := X1128.leave (v := some (.int (nar .char cc))) (fun h => by rw [Bd.returns] at h; cases h)
  exact ⟨_, _, hP _ (R1128 _ (retN X1128 hx (t := .char) Bd.returns (by simp) (hb hby d25_10) hr)), hrun, hended, _, _, rfl, ⟨(by rw [hnc]), N1128, K1128⟩, ⟨_, rfl⟩, hW, hsame.mono (by decide) (by decide)⟩
theorem d10_16 : decode jdk_42_method_56_code 16 = .ok (.aload_n 0, 1) := by decide +kernel
theorem d10_17 : decode jdk_42_method_56_code 17 = .ok (.getfield 9, 3) := by decide +kernel
theorem d10_20 : decode jdk_42_method_56_code 20 = .ok (.iload_n 1, 1) := by decide +kernel
theorem d10_21 : decode jdk_42_method_56_code 21 = .ok (.invokestatic 498, 3) := by decide +kernel
theorem d10_24 : decode jdk_42_method_56_code 24 = .ok (.ireturn, 1) := by decide +kernel
def Q_uchr_ (Z : State) (a : Addr) (t : Addr) (kb : ClassId) (N : Int32) (vs : List Value) (zc : Int32) (j : Nat) (i : Int32) (v0 : Int32) (v1 : Int32) (cc : Int32) (n : Int32) (fm : Value) (h0 : Heap) (n0 : Nat) (rv_ : Option Value) (rh_ : Heap) (rL_ : List Loc) : Prop := (rv_ = some (.int cc)) ∧ (Fr n0 rL_) ∧ (rh_ = h0)
set_option maxRecDepth 65536 in
set_option maxHeartbeats 40000000 in
theorem uchr_ (l : Launch) (Z : State) (a0 : Array Value) (hw : HW Z a0) (ws : List Jvm.Cond) (a : Addr) (t : Addr) (kb : ClassId) (N : Int32) (vs : List Value) (zc : Int32) (j : Nat) (i : Int32) (v0 : Int32) (v1 : Int32) (cc : Int32) (n : Int32) (fm : Value) (h0 : Heap) (n0 : Nat) (O0 : Old Z n0 h0) (P0 : sT2 Z (.int 1)) (P1 : sT3 Z (.int 0)) (P2 : sT4 Z (.int 8)) (P3 : sT1 Z fm) (P4 : fm.isRef = true) (P5 : Exa Z h0 a "java/lang/String") (P6 : Fld Z h0 a "java/lang/String" "coder" "B" (.int 1)) (P7 : Fld Z h0 a "java/lang/String" "value" "[B" (.ref t)) (P8 : Arv Z h0 t kb .byte N vs (.int 0)) (P9 : sT0 Z (.int zc)) (P10 : ¬ zc = 0) (P11 : (N >>> ((1 : Int32) &&& 31)) = n) (P12 : ¬ i < 0 ∧ i < n) (P13 : i = Int32.ofNat j) (P14 : 2 * j + 1 < vs.length) (P15 : N = Int32.ofNat vs.length) (P16 : vs.length ≤ 4000) (P17 : vs.getD (2 * j) (.int 0) = .int v0) (P18 : vs.getD (2 * j + 1) (.int 0) = .int v1) (P19 : charOf v0 v1 = cc) (P20 : nar .char cc = cc) :
    MetQ l yM6 (Jvm.Cond.code yM6 jdk_42_method_56_code 2 (some .char)) ws (rM 4 0 0 53) Z #[(.ref a), (.int i)] h0 (Q_uchr_ Z a t kb N vs zc j i v0 v1 cc n fm h0 n0) := by
  have hfm := P4
  have hzc := P10
  have hret := P11
  have hin := P12
  have hi := P13
  have hj := P14
  have hN := P15
  have hl := P16
  have g0 := P17
  have g1 := P18
  have hcc := P19
  have hnc := P20
  refine metQ (plainFor_of_name pn_47582652) hisR (fun m => ef10_RI m a i) ?_
  intro p e s m below meth c s₁ P Bd hx hby hml hZ hown hnm X0 e0 hP R0
  have N0 := Fr.nil n0
  have R1129 : Go p e below P s₁ (mkF m 1 #[rV a, iV i] [(.ref a)]) := fun t_ k_ => R0 t_ (XS.aloadN X0.here hx rfl (hb hby d10_0) rfl rfl k_)
  obtain ⟨cq1130, kq1130, q1130a, q1130b, q1130c⟩ := isOf hZ e0 P5
  obtain ⟨rv1130, _, ⟨T1130, L1130, k1130, n1130⟩, -, X1130, ⟨Lc1130, hQ1130, l1130, y1130, z1130⟩, st1130⟩ := X0.virtualBack hx (y := yM1) (z := yM1) hown (mvT hZ (hwI hw 69 rfl)) (mvT hZ (hwI hw 70 rfl)) (notFace_of_selects (args := #[]) (mvT hZ (hwI hw 72 rfl))) (mvT hZ (hwI hw 72 rfl)) (mvT hZ (hwI hw 71 rfl)) (by decide) (backOf (W := 0) (uisL_ l Z a0 hw [] a zc h0 n0 O0 P6 P9 hzc) hZ (hwI hw 73 rfl) (hwI hw 10 rfl) (by decide) (by decide)) q1130a q1130c (g := (mkF m 1 #[rV a, iV i] [(.ref a)])) rfl (by rw [hml]; rfl) (Steps.refl _) (argsL := []) (rest := []) (lenOf pd_16428538 rfl) rfl (by show 2 * 0 + _ ≤ _; exact Nat.le_of_eq rfl) (hb hby d10_1) (fun _ _ => ⟨rfl, e0, (by decide : 0 + 0 ≤ _), (by decide : 0 + 0 ≤ _)⟩)
  dsimp only [Pt.U, Pt.locs, Pt.cells, Pt.slots] at X1130 l1130 y1130 z1130 st1130 hQ1130
  subst l1130 y1130 z1130
  obtain ⟨rfl, N1130q, K1130⟩ := hQ1130
  have N1130 := Fr.app N0 N1130q
  obtain ⟨T1131, X1131, e1131, st1131⟩ := getF X1130 hx hZ hown (host := "") (Or.inl (hwI hw 49 rfl)) Via.refl K1130 P7 (g := (mkF m 17 #[rV a, iV i] [(.ref a)])) rfl rfl (hb hby d10_17)
  have R1132 : Go p e below P T1131 (mkF m 21 #[rV a, iV i] [(.int i), (.ref t)]) := fun t_ k_ => R1129 t_ (st1130.trans (XS.ifYes X1130.here hx rfl (pc0 := 4) (pc' := 16) rfl (hb hby d10_4) rfl ((if0 _ _).trans (teq rfl).1) (by decide) (by decide) (XS.aloadN X1130.here hx rfl (hb hby d10_16) rfl rfl (st1131 t_ (XS.iloadN X1131.here hx rfl (hb hby d10_20) rfl k_)))))
  obtain ⟨rv1133, T1133, Lc1133, X1133, hQ1133, R1133⟩ := callQ X1131 hx hZ hown e1131 R1132 (uch_ l Z a0 hw [] t kb N vs j i v0 v1 cc n fm h0 n0 O0 P0 P1 P2 P3 hfm P8 hret hin hi hj hN hl g0 g1 hcc hnc) (hwI hw 124 rfl) (hwI hw 125 rfl) (hwI hw 88 rfl) (hwI hw 126 rfl) [] rfl (by rw [hml]; rfl) (lenOf pd_20721015 rfl) rfl (W := 0) (wR rfl) (hb hby d10_21)
  obtain ⟨rfl, N1133q, K1133⟩ := hQ1133
  have N1133 := Fr.app N1130 N1133q
  obtain ⟨fs, hr, hrun, hended, hW, hsame⟩ := X1133.leave (v := some (.int (nar .char cc))) (fun h => by rw [Bd.returns] at h; cases h)
  exact ⟨_, _, hP _ (R1133 _ (retN X1133 hx (t := .char) Bd.returns (by simp) (hb hby d10_24) hr)), hrun, hended, _, _, rfl, ⟨(by rw [hnc]), N1133, K1133⟩, ⟨_, rfl⟩, hW, hsame.mono (by decide) (by decide)⟩
theorem n255 {x : Int32} (h : x < (256 : Int32)) : ¬ (255 : Int32) < x := by
  have e1 : (255 : Int32).toInt = 255 := by decide
  have e2 : (256 : Int32).toInt = 256 := by decide
  rw [Int32.lt_iff_toInt_lt, e2] at h
  rw [Int32.lt_iff_toInt_lt, e1]; omega
theorem pn_1434332 : plainName "com/example/lerlo/lerlo/Utf8DecodePinLaw" = true := by first | (simp [plainName, overriddenIn]; done) | decide +kernel
theorem ef0_II (m : MethodId) (x0 : Int32) (x1 : Int32) : entryFrame m #[(.int x0), (.int x1)] maxLocals = mkF m 0 #[iV x0, iV x1, uS, uS, uS, uS, uS, uS] [] := by first | (simp [entryFrame, mkF, argsToLocals, Value.category, maxLocals]; done) | rfl
theorem pd_1336023 : parseMethodDescriptor "([B)Ljava/lang/String;" = some ⟨[(.array .byte)], some (.object "java/lang/String")⟩ := by decide +kernel
theorem pd_16428521 : parseMethodDescriptor "()I" = some ⟨[], some .int⟩ := by decide +kernel
def Q_law_ (Z : State) (px : Int32) (py : Int32) (wU : Addr) (zc : Int32) (fm : Value) (h0 : Heap) (n0 : Nat) (rv_ : Option Value) (rh_ : Heap) (rL_ : List Loc) : Prop := (rv_ = some (.int 1)) ∧ (Fr n0 rL_) ∧ (Keep h0 rh_ [])
set_option maxRecDepth 65536 in
set_option maxHeartbeats 40000000 in
theorem law_ (l : Launch) (Z : State) (a0 : Array Value) (hw : HW Z a0) (ws : List Jvm.Cond) (px : Int32) (py : Int32) (wU : Addr) (zc : Int32) (fm : Value) (h0 : Heap) (n0 : Nat) (O0 : Old Z n0 h0) (P0 : sT5 Z (.ref wU)) (P1 : sT0 Z (.int zc)) (P2 : ¬ zc = 0) (P3 : sT2 Z (.int 1)) (P4 : sT3 Z (.int 0)) (P5 : sT4 Z (.int 8)) (P6 : sT1 Z fm) (P7 : fm.isRef = true) (P8 : sT6 Z (.ref wU)) (P9 : Exa Z Z.heap wU "sun/nio/cs/UTF_8") :
    MetQ l x (Jvm.Cond.code x code maxLocals ret) ws room_1 Z #[(.int px), (.int py)] h0 (Q_law_ Z px py wU zc fm h0 n0) := by
  have hzc := P2
  have hfm := P7
  refine metQ (plainFor_of_name pn_1434332) hisR (fun m => ef0_II m px py) ?_
  intro p e s m below meth c s₁ P Bd hx hby hml hZ hown hnm X0 e0 hP R0
  have N0 := Fr.nil n0
  have R1134 : Go p e below P s₁ (mkF m 7 #[iV px, iV py, uS, uS, uS, uS, uS, uS] [(.int ((px &&& (2147483647 : Int32)) % (1114112 : Int32)))]) := fun t_ k_ => R0 t_ (XS.iloadN X0.here hx rfl (hb hby at_0) rfl (apS (X0.ldcInt hx hown (mvT hZ (hwI hw 0 rfl)) rfl (hb hby at_1)) (XS.iand X0.here hx rfl (hb hby at_3) rfl (apS (X0.ldcInt hx hown (mvT hZ (hwI hw 1 rfl)) rfl (hb hby at_4)) (iremM X0 hx rfl (hb hby at_6) rfl (by decide) k_)))))
  obtain ⟨cp0, hcp0⟩ : ∃ z : Int32, z = ((px &&& (2147483647 : Int32)) % (1114112 : Int32)) := ⟨_, rfl⟩
  have R1135 : Go p e below P s₁ (mkF m 7 #[iV px, iV py, uS, uS, uS, uS, uS, uS] [(.int cp0)]) := by rw [hcp0]; exact R1134
  have R1136 : Go p e below P s₁ (mkF m 8 #[iV px, iV py, iV cp0, uS, uS, uS, uS, uS] []) := fun t_ k_ => R1135 t_ (XS.istoreN X0.here hx rfl (hb hby at_7) rfl (l' := #[iV px, iV py, iV cp0, uS, uS, uS, uS, uS]) rfl k_)
  obtain ⟨cp, hj1138, R1137⟩ : ∃ cp : Int32, (CPok cp) ∧ Go p e below P s₁ (mkF m 26 #[iV px, iV py, iV cp, uS, uS, uS, uS, uS] []) := by
    have R1139 : Go p e below P s₁ (mkF m 11 #[iV px, iV py, iV cp0, uS, uS, uS, uS, uS] [(.int 55296), (.int cp0)]) := fun t_ k_ => R1136 t_ (XS.iloadN X0.here hx rfl (hb hby at_8) rfl (apS (X0.ldcInt hx hown (mvT hZ (hwI hw 2 rfl)) rfl (hb hby at_9)) k_))
    by_cases hc1140 : cp0 < (55296 : Int32)
    · have R1141 : Go p e below P s₁ (mkF m 26 #[iV px, iV py, iV cp0, uS, uS, uS, uS, uS] []) := fun t_ k_ => R1139 t_ (XS.icmpYes X0.here hx rfl (pc0 := 11) (pc' := 26) rfl (hb hby at_11) rfl (tlt hc1140).1 (by decide) (by decide) k_)
      exact ⟨cp0, cpLow hcp0 hc1140, R1141⟩
    · have R1142 : Go p e below P s₁ (mkF m 17 #[iV px, iV py, iV cp0, uS, uS, uS, uS, uS] [(.int 57343), (.int cp0)]) := fun t_ k_ => R1139 t_ (XS.icmpNo X0.here hx rfl (hb hby at_11) rfl (flt hc1140).1 (XS.iloadN X0.here hx rfl (hb hby at_14) rfl (apS (X0.ldcInt hx hown (mvT hZ (hwI hw 134 rfl)) rfl (hb hby at_15)) k_)))
      by_cases hc1143 : (57343 : Int32) < cp0
      · have R1144 : Go p e below P s₁ (mkF m 26 #[iV px, iV py, iV cp0, uS, uS, uS, uS, uS] []) := fun t_ k_ => R1142 t_ (XS.icmpYes X0.here hx rfl (pc0 := 17) (pc' := 26) rfl (hb hby at_17) rfl (tlt hc1143).2.2.1 (by decide) (by decide) k_)
        exact ⟨cp0, cpHigh hcp0 hc1143, R1144⟩
      · have R1145 : Go p e below P s₁ (mkF m 26 #[iV px, iV py, iV (cp0 - (2048 : Int32)), uS, uS, uS, uS, uS] []) := fun t_ k_ => R1142 t_ (XS.icmpNo X0.here hx rfl (hb hby at_17) rfl (flt hc1143).2.2.1 (XS.iloadN X0.here hx rfl (hb hby at_20) rfl (XS.sipush X0.here hx rfl (hb hby at_21) (XS.isub X0.here hx rfl (hb hby at_24) rfl (XS.istoreN X0.here hx rfl (hb hby at_25) rfl (l' := #[iV px, iV py, iV (cp0 - (2048 : Int32)), uS, uS, uS, uS, uS]) rfl k_)))))
        exact ⟨(cp0 - (2048 : Int32)), cpMid hcp0 hc1140 hc1143, R1145⟩
  obtain ⟨hcpn, hcpm, hcps⟩ := hj1138
  have R1146 : Go p e below P s₁ (mkF m 31 #[iV px, iV py, iV cp, uS, uS, uS, uS, uS] [(.int (py &&& (255 : Int32)))]) := fun t_ k_ => R1137 t_ (XS.iloadN X0.here hx rfl (hb hby at_26) rfl (XS.sipush X0.here hx rfl (hb hby at_27) (XS.iand X0.here hx rfl (hb hby at_30) rfl k_)))
  obtain ⟨t, ht⟩ : ∃ z : Int32, z = (py &&& (255 : Int32)) := ⟨_, rfl⟩
  have R1147 : Go p e below P s₁ (mkF m 31 #[iV px, iV py, iV cp, uS, uS, uS, uS, uS] [(.int t)]) := by rw [ht]; exact R1146
  have htr := t_range py
  rw [← ht] at htr
  have R1148 : Go p e below P s₁ (mkF m 36 #[iV px, iV py, iV cp, iV t, uS, uS, uS, uS] [(.int 128), (.int cp)]) := fun t_ k_ => R1147 t_ (XS.istoreN X0.here hx rfl (hb hby at_31) rfl (l' := #[iV px, iV py, iV cp, iV t, uS, uS, uS, uS]) rfl (XS.iloadN X0.here hx rfl (hb hby at_32) rfl (XS.sipush X0.here hx rfl (hb hby at_33) k_)))
  by_cases hc1149 : cp < (128 : Int32)
  · obtain ⟨T1150, h1150, k1150, X1150, e1150, E1150, A1150, Ex1150, st1150⟩ := newPE X0 hx hZ (hwI hw 3 rfl) e0 (g := (mkF m 40 #[iV px, iV py, iV cp, iV t, uS, uS, uS, uS] [(.int 2)])) rfl (hb hby at_40) rfl (by decide) (cap := 2) (by decide) (by decide) (by decide) (by decide) (ad := "[B") (by decide)
    obtain ⟨b1150, g1150⟩ : ∃ z, z = h0.size := ⟨_, rfl⟩
    rw [← g1150] at A1150 Ex1150 st1150
    have O1150 := O0.ext E1150
    have V1150 : Arv Z h1150 b1150 k1150 .byte (2 : Int32) [(.int 0), (.int 0)] (.int 0) := (Arv.new A1150 (by decide)).pad (pad_rep [] (.int 0) 2)
    have R1151 : Go p e below P T1150 (mkF m 49 #[iV px, iV py, iV cp, iV t, rV b1150, uS, uS, uS] [(.int (cp.toInt8.toInt32)), (.int 0), (.ref b1150)]) := fun t_ k_ => R1148 t_ (XS.icmpNo X0.here hx rfl (hb hby at_36) rfl (tlt hc1149).2.1 (XS.iconst X0.here hx rfl (hb hby at_39) (st1150 t_ (XS.astore X1150.here hx rfl (hb hby at_42) rfl rfl (l' := #[iV px, iV py, iV cp, iV t, rV b1150, uS, uS, uS]) rfl (XS.aload X1150.here hx rfl (hb hby at_44) rfl rfl (XS.iconst X1150.here hx rfl (hb hby at_46) (XS.iloadN X1150.here hx rfl (hb hby at_47) rfl (XS.i2b X1150.here hx rfl (hb hby at_48) rfl k_))))))))
    obtain ⟨b1, hb1⟩ : ∃ z : Int32, z = (cp.toInt8.toInt32) := ⟨_, rfl⟩
    have R1152 : Go p e below P T1150 (mkF m 49 #[iV px, iV py, iV cp, iV t, rV b1150, uS, uS, uS] [(.int b1), (.int 0), (.ref b1150)]) := by rw [hb1]; exact R1151
    have eb1 : nar .byte b1 = b1 := by rw [hb1]; exact nar_b8 _
    obtain ⟨cl1153, cl1153A, cl1153q, cl1153S, cl1153N, cl1153H, cl1153G⟩ := id V1150
    obtain ⟨T1154, h1154, X1154, e1154, W1154, st1154⟩ := stB X1150 hx hZ e1150 cl1153A (j := (0 : Int32)) (inb_of cl1153S ⟨by decide, by decide⟩) (g := (mkF m 49 #[iV px, iV py, iV cp, iV t, rV b1150, uS, uS, uS] [(.int b1), (.int 0), (.ref b1150)])) rfl rfl (hb hby at_49)
    have V1154 : Arv Z h1154 b1150 k1150 .byte (2 : Int32) [(.int (nar .byte b1)), (.int 0)] (.int 0) := Arv.set cl1153A cl1153q cl1153S cl1153N cl1153H cl1153G (fits_nar_byte _) W1154 0 rfl (Nat.le_of_ble_eq_true rfl)
    have N1154 := Fr.snoc X1154 N0 (Nat.le_trans (oldLe O0) (Nat.le_of_eq g1150.symm))
    have O1154 := O1150.wr W1154 (Nat.le_trans (oldLe O0) (Nat.le_of_eq g1150.symm))
    have V1154s : Arv Z h1154 b1150 k1150 .byte (2 : Int32) [(.int b1), (.int 0)] (.int 0) := by have q := V1154; rw [eb1] at q; exact q
    have R1155 : Go p e below P T1154 (mkF m 55 #[iV px, iV py, iV cp, iV t, rV b1150, uS, uS, uS] [(.int (t.toInt8.toInt32)), (.int 1), (.ref b1150)]) := fun t_ k_ => R1152 t_ (st1154 t_ (XS.aload X1154.here hx rfl (hb hby at_50) rfl rfl (XS.iconst X1154.here hx rfl (hb hby at_52) (XS.iloadN X1154.here hx rfl (hb hby at_53) rfl (XS.i2b X1154.here hx rfl (hb hby at_54) rfl k_)))))
    obtain ⟨t8, ht8⟩ : ∃ z : Int32, z = (t.toInt8.toInt32) := ⟨_, rfl⟩
    have R1156 : Go p e below P T1154 (mkF m 55 #[iV px, iV py, iV cp, iV t, rV b1150, uS, uS, uS] [(.int t8), (.int 1), (.ref b1150)]) := by rw [ht8]; exact R1155
    have et8 : nar .byte t8 = t8 := by rw [ht8]; exact nar_b8 _
    obtain ⟨cl1157, cl1157A, cl1157q, cl1157S, cl1157N, cl1157H, cl1157G⟩ := id V1154s
    obtain ⟨T1158, h1158, X1158, e1158, W1158, st1158⟩ := stB X1154 hx hZ e1154 cl1157A (j := (1 : Int32)) (inb_of cl1157S ⟨by decide, by decide⟩) (g := (mkF m 55 #[iV px, iV py, iV cp, iV t, rV b1150, uS, uS, uS] [(.int t8), (.int 1), (.ref b1150)])) rfl rfl (hb hby at_55)
    have V1158 : Arv Z h1158 b1150 k1150 .byte (2 : Int32) [(.int b1), (.int (nar .byte t8))] (.int 0) := Arv.set cl1157A cl1157q cl1157S cl1157N cl1157H cl1157G (fits_nar_byte _) W1158 1 rfl (Nat.le_of_ble_eq_true rfl)
    have N1158 := Fr.snoc X1158 N1154 (Nat.le_trans (oldLe O0) (Nat.le_of_eq g1150.symm))
    have O1158 := O1154.wr W1158 (Nat.le_trans (oldLe O0) (Nat.le_of_eq g1150.symm))
    have V1158s : Arv Z h1158 b1150 k1150 .byte (2 : Int32) [(.int b1), (.int t8)] (.int 0) := by have q := V1158; rw [et8] at q; exact q
    have R1159 : Go p e below P T1158 (mkF m 239 #[iV px, iV py, iV cp, iV t, rV b1150, uS, uS, uS] [(.ref b1150)]) := fun t_ k_ => R1156 t_ (st1158 t_ (XS.goto X1158.here hx rfl (pc0 := 56) (pc' := 237) rfl (hb hby at_56) (by decide) (by decide) (XS.aload X1158.here hx rfl (hb hby at_237) rfl rfl k_)))
    by_cases tl1160 : t < (128 : Int32)
    · have q8 : t8 = t := ht8.trans (lo8_id htr.1 tl1160)
      have n8 : ¬ t8 < (0 : Int32) := by rw [q8]; exact htr.1
      have t65 := lt_trans32 htr.2 (show (256 : Int32).toInt ≤ (65536 : Int32).toInt from by decide)
      have i8 : (t8.toUInt32.toUInt16.toUInt32.toInt32) = t8 := by rw [q8]; exact i2c_id htr.1 t65
      have u8 : t8 < (65536 : Int32) := by rw [q8]; exact t65
      have cp65 : cp < (65536 : Int32) := lt_trans32 hc1149 (by decide)
      have qb : b1 = cp := hb1.trans (lo8_id hcpn hc1149)
      have nb : ¬ b1 < (0 : Int32) := by rw [qb]; exact hcpn
      have c256 : cp < (256 : Int32) := lt_trans32 hc1149 (by decide)
      have hcs : ∀ c_ ∈ ([cp, t] : List Int32), ¬ c_ < 0 ∧ ¬ (255 : Int32) < c_ := by
        intro c_ hc
        simp only [List.mem_cons, List.not_mem_nil, or_false] at hc
        rcases hc with hc | hc
        · rw [hc]; exact ⟨hcpn, n255 c256⟩
        · rw [hc]; exact ⟨htr.1, n255 htr.2⟩
      have f1161 := ((Ex1150.wr W1154).wr W1158)
      obtain ⟨rv1162, T1162, Lc1162, X1162, hQ1162, R1162⟩ := callQ X1158 hx hZ hown e1158 R1159 (decA1_ l Z a0 hw [] b1150 k1150 b1 t8 wU zc fm h1158 n0 O1158 V1158s f1161 P0 P1 hzc P3 P4 P5 P6 hfm P8 P9 nb n8) (hwI hw 4 rfl) (hwI hw 5 rfl) (hwI hw 6 rfl) (hwI hw 7 rfl) [] rfl (by rw [hml]; rfl) (lenOf pd_1336023 rfl) rfl (W := 0) (wR rfl) (hb hby at_239)
      obtain ⟨x_1162, t_1162, kb_1162, rfl, N1162q, K1162, p1162_0, p1162_1, p1162_2, p1162_3, p1162_4⟩ := hQ1162
      have N1162 := Fr.app N1158 N1162q
      have O1162 := O1158.keep K1162 all0
      have Vl1163 : Arv Z T1162.heap t_1162 kb_1162 .byte (Int32.ofNat ([cp, t] : List Int32).length) ((([cp, t] : List Int32).map lo8).map Value.int) (.int 0) := by have q := p1162_4; rw [hb1, ht8] at q; exact q
      have R1164 : Go p e below P T1162 (mkF m 268 #[iV px, iV py, iV cp, iV t, rV b1150, rV x_1162, iV (t.toUInt32.toUInt16.toUInt32.toInt32), uS] [(.ref x_1162)]) := fun t_ k_ => R1162 t_ (XS.astore X1162.here hx rfl (hb hby at_242) rfl rfl (l' := #[iV px, iV py, iV cp, iV t, rV b1150, rV x_1162, uS, uS]) rfl (XS.iloadN X1162.here hx rfl (hb hby at_244) rfl (XS.sipush X1162.here hx rfl (hb hby at_245) (XS.icmpNo X1162.here hx rfl (hb hby at_248) rfl (tlt tl1160).2.1 (XS.iloadN X1162.here hx rfl (hb hby at_251) rfl (XS.i2c X1162.here hx rfl (hb hby at_252) rfl (XS.goto X1162.here hx rfl (pc0 := 253) (pc' := 258) rfl (hb hby at_253) (by decide) (by decide) (XS.istore X1162.here hx rfl (hb hby at_258) rfl (l' := #[iV px, iV py, iV cp, iV t, rV b1150, rV x_1162, iV (t.toUInt32.toUInt16.toUInt32.toInt32), uS]) rfl (XS.iloadN X1162.here hx rfl (hb hby at_260) rfl (apS (X1162.ldcInt hx hown (mvT hZ (hwI hw 53 rfl)) rfl (hb hby at_261)) (XS.icmpNo X1162.here hx rfl (hb hby at_263) rfl (tlt cp65).2.1 (XS.aload X1162.here hx rfl (hb hby at_266) rfl rfl k_))))))))))))
      obtain ⟨cq1165, kq1165, q1165a, q1165b, q1165c⟩ := isOf hZ (rfl : T1162.heap = T1162.heap) p1162_1
      obtain ⟨rv1165, _, ⟨T1165, L1165, k1165, n1165⟩, -, X1165, ⟨Lc1165, hQ1165, l1165, y1165, z1165⟩, st1165⟩ := X1162.virtualBack hx (y := yM2) (z := yM2) hown (mvT hZ (hwI hw 54 rfl)) (mvT hZ (hwI hw 55 rfl)) (notFace_of_selects (args := #[]) (mvT hZ (hwI hw 57 rfl))) (mvT hZ (hwI hw 57 rfl)) (mvT hZ (hwI hw 56 rfl)) (by decide) (backOf (W := 0) (llen_ l Z a0 hw [] x_1162 t_1162 kb_1162 (Int32.ofNat ([cp, t] : List Int32).length) ((([cp, t] : List Int32).map lo8).map Value.int) zc T1162.heap n0 O1162 p1162_1 p1162_2 p1162_3 Vl1163 P1 hzc) hZ (hwI hw 58 rfl) (hwI hw 10 rfl) (by decide) (by decide)) q1165a q1165c (g := (mkF m 268 #[iV px, iV py, iV cp, iV t, rV b1150, rV x_1162, iV (t.toUInt32.toUInt16.toUInt32.toInt32), uS] [(.ref x_1162)])) rfl (by rw [hml]; rfl) (Steps.refl _) (argsL := []) (rest := []) (lenOf pd_16428521 rfl) rfl (by show 2 * 0 + _ ≤ _; exact Nat.le_of_eq rfl) (hb hby at_268) (fun _ _ => ⟨rfl, (rfl : T1162.heap = T1162.heap), (by decide : 3 + 0 ≤ _), (by decide : 8 + 0 ≤ _)⟩)
      dsimp only [Pt.U, Pt.locs, Pt.cells, Pt.slots] at X1165 l1165 y1165 z1165 st1165 hQ1165
      subst l1165 y1165 z1165
      obtain ⟨rfl, N1165q, K1165⟩ := hQ1165
      have N1165 := Fr.app N1162 N1165q
      have R1166 : Go p e below P T1165 (mkF m 278 #[iV px, iV py, iV cp, iV t, rV b1150, rV x_1162, iV (t.toUInt32.toUInt16.toUInt32.toInt32), uS] [(.int 0), (.ref x_1162)]) := fun t_ k_ => R1164 t_ (st1165.trans (XS.iconst X1165.here hx rfl (hb hby at_271) (XS.icmpNo X1165.here hx rfl (hb hby at_272) rfl (teq (show (Int32.ofNat ([cp, t] : List Int32).length) = (2 : Int32) from rfl)).2 (XS.aload X1165.here hx rfl (hb hby at_275) rfl rfl (XS.iconst X1165.here hx rfl (hb hby at_277) k_)))))
      obtain ⟨cq1167, kq1167, q1167a, q1167b, q1167c⟩ := isOf hZ K1165 p1162_1
      obtain ⟨rv1167, _, ⟨T1167, L1167, k1167, n1167⟩, -, X1167, ⟨Lc1167, hQ1167, l1167, y1167, z1167⟩, st1167⟩ := X1165.virtualBack hx (y := yM6) (z := yM6) hown (mvT hZ (hwI hw 64 rfl)) (mvT hZ (hwI hw 65 rfl)) (notFace_of_selects (args := #[]) (mvT hZ (hwI hw 67 rfl))) (mvT hZ (hwI hw 67 rfl)) (mvT hZ (hwI hw 66 rfl)) (by decide) (backOf (W := 0) (lch_ l Z a0 hw [] x_1162 t_1162 kb_1162 ([cp, t] : List Int32) (0 : Int32) 0 fm zc T1162.heap n0 O1162 p1162_1 p1162_2 p1162_3 Vl1163 P1 hzc P6 hfm rfl (Nat.le_of_ble_eq_true rfl) (Nat.le_of_ble_eq_true rfl) hcs) hZ (hwI hw 68 rfl) (hwI hw 10 rfl) (by decide) (by decide)) q1167a q1167c (g := (mkF m 278 #[iV px, iV py, iV cp, iV t, rV b1150, rV x_1162, iV (t.toUInt32.toUInt16.toUInt32.toInt32), uS] [(.int 0), (.ref x_1162)])) rfl (by rw [hml]; rfl) (Steps.refl _) (argsL := [(.int 0)]) (rest := []) (lenOf pd_52681278 rfl) rfl (by show 2 * 0 + _ ≤ _; exact Nat.le_of_eq rfl) (hb hby at_278) (fun _ _ => ⟨rfl, K1165, (by decide : 3 + 0 ≤ _), (by decide : 8 + 0 ≤ _)⟩)
      dsimp only [Pt.U, Pt.locs, Pt.cells, Pt.slots] at X1167 l1167 y1167 z1167 st1167 hQ1167
      subst l1167 y1167 z1167
      obtain ⟨rfl, N1167q, K1167⟩ := hQ1167
      have N1167 := Fr.app N1165 N1167q
      have R1168 : Go p e below P T1167 (mkF m 289 #[iV px, iV py, iV cp, iV t, rV b1150, rV x_1162, iV (t.toUInt32.toUInt16.toUInt32.toInt32), uS] [(.int 1), (.ref x_1162)]) := fun t_ k_ => R1166 t_ (st1167.trans (XS.iloadN X1167.here hx rfl (hb hby at_281) rfl (XS.i2c X1167.here hx rfl (hb hby at_282) rfl (XS.icmpNo X1167.here hx rfl (hb hby at_283) rfl (teq (show (([cp, t] : List Int32).getD 0 0) = (cp.toUInt32.toUInt16.toUInt32.toInt32) from (i2c_id hcpn cp65).symm)).2 (XS.aload X1167.here hx rfl (hb hby at_286) rfl rfl (XS.iconst X1167.here hx rfl (hb hby at_288) k_))))))
      obtain ⟨cq1169, kq1169, q1169a, q1169b, q1169c⟩ := isOf hZ K1167 p1162_1
      obtain ⟨rv1169, _, ⟨T1169, L1169, k1169, n1169⟩, -, X1169, ⟨Lc1169, hQ1169, l1169, y1169, z1169⟩, st1169⟩ := X1167.virtualBack hx (y := yM6) (z := yM6) hown (mvT hZ (hwI hw 64 rfl)) (mvT hZ (hwI hw 65 rfl)) (notFace_of_selects (args := #[]) (mvT hZ (hwI hw 67 rfl))) (mvT hZ (hwI hw 67 rfl)) (mvT hZ (hwI hw 66 rfl)) (by decide) (backOf (W := 0) (lch_ l Z a0 hw [] x_1162 t_1162 kb_1162 ([cp, t] : List Int32) (1 : Int32) 1 fm zc T1162.heap n0 O1162 p1162_1 p1162_2 p1162_3 Vl1163 P1 hzc P6 hfm rfl (Nat.le_of_ble_eq_true rfl) (Nat.le_of_ble_eq_true rfl) hcs) hZ (hwI hw 68 rfl) (hwI hw 10 rfl) (by decide) (by decide)) q1169a q1169c (g := (mkF m 289 #[iV px, iV py, iV cp, iV t, rV b1150, rV x_1162, iV (t.toUInt32.toUInt16.toUInt32.toInt32), uS] [(.int 1), (.ref x_1162)])) rfl (by rw [hml]; rfl) (Steps.refl _) (argsL := [(.int 1)]) (rest := []) (lenOf pd_52681278 rfl) rfl (by show 2 * 0 + _ ≤ _; exact Nat.le_of_eq rfl) (hb hby at_289) (fun _ _ => ⟨rfl, K1167, (by decide : 3 + 0 ≤ _), (by decide : 8 + 0 ≤ _)⟩)
      dsimp only [Pt.U, Pt.locs, Pt.cells, Pt.slots] at X1169 l1169 y1169 z1169 st1169 hQ1169
      subst l1169 y1169 z1169
      obtain ⟨rfl, N1169q, K1169⟩ := hQ1169
      have N1169 := Fr.app N1167 N1169q
      have R1170 : Go p e below P T1169 (mkF m 302 #[iV px, iV py, iV cp, iV t, rV b1150, rV x_1162, iV (t.toUInt32.toUInt16.toUInt32.toInt32), uS] [(.int 1)]) := fun t_ k_ => R1168 t_ (st1169.trans (XS.iload X1169.here hx rfl (hb hby at_292) rfl (XS.icmpNo X1169.here hx rfl (hb hby at_294) rfl (teq (show (([cp, t] : List Int32).getD 1 0) = (t.toUInt32.toUInt16.toUInt32.toInt32) from (i2c_id htr.1 t65).symm)).2 (XS.iconst X1169.here hx rfl (hb hby at_297) (XS.goto X1169.here hx rfl (pc0 := 298) (pc' := 302) rfl (hb hby at_298) (by decide) (by decide) k_)))))
      obtain ⟨fs, hr, hrun, hended, hW, hsame⟩ := X1169.leave (v := some (.int (nar .boolean (1 : Int32)))) (fun h => by rw [Bd.returns] at h; cases h)
      exact ⟨_, _, hP _ (R1170 _ (retN X1169 hx (t := .boolean) Bd.returns (by simp) (hb hby at_302) hr)), hrun, hended, _, _, rfl, ⟨rfl, N1169, (K1169.symm ▸ (((((Keep.refl h0 []).ext E1150).wr W1154 (Or.inr (Nat.le_of_eq g1150.symm))).wr W1158 (Or.inr (Nat.le_of_eq g1150.symm))).trans K1162 all0))⟩, ⟨_, rfl⟩, hW, hsame.mono (by decide) (by decide)⟩
    · have n8 : t8 < (0 : Int32) := by rw [ht8]; exact lo8_neg tl1160 htr.2
      have cp65 : cp < (65536 : Int32) := lt_trans32 hc1149 (by decide)
      have qb : b1 = cp := hb1.trans (lo8_id hcpn hc1149)
      have nb : ¬ b1 < (0 : Int32) := by rw [qb]; exact hcpn
      have c256 : cp < (256 : Int32) := lt_trans32 hc1149 (by decide)
      have hc0 : (b1 &&& (255 : Int32)) = cp := by rw [hb1]; exact and255 hcpn c256
      have f1171 := ((Ex1150.wr W1154).wr W1158)
      obtain ⟨rv1172, T1172, Lc1172, X1172, hQ1172, R1172⟩ := callQ X1158 hx hZ hown e1158 R1159 (decA2_ l Z a0 hw [] b1150 k1150 b1 t8 cp wU zc fm h1158 n0 O1158 V1158s f1171 P0 P1 hzc P3 P4 P5 P6 hfm P8 P9 nb n8 hc0) (hwI hw 4 rfl) (hwI hw 5 rfl) (hwI hw 6 rfl) (hwI hw 7 rfl) [] rfl (by rw [hml]; rfl) (lenOf pd_1336023 rfl) rfl (W := 0) (wR rfl) (hb hby at_239)
      obtain ⟨x_1172, t_1172, kb_1172, rfl, N1172q, K1172, p1172_0, p1172_1, p1172_2, p1172_3, p1172_4⟩ := hQ1172
      have N1172 := Fr.app N1158 N1172q
      have O1172 := O1158.keep K1172 all0
      have R1173 : Go p e below P T1172 (mkF m 268 #[iV px, iV py, iV cp, iV t, rV b1150, rV x_1172, iV 65533, uS] [(.ref x_1172)]) := fun t_ k_ => R1172 t_ (XS.astore X1172.here hx rfl (hb hby at_242) rfl rfl (l' := #[iV px, iV py, iV cp, iV t, rV b1150, rV x_1172, uS, uS]) rfl (XS.iloadN X1172.here hx rfl (hb hby at_244) rfl (XS.sipush X1172.here hx rfl (hb hby at_245) (XS.icmpYes X1172.here hx rfl (pc0 := 248) (pc' := 256) rfl (hb hby at_248) rfl (flt tl1160).2.1 (by decide) (by decide) (apS (X1172.ldcInt hx hown (mvT hZ (hwI hw 123 rfl)) rfl (hb hby at_256)) (XS.istore X1172.here hx rfl (hb hby at_258) rfl (l' := #[iV px, iV py, iV cp, iV t, rV b1150, rV x_1172, iV 65533, uS]) rfl (XS.iloadN X1172.here hx rfl (hb hby at_260) rfl (apS (X1172.ldcInt hx hown (mvT hZ (hwI hw 53 rfl)) rfl (hb hby at_261)) (XS.icmpNo X1172.here hx rfl (hb hby at_263) rfl (tlt cp65).2.1 (XS.aload X1172.here hx rfl (hb hby at_266) rfl rfl k_))))))))))
      obtain ⟨cq1174, kq1174, q1174a, q1174b, q1174c⟩ := isOf hZ (rfl : T1172.heap = T1172.heap) p1172_1
      obtain ⟨rv1174, _, ⟨T1174, L1174, k1174, n1174⟩, -, X1174, ⟨Lc1174, hQ1174, l1174, y1174, z1174⟩, st1174⟩ := X1172.virtualBack hx (y := yM2) (z := yM2) hown (mvT hZ (hwI hw 54 rfl)) (mvT hZ (hwI hw 55 rfl)) (notFace_of_selects (args := #[]) (mvT hZ (hwI hw 57 rfl))) (mvT hZ (hwI hw 57 rfl)) (mvT hZ (hwI hw 56 rfl)) (by decide) (backOf (W := 0) (ulen_ l Z a0 hw [] x_1172 t_1172 kb_1172 (4 : Int32) ([(.int (loB cp)), (.int (hiB cp)), (.int (loB (65533 : Int32))), (.int (hiB (65533 : Int32)))]) zc (2 : Int32) T1172.heap n0 O1172 p1172_1 p1172_2 p1172_3 p1172_4 P1 hzc (by decide)) hZ (hwI hw 58 rfl) (hwI hw 10 rfl) (by decide) (by decide)) q1174a q1174c (g := (mkF m 268 #[iV px, iV py, iV cp, iV t, rV b1150, rV x_1172, iV 65533, uS] [(.ref x_1172)])) rfl (by rw [hml]; rfl) (Steps.refl _) (argsL := []) (rest := []) (lenOf pd_16428521 rfl) rfl (by show 2 * 0 + _ ≤ _; exact Nat.le_of_eq rfl) (hb hby at_268) (fun _ _ => ⟨rfl, (rfl : T1172.heap = T1172.heap), (by decide : 4 + 0 ≤ _), (by decide : 12 + 0 ≤ _)⟩)
      dsimp only [Pt.U, Pt.locs, Pt.cells, Pt.slots] at X1174 l1174 y1174 z1174 st1174 hQ1174
      subst l1174 y1174 z1174
      obtain ⟨rfl, N1174q, K1174⟩ := hQ1174
      have N1174 := Fr.app N1172 N1174q
      have R1175 : Go p e below P T1174 (mkF m 278 #[iV px, iV py, iV cp, iV t, rV b1150, rV x_1172, iV 65533, uS] [(.int 0), (.ref x_1172)]) := fun t_ k_ => R1173 t_ (st1174.trans (XS.iconst X1174.here hx rfl (hb hby at_271) (XS.icmpNo X1174.here hx rfl (hb hby at_272) rfl (teq rfl).2 (XS.aload X1174.here hx rfl (hb hby at_275) rfl rfl (XS.iconst X1174.here hx rfl (hb hby at_277) k_)))))
      obtain ⟨cq1176, kq1176, q1176a, q1176b, q1176c⟩ := isOf hZ K1174 p1172_1
      obtain ⟨rv1176, _, ⟨T1176, L1176, k1176, n1176⟩, -, X1176, ⟨Lc1176, hQ1176, l1176, y1176, z1176⟩, st1176⟩ := X1174.virtualBack hx (y := yM6) (z := yM6) hown (mvT hZ (hwI hw 64 rfl)) (mvT hZ (hwI hw 65 rfl)) (notFace_of_selects (args := #[]) (mvT hZ (hwI hw 67 rfl))) (mvT hZ (hwI hw 67 rfl)) (mvT hZ (hwI hw 66 rfl)) (by decide) (backOf (W := 0) (uchr_ l Z a0 hw [] x_1172 t_1172 kb_1172 (4 : Int32) ([(.int (loB cp)), (.int (hiB cp)), (.int (loB (65533 : Int32))), (.int (hiB (65533 : Int32)))]) zc 0 (0 : Int32) (loB cp) (hiB cp) cp (2 : Int32) fm T1172.heap n0 O1172 P3 P4 P5 P6 hfm p1172_1 p1172_2 p1172_3 p1172_4 P1 hzc (by decide) ⟨by decide, by decide⟩ rfl (Nat.le_of_ble_eq_true rfl) rfl (Nat.le_of_ble_eq_true rfl) rfl rfl (charOf_id hcpn cp65) (i2c_id hcpn cp65)) hZ (hwI hw 68 rfl) (hwI hw 10 rfl) (by decide) (by decide)) q1176a q1176c (g := (mkF m 278 #[iV px, iV py, iV cp, iV t, rV b1150, rV x_1172, iV 65533, uS] [(.int 0), (.ref x_1172)])) rfl (by rw [hml]; rfl) (Steps.refl _) (argsL := [(.int 0)]) (rest := []) (lenOf pd_52681278 rfl) rfl (by show 2 * 0 + _ ≤ _; exact Nat.le_of_eq rfl) (hb hby at_278) (fun _ _ => ⟨rfl, K1174, (by decide : 4 + 0 ≤ _), (by decide : 12 + 0 ≤ _)⟩)
      dsimp only [Pt.U, Pt.locs, Pt.cells, Pt.slots] at X1176 l1176 y1176 z1176 st1176 hQ1176
      subst l1176 y1176 z1176
      obtain ⟨rfl, N1176q, K1176⟩ := hQ1176
      have N1176 := Fr.app N1174 N1176q
      have R1177 : Go p e below P T1176 (mkF m 289 #[iV px, iV py, iV cp, iV t, rV b1150, rV x_1172, iV 65533, uS] [(.int 1), (.ref x_1172)]) := fun t_ k_ => R1175 t_ (st1176.trans (XS.iloadN X1176.here hx rfl (hb hby at_281) rfl (XS.i2c X1176.here hx rfl (hb hby at_282) rfl (XS.icmpNo X1176.here hx rfl (hb hby at_283) rfl (teq (show cp = (cp.toUInt32.toUInt16.toUInt32.toInt32) from (i2c_id hcpn cp65).symm)).2 (XS.aload X1176.here hx rfl (hb hby at_286) rfl rfl (XS.iconst X1176.here hx rfl (hb hby at_288) k_))))))
      obtain ⟨cq1178, kq1178, q1178a, q1178b, q1178c⟩ := isOf hZ K1176 p1172_1
      obtain ⟨rv1178, _, ⟨T1178, L1178, k1178, n1178⟩, -, X1178, ⟨Lc1178, hQ1178, l1178, y1178, z1178⟩, st1178⟩ := X1176.virtualBack hx (y := yM6) (z := yM6) hown (mvT hZ (hwI hw 64 rfl)) (mvT hZ (hwI hw 65 rfl)) (notFace_of_selects (args := #[]) (mvT hZ (hwI hw 67 rfl))) (mvT hZ (hwI hw 67 rfl)) (mvT hZ (hwI hw 66 rfl)) (by decide) (backOf (W := 0) (uchr_ l Z a0 hw [] x_1172 t_1172 kb_1172 (4 : Int32) ([(.int (loB cp)), (.int (hiB cp)), (.int (loB (65533 : Int32))), (.int (hiB (65533 : Int32)))]) zc 1 (1 : Int32) (loB (65533 : Int32)) (hiB (65533 : Int32)) (65533 : Int32) (2 : Int32) fm T1172.heap n0 O1172 P3 P4 P5 P6 hfm p1172_1 p1172_2 p1172_3 p1172_4 P1 hzc (by decide) ⟨by decide, by decide⟩ rfl (Nat.le_of_ble_eq_true rfl) rfl (Nat.le_of_ble_eq_true rfl) rfl rfl (charOf_id (by decide) (by decide)) (i2c_id (by decide) (by decide))) hZ (hwI hw 68 rfl) (hwI hw 10 rfl) (by decide) (by decide)) q1178a q1178c (g := (mkF m 289 #[iV px, iV py, iV cp, iV t, rV b1150, rV x_1172, iV 65533, uS] [(.int 1), (.ref x_1172)])) rfl (by rw [hml]; rfl) (Steps.refl _) (argsL := [(.int 1)]) (rest := []) (lenOf pd_52681278 rfl) rfl (by show 2 * 0 + _ ≤ _; exact Nat.le_of_eq rfl) (hb hby at_289) (fun _ _ => ⟨rfl, K1176, (by decide : 4 + 0 ≤ _), (by decide : 12 + 0 ≤ _)⟩)
      dsimp only [Pt.U, Pt.locs, Pt.cells, Pt.slots] at X1178 l1178 y1178 z1178 st1178 hQ1178
      subst l1178 y1178 z1178
      obtain ⟨rfl, N1178q, K1178⟩ := hQ1178
      have N1178 := Fr.app N1176 N1178q
      have R1179 : Go p e below P T1178 (mkF m 302 #[iV px, iV py, iV cp, iV t, rV b1150, rV x_1172, iV 65533, uS] [(.int 1)]) := fun t_ k_ => R1177 t_ (st1178.trans (XS.iload X1178.here hx rfl (hb hby at_292) rfl (XS.icmpNo X1178.here hx rfl (hb hby at_294) rfl (teq rfl).2 (XS.iconst X1178.here hx rfl (hb hby at_297) (XS.goto X1178.here hx rfl (pc0 := 298) (pc' := 302) rfl (hb hby at_298) (by decide) (by decide) k_)))))
      obtain ⟨fs, hr, hrun, hended, hW, hsame⟩ := X1178.leave (v := some (.int (nar .boolean (1 : Int32)))) (fun h => by rw [Bd.returns] at h; cases h)
      exact ⟨_, _, hP _ (R1179 _ (retN X1178 hx (t := .boolean) Bd.returns (by simp) (hb hby at_302) hr)), hrun, hended, _, _, rfl, ⟨rfl, N1178, (K1178.symm ▸ (((((Keep.refl h0 []).ext E1150).wr W1154 (Or.inr (Nat.le_of_eq g1150.symm))).wr W1158 (Or.inr (Nat.le_of_eq g1150.symm))).trans K1172 all0))⟩, ⟨_, rfl⟩, hW, hsame.mono (by decide) (by decide)⟩
  · have R1180 : Go p e below P s₁ (mkF m 63 #[iV px, iV py, iV cp, iV t, uS, uS, uS, uS] [(.int 2048), (.int cp)]) := fun t_ k_ => R1148 t_ (XS.icmpYes X0.here hx rfl (pc0 := 36) (pc' := 59) rfl (hb hby at_36) rfl (flt hc1149).2.1 (by decide) (by decide) (XS.iloadN X0.here hx rfl (hb hby at_59) rfl (XS.sipush X0.here hx rfl (hb hby at_60) k_)))
    by_cases hc1181 : cp < (2048 : Int32)
    · obtain ⟨T1182, h1182, k1182, X1182, e1182, E1182, A1182, Ex1182, st1182⟩ := newPE X0 hx hZ (hwI hw 3 rfl) e0 (g := (mkF m 67 #[iV px, iV py, iV cp, iV t, uS, uS, uS, uS] [(.int 3)])) rfl (hb hby at_67) rfl (by decide) (cap := 3) (by decide) (by decide) (by decide) (by decide) (ad := "[B") (by decide)
      obtain ⟨b1182, g1182⟩ : ∃ z, z = h0.size := ⟨_, rfl⟩
      rw [← g1182] at A1182 Ex1182 st1182
      have O1182 := O0.ext E1182
      have V1182 : Arv Z h1182 b1182 k1182 .byte (3 : Int32) [(.int 0), (.int 0), (.int 0)] (.int 0) := (Arv.new A1182 (by decide)).pad (pad_rep [] (.int 0) 3)
      have R1183 : Go p e below P T1182 (mkF m 83 #[iV px, iV py, iV cp, iV t, rV b1182, uS, uS, uS] [(.int (((192 : Int32) ||| (cp >>> ((6 : Int32) &&& 31))).toInt8.toInt32)), (.int 0), (.ref b1182)]) := fun t_ k_ => R1180 t_ (XS.icmpNo X0.here hx rfl (hb hby at_63) rfl (tlt hc1181).2.1 (XS.iconst X0.here hx rfl (hb hby at_66) (st1182 t_ (XS.astore X1182.here hx rfl (hb hby at_69) rfl rfl (l' := #[iV px, iV py, iV cp, iV t, rV b1182, uS, uS, uS]) rfl (XS.aload X1182.here hx rfl (hb hby at_71) rfl rfl (XS.iconst X1182.here hx rfl (hb hby at_73) (XS.sipush X1182.here hx rfl (hb hby at_74) (XS.iloadN X1182.here hx rfl (hb hby at_77) rfl (XS.bipush X1182.here hx rfl (hb hby at_78) (XS.ishr X1182.here hx rfl (hb hby at_80) rfl (XS.ior X1182.here hx rfl (hb hby at_81) rfl (XS.i2b X1182.here hx rfl (hb hby at_82) rfl k_))))))))))))
      obtain ⟨b1, hb1⟩ : ∃ z : Int32, z = (((192 : Int32) ||| (cp >>> ((6 : Int32) &&& 31))).toInt8.toInt32) := ⟨_, rfl⟩
      have R1184 : Go p e below P T1182 (mkF m 83 #[iV px, iV py, iV cp, iV t, rV b1182, uS, uS, uS] [(.int b1), (.int 0), (.ref b1182)]) := by rw [hb1]; exact R1183
      have eb1 : nar .byte b1 = b1 := by rw [hb1]; exact nar_b8 _
      obtain ⟨cl1185, cl1185A, cl1185q, cl1185S, cl1185N, cl1185H, cl1185G⟩ := id V1182
      obtain ⟨T1186, h1186, X1186, e1186, W1186, st1186⟩ := stB X1182 hx hZ e1182 cl1185A (j := (0 : Int32)) (inb_of cl1185S ⟨by decide, by decide⟩) (g := (mkF m 83 #[iV px, iV py, iV cp, iV t, rV b1182, uS, uS, uS] [(.int b1), (.int 0), (.ref b1182)])) rfl rfl (hb hby at_83)
      have V1186 : Arv Z h1186 b1182 k1182 .byte (3 : Int32) [(.int (nar .byte b1)), (.int 0), (.int 0)] (.int 0) := Arv.set cl1185A cl1185q cl1185S cl1185N cl1185H cl1185G (fits_nar_byte _) W1186 0 rfl (Nat.le_of_ble_eq_true rfl)
      have N1186 := Fr.snoc X1186 N0 (Nat.le_trans (oldLe O0) (Nat.le_of_eq g1182.symm))
      have O1186 := O1182.wr W1186 (Nat.le_trans (oldLe O0) (Nat.le_of_eq g1182.symm))
      have V1186s : Arv Z h1186 b1182 k1182 .byte (3 : Int32) [(.int b1), (.int 0), (.int 0)] (.int 0) := by have q := V1186; rw [eb1] at q; exact q
      have R1187 : Go p e below P T1186 (mkF m 96 #[iV px, iV py, iV cp, iV t, rV b1182, uS, uS, uS] [(.int (((128 : Int32) ||| (cp &&& (63 : Int32))).toInt8.toInt32)), (.int 1), (.ref b1182)]) := fun t_ k_ => R1184 t_ (st1186 t_ (XS.aload X1186.here hx rfl (hb hby at_84) rfl rfl (XS.iconst X1186.here hx rfl (hb hby at_86) (XS.sipush X1186.here hx rfl (hb hby at_87) (XS.iloadN X1186.here hx rfl (hb hby at_90) rfl (XS.bipush X1186.here hx rfl (hb hby at_91) (XS.iand X1186.here hx rfl (hb hby at_93) rfl (XS.ior X1186.here hx rfl (hb hby at_94) rfl (XS.i2b X1186.here hx rfl (hb hby at_95) rfl k_)))))))))
      obtain ⟨b2, hb2⟩ : ∃ z : Int32, z = (((128 : Int32) ||| (cp &&& (63 : Int32))).toInt8.toInt32) := ⟨_, rfl⟩
      have R1188 : Go p e below P T1186 (mkF m 96 #[iV px, iV py, iV cp, iV t, rV b1182, uS, uS, uS] [(.int b2), (.int 1), (.ref b1182)]) := by rw [hb2]; exact R1187
      have eb2 : nar .byte b2 = b2 := by rw [hb2]; exact nar_b8 _
      obtain ⟨cl1189, cl1189A, cl1189q, cl1189S, cl1189N, cl1189H, cl1189G⟩ := id V1186s
      obtain ⟨T1190, h1190, X1190, e1190, W1190, st1190⟩ := stB X1186 hx hZ e1186 cl1189A (j := (1 : Int32)) (inb_of cl1189S ⟨by decide, by decide⟩) (g := (mkF m 96 #[iV px, iV py, iV cp, iV t, rV b1182, uS, uS, uS] [(.int b2), (.int 1), (.ref b1182)])) rfl rfl (hb hby at_96)
      have V1190 : Arv Z h1190 b1182 k1182 .byte (3 : Int32) [(.int b1), (.int (nar .byte b2)), (.int 0)] (.int 0) := Arv.set cl1189A cl1189q cl1189S cl1189N cl1189H cl1189G (fits_nar_byte _) W1190 1 rfl (Nat.le_of_ble_eq_true rfl)
      have N1190 := Fr.snoc X1190 N1186 (Nat.le_trans (oldLe O0) (Nat.le_of_eq g1182.symm))
      have O1190 := O1186.wr W1190 (Nat.le_trans (oldLe O0) (Nat.le_of_eq g1182.symm))
      have V1190s : Arv Z h1190 b1182 k1182 .byte (3 : Int32) [(.int b1), (.int b2), (.int 0)] (.int 0) := by have q := V1190; rw [eb2] at q; exact q
      have R1191 : Go p e below P T1190 (mkF m 102 #[iV px, iV py, iV cp, iV t, rV b1182, uS, uS, uS] [(.int (t.toInt8.toInt32)), (.int 2), (.ref b1182)]) := fun t_ k_ => R1188 t_ (st1190 t_ (XS.aload X1190.here hx rfl (hb hby at_97) rfl rfl (XS.iconst X1190.here hx rfl (hb hby at_99) (XS.iloadN X1190.here hx rfl (hb hby at_100) rfl (XS.i2b X1190.here hx rfl (hb hby at_101) rfl k_)))))
      obtain ⟨t8, ht8⟩ : ∃ z : Int32, z = (t.toInt8.toInt32) := ⟨_, rfl⟩
      have R1192 : Go p e below P T1190 (mkF m 102 #[iV px, iV py, iV cp, iV t, rV b1182, uS, uS, uS] [(.int t8), (.int 2), (.ref b1182)]) := by rw [ht8]; exact R1191
      have et8 : nar .byte t8 = t8 := by rw [ht8]; exact nar_b8 _
      obtain ⟨cl1193, cl1193A, cl1193q, cl1193S, cl1193N, cl1193H, cl1193G⟩ := id V1190s
      obtain ⟨T1194, h1194, X1194, e1194, W1194, st1194⟩ := stB X1190 hx hZ e1190 cl1193A (j := (2 : Int32)) (inb_of cl1193S ⟨by decide, by decide⟩) (g := (mkF m 102 #[iV px, iV py, iV cp, iV t, rV b1182, uS, uS, uS] [(.int t8), (.int 2), (.ref b1182)])) rfl rfl (hb hby at_102)
      have V1194 : Arv Z h1194 b1182 k1182 .byte (3 : Int32) [(.int b1), (.int b2), (.int (nar .byte t8))] (.int 0) := Arv.set cl1193A cl1193q cl1193S cl1193N cl1193H cl1193G (fits_nar_byte _) W1194 2 rfl (Nat.le_of_ble_eq_true rfl)
      have N1194 := Fr.snoc X1194 N1190 (Nat.le_trans (oldLe O0) (Nat.le_of_eq g1182.symm))
      have O1194 := O1190.wr W1194 (Nat.le_trans (oldLe O0) (Nat.le_of_eq g1182.symm))
      have V1194s : Arv Z h1194 b1182 k1182 .byte (3 : Int32) [(.int b1), (.int b2), (.int t8)] (.int 0) := by have q := V1194; rw [et8] at q; exact q
      have R1195 : Go p e below P T1194 (mkF m 239 #[iV px, iV py, iV cp, iV t, rV b1182, uS, uS, uS] [(.ref b1182)]) := fun t_ k_ => R1192 t_ (st1194 t_ (XS.goto X1194.here hx rfl (pc0 := 103) (pc' := 237) rfl (hb hby at_103) (by decide) (by decide) (XS.aload X1194.here hx rfl (hb hby at_237) rfl rfl k_)))
      by_cases tl1196 : t < (128 : Int32)
      · by_cases cl1197 : cp < (256 : Int32)
        · have q8 : t8 = t := ht8.trans (lo8_id htr.1 tl1196)
          have n8 : ¬ t8 < (0 : Int32) := by rw [q8]; exact htr.1
          have t65 := lt_trans32 htr.2 (show (256 : Int32).toInt ≤ (65536 : Int32).toInt from by decide)
          have i8 : (t8.toUInt32.toUInt16.toUInt32.toInt32) = t8 := by rw [q8]; exact i2c_id htr.1 t65
          have u8 : t8 < (65536 : Int32) := by rw [q8]; exact t65
          have cp65 : cp < (65536 : Int32) := lt_trans32 hc1181 (by decide)
          obtain ⟨f1, f2, f3, f4, f5, f6, f7⟩ := factsB hc1149 hc1181 hb1 hb2
          have c256 := cl1197
          have e8 : nar .byte (t8.toInt8.toInt32) = t8 := by rw [ht8]; exact (nar_b8 _).trans (lo8_idem _)
          have hcs : ∀ c_ ∈ ([cp, t] : List Int32), ¬ c_ < 0 ∧ ¬ (255 : Int32) < c_ := by
            intro c_ hc
            simp only [List.mem_cons, List.not_mem_nil, or_false] at hc
            rcases hc with hc | hc
            · rw [hc]; exact ⟨hcpn, n255 c256⟩
            · rw [hc]; exact ⟨htr.1, n255 htr.2⟩
          have f1198 := (((Ex1182.wr W1186).wr W1190).wr W1194)
          obtain ⟨rv1199, T1199, Lc1199, X1199, hQ1199, R1199⟩ := callQ X1194 hx hZ hown e1194 R1195 (decBl_ l Z a0 hw [] b1182 k1182 b1 b2 t8 cp wU zc fm h1194 n0 O1194 V1194s f1198 P0 P1 hzc P3 P4 P5 P6 hfm P8 P9 f1 (f6.mpr cl1197) f5 f7 n8 e8) (hwI hw 4 rfl) (hwI hw 5 rfl) (hwI hw 6 rfl) (hwI hw 7 rfl) [] rfl (by rw [hml]; rfl) (lenOf pd_1336023 rfl) rfl (W := 0) (wR rfl) (hb hby at_239)
          obtain ⟨x_1199, t_1199, kb_1199, rfl, N1199q, K1199, p1199_0, p1199_1, p1199_2, p1199_3, p1199_4⟩ := hQ1199
          have N1199 := Fr.app N1194 N1199q
          have O1199 := O1194.keep K1199 all0
          have Vl1200 : Arv Z T1199.heap t_1199 kb_1199 .byte (Int32.ofNat ([cp, t] : List Int32).length) ((([cp, t] : List Int32).map lo8).map Value.int) (.int 0) := by have q := p1199_4; rw [ht8] at q; exact q
          have R1201 : Go p e below P T1199 (mkF m 268 #[iV px, iV py, iV cp, iV t, rV b1182, rV x_1199, iV (t.toUInt32.toUInt16.toUInt32.toInt32), uS] [(.ref x_1199)]) := fun t_ k_ => R1199 t_ (XS.astore X1199.here hx rfl (hb hby at_242) rfl rfl (l' := #[iV px, iV py, iV cp, iV t, rV b1182, rV x_1199, uS, uS]) rfl (XS.iloadN X1199.here hx rfl (hb hby at_244) rfl (XS.sipush X1199.here hx rfl (hb hby at_245) (XS.icmpNo X1199.here hx rfl (hb hby at_248) rfl (tlt tl1196).2.1 (XS.iloadN X1199.here hx rfl (hb hby at_251) rfl (XS.i2c X1199.here hx rfl (hb hby at_252) rfl (XS.goto X1199.here hx rfl (pc0 := 253) (pc' := 258) rfl (hb hby at_253) (by decide) (by decide) (XS.istore X1199.here hx rfl (hb hby at_258) rfl (l' := #[iV px, iV py, iV cp, iV t, rV b1182, rV x_1199, iV (t.toUInt32.toUInt16.toUInt32.toInt32), uS]) rfl (XS.iloadN X1199.here hx rfl (hb hby at_260) rfl (apS (X1199.ldcInt hx hown (mvT hZ (hwI hw 53 rfl)) rfl (hb hby at_261)) (XS.icmpNo X1199.here hx rfl (hb hby at_263) rfl (tlt cp65).2.1 (XS.aload X1199.here hx rfl (hb hby at_266) rfl rfl k_))))))))))))
          obtain ⟨cq1202, kq1202, q1202a, q1202b, q1202c⟩ := isOf hZ (rfl : T1199.heap = T1199.heap) p1199_1
          obtain ⟨rv1202, _, ⟨T1202, L1202, k1202, n1202⟩, -, X1202, ⟨Lc1202, hQ1202, l1202, y1202, z1202⟩, st1202⟩ := X1199.virtualBack hx (y := yM2) (z := yM2) hown (mvT hZ (hwI hw 54 rfl)) (mvT hZ (hwI hw 55 rfl)) (notFace_of_selects (args := #[]) (mvT hZ (hwI hw 57 rfl))) (mvT hZ (hwI hw 57 rfl)) (mvT hZ (hwI hw 56 rfl)) (by decide) (backOf (W := 0) (llen_ l Z a0 hw [] x_1199 t_1199 kb_1199 (Int32.ofNat ([cp, t] : List Int32).length) ((([cp, t] : List Int32).map lo8).map Value.int) zc T1199.heap n0 O1199 p1199_1 p1199_2 p1199_3 Vl1200 P1 hzc) hZ (hwI hw 58 rfl) (hwI hw 10 rfl) (by decide) (by decide)) q1202a q1202c (g := (mkF m 268 #[iV px, iV py, iV cp, iV t, rV b1182, rV x_1199, iV (t.toUInt32.toUInt16.toUInt32.toInt32), uS] [(.ref x_1199)])) rfl (by rw [hml]; rfl) (Steps.refl _) (argsL := []) (rest := []) (lenOf pd_16428521 rfl) rfl (by show 2 * 0 + _ ≤ _; exact Nat.le_of_eq rfl) (hb hby at_268) (fun _ _ => ⟨rfl, (rfl : T1199.heap = T1199.heap), (by decide : 4 + 0 ≤ _), (by decide : 12 + 0 ≤ _)⟩)
          dsimp only [Pt.U, Pt.locs, Pt.cells, Pt.slots] at X1202 l1202 y1202 z1202 st1202 hQ1202
          subst l1202 y1202 z1202
          obtain ⟨rfl, N1202q, K1202⟩ := hQ1202
          have N1202 := Fr.app N1199 N1202q
          have R1203 : Go p e below P T1202 (mkF m 278 #[iV px, iV py, iV cp, iV t, rV b1182, rV x_1199, iV (t.toUInt32.toUInt16.toUInt32.toInt32), uS] [(.int 0), (.ref x_1199)]) := fun t_ k_ => R1201 t_ (st1202.trans (XS.iconst X1202.here hx rfl (hb hby at_271) (XS.icmpNo X1202.here hx rfl (hb hby at_272) rfl (teq (show (Int32.ofNat ([cp, t] : List Int32).length) = (2 : Int32) from rfl)).2 (XS.aload X1202.here hx rfl (hb hby at_275) rfl rfl (XS.iconst X1202.here hx rfl (hb hby at_277) k_)))))
          obtain ⟨cq1204, kq1204, q1204a, q1204b, q1204c⟩ := isOf hZ K1202 p1199_1
          obtain ⟨rv1204, _, ⟨T1204, L1204, k1204, n1204⟩, -, X1204, ⟨Lc1204, hQ1204, l1204, y1204, z1204⟩, st1204⟩ := X1202.virtualBack hx (y := yM6) (z := yM6) hown (mvT hZ (hwI hw 64 rfl)) (mvT hZ (hwI hw 65 rfl)) (notFace_of_selects (args := #[]) (mvT hZ (hwI hw 67 rfl))) (mvT hZ (hwI hw 67 rfl)) (mvT hZ (hwI hw 66 rfl)) (by decide) (backOf (W := 0) (lch_ l Z a0 hw [] x_1199 t_1199 kb_1199 ([cp, t] : List Int32) (0 : Int32) 0 fm zc T1199.heap n0 O1199 p1199_1 p1199_2 p1199_3 Vl1200 P1 hzc P6 hfm rfl (Nat.le_of_ble_eq_true rfl) (Nat.le_of_ble_eq_true rfl) hcs) hZ (hwI hw 68 rfl) (hwI hw 10 rfl) (by decide) (by decide)) q1204a q1204c (g := (mkF m 278 #[iV px, iV py, iV cp, iV t, rV b1182, rV x_1199, iV (t.toUInt32.toUInt16.toUInt32.toInt32), uS] [(.int 0), (.ref x_1199)])) rfl (by rw [hml]; rfl) (Steps.refl _) (argsL := [(.int 0)]) (rest := []) (lenOf pd_52681278 rfl) rfl (by show 2 * 0 + _ ≤ _; exact Nat.le_of_eq rfl) (hb hby at_278) (fun _ _ => ⟨rfl, K1202, (by decide : 4 + 0 ≤ _), (by decide : 12 + 0 ≤ _)⟩)
          dsimp only [Pt.U, Pt.locs, Pt.cells, Pt.slots] at X1204 l1204 y1204 z1204 st1204 hQ1204
          subst l1204 y1204 z1204
          obtain ⟨rfl, N1204q, K1204⟩ := hQ1204
          have N1204 := Fr.app N1202 N1204q
          have R1205 : Go p e below P T1204 (mkF m 289 #[iV px, iV py, iV cp, iV t, rV b1182, rV x_1199, iV (t.toUInt32.toUInt16.toUInt32.toInt32), uS] [(.int 1), (.ref x_1199)]) := fun t_ k_ => R1203 t_ (st1204.trans (XS.iloadN X1204.here hx rfl (hb hby at_281) rfl (XS.i2c X1204.here hx rfl (hb hby at_282) rfl (XS.icmpNo X1204.here hx rfl (hb hby at_283) rfl (teq (show (([cp, t] : List Int32).getD 0 0) = (cp.toUInt32.toUInt16.toUInt32.toInt32) from (i2c_id hcpn cp65).symm)).2 (XS.aload X1204.here hx rfl (hb hby at_286) rfl rfl (XS.iconst X1204.here hx rfl (hb hby at_288) k_))))))
          obtain ⟨cq1206, kq1206, q1206a, q1206b, q1206c⟩ := isOf hZ K1204 p1199_1
          obtain ⟨rv1206, _, ⟨T1206, L1206, k1206, n1206⟩, -, X1206, ⟨Lc1206, hQ1206, l1206, y1206, z1206⟩, st1206⟩ := X1204.virtualBack hx (y := yM6) (z := yM6) hown (mvT hZ (hwI hw 64 rfl)) (mvT hZ (hwI hw 65 rfl)) (notFace_of_selects (args := #[]) (mvT hZ (hwI hw 67 rfl))) (mvT hZ (hwI hw 67 rfl)) (mvT hZ (hwI hw 66 rfl)) (by decide) (backOf (W := 0) (lch_ l Z a0 hw [] x_1199 t_1199 kb_1199 ([cp, t] : List Int32) (1 : Int32) 1 fm zc T1199.heap n0 O1199 p1199_1 p1199_2 p1199_3 Vl1200 P1 hzc P6 hfm rfl (Nat.le_of_ble_eq_true rfl) (Nat.le_of_ble_eq_true rfl) hcs) hZ (hwI hw 68 rfl) (hwI hw 10 rfl) (by decide) (by decide)) q1206a q1206c (g := (mkF m 289 #[iV px, iV py, iV cp, iV t, rV b1182, rV x_1199, iV (t.toUInt32.toUInt16.toUInt32.toInt32), uS] [(.int 1), (.ref x_1199)])) rfl (by rw [hml]; rfl) (Steps.refl _) (argsL := [(.int 1)]) (rest := []) (lenOf pd_52681278 rfl) rfl (by show 2 * 0 + _ ≤ _; exact Nat.le_of_eq rfl) (hb hby at_289) (fun _ _ => ⟨rfl, K1204, (by decide : 4 + 0 ≤ _), (by decide : 12 + 0 ≤ _)⟩)
          dsimp only [Pt.U, Pt.locs, Pt.cells, Pt.slots] at X1206 l1206 y1206 z1206 st1206 hQ1206
          subst l1206 y1206 z1206
          obtain ⟨rfl, N1206q, K1206⟩ := hQ1206
          have N1206 := Fr.app N1204 N1206q
          have R1207 : Go p e below P T1206 (mkF m 302 #[iV px, iV py, iV cp, iV t, rV b1182, rV x_1199, iV (t.toUInt32.toUInt16.toUInt32.toInt32), uS] [(.int 1)]) := fun t_ k_ => R1205 t_ (st1206.trans (XS.iload X1206.here hx rfl (hb hby at_292) rfl (XS.icmpNo X1206.here hx rfl (hb hby at_294) rfl (teq (show (([cp, t] : List Int32).getD 1 0) = (t.toUInt32.toUInt16.toUInt32.toInt32) from (i2c_id htr.1 t65).symm)).2 (XS.iconst X1206.here hx rfl (hb hby at_297) (XS.goto X1206.here hx rfl (pc0 := 298) (pc' := 302) rfl (hb hby at_298) (by decide) (by decide) k_)))))
          obtain ⟨fs, hr, hrun, hended, hW, hsame⟩ := X1206.leave (v := some (.int (nar .boolean (1 : Int32)))) (fun h => by rw [Bd.returns] at h; cases h)
          exact ⟨_, _, hP _ (R1207 _ (retN X1206 hx (t := .boolean) Bd.returns (by simp) (hb hby at_302) hr)), hrun, hended, _, _, rfl, ⟨rfl, N1206, (K1206.symm ▸ ((((((Keep.refl h0 []).ext E1182).wr W1186 (Or.inr (Nat.le_of_eq g1182.symm))).wr W1190 (Or.inr (Nat.le_of_eq g1182.symm))).wr W1194 (Or.inr (Nat.le_of_eq g1182.symm))).trans K1199 all0))⟩, ⟨_, rfl⟩, hW, hsame.mono (by decide) (by decide)⟩
        · have q8 : t8 = t := ht8.trans (lo8_id htr.1 tl1196)
          have n8 : ¬ t8 < (0 : Int32) := by rw [q8]; exact htr.1
          have t65 := lt_trans32 htr.2 (show (256 : Int32).toInt ≤ (65536 : Int32).toInt from by decide)
          have i8 : (t8.toUInt32.toUInt16.toUInt32.toInt32) = t8 := by rw [q8]; exact i2c_id htr.1 t65
          have u8 : t8 < (65536 : Int32) := by rw [q8]; exact t65
          have cp65 : cp < (65536 : Int32) := lt_trans32 hc1181 (by decide)
          obtain ⟨f1, f2, f3, f4, f5, f6, f7⟩ := factsB hc1149 hc1181 hb1 hb2
          have f1208 := (((Ex1182.wr W1186).wr W1190).wr W1194)
          obtain ⟨rv1209, T1209, Lc1209, X1209, hQ1209, R1209⟩ := callQ X1194 hx hZ hown e1194 R1195 (decB2l_ l Z a0 hw [] b1182 k1182 b1 b2 t8 cp wU zc fm h1194 n0 O1194 V1194s f1208 P0 P1 hzc P3 P4 P5 P6 hfm P8 P9 f1 (fun q => cl1197 (f6.mp q)) n8 i8 f2 f3 f4 f7) (hwI hw 4 rfl) (hwI hw 5 rfl) (hwI hw 6 rfl) (hwI hw 7 rfl) [] rfl (by rw [hml]; rfl) (lenOf pd_1336023 rfl) rfl (W := 0) (wR rfl) (hb hby at_239)
          obtain ⟨x_1209, t_1209, kb_1209, rfl, N1209q, K1209, p1209_0, p1209_1, p1209_2, p1209_3, p1209_4⟩ := hQ1209
          have N1209 := Fr.app N1194 N1209q
          have O1209 := O1194.keep K1209 all0
          have R1210 : Go p e below P T1209 (mkF m 268 #[iV px, iV py, iV cp, iV t, rV b1182, rV x_1209, iV (t.toUInt32.toUInt16.toUInt32.toInt32), uS] [(.ref x_1209)]) := fun t_ k_ => R1209 t_ (XS.astore X1209.here hx rfl (hb hby at_242) rfl rfl (l' := #[iV px, iV py, iV cp, iV t, rV b1182, rV x_1209, uS, uS]) rfl (XS.iloadN X1209.here hx rfl (hb hby at_244) rfl (XS.sipush X1209.here hx rfl (hb hby at_245) (XS.icmpNo X1209.here hx rfl (hb hby at_248) rfl (tlt tl1196).2.1 (XS.iloadN X1209.here hx rfl (hb hby at_251) rfl (XS.i2c X1209.here hx rfl (hb hby at_252) rfl (XS.goto X1209.here hx rfl (pc0 := 253) (pc' := 258) rfl (hb hby at_253) (by decide) (by decide) (XS.istore X1209.here hx rfl (hb hby at_258) rfl (l' := #[iV px, iV py, iV cp, iV t, rV b1182, rV x_1209, iV (t.toUInt32.toUInt16.toUInt32.toInt32), uS]) rfl (XS.iloadN X1209.here hx rfl (hb hby at_260) rfl (apS (X1209.ldcInt hx hown (mvT hZ (hwI hw 53 rfl)) rfl (hb hby at_261)) (XS.icmpNo X1209.here hx rfl (hb hby at_263) rfl (tlt cp65).2.1 (XS.aload X1209.here hx rfl (hb hby at_266) rfl rfl k_))))))))))))
          obtain ⟨cq1211, kq1211, q1211a, q1211b, q1211c⟩ := isOf hZ (rfl : T1209.heap = T1209.heap) p1209_1
          obtain ⟨rv1211, _, ⟨T1211, L1211, k1211, n1211⟩, -, X1211, ⟨Lc1211, hQ1211, l1211, y1211, z1211⟩, st1211⟩ := X1209.virtualBack hx (y := yM2) (z := yM2) hown (mvT hZ (hwI hw 54 rfl)) (mvT hZ (hwI hw 55 rfl)) (notFace_of_selects (args := #[]) (mvT hZ (hwI hw 57 rfl))) (mvT hZ (hwI hw 57 rfl)) (mvT hZ (hwI hw 56 rfl)) (by decide) (backOf (W := 0) (ulen_ l Z a0 hw [] x_1209 t_1209 kb_1209 (4 : Int32) ([(.int (loB cp)), (.int (hiB cp)), (.int (loB t8)), (.int (hiB t8))]) zc (2 : Int32) T1209.heap n0 O1209 p1209_1 p1209_2 p1209_3 p1209_4 P1 hzc (by decide)) hZ (hwI hw 58 rfl) (hwI hw 10 rfl) (by decide) (by decide)) q1211a q1211c (g := (mkF m 268 #[iV px, iV py, iV cp, iV t, rV b1182, rV x_1209, iV (t.toUInt32.toUInt16.toUInt32.toInt32), uS] [(.ref x_1209)])) rfl (by rw [hml]; rfl) (Steps.refl _) (argsL := []) (rest := []) (lenOf pd_16428521 rfl) rfl (by show 2 * 0 + _ ≤ _; exact Nat.le_of_eq rfl) (hb hby at_268) (fun _ _ => ⟨rfl, (rfl : T1209.heap = T1209.heap), (by decide : 5 + 0 ≤ _), (by decide : 20 + 0 ≤ _)⟩)
          dsimp only [Pt.U, Pt.locs, Pt.cells, Pt.slots] at X1211 l1211 y1211 z1211 st1211 hQ1211
          subst l1211 y1211 z1211
          obtain ⟨rfl, N1211q, K1211⟩ := hQ1211
          have N1211 := Fr.app N1209 N1211q
          have R1212 : Go p e below P T1211 (mkF m 278 #[iV px, iV py, iV cp, iV t, rV b1182, rV x_1209, iV (t.toUInt32.toUInt16.toUInt32.toInt32), uS] [(.int 0), (.ref x_1209)]) := fun t_ k_ => R1210 t_ (st1211.trans (XS.iconst X1211.here hx rfl (hb hby at_271) (XS.icmpNo X1211.here hx rfl (hb hby at_272) rfl (teq rfl).2 (XS.aload X1211.here hx rfl (hb hby at_275) rfl rfl (XS.iconst X1211.here hx rfl (hb hby at_277) k_)))))
          obtain ⟨cq1213, kq1213, q1213a, q1213b, q1213c⟩ := isOf hZ K1211 p1209_1
          obtain ⟨rv1213, _, ⟨T1213, L1213, k1213, n1213⟩, -, X1213, ⟨Lc1213, hQ1213, l1213, y1213, z1213⟩, st1213⟩ := X1211.virtualBack hx (y := yM6) (z := yM6) hown (mvT hZ (hwI hw 64 rfl)) (mvT hZ (hwI hw 65 rfl)) (notFace_of_selects (args := #[]) (mvT hZ (hwI hw 67 rfl))) (mvT hZ (hwI hw 67 rfl)) (mvT hZ (hwI hw 66 rfl)) (by decide) (backOf (W := 0) (uchr_ l Z a0 hw [] x_1209 t_1209 kb_1209 (4 : Int32) ([(.int (loB cp)), (.int (hiB cp)), (.int (loB t8)), (.int (hiB t8))]) zc 0 (0 : Int32) (loB cp) (hiB cp) cp (2 : Int32) fm T1209.heap n0 O1209 P3 P4 P5 P6 hfm p1209_1 p1209_2 p1209_3 p1209_4 P1 hzc (by decide) ⟨by decide, by decide⟩ rfl (Nat.le_of_ble_eq_true rfl) rfl (Nat.le_of_ble_eq_true rfl) rfl rfl (charOf_id hcpn cp65) (i2c_id hcpn cp65)) hZ (hwI hw 68 rfl) (hwI hw 10 rfl) (by decide) (by decide)) q1213a q1213c (g := (mkF m 278 #[iV px, iV py, iV cp, iV t, rV b1182, rV x_1209, iV (t.toUInt32.toUInt16.toUInt32.toInt32), uS] [(.int 0), (.ref x_1209)])) rfl (by rw [hml]; rfl) (Steps.refl _) (argsL := [(.int 0)]) (rest := []) (lenOf pd_52681278 rfl) rfl (by show 2 * 0 + _ ≤ _; exact Nat.le_of_eq rfl) (hb hby at_278) (fun _ _ => ⟨rfl, K1211, (by decide : 5 + 0 ≤ _), (by decide : 20 + 0 ≤ _)⟩)
          dsimp only [Pt.U, Pt.locs, Pt.cells, Pt.slots] at X1213 l1213 y1213 z1213 st1213 hQ1213
          subst l1213 y1213 z1213
          obtain ⟨rfl, N1213q, K1213⟩ := hQ1213
          have N1213 := Fr.app N1211 N1213q
          have R1214 : Go p e below P T1213 (mkF m 289 #[iV px, iV py, iV cp, iV t, rV b1182, rV x_1209, iV (t.toUInt32.toUInt16.toUInt32.toInt32), uS] [(.int 1), (.ref x_1209)]) := fun t_ k_ => R1212 t_ (st1213.trans (XS.iloadN X1213.here hx rfl (hb hby at_281) rfl (XS.i2c X1213.here hx rfl (hb hby at_282) rfl (XS.icmpNo X1213.here hx rfl (hb hby at_283) rfl (teq (show cp = (cp.toUInt32.toUInt16.toUInt32.toInt32) from (i2c_id hcpn cp65).symm)).2 (XS.aload X1213.here hx rfl (hb hby at_286) rfl rfl (XS.iconst X1213.here hx rfl (hb hby at_288) k_))))))
          obtain ⟨cq1215, kq1215, q1215a, q1215b, q1215c⟩ := isOf hZ K1213 p1209_1
          obtain ⟨rv1215, _, ⟨T1215, L1215, k1215, n1215⟩, -, X1215, ⟨Lc1215, hQ1215, l1215, y1215, z1215⟩, st1215⟩ := X1213.virtualBack hx (y := yM6) (z := yM6) hown (mvT hZ (hwI hw 64 rfl)) (mvT hZ (hwI hw 65 rfl)) (notFace_of_selects (args := #[]) (mvT hZ (hwI hw 67 rfl))) (mvT hZ (hwI hw 67 rfl)) (mvT hZ (hwI hw 66 rfl)) (by decide) (backOf (W := 0) (uchr_ l Z a0 hw [] x_1209 t_1209 kb_1209 (4 : Int32) ([(.int (loB cp)), (.int (hiB cp)), (.int (loB t8)), (.int (hiB t8))]) zc 1 (1 : Int32) (loB t8) (hiB t8) t8 (2 : Int32) fm T1209.heap n0 O1209 P3 P4 P5 P6 hfm p1209_1 p1209_2 p1209_3 p1209_4 P1 hzc (by decide) ⟨by decide, by decide⟩ rfl (Nat.le_of_ble_eq_true rfl) rfl (Nat.le_of_ble_eq_true rfl) rfl rfl (charOf_id n8 u8) (i2c_id n8 u8)) hZ (hwI hw 68 rfl) (hwI hw 10 rfl) (by decide) (by decide)) q1215a q1215c (g := (mkF m 289 #[iV px, iV py, iV cp, iV t, rV b1182, rV x_1209, iV (t.toUInt32.toUInt16.toUInt32.toInt32), uS] [(.int 1), (.ref x_1209)])) rfl (by rw [hml]; rfl) (Steps.refl _) (argsL := [(.int 1)]) (rest := []) (lenOf pd_52681278 rfl) rfl (by show 2 * 0 + _ ≤ _; exact Nat.le_of_eq rfl) (hb hby at_289) (fun _ _ => ⟨rfl, K1213, (by decide : 5 + 0 ≤ _), (by decide : 20 + 0 ≤ _)⟩)
          dsimp only [Pt.U, Pt.locs, Pt.cells, Pt.slots] at X1215 l1215 y1215 z1215 st1215 hQ1215
          subst l1215 y1215 z1215
          obtain ⟨rfl, N1215q, K1215⟩ := hQ1215
          have N1215 := Fr.app N1213 N1215q
          have R1216 : Go p e below P T1215 (mkF m 302 #[iV px, iV py, iV cp, iV t, rV b1182, rV x_1209, iV (t.toUInt32.toUInt16.toUInt32.toInt32), uS] [(.int 1)]) := fun t_ k_ => R1214 t_ (st1215.trans (XS.iload X1215.here hx rfl (hb hby at_292) rfl (XS.icmpNo X1215.here hx rfl (hb hby at_294) rfl (teq (show t8 = (t.toUInt32.toUInt16.toUInt32.toInt32) from q8.trans (i2c_id htr.1 t65).symm)).2 (XS.iconst X1215.here hx rfl (hb hby at_297) (XS.goto X1215.here hx rfl (pc0 := 298) (pc' := 302) rfl (hb hby at_298) (by decide) (by decide) k_)))))
          obtain ⟨fs, hr, hrun, hended, hW, hsame⟩ := X1215.leave (v := some (.int (nar .boolean (1 : Int32)))) (fun h => by rw [Bd.returns] at h; cases h)
          exact ⟨_, _, hP _ (R1216 _ (retN X1215 hx (t := .boolean) Bd.returns (by simp) (hb hby at_302) hr)), hrun, hended, _, _, rfl, ⟨rfl, N1215, (K1215.symm ▸ ((((((Keep.refl h0 []).ext E1182).wr W1186 (Or.inr (Nat.le_of_eq g1182.symm))).wr W1190 (Or.inr (Nat.le_of_eq g1182.symm))).wr W1194 (Or.inr (Nat.le_of_eq g1182.symm))).trans K1209 all0))⟩, ⟨_, rfl⟩, hW, hsame.mono (by decide) (by decide)⟩
      · by_cases cl1217 : cp < (256 : Int32)
        · have n8 : t8 < (0 : Int32) := by rw [ht8]; exact lo8_neg tl1196 htr.2
          have cp65 : cp < (65536 : Int32) := lt_trans32 hc1181 (by decide)
          obtain ⟨f1, f2, f3, f4, f5, f6, f7⟩ := factsB hc1149 hc1181 hb1 hb2
          have hc0 : ((cp.toInt8.toInt32) &&& (255 : Int32)) = cp := and255 hcpn cl1217
          have f1218 := (((Ex1182.wr W1186).wr W1190).wr W1194)
          obtain ⟨rv1219, T1219, Lc1219, X1219, hQ1219, R1219⟩ := callQ X1194 hx hZ hown e1194 R1195 (decBh_ l Z a0 hw [] b1182 k1182 b1 b2 t8 cp wU zc fm h1194 n0 O1194 V1194s f1218 P0 P1 hzc P3 P4 P5 P6 hfm P8 P9 f1 (f6.mpr cl1217) f5 f7 n8 hc0) (hwI hw 4 rfl) (hwI hw 5 rfl) (hwI hw 6 rfl) (hwI hw 7 rfl) [] rfl (by rw [hml]; rfl) (lenOf pd_1336023 rfl) rfl (W := 0) (wR rfl) (hb hby at_239)
          obtain ⟨x_1219, t_1219, kb_1219, rfl, N1219q, K1219, p1219_0, p1219_1, p1219_2, p1219_3, p1219_4⟩ := hQ1219
          have N1219 := Fr.app N1194 N1219q
          have O1219 := O1194.keep K1219 all0
          have R1220 : Go p e below P T1219 (mkF m 268 #[iV px, iV py, iV cp, iV t, rV b1182, rV x_1219, iV 65533, uS] [(.ref x_1219)]) := fun t_ k_ => R1219 t_ (XS.astore X1219.here hx rfl (hb hby at_242) rfl rfl (l' := #[iV px, iV py, iV cp, iV t, rV b1182, rV x_1219, uS, uS]) rfl (XS.iloadN X1219.here hx rfl (hb hby at_244) rfl (XS.sipush X1219.here hx rfl (hb hby at_245) (XS.icmpYes X1219.here hx rfl (pc0 := 248) (pc' := 256) rfl (hb hby at_248) rfl (flt tl1196).2.1 (by decide) (by decide) (apS (X1219.ldcInt hx hown (mvT hZ (hwI hw 123 rfl)) rfl (hb hby at_256)) (XS.istore X1219.here hx rfl (hb hby at_258) rfl (l' := #[iV px, iV py, iV cp, iV t, rV b1182, rV x_1219, iV 65533, uS]) rfl (XS.iloadN X1219.here hx rfl (hb hby at_260) rfl (apS (X1219.ldcInt hx hown (mvT hZ (hwI hw 53 rfl)) rfl (hb hby at_261)) (XS.icmpNo X1219.here hx rfl (hb hby at_263) rfl (tlt cp65).2.1 (XS.aload X1219.here hx rfl (hb hby at_266) rfl rfl k_))))))))))
          obtain ⟨cq1221, kq1221, q1221a, q1221b, q1221c⟩ := isOf hZ (rfl : T1219.heap = T1219.heap) p1219_1
          obtain ⟨rv1221, _, ⟨T1221, L1221, k1221, n1221⟩, -, X1221, ⟨Lc1221, hQ1221, l1221, y1221, z1221⟩, st1221⟩ := X1219.virtualBack hx (y := yM2) (z := yM2) hown (mvT hZ (hwI hw 54 rfl)) (mvT hZ (hwI hw 55 rfl)) (notFace_of_selects (args := #[]) (mvT hZ (hwI hw 57 rfl))) (mvT hZ (hwI hw 57 rfl)) (mvT hZ (hwI hw 56 rfl)) (by decide) (backOf (W := 0) (ulen_ l Z a0 hw [] x_1219 t_1219 kb_1219 (4 : Int32) ([(.int (loB cp)), (.int (hiB cp)), (.int (loB (65533 : Int32))), (.int (hiB (65533 : Int32)))]) zc (2 : Int32) T1219.heap n0 O1219 p1219_1 p1219_2 p1219_3 p1219_4 P1 hzc (by decide)) hZ (hwI hw 58 rfl) (hwI hw 10 rfl) (by decide) (by decide)) q1221a q1221c (g := (mkF m 268 #[iV px, iV py, iV cp, iV t, rV b1182, rV x_1219, iV 65533, uS] [(.ref x_1219)])) rfl (by rw [hml]; rfl) (Steps.refl _) (argsL := []) (rest := []) (lenOf pd_16428521 rfl) rfl (by show 2 * 0 + _ ≤ _; exact Nat.le_of_eq rfl) (hb hby at_268) (fun _ _ => ⟨rfl, (rfl : T1219.heap = T1219.heap), (by decide : 5 + 0 ≤ _), (by decide : 20 + 0 ≤ _)⟩)
          dsimp only [Pt.U, Pt.locs, Pt.cells, Pt.slots] at X1221 l1221 y1221 z1221 st1221 hQ1221
          subst l1221 y1221 z1221
          obtain ⟨rfl, N1221q, K1221⟩ := hQ1221
          have N1221 := Fr.app N1219 N1221q
          have R1222 : Go p e below P T1221 (mkF m 278 #[iV px, iV py, iV cp, iV t, rV b1182, rV x_1219, iV 65533, uS] [(.int 0), (.ref x_1219)]) := fun t_ k_ => R1220 t_ (st1221.trans (XS.iconst X1221.here hx rfl (hb hby at_271) (XS.icmpNo X1221.here hx rfl (hb hby at_272) rfl (teq rfl).2 (XS.aload X1221.here hx rfl (hb hby at_275) rfl rfl (XS.iconst X1221.here hx rfl (hb hby at_277) k_)))))
          obtain ⟨cq1223, kq1223, q1223a, q1223b, q1223c⟩ := isOf hZ K1221 p1219_1
          obtain ⟨rv1223, _, ⟨T1223, L1223, k1223, n1223⟩, -, X1223, ⟨Lc1223, hQ1223, l1223, y1223, z1223⟩, st1223⟩ := X1221.virtualBack hx (y := yM6) (z := yM6) hown (mvT hZ (hwI hw 64 rfl)) (mvT hZ (hwI hw 65 rfl)) (notFace_of_selects (args := #[]) (mvT hZ (hwI hw 67 rfl))) (mvT hZ (hwI hw 67 rfl)) (mvT hZ (hwI hw 66 rfl)) (by decide) (backOf (W := 0) (uchr_ l Z a0 hw [] x_1219 t_1219 kb_1219 (4 : Int32) ([(.int (loB cp)), (.int (hiB cp)), (.int (loB (65533 : Int32))), (.int (hiB (65533 : Int32)))]) zc 0 (0 : Int32) (loB cp) (hiB cp) cp (2 : Int32) fm T1219.heap n0 O1219 P3 P4 P5 P6 hfm p1219_1 p1219_2 p1219_3 p1219_4 P1 hzc (by decide) ⟨by decide, by decide⟩ rfl (Nat.le_of_ble_eq_true rfl) rfl (Nat.le_of_ble_eq_true rfl) rfl rfl (charOf_id hcpn cp65) (i2c_id hcpn cp65)) hZ (hwI hw 68 rfl) (hwI hw 10 rfl) (by decide) (by decide)) q1223a q1223c (g := (mkF m 278 #[iV px, iV py, iV cp, iV t, rV b1182, rV x_1219, iV 65533, uS] [(.int 0), (.ref x_1219)])) rfl (by rw [hml]; rfl) (Steps.refl _) (argsL := [(.int 0)]) (rest := []) (lenOf pd_52681278 rfl) rfl (by show 2 * 0 + _ ≤ _; exact Nat.le_of_eq rfl) (hb hby at_278) (fun _ _ => ⟨rfl, K1221, (by decide : 5 + 0 ≤ _), (by decide : 20 + 0 ≤ _)⟩)
          dsimp only [Pt.U, Pt.locs, Pt.cells, Pt.slots] at X1223 l1223 y1223 z1223 st1223 hQ1223
          subst l1223 y1223 z1223
          obtain ⟨rfl, N1223q, K1223⟩ := hQ1223
          have N1223 := Fr.app N1221 N1223q
          have R1224 : Go p e below P T1223 (mkF m 289 #[iV px, iV py, iV cp, iV t, rV b1182, rV x_1219, iV 65533, uS] [(.int 1), (.ref x_1219)]) := fun t_ k_ => R1222 t_ (st1223.trans (XS.iloadN X1223.here hx rfl (hb hby at_281) rfl (XS.i2c X1223.here hx rfl (hb hby at_282) rfl (XS.icmpNo X1223.here hx rfl (hb hby at_283) rfl (teq (show cp = (cp.toUInt32.toUInt16.toUInt32.toInt32) from (i2c_id hcpn cp65).symm)).2 (XS.aload X1223.here hx rfl (hb hby at_286) rfl rfl (XS.iconst X1223.here hx rfl (hb hby at_288) k_))))))
          obtain ⟨cq1225, kq1225, q1225a, q1225b, q1225c⟩ := isOf hZ K1223 p1219_1
          obtain ⟨rv1225, _, ⟨T1225, L1225, k1225, n1225⟩, -, X1225, ⟨Lc1225, hQ1225, l1225, y1225, z1225⟩, st1225⟩ := X1223.virtualBack hx (y := yM6) (z := yM6) hown (mvT hZ (hwI hw 64 rfl)) (mvT hZ (hwI hw 65 rfl)) (notFace_of_selects (args := #[]) (mvT hZ (hwI hw 67 rfl))) (mvT hZ (hwI hw 67 rfl)) (mvT hZ (hwI hw 66 rfl)) (by decide) (backOf (W := 0) (uchr_ l Z a0 hw [] x_1219 t_1219 kb_1219 (4 : Int32) ([(.int (loB cp)), (.int (hiB cp)), (.int (loB (65533 : Int32))), (.int (hiB (65533 : Int32)))]) zc 1 (1 : Int32) (loB (65533 : Int32)) (hiB (65533 : Int32)) (65533 : Int32) (2 : Int32) fm T1219.heap n0 O1219 P3 P4 P5 P6 hfm p1219_1 p1219_2 p1219_3 p1219_4 P1 hzc (by decide) ⟨by decide, by decide⟩ rfl (Nat.le_of_ble_eq_true rfl) rfl (Nat.le_of_ble_eq_true rfl) rfl rfl (charOf_id (by decide) (by decide)) (i2c_id (by decide) (by decide))) hZ (hwI hw 68 rfl) (hwI hw 10 rfl) (by decide) (by decide)) q1225a q1225c (g := (mkF m 289 #[iV px, iV py, iV cp, iV t, rV b1182, rV x_1219, iV 65533, uS] [(.int 1), (.ref x_1219)])) rfl (by rw [hml]; rfl) (Steps.refl _) (argsL := [(.int 1)]) (rest := []) (lenOf pd_52681278 rfl) rfl (by show 2 * 0 + _ ≤ _; exact Nat.le_of_eq rfl) (hb hby at_289) (fun _ _ => ⟨rfl, K1223, (by decide : 5 + 0 ≤ _), (by decide : 20 + 0 ≤ _)⟩)
          dsimp only [Pt.U, Pt.locs, Pt.cells, Pt.slots] at X1225 l1225 y1225 z1225 st1225 hQ1225
          subst l1225 y1225 z1225
          obtain ⟨rfl, N1225q, K1225⟩ := hQ1225
          have N1225 := Fr.app N1223 N1225q
          have R1226 : Go p e below P T1225 (mkF m 302 #[iV px, iV py, iV cp, iV t, rV b1182, rV x_1219, iV 65533, uS] [(.int 1)]) := fun t_ k_ => R1224 t_ (st1225.trans (XS.iload X1225.here hx rfl (hb hby at_292) rfl (XS.icmpNo X1225.here hx rfl (hb hby at_294) rfl (teq rfl).2 (XS.iconst X1225.here hx rfl (hb hby at_297) (XS.goto X1225.here hx rfl (pc0 := 298) (pc' := 302) rfl (hb hby at_298) (by decide) (by decide) k_)))))
          obtain ⟨fs, hr, hrun, hended, hW, hsame⟩ := X1225.leave (v := some (.int (nar .boolean (1 : Int32)))) (fun h => by rw [Bd.returns] at h; cases h)
          exact ⟨_, _, hP _ (R1226 _ (retN X1225 hx (t := .boolean) Bd.returns (by simp) (hb hby at_302) hr)), hrun, hended, _, _, rfl, ⟨rfl, N1225, (K1225.symm ▸ ((((((Keep.refl h0 []).ext E1182).wr W1186 (Or.inr (Nat.le_of_eq g1182.symm))).wr W1190 (Or.inr (Nat.le_of_eq g1182.symm))).wr W1194 (Or.inr (Nat.le_of_eq g1182.symm))).trans K1219 all0))⟩, ⟨_, rfl⟩, hW, hsame.mono (by decide) (by decide)⟩
        · have n8 : t8 < (0 : Int32) := by rw [ht8]; exact lo8_neg tl1196 htr.2
          have cp65 : cp < (65536 : Int32) := lt_trans32 hc1181 (by decide)
          obtain ⟨f1, f2, f3, f4, f5, f6, f7⟩ := factsB hc1149 hc1181 hb1 hb2
          have f1227 := (((Ex1182.wr W1186).wr W1190).wr W1194)
          obtain ⟨rv1228, T1228, Lc1228, X1228, hQ1228, R1228⟩ := callQ X1194 hx hZ hown e1194 R1195 (decB2h_ l Z a0 hw [] b1182 k1182 b1 b2 t8 cp wU zc fm h1194 n0 O1194 V1194s f1227 P0 P1 hzc P3 P4 P5 P6 hfm P8 P9 f1 (fun q => cl1217 (f6.mp q)) n8 f2 f3 f4 f7) (hwI hw 4 rfl) (hwI hw 5 rfl) (hwI hw 6 rfl) (hwI hw 7 rfl) [] rfl (by rw [hml]; rfl) (lenOf pd_1336023 rfl) rfl (W := 0) (wR rfl) (hb hby at_239)
          obtain ⟨x_1228, t_1228, kb_1228, rfl, N1228q, K1228, p1228_0, p1228_1, p1228_2, p1228_3, p1228_4⟩ := hQ1228
          have N1228 := Fr.app N1194 N1228q
          have O1228 := O1194.keep K1228 all0
          have R1229 : Go p e below P T1228 (mkF m 268 #[iV px, iV py, iV cp, iV t, rV b1182, rV x_1228, iV 65533, uS] [(.ref x_1228)]) := fun t_ k_ => R1228 t_ (XS.astore X1228.here hx rfl (hb hby at_242) rfl rfl (l' := #[iV px, iV py, iV cp, iV t, rV b1182, rV x_1228, uS, uS]) rfl (XS.iloadN X1228.here hx rfl (hb hby at_244) rfl (XS.sipush X1228.here hx rfl (hb hby at_245) (XS.icmpYes X1228.here hx rfl (pc0 := 248) (pc' := 256) rfl (hb hby at_248) rfl (flt tl1196).2.1 (by decide) (by decide) (apS (X1228.ldcInt hx hown (mvT hZ (hwI hw 123 rfl)) rfl (hb hby at_256)) (XS.istore X1228.here hx rfl (hb hby at_258) rfl (l' := #[iV px, iV py, iV cp, iV t, rV b1182, rV x_1228, iV 65533, uS]) rfl (XS.iloadN X1228.here hx rfl (hb hby at_260) rfl (apS (X1228.ldcInt hx hown (mvT hZ (hwI hw 53 rfl)) rfl (hb hby at_261)) (XS.icmpNo X1228.here hx rfl (hb hby at_263) rfl (tlt cp65).2.1 (XS.aload X1228.here hx rfl (hb hby at_266) rfl rfl k_))))))))))
          obtain ⟨cq1230, kq1230, q1230a, q1230b, q1230c⟩ := isOf hZ (rfl : T1228.heap = T1228.heap) p1228_1
          obtain ⟨rv1230, _, ⟨T1230, L1230, k1230, n1230⟩, -, X1230, ⟨Lc1230, hQ1230, l1230, y1230, z1230⟩, st1230⟩ := X1228.virtualBack hx (y := yM2) (z := yM2) hown (mvT hZ (hwI hw 54 rfl)) (mvT hZ (hwI hw 55 rfl)) (notFace_of_selects (args := #[]) (mvT hZ (hwI hw 57 rfl))) (mvT hZ (hwI hw 57 rfl)) (mvT hZ (hwI hw 56 rfl)) (by decide) (backOf (W := 0) (ulen_ l Z a0 hw [] x_1228 t_1228 kb_1228 (4 : Int32) ([(.int (loB cp)), (.int (hiB cp)), (.int (loB (65533 : Int32))), (.int (hiB (65533 : Int32)))]) zc (2 : Int32) T1228.heap n0 O1228 p1228_1 p1228_2 p1228_3 p1228_4 P1 hzc (by decide)) hZ (hwI hw 58 rfl) (hwI hw 10 rfl) (by decide) (by decide)) q1230a q1230c (g := (mkF m 268 #[iV px, iV py, iV cp, iV t, rV b1182, rV x_1228, iV 65533, uS] [(.ref x_1228)])) rfl (by rw [hml]; rfl) (Steps.refl _) (argsL := []) (rest := []) (lenOf pd_16428521 rfl) rfl (by show 2 * 0 + _ ≤ _; exact Nat.le_of_eq rfl) (hb hby at_268) (fun _ _ => ⟨rfl, (rfl : T1228.heap = T1228.heap), (by decide : 5 + 0 ≤ _), (by decide : 20 + 0 ≤ _)⟩)
          dsimp only [Pt.U, Pt.locs, Pt.cells, Pt.slots] at X1230 l1230 y1230 z1230 st1230 hQ1230
          subst l1230 y1230 z1230
          obtain ⟨rfl, N1230q, K1230⟩ := hQ1230
          have N1230 := Fr.app N1228 N1230q
          have R1231 : Go p e below P T1230 (mkF m 278 #[iV px, iV py, iV cp, iV t, rV b1182, rV x_1228, iV 65533, uS] [(.int 0), (.ref x_1228)]) := fun t_ k_ => R1229 t_ (st1230.trans (XS.iconst X1230.here hx rfl (hb hby at_271) (XS.icmpNo X1230.here hx rfl (hb hby at_272) rfl (teq rfl).2 (XS.aload X1230.here hx rfl (hb hby at_275) rfl rfl (XS.iconst X1230.here hx rfl (hb hby at_277) k_)))))
          obtain ⟨cq1232, kq1232, q1232a, q1232b, q1232c⟩ := isOf hZ K1230 p1228_1
          obtain ⟨rv1232, _, ⟨T1232, L1232, k1232, n1232⟩, -, X1232, ⟨Lc1232, hQ1232, l1232, y1232, z1232⟩, st1232⟩ := X1230.virtualBack hx (y := yM6) (z := yM6) hown (mvT hZ (hwI hw 64 rfl)) (mvT hZ (hwI hw 65 rfl)) (notFace_of_selects (args := #[]) (mvT hZ (hwI hw 67 rfl))) (mvT hZ (hwI hw 67 rfl)) (mvT hZ (hwI hw 66 rfl)) (by decide) (backOf (W := 0) (uchr_ l Z a0 hw [] x_1228 t_1228 kb_1228 (4 : Int32) ([(.int (loB cp)), (.int (hiB cp)), (.int (loB (65533 : Int32))), (.int (hiB (65533 : Int32)))]) zc 0 (0 : Int32) (loB cp) (hiB cp) cp (2 : Int32) fm T1228.heap n0 O1228 P3 P4 P5 P6 hfm p1228_1 p1228_2 p1228_3 p1228_4 P1 hzc (by decide) ⟨by decide, by decide⟩ rfl (Nat.le_of_ble_eq_true rfl) rfl (Nat.le_of_ble_eq_true rfl) rfl rfl (charOf_id hcpn cp65) (i2c_id hcpn cp65)) hZ (hwI hw 68 rfl) (hwI hw 10 rfl) (by decide) (by decide)) q1232a q1232c (g := (mkF m 278 #[iV px, iV py, iV cp, iV t, rV b1182, rV x_1228, iV 65533, uS] [(.int 0), (.ref x_1228)])) rfl (by rw [hml]; rfl) (Steps.refl _) (argsL := [(.int 0)]) (rest := []) (lenOf pd_52681278 rfl) rfl (by show 2 * 0 + _ ≤ _; exact Nat.le_of_eq rfl) (hb hby at_278) (fun _ _ => ⟨rfl, K1230, (by decide : 5 + 0 ≤ _), (by decide : 20 + 0 ≤ _)⟩)
          dsimp only [Pt.U, Pt.locs, Pt.cells, Pt.slots] at X1232 l1232 y1232 z1232 st1232 hQ1232
          subst l1232 y1232 z1232
          obtain ⟨rfl, N1232q, K1232⟩ := hQ1232
          have N1232 := Fr.app N1230 N1232q
          have R1233 : Go p e below P T1232 (mkF m 289 #[iV px, iV py, iV cp, iV t, rV b1182, rV x_1228, iV 65533, uS] [(.int 1), (.ref x_1228)]) := fun t_ k_ => R1231 t_ (st1232.trans (XS.iloadN X1232.here hx rfl (hb hby at_281) rfl (XS.i2c X1232.here hx rfl (hb hby at_282) rfl (XS.icmpNo X1232.here hx rfl (hb hby at_283) rfl (teq (show cp = (cp.toUInt32.toUInt16.toUInt32.toInt32) from (i2c_id hcpn cp65).symm)).2 (XS.aload X1232.here hx rfl (hb hby at_286) rfl rfl (XS.iconst X1232.here hx rfl (hb hby at_288) k_))))))
          obtain ⟨cq1234, kq1234, q1234a, q1234b, q1234c⟩ := isOf hZ K1232 p1228_1
          obtain ⟨rv1234, _, ⟨T1234, L1234, k1234, n1234⟩, -, X1234, ⟨Lc1234, hQ1234, l1234, y1234, z1234⟩, st1234⟩ := X1232.virtualBack hx (y := yM6) (z := yM6) hown (mvT hZ (hwI hw 64 rfl)) (mvT hZ (hwI hw 65 rfl)) (notFace_of_selects (args := #[]) (mvT hZ (hwI hw 67 rfl))) (mvT hZ (hwI hw 67 rfl)) (mvT hZ (hwI hw 66 rfl)) (by decide) (backOf (W := 0) (uchr_ l Z a0 hw [] x_1228 t_1228 kb_1228 (4 : Int32) ([(.int (loB cp)), (.int (hiB cp)), (.int (loB (65533 : Int32))), (.int (hiB (65533 : Int32)))]) zc 1 (1 : Int32) (loB (65533 : Int32)) (hiB (65533 : Int32)) (65533 : Int32) (2 : Int32) fm T1228.heap n0 O1228 P3 P4 P5 P6 hfm p1228_1 p1228_2 p1228_3 p1228_4 P1 hzc (by decide) ⟨by decide, by decide⟩ rfl (Nat.le_of_ble_eq_true rfl) rfl (Nat.le_of_ble_eq_true rfl) rfl rfl (charOf_id (by decide) (by decide)) (i2c_id (by decide) (by decide))) hZ (hwI hw 68 rfl) (hwI hw 10 rfl) (by decide) (by decide)) q1234a q1234c (g := (mkF m 289 #[iV px, iV py, iV cp, iV t, rV b1182, rV x_1228, iV 65533, uS] [(.int 1), (.ref x_1228)])) rfl (by rw [hml]; rfl) (Steps.refl _) (argsL := [(.int 1)]) (rest := []) (lenOf pd_52681278 rfl) rfl (by show 2 * 0 + _ ≤ _; exact Nat.le_of_eq rfl) (hb hby at_289) (fun _ _ => ⟨rfl, K1232, (by decide : 5 + 0 ≤ _), (by decide : 20 + 0 ≤ _)⟩)
          dsimp only [Pt.U, Pt.locs, Pt.cells, Pt.slots] at X1234 l1234 y1234 z1234 st1234 hQ1234
          subst l1234 y1234 z1234
          obtain ⟨rfl, N1234q, K1234⟩ := hQ1234
          have N1234 := Fr.app N1232 N1234q
          have R1235 : Go p e below P T1234 (mkF m 302 #[iV px, iV py, iV cp, iV t, rV b1182, rV x_1228, iV 65533, uS] [(.int 1)]) := fun t_ k_ => R1233 t_ (st1234.trans (XS.iload X1234.here hx rfl (hb hby at_292) rfl (XS.icmpNo X1234.here hx rfl (hb hby at_294) rfl (teq rfl).2 (XS.iconst X1234.here hx rfl (hb hby at_297) (XS.goto X1234.here hx rfl (pc0 := 298) (pc' := 302) rfl (hb hby at_298) (by decide) (by decide) k_)))))
          obtain ⟨fs, hr, hrun, hended, hW, hsame⟩ := X1234.leave (v := some (.int (nar .boolean (1 : Int32)))) (fun h => by rw [Bd.returns] at h; cases h)
          exact ⟨_, _, hP _ (R1235 _ (retN X1234 hx (t := .boolean) Bd.returns (by simp) (hb hby at_302) hr)), hrun, hended, _, _, rfl, ⟨rfl, N1234, (K1234.symm ▸ ((((((Keep.refl h0 []).ext E1182).wr W1186 (Or.inr (Nat.le_of_eq g1182.symm))).wr W1190 (Or.inr (Nat.le_of_eq g1182.symm))).wr W1194 (Or.inr (Nat.le_of_eq g1182.symm))).trans K1228 all0))⟩, ⟨_, rfl⟩, hW, hsame.mono (by decide) (by decide)⟩
    · have R1236 : Go p e below P s₁ (mkF m 109 #[iV px, iV py, iV cp, iV t, uS, uS, uS, uS] [(.int 65536), (.int cp)]) := fun t_ k_ => R1180 t_ (XS.icmpYes X0.here hx rfl (pc0 := 63) (pc' := 106) rfl (hb hby at_63) rfl (flt hc1181).2.1 (by decide) (by decide) (XS.iloadN X0.here hx rfl (hb hby at_106) rfl (apS (X0.ldcInt hx hown (mvT hZ (hwI hw 53 rfl)) rfl (hb hby at_107)) k_)))
      by_cases hc1237 : cp < (65536 : Int32)
      · obtain ⟨T1238, h1238, k1238, X1238, e1238, E1238, A1238, Ex1238, st1238⟩ := newPE X0 hx hZ (hwI hw 3 rfl) e0 (g := (mkF m 113 #[iV px, iV py, iV cp, iV t, uS, uS, uS, uS] [(.int 4)])) rfl (hb hby at_113) rfl (by decide) (cap := 4) (by decide) (by decide) (by decide) (by decide) (ad := "[B") (by decide)
        obtain ⟨b1238, g1238⟩ : ∃ z, z = h0.size := ⟨_, rfl⟩
        rw [← g1238] at A1238 Ex1238 st1238
        have O1238 := O0.ext E1238
        have V1238 : Arv Z h1238 b1238 k1238 .byte (4 : Int32) [(.int 0), (.int 0), (.int 0), (.int 0)] (.int 0) := (Arv.new A1238 (by decide)).pad (pad_rep [] (.int 0) 4)
        have R1239 : Go p e below P T1238 (mkF m 129 #[iV px, iV py, iV cp, iV t, rV b1238, uS, uS, uS] [(.int (((224 : Int32) ||| (cp >>> ((12 : Int32) &&& 31))).toInt8.toInt32)), (.int 0), (.ref b1238)]) := fun t_ k_ => R1236 t_ (XS.icmpNo X0.here hx rfl (hb hby at_109) rfl (tlt hc1237).2.1 (XS.iconst X0.here hx rfl (hb hby at_112) (st1238 t_ (XS.astore X1238.here hx rfl (hb hby at_115) rfl rfl (l' := #[iV px, iV py, iV cp, iV t, rV b1238, uS, uS, uS]) rfl (XS.aload X1238.here hx rfl (hb hby at_117) rfl rfl (XS.iconst X1238.here hx rfl (hb hby at_119) (XS.sipush X1238.here hx rfl (hb hby at_120) (XS.iloadN X1238.here hx rfl (hb hby at_123) rfl (XS.bipush X1238.here hx rfl (hb hby at_124) (XS.ishr X1238.here hx rfl (hb hby at_126) rfl (XS.ior X1238.here hx rfl (hb hby at_127) rfl (XS.i2b X1238.here hx rfl (hb hby at_128) rfl k_))))))))))))
        obtain ⟨b1, hb1⟩ : ∃ z : Int32, z = (((224 : Int32) ||| (cp >>> ((12 : Int32) &&& 31))).toInt8.toInt32) := ⟨_, rfl⟩
        have R1240 : Go p e below P T1238 (mkF m 129 #[iV px, iV py, iV cp, iV t, rV b1238, uS, uS, uS] [(.int b1), (.int 0), (.ref b1238)]) := by rw [hb1]; exact R1239
        have eb1 : nar .byte b1 = b1 := by rw [hb1]; exact nar_b8 _
        obtain ⟨cl1241, cl1241A, cl1241q, cl1241S, cl1241N, cl1241H, cl1241G⟩ := id V1238
        obtain ⟨T1242, h1242, X1242, e1242, W1242, st1242⟩ := stB X1238 hx hZ e1238 cl1241A (j := (0 : Int32)) (inb_of cl1241S ⟨by decide, by decide⟩) (g := (mkF m 129 #[iV px, iV py, iV cp, iV t, rV b1238, uS, uS, uS] [(.int b1), (.int 0), (.ref b1238)])) rfl rfl (hb hby at_129)
        have V1242 : Arv Z h1242 b1238 k1238 .byte (4 : Int32) [(.int (nar .byte b1)), (.int 0), (.int 0), (.int 0)] (.int 0) := Arv.set cl1241A cl1241q cl1241S cl1241N cl1241H cl1241G (fits_nar_byte _) W1242 0 rfl (Nat.le_of_ble_eq_true rfl)
        have N1242 := Fr.snoc X1242 N0 (Nat.le_trans (oldLe O0) (Nat.le_of_eq g1238.symm))
        have O1242 := O1238.wr W1242 (Nat.le_trans (oldLe O0) (Nat.le_of_eq g1238.symm))
        have V1242s : Arv Z h1242 b1238 k1238 .byte (4 : Int32) [(.int b1), (.int 0), (.int 0), (.int 0)] (.int 0) := by have q := V1242; rw [eb1] at q; exact q
        have R1243 : Go p e below P T1242 (mkF m 145 #[iV px, iV py, iV cp, iV t, rV b1238, uS, uS, uS] [(.int (((128 : Int32) ||| ((cp >>> ((6 : Int32) &&& 31)) &&& (63 : Int32))).toInt8.toInt32)), (.int 1), (.ref b1238)]) := fun t_ k_ => R1240 t_ (st1242 t_ (XS.aload X1242.here hx rfl (hb hby at_130) rfl rfl (XS.iconst X1242.here hx rfl (hb hby at_132) (XS.sipush X1242.here hx rfl (hb hby at_133) (XS.iloadN X1242.here hx rfl (hb hby at_136) rfl (XS.bipush X1242.here hx rfl (hb hby at_137) (XS.ishr X1242.here hx rfl (hb hby at_139) rfl (XS.bipush X1242.here hx rfl (hb hby at_140) (XS.iand X1242.here hx rfl (hb hby at_142) rfl (XS.ior X1242.here hx rfl (hb hby at_143) rfl (XS.i2b X1242.here hx rfl (hb hby at_144) rfl k_)))))))))))
        obtain ⟨b2, hb2⟩ : ∃ z : Int32, z = (((128 : Int32) ||| ((cp >>> ((6 : Int32) &&& 31)) &&& (63 : Int32))).toInt8.toInt32) := ⟨_, rfl⟩
        have R1244 : Go p e below P T1242 (mkF m 145 #[iV px, iV py, iV cp, iV t, rV b1238, uS, uS, uS] [(.int b2), (.int 1), (.ref b1238)]) := by rw [hb2]; exact R1243
        have eb2 : nar .byte b2 = b2 := by rw [hb2]; exact nar_b8 _
        obtain ⟨cl1245, cl1245A, cl1245q, cl1245S, cl1245N, cl1245H, cl1245G⟩ := id V1242s
        obtain ⟨T1246, h1246, X1246, e1246, W1246, st1246⟩ := stB X1242 hx hZ e1242 cl1245A (j := (1 : Int32)) (inb_of cl1245S ⟨by decide, by decide⟩) (g := (mkF m 145 #[iV px, iV py, iV cp, iV t, rV b1238, uS, uS, uS] [(.int b2), (.int 1), (.ref b1238)])) rfl rfl (hb hby at_145)
        have V1246 : Arv Z h1246 b1238 k1238 .byte (4 : Int32) [(.int b1), (.int (nar .byte b2)), (.int 0), (.int 0)] (.int 0) := Arv.set cl1245A cl1245q cl1245S cl1245N cl1245H cl1245G (fits_nar_byte _) W1246 1 rfl (Nat.le_of_ble_eq_true rfl)
        have N1246 := Fr.snoc X1246 N1242 (Nat.le_trans (oldLe O0) (Nat.le_of_eq g1238.symm))
        have O1246 := O1242.wr W1246 (Nat.le_trans (oldLe O0) (Nat.le_of_eq g1238.symm))
        have V1246s : Arv Z h1246 b1238 k1238 .byte (4 : Int32) [(.int b1), (.int b2), (.int 0), (.int 0)] (.int 0) := by have q := V1246; rw [eb2] at q; exact q
        have R1247 : Go p e below P T1246 (mkF m 158 #[iV px, iV py, iV cp, iV t, rV b1238, uS, uS, uS] [(.int (((128 : Int32) ||| (cp &&& (63 : Int32))).toInt8.toInt32)), (.int 2), (.ref b1238)]) := fun t_ k_ => R1244 t_ (st1246 t_ (XS.aload X1246.here hx rfl (hb hby at_146) rfl rfl (XS.iconst X1246.here hx rfl (hb hby at_148) (XS.sipush X1246.here hx rfl (hb hby at_149) (XS.iloadN X1246.here hx rfl (hb hby at_152) rfl (XS.bipush X1246.here hx rfl (hb hby at_153) (XS.iand X1246.here hx rfl (hb hby at_155) rfl (XS.ior X1246.here hx rfl (hb hby at_156) rfl (XS.i2b X1246.here hx rfl (hb hby at_157) rfl k_)))))))))
        obtain ⟨b3, hb3⟩ : ∃ z : Int32, z = (((128 : Int32) ||| (cp &&& (63 : Int32))).toInt8.toInt32) := ⟨_, rfl⟩
        have R1248 : Go p e below P T1246 (mkF m 158 #[iV px, iV py, iV cp, iV t, rV b1238, uS, uS, uS] [(.int b3), (.int 2), (.ref b1238)]) := by rw [hb3]; exact R1247
        have eb3 : nar .byte b3 = b3 := by rw [hb3]; exact nar_b8 _
        obtain ⟨cl1249, cl1249A, cl1249q, cl1249S, cl1249N, cl1249H, cl1249G⟩ := id V1246s
        obtain ⟨T1250, h1250, X1250, e1250, W1250, st1250⟩ := stB X1246 hx hZ e1246 cl1249A (j := (2 : Int32)) (inb_of cl1249S ⟨by decide, by decide⟩) (g := (mkF m 158 #[iV px, iV py, iV cp, iV t, rV b1238, uS, uS, uS] [(.int b3), (.int 2), (.ref b1238)])) rfl rfl (hb hby at_158)
        have V1250 : Arv Z h1250 b1238 k1238 .byte (4 : Int32) [(.int b1), (.int b2), (.int (nar .byte b3)), (.int 0)] (.int 0) := Arv.set cl1249A cl1249q cl1249S cl1249N cl1249H cl1249G (fits_nar_byte _) W1250 2 rfl (Nat.le_of_ble_eq_true rfl)
        have N1250 := Fr.snoc X1250 N1246 (Nat.le_trans (oldLe O0) (Nat.le_of_eq g1238.symm))
        have O1250 := O1246.wr W1250 (Nat.le_trans (oldLe O0) (Nat.le_of_eq g1238.symm))
        have V1250s : Arv Z h1250 b1238 k1238 .byte (4 : Int32) [(.int b1), (.int b2), (.int b3), (.int 0)] (.int 0) := by have q := V1250; rw [eb3] at q; exact q
        have R1251 : Go p e below P T1250 (mkF m 164 #[iV px, iV py, iV cp, iV t, rV b1238, uS, uS, uS] [(.int (t.toInt8.toInt32)), (.int 3), (.ref b1238)]) := fun t_ k_ => R1248 t_ (st1250 t_ (XS.aload X1250.here hx rfl (hb hby at_159) rfl rfl (XS.iconst X1250.here hx rfl (hb hby at_161) (XS.iloadN X1250.here hx rfl (hb hby at_162) rfl (XS.i2b X1250.here hx rfl (hb hby at_163) rfl k_)))))
        obtain ⟨t8, ht8⟩ : ∃ z : Int32, z = (t.toInt8.toInt32) := ⟨_, rfl⟩
        have R1252 : Go p e below P T1250 (mkF m 164 #[iV px, iV py, iV cp, iV t, rV b1238, uS, uS, uS] [(.int t8), (.int 3), (.ref b1238)]) := by rw [ht8]; exact R1251
        have et8 : nar .byte t8 = t8 := by rw [ht8]; exact nar_b8 _
        obtain ⟨cl1253, cl1253A, cl1253q, cl1253S, cl1253N, cl1253H, cl1253G⟩ := id V1250s
        obtain ⟨T1254, h1254, X1254, e1254, W1254, st1254⟩ := stB X1250 hx hZ e1250 cl1253A (j := (3 : Int32)) (inb_of cl1253S ⟨by decide, by decide⟩) (g := (mkF m 164 #[iV px, iV py, iV cp, iV t, rV b1238, uS, uS, uS] [(.int t8), (.int 3), (.ref b1238)])) rfl rfl (hb hby at_164)
        have V1254 : Arv Z h1254 b1238 k1238 .byte (4 : Int32) [(.int b1), (.int b2), (.int b3), (.int (nar .byte t8))] (.int 0) := Arv.set cl1253A cl1253q cl1253S cl1253N cl1253H cl1253G (fits_nar_byte _) W1254 3 rfl (Nat.le_of_ble_eq_true rfl)
        have N1254 := Fr.snoc X1254 N1250 (Nat.le_trans (oldLe O0) (Nat.le_of_eq g1238.symm))
        have O1254 := O1250.wr W1254 (Nat.le_trans (oldLe O0) (Nat.le_of_eq g1238.symm))
        have V1254s : Arv Z h1254 b1238 k1238 .byte (4 : Int32) [(.int b1), (.int b2), (.int b3), (.int t8)] (.int 0) := by have q := V1254; rw [et8] at q; exact q
        have R1255 : Go p e below P T1254 (mkF m 239 #[iV px, iV py, iV cp, iV t, rV b1238, uS, uS, uS] [(.ref b1238)]) := fun t_ k_ => R1252 t_ (st1254 t_ (XS.goto X1254.here hx rfl (pc0 := 165) (pc' := 237) rfl (hb hby at_165) (by decide) (by decide) (XS.aload X1254.here hx rfl (hb hby at_237) rfl rfl k_)))
        by_cases tl1256 : t < (128 : Int32)
        · have q8 : t8 = t := ht8.trans (lo8_id htr.1 tl1256)
          have n8 : ¬ t8 < (0 : Int32) := by rw [q8]; exact htr.1
          have t65 := lt_trans32 htr.2 (show (256 : Int32).toInt ≤ (65536 : Int32).toInt from by decide)
          have i8 : (t8.toUInt32.toUInt16.toUInt32.toInt32) = t8 := by rw [q8]; exact i2c_id htr.1 t65
          have u8 : t8 < (65536 : Int32) := by rw [q8]; exact t65
          have cp65 : cp < (65536 : Int32) := hc1237
          obtain ⟨f1, f2, f3, f4, f5, f6, f7, f8⟩ := factsC hc1181 hc1237 hb1 hb2 hb3
          have f1257 := ((((Ex1238.wr W1242).wr W1246).wr W1250).wr W1254)
          obtain ⟨rv1258, T1258, Lc1258, X1258, hQ1258, R1258⟩ := callQ X1254 hx hZ hown e1254 R1255 (decCl_ l Z a0 hw [] b1238 k1238 b1 b2 b3 t8 cp wU zc fm h1254 n0 O1254 V1254s f1257 P0 P1 hzc P3 P4 P5 P6 hfm P8 P9 f1 f7 n8 i8 f2 f3 f5 f6 f4 f8 hcps) (hwI hw 4 rfl) (hwI hw 5 rfl) (hwI hw 6 rfl) (hwI hw 7 rfl) [] rfl (by rw [hml]; rfl) (lenOf pd_1336023 rfl) rfl (W := 0) (wR rfl) (hb hby at_239)
          obtain ⟨x_1258, t_1258, kb_1258, rfl, N1258q, K1258, p1258_0, p1258_1, p1258_2, p1258_3, p1258_4⟩ := hQ1258
          have N1258 := Fr.app N1254 N1258q
          have O1258 := O1254.keep K1258 all0
          have R1259 : Go p e below P T1258 (mkF m 268 #[iV px, iV py, iV cp, iV t, rV b1238, rV x_1258, iV (t.toUInt32.toUInt16.toUInt32.toInt32), uS] [(.ref x_1258)]) := fun t_ k_ => R1258 t_ (XS.astore X1258.here hx rfl (hb hby at_242) rfl rfl (l' := #[iV px, iV py, iV cp, iV t, rV b1238, rV x_1258, uS, uS]) rfl (XS.iloadN X1258.here hx rfl (hb hby at_244) rfl (XS.sipush X1258.here hx rfl (hb hby at_245) (XS.icmpNo X1258.here hx rfl (hb hby at_248) rfl (tlt tl1256).2.1 (XS.iloadN X1258.here hx rfl (hb hby at_251) rfl (XS.i2c X1258.here hx rfl (hb hby at_252) rfl (XS.goto X1258.here hx rfl (pc0 := 253) (pc' := 258) rfl (hb hby at_253) (by decide) (by decide) (XS.istore X1258.here hx rfl (hb hby at_258) rfl (l' := #[iV px, iV py, iV cp, iV t, rV b1238, rV x_1258, iV (t.toUInt32.toUInt16.toUInt32.toInt32), uS]) rfl (XS.iloadN X1258.here hx rfl (hb hby at_260) rfl (apS (X1258.ldcInt hx hown (mvT hZ (hwI hw 53 rfl)) rfl (hb hby at_261)) (XS.icmpNo X1258.here hx rfl (hb hby at_263) rfl (tlt cp65).2.1 (XS.aload X1258.here hx rfl (hb hby at_266) rfl rfl k_))))))))))))
          obtain ⟨cq1260, kq1260, q1260a, q1260b, q1260c⟩ := isOf hZ (rfl : T1258.heap = T1258.heap) p1258_1
          obtain ⟨rv1260, _, ⟨T1260, L1260, k1260, n1260⟩, -, X1260, ⟨Lc1260, hQ1260, l1260, y1260, z1260⟩, st1260⟩ := X1258.virtualBack hx (y := yM2) (z := yM2) hown (mvT hZ (hwI hw 54 rfl)) (mvT hZ (hwI hw 55 rfl)) (notFace_of_selects (args := #[]) (mvT hZ (hwI hw 57 rfl))) (mvT hZ (hwI hw 57 rfl)) (mvT hZ (hwI hw 56 rfl)) (by decide) (backOf (W := 0) (ulen_ l Z a0 hw [] x_1258 t_1258 kb_1258 (4 : Int32) ([(.int (loB cp)), (.int (hiB cp)), (.int (loB t8)), (.int (hiB t8))]) zc (2 : Int32) T1258.heap n0 O1258 p1258_1 p1258_2 p1258_3 p1258_4 P1 hzc (by decide)) hZ (hwI hw 58 rfl) (hwI hw 10 rfl) (by decide) (by decide)) q1260a q1260c (g := (mkF m 268 #[iV px, iV py, iV cp, iV t, rV b1238, rV x_1258, iV (t.toUInt32.toUInt16.toUInt32.toInt32), uS] [(.ref x_1258)])) rfl (by rw [hml]; rfl) (Steps.refl _) (argsL := []) (rest := []) (lenOf pd_16428521 rfl) rfl (by show 2 * 0 + _ ≤ _; exact Nat.le_of_eq rfl) (hb hby at_268) (fun _ _ => ⟨rfl, (rfl : T1258.heap = T1258.heap), (by decide : 5 + 0 ≤ _), (by decide : 24 + 0 ≤ _)⟩)
          dsimp only [Pt.U, Pt.locs, Pt.cells, Pt.slots] at X1260 l1260 y1260 z1260 st1260 hQ1260
          subst l1260 y1260 z1260
          obtain ⟨rfl, N1260q, K1260⟩ := hQ1260
          have N1260 := Fr.app N1258 N1260q
          have R1261 : Go p e below P T1260 (mkF m 278 #[iV px, iV py, iV cp, iV t, rV b1238, rV x_1258, iV (t.toUInt32.toUInt16.toUInt32.toInt32), uS] [(.int 0), (.ref x_1258)]) := fun t_ k_ => R1259 t_ (st1260.trans (XS.iconst X1260.here hx rfl (hb hby at_271) (XS.icmpNo X1260.here hx rfl (hb hby at_272) rfl (teq rfl).2 (XS.aload X1260.here hx rfl (hb hby at_275) rfl rfl (XS.iconst X1260.here hx rfl (hb hby at_277) k_)))))
          obtain ⟨cq1262, kq1262, q1262a, q1262b, q1262c⟩ := isOf hZ K1260 p1258_1
          obtain ⟨rv1262, _, ⟨T1262, L1262, k1262, n1262⟩, -, X1262, ⟨Lc1262, hQ1262, l1262, y1262, z1262⟩, st1262⟩ := X1260.virtualBack hx (y := yM6) (z := yM6) hown (mvT hZ (hwI hw 64 rfl)) (mvT hZ (hwI hw 65 rfl)) (notFace_of_selects (args := #[]) (mvT hZ (hwI hw 67 rfl))) (mvT hZ (hwI hw 67 rfl)) (mvT hZ (hwI hw 66 rfl)) (by decide) (backOf (W := 0) (uchr_ l Z a0 hw [] x_1258 t_1258 kb_1258 (4 : Int32) ([(.int (loB cp)), (.int (hiB cp)), (.int (loB t8)), (.int (hiB t8))]) zc 0 (0 : Int32) (loB cp) (hiB cp) cp (2 : Int32) fm T1258.heap n0 O1258 P3 P4 P5 P6 hfm p1258_1 p1258_2 p1258_3 p1258_4 P1 hzc (by decide) ⟨by decide, by decide⟩ rfl (Nat.le_of_ble_eq_true rfl) rfl (Nat.le_of_ble_eq_true rfl) rfl rfl (charOf_id hcpn cp65) (i2c_id hcpn cp65)) hZ (hwI hw 68 rfl) (hwI hw 10 rfl) (by decide) (by decide)) q1262a q1262c (g := (mkF m 278 #[iV px, iV py, iV cp, iV t, rV b1238, rV x_1258, iV (t.toUInt32.toUInt16.toUInt32.toInt32), uS] [(.int 0), (.ref x_1258)])) rfl (by rw [hml]; rfl) (Steps.refl _) (argsL := [(.int 0)]) (rest := []) (lenOf pd_52681278 rfl) rfl (by show 2 * 0 + _ ≤ _; exact Nat.le_of_eq rfl) (hb hby at_278) (fun _ _ => ⟨rfl, K1260, (by decide : 5 + 0 ≤ _), (by decide : 24 + 0 ≤ _)⟩)
          dsimp only [Pt.U, Pt.locs, Pt.cells, Pt.slots] at X1262 l1262 y1262 z1262 st1262 hQ1262
          subst l1262 y1262 z1262
          obtain ⟨rfl, N1262q, K1262⟩ := hQ1262
          have N1262 := Fr.app N1260 N1262q
          have R1263 : Go p e below P T1262 (mkF m 289 #[iV px, iV py, iV cp, iV t, rV b1238, rV x_1258, iV (t.toUInt32.toUInt16.toUInt32.toInt32), uS] [(.int 1), (.ref x_1258)]) := fun t_ k_ => R1261 t_ (st1262.trans (XS.iloadN X1262.here hx rfl (hb hby at_281) rfl (XS.i2c X1262.here hx rfl (hb hby at_282) rfl (XS.icmpNo X1262.here hx rfl (hb hby at_283) rfl (teq (show cp = (cp.toUInt32.toUInt16.toUInt32.toInt32) from (i2c_id hcpn cp65).symm)).2 (XS.aload X1262.here hx rfl (hb hby at_286) rfl rfl (XS.iconst X1262.here hx rfl (hb hby at_288) k_))))))
          obtain ⟨cq1264, kq1264, q1264a, q1264b, q1264c⟩ := isOf hZ K1262 p1258_1
          obtain ⟨rv1264, _, ⟨T1264, L1264, k1264, n1264⟩, -, X1264, ⟨Lc1264, hQ1264, l1264, y1264, z1264⟩, st1264⟩ := X1262.virtualBack hx (y := yM6) (z := yM6) hown (mvT hZ (hwI hw 64 rfl)) (mvT hZ (hwI hw 65 rfl)) (notFace_of_selects (args := #[]) (mvT hZ (hwI hw 67 rfl))) (mvT hZ (hwI hw 67 rfl)) (mvT hZ (hwI hw 66 rfl)) (by decide) (backOf (W := 0) (uchr_ l Z a0 hw [] x_1258 t_1258 kb_1258 (4 : Int32) ([(.int (loB cp)), (.int (hiB cp)), (.int (loB t8)), (.int (hiB t8))]) zc 1 (1 : Int32) (loB t8) (hiB t8) t8 (2 : Int32) fm T1258.heap n0 O1258 P3 P4 P5 P6 hfm p1258_1 p1258_2 p1258_3 p1258_4 P1 hzc (by decide) ⟨by decide, by decide⟩ rfl (Nat.le_of_ble_eq_true rfl) rfl (Nat.le_of_ble_eq_true rfl) rfl rfl (charOf_id n8 u8) (i2c_id n8 u8)) hZ (hwI hw 68 rfl) (hwI hw 10 rfl) (by decide) (by decide)) q1264a q1264c (g := (mkF m 289 #[iV px, iV py, iV cp, iV t, rV b1238, rV x_1258, iV (t.toUInt32.toUInt16.toUInt32.toInt32), uS] [(.int 1), (.ref x_1258)])) rfl (by rw [hml]; rfl) (Steps.refl _) (argsL := [(.int 1)]) (rest := []) (lenOf pd_52681278 rfl) rfl (by show 2 * 0 + _ ≤ _; exact Nat.le_of_eq rfl) (hb hby at_289) (fun _ _ => ⟨rfl, K1262, (by decide : 5 + 0 ≤ _), (by decide : 24 + 0 ≤ _)⟩)
          dsimp only [Pt.U, Pt.locs, Pt.cells, Pt.slots] at X1264 l1264 y1264 z1264 st1264 hQ1264
          subst l1264 y1264 z1264
          obtain ⟨rfl, N1264q, K1264⟩ := hQ1264
          have N1264 := Fr.app N1262 N1264q
          have R1265 : Go p e below P T1264 (mkF m 302 #[iV px, iV py, iV cp, iV t, rV b1238, rV x_1258, iV (t.toUInt32.toUInt16.toUInt32.toInt32), uS] [(.int 1)]) := fun t_ k_ => R1263 t_ (st1264.trans (XS.iload X1264.here hx rfl (hb hby at_292) rfl (XS.icmpNo X1264.here hx rfl (hb hby at_294) rfl (teq (show t8 = (t.toUInt32.toUInt16.toUInt32.toInt32) from q8.trans (i2c_id htr.1 t65).symm)).2 (XS.iconst X1264.here hx rfl (hb hby at_297) (XS.goto X1264.here hx rfl (pc0 := 298) (pc' := 302) rfl (hb hby at_298) (by decide) (by decide) k_)))))
          obtain ⟨fs, hr, hrun, hended, hW, hsame⟩ := X1264.leave (v := some (.int (nar .boolean (1 : Int32)))) (fun h => by rw [Bd.returns] at h; cases h)
          exact ⟨_, _, hP _ (R1265 _ (retN X1264 hx (t := .boolean) Bd.returns (by simp) (hb hby at_302) hr)), hrun, hended, _, _, rfl, ⟨rfl, N1264, (K1264.symm ▸ (((((((Keep.refl h0 []).ext E1238).wr W1242 (Or.inr (Nat.le_of_eq g1238.symm))).wr W1246 (Or.inr (Nat.le_of_eq g1238.symm))).wr W1250 (Or.inr (Nat.le_of_eq g1238.symm))).wr W1254 (Or.inr (Nat.le_of_eq g1238.symm))).trans K1258 all0))⟩, ⟨_, rfl⟩, hW, hsame.mono (by decide) (by decide)⟩
        · have n8 : t8 < (0 : Int32) := by rw [ht8]; exact lo8_neg tl1256 htr.2
          have cp65 : cp < (65536 : Int32) := hc1237
          obtain ⟨f1, f2, f3, f4, f5, f6, f7, f8⟩ := factsC hc1181 hc1237 hb1 hb2 hb3
          have f1266 := ((((Ex1238.wr W1242).wr W1246).wr W1250).wr W1254)
          obtain ⟨rv1267, T1267, Lc1267, X1267, hQ1267, R1267⟩ := callQ X1254 hx hZ hown e1254 R1255 (decCh_ l Z a0 hw [] b1238 k1238 b1 b2 b3 t8 cp wU zc fm h1254 n0 O1254 V1254s f1266 P0 P1 hzc P3 P4 P5 P6 hfm P8 P9 f1 f7 n8 f2 f3 f5 f6 f4 f8 hcps) (hwI hw 4 rfl) (hwI hw 5 rfl) (hwI hw 6 rfl) (hwI hw 7 rfl) [] rfl (by rw [hml]; rfl) (lenOf pd_1336023 rfl) rfl (W := 0) (wR rfl) (hb hby at_239)
          obtain ⟨x_1267, t_1267, kb_1267, rfl, N1267q, K1267, p1267_0, p1267_1, p1267_2, p1267_3, p1267_4⟩ := hQ1267
          have N1267 := Fr.app N1254 N1267q
          have O1267 := O1254.keep K1267 all0
          have R1268 : Go p e below P T1267 (mkF m 268 #[iV px, iV py, iV cp, iV t, rV b1238, rV x_1267, iV 65533, uS] [(.ref x_1267)]) := fun t_ k_ => R1267 t_ (XS.astore X1267.here hx rfl (hb hby at_242) rfl rfl (l' := #[iV px, iV py, iV cp, iV t, rV b1238, rV x_1267, uS, uS]) rfl (XS.iloadN X1267.here hx rfl (hb hby at_244) rfl (XS.sipush X1267.here hx rfl (hb hby at_245) (XS.icmpYes X1267.here hx rfl (pc0 := 248) (pc' := 256) rfl (hb hby at_248) rfl (flt tl1256).2.1 (by decide) (by decide) (apS (X1267.ldcInt hx hown (mvT hZ (hwI hw 123 rfl)) rfl (hb hby at_256)) (XS.istore X1267.here hx rfl (hb hby at_258) rfl (l' := #[iV px, iV py, iV cp, iV t, rV b1238, rV x_1267, iV 65533, uS]) rfl (XS.iloadN X1267.here hx rfl (hb hby at_260) rfl (apS (X1267.ldcInt hx hown (mvT hZ (hwI hw 53 rfl)) rfl (hb hby at_261)) (XS.icmpNo X1267.here hx rfl (hb hby at_263) rfl (tlt cp65).2.1 (XS.aload X1267.here hx rfl (hb hby at_266) rfl rfl k_))))))))))
          obtain ⟨cq1269, kq1269, q1269a, q1269b, q1269c⟩ := isOf hZ (rfl : T1267.heap = T1267.heap) p1267_1
          obtain ⟨rv1269, _, ⟨T1269, L1269, k1269, n1269⟩, -, X1269, ⟨Lc1269, hQ1269, l1269, y1269, z1269⟩, st1269⟩ := X1267.virtualBack hx (y := yM2) (z := yM2) hown (mvT hZ (hwI hw 54 rfl)) (mvT hZ (hwI hw 55 rfl)) (notFace_of_selects (args := #[]) (mvT hZ (hwI hw 57 rfl))) (mvT hZ (hwI hw 57 rfl)) (mvT hZ (hwI hw 56 rfl)) (by decide) (backOf (W := 0) (ulen_ l Z a0 hw [] x_1267 t_1267 kb_1267 (4 : Int32) ([(.int (loB cp)), (.int (hiB cp)), (.int (loB (65533 : Int32))), (.int (hiB (65533 : Int32)))]) zc (2 : Int32) T1267.heap n0 O1267 p1267_1 p1267_2 p1267_3 p1267_4 P1 hzc (by decide)) hZ (hwI hw 58 rfl) (hwI hw 10 rfl) (by decide) (by decide)) q1269a q1269c (g := (mkF m 268 #[iV px, iV py, iV cp, iV t, rV b1238, rV x_1267, iV 65533, uS] [(.ref x_1267)])) rfl (by rw [hml]; rfl) (Steps.refl _) (argsL := []) (rest := []) (lenOf pd_16428521 rfl) rfl (by show 2 * 0 + _ ≤ _; exact Nat.le_of_eq rfl) (hb hby at_268) (fun _ _ => ⟨rfl, (rfl : T1267.heap = T1267.heap), (by decide : 5 + 0 ≤ _), (by decide : 24 + 0 ≤ _)⟩)
          dsimp only [Pt.U, Pt.locs, Pt.cells, Pt.slots] at X1269 l1269 y1269 z1269 st1269 hQ1269
          subst l1269 y1269 z1269
          obtain ⟨rfl, N1269q, K1269⟩ := hQ1269
          have N1269 := Fr.app N1267 N1269q
          have R1270 : Go p e below P T1269 (mkF m 278 #[iV px, iV py, iV cp, iV t, rV b1238, rV x_1267, iV 65533, uS] [(.int 0), (.ref x_1267)]) := fun t_ k_ => R1268 t_ (st1269.trans (XS.iconst X1269.here hx rfl (hb hby at_271) (XS.icmpNo X1269.here hx rfl (hb hby at_272) rfl (teq rfl).2 (XS.aload X1269.here hx rfl (hb hby at_275) rfl rfl (XS.iconst X1269.here hx rfl (hb hby at_277) k_)))))
          obtain ⟨cq1271, kq1271, q1271a, q1271b, q1271c⟩ := isOf hZ K1269 p1267_1
          obtain ⟨rv1271, _, ⟨T1271, L1271, k1271, n1271⟩, -, X1271, ⟨Lc1271, hQ1271, l1271, y1271, z1271⟩, st1271⟩ := X1269.virtualBack hx (y := yM6) (z := yM6) hown (mvT hZ (hwI hw 64 rfl)) (mvT hZ (hwI hw 65 rfl)) (notFace_of_selects (args := #[]) (mvT hZ (hwI hw 67 rfl))) (mvT hZ (hwI hw 67 rfl)) (mvT hZ (hwI hw 66 rfl)) (by decide) (backOf (W := 0) (uchr_ l Z a0 hw [] x_1267 t_1267 kb_1267 (4 : Int32) ([(.int (loB cp)), (.int (hiB cp)), (.int (loB (65533 : Int32))), (.int (hiB (65533 : Int32)))]) zc 0 (0 : Int32) (loB cp) (hiB cp) cp (2 : Int32) fm T1267.heap n0 O1267 P3 P4 P5 P6 hfm p1267_1 p1267_2 p1267_3 p1267_4 P1 hzc (by decide) ⟨by decide, by decide⟩ rfl (Nat.le_of_ble_eq_true rfl) rfl (Nat.le_of_ble_eq_true rfl) rfl rfl (charOf_id hcpn cp65) (i2c_id hcpn cp65)) hZ (hwI hw 68 rfl) (hwI hw 10 rfl) (by decide) (by decide)) q1271a q1271c (g := (mkF m 278 #[iV px, iV py, iV cp, iV t, rV b1238, rV x_1267, iV 65533, uS] [(.int 0), (.ref x_1267)])) rfl (by rw [hml]; rfl) (Steps.refl _) (argsL := [(.int 0)]) (rest := []) (lenOf pd_52681278 rfl) rfl (by show 2 * 0 + _ ≤ _; exact Nat.le_of_eq rfl) (hb hby at_278) (fun _ _ => ⟨rfl, K1269, (by decide : 5 + 0 ≤ _), (by decide : 24 + 0 ≤ _)⟩)
          dsimp only [Pt.U, Pt.locs, Pt.cells, Pt.slots] at X1271 l1271 y1271 z1271 st1271 hQ1271
          subst l1271 y1271 z1271
          obtain ⟨rfl, N1271q, K1271⟩ := hQ1271
          have N1271 := Fr.app N1269 N1271q
          have R1272 : Go p e below P T1271 (mkF m 289 #[iV px, iV py, iV cp, iV t, rV b1238, rV x_1267, iV 65533, uS] [(.int 1), (.ref x_1267)]) := fun t_ k_ => R1270 t_ (st1271.trans (XS.iloadN X1271.here hx rfl (hb hby at_281) rfl (XS.i2c X1271.here hx rfl (hb hby at_282) rfl (XS.icmpNo X1271.here hx rfl (hb hby at_283) rfl (teq (show cp = (cp.toUInt32.toUInt16.toUInt32.toInt32) from (i2c_id hcpn cp65).symm)).2 (XS.aload X1271.here hx rfl (hb hby at_286) rfl rfl (XS.iconst X1271.here hx rfl (hb hby at_288) k_))))))
          obtain ⟨cq1273, kq1273, q1273a, q1273b, q1273c⟩ := isOf hZ K1271 p1267_1
          obtain ⟨rv1273, _, ⟨T1273, L1273, k1273, n1273⟩, -, X1273, ⟨Lc1273, hQ1273, l1273, y1273, z1273⟩, st1273⟩ := X1271.virtualBack hx (y := yM6) (z := yM6) hown (mvT hZ (hwI hw 64 rfl)) (mvT hZ (hwI hw 65 rfl)) (notFace_of_selects (args := #[]) (mvT hZ (hwI hw 67 rfl))) (mvT hZ (hwI hw 67 rfl)) (mvT hZ (hwI hw 66 rfl)) (by decide) (backOf (W := 0) (uchr_ l Z a0 hw [] x_1267 t_1267 kb_1267 (4 : Int32) ([(.int (loB cp)), (.int (hiB cp)), (.int (loB (65533 : Int32))), (.int (hiB (65533 : Int32)))]) zc 1 (1 : Int32) (loB (65533 : Int32)) (hiB (65533 : Int32)) (65533 : Int32) (2 : Int32) fm T1267.heap n0 O1267 P3 P4 P5 P6 hfm p1267_1 p1267_2 p1267_3 p1267_4 P1 hzc (by decide) ⟨by decide, by decide⟩ rfl (Nat.le_of_ble_eq_true rfl) rfl (Nat.le_of_ble_eq_true rfl) rfl rfl (charOf_id (by decide) (by decide)) (i2c_id (by decide) (by decide))) hZ (hwI hw 68 rfl) (hwI hw 10 rfl) (by decide) (by decide)) q1273a q1273c (g := (mkF m 289 #[iV px, iV py, iV cp, iV t, rV b1238, rV x_1267, iV 65533, uS] [(.int 1), (.ref x_1267)])) rfl (by rw [hml]; rfl) (Steps.refl _) (argsL := [(.int 1)]) (rest := []) (lenOf pd_52681278 rfl) rfl (by show 2 * 0 + _ ≤ _; exact Nat.le_of_eq rfl) (hb hby at_289) (fun _ _ => ⟨rfl, K1271, (by decide : 5 + 0 ≤ _), (by decide : 24 + 0 ≤ _)⟩)
          dsimp only [Pt.U, Pt.locs, Pt.cells, Pt.slots] at X1273 l1273 y1273 z1273 st1273 hQ1273
          subst l1273 y1273 z1273
          obtain ⟨rfl, N1273q, K1273⟩ := hQ1273
          have N1273 := Fr.app N1271 N1273q
          have R1274 : Go p e below P T1273 (mkF m 302 #[iV px, iV py, iV cp, iV t, rV b1238, rV x_1267, iV 65533, uS] [(.int 1)]) := fun t_ k_ => R1272 t_ (st1273.trans (XS.iload X1273.here hx rfl (hb hby at_292) rfl (XS.icmpNo X1273.here hx rfl (hb hby at_294) rfl (teq rfl).2 (XS.iconst X1273.here hx rfl (hb hby at_297) (XS.goto X1273.here hx rfl (pc0 := 298) (pc' := 302) rfl (hb hby at_298) (by decide) (by decide) k_)))))
          obtain ⟨fs, hr, hrun, hended, hW, hsame⟩ := X1273.leave (v := some (.int (nar .boolean (1 : Int32)))) (fun h => by rw [Bd.returns] at h; cases h)
          exact ⟨_, _, hP _ (R1274 _ (retN X1273 hx (t := .boolean) Bd.returns (by simp) (hb hby at_302) hr)), hrun, hended, _, _, rfl, ⟨rfl, N1273, (K1273.symm ▸ (((((((Keep.refl h0 []).ext E1238).wr W1242 (Or.inr (Nat.le_of_eq g1238.symm))).wr W1246 (Or.inr (Nat.le_of_eq g1238.symm))).wr W1250 (Or.inr (Nat.le_of_eq g1238.symm))).wr W1254 (Or.inr (Nat.le_of_eq g1238.symm))).trans K1267 all0))⟩, ⟨_, rfl⟩, hW, hsame.mono (by decide) (by decide)⟩
      · obtain ⟨T1275, h1275, k1275, X1275, e1275, E1275, A1275, Ex1275, st1275⟩ := newPE X0 hx hZ (hwI hw 3 rfl) e0 (g := (mkF m 169 #[iV px, iV py, iV cp, iV t, uS, uS, uS, uS] [(.int 5)])) rfl (hb hby at_169) rfl (by decide) (cap := 5) (by decide) (by decide) (by decide) (by decide) (ad := "[B") (by decide)
        obtain ⟨b1275, g1275⟩ : ∃ z, z = h0.size := ⟨_, rfl⟩
        rw [← g1275] at A1275 Ex1275 st1275
        have O1275 := O0.ext E1275
        have V1275 : Arv Z h1275 b1275 k1275 .byte (5 : Int32) [(.int 0), (.int 0), (.int 0), (.int 0), (.int 0)] (.int 0) := (Arv.new A1275 (by decide)).pad (pad_rep [] (.int 0) 5)
        have R1276 : Go p e below P T1275 (mkF m 185 #[iV px, iV py, iV cp, iV t, rV b1275, uS, uS, uS] [(.int (((240 : Int32) ||| (cp >>> ((18 : Int32) &&& 31))).toInt8.toInt32)), (.int 0), (.ref b1275)]) := fun t_ k_ => R1236 t_ (XS.icmpYes X0.here hx rfl (pc0 := 109) (pc' := 168) rfl (hb hby at_109) rfl (flt hc1237).2.1 (by decide) (by decide) (XS.iconst X0.here hx rfl (hb hby at_168) (st1275 t_ (XS.astore X1275.here hx rfl (hb hby at_171) rfl rfl (l' := #[iV px, iV py, iV cp, iV t, rV b1275, uS, uS, uS]) rfl (XS.aload X1275.here hx rfl (hb hby at_173) rfl rfl (XS.iconst X1275.here hx rfl (hb hby at_175) (XS.sipush X1275.here hx rfl (hb hby at_176) (XS.iloadN X1275.here hx rfl (hb hby at_179) rfl (XS.bipush X1275.here hx rfl (hb hby at_180) (XS.ishr X1275.here hx rfl (hb hby at_182) rfl (XS.ior X1275.here hx rfl (hb hby at_183) rfl (XS.i2b X1275.here hx rfl (hb hby at_184) rfl k_))))))))))))
        obtain ⟨b1, hb1⟩ : ∃ z : Int32, z = (((240 : Int32) ||| (cp >>> ((18 : Int32) &&& 31))).toInt8.toInt32) := ⟨_, rfl⟩
        have R1277 : Go p e below P T1275 (mkF m 185 #[iV px, iV py, iV cp, iV t, rV b1275, uS, uS, uS] [(.int b1), (.int 0), (.ref b1275)]) := by rw [hb1]; exact R1276
        have eb1 : nar .byte b1 = b1 := by rw [hb1]; exact nar_b8 _
        obtain ⟨cl1278, cl1278A, cl1278q, cl1278S, cl1278N, cl1278H, cl1278G⟩ := id V1275
        obtain ⟨T1279, h1279, X1279, e1279, W1279, st1279⟩ := stB X1275 hx hZ e1275 cl1278A (j := (0 : Int32)) (inb_of cl1278S ⟨by decide, by decide⟩) (g := (mkF m 185 #[iV px, iV py, iV cp, iV t, rV b1275, uS, uS, uS] [(.int b1), (.int 0), (.ref b1275)])) rfl rfl (hb hby at_185)
        have V1279 : Arv Z h1279 b1275 k1275 .byte (5 : Int32) [(.int (nar .byte b1)), (.int 0), (.int 0), (.int 0), (.int 0)] (.int 0) := Arv.set cl1278A cl1278q cl1278S cl1278N cl1278H cl1278G (fits_nar_byte _) W1279 0 rfl (Nat.le_of_ble_eq_true rfl)
        have N1279 := Fr.snoc X1279 N0 (Nat.le_trans (oldLe O0) (Nat.le_of_eq g1275.symm))
        have O1279 := O1275.wr W1279 (Nat.le_trans (oldLe O0) (Nat.le_of_eq g1275.symm))
        have V1279s : Arv Z h1279 b1275 k1275 .byte (5 : Int32) [(.int b1), (.int 0), (.int 0), (.int 0), (.int 0)] (.int 0) := by have q := V1279; rw [eb1] at q; exact q
        have R1280 : Go p e below P T1279 (mkF m 201 #[iV px, iV py, iV cp, iV t, rV b1275, uS, uS, uS] [(.int (((128 : Int32) ||| ((cp >>> ((12 : Int32) &&& 31)) &&& (63 : Int32))).toInt8.toInt32)), (.int 1), (.ref b1275)]) := fun t_ k_ => R1277 t_ (st1279 t_ (XS.aload X1279.here hx rfl (hb hby at_186) rfl rfl (XS.iconst X1279.here hx rfl (hb hby at_188) (XS.sipush X1279.here hx rfl (hb hby at_189) (XS.iloadN X1279.here hx rfl (hb hby at_192) rfl (XS.bipush X1279.here hx rfl (hb hby at_193) (XS.ishr X1279.here hx rfl (hb hby at_195) rfl (XS.bipush X1279.here hx rfl (hb hby at_196) (XS.iand X1279.here hx rfl (hb hby at_198) rfl (XS.ior X1279.here hx rfl (hb hby at_199) rfl (XS.i2b X1279.here hx rfl (hb hby at_200) rfl k_)))))))))))
        obtain ⟨b2, hb2⟩ : ∃ z : Int32, z = (((128 : Int32) ||| ((cp >>> ((12 : Int32) &&& 31)) &&& (63 : Int32))).toInt8.toInt32) := ⟨_, rfl⟩
        have R1281 : Go p e below P T1279 (mkF m 201 #[iV px, iV py, iV cp, iV t, rV b1275, uS, uS, uS] [(.int b2), (.int 1), (.ref b1275)]) := by rw [hb2]; exact R1280
        have eb2 : nar .byte b2 = b2 := by rw [hb2]; exact nar_b8 _
        obtain ⟨cl1282, cl1282A, cl1282q, cl1282S, cl1282N, cl1282H, cl1282G⟩ := id V1279s
        obtain ⟨T1283, h1283, X1283, e1283, W1283, st1283⟩ := stB X1279 hx hZ e1279 cl1282A (j := (1 : Int32)) (inb_of cl1282S ⟨by decide, by decide⟩) (g := (mkF m 201 #[iV px, iV py, iV cp, iV t, rV b1275, uS, uS, uS] [(.int b2), (.int 1), (.ref b1275)])) rfl rfl (hb hby at_201)
        have V1283 : Arv Z h1283 b1275 k1275 .byte (5 : Int32) [(.int b1), (.int (nar .byte b2)), (.int 0), (.int 0), (.int 0)] (.int 0) := Arv.set cl1282A cl1282q cl1282S cl1282N cl1282H cl1282G (fits_nar_byte _) W1283 1 rfl (Nat.le_of_ble_eq_true rfl)
        have N1283 := Fr.snoc X1283 N1279 (Nat.le_trans (oldLe O0) (Nat.le_of_eq g1275.symm))
        have O1283 := O1279.wr W1283 (Nat.le_trans (oldLe O0) (Nat.le_of_eq g1275.symm))
        have V1283s : Arv Z h1283 b1275 k1275 .byte (5 : Int32) [(.int b1), (.int b2), (.int 0), (.int 0), (.int 0)] (.int 0) := by have q := V1283; rw [eb2] at q; exact q
        have R1284 : Go p e below P T1283 (mkF m 217 #[iV px, iV py, iV cp, iV t, rV b1275, uS, uS, uS] [(.int (((128 : Int32) ||| ((cp >>> ((6 : Int32) &&& 31)) &&& (63 : Int32))).toInt8.toInt32)), (.int 2), (.ref b1275)]) := fun t_ k_ => R1281 t_ (st1283 t_ (XS.aload X1283.here hx rfl (hb hby at_202) rfl rfl (XS.iconst X1283.here hx rfl (hb hby at_204) (XS.sipush X1283.here hx rfl (hb hby at_205) (XS.iloadN X1283.here hx rfl (hb hby at_208) rfl (XS.bipush X1283.here hx rfl (hb hby at_209) (XS.ishr X1283.here hx rfl (hb hby at_211) rfl (XS.bipush X1283.here hx rfl (hb hby at_212) (XS.iand X1283.here hx rfl (hb hby at_214) rfl (XS.ior X1283.here hx rfl (hb hby at_215) rfl (XS.i2b X1283.here hx rfl (hb hby at_216) rfl k_)))))))))))
        obtain ⟨b3, hb3⟩ : ∃ z : Int32, z = (((128 : Int32) ||| ((cp >>> ((6 : Int32) &&& 31)) &&& (63 : Int32))).toInt8.toInt32) := ⟨_, rfl⟩
        have R1285 : Go p e below P T1283 (mkF m 217 #[iV px, iV py, iV cp, iV t, rV b1275, uS, uS, uS] [(.int b3), (.int 2), (.ref b1275)]) := by rw [hb3]; exact R1284
        have eb3 : nar .byte b3 = b3 := by rw [hb3]; exact nar_b8 _
        obtain ⟨cl1286, cl1286A, cl1286q, cl1286S, cl1286N, cl1286H, cl1286G⟩ := id V1283s
        obtain ⟨T1287, h1287, X1287, e1287, W1287, st1287⟩ := stB X1283 hx hZ e1283 cl1286A (j := (2 : Int32)) (inb_of cl1286S ⟨by decide, by decide⟩) (g := (mkF m 217 #[iV px, iV py, iV cp, iV t, rV b1275, uS, uS, uS] [(.int b3), (.int 2), (.ref b1275)])) rfl rfl (hb hby at_217)
        have V1287 : Arv Z h1287 b1275 k1275 .byte (5 : Int32) [(.int b1), (.int b2), (.int (nar .byte b3)), (.int 0), (.int 0)] (.int 0) := Arv.set cl1286A cl1286q cl1286S cl1286N cl1286H cl1286G (fits_nar_byte _) W1287 2 rfl (Nat.le_of_ble_eq_true rfl)
        have N1287 := Fr.snoc X1287 N1283 (Nat.le_trans (oldLe O0) (Nat.le_of_eq g1275.symm))
        have O1287 := O1283.wr W1287 (Nat.le_trans (oldLe O0) (Nat.le_of_eq g1275.symm))
        have V1287s : Arv Z h1287 b1275 k1275 .byte (5 : Int32) [(.int b1), (.int b2), (.int b3), (.int 0), (.int 0)] (.int 0) := by have q := V1287; rw [eb3] at q; exact q
        have R1288 : Go p e below P T1287 (mkF m 230 #[iV px, iV py, iV cp, iV t, rV b1275, uS, uS, uS] [(.int (((128 : Int32) ||| (cp &&& (63 : Int32))).toInt8.toInt32)), (.int 3), (.ref b1275)]) := fun t_ k_ => R1285 t_ (st1287 t_ (XS.aload X1287.here hx rfl (hb hby at_218) rfl rfl (XS.iconst X1287.here hx rfl (hb hby at_220) (XS.sipush X1287.here hx rfl (hb hby at_221) (XS.iloadN X1287.here hx rfl (hb hby at_224) rfl (XS.bipush X1287.here hx rfl (hb hby at_225) (XS.iand X1287.here hx rfl (hb hby at_227) rfl (XS.ior X1287.here hx rfl (hb hby at_228) rfl (XS.i2b X1287.here hx rfl (hb hby at_229) rfl k_)))))))))
        obtain ⟨b4, hb4⟩ : ∃ z : Int32, z = (((128 : Int32) ||| (cp &&& (63 : Int32))).toInt8.toInt32) := ⟨_, rfl⟩
        have R1289 : Go p e below P T1287 (mkF m 230 #[iV px, iV py, iV cp, iV t, rV b1275, uS, uS, uS] [(.int b4), (.int 3), (.ref b1275)]) := by rw [hb4]; exact R1288
        have eb4 : nar .byte b4 = b4 := by rw [hb4]; exact nar_b8 _
        obtain ⟨cl1290, cl1290A, cl1290q, cl1290S, cl1290N, cl1290H, cl1290G⟩ := id V1287s
        obtain ⟨T1291, h1291, X1291, e1291, W1291, st1291⟩ := stB X1287 hx hZ e1287 cl1290A (j := (3 : Int32)) (inb_of cl1290S ⟨by decide, by decide⟩) (g := (mkF m 230 #[iV px, iV py, iV cp, iV t, rV b1275, uS, uS, uS] [(.int b4), (.int 3), (.ref b1275)])) rfl rfl (hb hby at_230)
        have V1291 : Arv Z h1291 b1275 k1275 .byte (5 : Int32) [(.int b1), (.int b2), (.int b3), (.int (nar .byte b4)), (.int 0)] (.int 0) := Arv.set cl1290A cl1290q cl1290S cl1290N cl1290H cl1290G (fits_nar_byte _) W1291 3 rfl (Nat.le_of_ble_eq_true rfl)
        have N1291 := Fr.snoc X1291 N1287 (Nat.le_trans (oldLe O0) (Nat.le_of_eq g1275.symm))
        have O1291 := O1287.wr W1291 (Nat.le_trans (oldLe O0) (Nat.le_of_eq g1275.symm))
        have V1291s : Arv Z h1291 b1275 k1275 .byte (5 : Int32) [(.int b1), (.int b2), (.int b3), (.int b4), (.int 0)] (.int 0) := by have q := V1291; rw [eb4] at q; exact q
        have R1292 : Go p e below P T1291 (mkF m 236 #[iV px, iV py, iV cp, iV t, rV b1275, uS, uS, uS] [(.int (t.toInt8.toInt32)), (.int 4), (.ref b1275)]) := fun t_ k_ => R1289 t_ (st1291 t_ (XS.aload X1291.here hx rfl (hb hby at_231) rfl rfl (XS.iconst X1291.here hx rfl (hb hby at_233) (XS.iloadN X1291.here hx rfl (hb hby at_234) rfl (XS.i2b X1291.here hx rfl (hb hby at_235) rfl k_)))))
        obtain ⟨t8, ht8⟩ : ∃ z : Int32, z = (t.toInt8.toInt32) := ⟨_, rfl⟩
        have R1293 : Go p e below P T1291 (mkF m 236 #[iV px, iV py, iV cp, iV t, rV b1275, uS, uS, uS] [(.int t8), (.int 4), (.ref b1275)]) := by rw [ht8]; exact R1292
        have et8 : nar .byte t8 = t8 := by rw [ht8]; exact nar_b8 _
        obtain ⟨cl1294, cl1294A, cl1294q, cl1294S, cl1294N, cl1294H, cl1294G⟩ := id V1291s
        obtain ⟨T1295, h1295, X1295, e1295, W1295, st1295⟩ := stB X1291 hx hZ e1291 cl1294A (j := (4 : Int32)) (inb_of cl1294S ⟨by decide, by decide⟩) (g := (mkF m 236 #[iV px, iV py, iV cp, iV t, rV b1275, uS, uS, uS] [(.int t8), (.int 4), (.ref b1275)])) rfl rfl (hb hby at_236)
        have V1295 : Arv Z h1295 b1275 k1275 .byte (5 : Int32) [(.int b1), (.int b2), (.int b3), (.int b4), (.int (nar .byte t8))] (.int 0) := Arv.set cl1294A cl1294q cl1294S cl1294N cl1294H cl1294G (fits_nar_byte _) W1295 4 rfl (Nat.le_of_ble_eq_true rfl)
        have N1295 := Fr.snoc X1295 N1291 (Nat.le_trans (oldLe O0) (Nat.le_of_eq g1275.symm))
        have O1295 := O1291.wr W1295 (Nat.le_trans (oldLe O0) (Nat.le_of_eq g1275.symm))
        have V1295s : Arv Z h1295 b1275 k1275 .byte (5 : Int32) [(.int b1), (.int b2), (.int b3), (.int b4), (.int t8)] (.int 0) := by have q := V1295; rw [et8] at q; exact q
        have R1296 : Go p e below P T1295 (mkF m 239 #[iV px, iV py, iV cp, iV t, rV b1275, uS, uS, uS] [(.ref b1275)]) := fun t_ k_ => R1293 t_ (st1295 t_ (XS.aload X1295.here hx rfl (hb hby at_237) rfl rfl k_))
        by_cases tl1297 : t < (128 : Int32)
        · have q8 : t8 = t := ht8.trans (lo8_id htr.1 tl1297)
          have n8 : ¬ t8 < (0 : Int32) := by rw [q8]; exact htr.1
          have t65 := lt_trans32 htr.2 (show (256 : Int32).toInt ≤ (65536 : Int32).toInt from by decide)
          have i8 : (t8.toUInt32.toUInt16.toUInt32.toInt32) = t8 := by rw [q8]; exact i2c_id htr.1 t65
          have u8 : t8 < (65536 : Int32) := by rw [q8]; exact t65
          obtain ⟨f1, f2, f3, f4, f5, f6, f7, f8, f9⟩ := factsD hc1237 hcpm hb1 hb2 hb3 hb4
          obtain ⟨k1, k2, k3, k4⟩ := factsH hc1237 hcpm
          have f1298 := (((((Ex1275.wr W1279).wr W1283).wr W1287).wr W1291).wr W1295)
          obtain ⟨rv1299, T1299, Lc1299, X1299, hQ1299, R1299⟩ := callQ X1295 hx hZ hown e1295 R1296 (decDl_ l Z a0 hw [] b1275 k1275 b1 b2 b3 b4 t8 (hiS cp) (loS cp) cp wU zc fm h1295 n0 O1295 V1295s f1298 P0 P1 hzc P3 P4 P5 P6 hfm P8 P9 f1 f8 n8 i8 f2 f3 f4 f5 f6 f7 f9 hc1237 hcpm rfl rfl) (hwI hw 4 rfl) (hwI hw 5 rfl) (hwI hw 6 rfl) (hwI hw 7 rfl) [] rfl (by rw [hml]; rfl) (lenOf pd_1336023 rfl) rfl (W := 0) (wR rfl) (hb hby at_239)
          obtain ⟨x_1299, t_1299, kb_1299, rfl, N1299q, K1299, p1299_0, p1299_1, p1299_2, p1299_3, p1299_4⟩ := hQ1299
          have N1299 := Fr.app N1295 N1299q
          have O1299 := O1295.keep K1299 all0
          have R1300 : Go p e below P T1299 (mkF m 304 #[iV px, iV py, iV cp, iV t, rV b1275, rV x_1299, iV (t.toUInt32.toUInt16.toUInt32.toInt32), uS] [(.int cp)]) := fun t_ k_ => R1299 t_ (XS.astore X1299.here hx rfl (hb hby at_242) rfl rfl (l' := #[iV px, iV py, iV cp, iV t, rV b1275, rV x_1299, uS, uS]) rfl (XS.iloadN X1299.here hx rfl (hb hby at_244) rfl (XS.sipush X1299.here hx rfl (hb hby at_245) (XS.icmpNo X1299.here hx rfl (hb hby at_248) rfl (tlt tl1297).2.1 (XS.iloadN X1299.here hx rfl (hb hby at_251) rfl (XS.i2c X1299.here hx rfl (hb hby at_252) rfl (XS.goto X1299.here hx rfl (pc0 := 253) (pc' := 258) rfl (hb hby at_253) (by decide) (by decide) (XS.istore X1299.here hx rfl (hb hby at_258) rfl (l' := #[iV px, iV py, iV cp, iV t, rV b1275, rV x_1299, iV (t.toUInt32.toUInt16.toUInt32.toInt32), uS]) rfl (XS.iloadN X1299.here hx rfl (hb hby at_260) rfl (apS (X1299.ldcInt hx hown (mvT hZ (hwI hw 53 rfl)) rfl (hb hby at_261)) (XS.icmpYes X1299.here hx rfl (pc0 := 263) (pc' := 303) rfl (hb hby at_263) rfl (flt hc1237).2.1 (by decide) (by decide) (XS.iloadN X1299.here hx rfl (hb hby at_303) rfl k_))))))))))))
          have R1301 : Go p e below P T1299 (mkF m 311 #[iV px, iV py, iV cp, iV t, rV b1275, rV x_1299, iV (t.toUInt32.toUInt16.toUInt32.toInt32), iV (cp - (65536 : Int32))] [(.ref x_1299)]) := fun t_ k_ => R1300 t_ (apS (X1299.ldcInt hx hown (mvT hZ (hwI hw 53 rfl)) rfl (hb hby at_304)) (XS.isub X1299.here hx rfl (hb hby at_306) rfl (XS.istore X1299.here hx rfl (hb hby at_307) rfl (l' := #[iV px, iV py, iV cp, iV t, rV b1275, rV x_1299, iV (t.toUInt32.toUInt16.toUInt32.toInt32), iV (cp - (65536 : Int32))]) rfl (XS.aload X1299.here hx rfl (hb hby at_309) rfl rfl k_))))
          obtain ⟨cq1302, kq1302, q1302a, q1302b, q1302c⟩ := isOf hZ (rfl : T1299.heap = T1299.heap) p1299_1
          obtain ⟨rv1302, _, ⟨T1302, L1302, k1302, n1302⟩, -, X1302, ⟨Lc1302, hQ1302, l1302, y1302, z1302⟩, st1302⟩ := X1299.virtualBack hx (y := yM2) (z := yM2) hown (mvT hZ (hwI hw 54 rfl)) (mvT hZ (hwI hw 55 rfl)) (notFace_of_selects (args := #[]) (mvT hZ (hwI hw 57 rfl))) (mvT hZ (hwI hw 57 rfl)) (mvT hZ (hwI hw 56 rfl)) (by decide) (backOf (W := 0) (ulen_ l Z a0 hw [] x_1299 t_1299 kb_1299 (6 : Int32) ([(.int (loB (hiS cp))), (.int (hiB (hiS cp))), (.int (loB (loS cp))), (.int (hiB (loS cp))), (.int (loB t8)), (.int (hiB t8))]) zc (3 : Int32) T1299.heap n0 O1299 p1299_1 p1299_2 p1299_3 p1299_4 P1 hzc (by decide)) hZ (hwI hw 58 rfl) (hwI hw 10 rfl) (by decide) (by decide)) q1302a q1302c (g := (mkF m 311 #[iV px, iV py, iV cp, iV t, rV b1275, rV x_1299, iV (t.toUInt32.toUInt16.toUInt32.toInt32), iV (cp - (65536 : Int32))] [(.ref x_1299)])) rfl (by rw [hml]; rfl) (Steps.refl _) (argsL := []) (rest := []) (lenOf pd_16428521 rfl) rfl (by show 2 * 0 + _ ≤ _; exact Nat.le_of_eq rfl) (hb hby at_311) (fun _ _ => ⟨rfl, (rfl : T1299.heap = T1299.heap), (by decide : 5 + 0 ≤ _), (by decide : 30 + 0 ≤ _)⟩)
          dsimp only [Pt.U, Pt.locs, Pt.cells, Pt.slots] at X1302 l1302 y1302 z1302 st1302 hQ1302
          subst l1302 y1302 z1302
          obtain ⟨rfl, N1302q, K1302⟩ := hQ1302
          have N1302 := Fr.app N1299 N1302q
          have R1303 : Go p e below P T1302 (mkF m 321 #[iV px, iV py, iV cp, iV t, rV b1275, rV x_1299, iV (t.toUInt32.toUInt16.toUInt32.toInt32), iV (cp - (65536 : Int32))] [(.int 0), (.ref x_1299)]) := fun t_ k_ => R1301 t_ (st1302.trans (XS.iconst X1302.here hx rfl (hb hby at_314) (XS.icmpNo X1302.here hx rfl (hb hby at_315) rfl (teq rfl).2 (XS.aload X1302.here hx rfl (hb hby at_318) rfl rfl (XS.iconst X1302.here hx rfl (hb hby at_320) k_)))))
          obtain ⟨cq1304, kq1304, q1304a, q1304b, q1304c⟩ := isOf hZ K1302 p1299_1
          obtain ⟨rv1304, _, ⟨T1304, L1304, k1304, n1304⟩, -, X1304, ⟨Lc1304, hQ1304, l1304, y1304, z1304⟩, st1304⟩ := X1302.virtualBack hx (y := yM6) (z := yM6) hown (mvT hZ (hwI hw 64 rfl)) (mvT hZ (hwI hw 65 rfl)) (notFace_of_selects (args := #[]) (mvT hZ (hwI hw 67 rfl))) (mvT hZ (hwI hw 67 rfl)) (mvT hZ (hwI hw 66 rfl)) (by decide) (backOf (W := 0) (uchr_ l Z a0 hw [] x_1299 t_1299 kb_1299 (6 : Int32) ([(.int (loB (hiS cp))), (.int (hiB (hiS cp))), (.int (loB (loS cp))), (.int (hiB (loS cp))), (.int (loB t8)), (.int (hiB t8))]) zc 0 (0 : Int32) (loB (hiS cp)) (hiB (hiS cp)) (hiS cp) (3 : Int32) fm T1299.heap n0 O1299 P3 P4 P5 P6 hfm p1299_1 p1299_2 p1299_3 p1299_4 P1 hzc (by decide) ⟨by decide, by decide⟩ rfl (Nat.le_of_ble_eq_true rfl) rfl (Nat.le_of_ble_eq_true rfl) rfl rfl (charOf_id k3.1 k3.2) (i2c_id k3.1 k3.2)) hZ (hwI hw 68 rfl) (hwI hw 10 rfl) (by decide) (by decide)) q1304a q1304c (g := (mkF m 321 #[iV px, iV py, iV cp, iV t, rV b1275, rV x_1299, iV (t.toUInt32.toUInt16.toUInt32.toInt32), iV (cp - (65536 : Int32))] [(.int 0), (.ref x_1299)])) rfl (by rw [hml]; rfl) (Steps.refl _) (argsL := [(.int 0)]) (rest := []) (lenOf pd_52681278 rfl) rfl (by show 2 * 0 + _ ≤ _; exact Nat.le_of_eq rfl) (hb hby at_321) (fun _ _ => ⟨rfl, K1302, (by decide : 5 + 0 ≤ _), (by decide : 30 + 0 ≤ _)⟩)
          dsimp only [Pt.U, Pt.locs, Pt.cells, Pt.slots] at X1304 l1304 y1304 z1304 st1304 hQ1304
          subst l1304 y1304 z1304
          obtain ⟨rfl, N1304q, K1304⟩ := hQ1304
          have N1304 := Fr.app N1302 N1304q
          have R1305 : Go p e below P T1304 (mkF m 339 #[iV px, iV py, iV cp, iV t, rV b1275, rV x_1299, iV (t.toUInt32.toUInt16.toUInt32.toInt32), iV (cp - (65536 : Int32))] [(.int 1), (.ref x_1299)]) := fun t_ k_ => R1303 t_ (st1304.trans (apS (X1304.ldcInt hx hown (mvT hZ (hwI hw 2 rfl)) rfl (hb hby at_324)) (XS.iload X1304.here hx rfl (hb hby at_326) rfl (XS.bipush X1304.here hx rfl (hb hby at_328) (XS.ishr X1304.here hx rfl (hb hby at_330) rfl (XS.iadd X1304.here hx rfl (hb hby at_331) rfl (XS.i2c X1304.here hx rfl (hb hby at_332) rfl (XS.icmpNo X1304.here hx rfl (hb hby at_333) rfl (teq (show (hiS cp) = (((55296 : Int32) + ((cp - (65536 : Int32)) >>> ((10 : Int32) &&& 31))).toUInt32.toUInt16.toUInt32.toInt32) from k1)).2 (XS.aload X1304.here hx rfl (hb hby at_336) rfl rfl (XS.iconst X1304.here hx rfl (hb hby at_338) k_))))))))))
          obtain ⟨cq1306, kq1306, q1306a, q1306b, q1306c⟩ := isOf hZ K1304 p1299_1
          obtain ⟨rv1306, _, ⟨T1306, L1306, k1306, n1306⟩, -, X1306, ⟨Lc1306, hQ1306, l1306, y1306, z1306⟩, st1306⟩ := X1304.virtualBack hx (y := yM6) (z := yM6) hown (mvT hZ (hwI hw 64 rfl)) (mvT hZ (hwI hw 65 rfl)) (notFace_of_selects (args := #[]) (mvT hZ (hwI hw 67 rfl))) (mvT hZ (hwI hw 67 rfl)) (mvT hZ (hwI hw 66 rfl)) (by decide) (backOf (W := 0) (uchr_ l Z a0 hw [] x_1299 t_1299 kb_1299 (6 : Int32) ([(.int (loB (hiS cp))), (.int (hiB (hiS cp))), (.int (loB (loS cp))), (.int (hiB (loS cp))), (.int (loB t8)), (.int (hiB t8))]) zc 1 (1 : Int32) (loB (loS cp)) (hiB (loS cp)) (loS cp) (3 : Int32) fm T1299.heap n0 O1299 P3 P4 P5 P6 hfm p1299_1 p1299_2 p1299_3 p1299_4 P1 hzc (by decide) ⟨by decide, by decide⟩ rfl (Nat.le_of_ble_eq_true rfl) rfl (Nat.le_of_ble_eq_true rfl) rfl rfl (charOf_id k4.1 k4.2) (i2c_id k4.1 k4.2)) hZ (hwI hw 68 rfl) (hwI hw 10 rfl) (by decide) (by decide)) q1306a q1306c (g := (mkF m 339 #[iV px, iV py, iV cp, iV t, rV b1275, rV x_1299, iV (t.toUInt32.toUInt16.toUInt32.toInt32), iV (cp - (65536 : Int32))] [(.int 1), (.ref x_1299)])) rfl (by rw [hml]; rfl) (Steps.refl _) (argsL := [(.int 1)]) (rest := []) (lenOf pd_52681278 rfl) rfl (by show 2 * 0 + _ ≤ _; exact Nat.le_of_eq rfl) (hb hby at_339) (fun _ _ => ⟨rfl, K1304, (by decide : 5 + 0 ≤ _), (by decide : 30 + 0 ≤ _)⟩)
          dsimp only [Pt.U, Pt.locs, Pt.cells, Pt.slots] at X1306 l1306 y1306 z1306 st1306 hQ1306
          subst l1306 y1306 z1306
          obtain ⟨rfl, N1306q, K1306⟩ := hQ1306
          have N1306 := Fr.app N1304 N1306q
          have R1307 : Go p e below P T1306 (mkF m 358 #[iV px, iV py, iV cp, iV t, rV b1275, rV x_1299, iV (t.toUInt32.toUInt16.toUInt32.toInt32), iV (cp - (65536 : Int32))] [(.int 2), (.ref x_1299)]) := fun t_ k_ => R1305 t_ (st1306.trans (apS (X1306.ldcInt hx hown (mvT hZ (hwI hw 167 rfl)) rfl (hb hby at_342)) (XS.iload X1306.here hx rfl (hb hby at_344) rfl (XS.sipush X1306.here hx rfl (hb hby at_346) (XS.iand X1306.here hx rfl (hb hby at_349) rfl (XS.iadd X1306.here hx rfl (hb hby at_350) rfl (XS.i2c X1306.here hx rfl (hb hby at_351) rfl (XS.icmpNo X1306.here hx rfl (hb hby at_352) rfl (teq (show (loS cp) = (((56320 : Int32) + ((cp - (65536 : Int32)) &&& (1023 : Int32))).toUInt32.toUInt16.toUInt32.toInt32) from k2)).2 (XS.aload X1306.here hx rfl (hb hby at_355) rfl rfl (XS.iconst X1306.here hx rfl (hb hby at_357) k_))))))))))
          obtain ⟨cq1308, kq1308, q1308a, q1308b, q1308c⟩ := isOf hZ K1306 p1299_1
          obtain ⟨rv1308, _, ⟨T1308, L1308, k1308, n1308⟩, -, X1308, ⟨Lc1308, hQ1308, l1308, y1308, z1308⟩, st1308⟩ := X1306.virtualBack hx (y := yM6) (z := yM6) hown (mvT hZ (hwI hw 64 rfl)) (mvT hZ (hwI hw 65 rfl)) (notFace_of_selects (args := #[]) (mvT hZ (hwI hw 67 rfl))) (mvT hZ (hwI hw 67 rfl)) (mvT hZ (hwI hw 66 rfl)) (by decide) (backOf (W := 0) (uchr_ l Z a0 hw [] x_1299 t_1299 kb_1299 (6 : Int32) ([(.int (loB (hiS cp))), (.int (hiB (hiS cp))), (.int (loB (loS cp))), (.int (hiB (loS cp))), (.int (loB t8)), (.int (hiB t8))]) zc 2 (2 : Int32) (loB t8) (hiB t8) t8 (3 : Int32) fm T1299.heap n0 O1299 P3 P4 P5 P6 hfm p1299_1 p1299_2 p1299_3 p1299_4 P1 hzc (by decide) ⟨by decide, by decide⟩ rfl (Nat.le_of_ble_eq_true rfl) rfl (Nat.le_of_ble_eq_true rfl) rfl rfl (charOf_id n8 u8) (i2c_id n8 u8)) hZ (hwI hw 68 rfl) (hwI hw 10 rfl) (by decide) (by decide)) q1308a q1308c (g := (mkF m 358 #[iV px, iV py, iV cp, iV t, rV b1275, rV x_1299, iV (t.toUInt32.toUInt16.toUInt32.toInt32), iV (cp - (65536 : Int32))] [(.int 2), (.ref x_1299)])) rfl (by rw [hml]; rfl) (Steps.refl _) (argsL := [(.int 2)]) (rest := []) (lenOf pd_52681278 rfl) rfl (by show 2 * 0 + _ ≤ _; exact Nat.le_of_eq rfl) (hb hby at_358) (fun _ _ => ⟨rfl, K1306, (by decide : 5 + 0 ≤ _), (by decide : 30 + 0 ≤ _)⟩)
          dsimp only [Pt.U, Pt.locs, Pt.cells, Pt.slots] at X1308 l1308 y1308 z1308 st1308 hQ1308
          subst l1308 y1308 z1308
          obtain ⟨rfl, N1308q, K1308⟩ := hQ1308
          have N1308 := Fr.app N1306 N1308q
          have R1309 : Go p e below P T1308 (mkF m 371 #[iV px, iV py, iV cp, iV t, rV b1275, rV x_1299, iV (t.toUInt32.toUInt16.toUInt32.toInt32), iV (cp - (65536 : Int32))] [(.int 1)]) := fun t_ k_ => R1307 t_ (st1308.trans (XS.iload X1308.here hx rfl (hb hby at_361) rfl (XS.icmpNo X1308.here hx rfl (hb hby at_363) rfl (teq (show t8 = (t.toUInt32.toUInt16.toUInt32.toInt32) from q8.trans (i2c_id htr.1 t65).symm)).2 (XS.iconst X1308.here hx rfl (hb hby at_366) (XS.goto X1308.here hx rfl (pc0 := 367) (pc' := 371) rfl (hb hby at_367) (by decide) (by decide) k_)))))
          obtain ⟨fs, hr, hrun, hended, hW, hsame⟩ := X1308.leave (v := some (.int (nar .boolean (1 : Int32)))) (fun h => by rw [Bd.returns] at h; cases h)
          exact ⟨_, _, hP _ (R1309 _ (retN X1308 hx (t := .boolean) Bd.returns (by simp) (hb hby at_371) hr)), hrun, hended, _, _, rfl, ⟨rfl, N1308, (K1308.symm ▸ ((((((((Keep.refl h0 []).ext E1275).wr W1279 (Or.inr (Nat.le_of_eq g1275.symm))).wr W1283 (Or.inr (Nat.le_of_eq g1275.symm))).wr W1287 (Or.inr (Nat.le_of_eq g1275.symm))).wr W1291 (Or.inr (Nat.le_of_eq g1275.symm))).wr W1295 (Or.inr (Nat.le_of_eq g1275.symm))).trans K1299 all0))⟩, ⟨_, rfl⟩, hW, hsame.mono (by decide) (by decide)⟩
        · have n8 : t8 < (0 : Int32) := by rw [ht8]; exact lo8_neg tl1297 htr.2
          obtain ⟨f1, f2, f3, f4, f5, f6, f7, f8, f9⟩ := factsD hc1237 hcpm hb1 hb2 hb3 hb4
          obtain ⟨k1, k2, k3, k4⟩ := factsH hc1237 hcpm
          have f1310 := (((((Ex1275.wr W1279).wr W1283).wr W1287).wr W1291).wr W1295)
          obtain ⟨rv1311, T1311, Lc1311, X1311, hQ1311, R1311⟩ := callQ X1295 hx hZ hown e1295 R1296 (decDh_ l Z a0 hw [] b1275 k1275 b1 b2 b3 b4 t8 (hiS cp) (loS cp) cp wU zc fm h1295 n0 O1295 V1295s f1310 P0 P1 hzc P3 P4 P5 P6 hfm P8 P9 f1 f8 n8 f2 f3 f4 f5 f6 f7 f9 hc1237 hcpm rfl rfl) (hwI hw 4 rfl) (hwI hw 5 rfl) (hwI hw 6 rfl) (hwI hw 7 rfl) [] rfl (by rw [hml]; rfl) (lenOf pd_1336023 rfl) rfl (W := 0) (wR rfl) (hb hby at_239)
          obtain ⟨x_1311, t_1311, kb_1311, rfl, N1311q, K1311, p1311_0, p1311_1, p1311_2, p1311_3, p1311_4⟩ := hQ1311
          have N1311 := Fr.app N1295 N1311q
          have O1311 := O1295.keep K1311 all0
          have R1312 : Go p e below P T1311 (mkF m 307 #[iV px, iV py, iV cp, iV t, rV b1275, rV x_1311, iV 65533, uS] [(.int (cp - (65536 : Int32)))]) := fun t_ k_ => R1311 t_ (XS.astore X1311.here hx rfl (hb hby at_242) rfl rfl (l' := #[iV px, iV py, iV cp, iV t, rV b1275, rV x_1311, uS, uS]) rfl (XS.iloadN X1311.here hx rfl (hb hby at_244) rfl (XS.sipush X1311.here hx rfl (hb hby at_245) (XS.icmpYes X1311.here hx rfl (pc0 := 248) (pc' := 256) rfl (hb hby at_248) rfl (flt tl1297).2.1 (by decide) (by decide) (apS (X1311.ldcInt hx hown (mvT hZ (hwI hw 123 rfl)) rfl (hb hby at_256)) (XS.istore X1311.here hx rfl (hb hby at_258) rfl (l' := #[iV px, iV py, iV cp, iV t, rV b1275, rV x_1311, iV 65533, uS]) rfl (XS.iloadN X1311.here hx rfl (hb hby at_260) rfl (apS (X1311.ldcInt hx hown (mvT hZ (hwI hw 53 rfl)) rfl (hb hby at_261)) (XS.icmpYes X1311.here hx rfl (pc0 := 263) (pc' := 303) rfl (hb hby at_263) rfl (flt hc1237).2.1 (by decide) (by decide) (XS.iloadN X1311.here hx rfl (hb hby at_303) rfl (apS (X1311.ldcInt hx hown (mvT hZ (hwI hw 53 rfl)) rfl (hb hby at_304)) (XS.isub X1311.here hx rfl (hb hby at_306) rfl k_))))))))))))
          have R1313 : Go p e below P T1311 (mkF m 311 #[iV px, iV py, iV cp, iV t, rV b1275, rV x_1311, iV 65533, iV (cp - (65536 : Int32))] [(.ref x_1311)]) := fun t_ k_ => R1312 t_ (XS.istore X1311.here hx rfl (hb hby at_307) rfl (l' := #[iV px, iV py, iV cp, iV t, rV b1275, rV x_1311, iV 65533, iV (cp - (65536 : Int32))]) rfl (XS.aload X1311.here hx rfl (hb hby at_309) rfl rfl k_))
          obtain ⟨cq1314, kq1314, q1314a, q1314b, q1314c⟩ := isOf hZ (rfl : T1311.heap = T1311.heap) p1311_1
          obtain ⟨rv1314, _, ⟨T1314, L1314, k1314, n1314⟩, -, X1314, ⟨Lc1314, hQ1314, l1314, y1314, z1314⟩, st1314⟩ := X1311.virtualBack hx (y := yM2) (z := yM2) hown (mvT hZ (hwI hw 54 rfl)) (mvT hZ (hwI hw 55 rfl)) (notFace_of_selects (args := #[]) (mvT hZ (hwI hw 57 rfl))) (mvT hZ (hwI hw 57 rfl)) (mvT hZ (hwI hw 56 rfl)) (by decide) (backOf (W := 0) (ulen_ l Z a0 hw [] x_1311 t_1311 kb_1311 (6 : Int32) ([(.int (loB (hiS cp))), (.int (hiB (hiS cp))), (.int (loB (loS cp))), (.int (hiB (loS cp))), (.int (loB (65533 : Int32))), (.int (hiB (65533 : Int32)))]) zc (3 : Int32) T1311.heap n0 O1311 p1311_1 p1311_2 p1311_3 p1311_4 P1 hzc (by decide)) hZ (hwI hw 58 rfl) (hwI hw 10 rfl) (by decide) (by decide)) q1314a q1314c (g := (mkF m 311 #[iV px, iV py, iV cp, iV t, rV b1275, rV x_1311, iV 65533, iV (cp - (65536 : Int32))] [(.ref x_1311)])) rfl (by rw [hml]; rfl) (Steps.refl _) (argsL := []) (rest := []) (lenOf pd_16428521 rfl) rfl (by show 2 * 0 + _ ≤ _; exact Nat.le_of_eq rfl) (hb hby at_311) (fun _ _ => ⟨rfl, (rfl : T1311.heap = T1311.heap), (by decide : 5 + 0 ≤ _), (by decide : 30 + 0 ≤ _)⟩)
          dsimp only [Pt.U, Pt.locs, Pt.cells, Pt.slots] at X1314 l1314 y1314 z1314 st1314 hQ1314
          subst l1314 y1314 z1314
          obtain ⟨rfl, N1314q, K1314⟩ := hQ1314
          have N1314 := Fr.app N1311 N1314q
          have R1315 : Go p e below P T1314 (mkF m 321 #[iV px, iV py, iV cp, iV t, rV b1275, rV x_1311, iV 65533, iV (cp - (65536 : Int32))] [(.int 0), (.ref x_1311)]) := fun t_ k_ => R1313 t_ (st1314.trans (XS.iconst X1314.here hx rfl (hb hby at_314) (XS.icmpNo X1314.here hx rfl (hb hby at_315) rfl (teq rfl).2 (XS.aload X1314.here hx rfl (hb hby at_318) rfl rfl (XS.iconst X1314.here hx rfl (hb hby at_320) k_)))))
          obtain ⟨cq1316, kq1316, q1316a, q1316b, q1316c⟩ := isOf hZ K1314 p1311_1
          obtain ⟨rv1316, _, ⟨T1316, L1316, k1316, n1316⟩, -, X1316, ⟨Lc1316, hQ1316, l1316, y1316, z1316⟩, st1316⟩ := X1314.virtualBack hx (y := yM6) (z := yM6) hown (mvT hZ (hwI hw 64 rfl)) (mvT hZ (hwI hw 65 rfl)) (notFace_of_selects (args := #[]) (mvT hZ (hwI hw 67 rfl))) (mvT hZ (hwI hw 67 rfl)) (mvT hZ (hwI hw 66 rfl)) (by decide) (backOf (W := 0) (uchr_ l Z a0 hw [] x_1311 t_1311 kb_1311 (6 : Int32) ([(.int (loB (hiS cp))), (.int (hiB (hiS cp))), (.int (loB (loS cp))), (.int (hiB (loS cp))), (.int (loB (65533 : Int32))), (.int (hiB (65533 : Int32)))]) zc 0 (0 : Int32) (loB (hiS cp)) (hiB (hiS cp)) (hiS cp) (3 : Int32) fm T1311.heap n0 O1311 P3 P4 P5 P6 hfm p1311_1 p1311_2 p1311_3 p1311_4 P1 hzc (by decide) ⟨by decide, by decide⟩ rfl (Nat.le_of_ble_eq_true rfl) rfl (Nat.le_of_ble_eq_true rfl) rfl rfl (charOf_id k3.1 k3.2) (i2c_id k3.1 k3.2)) hZ (hwI hw 68 rfl) (hwI hw 10 rfl) (by decide) (by decide)) q1316a q1316c (g := (mkF m 321 #[iV px, iV py, iV cp, iV t, rV b1275, rV x_1311, iV 65533, iV (cp - (65536 : Int32))] [(.int 0), (.ref x_1311)])) rfl (by rw [hml]; rfl) (Steps.refl _) (argsL := [(.int 0)]) (rest := []) (lenOf pd_52681278 rfl) rfl (by show 2 * 0 + _ ≤ _; exact Nat.le_of_eq rfl) (hb hby at_321) (fun _ _ => ⟨rfl, K1314, (by decide : 5 + 0 ≤ _), (by decide : 30 + 0 ≤ _)⟩)
          dsimp only [Pt.U, Pt.locs, Pt.cells, Pt.slots] at X1316 l1316 y1316 z1316 st1316 hQ1316
          subst l1316 y1316 z1316
          obtain ⟨rfl, N1316q, K1316⟩ := hQ1316
          have N1316 := Fr.app N1314 N1316q
          have R1317 : Go p e below P T1316 (mkF m 339 #[iV px, iV py, iV cp, iV t, rV b1275, rV x_1311, iV 65533, iV (cp - (65536 : Int32))] [(.int 1), (.ref x_1311)]) := fun t_ k_ => R1315 t_ (st1316.trans (apS (X1316.ldcInt hx hown (mvT hZ (hwI hw 2 rfl)) rfl (hb hby at_324)) (XS.iload X1316.here hx rfl (hb hby at_326) rfl (XS.bipush X1316.here hx rfl (hb hby at_328) (XS.ishr X1316.here hx rfl (hb hby at_330) rfl (XS.iadd X1316.here hx rfl (hb hby at_331) rfl (XS.i2c X1316.here hx rfl (hb hby at_332) rfl (XS.icmpNo X1316.here hx rfl (hb hby at_333) rfl (teq (show (hiS cp) = (((55296 : Int32) + ((cp - (65536 : Int32)) >>> ((10 : Int32) &&& 31))).toUInt32.toUInt16.toUInt32.toInt32) from k1)).2 (XS.aload X1316.here hx rfl (hb hby at_336) rfl rfl (XS.iconst X1316.here hx rfl (hb hby at_338) k_))))))))))
          obtain ⟨cq1318, kq1318, q1318a, q1318b, q1318c⟩ := isOf hZ K1316 p1311_1
          obtain ⟨rv1318, _, ⟨T1318, L1318, k1318, n1318⟩, -, X1318, ⟨Lc1318, hQ1318, l1318, y1318, z1318⟩, st1318⟩ := X1316.virtualBack hx (y := yM6) (z := yM6) hown (mvT hZ (hwI hw 64 rfl)) (mvT hZ (hwI hw 65 rfl)) (notFace_of_selects (args := #[]) (mvT hZ (hwI hw 67 rfl))) (mvT hZ (hwI hw 67 rfl)) (mvT hZ (hwI hw 66 rfl)) (by decide) (backOf (W := 0) (uchr_ l Z a0 hw [] x_1311 t_1311 kb_1311 (6 : Int32) ([(.int (loB (hiS cp))), (.int (hiB (hiS cp))), (.int (loB (loS cp))), (.int (hiB (loS cp))), (.int (loB (65533 : Int32))), (.int (hiB (65533 : Int32)))]) zc 1 (1 : Int32) (loB (loS cp)) (hiB (loS cp)) (loS cp) (3 : Int32) fm T1311.heap n0 O1311 P3 P4 P5 P6 hfm p1311_1 p1311_2 p1311_3 p1311_4 P1 hzc (by decide) ⟨by decide, by decide⟩ rfl (Nat.le_of_ble_eq_true rfl) rfl (Nat.le_of_ble_eq_true rfl) rfl rfl (charOf_id k4.1 k4.2) (i2c_id k4.1 k4.2)) hZ (hwI hw 68 rfl) (hwI hw 10 rfl) (by decide) (by decide)) q1318a q1318c (g := (mkF m 339 #[iV px, iV py, iV cp, iV t, rV b1275, rV x_1311, iV 65533, iV (cp - (65536 : Int32))] [(.int 1), (.ref x_1311)])) rfl (by rw [hml]; rfl) (Steps.refl _) (argsL := [(.int 1)]) (rest := []) (lenOf pd_52681278 rfl) rfl (by show 2 * 0 + _ ≤ _; exact Nat.le_of_eq rfl) (hb hby at_339) (fun _ _ => ⟨rfl, K1316, (by decide : 5 + 0 ≤ _), (by decide : 30 + 0 ≤ _)⟩)
          dsimp only [Pt.U, Pt.locs, Pt.cells, Pt.slots] at X1318 l1318 y1318 z1318 st1318 hQ1318
          subst l1318 y1318 z1318
          obtain ⟨rfl, N1318q, K1318⟩ := hQ1318
          have N1318 := Fr.app N1316 N1318q
          have R1319 : Go p e below P T1318 (mkF m 358 #[iV px, iV py, iV cp, iV t, rV b1275, rV x_1311, iV 65533, iV (cp - (65536 : Int32))] [(.int 2), (.ref x_1311)]) := fun t_ k_ => R1317 t_ (st1318.trans (apS (X1318.ldcInt hx hown (mvT hZ (hwI hw 167 rfl)) rfl (hb hby at_342)) (XS.iload X1318.here hx rfl (hb hby at_344) rfl (XS.sipush X1318.here hx rfl (hb hby at_346) (XS.iand X1318.here hx rfl (hb hby at_349) rfl (XS.iadd X1318.here hx rfl (hb hby at_350) rfl (XS.i2c X1318.here hx rfl (hb hby at_351) rfl (XS.icmpNo X1318.here hx rfl (hb hby at_352) rfl (teq (show (loS cp) = (((56320 : Int32) + ((cp - (65536 : Int32)) &&& (1023 : Int32))).toUInt32.toUInt16.toUInt32.toInt32) from k2)).2 (XS.aload X1318.here hx rfl (hb hby at_355) rfl rfl (XS.iconst X1318.here hx rfl (hb hby at_357) k_))))))))))
          obtain ⟨cq1320, kq1320, q1320a, q1320b, q1320c⟩ := isOf hZ K1318 p1311_1
          obtain ⟨rv1320, _, ⟨T1320, L1320, k1320, n1320⟩, -, X1320, ⟨Lc1320, hQ1320, l1320, y1320, z1320⟩, st1320⟩ := X1318.virtualBack hx (y := yM6) (z := yM6) hown (mvT hZ (hwI hw 64 rfl)) (mvT hZ (hwI hw 65 rfl)) (notFace_of_selects (args := #[]) (mvT hZ (hwI hw 67 rfl))) (mvT hZ (hwI hw 67 rfl)) (mvT hZ (hwI hw 66 rfl)) (by decide) (backOf (W := 0) (uchr_ l Z a0 hw [] x_1311 t_1311 kb_1311 (6 : Int32) ([(.int (loB (hiS cp))), (.int (hiB (hiS cp))), (.int (loB (loS cp))), (.int (hiB (loS cp))), (.int (loB (65533 : Int32))), (.int (hiB (65533 : Int32)))]) zc 2 (2 : Int32) (loB (65533 : Int32)) (hiB (65533 : Int32)) (65533 : Int32) (3 : Int32) fm T1311.heap n0 O1311 P3 P4 P5 P6 hfm p1311_1 p1311_2 p1311_3 p1311_4 P1 hzc (by decide) ⟨by decide, by decide⟩ rfl (Nat.le_of_ble_eq_true rfl) rfl (Nat.le_of_ble_eq_true rfl) rfl rfl (charOf_id (by decide) (by decide)) (i2c_id (by decide) (by decide))) hZ (hwI hw 68 rfl) (hwI hw 10 rfl) (by decide) (by decide)) q1320a q1320c (g := (mkF m 358 #[iV px, iV py, iV cp, iV t, rV b1275, rV x_1311, iV 65533, iV (cp - (65536 : Int32))] [(.int 2), (.ref x_1311)])) rfl (by rw [hml]; rfl) (Steps.refl _) (argsL := [(.int 2)]) (rest := []) (lenOf pd_52681278 rfl) rfl (by show 2 * 0 + _ ≤ _; exact Nat.le_of_eq rfl) (hb hby at_358) (fun _ _ => ⟨rfl, K1318, (by decide : 5 + 0 ≤ _), (by decide : 30 + 0 ≤ _)⟩)
          dsimp only [Pt.U, Pt.locs, Pt.cells, Pt.slots] at X1320 l1320 y1320 z1320 st1320 hQ1320
          subst l1320 y1320 z1320
          obtain ⟨rfl, N1320q, K1320⟩ := hQ1320
          have N1320 := Fr.app N1318 N1320q
          have R1321 : Go p e below P T1320 (mkF m 371 #[iV px, iV py, iV cp, iV t, rV b1275, rV x_1311, iV 65533, iV (cp - (65536 : Int32))] [(.int 1)]) := fun t_ k_ => R1319 t_ (st1320.trans (XS.iload X1320.here hx rfl (hb hby at_361) rfl (XS.icmpNo X1320.here hx rfl (hb hby at_363) rfl (teq rfl).2 (XS.iconst X1320.here hx rfl (hb hby at_366) (XS.goto X1320.here hx rfl (pc0 := 367) (pc' := 371) rfl (hb hby at_367) (by decide) (by decide) k_)))))
          obtain ⟨fs, hr, hrun, hended, hW, hsame⟩ := X1320.leave (v := some (.int (nar .boolean (1 : Int32)))) (fun h => by rw [Bd.returns] at h; cases h)
          exact ⟨_, _, hP _ (R1321 _ (retN X1320 hx (t := .boolean) Bd.returns (by simp) (hb hby at_371) hr)), hrun, hended, _, _, rfl, ⟨rfl, N1320, (K1320.symm ▸ ((((((((Keep.refl h0 []).ext E1275).wr W1279 (Or.inr (Nat.le_of_eq g1275.symm))).wr W1283 (Or.inr (Nat.le_of_eq g1275.symm))).wr W1287 (Or.inr (Nat.le_of_eq g1275.symm))).wr W1291 (Or.inr (Nat.le_of_eq g1275.symm))).wr W1295 (Or.inr (Nat.le_of_eq g1275.symm))).trans K1311 all0))⟩, ⟨_, rfl⟩, hW, hsame.mono (by decide) (by decide)⟩
set_option maxRecDepth 65536 in
set_option maxHeartbeats 40000000 in
theorem comes_1 {Post : Tables → Env → Array Value → State → Outcome → State → Prop} (hpost : ∀ tb e args s v u, (limb_1_1.after args s (.returned v) u = true ∧ limb_1_2.after args s (.returned v) u = true ∧ True) → FrameEnd s (.returned v) u (Jvm.fieldLocs frame_1_writes args s ++ Jvm.arrayLocs frame_1_arrays args s ++ Jvm.staticLocs frame_1_statics s) 24 128 → Post tb e args s (.returned v) u) :
    ArmFor flags0 classFile x code maxLocals ret World_1 tables_1 room_1 Calls_1 rest_1 Pre_1 Post := by
  intro l hfl _ _ p e ha hc hk s m args below hf hA hF happ hP
  obtain ⟨hcalls, hrest, hpre⟩ := hP
  obtain ⟨-, -, -, hnamed, -, -, -, hat⟩ := (Spec.applies_iff hf).mp happ
  obtain ⟨hg, hn⟩ := and_e (Cond.before_iff.mp (show (Jvm.Cond.and given_1 narrow_1).before args s = true from hpre))
  obtain ⟨g1, g2⟩ := and_e hg
  obtain ⟨g3, g4⟩ := and_e g2
  obtain ⟨w0, w1, rfl⟩ : ∃ w0 w1 : Value, args = #[w0, w1] := by
    have hs : args.size = 2 := by simpa [Cond.value, given_1] using g1
    obtain ⟨L⟩ := args
    match L, hs with
    | [w0, w1], _ => exact ⟨w0, w1, rfl⟩
  have hw := fun d (hd : d ∈ tables_1) => atoms_spec (ws := Jvm.Cond.code x code maxLocals ret :: tables_1) hat d (List.mem_cons_of_mem _ hd)
  have hfit : Fit s := fun {y c} hc i hi => by
    obtain ⟨ha, rfl⟩ := Array.getElem?_eq_some_iff.mp hc
    have q := List.all_eq_true.mp ((Array.all_eq_true_iff_forall_mem.mp hF) _ (Array.getElem_mem ha)) i (List.mem_range.mpr hi)
    simpa [Array.getElem?_eq_getElem hi] using q
  obtain ⟨hsets, hown0⟩ := atoms_of _ (rest_1_c_eq ▸ (show rest_1_c.before _ s = true from hrest))
  obtain ⟨i0, ei0⟩ := is_v g3
  obtain rfl : w0 = (.int i0) := Option.some.inj ei0
  obtain ⟨i1, ei1⟩ := is_v g4
  obtain rfl : w1 = (.int i1) := Option.some.inj ei1
  obtain ⟨z_cs, ev_cs⟩ := is_v (Cond.before_iff.mp (hsets _ (List.mem_of_getElem? (i := 10) rfl)))
  have S_cs := Sta.start ev_cs (Or.inl (hsets _ (List.mem_of_getElem? (i := 9) rfl)))
  have hz_cs : ¬ z_cs = 0 := fun q => by
    have h := not_v (Cond.before_iff.mp (hsets _ (List.mem_of_getElem? (i := 11) rfl)))
    have h' := gotF (eq_I ev_cs (Term.int_eval (0))) h
    exact h' q
  obtain ⟨fm, ev_f, hfm⟩ := isR_v (Cond.before_iff.mp (hsets _ (List.mem_of_getElem? (i := 17) rfl)))
  have S_f := Sta.start ev_f (Or.inl (hsets _ (List.mem_of_getElem? (i := 16) rfl)))
  have S_a0 : Sta s s.heap "java/lang/StringUTF16" "$assertionsDisabled" "Z" (.int 1) := Sta.start (eqv_i (Term.int_eval (1)) (Cond.before_iff.mp (hsets _ (List.mem_of_getElem? (i := 21) rfl)))) (Or.inl (hsets _ (List.mem_of_getElem? (i := 20) rfl)))
  have S_a1 : Sta s s.heap "java/lang/StringUTF16" "HI_BYTE_SHIFT" "I" (.int 0) := Sta.start (eqv_i (Term.int_eval (0)) (Cond.before_iff.mp (hsets _ (List.mem_of_getElem? (i := 24) rfl)))) (Or.inl (hsets _ (List.mem_of_getElem? (i := 23) rfl)))
  have S_a2 : Sta s s.heap "java/lang/StringUTF16" "LO_BYTE_SHIFT" "I" (.int 8) := Sta.start (eqv_i (Term.int_eval (8)) (Cond.before_iff.mp (hsets _ (List.mem_of_getElem? (i := 27) rfl)))) (Or.inl (hsets _ (List.mem_of_getElem? (i := 26) rfl)))
  obtain ⟨wU, ev_u⟩ := exa_v (Cond.before_iff.mp (hsets _ (List.mem_of_getElem? (i := 5) rfl)))
  obtain ⟨wI, ev_n⟩ := exa_v (Cond.before_iff.mp (hsets _ (List.mem_of_getElem? (i := 8) rfl)))
  have E_u := Exa.start ev_u (Cond.before_iff.mp (hsets _ (List.mem_of_getElem? (i := 5) rfl)))
  have S_u := Sta.start ev_u (Or.inl (hsets _ (List.mem_of_getElem? (i := 1) rfl)))
  have S_n := Sta.start ev_n (Or.inl (hsets _ (List.mem_of_getElem? (i := 3) rfl)))
  have q_u : Value.ref wU = Value.ref wI := gotT (eq_R ev_u ev_n rfl rfl) (Cond.before_iff.mp (hsets _ (List.mem_of_getElem? (i := 4) rfl)))
  have q_w : wU = wI := Value.ref.inj q_u
  rw [← q_w] at S_n
  obtain ⟨n, o, h1, h2, h3, _, L, rfl, ⟨rfl, N, _⟩, hq⟩ := law_ l s _ hw tables_1 i0 i1 wU z_cs fm s.heap s.heap.size (Old.start s) S_n S_cs hz_cs S_a0 S_a1 S_a2 S_f hfm S_u E_u p e ha hc hk s m _ below hf ((Spec.applies_iff_loose hf).mp happ).1 ⟨rfl, State.Warmed39.refl s, rfl⟩ trivial
  refine ⟨n, _, h1, h2, h3, hpost _ _ _ _ _ _ ⟨Cond.after_iff.mpr rfl, Cond.after_iff.mpr (eq_i res_at (Term.int_eval (1)) rfl), trivial⟩ ⟨hq.1, hq.2.1, (hq.2.2.sift fun y hy => Or.inr (N y hy)).mono (by decide) (by decide)⟩⟩
theorem main_1_1 : Claimed_1_1 := comes_1 fun _ _ _ _ _ _ h hF => ⟨h.1, hF⟩
theorem main_1_2 : Claimed_1_2 := comes_1 fun _ _ _ _ _ _ h hF => ⟨h.2.1, hF⟩
end Jvm.Pilot.@@N@@
namespace Jvm.Pilot.@@N@@
open Jvm Jvm.ClassFile Sem Op Lib Jvm.Free Jvm.Stand Jvm.Pilot.@@N@@.Jvm.D
/-! MADE BY PROGRAM (witnessworld.py) out of the Statement's table words and the real class files: 29 classes; the members and pool entries that the words name. The judged class is class 1, her method 1. -/
namespace start1
open Jvm.ClassFile
def u (s : String) : CpInfo := .utf8 (stringToUtf16 s)
/-- a pool by its gaps: so many unusable entries, then the entry; so many at the end -/
def gap : Nat → List CpInfo → List CpInfo
  | 0, r => r
  | n + 1, r => .unusable :: gap n r
def poolList (es : List (Nat × CpInfo)) (last : Nat) : List CpInfo := es.foldr (fun e r => gap e.1 (e.2 :: r)) (gap last [])
def pool (es : List (Nat × CpInfo)) (last : Nat) : Array CpInfo := ⟨poolList es last⟩
def fileOf (pool : Array CpInfo) (this : Nat) (attrs : Array Attribute := #[]) (ms : Array MethodInfo := #[]) (fl : Nat := 33) (sup : Nat := 0) (ifs : Array Nat := #[]) (fds : Array FieldInfo := #[]) : ClassFile where
  minorVersion := 0
  majorVersion := 65
  constantPool := pool
  accessFlags := fl
  thisClass := this
  superClass := sup
  interfaces := ifs
  fields := fds
  methods := ms
  attributes := attrs
def plain (name : String) (sup : Option ClassId) : Class where
  name := name
  kind := .ordinary
  loader := none
  accessFlags := 33
  super := sup
  interfaces := #[]
  cf := none
  fields := #[]
  methods := #[]
  instanceTypes := #[]
  staticTypes := #[]
  resolved := #[]
  callSites := []
  init := .initialized
  statics := none
  mirror := none

def pool0 : Array CpInfo := pool [(5, u "<init>"), (0, u "()V"), (1, .class_ 10), (1, u "java/lang/Object"), (85, u "clone"), (0, u "()Ljava/lang/Object;")] 26

def k0c0 : Code := { maxStack := 0, maxLocals := 1, code := object_method_1_code, exceptionTable := #[], attributes := #[] }
def k0m0 : Method := { name := "<init>", desc := "()V", sig := { parameters := [], returnType := none }, accessFlags := 1, code := some k0c0 }
def k0m1 : Method := { name := "clone", desc := "()Ljava/lang/Object;", sig := { parameters := [], returnType := some (.object "java/lang/Object") }, accessFlags := 260, code := none }
/-- java/lang/Object -/
def k0 : Class := { plain "java/lang/Object" none with
  accessFlags := 33
  interfaces := #[]
  cf := some (fileOf pool0 8 #[] #[{ accessFlags := 1, nameIndex := 5, descriptorIndex := 6, attributes := #[] }, { accessFlags := 260, nameIndex := 96, descriptorIndex := 97, attributes := #[] }] 33 0 #[] #[])
  fields := #[]
  methods := #[k0m0, k0m1]
  instanceTypes := #[]
  staticTypes := #[]
  resolved := Array.replicate 124 none
  statics := none }

def pool1 : Array CpInfo := pool [(2, .class_ 4), (1, u "java/lang/Object"), (0, u "<init>"), (0, u "()V"), (0, .integer 2147483647), (0, .integer 1114112), (0, .integer 55296), (0, .integer 57343), (0, .integer 65536), (0, .methodref 13 14), (0, .class_ 15), (0, .nameAndType 16 17), (0, u "com/example/lerlo/lerlo/Utf8"), (0, u "decode"), (0, u "([B)Ljava/lang/String;"), (0, .integer 65533), (0, .methodref 20 21), (0, .class_ 22), (0, .nameAndType 23 24), (0, u "java/lang/String"), (0, u "length"), (0, u "()I"), (0, .methodref 20 26), (0, .nameAndType 27 28), (0, u "charAt"), (0, u "(I)C"), (0, .integer 56320), (0, .class_ 31), (0, u "com/example/lerlo/lerlo/Utf8DecodePinLaw"), (2, u "law"), (0, u "(II)Z")] 5

def k1m0 : Method := { name := "<init>", desc := "()V", sig := { parameters := [], returnType := none }, accessFlags := 2, code := none }
def k1c1 : Code := { maxStack := 5, maxLocals := 8, code := code, exceptionTable := #[], attributes := #[] }
def k1m1 : Method := { name := "law", desc := "(II)Z", sig := { parameters := [.int, .int], returnType := some .boolean }, accessFlags := 9, code := some k1c1 }
/-- com/example/lerlo/lerlo/Utf8DecodePinLaw -/
def k1 : Class := { plain "com/example/lerlo/lerlo/Utf8DecodePinLaw" (some 0) with
  accessFlags := 49
  interfaces := #[]
  cf := some (fileOf pool1 30 #[] #[{ accessFlags := 2, nameIndex := 5, descriptorIndex := 6, attributes := #[] }, { accessFlags := 9, nameIndex := 34, descriptorIndex := 35, attributes := #[] }] 49 2 #[] #[])
  fields := #[]
  methods := #[k1m0, k1m1]
  instanceTypes := #[]
  staticTypes := #[]
  resolved := Array.replicate 41 none
  statics := none }

def pool2 : Array CpInfo := pool [(2, .class_ 4), (1, u "java/lang/Object"), (0, u "<init>"), (0, u "()V"), (0, .fieldref 8 9), (0, .class_ 10), (0, .nameAndType 11 12), (0, u "java/nio/charset/StandardCharsets"), (0, u "UTF_8"), (0, u "Ljava/nio/charset/Charset;"), (13, .class_ 28), (1, u "java/lang/String"), (28, .class_ 59), (1, u "com/example/lerlo/lerlo/Utf8"), (8, .methodref 26 69), (0, .nameAndType 5 70), (0, u "([BLjava/nio/charset/Charset;)V"), (8, u "decode"), (0, u "([B)Ljava/lang/String;")] 2

def k2m0 : Method := { name := "<init>", desc := "()V", sig := { parameters := [], returnType := none }, accessFlags := 2, code := none }
def k2c1 : Code := { maxStack := 4, maxLocals := 1, code := prog_5_method_5_code, exceptionTable := #[], attributes := #[] }
def k2m1 : Method := { name := "decode", desc := "([B)Ljava/lang/String;", sig := { parameters := [(.array .byte)], returnType := some (.object "java/lang/String") }, accessFlags := 8, code := some k2c1 }
/-- com/example/lerlo/lerlo/Utf8 -/
def k2 : Class := { plain "com/example/lerlo/lerlo/Utf8" (some 0) with
  accessFlags := 48
  interfaces := #[]
  cf := some (fileOf pool2 57 #[] #[{ accessFlags := 2, nameIndex := 5, descriptorIndex := 6, attributes := #[] }, { accessFlags := 8, nameIndex := 79, descriptorIndex := 80, attributes := #[] }] 48 2 #[] #[])
  fields := #[]
  methods := #[k2m0, k2m1]
  instanceTypes := #[]
  staticTypes := #[]
  resolved := Array.replicate 83 none
  statics := none }

def pool3 : Array CpInfo := pool [(1, .class_ 2), (0, u "java/io/Serializable"), (0, .class_ 4), (0, u "java/lang/Object")] 2

/-- java/io/Serializable -/
def k3 : Class := { plain "java/io/Serializable" (some 0) with
  accessFlags := 1537
  interfaces := #[]
  cf := some (fileOf pool3 1 #[] #[] 1537 3 #[] #[])
  fields := #[]
  methods := #[]
  instanceTypes := #[]
  staticTypes := #[]
  resolved := Array.replicate 7 none
  statics := none }

def pool4 : Array CpInfo := pool [(1, .class_ 2), (0, u "java/lang/Comparable"), (0, .class_ 4), (0, u "java/lang/Object")] 7

/-- java/lang/Comparable -/
def k4 : Class := { plain "java/lang/Comparable" (some 0) with
  accessFlags := 1537
  interfaces := #[]
  cf := some (fileOf pool4 1 #[] #[] 1537 3 #[] #[])
  fields := #[]
  methods := #[]
  instanceTypes := #[]
  staticTypes := #[]
  resolved := Array.replicate 12 none
  statics := none }

def pool5 : Array CpInfo := pool [(2, .class_ 4), (1, u "java/lang/CharSequence"), (42, .class_ 48), (0, u "java/lang/CharSequence$1CodePointIterator"), (10, .class_ 60), (0, u "java/lang/CharSequence$1CharIterator"), (5, .class_ 67), (0, u "java/lang/Object")] 63

/-- java/lang/CharSequence -/
def k5 : Class := { plain "java/lang/CharSequence" (some 0) with
  accessFlags := 1537
  interfaces := #[]
  cf := some (fileOf pool5 2 #[.nestMembers #[47, 59]] #[] 1537 66 #[] #[])
  fields := #[]
  methods := #[]
  instanceTypes := #[]
  staticTypes := #[]
  resolved := Array.replicate 131 none
  statics := none }

def pool6 : Array CpInfo := pool [(1, .class_ 2), (0, u "java/lang/constant/Constable"), (0, .class_ 4), (0, u "java/lang/Object")] 6

/-- java/lang/constant/Constable -/
def k6 : Class := { plain "java/lang/constant/Constable" (some 0) with
  accessFlags := 1537
  interfaces := #[]
  cf := some (fileOf pool6 1 #[] #[] 1537 3 #[] #[])
  fields := #[]
  methods := #[]
  instanceTypes := #[]
  staticTypes := #[]
  resolved := Array.replicate 11 none
  statics := none }

def pool7 : Array CpInfo := pool [(1, .class_ 2), (0, u "java/lang/constant/ConstantDesc"), (0, .class_ 4), (0, u "java/lang/Object")] 32

/-- java/lang/constant/ConstantDesc -/
def k7 : Class := { plain "java/lang/constant/ConstantDesc" (some 0) with
  accessFlags := 1537
  interfaces := #[]
  cf := some (fileOf pool7 1 #[] #[] 1537 3 #[] #[])
  fields := #[]
  methods := #[]
  instanceTypes := #[]
  staticTypes := #[]
  resolved := Array.replicate 37 none
  statics := none }

def pool8 : Array CpInfo := pool [(1, .methodref 2 3), (0, .class_ 4), (0, .nameAndType 5 6), (0, u "java/lang/Object"), (0, u "<init>"), (0, u "()V"), (2, .fieldref 10 11), (0, .class_ 12), (0, .nameAndType 13 14), (0, u "java/lang/String"), (0, u "value"), (0, u "[B"), (0, .fieldref 10 16), (0, .nameAndType 17 18), (0, u "coder"), (0, u "B"), (2, u "hash"), (0, u "I"), (2, u "hashIsZero"), (0, u "Z"), (9, u "checkBoundsOffCount"), (0, u "(III)I"), (0, .fieldref 10 39), (0, .nameAndType 40 26), (0, u "COMPACT_STRINGS"), (1, .class_ 44), (1, u "java/lang/StringUTF16"), (9, .methodref 55 56), (0, .class_ 57), (0, .nameAndType 58 59), (0, u "java/util/Arrays"), (0, u "copyOfRange"), (0, u "([BII)[B"), (0, .methodref 42 61), (0, .nameAndType 62 63), (0, u "newBytesFor"), (0, u "(I)[B"), (0, .methodref 42 65), (0, .nameAndType 66 67), (0, u "putChar"), (0, u "([BII)V"), (7, .methodref 10 76), (0, .nameAndType 5 77), (0, u "(Ljava/nio/charset/Charset;[BII)V"), (0, .methodref 79 80), (0, .class_ 81), (0, .nameAndType 82 83), (0, u "java/util/Objects"), (0, u "requireNonNull"), (0, u "(Ljava/lang/Object;)Ljava/lang/Object;"), (0, .class_ 85), (0, u "java/nio/charset/Charset"), (0, .fieldref 87 88), (0, .class_ 89), (0, .nameAndType 90 91), (0, u "sun/nio/cs/UTF_8"), (0, u "INSTANCE"), (0, u "Lsun/nio/cs/UTF_8;"), (0, .methodref 93 94), (0, .class_ 95), (0, .nameAndType 96 97), (0, u "java/lang/StringCoding"), (0, u "countPositives"), (0, u "([BII)I"), (0, .methodref 10 99), (0, .nameAndType 100 101), (0, u "decode2"), (0, u "(II)C"), (0, .methodref 55 103), (0, .nameAndType 104 105), (0, u "copyOf"), (0, u "([BI)[B"), (0, .methodref 107 108), (0, .class_ 109), (0, .nameAndType 110 111), (0, u "java/lang/StringLatin1"), (0, u "inflate"), (0, u "([BI[BII)V"), (0, .methodref 10 113), (0, .nameAndType 114 115), (0, u "decodeUTF8_UTF16"), (0, u "([BII[BIZ)I"), (16, .integer 65533), (9, u "()Z"), (191, u "()I"), (0, .methodref 10 336), (0, .nameAndType 17 337), (0, u "()B"), (25, u "([BI)C"), (1, .class_ 367), (1, u "java/lang/Character"), (1, u "(C)Z"), (13, .integer 4294844288), (0, .integer 3678080), (0, .methodref 10 386), (0, .nameAndType 387 388), (0, u "isNotContinuation"), (0, u "(I)Z"), (2, u "(II)V"), (0, .methodref 10 393), (0, .nameAndType 394 395), (0, u "isMalformed3"), (0, u "(III)Z"), (4, .methodref 10 401), (0, .nameAndType 402 403), (0, u "decode3"), (0, u "(III)C"), (0, .methodref 365 405), (0, .nameAndType 406 369), (0, u "isSurrogate"), (4, .methodref 10 412), (0, .nameAndType 413 414), (0, u "decode4"), (0, u "(IIII)I"), (0, .methodref 10 416), (0, .nameAndType 417 395), (0, u "isMalformed4"), (0, .methodref 365 419), (0, .nameAndType 420 388), (0, u "isSupplementaryCodePoint"), (3, .methodref 365 425), (0, .nameAndType 426 427), (0, u "highSurrogate"), (0, u "(I)C"), (0, .methodref 365 429), (0, .nameAndType 430 427), (0, u "lowSurrogate"), (61, .methodref 10 493), (0, .nameAndType 494 142), (0, u "isLatin1"), (0, .methodref 107 496), (0, .nameAndType 497 363), (0, u "charAt"), (0, .methodref 42 496), (2, u "checkIndex"), (5, u "length"), (67, .class_ 576), (0, u "java/lang/CharSequence"), (22, u "CASE_INSENSITIVE_ORDER"), (0, u "Ljava/util/Comparator;"), (452, .fieldref 1054 1055), (0, .class_ 1056), (0, .nameAndType 1057 1058), (0, u "jdk/internal/util/Preconditions"), (0, u "SIOOBE_FORMATTER"), (0, u "Ljava/util/function/BiFunction;"), (0, .methodref 1054 1060), (0, .nameAndType 501 1061), (0, u "(IILjava/util/function/BiFunction;)I"), (2, u "(IIILjava/util/function/BiFunction;)I"), (0, .methodref 1054 1066), (0, .nameAndType 1067 1064), (0, u "checkFromIndexSize"), (33, u "serialPersistentFields"), (0, u "[Ljava/io/ObjectStreamField;"), (0, .class_ 1104), (0, u "java/lang/String$CaseInsensitiveComparator"), (1, .class_ 1107), (0, u "java/io/Serializable"), (0, .class_ 1109), (0, u "java/lang/Comparable"), (0, .class_ 1111), (0, u "java/lang/constant/Constable"), (0, .class_ 1113), (0, u "java/lang/constant/ConstantDesc"), (2, u "serialVersionUID"), (0, u "J"), (3, u "REPL"), (0, u "C"), (2, u "LATIN1"), (1, u "UTF16"), (101, u "([BLjava/nio/charset/Charset;)V")] 221

def k8m0 : Method := { name := "<init>", desc := "()V", sig := { parameters := [], returnType := none }, accessFlags := 1, code := none }
def k8c1 : Code := { maxStack := 6, maxLocals := 11, code := jdk_42_method_11_code, exceptionTable := #[{ startPc := 800, endPc := 813, handlerPc := 816, catchType := 202 }], attributes := #[] }
def k8m1 : Method := { name := "<init>", desc := "(Ljava/nio/charset/Charset;[BII)V", sig := { parameters := [(.object "java/nio/charset/Charset"), (.array .byte), .int, .int], returnType := none }, accessFlags := 2, code := some k8c1 }
def k8c2 : Code := { maxStack := 2, maxLocals := 1, code := jdk_42_method_29_code, exceptionTable := #[], attributes := #[] }
def k8m2 : Method := { name := "isNotContinuation", desc := "(I)Z", sig := { parameters := [.int], returnType := some .boolean }, accessFlags := 10, code := some k8c2 }
def k8c3 : Code := { maxStack := 2, maxLocals := 3, code := jdk_42_method_30_code, exceptionTable := #[], attributes := #[] }
def k8m3 : Method := { name := "isMalformed3", desc := "(III)Z", sig := { parameters := [.int, .int, .int], returnType := some .boolean }, accessFlags := 10, code := some k8c3 }
def k8c4 : Code := { maxStack := 2, maxLocals := 3, code := jdk_42_method_32_code, exceptionTable := #[], attributes := #[] }
def k8m4 : Method := { name := "isMalformed4", desc := "(III)Z", sig := { parameters := [.int, .int, .int], returnType := some .boolean }, accessFlags := 10, code := some k8c4 }
def k8c5 : Code := { maxStack := 2, maxLocals := 2, code := jdk_42_method_35_code, exceptionTable := #[], attributes := #[] }
def k8m5 : Method := { name := "decode2", desc := "(II)C", sig := { parameters := [.int, .int], returnType := some .char }, accessFlags := 10, code := some k8c5 }
def k8c6 : Code := { maxStack := 3, maxLocals := 3, code := jdk_42_method_36_code, exceptionTable := #[], attributes := #[] }
def k8m6 : Method := { name := "decode3", desc := "(III)C", sig := { parameters := [.int, .int, .int], returnType := some .char }, accessFlags := 10, code := some k8c6 }
def k8c7 : Code := { maxStack := 3, maxLocals := 4, code := jdk_42_method_37_code, exceptionTable := #[], attributes := #[] }
def k8m7 : Method := { name := "decode4", desc := "(IIII)I", sig := { parameters := [.int, .int, .int, .int], returnType := some .int }, accessFlags := 10, code := some k8c7 }
def k8c8 : Code := { maxStack := 4, maxLocals := 11, code := jdk_42_method_38_code, exceptionTable := #[], attributes := #[] }
def k8m8 : Method := { name := "decodeUTF8_UTF16", desc := "([BII[BIZ)I", sig := { parameters := [(.array .byte), .int, .int, (.array .byte), .int, .boolean], returnType := some .int }, accessFlags := 10, code := some k8c8 }
def k8c9 : Code := { maxStack := 5, maxLocals := 3, code := jdk_42_method_49_code, exceptionTable := #[], attributes := #[] }
def k8m9 : Method := { name := "<init>", desc := "([BLjava/nio/charset/Charset;)V", sig := { parameters := [(.array .byte), (.object "java/nio/charset/Charset")], returnType := none }, accessFlags := 1, code := some k8c9 }
def k8c10 : Code := { maxStack := 2, maxLocals := 1, code := jdk_42_method_54_code, exceptionTable := #[], attributes := #[] }
def k8m10 : Method := { name := "length", desc := "()I", sig := { parameters := [], returnType := some .int }, accessFlags := 1, code := some k8c10 }
def k8c11 : Code := { maxStack := 2, maxLocals := 2, code := jdk_42_method_56_code, exceptionTable := #[], attributes := #[] }
def k8m11 : Method := { name := "charAt", desc := "(I)C", sig := { parameters := [.int], returnType := some .char }, accessFlags := 1, code := some k8c11 }
def k8c12 : Code := { maxStack := 1, maxLocals := 1, code := jdk_42_method_152_code, exceptionTable := #[], attributes := #[] }
def k8m12 : Method := { name := "coder", desc := "()B", sig := { parameters := [], returnType := some .byte }, accessFlags := 0, code := some k8c12 }
def k8c13 : Code := { maxStack := 1, maxLocals := 1, code := jdk_42_method_154_code, exceptionTable := #[], attributes := #[] }
def k8m13 : Method := { name := "isLatin1", desc := "()Z", sig := { parameters := [], returnType := some .boolean }, accessFlags := 0, code := some k8c13 }
def k8c14 : Code := { maxStack := 3, maxLocals := 2, code := jdk_42_method_155_code, exceptionTable := #[], attributes := #[] }
def k8m14 : Method := { name := "checkIndex", desc := "(II)V", sig := { parameters := [.int, .int], returnType := none }, accessFlags := 8, code := some k8c14 }
def k8c15 : Code := { maxStack := 4, maxLocals := 3, code := jdk_42_method_157_code, exceptionTable := #[], attributes := #[] }
def k8m15 : Method := { name := "checkBoundsOffCount", desc := "(III)I", sig := { parameters := [.int, .int, .int], returnType := some .int }, accessFlags := 8, code := some k8c15 }
/-- java/lang/String -/
def k8 : Class := { plain "java/lang/String" (some 0) with
  accessFlags := 49
  interfaces := #[3, 4, 5, 6, 7]
  cf := some (fileOf pool8 10 #[.nestMembers #[1103]] #[{ accessFlags := 1, nameIndex := 5, descriptorIndex := 6, attributes := #[] }, { accessFlags := 2, nameIndex := 5, descriptorIndex := 77, attributes := #[] }, { accessFlags := 10, nameIndex := 387, descriptorIndex := 388, attributes := #[] }, { accessFlags := 10, nameIndex := 394, descriptorIndex := 395, attributes := #[] }, { accessFlags := 10, nameIndex := 417, descriptorIndex := 395, attributes := #[] }, { accessFlags := 10, nameIndex := 100, descriptorIndex := 101, attributes := #[] }, { accessFlags := 10, nameIndex := 402, descriptorIndex := 403, attributes := #[] }, { accessFlags := 10, nameIndex := 413, descriptorIndex := 414, attributes := #[] }, { accessFlags := 10, nameIndex := 114, descriptorIndex := 115, attributes := #[] }, { accessFlags := 1, nameIndex := 5, descriptorIndex := 1229, attributes := #[] }, { accessFlags := 1, nameIndex := 507, descriptorIndex := 334, attributes := #[] }, { accessFlags := 1, nameIndex := 497, descriptorIndex := 427, attributes := #[] }, { accessFlags := 0, nameIndex := 17, descriptorIndex := 337, attributes := #[] }, { accessFlags := 0, nameIndex := 494, descriptorIndex := 142, attributes := #[] }, { accessFlags := 8, nameIndex := 501, descriptorIndex := 391, attributes := #[] }, { accessFlags := 8, nameIndex := 36, descriptorIndex := 37, attributes := #[] }] 49 2 #[1106, 1108, 575, 1110, 1112] #[{ accessFlags := 18, nameIndex := 13, descriptorIndex := 14, attributes := #[] }, { accessFlags := 18, nameIndex := 17, descriptorIndex := 18, attributes := #[] }, { accessFlags := 2, nameIndex := 21, descriptorIndex := 22, attributes := #[] }, { accessFlags := 2, nameIndex := 25, descriptorIndex := 26, attributes := #[] }, { accessFlags := 26, nameIndex := 1116, descriptorIndex := 1117, attributes := #[] }, { accessFlags := 24, nameIndex := 40, descriptorIndex := 26, attributes := #[] }, { accessFlags := 26, nameIndex := 1101, descriptorIndex := 1102, attributes := #[] }, { accessFlags := 26, nameIndex := 1121, descriptorIndex := 1122, attributes := #[] }, { accessFlags := 25, nameIndex := 599, descriptorIndex := 600, attributes := #[] }, { accessFlags := 24, nameIndex := 1125, descriptorIndex := 18, attributes := #[] }, { accessFlags := 24, nameIndex := 1127, descriptorIndex := 18, attributes := #[] }])
  fields := #[{ name := "value", type := (.array .byte), accessFlags := 18, slot := 0, constantValue := 0 }, { name := "coder", type := .byte, accessFlags := 18, slot := 1, constantValue := 0 }, { name := "hash", type := .int, accessFlags := 2, slot := 2, constantValue := 0 }, { name := "hashIsZero", type := .boolean, accessFlags := 2, slot := 3, constantValue := 0 }, { name := "serialVersionUID", type := .long, accessFlags := 26, slot := 0, constantValue := 0 }, { name := "COMPACT_STRINGS", type := .boolean, accessFlags := 24, slot := 1, constantValue := 0 }, { name := "serialPersistentFields", type := (.array (.object "java/io/ObjectStreamField")), accessFlags := 26, slot := 2, constantValue := 0 }, { name := "REPL", type := .char, accessFlags := 26, slot := 3, constantValue := 0 }, { name := "CASE_INSENSITIVE_ORDER", type := (.object "java/util/Comparator"), accessFlags := 25, slot := 4, constantValue := 0 }, { name := "LATIN1", type := .byte, accessFlags := 24, slot := 5, constantValue := 0 }, { name := "UTF16", type := .byte, accessFlags := 24, slot := 6, constantValue := 0 }]
  methods := #[k8m0, k8m1, k8m2, k8m3, k8m4, k8m5, k8m6, k8m7, k8m8, k8m9, k8m10, k8m11, k8m12, k8m13, k8m14, k8m15]
  instanceTypes := #[(.array .byte), .byte, .int, .boolean]
  staticTypes := #[.long, .boolean, (.array (.object "java/io/ObjectStreamField")), .char, (.object "java/util/Comparator"), .byte, .byte]
  resolved := Array.replicate 1451 none
  statics := some 0 }

def pool9 : Array CpInfo := pool [(2, .class_ 4), (1, u "java/lang/Object"), (0, u "<init>"), (0, u "()V"), (14, .class_ 23), (1, u "java/nio/charset/StandardCharsets"), (0, u "US_ASCII"), (0, u "Ljava/nio/charset/Charset;"), (7, u "ISO_8859_1"), (7, u "UTF_8"), (5, u "UTF_16BE"), (5, u "UTF_16LE"), (5, u "UTF_16")] 8

def k9m0 : Method := { name := "<init>", desc := "()V", sig := { parameters := [], returnType := none }, accessFlags := 2, code := none }
/-- java/nio/charset/StandardCharsets -/
def k9 : Class := { plain "java/nio/charset/StandardCharsets" (some 0) with
  accessFlags := 49
  interfaces := #[]
  cf := some (fileOf pool9 21 #[] #[{ accessFlags := 2, nameIndex := 5, descriptorIndex := 6, attributes := #[] }] 49 2 #[] #[{ accessFlags := 25, nameIndex := 24, descriptorIndex := 25, attributes := #[] }, { accessFlags := 25, nameIndex := 33, descriptorIndex := 25, attributes := #[] }, { accessFlags := 25, nameIndex := 41, descriptorIndex := 25, attributes := #[] }, { accessFlags := 25, nameIndex := 47, descriptorIndex := 25, attributes := #[] }, { accessFlags := 25, nameIndex := 53, descriptorIndex := 25, attributes := #[] }, { accessFlags := 25, nameIndex := 59, descriptorIndex := 25, attributes := #[] }])
  fields := #[{ name := "US_ASCII", type := (.object "java/nio/charset/Charset"), accessFlags := 25, slot := 0, constantValue := 0 }, { name := "ISO_8859_1", type := (.object "java/nio/charset/Charset"), accessFlags := 25, slot := 1, constantValue := 0 }, { name := "UTF_8", type := (.object "java/nio/charset/Charset"), accessFlags := 25, slot := 2, constantValue := 0 }, { name := "UTF_16BE", type := (.object "java/nio/charset/Charset"), accessFlags := 25, slot := 3, constantValue := 0 }, { name := "UTF_16LE", type := (.object "java/nio/charset/Charset"), accessFlags := 25, slot := 4, constantValue := 0 }, { name := "UTF_16", type := (.object "java/nio/charset/Charset"), accessFlags := 25, slot := 5, constantValue := 0 }]
  methods := #[k9m0]
  instanceTypes := #[]
  staticTypes := #[(.object "java/nio/charset/Charset"), (.object "java/nio/charset/Charset"), (.object "java/nio/charset/Charset"), (.object "java/nio/charset/Charset"), (.object "java/nio/charset/Charset"), (.object "java/nio/charset/Charset")]
  resolved := Array.replicate 68 none
  statics := some 1 }

def pool10 : Array CpInfo := pool [(2, .class_ 4), (1, u "java/lang/Object"), (0, u "<init>"), (0, u "()V"), (35, .class_ 44), (1, u "java/util/Objects"), (0, u "requireNonNull"), (0, u "(Ljava/lang/Object;)Ljava/lang/Object;")] 137

def k10m0 : Method := { name := "<init>", desc := "()V", sig := { parameters := [], returnType := none }, accessFlags := 2, code := none }
def k10c1 : Code := { maxStack := 2, maxLocals := 1, code := jdk_31_method_10_code, exceptionTable := #[], attributes := #[] }
def k10m1 : Method := { name := "requireNonNull", desc := "(Ljava/lang/Object;)Ljava/lang/Object;", sig := { parameters := [(.object "java/lang/Object")], returnType := some (.object "java/lang/Object") }, accessFlags := 9, code := some k10c1 }
/-- java/util/Objects -/
def k10 : Class := { plain "java/util/Objects" (some 0) with
  accessFlags := 49
  interfaces := #[]
  cf := some (fileOf pool10 42 #[] #[{ accessFlags := 2, nameIndex := 5, descriptorIndex := 6, attributes := #[] }, { accessFlags := 9, nameIndex := 45, descriptorIndex := 46, attributes := #[] }] 49 2 #[] #[])
  fields := #[]
  methods := #[k10m0, k10m1]
  instanceTypes := #[]
  staticTypes := #[]
  resolved := Array.replicate 184 none
  statics := none }

def pool11 : Array CpInfo := pool [(18, .class_ 20), (1, u "java/nio/charset/Charset"), (0, u "cache1"), (0, u "[Ljava/lang/Object;"), (2, u "cache2"), (0, .class_ 27), (0, u "java/lang/Object"), (0, .class_ 29), (0, u "java/nio/charset/Charset$1"), (4, .class_ 36), (1, u "java/nio/charset/Charset$ThreadTrackHolder"), (21, .class_ 59), (0, u "java/nio/charset/Charset$2"), (11, .class_ 73), (1, u "java/nio/charset/Charset$ExtendedProviderHolder"), (22, u "standardProvider"), (0, u "Ljava/nio/charset/spi/CharsetProvider;"), (29, u "name"), (7, .class_ 136), (0, u "java/nio/charset/Charset$3"), (5, u "defaultCharset"), (0, u "Ljava/nio/charset/Charset;"), (14, u "zeroAliases"), (0, u "[Ljava/lang/String;"), (29, u "Ljava/lang/String;"), (2, u "aliases"), (2, u "aliasSet"), (0, u "Ljava/util/Set;"), (82, .class_ 280), (0, u "java/lang/Comparable"), (84, .class_ 366), (0, u "java/nio/charset/Charset$ExtendedProviderHolder$1")] 3

/-- java/nio/charset/Charset -/
def k11 : Class := { plain "java/nio/charset/Charset" (some 0) with
  accessFlags := 1057
  interfaces := #[4]
  cf := some (fileOf pool11 18 #[.nestMembers #[71, 365, 34, 135, 58, 28]] #[] 1057 26 #[279] #[{ accessFlags := 26, nameIndex := 96, descriptorIndex := 97, attributes := #[] }, { accessFlags := 26, nameIndex := 158, descriptorIndex := 159, attributes := #[] }, { accessFlags := 74, nameIndex := 21, descriptorIndex := 22, attributes := #[] }, { accessFlags := 74, nameIndex := 25, descriptorIndex := 22, attributes := #[] }, { accessFlags := 10, nameIndex := 142, descriptorIndex := 143, attributes := #[] }, { accessFlags := 18, nameIndex := 127, descriptorIndex := 189, attributes := #[] }, { accessFlags := 18, nameIndex := 192, descriptorIndex := 159, attributes := #[] }, { accessFlags := 2, nameIndex := 195, descriptorIndex := 196, attributes := #[] }])
  fields := #[{ name := "standardProvider", type := (.object "java/nio/charset/spi/CharsetProvider"), accessFlags := 26, slot := 0, constantValue := 0 }, { name := "zeroAliases", type := (.array (.object "java/lang/String")), accessFlags := 26, slot := 1, constantValue := 0 }, { name := "cache1", type := (.array (.object "java/lang/Object")), accessFlags := 74, slot := 2, constantValue := 0 }, { name := "cache2", type := (.array (.object "java/lang/Object")), accessFlags := 74, slot := 3, constantValue := 0 }, { name := "defaultCharset", type := (.object "java/nio/charset/Charset"), accessFlags := 10, slot := 4, constantValue := 0 }, { name := "name", type := (.object "java/lang/String"), accessFlags := 18, slot := 0, constantValue := 0 }, { name := "aliases", type := (.array (.object "java/lang/String")), accessFlags := 18, slot := 1, constantValue := 0 }, { name := "aliasSet", type := (.object "java/util/Set"), accessFlags := 2, slot := 2, constantValue := 0 }]
  methods := #[]
  instanceTypes := #[(.object "java/lang/String"), (.array (.object "java/lang/String")), (.object "java/util/Set")]
  staticTypes := #[(.object "java/nio/charset/spi/CharsetProvider"), (.array (.object "java/lang/String")), (.array (.object "java/lang/Object")), (.array (.object "java/lang/Object")), (.object "java/nio/charset/Charset")]
  resolved := Array.replicate 370 none
  statics := none }

def pool12 : Array CpInfo := pool [(1, .class_ 2), (0, u "sun/nio/cs/HistoricallyNamedCharset"), (0, .class_ 4), (0, u "java/lang/Object")] 4

/-- sun/nio/cs/HistoricallyNamedCharset -/
def k12 : Class := { plain "sun/nio/cs/HistoricallyNamedCharset" (some 0) with
  accessFlags := 1537
  interfaces := #[]
  cf := some (fileOf pool12 1 #[] #[] 1537 3 #[] #[])
  fields := #[]
  methods := #[]
  instanceTypes := #[]
  staticTypes := #[]
  resolved := Array.replicate 9 none
  statics := none }

def pool13 : Array CpInfo := pool [(2, .class_ 4), (1, u "java/nio/charset/Charset"), (130, .class_ 136), (0, u "sun/nio/cs/Unicode"), (0, .class_ 138), (0, u "sun/nio/cs/HistoricallyNamedCharset")] 15

/-- sun/nio/cs/Unicode -/
def k13 : Class := { plain "sun/nio/cs/Unicode" (some 11) with
  accessFlags := 1056
  interfaces := #[12]
  cf := some (fileOf pool13 135 #[] #[] 1056 2 #[137] #[])
  fields := #[]
  methods := #[]
  instanceTypes := #[(.object "java/lang/String"), (.array (.object "java/lang/String")), (.object "java/util/Set")]
  staticTypes := #[]
  resolved := Array.replicate 154 none
  statics := none }

def pool14 : Array CpInfo := pool [(10, .class_ 12), (1, u "sun/nio/cs/Unicode"), (0, u "<init>"), (3, .class_ 18), (0, u "sun/nio/cs/UTF_8$Decoder"), (3, .class_ 23), (0, u "sun/nio/cs/UTF_8$Encoder"), (15, .class_ 40), (0, u "sun/nio/cs/UTF_8"), (2, u "()V"), (2, u "INSTANCE"), (0, u "Lsun/nio/cs/UTF_8;"), (8, u "JLA"), (0, u "Ljdk/internal/access/JavaLangAccess;")] 26

def k14m0 : Method := { name := "<init>", desc := "()V", sig := { parameters := [], returnType := none }, accessFlags := 1, code := none }
/-- sun/nio/cs/UTF_8 -/
def k14 : Class := { plain "sun/nio/cs/UTF_8" (some 13) with
  accessFlags := 49
  interfaces := #[]
  cf := some (fileOf pool14 39 #[.nestMembers #[22, 17]] #[{ accessFlags := 1, nameIndex := 13, descriptorIndex := 43, attributes := #[] }] 49 10 #[] #[{ accessFlags := 25, nameIndex := 46, descriptorIndex := 47, attributes := #[] }, { accessFlags := 26, nameIndex := 56, descriptorIndex := 57, attributes := #[] }])
  fields := #[{ name := "INSTANCE", type := (.object "sun/nio/cs/UTF_8"), accessFlags := 25, slot := 0, constantValue := 0 }, { name := "JLA", type := (.object "jdk/internal/access/JavaLangAccess"), accessFlags := 26, slot := 1, constantValue := 0 }]
  methods := #[k14m0]
  instanceTypes := #[(.object "java/lang/String"), (.array (.object "java/lang/String")), (.object "java/util/Set")]
  staticTypes := #[(.object "sun/nio/cs/UTF_8"), (.object "jdk/internal/access/JavaLangAccess")]
  resolved := Array.replicate 84 none
  statics := some 2 }

def pool15 : Array CpInfo := pool [(2, .class_ 4), (1, u "java/lang/Object"), (0, u "<init>"), (0, u "()V"), (1, .class_ 10), (1, u "java/lang/StringCoding"), (0, u "countPositives"), (0, u "([BII)I")] 36

def k15m0 : Method := { name := "<init>", desc := "()V", sig := { parameters := [], returnType := none }, accessFlags := 2, code := none }
def k15c1 : Code := { maxStack := 2, maxLocals := 5, code := jdk_123_method_3_code, exceptionTable := #[], attributes := #[] }
def k15m1 : Method := { name := "countPositives", desc := "([BII)I", sig := { parameters := [(.array .byte), .int, .int], returnType := some .int }, accessFlags := 9, code := some k15c1 }
/-- java/lang/StringCoding -/
def k15 : Class := { plain "java/lang/StringCoding" (some 0) with
  accessFlags := 32
  interfaces := #[]
  cf := some (fileOf pool15 8 #[] #[{ accessFlags := 2, nameIndex := 5, descriptorIndex := 6, attributes := #[] }, { accessFlags := 9, nameIndex := 11, descriptorIndex := 12, attributes := #[] }] 32 2 #[] #[])
  fields := #[]
  methods := #[k15m0, k15m1]
  instanceTypes := #[]
  staticTypes := #[]
  resolved := Array.replicate 49 none
  statics := none }

def pool16 : Array CpInfo := pool [(2, .class_ 4), (1, u "java/lang/Object"), (0, u "<init>"), (0, u "()V"), (7, .class_ 16), (1, u "java/util/Arrays"), (57, .class_ 76), (1, u "java/util/Arrays$NaturalOrder"), (32, u "()Ljava/lang/Object;"), (3, .class_ 115), (1, u "java/util/Arrays$LegacyMergeSort"), (1, u "Z"), (10, .nameAndType 129 109), (0, u "clone"), (9, u "copyOfRange"), (10, .methodref 151 152), (0, .class_ 153), (0, .nameAndType 154 155), (0, u "java/lang/System"), (0, u "arraycopy"), (0, u "(Ljava/lang/Object;ILjava/lang/Object;II)V"), (146, u "copyOf"), (1, .methodref 305 306), (0, .class_ 307), (0, .nameAndType 308 309), (0, u "java/lang/Math"), (0, u "min"), (0, u "(II)I"), (0, .methodref 311 128), (0, .class_ 312), (0, u "[B"), (29, u "([BII)[B"), (32, .class_ 376), (0, u "java/util/Arrays$ArrayList"), (68, u "$assertionsDisabled"), (269, u "MIN_ARRAY_SORT_GRAN"), (0, u "I"), (2, u "INSERTIONSORT_THRESHOLD"), (149, u "([BI)[B"), (105, .class_ 976), (0, u "java/util/Arrays$ArrayItr")] 52

def k16m0 : Method := { name := "<init>", desc := "()V", sig := { parameters := [], returnType := none }, accessFlags := 2, code := none }
def k16c1 : Code := { maxStack := 6, maxLocals := 3, code := jdk_65_method_121_code, exceptionTable := #[], attributes := #[] }
def k16m1 : Method := { name := "copyOf", desc := "([BI)[B", sig := { parameters := [(.array .byte), .int], returnType := some (.array .byte) }, accessFlags := 9, code := some k16c1 }
def k16c2 : Code := { maxStack := 3, maxLocals := 3, code := jdk_65_method_132_code, exceptionTable := #[], attributes := #[] }
def k16m2 : Method := { name := "copyOfRange", desc := "([BII)[B", sig := { parameters := [(.array .byte), .int, .int], returnType := some (.array .byte) }, accessFlags := 9, code := some k16c2 }
/-- java/util/Arrays -/
def k16 : Class := { plain "java/util/Arrays" (some 0) with
  accessFlags := 49
  interfaces := #[]
  cf := some (fileOf pool16 14 #[.nestMembers #[975, 375, 113, 74]] #[{ accessFlags := 2, nameIndex := 5, descriptorIndex := 6, attributes := #[] }, { accessFlags := 9, nameIndex := 302, descriptorIndex := 869, attributes := #[] }, { accessFlags := 9, nameIndex := 139, descriptorIndex := 342, attributes := #[] }] 49 2 #[] #[{ accessFlags := 26, nameIndex := 715, descriptorIndex := 716, attributes := #[] }, { accessFlags := 26, nameIndex := 719, descriptorIndex := 716, attributes := #[] }, { accessFlags := 4120, nameIndex := 445, descriptorIndex := 117, attributes := #[] }])
  fields := #[{ name := "MIN_ARRAY_SORT_GRAN", type := .int, accessFlags := 26, slot := 0, constantValue := 0 }, { name := "INSERTIONSORT_THRESHOLD", type := .int, accessFlags := 26, slot := 1, constantValue := 0 }, { name := "$assertionsDisabled", type := .boolean, accessFlags := 4120, slot := 2, constantValue := 0 }]
  methods := #[k16m0, k16m1, k16m2]
  instanceTypes := #[]
  staticTypes := #[.int, .int, .boolean]
  resolved := Array.replicate 1029 none
  statics := none }

def pool17 : Array CpInfo := pool [(1, .class_ 2), (0, u "java/lang/Cloneable"), (0, .class_ 4), (0, u "java/lang/Object")] 2

/-- java/lang/Cloneable -/
def k17 : Class := { plain "java/lang/Cloneable" (some 0) with
  accessFlags := 1537
  interfaces := #[]
  cf := some (fileOf pool17 1 #[] #[] 1537 3 #[] #[])
  fields := #[]
  methods := #[]
  instanceTypes := #[]
  staticTypes := #[]
  resolved := Array.replicate 7 none
  statics := none }

def pool18 : Array CpInfo := pool [(1, .class_ 2), (0, u "java/lang/String"), (1, .class_ 6), (1, u "java/lang/Object"), (0, u "<init>"), (0, u "()V"), (0, .methodref 1 10), (0, .nameAndType 11 12), (0, u "checkIndex"), (0, u "(II)V"), (1, .class_ 16), (1, u "java/lang/StringLatin1"), (0, u "inflate"), (2, .class_ 22), (1, u "java/lang/StringUTF16"), (3, .nameAndType 17 27), (0, u "([BI[BII)V"), (25, u "([BI)C"), (67, u "$assertionsDisabled"), (0, u "Z"), (98, .class_ 223), (1, u "java/lang/StringLatin1$LinesSpliterator"), (16, .methodref 20 26), (11, u "charAt"), (137, .class_ 391), (0, u "java/lang/StringLatin1$CharsSpliterator")] 3

def k18m0 : Method := { name := "<init>", desc := "()V", sig := { parameters := [], returnType := none }, accessFlags := 0, code := none }
def k18c1 : Code := { maxStack := 2, maxLocals := 2, code := jdk_43_method_2_code, exceptionTable := #[], attributes := #[] }
def k18m1 : Method := { name := "charAt", desc := "([BI)C", sig := { parameters := [(.array .byte), .int], returnType := some .char }, accessFlags := 9, code := some k18c1 }
def k18c2 : Code := { maxStack := 5, maxLocals := 5, code := jdk_43_method_50_code, exceptionTable := #[], attributes := #[] }
def k18m2 : Method := { name := "inflate", desc := "([BI[BII)V", sig := { parameters := [(.array .byte), .int, (.array .byte), .int, .int], returnType := none }, accessFlags := 9, code := some k18c2 }
/-- java/lang/StringLatin1 -/
def k18 : Class := { plain "java/lang/StringLatin1" (some 0) with
  accessFlags := 48
  interfaces := #[]
  cf := some (fileOf pool18 14 #[.nestMembers #[390, 221]] #[{ accessFlags := 0, nameIndex := 7, descriptorIndex := 8, attributes := #[] }, { accessFlags := 9, nameIndex := 252, descriptorIndex := 53, attributes := #[] }, { accessFlags := 9, nameIndex := 17, descriptorIndex := 27, attributes := #[] }] 48 4 #[] #[{ accessFlags := 4120, nameIndex := 121, descriptorIndex := 122, attributes := #[] }])
  fields := #[{ name := "$assertionsDisabled", type := .boolean, accessFlags := 4120, slot := 0, constantValue := 0 }]
  methods := #[k18m0, k18m1, k18m2]
  instanceTypes := #[]
  staticTypes := #[.boolean]
  resolved := Array.replicate 395 none
  statics := none }

def pool19 : Array CpInfo := pool [(2, .class_ 4), (1, u "java/lang/Object"), (0, u "<init>"), (0, u "()V"), (17, .class_ 26), (1, u "jdk/internal/util/Preconditions"), (6, u "checkIndex"), (15, u "checkFromIndexSize"), (5, .class_ 56), (0, u "jdk/internal/util/Preconditions$4"), (57, .class_ 115), (0, u "jdk/internal/util/Preconditions$1"), (7, u "SIOOBE_FORMATTER"), (0, u "Ljava/util/function/BiFunction;"), (0, .class_ 126), (0, u "jdk/internal/util/Preconditions$2"), (3, u "AIOOBE_FORMATTER"), (0, .class_ 132), (0, u "jdk/internal/util/Preconditions$3"), (3, u "IOOBE_FORMATTER"), (41, u "(IILjava/util/function/BiFunction;)I"), (4, u "(IIILjava/util/function/BiFunction;)I")] 10

def k19m0 : Method := { name := "<init>", desc := "()V", sig := { parameters := [], returnType := none }, accessFlags := 1, code := none }
def k19c1 : Code := { maxStack := 3, maxLocals := 3, code := jdk_41_method_11_code, exceptionTable := #[], attributes := #[] }
def k19m1 : Method := { name := "checkIndex", desc := "(IILjava/util/function/BiFunction;)I", sig := { parameters := [.int, .int, (.object "java/util/function/BiFunction")], returnType := some .int }, accessFlags := 9, code := some k19c1 }
def k19c2 : Code := { maxStack := 4, maxLocals := 4, code := jdk_41_method_13_code, exceptionTable := #[], attributes := #[] }
def k19m2 : Method := { name := "checkFromIndexSize", desc := "(IIILjava/util/function/BiFunction;)I", sig := { parameters := [.int, .int, .int, (.object "java/util/function/BiFunction")], returnType := some .int }, accessFlags := 9, code := some k19c2 }
/-- jdk/internal/util/Preconditions -/
def k19 : Class := { plain "jdk/internal/util/Preconditions" (some 0) with
  accessFlags := 33
  interfaces := #[]
  cf := some (fileOf pool19 24 #[.nestMembers #[55, 131, 125, 114]] #[{ accessFlags := 1, nameIndex := 5, descriptorIndex := 6, attributes := #[] }, { accessFlags := 9, nameIndex := 33, descriptorIndex := 178, attributes := #[] }, { accessFlags := 9, nameIndex := 49, descriptorIndex := 183, attributes := #[] }] 33 2 #[] #[{ accessFlags := 25, nameIndex := 123, descriptorIndex := 124, attributes := #[] }, { accessFlags := 25, nameIndex := 130, descriptorIndex := 124, attributes := #[] }, { accessFlags := 25, nameIndex := 136, descriptorIndex := 124, attributes := #[] }])
  fields := #[{ name := "SIOOBE_FORMATTER", type := (.object "java/util/function/BiFunction"), accessFlags := 25, slot := 0, constantValue := 0 }, { name := "AIOOBE_FORMATTER", type := (.object "java/util/function/BiFunction"), accessFlags := 25, slot := 1, constantValue := 0 }, { name := "IOOBE_FORMATTER", type := (.object "java/util/function/BiFunction"), accessFlags := 25, slot := 2, constantValue := 0 }]
  methods := #[k19m0, k19m1, k19m2]
  instanceTypes := #[]
  staticTypes := #[(.object "java/util/function/BiFunction"), (.object "java/util/function/BiFunction"), (.object "java/util/function/BiFunction")]
  resolved := Array.replicate 194 none
  statics := some 3 }

def pool20 : Array CpInfo := pool [(3, .class_ 4), (0, u "java/lang/String"), (1, .class_ 8), (1, u "java/lang/Object"), (0, u "<init>"), (0, u "()V"), (0, .methodref 12 13), (0, .class_ 14), (0, .nameAndType 15 16), (0, u "java/lang/StringUTF16"), (0, u "newBytesLength"), (0, u "(I)I"), (3, .integer 1073741823), (23, .fieldref 12 45), (0, .nameAndType 46 47), (0, u "$assertionsDisabled"), (0, u "Z"), (0, .methodref 12 49), (0, .nameAndType 50 51), (0, u "length"), (0, u "([B)I"), (7, .fieldref 12 60), (0, .nameAndType 61 62), (0, u "HI_BYTE_SHIFT"), (0, u "I"), (0, .fieldref 12 64), (0, .nameAndType 65 62), (0, u "LO_BYTE_SHIFT"), (1, .methodref 12 68), (0, .nameAndType 69 70), (0, u "checkIndex"), (0, u "(I[B)V"), (0, .methodref 12 72), (0, .nameAndType 73 74), (0, u "getChar"), (0, u "([BI)C"), (24, u "(II[B)V"), (9, u "newBytesFor"), (0, u "(I)[B"), (0, .methodref 12 112), (0, .nameAndType 113 114), (0, u "putChar"), (0, u "([BII)V"), (25, u "inflate"), (0, u "([BI[BII)V"), (31, .methodref 12 174), (0, .nameAndType 175 99), (0, u "checkBoundsOffCount"), (105, u "(III)I"), (87, .class_ 371), (1, u "java/lang/StringUTF16$LinesSpliterator"), (20, u "charAt"), (21, .methodref 3 415), (0, .nameAndType 69 416), (0, u "(II)V"), (2, .methodref 3 420), (0, .nameAndType 175 281), (9, u "MAX_LENGTH"), (196, .class_ 628), (0, u "java/lang/StringUTF16$CodePointsSpliterator"), (0, .class_ 630), (0, u "java/lang/StringUTF16$CharsSpliterator")] 4

def k20m0 : Method := { name := "<init>", desc := "()V", sig := { parameters := [], returnType := none }, accessFlags := 0, code := none }
def k20c1 : Code := { maxStack := 1, maxLocals := 1, code := jdk_52_method_2_code, exceptionTable := #[], attributes := #[] }
def k20m1 : Method := { name := "newBytesFor", desc := "(I)[B", sig := { parameters := [.int], returnType := some (.array .byte) }, accessFlags := 9, code := some k20c1 }
def k20c2 : Code := { maxStack := 4, maxLocals := 1, code := jdk_52_method_3_code, exceptionTable := #[], attributes := #[] }
def k20m2 : Method := { name := "newBytesLength", desc := "(I)I", sig := { parameters := [.int], returnType := some .int }, accessFlags := 9, code := some k20c2 }
def k20c3 : Code := { maxStack := 4, maxLocals := 3, code := jdk_52_method_4_code, exceptionTable := #[], attributes := #[] }
def k20m3 : Method := { name := "putChar", desc := "([BII)V", sig := { parameters := [(.array .byte), .int, .int], returnType := none }, accessFlags := 8, code := some k20c3 }
def k20c4 : Code := { maxStack := 3, maxLocals := 2, code := jdk_52_method_5_code, exceptionTable := #[], attributes := #[] }
def k20m4 : Method := { name := "getChar", desc := "([BI)C", sig := { parameters := [(.array .byte), .int], returnType := some .char }, accessFlags := 8, code := some k20c4 }
def k20c5 : Code := { maxStack := 2, maxLocals := 1, code := jdk_52_method_6_code, exceptionTable := #[], attributes := #[] }
def k20m5 : Method := { name := "length", desc := "([B)I", sig := { parameters := [(.array .byte)], returnType := some .int }, accessFlags := 9, code := some k20c5 }
def k20c6 : Code := { maxStack := 2, maxLocals := 2, code := jdk_52_method_83_code, exceptionTable := #[], attributes := #[] }
def k20m6 : Method := { name := "charAt", desc := "([BI)C", sig := { parameters := [(.array .byte), .int], returnType := some .char }, accessFlags := 9, code := some k20c6 }
def k20c7 : Code := { maxStack := 4, maxLocals := 6, code := jdk_52_method_86_code, exceptionTable := #[], attributes := #[] }
def k20m7 : Method := { name := "inflate", desc := "([BI[BII)V", sig := { parameters := [(.array .byte), .int, (.array .byte), .int, .int], returnType := none }, accessFlags := 9, code := some k20c7 }
def k20c8 : Code := { maxStack := 2, maxLocals := 2, code := jdk_52_method_91_code, exceptionTable := #[], attributes := #[] }
def k20m8 : Method := { name := "checkIndex", desc := "(I[B)V", sig := { parameters := [.int, (.array .byte)], returnType := none }, accessFlags := 9, code := some k20c8 }
def k20c9 : Code := { maxStack := 3, maxLocals := 3, code := jdk_52_method_94_code, exceptionTable := #[], attributes := #[] }
def k20m9 : Method := { name := "checkBoundsOffCount", desc := "(II[B)V", sig := { parameters := [.int, .int, (.array .byte)], returnType := none }, accessFlags := 9, code := some k20c9 }
/-- java/lang/StringUTF16 -/
def k20 : Class := { plain "java/lang/StringUTF16" (some 0) with
  accessFlags := 48
  interfaces := #[]
  cf := some (fileOf pool20 12 #[.nestMembers #[627, 629, 369]] #[{ accessFlags := 0, nameIndex := 9, descriptorIndex := 10, attributes := #[] }, { accessFlags := 9, nameIndex := 109, descriptorIndex := 110, attributes := #[] }, { accessFlags := 9, nameIndex := 15, descriptorIndex := 16, attributes := #[] }, { accessFlags := 8, nameIndex := 113, descriptorIndex := 114, attributes := #[] }, { accessFlags := 8, nameIndex := 73, descriptorIndex := 74, attributes := #[] }, { accessFlags := 9, nameIndex := 50, descriptorIndex := 51, attributes := #[] }, { accessFlags := 9, nameIndex := 392, descriptorIndex := 74, attributes := #[] }, { accessFlags := 9, nameIndex := 140, descriptorIndex := 141, attributes := #[] }, { accessFlags := 9, nameIndex := 69, descriptorIndex := 70, attributes := #[] }, { accessFlags := 9, nameIndex := 175, descriptorIndex := 99, attributes := #[] }] 48 6 #[] #[{ accessFlags := 26, nameIndex := 61, descriptorIndex := 62, attributes := #[] }, { accessFlags := 26, nameIndex := 65, descriptorIndex := 62, attributes := #[] }, { accessFlags := 24, nameIndex := 430, descriptorIndex := 62, attributes := #[] }, { accessFlags := 4120, nameIndex := 46, descriptorIndex := 47, attributes := #[] }])
  fields := #[{ name := "HI_BYTE_SHIFT", type := .int, accessFlags := 26, slot := 0, constantValue := 0 }, { name := "LO_BYTE_SHIFT", type := .int, accessFlags := 26, slot := 1, constantValue := 0 }, { name := "MAX_LENGTH", type := .int, accessFlags := 24, slot := 2, constantValue := 0 }, { name := "$assertionsDisabled", type := .boolean, accessFlags := 4120, slot := 3, constantValue := 0 }]
  methods := #[k20m0, k20m1, k20m2, k20m3, k20m4, k20m5, k20m6, k20m7, k20m8, k20m9]
  instanceTypes := #[]
  staticTypes := #[.int, .int, .int, .boolean]
  resolved := Array.replicate 635 none
  statics := some 4 }

def pool21 : Array CpInfo := pool [(1, .class_ 2), (0, u "java/lang/Character"), (18, u "value"), (0, u "C"), (19, .class_ 44), (1, u "java/lang/Object"), (3, .class_ 50), (1, u "java/lang/Character$CharacterCache"), (22, .integer 65536), (0, .integer 1114112), (0, .integer 55296), (0, .integer 56320), (0, .integer 57344), (3, u "(C)Z"), (9, u "(I)C"), (18, .integer 55232), (3, u "(I)Z"), (20, u "lowSurrogate"), (2, u "highSurrogate"), (145, u "$assertionsDisabled"), (0, u "Z"), (21, .class_ 309), (1, u "java/lang/Character$UnicodeBlock"), (73, u "TYPE"), (0, u "Ljava/lang/Class;"), (0, .class_ 386), (0, u "java/io/Serializable"), (0, .class_ 388), (0, u "java/lang/Comparable"), (0, .class_ 390), (0, u "java/lang/constant/Constable"), (0, u "MIN_RADIX"), (0, u "I"), (2, u "MAX_RADIX"), (1, u "MIN_VALUE"), (1, u "MAX_VALUE"), (3, u "UNASSIGNED"), (0, u "B"), (0, u "UPPERCASE_LETTER"), (1, u "LOWERCASE_LETTER"), (0, u "TITLECASE_LETTER"), (1, u "MODIFIER_LETTER"), (1, u "OTHER_LETTER"), (1, u "NON_SPACING_MARK"), (1, u "ENCLOSING_MARK"), (1, u "COMBINING_SPACING_MARK"), (1, u "DECIMAL_DIGIT_NUMBER"), (1, u "LETTER_NUMBER"), (1, u "OTHER_NUMBER"), (1, u "SPACE_SEPARATOR"), (1, u "LINE_SEPARATOR"), (1, u "PARAGRAPH_SEPARATOR"), (1, u "CONTROL"), (1, u "FORMAT"), (1, u "PRIVATE_USE"), (1, u "SURROGATE"), (1, u "DASH_PUNCTUATION"), (1, u "START_PUNCTUATION"), (1, u "END_PUNCTUATION"), (1, u "CONNECTOR_PUNCTUATION"), (1, u "OTHER_PUNCTUATION"), (1, u "MATH_SYMBOL"), (1, u "CURRENCY_SYMBOL"), (1, u "MODIFIER_SYMBOL"), (1, u "OTHER_SYMBOL"), (1, u "INITIAL_QUOTE_PUNCTUATION"), (1, u "FINAL_QUOTE_PUNCTUATION"), (1, u "ERROR"), (1, u "DIRECTIONALITY_UNDEFINED"), (0, u "DIRECTIONALITY_LEFT_TO_RIGHT"), (0, u "DIRECTIONALITY_RIGHT_TO_LEFT"), (0, u "DIRECTIONALITY_RIGHT_TO_LEFT_ARABIC"), (0, u "DIRECTIONALITY_EUROPEAN_NUMBER"), (0, u "DIRECTIONALITY_EUROPEAN_NUMBER_SEPARATOR"), (0, u "DIRECTIONALITY_EUROPEAN_NUMBER_TERMINATOR"), (0, u "DIRECTIONALITY_ARABIC_NUMBER"), (0, u "DIRECTIONALITY_COMMON_NUMBER_SEPARATOR"), (0, u "DIRECTIONALITY_NONSPACING_MARK"), (0, u "DIRECTIONALITY_BOUNDARY_NEUTRAL"), (0, u "DIRECTIONALITY_PARAGRAPH_SEPARATOR"), (0, u "DIRECTIONALITY_SEGMENT_SEPARATOR"), (0, u "DIRECTIONALITY_WHITESPACE"), (0, u "DIRECTIONALITY_OTHER_NEUTRALS"), (0, u "DIRECTIONALITY_LEFT_TO_RIGHT_EMBEDDING"), (0, u "DIRECTIONALITY_LEFT_TO_RIGHT_OVERRIDE"), (0, u "DIRECTIONALITY_RIGHT_TO_LEFT_EMBEDDING"), (0, u "DIRECTIONALITY_RIGHT_TO_LEFT_OVERRIDE"), (1, u "DIRECTIONALITY_POP_DIRECTIONAL_FORMAT"), (0, u "DIRECTIONALITY_LEFT_TO_RIGHT_ISOLATE"), (0, u "DIRECTIONALITY_RIGHT_TO_LEFT_ISOLATE"), (0, u "DIRECTIONALITY_FIRST_STRONG_ISOLATE"), (0, u "DIRECTIONALITY_POP_DIRECTIONAL_ISOLATE"), (0, u "MIN_HIGH_SURROGATE"), (0, u "MAX_HIGH_SURROGATE"), (1, u "MIN_LOW_SURROGATE"), (0, u "MAX_LOW_SURROGATE"), (1, u "MIN_SURROGATE"), (0, u "MAX_SURROGATE"), (0, u "MIN_SUPPLEMENTARY_CODE_POINT"), (0, u "MIN_CODE_POINT"), (0, u "MAX_CODE_POINT"), (1, u "serialVersionUID"), (0, u "J"), (2, u "SIZE"), (0, u "BYTES"), (22, u "isSupplementaryCodePoint"), (1, u "isSurrogate"), (63, .class_ 596), (0, u "java/lang/Character$UnicodeScript"), (0, .class_ 598), (0, u "java/lang/Character$Subset")] 5

def k21c0 : Code := { maxStack := 2, maxLocals := 1, code := jdk_89_method_13_code, exceptionTable := #[], attributes := #[] }
def k21m0 : Method := { name := "isSupplementaryCodePoint", desc := "(I)Z", sig := { parameters := [.int], returnType := some .boolean }, accessFlags := 9, code := some k21c0 }
def k21c1 : Code := { maxStack := 2, maxLocals := 1, code := jdk_89_method_16_code, exceptionTable := #[], attributes := #[] }
def k21m1 : Method := { name := "isSurrogate", desc := "(C)Z", sig := { parameters := [.char], returnType := some .boolean }, accessFlags := 9, code := some k21c1 }
def k21c2 : Code := { maxStack := 2, maxLocals := 1, code := jdk_89_method_28_code, exceptionTable := #[], attributes := #[] }
def k21m2 : Method := { name := "highSurrogate", desc := "(I)C", sig := { parameters := [.int], returnType := some .char }, accessFlags := 9, code := some k21c2 }
def k21c3 : Code := { maxStack := 2, maxLocals := 1, code := jdk_89_method_29_code, exceptionTable := #[], attributes := #[] }
def k21m3 : Method := { name := "lowSurrogate", desc := "(I)C", sig := { parameters := [.int], returnType := some .char }, accessFlags := 9, code := some k21c3 }
/-- java/lang/Character -/
def k21 : Class := { plain "java/lang/Character" (some 0) with
  accessFlags := 49
  interfaces := #[3, 4, 6]
  cf := some (fileOf pool21 1 #[.nestMembers #[48, 595, 307, 597]] #[{ accessFlags := 9, nameIndex := 529, descriptorIndex := 114, attributes := #[] }, { accessFlags := 9, nameIndex := 531, descriptorIndex := 81, attributes := #[] }, { accessFlags := 9, nameIndex := 138, descriptorIndex := 91, attributes := #[] }, { accessFlags := 9, nameIndex := 135, descriptorIndex := 91, attributes := #[] }] 49 42 #[385, 387, 389] #[{ accessFlags := 25, nameIndex := 391, descriptorIndex := 392, attributes := #[] }, { accessFlags := 25, nameIndex := 395, descriptorIndex := 392, attributes := #[] }, { accessFlags := 25, nameIndex := 397, descriptorIndex := 22, attributes := #[] }, { accessFlags := 25, nameIndex := 399, descriptorIndex := 22, attributes := #[] }, { accessFlags := 25, nameIndex := 383, descriptorIndex := 384, attributes := #[] }, { accessFlags := 25, nameIndex := 403, descriptorIndex := 404, attributes := #[] }, { accessFlags := 25, nameIndex := 405, descriptorIndex := 404, attributes := #[] }, { accessFlags := 25, nameIndex := 407, descriptorIndex := 404, attributes := #[] }, { accessFlags := 25, nameIndex := 408, descriptorIndex := 404, attributes := #[] }, { accessFlags := 25, nameIndex := 410, descriptorIndex := 404, attributes := #[] }, { accessFlags := 25, nameIndex := 412, descriptorIndex := 404, attributes := #[] }, { accessFlags := 25, nameIndex := 414, descriptorIndex := 404, attributes := #[] }, { accessFlags := 25, nameIndex := 416, descriptorIndex := 404, attributes := #[] }, { accessFlags := 25, nameIndex := 418, descriptorIndex := 404, attributes := #[] }, { accessFlags := 25, nameIndex := 420, descriptorIndex := 404, attributes := #[] }, { accessFlags := 25, nameIndex := 422, descriptorIndex := 404, attributes := #[] }, { accessFlags := 25, nameIndex := 424, descriptorIndex := 404, attributes := #[] }, { accessFlags := 25, nameIndex := 426, descriptorIndex := 404, attributes := #[] }, { accessFlags := 25, nameIndex := 428, descriptorIndex := 404, attributes := #[] }, { accessFlags := 25, nameIndex := 430, descriptorIndex := 404, attributes := #[] }, { accessFlags := 25, nameIndex := 432, descriptorIndex := 404, attributes := #[] }, { accessFlags := 25, nameIndex := 434, descriptorIndex := 404, attributes := #[] }, { accessFlags := 25, nameIndex := 436, descriptorIndex := 404, attributes := #[] }, { accessFlags := 25, nameIndex := 438, descriptorIndex := 404, attributes := #[] }, { accessFlags := 25, nameIndex := 440, descriptorIndex := 404, attributes := #[] }, { accessFlags := 25, nameIndex := 442, descriptorIndex := 404, attributes := #[] }, { accessFlags := 25, nameIndex := 444, descriptorIndex := 404, attributes := #[] }, { accessFlags := 25, nameIndex := 446, descriptorIndex := 404, attributes := #[] }, { accessFlags := 25, nameIndex := 448, descriptorIndex := 404, attributes := #[] }, { accessFlags := 25, nameIndex := 450, descriptorIndex := 404, attributes := #[] }, { accessFlags := 25, nameIndex := 452, descriptorIndex := 404, attributes := #[] }, { accessFlags := 25, nameIndex := 454, descriptorIndex := 404, attributes := #[] }, { accessFlags := 25, nameIndex := 456, descriptorIndex := 404, attributes := #[] }, { accessFlags := 25, nameIndex := 458, descriptorIndex := 404, attributes := #[] }, { accessFlags := 25, nameIndex := 460, descriptorIndex := 404, attributes := #[] }, { accessFlags := 24, nameIndex := 462, descriptorIndex := 392, attributes := #[] }, { accessFlags := 25, nameIndex := 464, descriptorIndex := 404, attributes := #[] }, { accessFlags := 25, nameIndex := 465, descriptorIndex := 404, attributes := #[] }, { accessFlags := 25, nameIndex := 466, descriptorIndex := 404, attributes := #[] }, { accessFlags := 25, nameIndex := 467, descriptorIndex := 404, attributes := #[] }, { accessFlags := 25, nameIndex := 468, descriptorIndex := 404, attributes := #[] }, { accessFlags := 25, nameIndex := 469, descriptorIndex := 404, attributes := #[] }, { accessFlags := 25, nameIndex := 470, descriptorIndex := 404, attributes := #[] }, { accessFlags := 25, nameIndex := 471, descriptorIndex := 404, attributes := #[] }, { accessFlags := 25, nameIndex := 472, descriptorIndex := 404, attributes := #[] }, { accessFlags := 25, nameIndex := 473, descriptorIndex := 404, attributes := #[] }, { accessFlags := 25, nameIndex := 474, descriptorIndex := 404, attributes := #[] }, { accessFlags := 25, nameIndex := 475, descriptorIndex := 404, attributes := #[] }, { accessFlags := 25, nameIndex := 476, descriptorIndex := 404, attributes := #[] }, { accessFlags := 25, nameIndex := 477, descriptorIndex := 404, attributes := #[] }, { accessFlags := 25, nameIndex := 478, descriptorIndex := 404, attributes := #[] }, { accessFlags := 25, nameIndex := 479, descriptorIndex := 404, attributes := #[] }, { accessFlags := 25, nameIndex := 480, descriptorIndex := 404, attributes := #[] }, { accessFlags := 25, nameIndex := 481, descriptorIndex := 404, attributes := #[] }, { accessFlags := 25, nameIndex := 482, descriptorIndex := 404, attributes := #[] }, { accessFlags := 25, nameIndex := 484, descriptorIndex := 404, attributes := #[] }, { accessFlags := 25, nameIndex := 485, descriptorIndex := 404, attributes := #[] }, { accessFlags := 25, nameIndex := 486, descriptorIndex := 404, attributes := #[] }, { accessFlags := 25, nameIndex := 487, descriptorIndex := 404, attributes := #[] }, { accessFlags := 25, nameIndex := 488, descriptorIndex := 404, attributes := #[] }, { accessFlags := 25, nameIndex := 489, descriptorIndex := 22, attributes := #[] }, { accessFlags := 25, nameIndex := 490, descriptorIndex := 22, attributes := #[] }, { accessFlags := 25, nameIndex := 492, descriptorIndex := 22, attributes := #[] }, { accessFlags := 25, nameIndex := 493, descriptorIndex := 22, attributes := #[] }, { accessFlags := 25, nameIndex := 495, descriptorIndex := 22, attributes := #[] }, { accessFlags := 25, nameIndex := 496, descriptorIndex := 22, attributes := #[] }, { accessFlags := 25, nameIndex := 497, descriptorIndex := 392, attributes := #[] }, { accessFlags := 25, nameIndex := 498, descriptorIndex := 392, attributes := #[] }, { accessFlags := 25, nameIndex := 499, descriptorIndex := 392, attributes := #[] }, { accessFlags := 18, nameIndex := 21, descriptorIndex := 22, attributes := #[] }, { accessFlags := 26, nameIndex := 501, descriptorIndex := 502, attributes := #[] }, { accessFlags := 25, nameIndex := 505, descriptorIndex := 392, attributes := #[] }, { accessFlags := 25, nameIndex := 506, descriptorIndex := 392, attributes := #[] }, { accessFlags := 4120, nameIndex := 284, descriptorIndex := 285, attributes := #[] }])
  fields := #[{ name := "MIN_RADIX", type := .int, accessFlags := 25, slot := 0, constantValue := 0 }, { name := "MAX_RADIX", type := .int, accessFlags := 25, slot := 1, constantValue := 0 }, { name := "MIN_VALUE", type := .char, accessFlags := 25, slot := 2, constantValue := 0 }, { name := "MAX_VALUE", type := .char, accessFlags := 25, slot := 3, constantValue := 0 }, { name := "TYPE", type := (.object "java/lang/Class"), accessFlags := 25, slot := 4, constantValue := 0 }, { name := "UNASSIGNED", type := .byte, accessFlags := 25, slot := 5, constantValue := 0 }, { name := "UPPERCASE_LETTER", type := .byte, accessFlags := 25, slot := 6, constantValue := 0 }, { name := "LOWERCASE_LETTER", type := .byte, accessFlags := 25, slot := 7, constantValue := 0 }, { name := "TITLECASE_LETTER", type := .byte, accessFlags := 25, slot := 8, constantValue := 0 }, { name := "MODIFIER_LETTER", type := .byte, accessFlags := 25, slot := 9, constantValue := 0 }, { name := "OTHER_LETTER", type := .byte, accessFlags := 25, slot := 10, constantValue := 0 }, { name := "NON_SPACING_MARK", type := .byte, accessFlags := 25, slot := 11, constantValue := 0 }, { name := "ENCLOSING_MARK", type := .byte, accessFlags := 25, slot := 12, constantValue := 0 }, { name := "COMBINING_SPACING_MARK", type := .byte, accessFlags := 25, slot := 13, constantValue := 0 }, { name := "DECIMAL_DIGIT_NUMBER", type := .byte, accessFlags := 25, slot := 14, constantValue := 0 }, { name := "LETTER_NUMBER", type := .byte, accessFlags := 25, slot := 15, constantValue := 0 }, { name := "OTHER_NUMBER", type := .byte, accessFlags := 25, slot := 16, constantValue := 0 }, { name := "SPACE_SEPARATOR", type := .byte, accessFlags := 25, slot := 17, constantValue := 0 }, { name := "LINE_SEPARATOR", type := .byte, accessFlags := 25, slot := 18, constantValue := 0 }, { name := "PARAGRAPH_SEPARATOR", type := .byte, accessFlags := 25, slot := 19, constantValue := 0 }, { name := "CONTROL", type := .byte, accessFlags := 25, slot := 20, constantValue := 0 }, { name := "FORMAT", type := .byte, accessFlags := 25, slot := 21, constantValue := 0 }, { name := "PRIVATE_USE", type := .byte, accessFlags := 25, slot := 22, constantValue := 0 }, { name := "SURROGATE", type := .byte, accessFlags := 25, slot := 23, constantValue := 0 }, { name := "DASH_PUNCTUATION", type := .byte, accessFlags := 25, slot := 24, constantValue := 0 }, { name := "START_PUNCTUATION", type := .byte, accessFlags := 25, slot := 25, constantValue := 0 }, { name := "END_PUNCTUATION", type := .byte, accessFlags := 25, slot := 26, constantValue := 0 }, { name := "CONNECTOR_PUNCTUATION", type := .byte, accessFlags := 25, slot := 27, constantValue := 0 }, { name := "OTHER_PUNCTUATION", type := .byte, accessFlags := 25, slot := 28, constantValue := 0 }, { name := "MATH_SYMBOL", type := .byte, accessFlags := 25, slot := 29, constantValue := 0 }, { name := "CURRENCY_SYMBOL", type := .byte, accessFlags := 25, slot := 30, constantValue := 0 }, { name := "MODIFIER_SYMBOL", type := .byte, accessFlags := 25, slot := 31, constantValue := 0 }, { name := "OTHER_SYMBOL", type := .byte, accessFlags := 25, slot := 32, constantValue := 0 }, { name := "INITIAL_QUOTE_PUNCTUATION", type := .byte, accessFlags := 25, slot := 33, constantValue := 0 }, { name := "FINAL_QUOTE_PUNCTUATION", type := .byte, accessFlags := 25, slot := 34, constantValue := 0 }, { name := "ERROR", type := .int, accessFlags := 24, slot := 35, constantValue := 0 }, { name := "DIRECTIONALITY_UNDEFINED", type := .byte, accessFlags := 25, slot := 36, constantValue := 0 }, { name := "DIRECTIONALITY_LEFT_TO_RIGHT", type := .byte, accessFlags := 25, slot := 37, constantValue := 0 }, { name := "DIRECTIONALITY_RIGHT_TO_LEFT", type := .byte, accessFlags := 25, slot := 38, constantValue := 0 }, { name := "DIRECTIONALITY_RIGHT_TO_LEFT_ARABIC", type := .byte, accessFlags := 25, slot := 39, constantValue := 0 }, { name := "DIRECTIONALITY_EUROPEAN_NUMBER", type := .byte, accessFlags := 25, slot := 40, constantValue := 0 }, { name := "DIRECTIONALITY_EUROPEAN_NUMBER_SEPARATOR", type := .byte, accessFlags := 25, slot := 41, constantValue := 0 }, { name := "DIRECTIONALITY_EUROPEAN_NUMBER_TERMINATOR", type := .byte, accessFlags := 25, slot := 42, constantValue := 0 }, { name := "DIRECTIONALITY_ARABIC_NUMBER", type := .byte, accessFlags := 25, slot := 43, constantValue := 0 }, { name := "DIRECTIONALITY_COMMON_NUMBER_SEPARATOR", type := .byte, accessFlags := 25, slot := 44, constantValue := 0 }, { name := "DIRECTIONALITY_NONSPACING_MARK", type := .byte, accessFlags := 25, slot := 45, constantValue := 0 }, { name := "DIRECTIONALITY_BOUNDARY_NEUTRAL", type := .byte, accessFlags := 25, slot := 46, constantValue := 0 }, { name := "DIRECTIONALITY_PARAGRAPH_SEPARATOR", type := .byte, accessFlags := 25, slot := 47, constantValue := 0 }, { name := "DIRECTIONALITY_SEGMENT_SEPARATOR", type := .byte, accessFlags := 25, slot := 48, constantValue := 0 }, { name := "DIRECTIONALITY_WHITESPACE", type := .byte, accessFlags := 25, slot := 49, constantValue := 0 }, { name := "DIRECTIONALITY_OTHER_NEUTRALS", type := .byte, accessFlags := 25, slot := 50, constantValue := 0 }, { name := "DIRECTIONALITY_LEFT_TO_RIGHT_EMBEDDING", type := .byte, accessFlags := 25, slot := 51, constantValue := 0 }, { name := "DIRECTIONALITY_LEFT_TO_RIGHT_OVERRIDE", type := .byte, accessFlags := 25, slot := 52, constantValue := 0 }, { name := "DIRECTIONALITY_RIGHT_TO_LEFT_EMBEDDING", type := .byte, accessFlags := 25, slot := 53, constantValue := 0 }, { name := "DIRECTIONALITY_RIGHT_TO_LEFT_OVERRIDE", type := .byte, accessFlags := 25, slot := 54, constantValue := 0 }, { name := "DIRECTIONALITY_POP_DIRECTIONAL_FORMAT", type := .byte, accessFlags := 25, slot := 55, constantValue := 0 }, { name := "DIRECTIONALITY_LEFT_TO_RIGHT_ISOLATE", type := .byte, accessFlags := 25, slot := 56, constantValue := 0 }, { name := "DIRECTIONALITY_RIGHT_TO_LEFT_ISOLATE", type := .byte, accessFlags := 25, slot := 57, constantValue := 0 }, { name := "DIRECTIONALITY_FIRST_STRONG_ISOLATE", type := .byte, accessFlags := 25, slot := 58, constantValue := 0 }, { name := "DIRECTIONALITY_POP_DIRECTIONAL_ISOLATE", type := .byte, accessFlags := 25, slot := 59, constantValue := 0 }, { name := "MIN_HIGH_SURROGATE", type := .char, accessFlags := 25, slot := 60, constantValue := 0 }, { name := "MAX_HIGH_SURROGATE", type := .char, accessFlags := 25, slot := 61, constantValue := 0 }, { name := "MIN_LOW_SURROGATE", type := .char, accessFlags := 25, slot := 62, constantValue := 0 }, { name := "MAX_LOW_SURROGATE", type := .char, accessFlags := 25, slot := 63, constantValue := 0 }, { name := "MIN_SURROGATE", type := .char, accessFlags := 25, slot := 64, constantValue := 0 }, { name := "MAX_SURROGATE", type := .char, accessFlags := 25, slot := 65, constantValue := 0 }, { name := "MIN_SUPPLEMENTARY_CODE_POINT", type := .int, accessFlags := 25, slot := 66, constantValue := 0 }, { name := "MIN_CODE_POINT", type := .int, accessFlags := 25, slot := 67, constantValue := 0 }, { name := "MAX_CODE_POINT", type := .int, accessFlags := 25, slot := 68, constantValue := 0 }, { name := "value", type := .char, accessFlags := 18, slot := 0, constantValue := 0 }, { name := "serialVersionUID", type := .long, accessFlags := 26, slot := 69, constantValue := 0 }, { name := "SIZE", type := .int, accessFlags := 25, slot := 70, constantValue := 0 }, { name := "BYTES", type := .int, accessFlags := 25, slot := 71, constantValue := 0 }, { name := "$assertionsDisabled", type := .boolean, accessFlags := 4120, slot := 72, constantValue := 0 }]
  methods := #[k21m0, k21m1, k21m2, k21m3]
  instanceTypes := #[.char]
  staticTypes := #[.int, .int, .char, .char, (.object "java/lang/Class"), .byte, .byte, .byte, .byte, .byte, .byte, .byte, .byte, .byte, .byte, .byte, .byte, .byte, .byte, .byte, .byte, .byte, .byte, .byte, .byte, .byte, .byte, .byte, .byte, .byte, .byte, .byte, .byte, .byte, .byte, .int, .byte, .byte, .byte, .byte, .byte, .byte, .byte, .byte, .byte, .byte, .byte, .byte, .byte, .byte, .byte, .byte, .byte, .byte, .byte, .byte, .byte, .byte, .byte, .byte, .char, .char, .char, .char, .char, .char, .int, .int, .int, .long, .int, .int, .boolean]
  resolved := Array.replicate 604 none
  statics := none }

def pool22 : Array CpInfo := pool [(1, .class_ 2), (0, u "java/lang/Math"), (1, .class_ 6), (1, u "java/lang/Object"), (0, u "<init>"), (0, u "()V"), (89, .class_ 100), (1, u "java/lang/Math$RandomNumberGeneratorHolder"), (71, u "negativeZeroFloatBits"), (0, u "J"), (2, u "negativeZeroDoubleBits"), (24, u "min"), (43, u "$assertionsDisabled"), (0, u "Z"), (88, u "(II)I"), (2, u "twoToTheDoubleScaleDown"), (0, u "D"), (4, u "twoToTheDoubleScaleUp"), (9, u "E"), (3, u "PI"), (2, u "TAU"), (2, u "DEGREES_TO_RADIANS"), (0, u "RADIANS_TO_DEGREES")] 94

def k22m0 : Method := { name := "<init>", desc := "()V", sig := { parameters := [], returnType := none }, accessFlags := 2, code := none }
def k22c1 : Code := { maxStack := 2, maxLocals := 2, code := jdk_29_method_69_code, exceptionTable := #[], attributes := #[] }
def k22m1 : Method := { name := "min", desc := "(II)I", sig := { parameters := [.int, .int], returnType := some .int }, accessFlags := 9, code := some k22c1 }
/-- java/lang/Math -/
def k22 : Class := { plain "java/lang/Math" (some 0) with
  accessFlags := 49
  interfaces := #[]
  cf := some (fileOf pool22 1 #[.nestMembers #[98]] #[{ accessFlags := 2, nameIndex := 7, descriptorIndex := 8, attributes := #[] }, { accessFlags := 9, nameIndex := 201, descriptorIndex := 335, attributes := #[] }] 49 4 #[] #[{ accessFlags := 25, nameIndex := 354, descriptorIndex := 339, attributes := #[] }, { accessFlags := 25, nameIndex := 358, descriptorIndex := 339, attributes := #[] }, { accessFlags := 25, nameIndex := 361, descriptorIndex := 339, attributes := #[] }, { accessFlags := 26, nameIndex := 364, descriptorIndex := 339, attributes := #[] }, { accessFlags := 26, nameIndex := 365, descriptorIndex := 339, attributes := #[] }, { accessFlags := 26, nameIndex := 172, descriptorIndex := 173, attributes := #[] }, { accessFlags := 26, nameIndex := 176, descriptorIndex := 173, attributes := #[] }, { accessFlags := 8, nameIndex := 344, descriptorIndex := 339, attributes := #[] }, { accessFlags := 8, nameIndex := 338, descriptorIndex := 339, attributes := #[] }, { accessFlags := 4120, nameIndex := 245, descriptorIndex := 246, attributes := #[] }])
  fields := #[{ name := "E", type := .double, accessFlags := 25, slot := 0, constantValue := 0 }, { name := "PI", type := .double, accessFlags := 25, slot := 1, constantValue := 0 }, { name := "TAU", type := .double, accessFlags := 25, slot := 2, constantValue := 0 }, { name := "DEGREES_TO_RADIANS", type := .double, accessFlags := 26, slot := 3, constantValue := 0 }, { name := "RADIANS_TO_DEGREES", type := .double, accessFlags := 26, slot := 4, constantValue := 0 }, { name := "negativeZeroFloatBits", type := .long, accessFlags := 26, slot := 5, constantValue := 0 }, { name := "negativeZeroDoubleBits", type := .long, accessFlags := 26, slot := 6, constantValue := 0 }, { name := "twoToTheDoubleScaleUp", type := .double, accessFlags := 8, slot := 7, constantValue := 0 }, { name := "twoToTheDoubleScaleDown", type := .double, accessFlags := 8, slot := 8, constantValue := 0 }, { name := "$assertionsDisabled", type := .boolean, accessFlags := 4120, slot := 9, constantValue := 0 }]
  methods := #[k22m0, k22m1]
  instanceTypes := #[]
  staticTypes := #[.double, .double, .double, .double, .double, .long, .long, .double, .double, .boolean]
  resolved := Array.replicate 460 none
  statics := none }

def pool23 : Array CpInfo := pool [(2, .class_ 4), (1, u "java/lang/Object"), (0, u "<init>"), (0, u "()V"), (1, .class_ 10), (1, u "java/lang/System"), (0, u "allowSecurityManager"), (0, u "I"), (16, u "cons"), (0, u "Ljava/io/Console;"), (77, .class_ 110), (1, u "java/lang/System$CallersHolder"), (43, u "initialErrStream"), (0, u "Ljava/io/PrintStream;"), (19, u "security"), (0, u "Ljava/lang/SecurityManager;"), (31, .class_ 209), (0, u "java/lang/System$1"), (7, u "props"), (0, u "Ljava/util/Properties;"), (2, u "lineSeparator"), (0, u "Ljava/lang/String;"), (96, .class_ 321), (1, u "java/lang/System$LoggerFinder"), (5, .class_ 328), (0, u "java/lang/System$Logger"), (67, u "err"), (2, u "out"), (91, u "notSupportedJnuEncoding"), (15, u "in"), (17, u "initialIn"), (0, u "Ljava/io/InputStream;"), (35, u "bootLayer"), (0, u "Ljava/lang/ModuleLayer;"), (99, .class_ 664), (0, u "java/lang/System$2"), (9, u "NEVER"), (2, u "MAYBE"), (49, u "arraycopy"), (0, u "(Ljava/lang/Object;ILjava/lang/Object;II)V"), (72, .class_ 802), (0, u "java/lang/System$Logger$Level")] 31

def k23m0 : Method := { name := "<init>", desc := "()V", sig := { parameters := [], returnType := none }, accessFlags := 2, code := none }
def k23m1 : Method := { name := "arraycopy", desc := "(Ljava/lang/Object;ILjava/lang/Object;II)V", sig := { parameters := [(.object "java/lang/Object"), .int, (.object "java/lang/Object"), .int, .int], returnType := none }, accessFlags := 265, code := none }
/-- java/lang/System -/
def k23 : Class := { plain "java/lang/System" (some 0) with
  accessFlags := 49
  interfaces := #[]
  cf := some (fileOf pool23 8 #[.nestMembers #[319, 327, 801, 108, 663, 208]] #[{ accessFlags := 2, nameIndex := 5, descriptorIndex := 6, attributes := #[] }, { accessFlags := 265, nameIndex := 727, descriptorIndex := 728, attributes := #[] }] 49 2 #[] #[{ accessFlags := 25, nameIndex := 507, descriptorIndex := 526, attributes := #[] }, { accessFlags := 25, nameIndex := 399, descriptorIndex := 155, attributes := #[] }, { accessFlags := 25, nameIndex := 396, descriptorIndex := 155, attributes := #[] }, { accessFlags := 10, nameIndex := 525, descriptorIndex := 526, attributes := #[] }, { accessFlags := 26, nameIndex := 674, descriptorIndex := 12, attributes := #[] }, { accessFlags := 26, nameIndex := 677, descriptorIndex := 12, attributes := #[] }, { accessFlags := 10, nameIndex := 11, descriptorIndex := 12, attributes := #[] }, { accessFlags := 74, nameIndex := 175, descriptorIndex := 176, attributes := #[] }, { accessFlags := 10, nameIndex := 491, descriptorIndex := 222, attributes := #[] }, { accessFlags := 74, nameIndex := 29, descriptorIndex := 30, attributes := #[] }, { accessFlags := 74, nameIndex := 154, descriptorIndex := 155, attributes := #[] }, { accessFlags := 10, nameIndex := 217, descriptorIndex := 218, attributes := #[] }, { accessFlags := 10, nameIndex := 221, descriptorIndex := 222, attributes := #[] }, { accessFlags := 8, nameIndex := 562, descriptorIndex := 563, attributes := #[] }])
  fields := #[{ name := "in", type := (.object "java/io/InputStream"), accessFlags := 25, slot := 0, constantValue := 0 }, { name := "out", type := (.object "java/io/PrintStream"), accessFlags := 25, slot := 1, constantValue := 0 }, { name := "err", type := (.object "java/io/PrintStream"), accessFlags := 25, slot := 2, constantValue := 0 }, { name := "initialIn", type := (.object "java/io/InputStream"), accessFlags := 10, slot := 3, constantValue := 0 }, { name := "NEVER", type := .int, accessFlags := 26, slot := 4, constantValue := 0 }, { name := "MAYBE", type := .int, accessFlags := 26, slot := 5, constantValue := 0 }, { name := "allowSecurityManager", type := .int, accessFlags := 10, slot := 6, constantValue := 0 }, { name := "security", type := (.object "java/lang/SecurityManager"), accessFlags := 74, slot := 7, constantValue := 0 }, { name := "notSupportedJnuEncoding", type := (.object "java/lang/String"), accessFlags := 10, slot := 8, constantValue := 0 }, { name := "cons", type := (.object "java/io/Console"), accessFlags := 74, slot := 9, constantValue := 0 }, { name := "initialErrStream", type := (.object "java/io/PrintStream"), accessFlags := 74, slot := 10, constantValue := 0 }, { name := "props", type := (.object "java/util/Properties"), accessFlags := 10, slot := 11, constantValue := 0 }, { name := "lineSeparator", type := (.object "java/lang/String"), accessFlags := 10, slot := 12, constantValue := 0 }, { name := "bootLayer", type := (.object "java/lang/ModuleLayer"), accessFlags := 8, slot := 13, constantValue := 0 }]
  methods := #[k23m0, k23m1]
  instanceTypes := #[]
  staticTypes := #[(.object "java/io/InputStream"), (.object "java/io/PrintStream"), (.object "java/io/PrintStream"), (.object "java/io/InputStream"), .int, .int, .int, (.object "java/lang/SecurityManager"), (.object "java/lang/String"), (.object "java/io/Console"), (.object "java/io/PrintStream"), (.object "java/util/Properties"), (.object "java/lang/String"), (.object "java/lang/ModuleLayer")]
  resolved := Array.replicate 834 none
  statics := none }

def pool24 : Array CpInfo := pool [(9, u "<init>"), (6, .class_ 18), (1, u "java/lang/Object"), (0, u "()V"), (1, .class_ 23), (1, u "jdk/internal/util/ArraysSupport"), (0, u "LOG2_ARRAY_LONG_INDEX_SCALE"), (0, u "I"), (2, u "U"), (0, u "Ljdk/internal/misc/Unsafe;"), (8, u "BIG_ENDIAN"), (0, u "Z"), (8, u "LOG2_BYTE_BIT_SIZE"), (4, u "LOG2_ARRAY_INT_INDEX_SCALE"), (54, u "JLA"), (0, u "Ljdk/internal/access/JavaLangAccess;"), (11, u "LOG2_ARRAY_BOOLEAN_INDEX_SCALE"), (9, u "LOG2_ARRAY_BYTE_INDEX_SCALE"), (5, u "LOG2_ARRAY_CHAR_INDEX_SCALE"), (5, u "LOG2_ARRAY_SHORT_INDEX_SCALE"), (18, u "LOG2_ARRAY_FLOAT_INDEX_SCALE"), (24, u "LOG2_ARRAY_DOUBLE_INDEX_SCALE"), (89, u "T_BOOLEAN"), (2, u "T_CHAR"), (1, u "T_FLOAT"), (1, u "T_DOUBLE"), (1, u "T_BYTE"), (1, u "T_SHORT"), (1, u "T_INT"), (1, u "T_LONG"), (1, u "SOFT_MAX_ARRAY_LENGTH")] 83

def k24m0 : Method := { name := "<init>", desc := "()V", sig := { parameters := [], returnType := none }, accessFlags := 2, code := none }
/-- jdk/internal/util/ArraysSupport -/
def k24 : Class := { plain "jdk/internal/util/ArraysSupport" (some 0) with
  accessFlags := 33
  interfaces := #[]
  cf := some (fileOf pool24 21 #[] #[{ accessFlags := 2, nameIndex := 9, descriptorIndex := 19, attributes := #[] }] 33 16 #[] #[{ accessFlags := 24, nameIndex := 28, descriptorIndex := 29, attributes := #[] }, { accessFlags := 26, nameIndex := 38, descriptorIndex := 39, attributes := #[] }, { accessFlags := 25, nameIndex := 121, descriptorIndex := 25, attributes := #[] }, { accessFlags := 25, nameIndex := 131, descriptorIndex := 25, attributes := #[] }, { accessFlags := 25, nameIndex := 137, descriptorIndex := 25, attributes := #[] }, { accessFlags := 25, nameIndex := 143, descriptorIndex := 25, attributes := #[] }, { accessFlags := 25, nameIndex := 53, descriptorIndex := 25, attributes := #[] }, { accessFlags := 25, nameIndex := 24, descriptorIndex := 25, attributes := #[] }, { accessFlags := 25, nameIndex := 162, descriptorIndex := 25, attributes := #[] }, { accessFlags := 25, nameIndex := 187, descriptorIndex := 25, attributes := #[] }, { accessFlags := 26, nameIndex := 48, descriptorIndex := 25, attributes := #[] }, { accessFlags := 25, nameIndex := 277, descriptorIndex := 25, attributes := #[] }, { accessFlags := 25, nameIndex := 280, descriptorIndex := 25, attributes := #[] }, { accessFlags := 25, nameIndex := 282, descriptorIndex := 25, attributes := #[] }, { accessFlags := 25, nameIndex := 284, descriptorIndex := 25, attributes := #[] }, { accessFlags := 25, nameIndex := 286, descriptorIndex := 25, attributes := #[] }, { accessFlags := 25, nameIndex := 288, descriptorIndex := 25, attributes := #[] }, { accessFlags := 25, nameIndex := 290, descriptorIndex := 25, attributes := #[] }, { accessFlags := 25, nameIndex := 292, descriptorIndex := 25, attributes := #[] }, { accessFlags := 26, nameIndex := 108, descriptorIndex := 109, attributes := #[] }, { accessFlags := 25, nameIndex := 294, descriptorIndex := 25, attributes := #[] }])
  fields := #[{ name := "U", type := (.object "jdk/internal/misc/Unsafe"), accessFlags := 24, slot := 0, constantValue := 0 }, { name := "BIG_ENDIAN", type := .boolean, accessFlags := 26, slot := 1, constantValue := 0 }, { name := "LOG2_ARRAY_BOOLEAN_INDEX_SCALE", type := .int, accessFlags := 25, slot := 2, constantValue := 0 }, { name := "LOG2_ARRAY_BYTE_INDEX_SCALE", type := .int, accessFlags := 25, slot := 3, constantValue := 0 }, { name := "LOG2_ARRAY_CHAR_INDEX_SCALE", type := .int, accessFlags := 25, slot := 4, constantValue := 0 }, { name := "LOG2_ARRAY_SHORT_INDEX_SCALE", type := .int, accessFlags := 25, slot := 5, constantValue := 0 }, { name := "LOG2_ARRAY_INT_INDEX_SCALE", type := .int, accessFlags := 25, slot := 6, constantValue := 0 }, { name := "LOG2_ARRAY_LONG_INDEX_SCALE", type := .int, accessFlags := 25, slot := 7, constantValue := 0 }, { name := "LOG2_ARRAY_FLOAT_INDEX_SCALE", type := .int, accessFlags := 25, slot := 8, constantValue := 0 }, { name := "LOG2_ARRAY_DOUBLE_INDEX_SCALE", type := .int, accessFlags := 25, slot := 9, constantValue := 0 }, { name := "LOG2_BYTE_BIT_SIZE", type := .int, accessFlags := 26, slot := 10, constantValue := 0 }, { name := "T_BOOLEAN", type := .int, accessFlags := 25, slot := 11, constantValue := 0 }, { name := "T_CHAR", type := .int, accessFlags := 25, slot := 12, constantValue := 0 }, { name := "T_FLOAT", type := .int, accessFlags := 25, slot := 13, constantValue := 0 }, { name := "T_DOUBLE", type := .int, accessFlags := 25, slot := 14, constantValue := 0 }, { name := "T_BYTE", type := .int, accessFlags := 25, slot := 15, constantValue := 0 }, { name := "T_SHORT", type := .int, accessFlags := 25, slot := 16, constantValue := 0 }, { name := "T_INT", type := .int, accessFlags := 25, slot := 17, constantValue := 0 }, { name := "T_LONG", type := .int, accessFlags := 25, slot := 18, constantValue := 0 }, { name := "JLA", type := (.object "jdk/internal/access/JavaLangAccess"), accessFlags := 26, slot := 19, constantValue := 0 }, { name := "SOFT_MAX_ARRAY_LENGTH", type := .int, accessFlags := 25, slot := 20, constantValue := 0 }]
  methods := #[k24m0]
  instanceTypes := #[]
  staticTypes := #[(.object "jdk/internal/misc/Unsafe"), .boolean, .int, .int, .int, .int, .int, .int, .int, .int, .int, .int, .int, .int, .int, .int, .int, .int, .int, (.object "jdk/internal/access/JavaLangAccess"), .int]
  resolved := Array.replicate 378 none
  statics := none }

/-- the primitive byte -/
def k25 : Class := { plain "byte" none with kind := .primitive 'B', accessFlags := 0x411 }
/-- [B -/
def k26 : Class := { plain "[B" (some 0) with kind := .array 25 .byte, interfaces := #[17, 3], accessFlags := 1041 }

/-- the primitive int -/
def k27 : Class := { plain "int" none with kind := .primitive 'I', accessFlags := 0x411 }
/-- [I -/
def k28 : Class := { plain "[I" (some 0) with kind := .array 27 .int, interfaces := #[17, 3], accessFlags := 1041 }

def heap : Heap := #[{ cls := 8, slots := #[.long 0, .int 1, .null, .int 0, .null, .int 0, .int 0], vm := .statics 8 },
  { cls := 9, slots := #[.null, .null, .ref 5, .null, .null, .null], vm := .statics 9 },
  { cls := 14, slots := #[.ref 5, .null], vm := .statics 14 },
  { cls := 19, slots := #[.null, .null, .null], vm := .statics 19 },
  { cls := 20, slots := #[.int 0, .int 8, .int 0, .int 1], vm := .statics 20 },
  { cls := 14, slots := #[.null, .null, .null], vm := .none }]
def classes : Array Class := #[k0, k1, k2, k3, k4, k5, k6, k7, k8, k9, k10, k11, k12, k13, k14, k15, k16, k17, k18, k19, k20, k21, k22, k23, k24, k25, k26, k27, k28]
def interned : List (Array UInt16 × Addr) := []
def slotsUsed : Nat := 25
def theMethod : MethodId := ⟨1, 1⟩
def args0 : Array Value := #[.int 5, .int 5]
def aboutOver (below : List Frame) : State where
  vm := { classes := classes, interned := interned.toArray }
  heap := heap
  slotsUsed := slotsUsed
  threads := #[{ frames := .invoking theMethod args0 :: below }]
def below0 : List Frame := [.native { method := ⟨0, 0⟩, args := #[] }]
def about1 : State := aboutOver below0
def p0 : Program := .bare "" "" ""
def e0 : Env := launch0.env 0 0 0
theorem w_frames : about1.frames = Frame.invoking theMethod args0 :: below0 := rfl
set_option maxRecDepth 65536 in
theorem w_args : argsFit about1.vm theMethod args0 = true := by decide +kernel
set_option maxRecDepth 65536 in
theorem w_heap : heapFits about1 = true := by decide +kernel
set_option maxRecDepth 65536 in
theorem w_runnable : about1.curStatus? = some .runnable := by decide +kernel
set_option maxRecDepth 65536 in
theorem w_alone : about1.alone = true := by decide +kernel
set_option maxRecDepth 65536 in
theorem w_named : about1.methodNamed? x = some theMethod := by decide +kernel
set_option maxRecDepth 65536 in
theorem w_hears : about1.hears theMethod below0 = true := by decide +kernel
set_option maxRecDepth 65536 in
theorem w_ripe : about1.ripe theMethod args0 below0 = true := by decide +kernel
theorem w_running : about1.status = .running := rfl
set_option maxRecDepth 65536 in
theorem w_room : about1.hasRoom e0.platform room_1 = true :=
  launch0.hasRoom_least _ room_1 (by decide +kernel) (by decide +kernel) (by decide +kernel) (by decide +kernel) (by decide +kernel) (by decide +kernel)
theorem allAtoms_all (ts : List Jvm.Cond) (a : Array Jvm.Value) (st : Jvm.State) : (allAtoms ts).before a st = ts.all (fun c => c.before a st) := by
  induction ts with
  | nil => rfl
  | cons c t ih =>
    show (Jvm.Cond.and c (allAtoms t)).before a st = _
    rw [Jvm.Cond.before_and, ih, List.all_cons]
def words1 : List Jvm.Cond := Jvm.Cond.code x code maxLocals ret :: tables_1
/-- a 'code' word, met by the world's own term for the bytes: nothing is compared byte by byte -/
theorem code_word {y : MethodName} {bytes : ByteArray} {mx : Nat} {rt : Option FieldType} {a : Array Value} {s : State} {m : MethodId} {meth : Method} {c : Code} (h1 : s.methodNamed? y = some m) (h2 : s.vm.method? m = some meth) (h3 : meth.code = some c) (h4 : c.code = bytes)
    (h5 : (c.maxLocals == mx && c.exceptionTable.isEmpty && decide (c.maxStack ≤ mostOperands) && decide (meth.sig.returnType = rt) && !meth.locks && decide (parseMethodDescriptor y.desc = some meth.sig)) = true) : (Jvm.Cond.code y bytes mx rt).before a s = true := by
  simp only [Bool.and_eq_true, beq_iff_eq, Bool.not_eq_true', decide_eq_true_eq] at h5
  obtain ⟨⟨⟨⟨⟨g1, g2⟩, g3⟩, g4⟩, g5⟩, g6⟩ := h5
  simp [Cond.before, Cond.holds, Cond.value, h1, h2, h3, h4, g1, g2, g3, g4, g5, g6]
theorem codeW_word {y : MethodName} {bytes : ByteArray} {mx : Nat} {rt : Option FieldType} {hs : List (Nat × Nat × Nat × Nat)} {a : Array Value} {s : State} {m : MethodId} {meth : Method} {c : Code} (h1 : s.methodNamed? y = some m) (h2 : s.vm.method? m = some meth) (h3 : meth.code = some c) (h4 : c.code = bytes)
    (h5 : (c.maxLocals == mx && decide (c.exceptionTable.toList.map (fun h => (h.startPc, h.endPc, h.handlerPc, h.catchType)) = hs) && decide (c.maxStack ≤ mostOperands) && decide (meth.sig.returnType = rt) && !meth.locks && decide (parseMethodDescriptor y.desc = some meth.sig)) = true) : (Jvm.Cond.codeWith y bytes mx rt hs).before a s = true := by
  simp only [Bool.and_eq_true, beq_iff_eq, Bool.not_eq_true', decide_eq_true_eq] at h5
  obtain ⟨⟨⟨⟨⟨g1, g2⟩, g3⟩, g4⟩, g5⟩, g6⟩ := h5
  simp [Cond.before, Cond.holds, Cond.value, h1, h2, h3, h4, g1, g2, g3, g4, g5, g6]
def isCode : Jvm.Cond → Bool
  | .code _ _ _ _ => true
  | .codeWith _ _ _ _ _ => true
  | _ => false
theorem all_split {L : List Jvm.Cond} {P : Jvm.Cond → Bool} (h1 : L.all (fun c => isCode c || P c) = true) (h2 : ∀ c ∈ L.filter isCode, P c = true) : L.all P = true := by
  refine List.all_eq_true.mpr fun c hc => ?_
  have h := List.all_eq_true.mp h1 c hc
  rcases Bool.eq_false_or_eq_true (isCode c) with hi | hi
  · exact h2 c (List.mem_filter.mpr ⟨hc, hi⟩)
  · simpa [hi] using h
set_option maxRecDepth 65536 in
theorem w_c0 : (Jvm.Cond.code x code maxLocals ret).before args0 about1 = true := code_word (m := ⟨1, 1⟩) (meth := k1m1) (c := k1c1) (by decide +kernel) rfl rfl rfl (by decide +kernel)
set_option maxRecDepth 65536 in
theorem w_c1 : (Jvm.Cond.code ({ cls := "com/example/lerlo/lerlo/Utf8", name := "decode", desc := "([B)Ljava/lang/String;" } : Jvm.MethodName) prog_5_method_5_code (1 : Nat) (Option.some (Jvm.ClassFile.FieldType.object "java/lang/String"))).before args0 about1 = true := code_word (m := ⟨2, 1⟩) (meth := k2m1) (c := k2c1) (by decide +kernel) rfl rfl rfl (by decide +kernel)
set_option maxRecDepth 65536 in
theorem w_c2 : (Jvm.Cond.code ({ cls := "java/lang/String", name := "<init>", desc := "([BLjava/nio/charset/Charset;)V" } : Jvm.MethodName) jdk_42_method_49_code (3 : Nat) (Option.none : Option Jvm.ClassFile.FieldType)).before args0 about1 = true := code_word (m := ⟨8, 9⟩) (meth := k8m9) (c := k8c9) (by decide +kernel) rfl rfl rfl (by decide +kernel)
set_option maxRecDepth 65536 in
theorem w_c3 : (Jvm.Cond.code ({ cls := "java/util/Objects", name := "requireNonNull", desc := "(Ljava/lang/Object;)Ljava/lang/Object;" } : Jvm.MethodName) jdk_31_method_10_code (1 : Nat) (Option.some (Jvm.ClassFile.FieldType.object "java/lang/Object"))).before args0 about1 = true := code_word (m := ⟨10, 1⟩) (meth := k10m1) (c := k10c1) (by decide +kernel) rfl rfl rfl (by decide +kernel)
set_option maxRecDepth 65536 in
theorem w_c4 : (Jvm.Cond.code ({ cls := "java/lang/Object", name := "<init>", desc := "()V" } : Jvm.MethodName) object_method_1_code (1 : Nat) (Option.none : Option Jvm.ClassFile.FieldType)).before args0 about1 = true := code_word (m := ⟨0, 0⟩) (meth := k0m0) (c := k0c0) (by decide +kernel) rfl rfl rfl (by decide +kernel)
set_option maxRecDepth 65536 in
theorem w_c5 : (Jvm.Cond.code ({ cls := "java/lang/StringCoding", name := "countPositives", desc := "([BII)I" } : Jvm.MethodName) jdk_123_method_3_code (5 : Nat) (Option.some Jvm.ClassFile.FieldType.int)).before args0 about1 = true := code_word (m := ⟨15, 1⟩) (meth := k15m1) (c := k15c1) (by decide +kernel) rfl rfl rfl (by decide +kernel)
set_option maxRecDepth 65536 in
theorem w_c6 : (Jvm.Cond.code ({ cls := "java/util/Arrays", name := "copyOfRange", desc := "([BII)[B" } : Jvm.MethodName) jdk_65_method_132_code (3 : Nat) (Option.some (Jvm.ClassFile.FieldType.array Jvm.ClassFile.FieldType.byte))).before args0 about1 = true := code_word (m := ⟨16, 2⟩) (meth := k16m2) (c := k16c2) (by decide +kernel) rfl rfl rfl (by decide +kernel)
set_option maxRecDepth 65536 in
theorem w_c7 : (Jvm.Cond.code ({ cls := "java/lang/String", name := "length", desc := "()I" } : Jvm.MethodName) jdk_42_method_54_code (1 : Nat) (Option.some Jvm.ClassFile.FieldType.int)).before args0 about1 = true := code_word (m := ⟨8, 10⟩) (meth := k8m10) (c := k8c10) (by decide +kernel) rfl rfl rfl (by decide +kernel)
set_option maxRecDepth 65536 in
theorem w_c8 : (Jvm.Cond.code ({ cls := "java/lang/String", name := "coder", desc := "()B" } : Jvm.MethodName) jdk_42_method_152_code (1 : Nat) (Option.some Jvm.ClassFile.FieldType.byte)).before args0 about1 = true := code_word (m := ⟨8, 12⟩) (meth := k8m12) (c := k8c12) (by decide +kernel) rfl rfl rfl (by decide +kernel)
set_option maxRecDepth 65536 in
theorem w_c9 : (Jvm.Cond.code ({ cls := "java/lang/String", name := "charAt", desc := "(I)C" } : Jvm.MethodName) jdk_42_method_56_code (2 : Nat) (Option.some Jvm.ClassFile.FieldType.char)).before args0 about1 = true := code_word (m := ⟨8, 11⟩) (meth := k8m11) (c := k8c11) (by decide +kernel) rfl rfl rfl (by decide +kernel)
set_option maxRecDepth 65536 in
theorem w_c10 : (Jvm.Cond.code ({ cls := "java/lang/String", name := "isLatin1", desc := "()Z" } : Jvm.MethodName) jdk_42_method_154_code (1 : Nat) (Option.some Jvm.ClassFile.FieldType.boolean)).before args0 about1 = true := code_word (m := ⟨8, 13⟩) (meth := k8m13) (c := k8c13) (by decide +kernel) rfl rfl rfl (by decide +kernel)
set_option maxRecDepth 65536 in
theorem w_c11 : (Jvm.Cond.code ({ cls := "java/lang/StringLatin1", name := "charAt", desc := "([BI)C" } : Jvm.MethodName) jdk_43_method_2_code (2 : Nat) (Option.some Jvm.ClassFile.FieldType.char)).before args0 about1 = true := code_word (m := ⟨18, 1⟩) (meth := k18m1) (c := k18c1) (by decide +kernel) rfl rfl rfl (by decide +kernel)
set_option maxRecDepth 65536 in
theorem w_c12 : (Jvm.Cond.code ({ cls := "java/lang/String", name := "checkIndex", desc := "(II)V" } : Jvm.MethodName) jdk_42_method_155_code (2 : Nat) (Option.none : Option Jvm.ClassFile.FieldType)).before args0 about1 = true := code_word (m := ⟨8, 14⟩) (meth := k8m14) (c := k8c14) (by decide +kernel) rfl rfl rfl (by decide +kernel)
set_option maxRecDepth 65536 in
theorem w_c13 : (Jvm.Cond.code ({ cls := "jdk/internal/util/Preconditions", name := "checkIndex", desc := "(IILjava/util/function/BiFunction;)I" } : Jvm.MethodName) jdk_41_method_11_code (3 : Nat) (Option.some Jvm.ClassFile.FieldType.int)).before args0 about1 = true := code_word (m := ⟨19, 1⟩) (meth := k19m1) (c := k19c1) (by decide +kernel) rfl rfl rfl (by decide +kernel)
set_option maxRecDepth 65536 in
theorem w_c14 : (Jvm.Cond.code ({ cls := "java/lang/StringUTF16", name := "newBytesFor", desc := "(I)[B" } : Jvm.MethodName) jdk_52_method_2_code (1 : Nat) (Option.some (Jvm.ClassFile.FieldType.array Jvm.ClassFile.FieldType.byte))).before args0 about1 = true := code_word (m := ⟨20, 1⟩) (meth := k20m1) (c := k20c1) (by decide +kernel) rfl rfl rfl (by decide +kernel)
set_option maxRecDepth 65536 in
theorem w_c15 : (Jvm.Cond.code ({ cls := "java/lang/StringUTF16", name := "newBytesLength", desc := "(I)I" } : Jvm.MethodName) jdk_52_method_3_code (1 : Nat) (Option.some Jvm.ClassFile.FieldType.int)).before args0 about1 = true := code_word (m := ⟨20, 2⟩) (meth := k20m2) (c := k20c2) (by decide +kernel) rfl rfl rfl (by decide +kernel)
set_option maxRecDepth 65536 in
theorem w_c16 : (Jvm.Cond.code ({ cls := "java/lang/StringLatin1", name := "inflate", desc := "([BI[BII)V" } : Jvm.MethodName) jdk_43_method_50_code (5 : Nat) (Option.none : Option Jvm.ClassFile.FieldType)).before args0 about1 = true := code_word (m := ⟨18, 2⟩) (meth := k18m2) (c := k18c2) (by decide +kernel) rfl rfl rfl (by decide +kernel)
set_option maxRecDepth 65536 in
theorem w_c17 : (Jvm.Cond.code ({ cls := "java/lang/StringUTF16", name := "inflate", desc := "([BI[BII)V" } : Jvm.MethodName) jdk_52_method_86_code (6 : Nat) (Option.none : Option Jvm.ClassFile.FieldType)).before args0 about1 = true := code_word (m := ⟨20, 7⟩) (meth := k20m7) (c := k20c7) (by decide +kernel) rfl rfl rfl (by decide +kernel)
set_option maxRecDepth 65536 in
theorem w_c18 : (Jvm.Cond.code ({ cls := "java/lang/StringUTF16", name := "checkBoundsOffCount", desc := "(II[B)V" } : Jvm.MethodName) jdk_52_method_94_code (3 : Nat) (Option.none : Option Jvm.ClassFile.FieldType)).before args0 about1 = true := code_word (m := ⟨20, 9⟩) (meth := k20m9) (c := k20c9) (by decide +kernel) rfl rfl rfl (by decide +kernel)
set_option maxRecDepth 65536 in
theorem w_c19 : (Jvm.Cond.code ({ cls := "java/lang/StringUTF16", name := "length", desc := "([B)I" } : Jvm.MethodName) jdk_52_method_6_code (1 : Nat) (Option.some Jvm.ClassFile.FieldType.int)).before args0 about1 = true := code_word (m := ⟨20, 5⟩) (meth := k20m5) (c := k20c5) (by decide +kernel) rfl rfl rfl (by decide +kernel)
set_option maxRecDepth 65536 in
theorem w_c20 : (Jvm.Cond.code ({ cls := "java/lang/String", name := "checkBoundsOffCount", desc := "(III)I" } : Jvm.MethodName) jdk_42_method_157_code (3 : Nat) (Option.some Jvm.ClassFile.FieldType.int)).before args0 about1 = true := code_word (m := ⟨8, 15⟩) (meth := k8m15) (c := k8c15) (by decide +kernel) rfl rfl rfl (by decide +kernel)
set_option maxRecDepth 65536 in
theorem w_c21 : (Jvm.Cond.code ({ cls := "jdk/internal/util/Preconditions", name := "checkFromIndexSize", desc := "(IIILjava/util/function/BiFunction;)I" } : Jvm.MethodName) jdk_41_method_13_code (4 : Nat) (Option.some Jvm.ClassFile.FieldType.int)).before args0 about1 = true := code_word (m := ⟨19, 2⟩) (meth := k19m2) (c := k19c2) (by decide +kernel) rfl rfl rfl (by decide +kernel)
set_option maxRecDepth 65536 in
theorem w_c22 : (Jvm.Cond.code ({ cls := "java/lang/StringUTF16", name := "putChar", desc := "([BII)V" } : Jvm.MethodName) jdk_52_method_4_code (3 : Nat) (Option.none : Option Jvm.ClassFile.FieldType)).before args0 about1 = true := code_word (m := ⟨20, 3⟩) (meth := k20m3) (c := k20c3) (by decide +kernel) rfl rfl rfl (by decide +kernel)
set_option maxRecDepth 65536 in
theorem w_c23 : (Jvm.Cond.code ({ cls := "java/lang/String", name := "decodeUTF8_UTF16", desc := "([BII[BIZ)I" } : Jvm.MethodName) jdk_42_method_38_code (11 : Nat) (Option.some Jvm.ClassFile.FieldType.int)).before args0 about1 = true := code_word (m := ⟨8, 8⟩) (meth := k8m8) (c := k8c8) (by decide +kernel) rfl rfl rfl (by decide +kernel)
set_option maxRecDepth 65536 in
theorem w_c24 : (Jvm.Cond.code ({ cls := "java/lang/StringUTF16", name := "charAt", desc := "([BI)C" } : Jvm.MethodName) jdk_52_method_83_code (2 : Nat) (Option.some Jvm.ClassFile.FieldType.char)).before args0 about1 = true := code_word (m := ⟨20, 6⟩) (meth := k20m6) (c := k20c6) (by decide +kernel) rfl rfl rfl (by decide +kernel)
set_option maxRecDepth 65536 in
theorem w_c25 : (Jvm.Cond.code ({ cls := "java/lang/StringUTF16", name := "checkIndex", desc := "(I[B)V" } : Jvm.MethodName) jdk_52_method_91_code (2 : Nat) (Option.none : Option Jvm.ClassFile.FieldType)).before args0 about1 = true := code_word (m := ⟨20, 8⟩) (meth := k20m8) (c := k20c8) (by decide +kernel) rfl rfl rfl (by decide +kernel)
set_option maxRecDepth 65536 in
theorem w_c26 : (Jvm.Cond.code ({ cls := "java/lang/StringUTF16", name := "getChar", desc := "([BI)C" } : Jvm.MethodName) jdk_52_method_5_code (2 : Nat) (Option.some Jvm.ClassFile.FieldType.char)).before args0 about1 = true := code_word (m := ⟨20, 4⟩) (meth := k20m4) (c := k20c4) (by decide +kernel) rfl rfl rfl (by decide +kernel)
set_option maxRecDepth 65536 in
theorem w_c27 : (Jvm.Cond.code ({ cls := "java/lang/String", name := "decode4", desc := "(IIII)I" } : Jvm.MethodName) jdk_42_method_37_code (4 : Nat) (Option.some Jvm.ClassFile.FieldType.int)).before args0 about1 = true := code_word (m := ⟨8, 7⟩) (meth := k8m7) (c := k8c7) (by decide +kernel) rfl rfl rfl (by decide +kernel)
set_option maxRecDepth 65536 in
theorem w_c28 : (Jvm.Cond.code ({ cls := "java/lang/String", name := "isMalformed4", desc := "(III)Z" } : Jvm.MethodName) jdk_42_method_32_code (3 : Nat) (Option.some Jvm.ClassFile.FieldType.boolean)).before args0 about1 = true := code_word (m := ⟨8, 4⟩) (meth := k8m4) (c := k8c4) (by decide +kernel) rfl rfl rfl (by decide +kernel)
set_option maxRecDepth 65536 in
theorem w_c29 : (Jvm.Cond.code ({ cls := "java/lang/Character", name := "isSupplementaryCodePoint", desc := "(I)Z" } : Jvm.MethodName) jdk_89_method_13_code (1 : Nat) (Option.some Jvm.ClassFile.FieldType.boolean)).before args0 about1 = true := code_word (m := ⟨21, 0⟩) (meth := k21m0) (c := k21c0) (by decide +kernel) rfl rfl rfl (by decide +kernel)
set_option maxRecDepth 65536 in
theorem w_c30 : (Jvm.Cond.code ({ cls := "java/lang/Character", name := "highSurrogate", desc := "(I)C" } : Jvm.MethodName) jdk_89_method_28_code (1 : Nat) (Option.some Jvm.ClassFile.FieldType.char)).before args0 about1 = true := code_word (m := ⟨21, 2⟩) (meth := k21m2) (c := k21c2) (by decide +kernel) rfl rfl rfl (by decide +kernel)
set_option maxRecDepth 65536 in
theorem w_c31 : (Jvm.Cond.code ({ cls := "java/lang/Character", name := "lowSurrogate", desc := "(I)C" } : Jvm.MethodName) jdk_89_method_29_code (1 : Nat) (Option.some Jvm.ClassFile.FieldType.char)).before args0 about1 = true := code_word (m := ⟨21, 3⟩) (meth := k21m3) (c := k21c3) (by decide +kernel) rfl rfl rfl (by decide +kernel)
set_option maxRecDepth 65536 in
theorem w_c32 : (Jvm.Cond.code ({ cls := "java/util/Arrays", name := "copyOf", desc := "([BI)[B" } : Jvm.MethodName) jdk_65_method_121_code (3 : Nat) (Option.some (Jvm.ClassFile.FieldType.array Jvm.ClassFile.FieldType.byte))).before args0 about1 = true := code_word (m := ⟨16, 1⟩) (meth := k16m1) (c := k16c1) (by decide +kernel) rfl rfl rfl (by decide +kernel)
set_option maxRecDepth 65536 in
theorem w_c33 : (Jvm.Cond.code ({ cls := "java/lang/Math", name := "min", desc := "(II)I" } : Jvm.MethodName) jdk_29_method_69_code (2 : Nat) (Option.some Jvm.ClassFile.FieldType.int)).before args0 about1 = true := code_word (m := ⟨22, 1⟩) (meth := k22m1) (c := k22c1) (by decide +kernel) rfl rfl rfl (by decide +kernel)
set_option maxRecDepth 65536 in
theorem w_c34 : (Jvm.Cond.code ({ cls := "java/lang/String", name := "isNotContinuation", desc := "(I)Z" } : Jvm.MethodName) jdk_42_method_29_code (1 : Nat) (Option.some Jvm.ClassFile.FieldType.boolean)).before args0 about1 = true := code_word (m := ⟨8, 2⟩) (meth := k8m2) (c := k8c2) (by decide +kernel) rfl rfl rfl (by decide +kernel)
set_option maxRecDepth 65536 in
theorem w_c35 : (Jvm.Cond.code ({ cls := "java/lang/String", name := "decode2", desc := "(II)C" } : Jvm.MethodName) jdk_42_method_35_code (2 : Nat) (Option.some Jvm.ClassFile.FieldType.char)).before args0 about1 = true := code_word (m := ⟨8, 5⟩) (meth := k8m5) (c := k8c5) (by decide +kernel) rfl rfl rfl (by decide +kernel)
set_option maxRecDepth 65536 in
theorem w_c36 : (Jvm.Cond.code ({ cls := "java/lang/String", name := "isMalformed3", desc := "(III)Z" } : Jvm.MethodName) jdk_42_method_30_code (3 : Nat) (Option.some Jvm.ClassFile.FieldType.boolean)).before args0 about1 = true := code_word (m := ⟨8, 3⟩) (meth := k8m3) (c := k8c3) (by decide +kernel) rfl rfl rfl (by decide +kernel)
set_option maxRecDepth 65536 in
theorem w_c37 : (Jvm.Cond.code ({ cls := "java/lang/String", name := "decode3", desc := "(III)C" } : Jvm.MethodName) jdk_42_method_36_code (3 : Nat) (Option.some Jvm.ClassFile.FieldType.char)).before args0 about1 = true := code_word (m := ⟨8, 6⟩) (meth := k8m6) (c := k8c6) (by decide +kernel) rfl rfl rfl (by decide +kernel)
set_option maxRecDepth 65536 in
theorem w_c38 : (Jvm.Cond.code ({ cls := "java/lang/Character", name := "isSurrogate", desc := "(C)Z" } : Jvm.MethodName) jdk_89_method_16_code (1 : Nat) (Option.some Jvm.ClassFile.FieldType.boolean)).before args0 about1 = true := code_word (m := ⟨21, 1⟩) (meth := k21m1) (c := k21c1) (by decide +kernel) rfl rfl rfl (by decide +kernel)
set_option maxRecDepth 65536 in
theorem w_cw0 : (Jvm.Cond.codeWith ({ cls := "java/lang/String", name := "<init>", desc := "(Ljava/nio/charset/Charset;[BII)V" } : Jvm.MethodName) jdk_42_method_11_code (11 : Nat) (Option.none : Option Jvm.ClassFile.FieldType) [((800 : Nat), (813 : Nat), (816 : Nat), (202 : Nat))]).before args0 about1 = true := codeW_word (m := ⟨8, 1⟩) (meth := k8m1) (c := k8c1) (by decide +kernel) rfl rfl rfl (by decide +kernel)
def codes1 : List Jvm.Cond := [Jvm.Cond.code x code maxLocals ret, Jvm.Cond.code ({ cls := "com/example/lerlo/lerlo/Utf8", name := "decode", desc := "([B)Ljava/lang/String;" } : Jvm.MethodName) prog_5_method_5_code (1 : Nat) (Option.some (Jvm.ClassFile.FieldType.object "java/lang/String")), Jvm.Cond.code ({ cls := "java/lang/String", name := "<init>", desc := "([BLjava/nio/charset/Charset;)V" } : Jvm.MethodName) jdk_42_method_49_code (3 : Nat) (Option.none : Option Jvm.ClassFile.FieldType), Jvm.Cond.code ({ cls := "java/util/Objects", name := "requireNonNull", desc := "(Ljava/lang/Object;)Ljava/lang/Object;" } : Jvm.MethodName) jdk_31_method_10_code (1 : Nat) (Option.some (Jvm.ClassFile.FieldType.object "java/lang/Object")), Jvm.Cond.codeWith ({ cls := "java/lang/String", name := "<init>", desc := "(Ljava/nio/charset/Charset;[BII)V" } : Jvm.MethodName) jdk_42_method_11_code (11 : Nat) (Option.none : Option Jvm.ClassFile.FieldType) [((800 : Nat), (813 : Nat), (816 : Nat), (202 : Nat))], Jvm.Cond.code ({ cls := "java/lang/Object", name := "<init>", desc := "()V" } : Jvm.MethodName) object_method_1_code (1 : Nat) (Option.none : Option Jvm.ClassFile.FieldType), Jvm.Cond.code ({ cls := "java/lang/StringCoding", name := "countPositives", desc := "([BII)I" } : Jvm.MethodName) jdk_123_method_3_code (5 : Nat) (Option.some Jvm.ClassFile.FieldType.int), Jvm.Cond.code ({ cls := "java/util/Arrays", name := "copyOfRange", desc := "([BII)[B" } : Jvm.MethodName) jdk_65_method_132_code (3 : Nat) (Option.some (Jvm.ClassFile.FieldType.array Jvm.ClassFile.FieldType.byte)), Jvm.Cond.code ({ cls := "java/lang/String", name := "length", desc := "()I" } : Jvm.MethodName) jdk_42_method_54_code (1 : Nat) (Option.some Jvm.ClassFile.FieldType.int), Jvm.Cond.code ({ cls := "java/lang/String", name := "coder", desc := "()B" } : Jvm.MethodName) jdk_42_method_152_code (1 : Nat) (Option.some Jvm.ClassFile.FieldType.byte), Jvm.Cond.code ({ cls := "java/lang/String", name := "charAt", desc := "(I)C" } : Jvm.MethodName) jdk_42_method_56_code (2 : Nat) (Option.some Jvm.ClassFile.FieldType.char), Jvm.Cond.code ({ cls := "java/lang/String", name := "isLatin1", desc := "()Z" } : Jvm.MethodName) jdk_42_method_154_code (1 : Nat) (Option.some Jvm.ClassFile.FieldType.boolean), Jvm.Cond.code ({ cls := "java/lang/StringLatin1", name := "charAt", desc := "([BI)C" } : Jvm.MethodName) jdk_43_method_2_code (2 : Nat) (Option.some Jvm.ClassFile.FieldType.char), Jvm.Cond.code ({ cls := "java/lang/String", name := "checkIndex", desc := "(II)V" } : Jvm.MethodName) jdk_42_method_155_code (2 : Nat) (Option.none : Option Jvm.ClassFile.FieldType), Jvm.Cond.code ({ cls := "jdk/internal/util/Preconditions", name := "checkIndex", desc := "(IILjava/util/function/BiFunction;)I" } : Jvm.MethodName) jdk_41_method_11_code (3 : Nat) (Option.some Jvm.ClassFile.FieldType.int), Jvm.Cond.code ({ cls := "java/lang/StringUTF16", name := "newBytesFor", desc := "(I)[B" } : Jvm.MethodName) jdk_52_method_2_code (1 : Nat) (Option.some (Jvm.ClassFile.FieldType.array Jvm.ClassFile.FieldType.byte)), Jvm.Cond.code ({ cls := "java/lang/StringUTF16", name := "newBytesLength", desc := "(I)I" } : Jvm.MethodName) jdk_52_method_3_code (1 : Nat) (Option.some Jvm.ClassFile.FieldType.int), Jvm.Cond.code ({ cls := "java/lang/StringLatin1", name := "inflate", desc := "([BI[BII)V" } : Jvm.MethodName) jdk_43_method_50_code (5 : Nat) (Option.none : Option Jvm.ClassFile.FieldType), Jvm.Cond.code ({ cls := "java/lang/StringUTF16", name := "inflate", desc := "([BI[BII)V" } : Jvm.MethodName) jdk_52_method_86_code (6 : Nat) (Option.none : Option Jvm.ClassFile.FieldType), Jvm.Cond.code ({ cls := "java/lang/StringUTF16", name := "checkBoundsOffCount", desc := "(II[B)V" } : Jvm.MethodName) jdk_52_method_94_code (3 : Nat) (Option.none : Option Jvm.ClassFile.FieldType), Jvm.Cond.code ({ cls := "java/lang/StringUTF16", name := "length", desc := "([B)I" } : Jvm.MethodName) jdk_52_method_6_code (1 : Nat) (Option.some Jvm.ClassFile.FieldType.int), Jvm.Cond.code ({ cls := "java/lang/String", name := "checkBoundsOffCount", desc := "(III)I" } : Jvm.MethodName) jdk_42_method_157_code (3 : Nat) (Option.some Jvm.ClassFile.FieldType.int), Jvm.Cond.code ({ cls := "jdk/internal/util/Preconditions", name := "checkFromIndexSize", desc := "(IIILjava/util/function/BiFunction;)I" } : Jvm.MethodName) jdk_41_method_13_code (4 : Nat) (Option.some Jvm.ClassFile.FieldType.int), Jvm.Cond.code ({ cls := "java/lang/StringUTF16", name := "putChar", desc := "([BII)V" } : Jvm.MethodName) jdk_52_method_4_code (3 : Nat) (Option.none : Option Jvm.ClassFile.FieldType), Jvm.Cond.code ({ cls := "java/lang/String", name := "decodeUTF8_UTF16", desc := "([BII[BIZ)I" } : Jvm.MethodName) jdk_42_method_38_code (11 : Nat) (Option.some Jvm.ClassFile.FieldType.int), Jvm.Cond.code ({ cls := "java/lang/StringUTF16", name := "charAt", desc := "([BI)C" } : Jvm.MethodName) jdk_52_method_83_code (2 : Nat) (Option.some Jvm.ClassFile.FieldType.char), Jvm.Cond.code ({ cls := "java/lang/StringUTF16", name := "checkIndex", desc := "(I[B)V" } : Jvm.MethodName) jdk_52_method_91_code (2 : Nat) (Option.none : Option Jvm.ClassFile.FieldType), Jvm.Cond.code ({ cls := "java/lang/StringUTF16", name := "getChar", desc := "([BI)C" } : Jvm.MethodName) jdk_52_method_5_code (2 : Nat) (Option.some Jvm.ClassFile.FieldType.char), Jvm.Cond.code ({ cls := "java/lang/String", name := "decode4", desc := "(IIII)I" } : Jvm.MethodName) jdk_42_method_37_code (4 : Nat) (Option.some Jvm.ClassFile.FieldType.int), Jvm.Cond.code ({ cls := "java/lang/String", name := "isMalformed4", desc := "(III)Z" } : Jvm.MethodName) jdk_42_method_32_code (3 : Nat) (Option.some Jvm.ClassFile.FieldType.boolean), Jvm.Cond.code ({ cls := "java/lang/Character", name := "isSupplementaryCodePoint", desc := "(I)Z" } : Jvm.MethodName) jdk_89_method_13_code (1 : Nat) (Option.some Jvm.ClassFile.FieldType.boolean), Jvm.Cond.code ({ cls := "java/lang/Character", name := "highSurrogate", desc := "(I)C" } : Jvm.MethodName) jdk_89_method_28_code (1 : Nat) (Option.some Jvm.ClassFile.FieldType.char), Jvm.Cond.code ({ cls := "java/lang/Character", name := "lowSurrogate", desc := "(I)C" } : Jvm.MethodName) jdk_89_method_29_code (1 : Nat) (Option.some Jvm.ClassFile.FieldType.char), Jvm.Cond.code ({ cls := "java/util/Arrays", name := "copyOf", desc := "([BI)[B" } : Jvm.MethodName) jdk_65_method_121_code (3 : Nat) (Option.some (Jvm.ClassFile.FieldType.array Jvm.ClassFile.FieldType.byte)), Jvm.Cond.code ({ cls := "java/lang/Math", name := "min", desc := "(II)I" } : Jvm.MethodName) jdk_29_method_69_code (2 : Nat) (Option.some Jvm.ClassFile.FieldType.int), Jvm.Cond.code ({ cls := "java/lang/String", name := "isNotContinuation", desc := "(I)Z" } : Jvm.MethodName) jdk_42_method_29_code (1 : Nat) (Option.some Jvm.ClassFile.FieldType.boolean), Jvm.Cond.code ({ cls := "java/lang/String", name := "decode2", desc := "(II)C" } : Jvm.MethodName) jdk_42_method_35_code (2 : Nat) (Option.some Jvm.ClassFile.FieldType.char), Jvm.Cond.code ({ cls := "java/lang/String", name := "isMalformed3", desc := "(III)Z" } : Jvm.MethodName) jdk_42_method_30_code (3 : Nat) (Option.some Jvm.ClassFile.FieldType.boolean), Jvm.Cond.code ({ cls := "java/lang/String", name := "decode3", desc := "(III)C" } : Jvm.MethodName) jdk_42_method_36_code (3 : Nat) (Option.some Jvm.ClassFile.FieldType.char), Jvm.Cond.code ({ cls := "java/lang/Character", name := "isSurrogate", desc := "(C)Z" } : Jvm.MethodName) jdk_89_method_16_code (1 : Nat) (Option.some Jvm.ClassFile.FieldType.boolean)]
set_option maxRecDepth 65536 in
theorem codes_eq : words1.filter isCode = codes1 := rfl
theorem w_codes : ∀ c ∈ words1.filter isCode, c.before args0 about1 = true := by
  rw [codes_eq]
  intro c hc
  simp only [codes1, List.mem_cons, List.not_mem_nil, or_false] at hc
  rcases hc with rfl | rfl | rfl | rfl | rfl | rfl | rfl | rfl | rfl | rfl | rfl | rfl | rfl | rfl | rfl | rfl | rfl | rfl | rfl | rfl | rfl | rfl | rfl | rfl | rfl | rfl | rfl | rfl | rfl | rfl | rfl | rfl | rfl | rfl | rfl | rfl | rfl | rfl | rfl | rfl
  · exact w_c0
  · exact w_c1
  · exact w_c2
  · exact w_c3
  · exact w_cw0
  · exact w_c4
  · exact w_c5
  · exact w_c6
  · exact w_c7
  · exact w_c8
  · exact w_c9
  · exact w_c10
  · exact w_c11
  · exact w_c12
  · exact w_c13
  · exact w_c14
  · exact w_c15
  · exact w_c16
  · exact w_c17
  · exact w_c18
  · exact w_c19
  · exact w_c20
  · exact w_c21
  · exact w_c22
  · exact w_c23
  · exact w_c24
  · exact w_c25
  · exact w_c26
  · exact w_c27
  · exact w_c28
  · exact w_c29
  · exact w_c30
  · exact w_c31
  · exact w_c32
  · exact w_c33
  · exact w_c34
  · exact w_c35
  · exact w_c36
  · exact w_c37
  · exact w_c38
set_option maxRecDepth 65536 in
theorem w_t1 : (words1.take 24).all (fun c => isCode c || c.before args0 about1) = true := by decide +kernel
set_option maxRecDepth 65536 in
theorem w_t2 : ((words1.drop 24).take 24).all (fun c => isCode c || c.before args0 about1) = true := by decide +kernel
set_option maxRecDepth 65536 in
theorem w_t3 : (((words1.drop 24).drop 24).take 24).all (fun c => isCode c || c.before args0 about1) = true := by decide +kernel
set_option maxRecDepth 65536 in
theorem w_t4 : ((((words1.drop 24).drop 24).drop 24).take 24).all (fun c => isCode c || c.before args0 about1) = true := by decide +kernel
set_option maxRecDepth 65536 in
theorem w_t5 : (((((words1.drop 24).drop 24).drop 24).drop 24).take 24).all (fun c => isCode c || c.before args0 about1) = true := by decide +kernel
set_option maxRecDepth 65536 in
theorem w_t6 : ((((((words1.drop 24).drop 24).drop 24).drop 24).drop 24).take 24).all (fun c => isCode c || c.before args0 about1) = true := by decide +kernel
set_option maxRecDepth 65536 in
theorem w_t7 : (((((((words1.drop 24).drop 24).drop 24).drop 24).drop 24).drop 24).take 24).all (fun c => isCode c || c.before args0 about1) = true := by decide +kernel
set_option maxRecDepth 65536 in
theorem w_t8 : (((((((words1.drop 24).drop 24).drop 24).drop 24).drop 24).drop 24).drop 24).all (fun c => isCode c || c.before args0 about1) = true := by decide +kernel
theorem w_tables : (allAtoms (Jvm.Cond.code x code maxLocals ret :: tables_1)).before args0 about1 = true := by
  rw [allAtoms_all]
  show words1.all (fun c => c.before args0 about1) = true
  refine all_split ?_ w_codes
  rw [← List.take_append_drop 24 words1, List.all_append, w_t1, ← List.take_append_drop 24 (words1.drop 24), List.all_append, w_t2, ← List.take_append_drop 24 ((words1.drop 24).drop 24), List.all_append, w_t3, ← List.take_append_drop 24 (((words1.drop 24).drop 24).drop 24), List.all_append, w_t4, ← List.take_append_drop 24 ((((words1.drop 24).drop 24).drop 24).drop 24), List.all_append, w_t5, ← List.take_append_drop 24 (((((words1.drop 24).drop 24).drop 24).drop 24).drop 24), List.all_append, w_t6, ← List.take_append_drop 24 ((((((words1.drop 24).drop 24).drop 24).drop 24).drop 24).drop 24), List.all_append, w_t7, w_t8]
  rfl
set_option maxRecDepth 65536 in
theorem w_rest : rest_1_c.before args0 about1 = true := by decide +kernel
set_option maxRecDepth 65536 in
theorem w_case : (Jvm.Cond.and given_1 narrow_1).before args0 about1 = true := by decide +kernel
theorem w_applies : (headSpec (Jvm.Cond.code x code maxLocals ret :: tables_1) room_1).applies x e0.platform about1 = true :=
  (Spec.applies_iff w_frames).mpr ⟨w_running, w_runnable, w_alone, w_named, w_hears, w_ripe, w_room, w_tables⟩
theorem atStart : AtStart classFile x code maxLocals ret World_1 tables_1 room_1 Calls_1 rest_1 Pre_1 launch0 p0 e0 about1 theMethod args0 below0 :=
  ⟨lists_1, trivial, launch0.admits_env _ _ _, launch0.least_env, fairChoices_fair.cas, fairChoices_fair.clock, w_frames, w_args, w_heap, w_applies, trivial, w_rest, w_case⟩
end start1
theorem witness_1 : WitnessClaimed_1 := ⟨start1.p0, start1.e0, start1.about1, start1.theMethod, start1.args0, start1.below0, start1.atStart⟩
end Jvm.Pilot.@@N@@
