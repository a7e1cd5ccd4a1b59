import JvmDerived
import JvmDerived.Pilot.@@N@@Statement
import JvmDerived.Pilot.@@N@@Code
set_option linter.unusedVariables false
set_option linter.unusedSimpArgs false
@@BLOCK:NumsL.lean.txt@@
namespace Jvm.Pilot.@@N@@
open Jvm Jvm.ClassFile Sem Op Lib Jvm.Free Jvm.Stand Jvm.LawKit Jvm.RoadKit Bundle Jvm.Pilot.@@N@@.Jvm.D
set_option maxRecDepth 65536
set_option maxHeartbeats 40000000
abbrev vI (x : Int32) : Slot := .val (.int x)
abbrev vR (a : Addr) : Slot := .val (.ref a)
abbrev uS : Slot := .unset
abbrev HWt (a0 : Array Value) (Z : State) : Prop := ∀ d ∈ tables_1, d.before a0 Z = true
abbrev Met (l : Launch) (y : MethodName) (K : List Jvm.Cond) (r : Room) (A : Array Value) (Z : State) (h0 : Heap) (Q : Option Value → Heap → List Loc → Prop) : Prop := MetFree l y (head1 K r) (fun a U => a = A ∧ Z.Warmed39 U.vm ∧ U.heap = h0) (fun _ _ _ _ _ => True) (fun _ U o U' => ∃ v L, o = .returned v ∧ Q v U'.heap L ∧ FrameEnd U o U' L r.cells r.slots)
theorem own_fc {s : State} {v v' : Vm} {n : String} {c : ClassId} (h : (s.setVm v).Warmed39 v') (q : v.findClass n = some c) : v'.findClass n = some c := by rw [h.alike.findClass]; exact q
theorem hwi {a0 : Array Value} {Z : State} (hw : HWt a0 Z) (i : Nat) {d : Jvm.Cond} (h : tables_1[i]? = some d) : d.before a0 Z = true := hw _ (List.mem_of_getElem? h)
theorem dq {code : ByteArray} {L : List (Nat × Instr × Nat)} (h : ∀ x ∈ L, decode code x.1 = .ok (x.2.1, x.2.2)) (i pc : Nat) {op : Instr} {ln : Nat} (e : L[i]? = some (pc, op, ln)) : decode code pc = .ok (op, ln) := h (pc, op, ln) (List.mem_of_getElem? e)
/-! the walk in continuation form: from T with the frame g on top the run comes to an end that says Q -/
def Go (p : Program) (e : Env) (below : List Frame) (s : State) (C S : Nat) (Q : Option Value → Heap → List Loc → Prop) (T : State) (g : JFrame) : Prop :=
  ∃ s₂ o, Steps p.tables e below (T.setTop g) s₂ ∧ s₂.status = .running ∧ Ended s₂ below o ∧ ∃ v L, o = .returned v ∧ Q v s₂.heap L ∧ FrameEnd s o s₂ L C S
section GoKit
variable {p : Program} {l : Launch} {e : Env} {R : Room} {s : State} {m : MethodId} {args : Array Value} {below : List Frame} {meth : Method} {c : Code} {T T' : State} {g g' : JFrame} {locs : List Loc} {cells slots C S : Nat} {Q : Option Value → Heap → List Loc → Prop} {Z : State} {h h' : Heap} {n0 : Nat}
theorem Go.st (st : ∀ t, Steps p.tables e below (T'.setTop g') t → Steps p.tables e below (T.setTop g) t) (k : Go p e below s C S Q T' g') : Go p e below s C S Q T g := by
  obtain ⟨s₂, o, h1, h2⟩ := k; exact ⟨s₂, o, st _ h1, h2⟩
theorem Go.tr (st : Steps p.tables e below (T.setTop g) (T'.setTop g')) (k : Go p e below s C S Q T' g') : Go p e below s C S Q T g := by
  obtain ⟨s₂, o, h1, h2⟩ := k; exact ⟨s₂, o, st.trans h1, h2⟩
theorem Go.eq (q : g = g') (k : Go p e below s C S Q T g') : Go p e below s C S Q T g := q ▸ k
theorem Go.fin (X : Stand p l e R s m args below meth c T locs cells slots) (hlk : meth.locks = false) {v : Option Value} (hv : meth.sig.returnType = none → v = none) (hc : cells ≤ C) (hs : slots ≤ S) (q : Q v T.heap locs)
    (k : ∀ fs, (∀ (f : JFrame) (acts : List Action), f.method = m → f.locked = none → f.entered = [] → (doReturn e (T.setTop f) acts v).1 = T.setFrames fs) → Steps p.tables e below (T.setTop g) (T.setFrames fs)) : Go p e below s C S Q T g := by
  obtain ⟨fs, hr, hrun, hended, hW, hsame⟩ := X.leave (v := v) hv hlk
  exact ⟨_, _, k fs hr, hrun, hended, _, _, rfl, q, ⟨_, rfl⟩, hW, hsame.mono hc hs⟩
theorem Go.retN (X : Stand p l e R s m args below meth c T locs cells slots) (hlk : meth.locks = false) (hx : p.tables.exec = Jvm.exec) {pc : Nat} {Ls : Array Slot} {z z' : Int32} {t : FieldType} {rest : List Value} (hret : meth.sig.returnType = some t) (ht : t = .boolean ∨ t = .byte ∨ t = .char ∨ t = .short)
    (hd : decode c.code pc = .ok (.ireturn, 1)) (hc : cells ≤ C) (hs : slots ≤ S) (hz : nar t z = z') (q : Q (some (.int z')) T.heap locs) : Go p e below s C S Q T (mkF m pc Ls (.int z :: rest)) := by
  subst hz
  exact Go.fin X hlk (fun h => by rw [hret] at h; cases h) hc hs q fun fs hr => Jvm.RoadKit.retN X hx hret ht hd hr
theorem Go.retV (X : Stand p l e R s m args below meth c T locs cells slots) (hlk : meth.locks = false) (hx : p.tables.exec = Jvm.exec) {pc : Nat} {Ls : Array Slot} {w : Value} {t : FieldType} {i : Instr} {rest : List Value} (hret : meth.sig.returnType = some t) (hn : narrow t w = w)
    (hi : (i = .ireturn ∧ (t = .int ∨ t = .boolean ∨ t = .byte ∨ t = .char ∨ t = .short) ∧ ∃ z, w = .int z) ∨ (i = .lreturn ∧ t = .long ∧ ∃ z, w = .long z) ∨ (i = .dreturn ∧ t = .double ∧ ∃ z, w = .double z) ∨ (i = .freturn ∧ t = .float ∧ ∃ z, w = .float z) ∨ (i = .areturn ∧ t.isReference = true ∧ w.isRef = true))
    (hd : decode c.code pc = .ok (i, 1)) (hc : cells ≤ C) (hs : slots ≤ S) (q : Q (some w) T.heap locs) : Go p e below s C S Q T (mkF m pc Ls (w :: rest)) :=
  Go.fin X hlk (fun h => by rw [hret] at h; cases h) hc hs q fun fs hr => Jvm.RoadKit.retOut X hx hret hn hi hd hr
theorem Go.retR (X : Stand p l e R s m args below meth c T locs cells slots) (hlk : meth.locks = false) (hx : p.tables.exec = Jvm.exec) {pc : Nat} {Ls : Array Slot} {w : Value} {t : FieldType} {rest : List Value} (hret : meth.sig.returnType = some t) (ht : t.isReference = true) (hw : w.isRef = true) (hn : narrow t w = w)
    (hd : decode c.code pc = .ok (.areturn, 1)) (hc : cells ≤ C) (hs : slots ≤ S) (q : Q (some w) T.heap locs) : Go p e below s C S Q T (mkF m pc Ls (w :: rest)) :=
  Go.retV X hlk hx hret hn (Or.inr (Or.inr (Or.inr (Or.inr ⟨rfl, ht, hw⟩)))) hd hc hs q
theorem Go.retI (X : Stand p l e R s m args below meth c T locs cells slots) (hlk : meth.locks = false) (hx : p.tables.exec = Jvm.exec) {pc : Nat} {Ls : Array Slot} {z : Int32} {rest : List Value} (hret : meth.sig.returnType = some .int)
    (hd : decode c.code pc = .ok (.ireturn, 1)) (hc : cells ≤ C) (hs : slots ≤ S) (q : Q (some (.int z)) T.heap locs) : Go p e below s C S Q T (mkF m pc Ls (.int z :: rest)) :=
  Go.retV X hlk hx hret rfl (Or.inl ⟨rfl, Or.inl rfl, z, rfl⟩) hd hc hs q
theorem Go.ret0 (X : Stand p l e R s m args below meth c T locs cells slots) (hlk : meth.locks = false) (hx : p.tables.exec = Jvm.exec) {pc : Nat} {Ls : Array Slot} (hret : meth.sig.returnType = none)
    (hd : decode c.code pc = .ok (.return_, 1)) (hc : cells ≤ C) (hs : slots ≤ S) (q : Q none T.heap locs) : Go p e below s C S Q T (mkF m pc Ls []) :=
  Go.fin X hlk (fun _ => rfl) hc hs q fun fs hr => X.returnOut hx hret hd hr
theorem own_le (O : Old Z n0 h) : n0 ≤ h.size := O.1 ▸ O.2.1
theorem own_ext {ws : List Addr} (K : Keep h h' ws) (q : ∀ x ∈ ws, h.size ≤ x) : Ext h h' := ⟨K.1, fun x c r => K.2.1 x c r fun z => absurd (Array.getElem?_eq_some_iff.mp r).1 (Nat.not_lt.mpr (q x z))⟩
theorem own_ext0 (K : Keep h h' []) : Ext h h' := own_ext K all0
theorem Go.pure {w : Option Value} {Qc : Option Value → Heap → List Loc → Prop} {rest : List Value} {pc' : Nat} (H : ∃ (v : Option Value) (vm₁ : Vm) (B : Pt), s.WarmedH vm₁ ∧ Stand p l e R s m args below meth c B.U B.locs B.cells B.slots ∧ (∃ L, Qc v B.U.heap L ∧ B.locs = locs ++ L ∧ B.cells = cells + 0 ∧ B.slots = slots + 0) ∧ Steps p.tables e below (T.setTop g) (B.U.setTop { g with pc := pc', stack := v.toList ++ rest })) (hq : ∀ v h' L, Qc v h' L → v = w ∧ Fr n0 L ∧ h' = h) (N : Fr n0 locs)
    (k : ∀ T' L', Stand p l e R s m args below meth c T' L' cells slots → T'.heap = h → Fr n0 L' → Go p e below s C S Q T' { g with pc := pc', stack := w.toList ++ rest }) : Go p e below s C S Q T g := by
  obtain ⟨v, vm1, ⟨T', L', c', s'⟩, -, X, ⟨L, q, e1, e2, e3⟩, st⟩ := H
  obtain ⟨rfl, q2, q3⟩ := hq _ _ _ q
  dsimp only [Pt.U, Pt.locs, Pt.cells, Pt.slots] at X e1 e2 e3 st q3
  subst e1 e2 e3
  exact Go.tr st (k _ _ X q3 (Fr.app N q2))
theorem Go.pureS {w : Option Value} {Qc : Option Value → Heap → List Loc → Prop} {rest : List Value} {pc' : Nat} (H : ∃ (v : Option Value) (vm₁ : Vm) (B : Pt), s.WarmedH vm₁ ∧ Stand p l e R s m args below meth c B.U B.locs B.cells B.slots ∧ (∃ L, Qc v B.U.heap L ∧ B.locs = locs ++ L ∧ B.cells = cells + 0 ∧ B.slots = slots + 0) ∧ ∀ target, Steps p.tables e below (B.U.setTop { g with pc := pc', stack := v.toList ++ rest }) target → Steps p.tables e below (T.setTop g) target) (hq : ∀ v h' L, Qc v h' L → v = w ∧ Fr n0 L ∧ h' = h) (N : Fr n0 locs)
    (k : ∀ T' L', Stand p l e R s m args below meth c T' L' cells slots → T'.heap = h → Fr n0 L' → Go p e below s C S Q T' { g with pc := pc', stack := w.toList ++ rest }) : Go p e below s C S Q T g := by
  obtain ⟨v, vm1, ⟨T', L', c', s'⟩, -, X, ⟨L, q, e1, e2, e3⟩, st⟩ := H
  obtain ⟨rfl, q2, q3⟩ := hq _ _ _ q
  dsimp only [Pt.U, Pt.locs, Pt.cells, Pt.slots] at X e1 e2 e3 st q3
  subst e1 e2 e3
  exact Go.st st (k _ _ X q3 (Fr.app N q2))
end GoKit
abbrev mY0 : MethodName := ⟨"java/lang/String", "coder", "()B"⟩
abbrev mY1 : MethodName := ⟨"java/lang/String", "length", "()I"⟩
abbrev mY2 : MethodName := ⟨"java/lang/String", "getBytes", "([BIB)V"⟩
abbrev mY3 : MethodName := ⟨"java/lang/AbstractStringBuilder", "inflateIfNeededFor", "(Ljava/lang/String;)V"⟩
abbrev mY4 : MethodName := ⟨"java/lang/AbstractStringBuilder", "putStringAt", "(ILjava/lang/String;)V"⟩
abbrev mY5 : MethodName := ⟨"java/lang/Math", "max", "(II)I"⟩
abbrev mY6 : MethodName := ⟨"java/lang/Math", "min", "(II)I"⟩
abbrev mY7 : MethodName := ⟨"jdk/internal/util/ArraysSupport", "newLength", "(III)I"⟩
abbrev mY8 : MethodName := ⟨"java/lang/AbstractStringBuilder", "newCapacity", "(I)I"⟩
abbrev mY9 : MethodName := ⟨"java/util/Arrays", "copyOf", "([BI)[B"⟩
abbrev mY10 : MethodName := ⟨"java/lang/AbstractStringBuilder", "ensureCapacityInternal", "(I)V"⟩
abbrev mY11 : MethodName := ⟨"java/lang/AbstractStringBuilder", "append", "(Ljava/lang/String;)Ljava/lang/AbstractStringBuilder;"⟩
abbrev mY12 : MethodName := ⟨"java/lang/StringBuilder", "append", "(Ljava/lang/String;)Ljava/lang/StringBuilder;"⟩
abbrev mY13 : MethodName := ⟨"java/lang/AbstractStringBuilder", "<init>", "(I)V"⟩
abbrev mY14 : MethodName := ⟨"java/lang/StringBuilder", "<init>", "()V"⟩
abbrev mY15 : MethodName := ⟨"java/lang/AbstractStringBuilder", "getValue", "()[B"⟩
abbrev mY16 : MethodName := ⟨"java/lang/AbstractStringBuilder", "length", "()I"⟩
abbrev mY17 : MethodName := ⟨"java/lang/StringBuilder", "length", "()I"⟩
abbrev mY18 : MethodName := ⟨"java/lang/AbstractStringBuilder", "isLatin1", "()Z"⟩
abbrev mY19 : MethodName := ⟨"java/util/Arrays", "checkLength", "(II)V"⟩
abbrev mY20 : MethodName := ⟨"java/util/Arrays", "copyOfRangeByte", "([BII)[B"⟩
abbrev mY21 : MethodName := ⟨"java/util/Arrays", "copyOfRange", "([BII)[B"⟩
abbrev mY22 : MethodName := ⟨"java/lang/String", "<init>", "(Ljava/lang/AbstractStringBuilder;Ljava/lang/Void;)V"⟩
abbrev mY23 : MethodName := ⟨"java/lang/String", "<init>", "(Ljava/lang/StringBuilder;)V"⟩
abbrev mY24 : MethodName := ⟨"java/lang/StringBuilder", "toString", "()Ljava/lang/String;"⟩
abbrev mY25 : MethodName := ⟨"jdk/internal/util/Preconditions", "checkIndex", "(IILjava/util/function/BiFunction;)I"⟩
abbrev mY26 : MethodName := ⟨"java/lang/String", "checkIndex", "(II)V"⟩
abbrev mY27 : MethodName := ⟨"java/lang/StringUTF16", "compress", "([CI[BII)I"⟩
abbrev mY28 : MethodName := ⟨"java/lang/StringUTF16", "putChar", "([BII)V"⟩
abbrev mY29 : MethodName := ⟨"java/lang/StringUTF16", "newBytesLength", "(I)I"⟩
abbrev mY30 : MethodName := ⟨"java/lang/StringUTF16", "newBytesFor", "(I)[B"⟩
abbrev mY31 : MethodName := ⟨"java/lang/StringUTF16", "toBytes", "([CII)[B"⟩
abbrev mY32 : MethodName := ⟨"java/lang/StringUTF16", "getChar", "([BI)C"⟩
abbrev mY33 : MethodName := ⟨"java/lang/StringUTF16", "compress", "([CII)[B"⟩
abbrev mY34 : MethodName := ⟨"java/lang/StringUTF16", "coderFromArrayLen", "([BI)B"⟩
abbrev mY35 : MethodName := ⟨"java/lang/String", "<init>", "([CIILjava/lang/Void;)V"⟩
abbrev mY36 : MethodName := ⟨"java/lang/String", "<init>", "([C)V"⟩
abbrev mY37 : MethodName := ⟨"java/lang/String", "isLatin1", "()Z"⟩
abbrev mY38 : MethodName := ⟨"java/lang/Character", "isHighSurrogate", "(C)Z"⟩
abbrev mY39 : MethodName := ⟨"java/lang/Character", "isLowSurrogate", "(C)Z"⟩
abbrev mY40 : MethodName := ⟨"java/lang/StringLatin1", "equals", "([B[B)Z"⟩
abbrev mY41 : MethodName := ⟨"java/lang/String", "equals", "(Ljava/lang/Object;)Z"⟩
abbrev mY42 : MethodName := ⟨"java/lang/StringUTF16", "length", "([B)I"⟩
abbrev mY43 : MethodName := ⟨"jdk/internal/util/Preconditions", "checkFromIndexSize", "(IIILjava/util/function/BiFunction;)I"⟩
abbrev mY44 : MethodName := ⟨"java/lang/String", "checkBoundsOffCount", "(III)I"⟩
abbrev mY45 : MethodName := ⟨"java/lang/StringUTF16", "checkBoundsOffCount", "(II[B)V"⟩
abbrev mY46 : MethodName := ⟨"java/lang/StringUTF16", "inflate", "([BI[BII)V"⟩
abbrev mY47 : MethodName := ⟨"java/lang/StringLatin1", "inflate", "([BI[BII)V"⟩
abbrev mY48 : MethodName := ⟨"java/lang/AbstractStringBuilder", "inflate", "()V"⟩
abbrev mY49 : MethodName := ⟨"com/example/oplim/oplim/KeysPrefixPinLaw", "isPair", "(I)Z"⟩
abbrev mY50 : MethodName := ⟨"com/example/oplim/oplim/KeysPrefixPinLaw", "width", "(I)I"⟩
abbrev mY51 : MethodName := ⟨"com/example/oplim/oplim/KeysPrefixPinLaw", "bmp", "(I)C"⟩
abbrev mY52 : MethodName := ⟨"com/example/oplim/oplim/KeysPrefixPinLaw", "nameChar", "(I)C"⟩
abbrev mY53 : MethodName := ⟨"com/example/oplim/oplim/KeysPrefixPinLaw", "put", "([CII)I"⟩
abbrev mY54 : MethodName := ⟨"java/lang/String", "isEmpty", "()Z"⟩
abbrev mY55 : MethodName := ⟨"com/example/oplim/oplim/Keys", "utf8Length", "(I)I"⟩
abbrev mY56 : MethodName := ⟨"java/lang/Character", "charCount", "(I)I"⟩
abbrev mY57 : MethodName := ⟨"java/lang/Character", "toCodePoint", "(CC)I"⟩
abbrev mY58 : MethodName := ⟨"java/lang/StringUTF16", "codePointAt", "([BIIZ)I"⟩
abbrev mY59 : MethodName := ⟨"java/lang/StringUTF16", "codePointAt", "([BII)I"⟩
abbrev mY60 : MethodName := ⟨"java/lang/String", "codePointAt", "(I)I"⟩
abbrev mY61 : MethodName := ⟨"java/lang/StringLatin1", "canEncode", "(C)Z"⟩
abbrev mY62 : MethodName := ⟨"java/lang/StringUTF16", "checkIndex", "(I[B)V"⟩
abbrev mY63 : MethodName := ⟨"java/lang/StringUTF16", "putCharSB", "([BII)V"⟩
abbrev mY64 : MethodName := ⟨"java/lang/AbstractStringBuilder", "append", "(C)Ljava/lang/AbstractStringBuilder;"⟩
abbrev mY65 : MethodName := ⟨"java/lang/StringBuilder", "append", "(C)Ljava/lang/StringBuilder;"⟩
abbrev mY66 : MethodName := ⟨"com/example/oplim/oplim/Keys", "prefix", "(Ljava/lang/String;Ljava/lang/String;)Ljava/lang/String;"⟩
abbrev rz0_0_0_0 : Room := { frames := 0, cells := 0, slots := 0, locals := 0 }
abbrev rz1_0_0_13 : Room := { frames := 1, cells := 0, slots := 0, locals := 13 }
abbrev rz1_0_0_18 : Room := { frames := 1, cells := 0, slots := 0, locals := 18 }
abbrev rz2_0_0_33 : Room := { frames := 2, cells := 0, slots := 0, locals := 33 }
abbrev rz1_0_0_14 : Room := { frames := 1, cells := 0, slots := 0, locals := 14 }
abbrev rz2_0_0_29 : Room := { frames := 2, cells := 0, slots := 0, locals := 29 }
abbrev rz1_1_68_18 : Room := { frames := 1, cells := 1, slots := 68, locals := 18 }
abbrev rz3_1_68_48 : Room := { frames := 3, cells := 1, slots := 68, locals := 48 }
abbrev rz5_1_68_76 : Room := { frames := 5, cells := 1, slots := 68, locals := 76 }
abbrev rz1_1_16_12 : Room := { frames := 1, cells := 1, slots := 16, locals := 12 }
abbrev rz2_1_16_25 : Room := { frames := 2, cells := 1, slots := 16, locals := 25 }
abbrev rz1_0_0_12 : Room := { frames := 1, cells := 0, slots := 0, locals := 12 }
abbrev rz1_1_34_18 : Room := { frames := 1, cells := 1, slots := 34, locals := 18 }
abbrev rz2_1_34_34 : Room := { frames := 2, cells := 1, slots := 34, locals := 34 }
abbrev rz3_1_34_49 : Room := { frames := 3, cells := 1, slots := 34, locals := 49 }
abbrev rz4_1_34_65 : Room := { frames := 4, cells := 1, slots := 34, locals := 65 }
abbrev rz5_2_38_79 : Room := { frames := 5, cells := 2, slots := 38, locals := 79 }
abbrev rz1_1_68_12 : Room := { frames := 1, cells := 1, slots := 68, locals := 12 }
abbrev rz2_1_68_24 : Room := { frames := 2, cells := 1, slots := 68, locals := 24 }
abbrev rz3_2_102_40 : Room := { frames := 3, cells := 2, slots := 102, locals := 40 }
abbrev rz4_2_102_60 : Room := { frames := 4, cells := 2, slots := 102, locals := 60 }
abbrev rz5_2_102_77 : Room := { frames := 5, cells := 2, slots := 102, locals := 77 }
abbrev rz1_0_0_15 : Room := { frames := 1, cells := 0, slots := 0, locals := 15 }
abbrev rz3_0_0_43 : Room := { frames := 3, cells := 0, slots := 0, locals := 43 }
abbrev rz4_0_0_60 : Room := { frames := 4, cells := 0, slots := 0, locals := 60 }
abbrev rz6_1_68_90 : Room := { frames := 6, cells := 1, slots := 68, locals := 90 }
abbrev rz7_1_68_105 : Room := { frames := 7, cells := 1, slots := 68, locals := 105 }
abbrev rz8_2_136_120 : Room := { frames := 8, cells := 2, slots := 136, locals := 120 }
abbrev rz9_2_136_134 : Room := { frames := 9, cells := 2, slots := 136, locals := 134 }
abbrev rz2_0_0_30 : Room := { frames := 2, cells := 0, slots := 0, locals := 30 }
abbrev rz3_0_0_44 : Room := { frames := 3, cells := 0, slots := 0, locals := 44 }
abbrev rz2_0_0_27 : Room := { frames := 2, cells := 0, slots := 0, locals := 27 }
abbrev rz3_0_0_41 : Room := { frames := 3, cells := 0, slots := 0, locals := 41 }
abbrev rz5_1_68_74 : Room := { frames := 5, cells := 1, slots := 68, locals := 74 }
abbrev rz6_1_68_88 : Room := { frames := 6, cells := 1, slots := 68, locals := 88 }
abbrev rz10_16_700_150 : Room := { frames := 10, cells := 16, slots := 700, locals := 150 }
theorem dz1 : ∀ x ∈ ([(0, .iload_n 0, 1), (1, .bipush 63, 2), (3, .iand, 1), (4, .istore_n 1, 1), (5, .iload_n 1, 1), (6, .bipush 26, 2), (8, .if_icmp .ge 9, 3), (11, .bipush 65, 2), (13, .iload_n 1, 1), (14, .iadd, 1), (15, .i2c, 1), (16, .ireturn, 1), (17, .iload_n 1, 1), (18, .bipush 52, 2), (20, .if_icmp .ge 12, 3), (23, .bipush 97, 2), (25, .iload_n 1, 1), (26, .bipush 26, 2), (28, .isub, 1), (29, .iadd, 1), (30, .i2c, 1), (31, .ireturn, 1), (32, .iload_n 1, 1), (33, .bipush 62, 2), (35, .if_icmp .ge 12, 3), (38, .bipush 48, 2), (40, .iload_n 1, 1), (41, .bipush 52, 2), (43, .isub, 1), (44, .iadd, 1), (45, .i2c, 1), (46, .ireturn, 1), (47, .iload_n 1, 1), (48, .bipush 62, 2), (50, .if_icmp .ne 6, 3), (53, .bipush 95, 2), (55, .ireturn, 1), (56, .bipush 45, 2), (58, .ireturn, 1)] : List (Nat × Instr × Nat)), decode method_6_code x.1 = .ok (x.2.1, x.2.2) := by decide +kernel
theorem dz2 : ∀ x ∈ ([(0, .aload_n 0, 1), (1, .aload_n 1, 1), (2, .iconst 0, 1), (3, .aload_n 1, 1), (4, .arraylength, 1), (5, .aconst_null, 1), (6, .invokespecial 27, 3), (9, .return_, 1)] : List (Nat × Instr × Nat)), decode jdk_42_method_3_code x.1 = .ok (x.2.1, x.2.2) := by decide +kernel
theorem dz3 : ∀ x ∈ ([(0, .aload_n 0, 1), (1, .invokespecial 1, 3), (4, .iload_n 3, 1), (5, .ifCond .ne 22, 3), (27, .getstatic 38, 3), (30, .ifCond .eq 28, 3), (33, .aload_n 1, 1), (34, .iload_n 2, 1), (35, .iload_n 3, 1), (36, .invokestatic 177, 3), (39, .astore 5, 2), (41, .aload_n 0, 1), (42, .aload 5, 2), (44, .iload_n 3, 1), (45, .invokestatic 47, 3), (48, .putfield 15, 3), (51, .aload_n 0, 1), (52, .aload 5, 2), (54, .putfield 9, 3), (57, .return_, 1)] : List (Nat × Instr × Nat)), decode jdk_42_method_149_code x.1 = .ok (x.2.1, x.2.2) := by decide +kernel
theorem dz5 : ∀ x ∈ ([(0, .iload_n 2, 1), (1, .newarray .byte, 2), (3, .astore_n 3, 1), (4, .aload_n 0, 1), (5, .iload_n 1, 1), (6, .aload_n 3, 1), (7, .iconst 0, 1), (8, .iload_n 2, 1), (9, .invokestatic 115, 3), (12, .istore 4, 2), (14, .iload 4, 2), (16, .iload_n 2, 1), (17, .if_icmp .eq 40, 3), (57, .aload_n 3, 1), (58, .areturn, 1), (20, .aload_n 0, 1), (21, .iload_n 1, 1), (22, .iload_n 2, 1), (23, .invokestatic 119, 3), (26, .astore 5, 2), (28, .aload 5, 2), (30, .iload 4, 2), (32, .invokestatic 71, 3), (35, .sipush 255, 3), (38, .if_icmp .gt 16, 3), (54, .aload 5, 2), (56, .areturn, 1)] : List (Nat × Instr × Nat)), decode jdk_52_method_16_code x.1 = .ok (x.2.1, x.2.2) := by decide +kernel
theorem dz6 : ∀ x ∈ ([(0, .iconst 0, 1), (1, .istore 5, 2), (3, .iload 5, 2), (5, .iload 4, 2), (7, .if_icmp .ge 37, 3), (44, .iload 4, 2), (46, .ireturn, 1), (10, .aload_n 0, 1), (11, .iload_n 1, 1), (12, .caload, 1), (13, .istore 6, 2), (15, .iload 6, 2), (17, .sipush 255, 3), (20, .if_icmp .le 6, 3), (23, .iload 5, 2), (25, .ireturn, 1), (26, .aload_n 2, 1), (27, .iload_n 3, 1), (28, .iload 6, 2), (30, .i2b, 1), (31, .bastore, 1), (32, .iinc 1 1, 3), (35, .iinc 3 1, 3), (38, .iinc 5 1, 3), (41, .goto (-38), 3)] : List (Nat × Instr × Nat)), decode jdk_52_method_21_code x.1 = .ok (x.2.1, x.2.2) := by decide +kernel
theorem dz7 : ∀ x ∈ ([(0, .iload_n 1, 1), (1, .aload_n 0, 1), (2, .arraylength, 1), (3, .isub, 1), (4, .bipush 31, 2), (6, .iushr, 1), (7, .i2b, 1), (8, .ireturn, 1)] : List (Nat × Instr × Nat)), decode jdk_52_method_15_code x.1 = .ok (x.2.1, x.2.2) := by decide +kernel
theorem dz8 : ∀ x ∈ ([(0, .iload_n 0, 1), (1, .invokestatic 7, 3), (4, .ifCond .eq 7, 3), (11, .iconst 1, 1), (12, .ireturn, 1), (7, .iconst 2, 1), (8, .goto 4, 3)] : List (Nat × Instr × Nat)), decode method_3_code x.1 = .ok (x.2.1, x.2.2) := by decide +kernel
theorem dz9 : ∀ x ∈ ([(0, .iload_n 0, 1), (1, .bipush 16, 2), (3, .iushr, 1), (4, .iconst 1, 1), (5, .iand, 1), (6, .ifCond .eq 7, 3), (13, .iconst 0, 1), (14, .ireturn, 1), (9, .iconst 1, 1), (10, .goto 4, 3)] : List (Nat × Instr × Nat)), decode method_2_code x.1 = .ok (x.2.1, x.2.2) := by decide +kernel
theorem dz10 : ∀ x ∈ ([(0, .iload_n 2, 1), (1, .invokestatic 7, 3), (4, .ifCond .eq 36, 3), (40, .aload_n 0, 1), (41, .iload_n 1, 1), (42, .iload_n 2, 1), (43, .invokestatic 17, 3), (46, .castore, 1), (47, .iload_n 1, 1), (48, .iconst 1, 1), (49, .iadd, 1), (50, .ireturn, 1), (7, .aload_n 0, 1), (8, .iload_n 1, 1), (9, .ldc 14, 2), (11, .iload_n 2, 1), (12, .bipush 20, 2), (14, .iushr, 1), (15, .sipush 1023, 3), (18, .iand, 1), (19, .ior, 1), (20, .i2c, 1), (21, .castore, 1), (22, .aload_n 0, 1), (23, .iload_n 1, 1), (24, .iconst 1, 1), (25, .iadd, 1), (26, .ldc 16, 2), (28, .iload_n 2, 1), (29, .sipush 1023, 3), (32, .iand, 1), (33, .ior, 1), (34, .i2c, 1), (35, .castore, 1), (36, .iload_n 1, 1), (37, .iconst 2, 1), (38, .iadd, 1), (39, .ireturn, 1)] : List (Nat × Instr × Nat)), decode method_5_code x.1 = .ok (x.2.1, x.2.2) := by decide +kernel
theorem dz11 : ∀ x ∈ ([(0, .iload_n 0, 1), (1, .ldc 13, 2), (3, .iand, 1), (4, .istore_n 1, 1), (5, .iload_n 1, 1), (6, .ldc 14, 2), (8, .if_icmp .lt 15, 3), (23, .iload_n 1, 1), (24, .i2c, 1), (25, .ireturn, 1), (11, .iload_n 1, 1), (12, .ldc 15, 2), (14, .if_icmp .gt 9, 3), (17, .iload_n 1, 1), (18, .sipush 8192, 3), (21, .ixor, 1), (22, .istore_n 1, 1)] : List (Nat × Instr × Nat)), decode method_4_code x.1 = .ok (x.2.1, x.2.2) := by decide +kernel
theorem dz12 : ∀ x ∈ ([(0, .aload_n 1, 1), (1, .ifnull 10, 3), (4, .aload_n 1, 1), (5, .invokevirtual 43, 3), (8, .ifCond .eq 13, 3), (21, .iconst 0, 1), (22, .istore_n 2, 1), (23, .iconst 0, 1), (24, .istore_n 3, 1), (25, .iload_n 3, 1), (26, .aload_n 1, 1), (27, .invokevirtual 50, 3), (30, .if_icmp .ge 77, 3), (107, .iload_n 2, 1), (108, .sipush 512, 3), (111, .if_icmp .le 13, 3), (124, .new 27, 3), (127, .dup, 1), (128, .invokespecial 29, 3), (131, .ldc 75, 2), (133, .invokevirtual 32, 3), (136, .aload_n 0, 1), (137, .invokevirtual 32, 3), (140, .bipush 58, 2), (142, .invokevirtual 77, 3), (145, .aload_n 1, 1), (146, .invokevirtual 32, 3), (149, .bipush 125, 2), (151, .invokevirtual 77, 3), (154, .invokevirtual 36, 3), (157, .areturn, 1), (33, .iload_n 2, 1), (34, .sipush 512, 3), (37, .if_icmp .gt 70, 3), (40, .aload_n 1, 1), (41, .iload_n 3, 1), (42, .invokevirtual 54, 3), (45, .istore 4, 2), (47, .iload 4, 2), (49, .ldc 60, 2), (51, .if_icmp .lt 37, 3), (88, .iload_n 2, 1), (89, .iload 4, 2), (91, .invokestatic 67, 3), (94, .iadd, 1), (95, .istore_n 2, 1), (96, .iload_n 3, 1), (97, .iload 4, 2), (99, .invokestatic 70, 3), (102, .iadd, 1), (103, .istore_n 3, 1), (104, .goto (-79), 3), (54, .iload 4, 2), (56, .ldc 61, 2), (58, .if_icmp .gt 30, 3)] : List (Nat × Instr × Nat)), decode prog_4_method_3_code x.1 = .ok (x.2.1, x.2.2) := by decide +kernel
theorem dz13 : ∀ x ∈ ([(0, .aload_n 0, 1), (1, .getfield 9, 3), (4, .arraylength, 1), (5, .ifCond .ne 7, 3), (12, .iconst 0, 1), (13, .ireturn, 1)] : List (Nat × Instr × Nat)), decode jdk_42_method_55_code x.1 = .ok (x.2.1, x.2.2) := by decide +kernel
theorem dz14 : ∀ x ∈ ([(0, .aload_n 0, 1), (1, .getfield 9, 3), (4, .arraylength, 1), (5, .aload_n 0, 1), (6, .invokevirtual 335, 3), (9, .ishr, 1), (10, .ireturn, 1)] : List (Nat × Instr × Nat)), decode jdk_42_method_54_code x.1 = .ok (x.2.1, x.2.2) := by decide +kernel
theorem dz15 : ∀ x ∈ ([(0, .getstatic 38, 3), (3, .ifCond .eq 10, 3), (6, .aload_n 0, 1), (7, .getfield 15, 3), (10, .goto 4, 3), (14, .ireturn, 1)] : List (Nat × Instr × Nat)), decode jdk_42_method_152_code x.1 = .ok (x.2.1, x.2.2) := by decide +kernel
theorem dz16 : ∀ x ∈ ([(0, .aload_n 0, 1), (1, .invokevirtual 492, 3), (4, .ifCond .eq 23, 3), (7, .iload_n 1, 1), (8, .aload_n 0, 1), (9, .getfield 9, 3), (12, .arraylength, 1), (13, .invokestatic 499, 3), (16, .aload_n 0, 1), (17, .getfield 9, 3), (20, .iload_n 1, 1), (21, .baload, 1), (22, .sipush 255, 3), (25, .iand, 1), (26, .ireturn, 1), (27, .aload_n 0, 1), (28, .getfield 9, 3), (31, .arraylength, 1), (32, .iconst 1, 1), (33, .ishr, 1), (34, .istore_n 2, 1), (35, .iload_n 1, 1), (36, .iload_n 2, 1), (37, .invokestatic 499, 3), (40, .aload_n 0, 1), (41, .getfield 9, 3), (44, .iload_n 1, 1), (45, .iload_n 2, 1), (46, .invokestatic 502, 3), (49, .ireturn, 1)] : List (Nat × Instr × Nat)), decode jdk_42_method_57_code x.1 = .ok (x.2.1, x.2.2) := by decide +kernel
theorem dz17 : ∀ x ∈ ([(0, .getstatic 38, 3), (3, .ifCond .eq 14, 3), (6, .aload_n 0, 1), (7, .getfield 15, 3), (10, .ifCond .ne 7, 3), (13, .iconst 1, 1), (14, .goto 4, 3), (18, .ireturn, 1), (17, .iconst 0, 1)] : List (Nat × Instr × Nat)), decode jdk_42_method_154_code x.1 = .ok (x.2.1, x.2.2) := by decide +kernel
theorem dz18 : ∀ x ∈ ([(0, .iload_n 0, 1), (1, .iload_n 1, 1), (2, .getstatic 1053, 3), (5, .invokestatic 1059, 3), (8, .pop, 1), (9, .return_, 1)] : List (Nat × Instr × Nat)), decode jdk_42_method_155_code x.1 = .ok (x.2.1, x.2.2) := by decide +kernel
theorem dz19 : ∀ x ∈ ([(0, .iload_n 0, 1), (1, .ifCond .lt 8, 3), (4, .iload_n 0, 1), (5, .iload_n 1, 1), (6, .if_icmp .lt 10, 3), (16, .iload_n 0, 1), (17, .ireturn, 1)] : List (Nat × Instr × Nat)), decode jdk_41_method_11_code x.1 = .ok (x.2.1, x.2.2) := by decide +kernel
theorem dz20 : ∀ x ∈ ([(0, .iload_n 0, 1), (1, .sipush 128, 3), (4, .if_icmp .ge 8, 3), (7, .iconst 1, 1), (8, .istore_n 1, 1), (9, .goto 28, 3), (37, .iload_n 1, 1), (38, .ireturn, 1), (12, .iload_n 0, 1), (13, .sipush 2048, 3), (16, .if_icmp .ge 8, 3), (19, .iconst 2, 1), (20, .istore_n 1, 1), (21, .goto 16, 3), (24, .iload_n 0, 1), (25, .ldc 91, 2), (27, .if_icmp .ge 8, 3), (30, .iconst 3, 1), (31, .istore_n 1, 1), (32, .goto 5, 3), (35, .iconst 4, 1), (36, .istore_n 1, 1)] : List (Nat × Instr × Nat)), decode prog_4_method_5_code x.1 = .ok (x.2.1, x.2.2) := by decide +kernel
theorem dz21 : ∀ x ∈ ([(0, .iload_n 0, 1), (1, .ldc 73, 2), (3, .if_icmp .lt 7, 3), (10, .iconst 1, 1), (11, .ireturn, 1), (6, .iconst 2, 1), (7, .goto 4, 3)] : List (Nat × Instr × Nat)), decode jdk_89_method_18_code x.1 = .ok (x.2.1, x.2.2) := by decide +kernel
theorem dz22 : ∀ x ∈ ([(0, .aload_n 0, 1), (1, .bipush 16, 2), (3, .invokespecial 1, 3), (6, .return_, 1)] : List (Nat × Instr × Nat)), decode jdk_67_method_1_code x.1 = .ok (x.2.1, x.2.2) := by decide +kernel
theorem dz23 : ∀ x ∈ ([(0, .aload_n 0, 1), (1, .invokespecial 3, 3), (4, .getstatic 18, 3), (7, .ifCond .eq 18, 3), (10, .aload_n 0, 1), (11, .iload_n 1, 1), (12, .newarray .byte, 2), (14, .putfield 15, 3), (17, .aload_n 0, 1), (18, .iconst 0, 1), (19, .putfield 22, 3), (22, .goto 16, 3), (38, .return_, 1)] : List (Nat × Instr × Nat)), decode jdk_68_method_2_code x.1 = .ok (x.2.1, x.2.2) := by decide +kernel
theorem dz24 : ∀ x ∈ ([(0, .aload_n 0, 1), (1, .aload_n 1, 1), (2, .invokespecial 29, 3), (5, .pop, 1), (6, .aload_n 0, 1), (7, .areturn, 1)] : List (Nat × Instr × Nat)), decode jdk_67_method_7_code x.1 = .ok (x.2.1, x.2.2) := by decide +kernel
theorem dz25 : ∀ x ∈ ([(0, .aload_n 1, 1), (1, .ifnonnull 8, 3), (9, .aload_n 1, 1), (10, .invokevirtual 32, 3), (13, .istore_n 2, 1), (14, .aload_n 0, 1), (15, .aload_n 0, 1), (16, .getfield 79, 3), (19, .iload_n 2, 1), (20, .iadd, 1), (21, .invokevirtual 100, 3), (24, .aload_n 0, 1), (25, .aload_n 0, 1), (26, .getfield 79, 3), (29, .aload_n 1, 1), (30, .invokevirtual 208, 3), (33, .aload_n 0, 1), (34, .dup, 1), (35, .getfield 79, 3), (38, .iload_n 2, 1), (39, .iadd, 1), (40, .putfield 79, 3), (43, .aload_n 0, 1), (44, .areturn, 1)] : List (Nat × Instr × Nat)), decode jdk_68_method_22_code x.1 = .ok (x.2.1, x.2.2) := by decide +kernel
theorem dz26 : ∀ x ∈ ([(0, .aload_n 0, 1), (1, .getfield 15, 3), (4, .arraylength, 1), (5, .aload_n 0, 1), (6, .getfield 22, 3), (9, .ishr, 1), (10, .istore_n 2, 1), (11, .iload_n 1, 1), (12, .iload_n 2, 1), (13, .isub, 1), (14, .ifCond .le 24, 3), (38, .return_, 1), (17, .aload_n 0, 1), (18, .aload_n 0, 1), (19, .getfield 15, 3), (22, .aload_n 0, 1), (23, .iload_n 1, 1), (24, .invokevirtual 104, 3), (27, .aload_n 0, 1), (28, .getfield 22, 3), (31, .ishl, 1), (32, .invokestatic 108, 3), (35, .putfield 15, 3)] : List (Nat × Instr × Nat)), decode jdk_68_method_9_code x.1 = .ok (x.2.1, x.2.2) := by decide +kernel
theorem dz27 : ∀ x ∈ ([(0, .aload_n 0, 1), (1, .aload_n 2, 1), (2, .invokevirtual 397, 3), (5, .aload_n 2, 1), (6, .aload_n 0, 1), (7, .getfield 15, 3), (10, .iload_n 1, 1), (11, .aload_n 0, 1), (12, .getfield 22, 3), (15, .invokevirtual 399, 3), (18, .return_, 1)] : List (Nat × Instr × Nat)), decode jdk_68_method_73_code x.1 = .ok (x.2.1, x.2.2) := by decide +kernel
theorem dz28 : ∀ x ∈ ([(0, .getstatic 18, 3), (3, .ifCond .eq 18, 3), (6, .aload_n 0, 1), (7, .getfield 22, 3), (10, .aload_n 1, 1), (11, .invokevirtual 40, 3), (14, .if_icmp .eq 7, 3), (21, .return_, 1), (17, .aload_n 0, 1), (18, .invokevirtual 195, 3)] : List (Nat × Instr × Nat)), decode jdk_68_method_71_code x.1 = .ok (x.2.1, x.2.2) := by decide +kernel
theorem dz29 : ∀ x ∈ ([(0, .aload_n 0, 1), (1, .invokevirtual 335, 3), (4, .iload_n 3, 1), (5, .if_icmp .ne 23, 3), (8, .aload_n 0, 1), (9, .getfield 9, 3), (12, .iconst 0, 1), (13, .aload_n 1, 1), (14, .iload_n 2, 1), (15, .iload_n 3, 1), (16, .ishl, 1), (17, .aload_n 0, 1), (18, .getfield 9, 3), (21, .arraylength, 1), (22, .invokestatic 212, 3), (25, .goto 18, 3), (43, .return_, 1)] : List (Nat × Instr × Nat)), decode jdk_42_method_147_code x.1 = .ok (x.2.1, x.2.2) := by decide +kernel
theorem dz30 : ∀ x ∈ ([(0, .aload_n 0, 1), (1, .iload_n 1, 1), (2, .invokespecial 50, 3), (5, .pop, 1), (6, .aload_n 0, 1), (7, .areturn, 1)] : List (Nat × Instr × Nat)), decode jdk_67_method_14_code x.1 = .ok (x.2.1, x.2.2) := by decide +kernel
theorem dz31 : ∀ x ∈ ([(0, .aload_n 0, 1), (1, .aload_n 0, 1), (2, .getfield 79, 3), (5, .iconst 1, 1), (6, .iadd, 1), (7, .invokevirtual 100, 3), (10, .aload_n 0, 1), (11, .invokevirtual 83, 3), (14, .ifCond .eq 31, 3), (17, .iload_n 1, 1), (18, .invokestatic 191, 3), (21, .ifCond .eq 24, 3), (24, .aload_n 0, 1), (25, .getfield 15, 3), (28, .aload_n 0, 1), (29, .dup, 1), (30, .getfield 79, 3), (33, .dup_x1, 1), (34, .iconst 1, 1), (35, .iadd, 1), (36, .putfield 79, 3), (39, .iload_n 1, 1), (40, .i2b, 1), (41, .bastore, 1), (42, .goto 33, 3), (75, .aload_n 0, 1), (76, .areturn, 1), (45, .aload_n 0, 1), (46, .invokevirtual 83, 3), (49, .ifCond .eq 7, 3), (56, .aload_n 0, 1), (57, .getfield 15, 3), (60, .aload_n 0, 1), (61, .dup, 1), (62, .getfield 79, 3), (65, .dup_x1, 1), (66, .iconst 1, 1), (67, .iadd, 1), (68, .putfield 79, 3), (71, .iload_n 1, 1), (72, .invokestatic 197, 3)] : List (Nat × Instr × Nat)), decode jdk_68_method_31_code x.1 = .ok (x.2.1, x.2.2) := by decide +kernel
theorem dz32 : ∀ x ∈ ([(0, .getstatic 18, 3), (3, .ifCond .eq 14, 3), (6, .aload_n 0, 1), (7, .getfield 22, 3), (10, .ifCond .ne 7, 3), (13, .iconst 1, 1), (14, .goto 4, 3), (18, .ireturn, 1), (17, .iconst 0, 1)] : List (Nat × Instr × Nat)), decode jdk_68_method_68_code x.1 = .ok (x.2.1, x.2.2) := by decide +kernel
theorem dz33 : ∀ x ∈ ([(0, .iload_n 0, 1), (1, .sipush 255, 3), (4, .if_icmp .gt 7, 3), (7, .iconst 1, 1), (8, .goto 4, 3), (12, .ireturn, 1)] : List (Nat × Instr × Nat)), decode jdk_43_method_3_code x.1 = .ok (x.2.1, x.2.2) := by decide +kernel
theorem dz34 : ∀ x ∈ ([(0, .new 18, 3), (3, .dup, 1), (4, .aload_n 0, 1), (5, .invokespecial 137, 3), (8, .areturn, 1)] : List (Nat × Instr × Nat)), decode jdk_67_method_42_code x.1 = .ok (x.2.1, x.2.2) := by decide +kernel
theorem dz35 : ∀ x ∈ ([(0, .aload_n 0, 1), (1, .aload_n 1, 1), (2, .aconst_null, 1), (3, .invokespecial 489, 3), (6, .return_, 1)] : List (Nat × Instr × Nat)), decode jdk_42_method_53_code x.1 = .ok (x.2.1, x.2.2) := by decide +kernel
theorem dz36 : ∀ x ∈ ([(0, .aload_n 0, 1), (1, .invokespecial 1, 3), (4, .aload_n 1, 1), (5, .invokevirtual 552, 3), (8, .astore_n 3, 1), (9, .aload_n 1, 1), (10, .invokevirtual 549, 3), (13, .istore 4, 2), (15, .aload_n 1, 1), (16, .invokevirtual 1047, 3), (19, .ifCond .eq 22, 3), (22, .aload_n 0, 1), (23, .iconst 0, 1), (24, .putfield 15, 3), (27, .aload_n 0, 1), (28, .aload_n 3, 1), (29, .iconst 0, 1), (30, .iload 4, 2), (32, .invokestatic 54, 3), (35, .putfield 9, 3), (38, .goto 59, 3), (97, .return_, 1), (41, .getstatic 38, 3), (44, .ifCond .eq 35, 3), (47, .aload_n 1, 1), (48, .getfield 1048, 3), (51, .ifCond .eq 28, 3), (79, .aload_n 0, 1), (80, .iconst 1, 1), (81, .putfield 15, 3), (84, .aload_n 0, 1), (85, .aload_n 3, 1), (86, .iconst 0, 1), (87, .iload 4, 2), (89, .iconst 1, 1), (90, .ishl, 1), (91, .invokestatic 54, 3), (94, .putfield 9, 3)] : List (Nat × Instr × Nat)), decode jdk_42_method_150_code x.1 = .ok (x.2.1, x.2.2) := by decide +kernel
theorem dz37 : ∀ x ∈ ([(0, .aload_n 0, 1), (1, .getfield 15, 3), (4, .areturn, 1)] : List (Nat × Instr × Nat)), decode jdk_68_method_64_code x.1 = .ok (x.2.1, x.2.2) := by decide +kernel
theorem dz38 : ∀ x ∈ ([(0, .aload_n 0, 1), (1, .invokespecial 343, 3), (4, .ireturn, 1)] : List (Nat × Instr × Nat)), decode jdk_67_method_93_code x.1 = .ok (x.2.1, x.2.2) := by decide +kernel
theorem dz39 : ∀ x ∈ ([(0, .aload_n 0, 1), (1, .getfield 79, 3), (4, .ireturn, 1)] : List (Nat × Instr × Nat)), decode jdk_68_method_6_code x.1 = .ok (x.2.1, x.2.2) := by decide +kernel
theorem dz40 : ∀ x ∈ ([(0, .iload_n 1, 1), (1, .ifCond .ne 9, 3), (4, .iload_n 2, 1), (5, .aload_n 0, 1), (6, .arraylength, 1), (7, .if_icmp .eq 10, 3), (10, .aload_n 0, 1), (11, .iload_n 1, 1), (12, .iload_n 2, 1), (13, .invokestatic 339, 3), (16, .areturn, 1), (17, .aload_n 0, 1), (18, .invokevirtual 310, 3), (21, .checkcast 311, 3), (24, .areturn, 1)] : List (Nat × Instr × Nat)), decode jdk_65_method_132_code x.1 = .ok (x.2.1, x.2.2) := by decide +kernel
theorem dz41 : ∀ x ∈ ([(0, .iload_n 1, 1), (1, .iload_n 2, 1), (2, .invokestatic 343, 3), (5, .iload_n 2, 1), (6, .iload_n 1, 1), (7, .isub, 1), (8, .istore_n 3, 1), (9, .iload_n 3, 1), (10, .newarray .byte, 2), (12, .astore 4, 2), (14, .aload_n 0, 1), (15, .iload_n 1, 1), (16, .aload 4, 2), (18, .iconst 0, 1), (19, .aload_n 0, 1), (20, .arraylength, 1), (21, .iload_n 1, 1), (22, .isub, 1), (23, .iload_n 3, 1), (24, .invokestatic 304, 3), (27, .invokestatic 150, 3), (30, .aload 4, 2), (32, .areturn, 1)] : List (Nat × Instr × Nat)), decode jdk_65_method_133_code x.1 = .ok (x.2.1, x.2.2) := by decide +kernel
theorem dz42 : ∀ x ∈ ([(0, .iload_n 1, 1), (1, .iload_n 0, 1), (2, .if_icmp .ge 35, 3), (37, .return_, 1)] : List (Nat × Instr × Nat)), decode jdk_65_method_131_code x.1 = .ok (x.2.1, x.2.2) := by decide +kernel
theorem dz43 : ∀ x ∈ ([(0, .iload_n 0, 1), (1, .iload_n 1, 1), (2, .if_icmp .gt 7, 3), (9, .iload_n 1, 1), (10, .ireturn, 1), (5, .iload_n 0, 1), (6, .goto 4, 3)] : List (Nat × Instr × Nat)), decode jdk_29_method_69_code x.1 = .ok (x.2.1, x.2.2) := by decide +kernel
theorem dz44 : ∀ x ∈ ([(0, .aload_n 0, 1), (1, .aload_n 1, 1), (2, .if_acmp .ne 5, 3), (5, .iconst 1, 1), (6, .ireturn, 1), (7, .aload_n 1, 1), (8, .instanceof 10, 3), (11, .ifCond .eq 43, 3), (14, .aload_n 1, 1), (15, .checkcast 10, 3), (18, .astore_n 2, 1), (19, .getstatic 38, 3), (22, .ifCond .eq 14, 3), (25, .aload_n 0, 1), (26, .getfield 15, 3), (29, .aload_n 2, 1), (30, .getfield 15, 3), (33, .if_icmp .ne 21, 3), (36, .aload_n 0, 1), (37, .getfield 9, 3), (40, .aload_n 2, 1), (41, .getfield 9, 3), (44, .invokestatic 541, 3), (47, .ifCond .eq 7, 3), (50, .iconst 1, 1), (51, .goto 4, 3), (55, .ireturn, 1)] : List (Nat × Instr × Nat)), decode jdk_42_method_66_code x.1 = .ok (x.2.1, x.2.2) := by decide +kernel
theorem dz45 : ∀ x ∈ ([(0, .aload_n 0, 1), (1, .arraylength, 1), (2, .aload_n 1, 1), (3, .arraylength, 1), (4, .if_icmp .ne 30, 3), (7, .iconst 0, 1), (8, .istore_n 2, 1), (9, .iload_n 2, 1), (10, .aload_n 0, 1), (11, .arraylength, 1), (12, .if_icmp .ge 20, 3), (32, .iconst 1, 1), (33, .ireturn, 1), (15, .aload_n 0, 1), (16, .iload_n 2, 1), (17, .baload, 1), (18, .aload_n 1, 1), (19, .iload_n 2, 1), (20, .baload, 1), (21, .if_icmp .eq 5, 3), (26, .iinc 2 1, 3), (29, .goto (-20), 3)] : List (Nat × Instr × Nat)), decode jdk_43_method_13_code x.1 = .ok (x.2.1, x.2.2) := by decide +kernel
theorem dz46 : ∀ x ∈ ([(0, .iload_n 2, 1), (1, .invokestatic 107, 3), (4, .astore_n 3, 1), (5, .iconst 0, 1), (6, .istore 4, 2), (8, .iload 4, 2), (10, .iload_n 2, 1), (11, .if_icmp .ge 21, 3), (32, .aload_n 3, 1), (33, .areturn, 1), (14, .aload_n 3, 1), (15, .iload 4, 2), (17, .aload_n 0, 1), (18, .iload_n 1, 1), (19, .caload, 1), (20, .invokestatic 111, 3), (23, .iinc 1 1, 3), (26, .iinc 4 1, 3), (29, .goto (-21), 3)] : List (Nat × Instr × Nat)), decode jdk_52_method_14_code x.1 = .ok (x.2.1, x.2.2) := by decide +kernel
theorem dz47 : ∀ x ∈ ([(0, .iload_n 0, 1), (1, .invokestatic 11, 3), (4, .newarray .byte, 2), (6, .areturn, 1)] : List (Nat × Instr × Nat)), decode jdk_52_method_2_code x.1 = .ok (x.2.1, x.2.2) := by decide +kernel
theorem dz48 : ∀ x ∈ ([(0, .iload_n 0, 1), (1, .ifCond .ge 11, 3), (12, .iload_n 0, 1), (13, .ldc 20, 2), (15, .if_icmp .lt 40, 3), (55, .iload_n 0, 1), (56, .iconst 1, 1), (57, .ishl, 1), (58, .ireturn, 1)] : List (Nat × Instr × Nat)), decode jdk_52_method_3_code x.1 = .ok (x.2.1, x.2.2) := by decide +kernel
theorem dz49 : ∀ x ∈ ([(0, .getstatic 44, 3), (3, .ifCond .ne 25, 3), (28, .iload_n 1, 1), (29, .iconst 1, 1), (30, .ishl, 1), (31, .istore_n 1, 1), (32, .aload_n 0, 1), (33, .iload_n 1, 1), (34, .iinc 1 1, 3), (37, .iload_n 2, 1), (38, .getstatic 59, 3), (41, .ishr, 1), (42, .i2b, 1), (43, .bastore, 1), (44, .aload_n 0, 1), (45, .iload_n 1, 1), (46, .iload_n 2, 1), (47, .getstatic 63, 3), (50, .ishr, 1), (51, .i2b, 1), (52, .bastore, 1), (53, .return_, 1)] : List (Nat × Instr × Nat)), decode jdk_52_method_4_code x.1 = .ok (x.2.1, x.2.2) := by decide +kernel
theorem dz50 : ∀ x ∈ ([(0, .getstatic 44, 3), (3, .ifCond .ne 25, 3), (28, .iload_n 1, 1), (29, .iconst 1, 1), (30, .ishl, 1), (31, .istore_n 1, 1), (32, .aload_n 0, 1), (33, .iload_n 1, 1), (34, .iinc 1 1, 3), (37, .baload, 1), (38, .sipush 255, 3), (41, .iand, 1), (42, .getstatic 59, 3), (45, .ishl, 1), (46, .aload_n 0, 1), (47, .iload_n 1, 1), (48, .baload, 1), (49, .sipush 255, 3), (52, .iand, 1), (53, .getstatic 63, 3), (56, .ishl, 1), (57, .ior, 1), (58, .i2c, 1), (59, .ireturn, 1)] : List (Nat × Instr × Nat)), decode jdk_52_method_5_code x.1 = .ok (x.2.1, x.2.2) := by decide +kernel
theorem dz51 : ∀ x ∈ ([(0, .aload_n 0, 1), (1, .iload_n 1, 1), (2, .iload_n 2, 1), (3, .iconst 0, 1), (4, .invokestatic 88, 3), (7, .ireturn, 1)] : List (Nat × Instr × Nat)), decode jdk_52_method_8_code x.1 = .ok (x.2.1, x.2.2) := by decide +kernel
theorem dz52 : ∀ x ∈ ([(0, .getstatic 44, 3), (3, .ifCond .ne 16, 3), (19, .iload_n 3, 1), (20, .ifCond .eq 8, 3), (28, .aload_n 0, 1), (29, .iload_n 1, 1), (30, .invokestatic 71, 3), (33, .istore 4, 2), (35, .iload 4, 2), (37, .invokestatic 75, 3), (40, .ifCond .eq 43, 3), (83, .iload 4, 2), (85, .ireturn, 1), (43, .iinc 1 1, 3), (46, .iload_n 1, 1), (47, .iload_n 2, 1), (48, .if_icmp .ge 35, 3), (51, .iload_n 3, 1), (52, .ifCond .eq 8, 3), (60, .aload_n 0, 1), (61, .iload_n 1, 1), (62, .invokestatic 71, 3), (65, .istore 5, 2), (67, .iload 5, 2), (69, .invokestatic 81, 3), (72, .ifCond .eq 11, 3), (75, .iload 4, 2), (77, .iload 5, 2), (79, .invokestatic 84, 3), (82, .ireturn, 1)] : List (Nat × Instr × Nat)), decode jdk_52_method_7_code x.1 = .ok (x.2.1, x.2.2) := by decide +kernel
theorem dz53 : ∀ x ∈ ([(0, .iload_n 0, 1), (1, .ldc 75, 2), (3, .if_icmp .lt 13, 3), (16, .iconst 0, 1), (17, .ireturn, 1), (6, .iload_n 0, 1), (7, .ldc 76, 2), (9, .if_icmp .ge 7, 3), (12, .iconst 1, 1), (13, .goto 4, 3)] : List (Nat × Instr × Nat)), decode jdk_89_method_14_code x.1 = .ok (x.2.1, x.2.2) := by decide +kernel
theorem dz54 : ∀ x ∈ ([(0, .iload_n 0, 1), (1, .ldc 76, 2), (3, .if_icmp .lt 13, 3), (16, .iconst 0, 1), (17, .ireturn, 1), (6, .iload_n 0, 1), (7, .ldc 77, 2), (9, .if_icmp .ge 7, 3), (12, .iconst 1, 1), (13, .goto 4, 3)] : List (Nat × Instr × Nat)), decode jdk_89_method_15_code x.1 = .ok (x.2.1, x.2.2) := by decide +kernel
theorem dz55 : ∀ x ∈ ([(0, .iload_n 0, 1), (1, .bipush 10, 2), (3, .ishl, 1), (4, .iload_n 1, 1), (5, .iadd, 1), (6, .ldc 85, 2), (8, .iadd, 1), (9, .ireturn, 1)] : List (Nat × Instr × Nat)), decode jdk_89_method_19_code x.1 = .ok (x.2.1, x.2.2) := by decide +kernel
theorem dz56 : ∀ x ∈ ([(0, .aload_n 0, 1), (1, .invokevirtual 83, 3), (4, .ifCond .ne 4, 3), (8, .aload_n 0, 1), (9, .getfield 15, 3), (12, .arraylength, 1), (13, .invokestatic 26, 3), (16, .astore_n 1, 1), (17, .aload_n 0, 1), (18, .getfield 15, 3), (21, .iconst 0, 1), (22, .aload_n 1, 1), (23, .iconst 0, 1), (24, .aload_n 0, 1), (25, .getfield 79, 3), (28, .invokestatic 125, 3), (31, .aload_n 0, 1), (32, .aload_n 1, 1), (33, .putfield 15, 3), (36, .aload_n 0, 1), (37, .iconst 1, 1), (38, .putfield 22, 3), (41, .return_, 1)] : List (Nat × Instr × Nat)), decode jdk_68_method_11_code x.1 = .ok (x.2.1, x.2.2) := by decide +kernel
theorem dz57 : ∀ x ∈ ([(0, .aload_n 0, 1), (1, .iload_n 1, 1), (2, .aload_n 2, 1), (3, .iload_n 3, 1), (4, .iload 4, 2), (6, .invokestatic 240, 3), (9, .return_, 1)] : List (Nat × Instr × Nat)), decode jdk_43_method_50_code x.1 = .ok (x.2.1, x.2.2) := by decide +kernel
theorem dz58 : ∀ x ∈ ([(0, .iload_n 3, 1), (1, .iload 4, 2), (3, .aload_n 2, 1), (4, .invokestatic 173, 3), (7, .iconst 0, 1), (8, .istore 5, 2), (10, .iload 5, 2), (12, .iload 4, 2), (14, .if_icmp .ge 27, 3), (41, .return_, 1), (17, .aload_n 2, 1), (18, .iload_n 3, 1), (19, .iinc 3 1, 3), (22, .aload_n 0, 1), (23, .iload_n 1, 1), (24, .iinc 1 1, 3), (27, .baload, 1), (28, .sipush 255, 3), (31, .iand, 1), (32, .invokestatic 111, 3), (35, .iinc 5 1, 3), (38, .goto (-28), 3)] : List (Nat × Instr × Nat)), decode jdk_52_method_86_code x.1 = .ok (x.2.1, x.2.2) := by decide +kernel
theorem dz59 : ∀ x ∈ ([(0, .iload_n 0, 1), (1, .iload_n 1, 1), (2, .aload_n 2, 1), (3, .invokestatic 48, 3), (6, .invokestatic 419, 3), (9, .pop, 1), (10, .return_, 1)] : List (Nat × Instr × Nat)), decode jdk_52_method_94_code x.1 = .ok (x.2.1, x.2.2) := by decide +kernel
theorem dz60 : ∀ x ∈ ([(0, .aload_n 0, 1), (1, .arraylength, 1), (2, .iconst 1, 1), (3, .ishr, 1), (4, .ireturn, 1)] : List (Nat × Instr × Nat)), decode jdk_52_method_6_code x.1 = .ok (x.2.1, x.2.2) := by decide +kernel
theorem dz61 : ∀ x ∈ ([(0, .iload_n 0, 1), (1, .iload_n 1, 1), (2, .iload_n 2, 1), (3, .getstatic 1053, 3), (6, .invokestatic 1065, 3), (9, .ireturn, 1)] : List (Nat × Instr × Nat)), decode jdk_42_method_157_code x.1 = .ok (x.2.1, x.2.2) := by decide +kernel
theorem dz62 : ∀ x ∈ ([(0, .iload_n 2, 1), (1, .iload_n 0, 1), (2, .ior, 1), (3, .iload_n 1, 1), (4, .ior, 1), (5, .ifCond .lt 10, 3), (8, .iload_n 1, 1), (9, .iload_n 2, 1), (10, .iload_n 0, 1), (11, .isub, 1), (12, .if_icmp .le 11, 3), (23, .iload_n 0, 1), (24, .ireturn, 1)] : List (Nat × Instr × Nat)), decode jdk_41_method_13_code x.1 = .ok (x.2.1, x.2.2) := by decide +kernel
theorem dz63 : ∀ x ∈ ([(0, .iload_n 1, 1), (1, .aload_n 0, 1), (2, .invokestatic 67, 3), (5, .aload_n 0, 1), (6, .iload_n 1, 1), (7, .iload_n 2, 1), (8, .invokestatic 111, 3), (11, .return_, 1)] : List (Nat × Instr × Nat)), decode jdk_52_method_71_code x.1 = .ok (x.2.1, x.2.2) := by decide +kernel
theorem dz64 : ∀ x ∈ ([(0, .iload_n 0, 1), (1, .aload_n 1, 1), (2, .invokestatic 48, 3), (5, .invokestatic 414, 3), (8, .return_, 1)] : List (Nat × Instr × Nat)), decode jdk_52_method_91_code x.1 = .ok (x.2.1, x.2.2) := by decide +kernel
theorem dz65 : ∀ x ∈ ([(0, .aload_n 0, 1), (1, .getfield 15, 3), (4, .arraylength, 1), (5, .istore_n 2, 1), (6, .iload_n 1, 1), (7, .aload_n 0, 1), (8, .getfield 22, 3), (11, .ishl, 1), (12, .istore_n 3, 1), (13, .iload_n 3, 1), (14, .iload_n 2, 1), (15, .isub, 1), (16, .istore 4, 2), (18, .iload_n 2, 1), (19, .iload 4, 2), (21, .iload_n 2, 1), (22, .iconst 2, 1), (23, .aload_n 0, 1), (24, .getfield 22, 3), (27, .ishl, 1), (28, .iadd, 1), (29, .invokestatic 114, 3), (32, .istore 5, 2), (34, .iload 5, 2), (36, .ldc 39, 2), (38, .if_icmp .ne 13, 3), (51, .iload 5, 2), (53, .aload_n 0, 1), (54, .getfield 22, 3), (57, .ishr, 1), (58, .ireturn, 1)] : List (Nat × Instr × Nat)), decode jdk_68_method_10_code x.1 = .ok (x.2.1, x.2.2) := by decide +kernel
theorem dz66 : ∀ x ∈ ([(0, .iload_n 0, 1), (1, .iload_n 1, 1), (2, .iload_n 2, 1), (3, .invokestatic 194, 3), (6, .iadd, 1), (7, .istore_n 3, 1), (8, .iconst 0, 1), (9, .iload_n 3, 1), (10, .if_icmp .ge 11, 3), (13, .iload_n 3, 1), (14, .ldc 200, 2), (16, .if_icmp .gt 5, 3), (19, .iload_n 3, 1), (20, .ireturn, 1)] : List (Nat × Instr × Nat)), decode jdk_48_method_27_code x.1 = .ok (x.2.1, x.2.2) := by decide +kernel
theorem dz67 : ∀ x ∈ ([(0, .iload_n 0, 1), (1, .iload_n 1, 1), (2, .if_icmp .lt 7, 3), (9, .iload_n 1, 1), (10, .ireturn, 1), (5, .iload_n 0, 1), (6, .goto 4, 3)] : List (Nat × Instr × Nat)), decode jdk_29_method_65_code x.1 = .ok (x.2.1, x.2.2) := by decide +kernel
theorem dz68 : ∀ x ∈ ([(0, .iload_n 1, 1), (1, .aload_n 0, 1), (2, .arraylength, 1), (3, .if_icmp .ne 11, 3), (14, .iload_n 1, 1), (15, .newarray .byte, 2), (17, .astore_n 2, 1), (18, .aload_n 0, 1), (19, .iconst 0, 1), (20, .aload_n 2, 1), (21, .iconst 0, 1), (22, .aload_n 0, 1), (23, .arraylength, 1), (24, .iload_n 1, 1), (25, .invokestatic 304, 3), (28, .invokestatic 150, 3), (31, .aload_n 2, 1), (32, .areturn, 1)] : List (Nat × Instr × Nat)), decode jdk_65_method_121_code x.1 = .ok (x.2.1, x.2.2) := by decide +kernel
theorem pn_15 : plainName "java/lang/String" = true := by first | (simp [plainName, overriddenIn]; done) | decide +kernel
theorem pn_14 : plainName "java/lang/String" = true := by first | (simp [plainName, overriddenIn]; done) | decide +kernel
theorem pd___B : parseMethodDescriptor "()B" = some ⟨[], some .byte⟩ := by decide +kernel
theorem pn_29 : plainName "java/lang/String" = true := by first | (simp [plainName, overriddenIn]; done) | decide +kernel
theorem pn_28 : plainName "java/lang/AbstractStringBuilder" = true := by first | (simp [plainName, overriddenIn]; done) | decide +kernel
theorem pn_27 : plainName "java/lang/AbstractStringBuilder" = true := by first | (simp [plainName, overriddenIn]; done) | decide +kernel
theorem pd__Ljava_lang_String__V : parseMethodDescriptor "(Ljava/lang/String;)V" = some ⟨[(.object "java/lang/String")], none⟩ := by decide +kernel
theorem pd___BIB_V : parseMethodDescriptor "([BIB)V" = some ⟨[(.array .byte), .int, .byte], none⟩ := by decide +kernel
theorem ef_rmMax (m : MethodId) (y_0 : Int32) (y_1 : Int32) : entryFrame m #[(.int y_0), (.int y_1)] 2 = mkF m 0 #[.val (.int y_0), .val (.int y_1)] [] := by first | (simp [entryFrame, mkF, argsToLocals, Value.category]; done) | rfl
theorem ef_rmMin (m : MethodId) (y_0 : Int32) (y_1 : Int32) : entryFrame m #[(.int y_0), (.int y_1)] 2 = mkF m 0 #[.val (.int y_0), .val (.int y_1)] [] := by first | (simp [entryFrame, mkF, argsToLocals, Value.category]; done) | rfl
theorem pn_66 : plainName "jdk/internal/util/ArraysSupport" = true := by first | (simp [plainName, overriddenIn]; done) | decide +kernel
theorem ef_rmNL (m : MethodId) (y_0 : Int32) (y_1 : Int32) (y_2 : Int32) : entryFrame m #[(.int y_0), (.int y_1), (.int y_2)] 4 = mkF m 0 #[.val (.int y_0), .val (.int y_1), .val (.int y_2), .unset] [] := by first | (simp [entryFrame, mkF, argsToLocals, Value.category]; done) | rfl
theorem pd__II_I : parseMethodDescriptor "(II)I" = some ⟨[.int, .int], some .int⟩ := by decide +kernel
theorem pn_65 : plainName "java/lang/AbstractStringBuilder" = true := by first | (simp [plainName, overriddenIn]; done) | decide +kernel
theorem pd__III_I : parseMethodDescriptor "(III)I" = some ⟨[.int, .int, .int], some .int⟩ := by decide +kernel
theorem pn_68 : plainName "java/util/Arrays" = true := by first | (simp [plainName, overriddenIn]; done) | decide +kernel
theorem ef_rmCO (m : MethodId) (a1 : Addr) (y_1 : Int32) : entryFrame m #[(.ref a1), (.int y_1)] 3 = mkF m 0 #[.val (.ref a1), .val (.int y_1), .unset] [] := by first | (simp [entryFrame, mkF, argsToLocals, Value.category]; done) | rfl
theorem pn_26 : plainName "java/lang/AbstractStringBuilder" = true := by first | (simp [plainName, overriddenIn]; done) | decide +kernel
theorem pd__I_I : parseMethodDescriptor "(I)I" = some ⟨[.int], some .int⟩ := by decide +kernel
theorem pd___BI__B : parseMethodDescriptor "([BI)[B" = some ⟨[(.array .byte), .int], some (.array .byte)⟩ := by decide +kernel
theorem pn_25 : plainName "java/lang/AbstractStringBuilder" = true := by first | (simp [plainName, overriddenIn]; done) | decide +kernel
theorem pd___I : parseMethodDescriptor "()I" = some ⟨[], some .int⟩ := by decide +kernel
theorem pd__I_V : parseMethodDescriptor "(I)V" = some ⟨[.int], none⟩ := by decide +kernel
theorem pd__ILjava_lang_String__V : parseMethodDescriptor "(ILjava/lang/String;)V" = some ⟨[.int, (.object "java/lang/String")], none⟩ := by decide +kernel
theorem pn_24 : plainName "java/lang/StringBuilder" = true := by first | (simp [plainName, overriddenIn]; done) | decide +kernel
theorem pd__Ljava_lang_String__Ljava_lang_AbstractStringBuilder_ : parseMethodDescriptor "(Ljava/lang/String;)Ljava/lang/AbstractStringBuilder;" = some ⟨[(.object "java/lang/String")], some (.object "java/lang/AbstractStringBuilder")⟩ := by decide +kernel
theorem pn_23 : plainName "java/lang/AbstractStringBuilder" = true := by first | (simp [plainName, overriddenIn]; done) | decide +kernel
theorem ef_rmI1 (m : MethodId) (a1 : Addr) : entryFrame m #[(.ref a1), (.int (16 : Int32))] 2 = mkF m 0 #[.val (.ref a1), .val (.int (16 : Int32))] [] := by first | (simp [entryFrame, mkF, argsToLocals, Value.category]; done) | rfl
theorem pn_22 : plainName "java/lang/StringBuilder" = true := by first | (simp [plainName, overriddenIn]; done) | decide +kernel
theorem ef_rmI0 (m : MethodId) (a1 : Addr) : entryFrame m #[(.ref a1)] 1 = mkF m 0 #[.val (.ref a1)] [] := by first | (simp [entryFrame, mkF, argsToLocals, Value.category]; done) | rfl
theorem pn_37 : plainName "java/lang/AbstractStringBuilder" = true := by first | (simp [plainName, overriddenIn]; done) | decide +kernel
theorem ef_rmGV (m : MethodId) (a1 : Addr) : entryFrame m #[(.ref a1)] 1 = mkF m 0 #[.val (.ref a1)] [] := by first | (simp [entryFrame, mkF, argsToLocals, Value.category]; done) | rfl
theorem pn_39 : plainName "java/lang/AbstractStringBuilder" = true := by first | (simp [plainName, overriddenIn]; done) | decide +kernel
theorem ef_rmAL (m : MethodId) (a1 : Addr) : entryFrame m #[(.ref a1)] 1 = mkF m 0 #[.val (.ref a1)] [] := by first | (simp [entryFrame, mkF, argsToLocals, Value.category]; done) | rfl
theorem pn_38 : plainName "java/lang/StringBuilder" = true := by first | (simp [plainName, overriddenIn]; done) | decide +kernel
theorem ef_rmSL (m : MethodId) (a1 : Addr) : entryFrame m #[(.ref a1)] 1 = mkF m 0 #[.val (.ref a1)] [] := by first | (simp [entryFrame, mkF, argsToLocals, Value.category]; done) | rfl
theorem pn_32 : plainName "java/lang/AbstractStringBuilder" = true := by first | (simp [plainName, overriddenIn]; done) | decide +kernel
theorem pn_42 : plainName "java/util/Arrays" = true := by first | (simp [plainName, overriddenIn]; done) | decide +kernel
theorem ef_rmCL (m : MethodId) (y_0 : Int32) (y_1 : Int32) : entryFrame m #[(.int y_0), (.int y_1)] 2 = mkF m 0 #[.val (.int y_0), .val (.int y_1)] [] := by first | (simp [entryFrame, mkF, argsToLocals, Value.category]; done) | rfl
theorem pn_41 : plainName "java/util/Arrays" = true := by first | (simp [plainName, overriddenIn]; done) | decide +kernel
theorem ef_rmCRB (m : MethodId) (a1 : Addr) (y_1 : Int32) (y_2 : Int32) : entryFrame m #[(.ref a1), (.int y_1), (.int y_2)] 5 = mkF m 0 #[.val (.ref a1), .val (.int y_1), .val (.int y_2), .unset, .unset] [] := by first | (simp [entryFrame, mkF, argsToLocals, Value.category]; done) | rfl
theorem pd__II_V : parseMethodDescriptor "(II)V" = some ⟨[.int, .int], none⟩ := by decide +kernel
theorem pn_40 : plainName "java/util/Arrays" = true := by first | (simp [plainName, overriddenIn]; done) | decide +kernel
theorem ef_rmCR (m : MethodId) (a1 : Addr) (y_1 : Int32) (y_2 : Int32) : entryFrame m #[(.ref a1), (.int y_1), (.int y_2)] 3 = mkF m 0 #[.val (.ref a1), .val (.int y_1), .val (.int y_2)] [] := by first | (simp [entryFrame, mkF, argsToLocals, Value.category]; done) | rfl
theorem pd___BII__B : parseMethodDescriptor "([BII)[B" = some ⟨[(.array .byte), .int, .int], some (.array .byte)⟩ := by decide +kernel
theorem ef_rmCRc (m : MethodId) (a1 : Addr) (y_1 : Int32) (y_2 : Int32) : entryFrame m #[(.ref a1), (.int y_1), (.int y_2)] 3 = mkF m 0 #[.val (.ref a1), .val (.int y_1), .val (.int y_2)] [] := by first | (simp [entryFrame, mkF, argsToLocals, Value.category]; done) | rfl
theorem pn_36 : plainName "java/lang/String" = true := by first | (simp [plainName, overriddenIn]; done) | decide +kernel
theorem pd____B : parseMethodDescriptor "()[B" = some ⟨[], some (.array .byte)⟩ := by decide +kernel
theorem pd___Z : parseMethodDescriptor "()Z" = some ⟨[], some .boolean⟩ := by decide +kernel
theorem pn_35 : plainName "java/lang/String" = true := by first | (simp [plainName, overriddenIn]; done) | decide +kernel
theorem pd__Ljava_lang_AbstractStringBuilder_Ljava_lang_Void__V : parseMethodDescriptor "(Ljava/lang/AbstractStringBuilder;Ljava/lang/Void;)V" = some ⟨[(.object "java/lang/AbstractStringBuilder"), (.object "java/lang/Void")], none⟩ := by decide +kernel
theorem pn_34 : plainName "java/lang/StringBuilder" = true := by first | (simp [plainName, overriddenIn]; done) | decide +kernel
theorem pd__Ljava_lang_StringBuilder__V : parseMethodDescriptor "(Ljava/lang/StringBuilder;)V" = some ⟨[(.object "java/lang/StringBuilder")], none⟩ := by decide +kernel
theorem pn_19 : plainName "jdk/internal/util/Preconditions" = true := by first | (simp [plainName, overriddenIn]; done) | decide +kernel
theorem ef_rmPC (m : MethodId) (y_0 : Int32) (y_1 : Int32) (fm : Value) (ref_fm : fm.isRef = true) : entryFrame m #[(.int y_0), (.int y_1), fm] 3 = mkF m 0 #[.val (.int y_0), .val (.int y_1), .val fm] [] := by rcases ref_cases ref_fm with rfl | ⟨_, rfl⟩ <;> first | (simp [entryFrame, mkF, argsToLocals, Value.category]; done) | rfl
theorem pn_18 : plainName "java/lang/String" = true := by first | (simp [plainName, overriddenIn]; done) | decide +kernel
theorem ef_rmCI (m : MethodId) (y_0 : Int32) (y_1 : Int32) : entryFrame m #[(.int y_0), (.int y_1)] 2 = mkF m 0 #[.val (.int y_0), .val (.int y_1)] [] := by first | (simp [entryFrame, mkF, argsToLocals, Value.category]; done) | rfl
theorem pd__IILjava_util_function_BiFunction__I : parseMethodDescriptor "(IILjava/util/function/BiFunction;)I" = some ⟨[.int, .int, (.object "java/util/function/BiFunction")], some .int⟩ := by decide +kernel
theorem pn_6 : plainName "java/lang/StringUTF16" = true := by first | (simp [plainName, overriddenIn]; done) | decide +kernel
theorem ef_rmCmp (m : MethodId) (a1 : Addr) (y_1 : Int32) (a3 : Addr) (y_3 : Int32) (y_4 : Int32) : entryFrame m #[(.ref a1), (.int y_1), (.ref a3), (.int y_3), (.int y_4)] 7 = mkF m 0 #[.val (.ref a1), .val (.int y_1), .val (.ref a3), .val (.int y_3), .val (.int y_4), .unset, .unset] [] := by first | (simp [entryFrame, mkF, argsToLocals, Value.category]; done) | rfl
theorem pn_49 : plainName "java/lang/StringUTF16" = true := by first | (simp [plainName, overriddenIn]; done) | decide +kernel
theorem ef_rmPutC (m : MethodId) (a1 : Addr) (y_1 : Int32) (p3 : Int32) : entryFrame m #[(.ref a1), (.int y_1), (.int p3)] 3 = mkF m 0 #[.val (.ref a1), .val (.int y_1), .val (.int p3)] [] := by first | (simp [entryFrame, mkF, argsToLocals, Value.category]; done) | rfl
theorem pn_48 : plainName "java/lang/StringUTF16" = true := by first | (simp [plainName, overriddenIn]; done) | decide +kernel
theorem ef_rmNBL (m : MethodId) (y_0 : Int32) : entryFrame m #[(.int y_0)] 1 = mkF m 0 #[.val (.int y_0)] [] := by first | (simp [entryFrame, mkF, argsToLocals, Value.category]; done) | rfl
theorem pn_47 : plainName "java/lang/StringUTF16" = true := by first | (simp [plainName, overriddenIn]; done) | decide +kernel
theorem ef_rmNBF (m : MethodId) (y_0 : Int32) : entryFrame m #[(.int y_0)] 1 = mkF m 0 #[.val (.int y_0)] [] := by first | (simp [entryFrame, mkF, argsToLocals, Value.category]; done) | rfl
theorem pn_46 : plainName "java/lang/StringUTF16" = true := by first | (simp [plainName, overriddenIn]; done) | decide +kernel
theorem ef_rmTBs (m : MethodId) (a1 : Addr) (y_1 : Int32) (y_2 : Int32) : entryFrame m #[(.ref a1), (.int y_1), (.int y_2)] 5 = mkF m 0 #[.val (.ref a1), .val (.int y_1), .val (.int y_2), .unset, .unset] [] := by first | (simp [entryFrame, mkF, argsToLocals, Value.category]; done) | rfl
theorem pd__I__B : parseMethodDescriptor "(I)[B" = some ⟨[.int], some (.array .byte)⟩ := by decide +kernel
theorem pd___BII_V : parseMethodDescriptor "([BII)V" = some ⟨[(.array .byte), .int, .int], none⟩ := by decide +kernel
theorem pn_50 : plainName "java/lang/StringUTF16" = true := by first | (simp [plainName, overriddenIn]; done) | decide +kernel
theorem ef_rmGetC (m : MethodId) (a1 : Addr) (y_1 : Int32) : entryFrame m #[(.ref a1), (.int y_1)] 2 = mkF m 0 #[.val (.ref a1), .val (.int y_1)] [] := by first | (simp [entryFrame, mkF, argsToLocals, Value.category]; done) | rfl
theorem pn_5 : plainName "java/lang/StringUTF16" = true := by first | (simp [plainName, overriddenIn]; done) | decide +kernel
theorem ef_rmC2 (m : MethodId) (a1 : Addr) (y_1 : Int32) (y_2 : Int32) : entryFrame m #[(.ref a1), (.int y_1), (.int y_2)] 6 = mkF m 0 #[.val (.ref a1), .val (.int y_1), .val (.int y_2), .unset, .unset, .unset] [] := by first | (simp [entryFrame, mkF, argsToLocals, Value.category]; done) | rfl
theorem pd___CI_BII_I : parseMethodDescriptor "([CI[BII)I" = some ⟨[(.array .char), .int, (.array .byte), .int, .int], some .int⟩ := by decide +kernel
theorem pd___CII__B : parseMethodDescriptor "([CII)[B" = some ⟨[(.array .char), .int, .int], some (.array .byte)⟩ := by decide +kernel
theorem pd___BI_C : parseMethodDescriptor "([BI)C" = some ⟨[(.array .byte), .int], some .char⟩ := by decide +kernel
theorem pn_7 : plainName "java/lang/StringUTF16" = true := by first | (simp [plainName, overriddenIn]; done) | decide +kernel
theorem ef_rmCFA (m : MethodId) (a1 : Addr) (y_1 : Int32) : entryFrame m #[(.ref a1), (.int y_1)] 2 = mkF m 0 #[.val (.ref a1), .val (.int y_1)] [] := by first | (simp [entryFrame, mkF, argsToLocals, Value.category]; done) | rfl
theorem pn_3 : plainName "java/lang/String" = true := by first | (simp [plainName, overriddenIn]; done) | decide +kernel
theorem ef_rmI4 (m : MethodId) (a1 : Addr) (a2 : Addr) (y_2 : Int32) (y_3 : Int32) : entryFrame m #[(.ref a1), (.ref a2), (.int y_2), (.int y_3), .null] 6 = mkF m 0 #[.val (.ref a1), .val (.ref a2), .val (.int y_2), .val (.int y_3), .val .null, .unset] [] := by first | (simp [entryFrame, mkF, argsToLocals, Value.category]; done) | rfl
theorem pd___BI_B : parseMethodDescriptor "([BI)B" = some ⟨[(.array .byte), .int], some .byte⟩ := by decide +kernel
theorem pn_2 : plainName "java/lang/String" = true := by first | (simp [plainName, overriddenIn]; done) | decide +kernel
theorem ef_rmI5 (m : MethodId) (a1 : Addr) (a2 : Addr) : entryFrame m #[(.ref a1), (.ref a2)] 2 = mkF m 0 #[.val (.ref a1), .val (.ref a2)] [] := by first | (simp [entryFrame, mkF, argsToLocals, Value.category]; done) | rfl
theorem pd___CIILjava_lang_Void__V : parseMethodDescriptor "([CIILjava/lang/Void;)V" = some ⟨[(.array .char), .int, .int, (.object "java/lang/Void")], none⟩ := by decide +kernel
theorem ef_rmCoderU (m : MethodId) (a1 : Addr) : entryFrame m #[(.ref a1)] 1 = mkF m 0 #[.val (.ref a1)] [] := by first | (simp [entryFrame, mkF, argsToLocals, Value.category]; done) | rfl
theorem ef_rmLenU (m : MethodId) (a1 : Addr) : entryFrame m #[(.ref a1)] 1 = mkF m 0 #[.val (.ref a1)] [] := by first | (simp [entryFrame, mkF, argsToLocals, Value.category]; done) | rfl
theorem pn_17 : plainName "java/lang/String" = true := by first | (simp [plainName, overriddenIn]; done) | decide +kernel
theorem ef_rmIsLU (m : MethodId) (a1 : Addr) : entryFrame m #[(.ref a1)] 1 = mkF m 0 #[.val (.ref a1)] [] := by first | (simp [entryFrame, mkF, argsToLocals, Value.category]; done) | rfl
theorem pn_53 : plainName "java/lang/Character" = true := by first | (simp [plainName, overriddenIn]; done) | decide +kernel
theorem ef_rmHs (m : MethodId) (p1 : Int32) : entryFrame m #[(.int p1)] 1 = mkF m 0 #[.val (.int p1)] [] := by first | (simp [entryFrame, mkF, argsToLocals, Value.category]; done) | rfl
theorem pn_54 : plainName "java/lang/Character" = true := by first | (simp [plainName, overriddenIn]; done) | decide +kernel
theorem ef_rmLs (m : MethodId) (p1 : Int32) : entryFrame m #[(.int p1)] 1 = mkF m 0 #[.val (.int p1)] [] := by first | (simp [entryFrame, mkF, argsToLocals, Value.category]; done) | rfl
theorem pn_45 : plainName "java/lang/StringLatin1" = true := by first | (simp [plainName, overriddenIn]; done) | decide +kernel
theorem ef_rmEqL (m : MethodId) (a1 : Addr) (a2 : Addr) : entryFrame m #[(.ref a1), (.ref a2)] 3 = mkF m 0 #[.val (.ref a1), .val (.ref a2), .unset] [] := by first | (simp [entryFrame, mkF, argsToLocals, Value.category]; done) | rfl
theorem pn_44 : plainName "java/lang/String" = true := by first | (simp [plainName, overriddenIn]; done) | decide +kernel
theorem ef_rmEq (m : MethodId) (a1 : Addr) (a2 : Addr) : entryFrame m #[(.ref a1), (.ref a2)] 3 = mkF m 0 #[.val (.ref a1), .val (.ref a2), .unset] [] := by first | (simp [entryFrame, mkF, argsToLocals, Value.category]; done) | rfl
theorem pd___B_B_Z : parseMethodDescriptor "([B[B)Z" = some ⟨[(.array .byte), (.array .byte)], some .boolean⟩ := by decide +kernel
theorem ef_rmE0U (m : MethodId) (a1 : Addr) (y_1 : Int32) : entryFrame m #[(.ref a1), (.int y_1)] 3 = mkF m 0 #[.val (.ref a1), .val (.int y_1), .unset] [] := by first | (simp [entryFrame, mkF, argsToLocals, Value.category]; done) | rfl
theorem ef_rmNCU (m : MethodId) (a1 : Addr) (y_1 : Int32) : entryFrame m #[(.ref a1), (.int y_1)] 6 = mkF m 0 #[.val (.ref a1), .val (.int y_1), .unset, .unset, .unset, .unset] [] := by first | (simp [entryFrame, mkF, argsToLocals, Value.category]; done) | rfl
theorem ef_rmE1U (m : MethodId) (a1 : Addr) (y_1 : Int32) : entryFrame m #[(.ref a1), (.int y_1)] 3 = mkF m 0 #[.val (.ref a1), .val (.int y_1), .unset] [] := by first | (simp [entryFrame, mkF, argsToLocals, Value.category]; done) | rfl
theorem pn_60 : plainName "java/lang/StringUTF16" = true := by first | (simp [plainName, overriddenIn]; done) | decide +kernel
theorem ef_rmU16L (m : MethodId) (a1 : Addr) : entryFrame m #[(.ref a1)] 1 = mkF m 0 #[.val (.ref a1)] [] := by first | (simp [entryFrame, mkF, argsToLocals, Value.category]; done) | rfl
theorem pn_62 : plainName "jdk/internal/util/Preconditions" = true := by first | (simp [plainName, overriddenIn]; done) | decide +kernel
theorem ef_rmPFS (m : MethodId) (y_0 : Int32) (y_1 : Int32) (y_2 : Int32) (fm : Value) (ref_fm : fm.isRef = true) : entryFrame m #[(.int y_0), (.int y_1), (.int y_2), fm] 4 = mkF m 0 #[.val (.int y_0), .val (.int y_1), .val (.int y_2), .val fm] [] := by rcases ref_cases ref_fm with rfl | ⟨_, rfl⟩ <;> first | (simp [entryFrame, mkF, argsToLocals, Value.category]; done) | rfl
theorem pn_61 : plainName "java/lang/String" = true := by first | (simp [plainName, overriddenIn]; done) | decide +kernel
theorem ef_rmSBO (m : MethodId) (y_0 : Int32) (y_1 : Int32) (y_2 : Int32) : entryFrame m #[(.int y_0), (.int y_1), (.int y_2)] 3 = mkF m 0 #[.val (.int y_0), .val (.int y_1), .val (.int y_2)] [] := by first | (simp [entryFrame, mkF, argsToLocals, Value.category]; done) | rfl
theorem pd__IIILjava_util_function_BiFunction__I : parseMethodDescriptor "(IIILjava/util/function/BiFunction;)I" = some ⟨[.int, .int, .int, (.object "java/util/function/BiFunction")], some .int⟩ := by decide +kernel
theorem pn_59 : plainName "java/lang/StringUTF16" = true := by first | (simp [plainName, overriddenIn]; done) | decide +kernel
theorem ef_rmUBO (m : MethodId) (y_0 : Int32) (y_1 : Int32) (a3 : Addr) : entryFrame m #[(.int y_0), (.int y_1), (.ref a3)] 3 = mkF m 0 #[.val (.int y_0), .val (.int y_1), .val (.ref a3)] [] := by first | (simp [entryFrame, mkF, argsToLocals, Value.category]; done) | rfl
theorem pd___B_I : parseMethodDescriptor "([B)I" = some ⟨[(.array .byte)], some .int⟩ := by decide +kernel
theorem pn_58 : plainName "java/lang/StringUTF16" = true := by first | (simp [plainName, overriddenIn]; done) | decide +kernel
theorem ef_rmUInf (m : MethodId) (a1 : Addr) (y_1 : Int32) (a3 : Addr) (y_3 : Int32) (y_4 : Int32) : entryFrame m #[(.ref a1), (.int y_1), (.ref a3), (.int y_3), (.int y_4)] 6 = mkF m 0 #[.val (.ref a1), .val (.int y_1), .val (.ref a3), .val (.int y_3), .val (.int y_4), .unset] [] := by first | (simp [entryFrame, mkF, argsToLocals, Value.category]; done) | rfl
theorem pd__II_B_V : parseMethodDescriptor "(II[B)V" = some ⟨[.int, .int, (.array .byte)], none⟩ := by decide +kernel
theorem pn_57 : plainName "java/lang/StringLatin1" = true := by first | (simp [plainName, overriddenIn]; done) | decide +kernel
theorem ef_rmLInf (m : MethodId) (a1 : Addr) (y_1 : Int32) (a3 : Addr) (y_3 : Int32) (y_4 : Int32) : entryFrame m #[(.ref a1), (.int y_1), (.ref a3), (.int y_3), (.int y_4)] 5 = mkF m 0 #[.val (.ref a1), .val (.int y_1), .val (.ref a3), .val (.int y_3), .val (.int y_4)] [] := by first | (simp [entryFrame, mkF, argsToLocals, Value.category]; done) | rfl
theorem pd___BI_BII_V : parseMethodDescriptor "([BI[BII)V" = some ⟨[(.array .byte), .int, (.array .byte), .int, .int], none⟩ := by decide +kernel
theorem ef_rmILc (m : MethodId) (a1 : Addr) : entryFrame m #[(.ref a1)] 1 = mkF m 0 #[.val (.ref a1)] [] := by first | (simp [entryFrame, mkF, argsToLocals, Value.category]; done) | rfl
theorem pn_56 : plainName "java/lang/AbstractStringBuilder" = true := by first | (simp [plainName, overriddenIn]; done) | decide +kernel
theorem ef_rmInfl (m : MethodId) (a1 : Addr) : entryFrame m #[(.ref a1)] 2 = mkF m 0 #[.val (.ref a1), .unset] [] := by first | (simp [entryFrame, mkF, argsToLocals, Value.category]; done) | rfl
theorem ef_rmCoderV (m : MethodId) (a1 : Addr) : entryFrame m #[(.ref a1)] 1 = mkF m 0 #[.val (.ref a1)] [] := by first | (simp [entryFrame, mkF, argsToLocals, Value.category]; done) | rfl
theorem ef_rmIf0 (m : MethodId) (a1 : Addr) (a2 : Addr) : entryFrame m #[(.ref a1), (.ref a2)] 2 = mkF m 0 #[.val (.ref a1), .val (.ref a2)] [] := by first | (simp [entryFrame, mkF, argsToLocals, Value.category]; done) | rfl
theorem ef_rmIf2 (m : MethodId) (a1 : Addr) (a2 : Addr) : entryFrame m #[(.ref a1), (.ref a2)] 2 = mkF m 0 #[.val (.ref a1), .val (.ref a2)] [] := by first | (simp [entryFrame, mkF, argsToLocals, Value.category]; done) | rfl
theorem pd___V : parseMethodDescriptor "()V" = some ⟨[], none⟩ := by decide +kernel
theorem ef_rmGBg (m : MethodId) (a1 : Addr) (a2 : Addr) (y_2 : Int32) (p4 : Int32) : entryFrame m #[(.ref a1), (.ref a2), (.int y_2), (.int p4)] 4 = mkF m 0 #[.val (.ref a1), .val (.ref a2), .val (.int y_2), .val (.int p4)] [] := by first | (simp [entryFrame, mkF, argsToLocals, Value.category]; done) | rfl
theorem ef_rmPeq (m : MethodId) (a1 : Addr) (y_1 : Int32) (a2 : Addr) : entryFrame m #[(.ref a1), (.int y_1), (.ref a2)] 3 = mkF m 0 #[.val (.ref a1), .val (.int y_1), .val (.ref a2)] [] := by first | (simp [entryFrame, mkF, argsToLocals, Value.category]; done) | rfl
theorem ef_rmP01 (m : MethodId) (a1 : Addr) (y_1 : Int32) (a2 : Addr) : entryFrame m #[(.ref a1), (.int y_1), (.ref a2)] 3 = mkF m 0 #[.val (.ref a1), .val (.int y_1), .val (.ref a2)] [] := by first | (simp [entryFrame, mkF, argsToLocals, Value.category]; done) | rfl
theorem ef_rmAU (m : MethodId) (a1 : Addr) (a2 : Addr) : entryFrame m #[(.ref a1), (.ref a2)] 3 = mkF m 0 #[.val (.ref a1), .val (.ref a2), .unset] [] := by first | (simp [entryFrame, mkF, argsToLocals, Value.category]; done) | rfl
theorem ef_rmSU (m : MethodId) (a1 : Addr) (a2 : Addr) : entryFrame m #[(.ref a1), (.ref a2)] 2 = mkF m 0 #[.val (.ref a1), .val (.ref a2)] [] := by first | (simp [entryFrame, mkF, argsToLocals, Value.category]; done) | rfl
theorem ef_rmT2U (m : MethodId) (a1 : Addr) (a2 : Addr) : entryFrame m #[(.ref a1), (.ref a2), .null] 5 = mkF m 0 #[.val (.ref a1), .val (.ref a2), .val .null, .unset, .unset] [] := by first | (simp [entryFrame, mkF, argsToLocals, Value.category]; done) | rfl
theorem ef_rmT1U (m : MethodId) (a1 : Addr) (a2 : Addr) : entryFrame m #[(.ref a1), (.ref a2)] 2 = mkF m 0 #[.val (.ref a1), .val (.ref a2)] [] := by first | (simp [entryFrame, mkF, argsToLocals, Value.category]; done) | rfl
theorem ef_rmTSU (m : MethodId) (a1 : Addr) : entryFrame m #[(.ref a1)] 1 = mkF m 0 #[.val (.ref a1)] [] := by first | (simp [entryFrame, mkF, argsToLocals, Value.category]; done) | rfl
theorem pn_9 : plainName "com/example/oplim/oplim/KeysPrefixPinLaw" = true := by first | (simp [plainName, overriddenIn]; done) | decide +kernel
theorem ef_rmIP (m : MethodId) (p1 : Int32) : entryFrame m #[(.int p1)] 1 = mkF m 0 #[.val (.int p1)] [] := by first | (simp [entryFrame, mkF, argsToLocals, Value.category]; done) | rfl
theorem pn_8 : plainName "com/example/oplim/oplim/KeysPrefixPinLaw" = true := by first | (simp [plainName, overriddenIn]; done) | decide +kernel
theorem ef_rmW (m : MethodId) (p1 : Int32) : entryFrame m #[(.int p1)] 1 = mkF m 0 #[.val (.int p1)] [] := by first | (simp [entryFrame, mkF, argsToLocals, Value.category]; done) | rfl
theorem pd__I_Z : parseMethodDescriptor "(I)Z" = some ⟨[.int], some .boolean⟩ := by decide +kernel
theorem pn_11 : plainName "com/example/oplim/oplim/KeysPrefixPinLaw" = true := by first | (simp [plainName, overriddenIn]; done) | decide +kernel
theorem ef_rmBm (m : MethodId) (p1 : Int32) : entryFrame m #[(.int p1)] 2 = mkF m 0 #[.val (.int p1), .unset] [] := by first | (simp [entryFrame, mkF, argsToLocals, Value.category]; done) | rfl
theorem pn_1 : plainName "com/example/oplim/oplim/KeysPrefixPinLaw" = true := by first | (simp [plainName, overriddenIn]; done) | decide +kernel
theorem ef_rmNm (m : MethodId) (p1 : Int32) : entryFrame m #[(.int p1)] 2 = mkF m 0 #[.val (.int p1), .unset] [] := by first | (simp [entryFrame, mkF, argsToLocals, Value.category]; done) | rfl
theorem pn_10 : plainName "com/example/oplim/oplim/KeysPrefixPinLaw" = true := by first | (simp [plainName, overriddenIn]; done) | decide +kernel
theorem ef_rmPt (m : MethodId) (a1 : Addr) (y_1 : Int32) (p3 : Int32) : entryFrame m #[(.ref a1), (.int y_1), (.int p3)] 3 = mkF m 0 #[.val (.ref a1), .val (.int y_1), .val (.int p3)] [] := by first | (simp [entryFrame, mkF, argsToLocals, Value.category]; done) | rfl
theorem pd__I_C : parseMethodDescriptor "(I)C" = some ⟨[.int], some .char⟩ := by decide +kernel
theorem pn_13 : plainName "java/lang/String" = true := by first | (simp [plainName, overriddenIn]; done) | decide +kernel
theorem ef_rmEm (m : MethodId) (a1 : Addr) : entryFrame m #[(.ref a1)] 1 = mkF m 0 #[.val (.ref a1)] [] := by first | (simp [entryFrame, mkF, argsToLocals, Value.category]; done) | rfl
theorem pn_20 : plainName "com/example/oplim/oplim/Keys" = true := by first | (simp [plainName, overriddenIn]; done) | decide +kernel
theorem ef_rmU8 (m : MethodId) (p1 : Int32) : entryFrame m #[(.int p1)] 2 = mkF m 0 #[.val (.int p1), .unset] [] := by first | (simp [entryFrame, mkF, argsToLocals, Value.category]; done) | rfl
theorem pn_21 : plainName "java/lang/Character" = true := by first | (simp [plainName, overriddenIn]; done) | decide +kernel
theorem ef_rmCC (m : MethodId) (p1 : Int32) : entryFrame m #[(.int p1)] 1 = mkF m 0 #[.val (.int p1)] [] := by first | (simp [entryFrame, mkF, argsToLocals, Value.category]; done) | rfl
theorem pn_55 : plainName "java/lang/Character" = true := by first | (simp [plainName, overriddenIn]; done) | decide +kernel
theorem ef_rmTcp (m : MethodId) (p1 : Int32) (p2 : Int32) : entryFrame m #[(.int p1), (.int p2)] 2 = mkF m 0 #[.val (.int p1), .val (.int p2)] [] := by first | (simp [entryFrame, mkF, argsToLocals, Value.category]; done) | rfl
theorem pn_52 : plainName "java/lang/StringUTF16" = true := by first | (simp [plainName, overriddenIn]; done) | decide +kernel
theorem ef_rmCpz (m : MethodId) (a1 : Addr) (y_1 : Int32) (y_2 : Int32) (y_3 : Int32) : entryFrame m #[(.ref a1), (.int y_1), (.int y_2), (.int y_3)] 6 = mkF m 0 #[.val (.ref a1), .val (.int y_1), .val (.int y_2), .val (.int y_3), .unset, .unset] [] := by first | (simp [entryFrame, mkF, argsToLocals, Value.category]; done) | rfl
theorem pd__C_Z : parseMethodDescriptor "(C)Z" = some ⟨[.char], some .boolean⟩ := by decide +kernel
theorem pd__CC_I : parseMethodDescriptor "(CC)I" = some ⟨[.char, .char], some .int⟩ := by decide +kernel
theorem pn_51 : plainName "java/lang/StringUTF16" = true := by first | (simp [plainName, overriddenIn]; done) | decide +kernel
theorem ef_rmCp3 (m : MethodId) (a1 : Addr) (y_1 : Int32) (y_2 : Int32) : entryFrame m #[(.ref a1), (.int y_1), (.int y_2)] 3 = mkF m 0 #[.val (.ref a1), .val (.int y_1), .val (.int y_2)] [] := by first | (simp [entryFrame, mkF, argsToLocals, Value.category]; done) | rfl
theorem pd___BIIZ_I : parseMethodDescriptor "([BIIZ)I" = some ⟨[(.array .byte), .int, .int, .boolean], some .int⟩ := by decide +kernel
theorem pn_16 : plainName "java/lang/String" = true := by first | (simp [plainName, overriddenIn]; done) | decide +kernel
theorem ef_rmCPA (m : MethodId) (a1 : Addr) (y_1 : Int32) : entryFrame m #[(.ref a1), (.int y_1)] 3 = mkF m 0 #[.val (.ref a1), .val (.int y_1), .unset] [] := by first | (simp [entryFrame, mkF, argsToLocals, Value.category]; done) | rfl
theorem pd___BII_I : parseMethodDescriptor "([BII)I" = some ⟨[(.array .byte), .int, .int], some .int⟩ := by decide +kernel
theorem pn_33 : plainName "java/lang/StringLatin1" = true := by first | (simp [plainName, overriddenIn]; done) | decide +kernel
theorem ef_rmCE (m : MethodId) (p1 : Int32) : entryFrame m #[(.int p1)] 1 = mkF m 0 #[.val (.int p1)] [] := by first | (simp [entryFrame, mkF, argsToLocals, Value.category]; done) | rfl
theorem pn_64 : plainName "java/lang/StringUTF16" = true := by first | (simp [plainName, overriddenIn]; done) | decide +kernel
theorem ef_rmUCI (m : MethodId) (y_0 : Int32) (a1 : Addr) : entryFrame m #[(.int y_0), (.ref a1)] 2 = mkF m 0 #[.val (.int y_0), .val (.ref a1)] [] := by first | (simp [entryFrame, mkF, argsToLocals, Value.category]; done) | rfl
theorem pn_63 : plainName "java/lang/StringUTF16" = true := by first | (simp [plainName, overriddenIn]; done) | decide +kernel
theorem ef_rmPSB (m : MethodId) (a1 : Addr) (y_1 : Int32) (p3 : Int32) : entryFrame m #[(.ref a1), (.int y_1), (.int p3)] 3 = mkF m 0 #[.val (.ref a1), .val (.int y_1), .val (.int p3)] [] := by first | (simp [entryFrame, mkF, argsToLocals, Value.category]; done) | rfl
theorem pd__I_B_V : parseMethodDescriptor "(I[B)V" = some ⟨[.int, (.array .byte)], none⟩ := by decide +kernel
theorem pn_31 : plainName "java/lang/AbstractStringBuilder" = true := by first | (simp [plainName, overriddenIn]; done) | decide +kernel
theorem ef_rmAC (m : MethodId) (a1 : Addr) (p2 : Int32) : entryFrame m #[(.ref a1), (.int p2)] 2 = mkF m 0 #[.val (.ref a1), .val (.int p2)] [] := by first | (simp [entryFrame, mkF, argsToLocals, Value.category]; done) | rfl
theorem pn_30 : plainName "java/lang/StringBuilder" = true := by first | (simp [plainName, overriddenIn]; done) | decide +kernel
theorem ef_rmSC (m : MethodId) (a1 : Addr) (p2 : Int32) : entryFrame m #[(.ref a1), (.int p2)] 2 = mkF m 0 #[.val (.ref a1), .val (.int p2)] [] := by first | (simp [entryFrame, mkF, argsToLocals, Value.category]; done) | rfl
theorem pd__C_Ljava_lang_AbstractStringBuilder_ : parseMethodDescriptor "(C)Ljava/lang/AbstractStringBuilder;" = some ⟨[.char], some (.object "java/lang/AbstractStringBuilder")⟩ := by decide +kernel
theorem pn_12 : plainName "com/example/oplim/oplim/Keys" = true := by first | (simp [plainName, overriddenIn]; done) | decide +kernel
theorem ef_rmPx (m : MethodId) (a1 : Addr) (a2 : Addr) : entryFrame m #[(.ref a1), (.ref a2)] 5 = mkF m 0 #[.val (.ref a1), .val (.ref a2), .unset, .unset, .unset] [] := by first | (simp [entryFrame, mkF, argsToLocals, Value.category]; done) | rfl
theorem pd__Ljava_lang_String__Ljava_lang_StringBuilder_ : parseMethodDescriptor "(Ljava/lang/String;)Ljava/lang/StringBuilder;" = some ⟨[(.object "java/lang/String")], some (.object "java/lang/StringBuilder")⟩ := by decide +kernel
theorem pd__C_Ljava_lang_StringBuilder_ : parseMethodDescriptor "(C)Ljava/lang/StringBuilder;" = some ⟨[.char], some (.object "java/lang/StringBuilder")⟩ := by decide +kernel
theorem pd___Ljava_lang_String_ : parseMethodDescriptor "()Ljava/lang/String;" = some ⟨[], some (.object "java/lang/String")⟩ := by decide +kernel
theorem pn_0 : plainName "com/example/oplim/oplim/KeysPrefixPinLaw" = true := by first | (simp [plainName, overriddenIn]; done) | decide +kernel
theorem ef_rm0 (m : MethodId) (p1 : Int32) (p2 : Int32) (p3 : Int32) (p4 : Int32) (p5 : Int32) : entryFrame m #[(.int p1), (.int p2), (.int p3), (.int p4), (.int p5)] maxLocals = mkF m 0 #[.val (.int p1), .val (.int p2), .val (.int p3), .val (.int p4), .val (.int p5), .unset, .unset, .unset, .unset, .unset, .unset, .unset, .unset, .unset, .unset, .unset] [] := by first | (simp [entryFrame, mkF, argsToLocals, Value.category, maxLocals]; done) | rfl
theorem pd___C_V : parseMethodDescriptor "([C)V" = some ⟨[(.array .char)], none⟩ := by decide +kernel
theorem pd___CII_I : parseMethodDescriptor "([CII)I" = some ⟨[(.array .char), .int, .int], some .int⟩ := by decide +kernel
theorem pd__Ljava_lang_String_Ljava_lang_String__Ljava_lang_String_ : parseMethodDescriptor "(Ljava/lang/String;Ljava/lang/String;)Ljava/lang/String;" = some ⟨[(.object "java/lang/String"), (.object "java/lang/String")], some (.object "java/lang/String")⟩ := by decide +kernel
theorem pd__Ljava_lang_Object__Z : parseMethodDescriptor "(Ljava/lang/Object;)Z" = some ⟨[(.object "java/lang/Object")], some .boolean⟩ := by decide +kernel
/-! the same, where String constants may be loaded on the way (the library's LawHeld: CHv, CHr, Safe) -/
def GoH (p : Program) (e : Env) (below : List Frame) (s : State) (C S : Nat) (Z : State) (h0 : Heap) (EL : List (String × Nat)) (Q : Option Value → Heap → List Loc → Prop) (T : State) (g : JFrame) : Prop :=
  ∃ s₂ o, Steps p.tables e below (T.setTop g) s₂ ∧ s₂.status = .running ∧ Ended s₂ below o ∧ ∃ v L, o = .returned v ∧ Q v s₂.heap L ∧ CHr Z EL s.vm h0 s₂.vm s₂.heap ∧ ReturnedEndW s o s₂ L C S
section GoHKit
variable {p : Program} {l : Launch} {e : Env} {R : Room} {s : State} {vm0 : Vm} {m : MethodId} {args : Array Value} {below : List Frame} {meth : Method} {c : Code} {T T' : State} {g g' : JFrame} {locs : List Loc} {cells slots C S k0 : Nat} {Q : Option Value → Heap → List Loc → Prop} {Z : State} {a0 : Array Value} {h h0 h' : Heap} {n0 : Nat} {EL : List (String × Nat)}
theorem GoH.st (st : ∀ t, Steps p.tables e below (T'.setTop g') t → Steps p.tables e below (T.setTop g) t) (k : GoH p e below s C S Z h0 EL Q T' g') : GoH p e below s C S Z h0 EL Q T g := by
  obtain ⟨s₂, o, h1, h2⟩ := k; exact ⟨s₂, o, st _ h1, h2⟩
theorem GoH.tr (st : Steps p.tables e below (T.setTop g) (T'.setTop g')) (k : GoH p e below s C S Z h0 EL Q T' g') : GoH p e below s C S Z h0 EL Q T g := by
  obtain ⟨s₂, o, h1, h2⟩ := k; exact ⟨s₂, o, st.trans h1, h2⟩
theorem GoH.eq (q : g = g') (k : GoH p e below s C S Z h0 EL Q T g') : GoH p e below s C S Z h0 EL Q T g := q ▸ k
theorem GoH.fin (X : Stand p l e R (s.setVm vm0) m args below meth c T locs cells slots) (hS : s.Since vm0 k0) (hk : k0 ≤ h.size) (eT : T.heap = h) (hZ : Z.Warmed39 vm0) (hEL : EW Z a0 EL) (H : CHv Z EL vm0 h) (RR : CHr Z EL s.vm h0 vm0 h) (hlk : meth.locks = false) {v : Option Value} (hv : meth.sig.returnType = none → v = none) (hc : cells ≤ C) (hs : slots ≤ S) (q : Q v T.heap locs)
    (k : ∀ fs, (∀ (f : JFrame) (acts : List Action), f.method = m → f.locked = none → f.entered = [] → (doReturn e (T.setTop f) acts v).1 = T.setFrames fs) → Steps p.tables e below (T.setTop g) (T.setFrames fs)) : GoH p e below s C S Z h0 EL Q T g := by
  obtain ⟨fs, hr, hrun, hended, hW⟩ := X.leaveW hS (eT ▸ hk) (v := v) hv hlk
  refine ⟨_, _, k fs hr, hrun, hended, _, _, rfl, q, ?_, hW.1, hW.2.1, hW.2.2.1, hW.2.2.2.mono hc hs⟩
  show CHr Z EL s.vm h0 T.vm T.heap
  rw [eT]; exact RR.trans (CHv.at X hZ hEL H)
theorem GoH.retN (X : Stand p l e R (s.setVm vm0) m args below meth c T locs cells slots) (hS : s.Since vm0 k0) (hk : k0 ≤ h.size) (eT : T.heap = h) (hZ : Z.Warmed39 vm0) (hEL : EW Z a0 EL) (H : CHv Z EL vm0 h) (RR : CHr Z EL s.vm h0 vm0 h) (hlk : meth.locks = false) (hx : p.tables.exec = Jvm.exec) {pc : Nat} {Ls : Array Slot} {z z' : Int32} {t : FieldType} {rest : List Value} (hret : meth.sig.returnType = some t) (ht : t = .boolean ∨ t = .byte ∨ t = .char ∨ t = .short)
    (hd : decode c.code pc = .ok (.ireturn, 1)) (hc : cells ≤ C) (hs : slots ≤ S) (hz : nar t z = z') (q : Q (some (.int z')) T.heap locs) : GoH p e below s C S Z h0 EL Q T (mkF m pc Ls (.int z :: rest)) := by
  subst hz
  exact GoH.fin X hS hk eT hZ hEL H RR hlk (fun h => by rw [hret] at h; cases h) hc hs q fun fs hr => Jvm.RoadKit.retN X hx hret ht hd hr
theorem GoH.retV (X : Stand p l e R (s.setVm vm0) m args below meth c T locs cells slots) (hS : s.Since vm0 k0) (hk : k0 ≤ h.size) (eT : T.heap = h) (hZ : Z.Warmed39 vm0) (hEL : EW Z a0 EL) (H : CHv Z EL vm0 h) (RR : CHr Z EL s.vm h0 vm0 h) (hlk : meth.locks = false) (hx : p.tables.exec = Jvm.exec) {pc : Nat} {Ls : Array Slot} {w : Value} {t : FieldType} {i : Instr} {rest : List Value} (hret : meth.sig.returnType = some t) (hn : narrow t w = w)
    (hi : (i = .ireturn ∧ (t = .int ∨ t = .boolean ∨ t = .byte ∨ t = .char ∨ t = .short) ∧ ∃ z, w = .int z) ∨ (i = .lreturn ∧ t = .long ∧ ∃ z, w = .long z) ∨ (i = .dreturn ∧ t = .double ∧ ∃ z, w = .double z) ∨ (i = .freturn ∧ t = .float ∧ ∃ z, w = .float z) ∨ (i = .areturn ∧ t.isReference = true ∧ w.isRef = true))
    (hd : decode c.code pc = .ok (i, 1)) (hc : cells ≤ C) (hs : slots ≤ S) (q : Q (some w) T.heap locs) : GoH p e below s C S Z h0 EL Q T (mkF m pc Ls (w :: rest)) :=
  GoH.fin X hS hk eT hZ hEL H RR hlk (fun h => by rw [hret] at h; cases h) hc hs q fun fs hr => Jvm.RoadKit.retOut X hx hret hn hi hd hr
theorem GoH.retR (X : Stand p l e R (s.setVm vm0) m args below meth c T locs cells slots) (hS : s.Since vm0 k0) (hk : k0 ≤ h.size) (eT : T.heap = h) (hZ : Z.Warmed39 vm0) (hEL : EW Z a0 EL) (H : CHv Z EL vm0 h) (RR : CHr Z EL s.vm h0 vm0 h) (hlk : meth.locks = false) (hx : p.tables.exec = Jvm.exec) {pc : Nat} {Ls : Array Slot} {w : Value} {t : FieldType} {rest : List Value} (hret : meth.sig.returnType = some t) (ht : t.isReference = true) (hw : w.isRef = true) (hn : narrow t w = w)
    (hd : decode c.code pc = .ok (.areturn, 1)) (hc : cells ≤ C) (hs : slots ≤ S) (q : Q (some w) T.heap locs) : GoH p e below s C S Z h0 EL Q T (mkF m pc Ls (w :: rest)) :=
  GoH.retV X hS hk eT hZ hEL H RR hlk hx hret hn (Or.inr (Or.inr (Or.inr (Or.inr ⟨rfl, ht, hw⟩)))) hd hc hs q
theorem GoH.retI (X : Stand p l e R (s.setVm vm0) m args below meth c T locs cells slots) (hS : s.Since vm0 k0) (hk : k0 ≤ h.size) (eT : T.heap = h) (hZ : Z.Warmed39 vm0) (hEL : EW Z a0 EL) (H : CHv Z EL vm0 h) (RR : CHr Z EL s.vm h0 vm0 h) (hlk : meth.locks = false) (hx : p.tables.exec = Jvm.exec) {pc : Nat} {Ls : Array Slot} {z : Int32} {rest : List Value} (hret : meth.sig.returnType = some .int)
    (hd : decode c.code pc = .ok (.ireturn, 1)) (hc : cells ≤ C) (hs : slots ≤ S) (q : Q (some (.int z)) T.heap locs) : GoH p e below s C S Z h0 EL Q T (mkF m pc Ls (.int z :: rest)) :=
  GoH.retV X hS hk eT hZ hEL H RR hlk hx hret rfl (Or.inl ⟨rfl, Or.inl rfl, z, rfl⟩) hd hc hs q
theorem GoH.ret0 (X : Stand p l e R (s.setVm vm0) m args below meth c T locs cells slots) (hS : s.Since vm0 k0) (hk : k0 ≤ h.size) (eT : T.heap = h) (hZ : Z.Warmed39 vm0) (hEL : EW Z a0 EL) (H : CHv Z EL vm0 h) (RR : CHr Z EL s.vm h0 vm0 h) (hlk : meth.locks = false) (hx : p.tables.exec = Jvm.exec) {pc : Nat} {Ls : Array Slot} (hret : meth.sig.returnType = none)
    (hd : decode c.code pc = .ok (.return_, 1)) (hc : cells ≤ C) (hs : slots ≤ S) (q : Q none T.heap locs) : GoH p e below s C S Z h0 EL Q T (mkF m pc Ls []) :=
  GoH.fin X hS hk eT hZ hEL H RR hlk (fun _ => rfl) hc hs q fun fs hr => X.returnOut hx hret hd hr
theorem own_backSH {y : MethodName} {bytes : ByteArray} {maxL : Nat} {ret : Option FieldType} {rm : Room} {len W : Nat} {as' : Array Value} {sf : List Addr}
    (hM : MetFree l y (head1 [Cond.code y bytes maxL ret] rm) (fun a U => a = as' ∧ Z.Warmed39 U.vm ∧ U.heap = h ∧ CHv Z EL U.vm h ∧ ∀ x ∈ sf, Safe Z EL U.vm h x) (fun _ _ _ _ _ => True) (fun _ U o U' => ∃ v L, o = .returned v ∧ Q v U'.heap L ∧ CHr Z EL U.vm U.heap U'.vm U'.heap ∧ ReturnedEndW U o U' L rm.cells rm.slots))
    (hZ : Z.Warmed39 vm0) (wc : (Cond.code y bytes maxL ret).before a0 Z = true) (wz : (Cond.initialized y.cls).before a0 Z = true) (hf : rm.frames + 1 ≤ R.frames) (hl : W + (maxL + 11) + rm.locals ≤ R.locals) (hEL : EW Z a0 EL) (H : CHv Z EL vm0 h) (hsf : ∀ x ∈ sf, Safe Z EL vm0 h x ∧ x < Array.size h) :
    BackS l R p e below (s.setVm vm0) args y len W (fun A a => a = as' ∧ A.U.heap = h ∧ A.cells + rm.cells ≤ R.cells ∧ A.slots + rm.slots ≤ R.slots)
      (fun A _ v B => ∃ L, Q v B.U.heap L ∧ B.locs = A.locs ++ L ∧ B.cells = A.cells + rm.cells ∧ B.slots = A.slots + rm.slots ∧ CHr Z EL vm0 h B.U.vm B.U.heap) := by
  have up : ∀ {m meth c} {A : Pt}, Stand p l e R (s.setVm vm0) m args below meth c A.U A.locs A.cells A.slots → Z.Warmed39 A.U.vm := fun Y => wtrans (s := s.setVm vm0) hZ Y.warmed
  refine BackS.of_freeW (bytes := bytes) (maxL := maxL) (ret := ret) (E := fun _ first o t L k n => (k = rm.cells ∧ n = rm.slots) ∧ (∃ v, o = .returned v ∧ Q v t.heap L) ∧ CHr Z EL first.vm first.heap t.vm t.heap) hM hf hl ?_ ?_ ?_ ?_ ?_
  · intro m meth c A a Y hp
    refine ⟨?_, mv (up Y) wc, mv (up Y) wz, hp.2.2.1, hp.2.2.2⟩
    show (Cond.and _ .tt).before a A.U = true
    rw [Cond.before_and, mv (up Y) wc]; rfl
  · intro m meth c A a g mk Y hp
    have q := CHv.at Y hZ hEL H
    exact ⟨hp.1, up Y, hp.2.1, q.1, fun x hx => q.safe (hsf x hx).2 (hsf x hx).1⟩
  · intro _ _ _ _ _ _ _ _ _; trivial
  · intro _ _ _ _ hq
    obtain ⟨v, L, h1, h2, h3, h4⟩ := hq
    exact ⟨L, _, _, h4, ⟨rfl, rfl⟩, ⟨v, h1, h2⟩, h3⟩
  · intro m meth c A a g mk v t L k n Y hp _ _ hq
    obtain ⟨⟨e1, e2⟩, ⟨v', e3, e4⟩, e5⟩ := hq
    cases e3; subst e1 e2
    refine ⟨L, e4, rfl, rfl, rfl, (CHv.at Y hZ hEL H).trans ?_⟩
    rw [← hp.2.1]; exact e5
theorem own_since (s : State) (n : Nat) : s.Since s.vm n := (State.WarmedH.since (s := s) (vm₁ := s.vm) (State.WarmedH.refl s) n)
theorem GoH.pure {w : Option Value} {Qc : Option Value → Heap → List Loc → Prop} {rest : List Value} {pc' : Nat} (H : ∃ (v : Option Value) (vm₁ : Vm) (B : Pt), (s.setVm vm0).WarmedH vm₁ ∧ Stand p l e R (s.setVm vm0) m args below meth c B.U B.locs B.cells B.slots ∧ (∃ L, Qc v B.U.heap L ∧ B.locs = locs ++ L ∧ B.cells = cells + 0 ∧ B.slots = slots + 0) ∧ Steps p.tables e below (T.setTop g) (B.U.setTop { g with pc := pc', stack := v.toList ++ rest })) (hq : ∀ v h' L, Qc v h' L → v = w ∧ Fr n0 L ∧ h' = h) (N : Fr n0 locs)
    (k : ∀ T' L', Stand p l e R (s.setVm vm0) m args below meth c T' L' cells slots → T'.heap = h → Fr n0 L' → GoH p e below s C S Z h0 EL Q T' { g with pc := pc', stack := w.toList ++ rest }) : GoH p e below s C S Z h0 EL Q T g := by
  obtain ⟨v, vm1, ⟨T', L', c', s'⟩, -, X, ⟨L, q, e1, e2, e3⟩, st⟩ := H
  obtain ⟨rfl, q2, q3⟩ := hq _ _ _ q
  dsimp only [Pt.U, Pt.locs, Pt.cells, Pt.slots] at X e1 e2 e3 st q3
  subst e1 e2 e3
  exact GoH.tr st (k _ _ X q3 (Fr.app N q2))
theorem GoH.pureS {w : Option Value} {Qc : Option Value → Heap → List Loc → Prop} {rest : List Value} {pc' : Nat} (H : ∃ (v : Option Value) (vm₁ : Vm) (B : Pt), (s.setVm vm0).WarmedH vm₁ ∧ Stand p l e R (s.setVm vm0) m args below meth c B.U B.locs B.cells B.slots ∧ (∃ L, Qc v B.U.heap L ∧ B.locs = locs ++ L ∧ B.cells = cells + 0 ∧ B.slots = slots + 0) ∧ ∀ target, Steps p.tables e below (B.U.setTop { g with pc := pc', stack := v.toList ++ rest }) target → Steps p.tables e below (T.setTop g) target) (hq : ∀ v h' L, Qc v h' L → v = w ∧ Fr n0 L ∧ h' = h) (N : Fr n0 locs)
    (k : ∀ T' L', Stand p l e R (s.setVm vm0) m args below meth c T' L' cells slots → T'.heap = h → Fr n0 L' → GoH p e below s C S Z h0 EL Q T' { g with pc := pc', stack := w.toList ++ rest }) : GoH p e below s C S Z h0 EL Q T g := by
  obtain ⟨v, vm1, ⟨T', L', c', s'⟩, -, X, ⟨L, q, e1, e2, e3⟩, st⟩ := H
  obtain ⟨rfl, q2, q3⟩ := hq _ _ _ q
  dsimp only [Pt.U, Pt.locs, Pt.cells, Pt.slots] at X e1 e2 e3 st q3
  subst e1 e2 e3
  exact GoH.st st (k _ _ X q3 (Fr.app N q2))
end GoHKit

def GoHL (p : Program) (e : Env) (below : List Frame) (s : State) (C S : Nat) (Z : State) (h0 : Heap) (EL : List (String × Nat)) (Q : Option Value → Vm → Heap → List Loc → Prop) (T : State) (g : JFrame) : Prop :=
  ∃ s₂ o, Steps p.tables e below (T.setTop g) s₂ ∧ s₂.status = .running ∧ Ended s₂ below o ∧ ∃ v L, o = .returned v ∧ Q v s₂.vm s₂.heap L ∧ CHr Z EL s.vm h0 s₂.vm s₂.heap ∧ ReturnedEndW s o s₂ L C S
section GoHLKit
variable {p : Program} {l : Launch} {e : Env} {R : Room} {s : State} {vm0 : Vm} {m : MethodId} {args : Array Value} {below : List Frame} {meth : Method} {c : Code} {T T' : State} {g g' : JFrame} {locs : List Loc} {cells slots C S k0 : Nat} {Q : Option Value → Vm → Heap → List Loc → Prop} {Z : State} {a0 : Array Value} {h h0 h' : Heap} {n0 : Nat} {EL : List (String × Nat)}
theorem GoHL.st (st : ∀ t, Steps p.tables e below (T'.setTop g') t → Steps p.tables e below (T.setTop g) t) (k : GoHL p e below s C S Z h0 EL Q T' g') : GoHL p e below s C S Z h0 EL Q T g := by
  obtain ⟨s₂, o, h1, h2⟩ := k; exact ⟨s₂, o, st _ h1, h2⟩
theorem GoHL.tr (st : Steps p.tables e below (T.setTop g) (T'.setTop g')) (k : GoHL p e below s C S Z h0 EL Q T' g') : GoHL p e below s C S Z h0 EL Q T g := by
  obtain ⟨s₂, o, h1, h2⟩ := k; exact ⟨s₂, o, st.trans h1, h2⟩
theorem GoHL.eq (q : g = g') (k : GoHL p e below s C S Z h0 EL Q T g') : GoHL p e below s C S Z h0 EL Q T g := q ▸ k
theorem GoHL.fin (X : Stand p l e R (s.setVm vm0) m args below meth c T locs cells slots) (hS : s.Since vm0 k0) (hk : k0 ≤ h.size) (eT : T.heap = h) (hZ : Z.Warmed39 vm0) (hEL : EW Z a0 EL) (H : CHv Z EL vm0 h) (RR : CHr Z EL s.vm h0 vm0 h) (hlk : meth.locks = false) {v : Option Value} (hv : meth.sig.returnType = none → v = none) (hc : cells ≤ C) (hs : slots ≤ S) (q : Q v T.vm T.heap locs)
    (k : ∀ fs, (∀ (f : JFrame) (acts : List Action), f.method = m → f.locked = none → f.entered = [] → (doReturn e (T.setTop f) acts v).1 = T.setFrames fs) → Steps p.tables e below (T.setTop g) (T.setFrames fs)) : GoHL p e below s C S Z h0 EL Q T g := by
  obtain ⟨fs, hr, hrun, hended, hW⟩ := X.leaveW hS (eT ▸ hk) (v := v) hv hlk
  refine ⟨_, _, k fs hr, hrun, hended, _, _, rfl, q, ?_, hW.1, hW.2.1, hW.2.2.1, hW.2.2.2.mono hc hs⟩
  show CHr Z EL s.vm h0 T.vm T.heap
  rw [eT]; exact RR.trans (CHv.at X hZ hEL H)
theorem GoHL.retN (X : Stand p l e R (s.setVm vm0) m args below meth c T locs cells slots) (hS : s.Since vm0 k0) (hk : k0 ≤ h.size) (eT : T.heap = h) (hZ : Z.Warmed39 vm0) (hEL : EW Z a0 EL) (H : CHv Z EL vm0 h) (RR : CHr Z EL s.vm h0 vm0 h) (hlk : meth.locks = false) (hx : p.tables.exec = Jvm.exec) {pc : Nat} {Ls : Array Slot} {z z' : Int32} {t : FieldType} {rest : List Value} (hret : meth.sig.returnType = some t) (ht : t = .boolean ∨ t = .byte ∨ t = .char ∨ t = .short)
    (hd : decode c.code pc = .ok (.ireturn, 1)) (hc : cells ≤ C) (hs : slots ≤ S) (hz : nar t z = z') (q : Q (some (.int z')) T.vm T.heap locs) : GoHL p e below s C S Z h0 EL Q T (mkF m pc Ls (.int z :: rest)) := by
  subst hz
  exact GoHL.fin X hS hk eT hZ hEL H RR hlk (fun h => by rw [hret] at h; cases h) hc hs q fun fs hr => Jvm.RoadKit.retN X hx hret ht hd hr
theorem GoHL.retV (X : Stand p l e R (s.setVm vm0) m args below meth c T locs cells slots) (hS : s.Since vm0 k0) (hk : k0 ≤ h.size) (eT : T.heap = h) (hZ : Z.Warmed39 vm0) (hEL : EW Z a0 EL) (H : CHv Z EL vm0 h) (RR : CHr Z EL s.vm h0 vm0 h) (hlk : meth.locks = false) (hx : p.tables.exec = Jvm.exec) {pc : Nat} {Ls : Array Slot} {w : Value} {t : FieldType} {i : Instr} {rest : List Value} (hret : meth.sig.returnType = some t) (hn : narrow t w = w)
    (hi : (i = .ireturn ∧ (t = .int ∨ t = .boolean ∨ t = .byte ∨ t = .char ∨ t = .short) ∧ ∃ z, w = .int z) ∨ (i = .lreturn ∧ t = .long ∧ ∃ z, w = .long z) ∨ (i = .dreturn ∧ t = .double ∧ ∃ z, w = .double z) ∨ (i = .freturn ∧ t = .float ∧ ∃ z, w = .float z) ∨ (i = .areturn ∧ t.isReference = true ∧ w.isRef = true))
    (hd : decode c.code pc = .ok (i, 1)) (hc : cells ≤ C) (hs : slots ≤ S) (q : Q (some w) T.vm T.heap locs) : GoHL p e below s C S Z h0 EL Q T (mkF m pc Ls (w :: rest)) :=
  GoHL.fin X hS hk eT hZ hEL H RR hlk (fun h => by rw [hret] at h; cases h) hc hs q fun fs hr => Jvm.RoadKit.retOut X hx hret hn hi hd hr
theorem GoHL.retR (X : Stand p l e R (s.setVm vm0) m args below meth c T locs cells slots) (hS : s.Since vm0 k0) (hk : k0 ≤ h.size) (eT : T.heap = h) (hZ : Z.Warmed39 vm0) (hEL : EW Z a0 EL) (H : CHv Z EL vm0 h) (RR : CHr Z EL s.vm h0 vm0 h) (hlk : meth.locks = false) (hx : p.tables.exec = Jvm.exec) {pc : Nat} {Ls : Array Slot} {w : Value} {t : FieldType} {rest : List Value} (hret : meth.sig.returnType = some t) (ht : t.isReference = true) (hw : w.isRef = true) (hn : narrow t w = w)
    (hd : decode c.code pc = .ok (.areturn, 1)) (hc : cells ≤ C) (hs : slots ≤ S) (q : Q (some w) T.vm T.heap locs) : GoHL p e below s C S Z h0 EL Q T (mkF m pc Ls (w :: rest)) :=
  GoHL.retV X hS hk eT hZ hEL H RR hlk hx hret hn (Or.inr (Or.inr (Or.inr (Or.inr ⟨rfl, ht, hw⟩)))) hd hc hs q
theorem GoHL.retI (X : Stand p l e R (s.setVm vm0) m args below meth c T locs cells slots) (hS : s.Since vm0 k0) (hk : k0 ≤ h.size) (eT : T.heap = h) (hZ : Z.Warmed39 vm0) (hEL : EW Z a0 EL) (H : CHv Z EL vm0 h) (RR : CHr Z EL s.vm h0 vm0 h) (hlk : meth.locks = false) (hx : p.tables.exec = Jvm.exec) {pc : Nat} {Ls : Array Slot} {z : Int32} {rest : List Value} (hret : meth.sig.returnType = some .int)
    (hd : decode c.code pc = .ok (.ireturn, 1)) (hc : cells ≤ C) (hs : slots ≤ S) (q : Q (some (.int z)) T.vm T.heap locs) : GoHL p e below s C S Z h0 EL Q T (mkF m pc Ls (.int z :: rest)) :=
  GoHL.retV X hS hk eT hZ hEL H RR hlk hx hret rfl (Or.inl ⟨rfl, Or.inl rfl, z, rfl⟩) hd hc hs q
theorem GoHL.ret0 (X : Stand p l e R (s.setVm vm0) m args below meth c T locs cells slots) (hS : s.Since vm0 k0) (hk : k0 ≤ h.size) (eT : T.heap = h) (hZ : Z.Warmed39 vm0) (hEL : EW Z a0 EL) (H : CHv Z EL vm0 h) (RR : CHr Z EL s.vm h0 vm0 h) (hlk : meth.locks = false) (hx : p.tables.exec = Jvm.exec) {pc : Nat} {Ls : Array Slot} (hret : meth.sig.returnType = none)
    (hd : decode c.code pc = .ok (.return_, 1)) (hc : cells ≤ C) (hs : slots ≤ S) (q : Q none T.vm T.heap locs) : GoHL p e below s C S Z h0 EL Q T (mkF m pc Ls []) :=
  GoHL.fin X hS hk eT hZ hEL H RR hlk (fun _ => rfl) hc hs q fun fs hr => X.returnOut hx hret hd hr
theorem GoHL.pure {w : Option Value} {Qc : Option Value → Heap → List Loc → Prop} {rest : List Value} {pc' : Nat} (H : ∃ (v : Option Value) (vm₁ : Vm) (B : Pt), (s.setVm vm0).WarmedH vm₁ ∧ Stand p l e R (s.setVm vm0) m args below meth c B.U B.locs B.cells B.slots ∧ (∃ L, Qc v B.U.heap L ∧ B.locs = locs ++ L ∧ B.cells = cells + 0 ∧ B.slots = slots + 0) ∧ Steps p.tables e below (T.setTop g) (B.U.setTop { g with pc := pc', stack := v.toList ++ rest })) (hq : ∀ v h' L, Qc v h' L → v = w ∧ Fr n0 L ∧ h' = h) (N : Fr n0 locs)
    (k : ∀ T' L', Stand p l e R (s.setVm vm0) m args below meth c T' L' cells slots → T'.heap = h → Fr n0 L' → GoHL p e below s C S Z h0 EL Q T' { g with pc := pc', stack := w.toList ++ rest }) : GoHL p e below s C S Z h0 EL Q T g := by
  obtain ⟨v, vm1, ⟨T', L', c', s'⟩, -, X, ⟨L, q, e1, e2, e3⟩, st⟩ := H
  obtain ⟨rfl, q2, q3⟩ := hq _ _ _ q
  dsimp only [Pt.U, Pt.locs, Pt.cells, Pt.slots] at X e1 e2 e3 st q3
  subst e1 e2 e3
  exact GoHL.tr st (k _ _ X q3 (Fr.app N q2))
theorem GoHL.pureS {w : Option Value} {Qc : Option Value → Heap → List Loc → Prop} {rest : List Value} {pc' : Nat} (H : ∃ (v : Option Value) (vm₁ : Vm) (B : Pt), (s.setVm vm0).WarmedH vm₁ ∧ Stand p l e R (s.setVm vm0) m args below meth c B.U B.locs B.cells B.slots ∧ (∃ L, Qc v B.U.heap L ∧ B.locs = locs ++ L ∧ B.cells = cells + 0 ∧ B.slots = slots + 0) ∧ ∀ target, Steps p.tables e below (B.U.setTop { g with pc := pc', stack := v.toList ++ rest }) target → Steps p.tables e below (T.setTop g) target) (hq : ∀ v h' L, Qc v h' L → v = w ∧ Fr n0 L ∧ h' = h) (N : Fr n0 locs)
    (k : ∀ T' L', Stand p l e R (s.setVm vm0) m args below meth c T' L' cells slots → T'.heap = h → Fr n0 L' → GoHL p e below s C S Z h0 EL Q T' { g with pc := pc', stack := w.toList ++ rest }) : GoHL p e below s C S Z h0 EL Q T g := by
  obtain ⟨v, vm1, ⟨T', L', c', s'⟩, -, X, ⟨L, q, e1, e2, e3⟩, st⟩ := H
  obtain ⟨rfl, q2, q3⟩ := hq _ _ _ q
  dsimp only [Pt.U, Pt.locs, Pt.cells, Pt.slots] at X e1 e2 e3 st q3
  subst e1 e2 e3
  exact GoHL.st st (k _ _ X q3 (Fr.app N q2))
end GoHLKit
abbrev EL : List (String × Nat) := consts_1
theorem own_selfsel2 {C : String} {y : MethodName} {args : Array Value} {s : State} (hs : (Jvm.Cond.selects C y y).before args s = true) (hp : (Jvm.Cond.privateMethod y).before args s = true) (hi : (Jvm.Cond.instanceMethod y).before args s = true) (hy : y.cls ≠ "java/lang/invoke/MethodHandle" ∧ y.cls ≠ "java/lang/invoke/VarHandle") : (Jvm.Cond.selects y.cls y y).before args s = true := by
  obtain ⟨c2, r2, m2, -, -, q3, -, kP, hkP, hkPi⟩ := Cond.selects_spec hs
  exact selects_self_of_private (findClass_of_methodNamed q3) hkP hkPi (Cond.privateMethod_at hp) hi hy
theorem own_same {C : String} {y z : MethodName} {args : Array Value} {s : State} (hd : (Jvm.Cond.declares y).before args s = true) (hs : (Jvm.Cond.selects C z z).before args s = true) (e : z.cls = y.cls) (hy : y.cls ≠ "java/lang/invoke/MethodHandle" ∧ y.cls ≠ "java/lang/invoke/VarHandle") : (Jvm.Cond.sameMethod y.cls y.cls y.name y.desc).before args s = true := by
  obtain ⟨m, meth, hm, -, -, -⟩ := Cond.declares_spec hd
  obtain ⟨c2, r2, m2, -, -, q3, -, kP, hkP, hkPi⟩ := Cond.selects_spec hs
  have hf := State.methodFound?_of_named hm hy
  have hc : s.vm.findClass y.cls = some m2.cls := e ▸ findClass_of_methodNamed q3
  have hm' : s.methodNamed? ⟨y.cls, y.name, y.desc⟩ = some m := hm
  simp [Cond.before, Cond.holds, Cond.value, hc, hf, hm', hkP, hkPi]
theorem own_nf {C : String} {y z : MethodName} {args : Array Value} {s : State} (hs : (Jvm.Cond.selects C z z).before args s = true) (e : z.cls = y.cls) : NotFace s y := fun r0 h0 => by
  obtain ⟨c2, r2, m2, -, -, q3, -, kP, hkP, hkPi⟩ := Cond.selects_spec hs
  have h1 : s.vm.findClass y.cls = some m2.cls := e ▸ findClass_of_methodNamed q3
  have h2 : s.vm.findClass y.cls = some r0.cls := findClass_of_methodNamed h0
  have q := Option.some.inj (h1.symm.trans h2)
  exact ⟨kP, q ▸ hkP, hkPi⟩
theorem own_shr0 (x : Int32) : x >>> ((0 : Int32) &&& 31) = x := by
  have h := c_ishr x 0 0 (by decide)
  apply Int32.toInt_inj.mp; rw [h]; simp
theorem own_shl0 (x : Int32) : x <<< ((0 : Int32) &&& 31) = x := by
  have h := c_ishl x 0 0 (by decide); have h1 := Int32.le_toInt x; have h2 := Int32.toInt_lt x; have h3 := Int32.le_toInt (x <<< ((0 : Int32) &&& 31)); have h4 := Int32.toInt_lt (x <<< ((0 : Int32) &&& 31))
  apply Int32.toInt_inj.mp
  have e : ((2 ^ 0 : Nat) : Int) = 1 := rfl
  rw [e] at h; omega
theorem own_oi {a : Nat} (h : a < 2147483648) : (Int32.ofNat a).toInt = a := Int32.toInt_ofNat_of_lt h
theorem own_oadd (a b : Nat) : Int32.ofNat a + Int32.ofNat b = Int32.ofNat (a + b) := (Int32.ofNat_add a b).symm
theorem own_oadd2 (a : Nat) : Int32.ofNat a + (2 : Int32) = Int32.ofNat (a + 2) := (Int32.ofNat_add a 2).symm
theorem own_osub {a b : Nat} (h : b ≤ a) (ha : a < 1073741824) : Int32.ofNat a - Int32.ofNat b = Int32.ofNat (a - b) := by
  apply Int32.toInt_inj.mp
  have h2 := c_isub (Int32.ofNat a) (Int32.ofNat b); rw [own_oi (by omega), own_oi (by omega)] at h2; rw [own_oi (by omega)]
  have h3 := Int32.le_toInt (Int32.ofNat a - Int32.ofNat b); have h4 := Int32.toInt_lt (Int32.ofNat a - Int32.ofNat b); omega
theorem own_le0 {a b : Nat} (h : a ≤ b) (hb : b < 1073741824) : ¬ ((0 : Int32) < (Int32.ofNat a - Int32.ofNat b)) := by
  rw [Int32.lt_iff_toInt_lt]
  have h2 := c_isub (Int32.ofNat a) (Int32.ofNat b); rw [own_oi (by omega), own_oi (by omega)] at h2
  have h3 := Int32.le_toInt (Int32.ofNat a - Int32.ofNat b); have h4 := Int32.toInt_lt (Int32.ofNat a - Int32.ofNat b); have e : (0 : Int32).toInt = 0 := rfl; omega
theorem own_gt0 {a b : Nat} (h : b < a) (ha : a < 1073741824) : (0 : Int32) < (Int32.ofNat a - Int32.ofNat b) := by
  rw [own_osub (Nat.le_of_lt h) ha, Int32.lt_iff_toInt_lt, own_oi (by omega)]; have e : (0 : Int32).toInt = 0 := rfl; omega
theorem own_olt {a b : Nat} (ha : a < 2147483648) (hb : b < 2147483648) : Int32.ofNat a < Int32.ofNat b ↔ a < b := by
  rw [Int32.lt_iff_toInt_lt, own_oi ha, own_oi hb]; omega
theorem own_oeq {a b : Nat} (ha : a < 2147483648) (hb : b < 2147483648) : Int32.ofNat a = Int32.ofNat b ↔ a = b := by
  constructor
  · intro h; have := congrArg Int32.toInt h; rw [own_oi ha, own_oi hb] at this; omega
  · intro h; rw [h]
theorem own_ocl {a : Nat} (h : a < 2147483648) : (Int32.ofNat a).toNatClampNeg = a := by
  rw [Int32.toNatClampNeg, own_oi h]; rfl
theorem own_onn {a : Nat} (h : a < 2147483648) : ¬ (Int32.ofNat a < 0) := by
  rw [Int32.lt_iff_toInt_lt, own_oi h]; have e : (0 : Int32).toInt = 0 := rfl; omega
theorem own_rng {vs : List Value} {dv : Value} (m : Nat) (i : Nat) (h : vs.length ≤ m) : ((List.range m).map fun i => vs.getD (0 + i) dv).getD i dv = vs.getD i dv := by
  simp only [List.getD_eq_getElem?_getD, List.getElem?_map, Nat.zero_add]
  by_cases q : i < m
  · simp [List.getElem?_range q]
  · rw [List.getElem?_eq_none (by simpa using q)]; simp [List.getElem?_eq_none (by omega : vs.length ≤ i)]
theorem own_rep (r i : Nat) (dv : Value) : (List.replicate r dv).getD i dv = dv := by
  simp only [List.getD_eq_getElem?_getD, List.getElem?_replicate]; split <;> rfl
theorem own_cp {bs vs : List Value} {dv : Value} {d m r : Nat} (hb : bs.length = d) (hv : vs.length ≤ m) : ∀ i, (bs ++ vs).getD i dv = ((bs ++ List.replicate r dv).take d ++ ((List.range m).map fun i => vs.getD (0 + i) dv) ++ (bs ++ List.replicate r dv).drop (d + m)).getD i dv := by
  intro i
  subst hb
  rw [List.take_left]
  have e1 : (bs ++ List.replicate r dv).drop (bs.length + m) = List.replicate (r - m) dv := by
    rw [← List.drop_drop, List.drop_left, List.drop_replicate]
  rw [e1, List.append_assoc]
  simp only [List.getD_eq_getElem?_getD]
  by_cases q : i < bs.length
  · rw [List.getElem?_append_left q, List.getElem?_append_left q]
  · rw [List.getElem?_append_right (Nat.le_of_not_lt q), List.getElem?_append_right (Nat.le_of_not_lt q)]
    generalize i - bs.length = j
    have a1 := own_rng (vs := vs) (dv := dv) m j hv
    have a2 := own_rep (r - m) (j - m) dv
    simp only [List.getD_eq_getElem?_getD] at a1 a2
    by_cases w : j < m
    · rw [List.getElem?_append_left (by simpa using w)]; exact a1.symm
    · rw [List.getElem?_append_right (by simpa using w)]; simp only [List.length_map, List.length_range]
      rw [a2, List.getElem?_eq_none (by omega)]; rfl
theorem own_opos {a : Nat} (h : 0 < a) (h2 : a < 2147483648) : (0 : Int32) < Int32.ofNat a := by
  rw [Int32.lt_iff_toInt_lt, own_oi h2]; have e : (0 : Int32).toInt = 0 := rfl; omega
theorem own_onbig {a : Nat} (h : a < 2000000000) : ¬ ((2147483639 : Int32) < Int32.ofNat a) := by
  rw [Int32.lt_iff_toInt_lt, own_oi (by omega)]; have e : (2147483639 : Int32).toInt = 2147483639 := rfl; omega
theorem own_onmax {a : Nat} (h : a < 2000000000) : ¬ (Int32.ofNat a = (2147483647 : Int32)) := by
  intro q; have := congrArg Int32.toInt q; rw [own_oi (by omega)] at this; have e : (2147483647 : Int32).toInt = 2147483647 := rfl; omega
theorem own_gm (cs : List Int32) (i : Nat) : (cs.map Value.int).getD i (.int 0) = .int (cs.getD i 0) := by
  simp only [List.getD_eq_getElem?_getD, List.getElem?_map]
  cases cs[i]? <;> rfl
theorem own_fe {s s' : State} {o : Outcome} {L : List Loc} {c k c' k' : Nat} (h : FrameEnd s o s' L c k) (hc : c ≤ c') (hk : k ≤ k') : FrameEnd s o s' L c' k' := ⟨h.1, h.2.1, h.2.2.mono hc hk⟩
theorem own_wide {l : Launch} {y : MethodName} {wl : List Jvm.Cond} {rm rm' : Room} {as' : Array Value} {Z : State} {h : Heap} {Q1 Q2 : Option Value → Heap → List Loc → Prop}
    (hM : MetFree l y (head1 wl rm) (fun a U => a = as' ∧ Z.Warmed39 U.vm ∧ U.heap = h) (fun _ _ _ _ _ => True) (fun _ U o U' => ∃ v L, o = .returned v ∧ Q1 v U'.heap L ∧ FrameEnd U o U' L rm.cells rm.slots))
    (hf : rm.frames ≤ rm'.frames) (hl : rm.locals ≤ rm'.locals) (hc : rm.cells ≤ rm'.cells) (hs : rm.slots ≤ rm'.slots) (hq : ∀ v h' L, Q1 v h' L → Q2 v h' L) :
    MetFree l y (head1 wl rm') (fun a U => a = as' ∧ Z.Warmed39 U.vm ∧ U.heap = h) (fun _ _ _ _ _ => True) (fun _ U o U' => ∃ v L, o = .returned v ∧ Q2 v U'.heap L ∧ FrameEnd U o U' L rm'.cells rm'.slots) := by
  intro p e ha hcs hk s m args below hfr happ hP' hK
  obtain ⟨a1, a2, a3, a4, a5, a6, a7, a8⟩ := (Spec.appliesLoose_iff hfr).mp happ
  obtain ⟨n, o, q1, q2, q3, v, L, q4, q5, q6⟩ := hM p e ha hcs hk s m args below hfr ((Spec.appliesLoose_iff hfr).mpr ⟨a1, a2, a3, a4, a5, a6, hasRoom_mono hf hl hc hs a7, a8⟩) hP' hK
  exact ⟨n, o, q1, q2, q3, v, L, q4, hq _ _ _ q5, own_fe q6 hc hs⟩
theorem own_kw {h h' : Heap} {a t : Addr} (K : Keep h h' [a]) : Keep h h' [a, t] := ⟨K.1, fun x c q r => K.2.1 x c q fun z => r (List.mem_cons.mpr (Or.inl (List.mem_singleton.mp z))), K.2.2⟩
def own_lo (c : Int32) : Int32 := c.toInt8.toInt32
def own_hi (c : Int32) : Int32 := (c >>> ((8 : Int32) &&& 31)).toInt8.toInt32
theorem own_un (c : Int32) : (((own_lo c &&& (255 : Int32)) <<< ((0 : Int32) &&& 31)) ||| ((own_hi c &&& (255 : Int32)) <<< ((8 : Int32) &&& 31))).toUInt32.toUInt16.toUInt32.toInt32 = c.toUInt32.toUInt16.toUInt32.toInt32 := by
  have : (((own_lo c &&& (255 : Int32)) <<< ((0 : Int32) &&& 31)) ||| ((own_hi c &&& (255 : Int32)) <<< ((8 : Int32) &&& 31))).toUInt32.toUInt16 = c.toUInt32.toUInt16 := by
    have e0 : ((0 : Int32) &&& 31) = 0 := by decide
    have e8 : ((8 : Int32) &&& 31) = 8 := by decide
    rw [own_hi, own_lo, e0, e8]
    apply UInt16.toBitVec_inj.mp
    simp only [UInt32.toBitVec_toUInt16, Int32.toBitVec_toUInt32, Int32.toBitVec_or, Int32.toBitVec_and, Int32.toBitVec_shiftLeft, Int32.toBitVec_shiftRight, Int32.toBitVec_toInt8, Int8.toBitVec_toInt32]
    apply BitVec.eq_of_getLsbD_eq
    intro i hi
    rw [show (Int32.toBitVec 0).smod 32 = 0#32 from by decide, show (Int32.toBitVec 8).smod 32 = 8#32 from by decide, show Int32.toBitVec 255 = 255#32 from rfl]
    generalize c.toBitVec = x
    have h : i = 0 ∨ i = 1 ∨ i = 2 ∨ i = 3 ∨ i = 4 ∨ i = 5 ∨ i = 6 ∨ i = 7 ∨ i = 8 ∨ i = 9 ∨ i = 10 ∨ i = 11 ∨ i = 12 ∨ i = 13 ∨ i = 14 ∨ i = 15 := by omega
    rcases h with rfl | rfl | rfl | rfl | rfl | rfl | rfl | rfl | rfl | rfl | rfl | rfl | rfl | rfl | rfl | rfl <;> simp [BitVec.getLsbD_signExtend, BitVec.getElem_signExtend, BitVec.getLsbD_sshiftRight, BitVec.getElem_sshiftRight]
  rw [this]
def own_ub : List Int32 → List Int32
  | [] => []
  | c :: r => own_lo c :: own_hi c :: own_ub r
theorem own_ubl : ∀ cs : List Int32, (own_ub cs).length = 2 * cs.length
  | [] => rfl
  | _ :: r => by simp only [own_ub, List.length_cons, own_ubl r]; omega
theorem own_uba : ∀ (a b : List Int32), own_ub (a ++ b) = own_ub a ++ own_ub b
  | [], _ => rfl
  | c :: r, b => by simp only [List.cons_append, own_ub, own_uba r b]
theorem own_ublo : ∀ (cs : List Int32) (i : Nat), i < cs.length → (own_ub cs).getD (2 * i) 0 = own_lo (cs.getD i 0)
  | [], _, h => absurd h (Nat.not_lt_zero _)
  | c :: r, 0, _ => rfl
  | c :: r, i + 1, h => by
    have := own_ublo r i (Nat.lt_of_succ_lt_succ h)
    rw [show 2 * (i + 1) = 2 * i + 1 + 1 by omega]; simpa [own_ub] using this
theorem own_ubhi : ∀ (cs : List Int32) (i : Nat), i < cs.length → (own_ub cs).getD (2 * i + 1) 0 = own_hi (cs.getD i 0)
  | [], _, h => absurd h (Nat.not_lt_zero _)
  | c :: r, 0, _ => rfl
  | c :: r, i + 1, h => by
    have := own_ubhi r i (Nat.lt_of_succ_lt_succ h)
    rw [show 2 * (i + 1) + 1 = 2 * i + 1 + 1 + 1 by omega]; simpa [own_ub] using this
theorem own_take1 {cs : List Int32} {i : Nat} (h : i < cs.length) : cs.take (i + 1) = cs.take i ++ [cs.getD i 0] := by
  rw [List.take_add_one, List.getD_eq_getElem?_getD, List.getElem?_eq_getElem h]; rfl
def own_l1 (cs : List Int32) : Bool := cs.all fun c => decide (¬ (255 : Int32) < c)
theorem own_l1t {cs : List Int32} (h : ∀ j, j < cs.length → ¬ (255 : Int32) < cs.getD j 0) : own_l1 cs = true := by
  refine List.all_eq_true.mpr fun c hc => decide_eq_true ?_
  obtain ⟨i, hi, rfl⟩ := List.getElem_of_mem hc
  have := h i hi; rwa [List.getD_eq_getElem?_getD, List.getElem?_eq_getElem hi] at this
theorem own_l1f {cs : List Int32} {i : Nat} (hi : i < cs.length) (h : (255 : Int32) < cs.getD i 0) : own_l1 cs = false := by
  refine Bool.eq_false_iff.mpr fun q => ?_
  have := of_decide_eq_true (List.all_eq_true.mp q _ (List.getElem_mem hi))
  rw [List.getD_eq_getElem?_getD, List.getElem?_eq_getElem hi] at h; exact this h
def own_cd (cs : List Int32) : Int32 := if own_l1 cs = true then 0 else 1
def own_by (cs : List Int32) : List Int32 := if own_l1 cs = true then cs.map own_lo else own_ub cs
theorem own_byl (cs : List Int32) : (own_by cs).length = if own_l1 cs = true then cs.length else 2 * cs.length := by
  unfold own_by; split <;> simp [own_ubl]
theorem own_shl1 {a : Nat} (h : a < 1073741824) : Int32.ofNat a <<< ((1 : Int32) &&& 31) = Int32.ofNat (2 * a) := by
  apply Int32.toBitVec_inj.mp
  rw [show ((1 : Int32) &&& 31) = 1 by decide, Int32.toBitVec_shiftLeft, show (Int32.toBitVec 1).smod 32 = 1#32 from by decide]
  apply BitVec.eq_of_toNat_eq
  show ((BitVec.ofNat 32 a) <<< (1#32)).toNat = (BitVec.ofNat 32 (2 * a)).toNat
  simp [Nat.shiftLeft_eq]; omega
theorem own_shr1 {a : Nat} (h : a < 1073741824) : Int32.ofNat (2 * a) >>> ((1 : Int32) &&& 31) = Int32.ofNat a := by
  rw [← own_shl1 h]
  apply Int32.toInt_inj.mp
  rw [own_shl1 h, show ((1 : Int32) &&& 31) = 1 by decide]
  show ((Int32.ofNat (2 * a)).toBitVec.sshiftRight' ((Int32.toBitVec 1).smod 32)).toInt = _
  rw [show (Int32.toBitVec 1).smod 32 = 1#32 from by decide, BitVec.sshiftRight_eq', BitVec.toInt_sshiftRight]
  show (Int32.ofNat (2 * a)).toInt >>> 1 = _
  rw [own_oi (by omega), own_oi (by omega), Int.shiftRight_eq_div_pow]; omega
theorem own_cfa0 (n : Int32) : (((n - n).toUInt32 >>> ((31 : Int32) &&& 31).toUInt32).toInt32).toInt8.toInt32 = 0 := by
  rw [Int32.sub_self]; decide
theorem own_cfa1 {n m : Nat} (h : n < m) (hm : m < 1000000) : (((Int32.ofNat n - Int32.ofNat m).toUInt32 >>> ((31 : Int32) &&& 31).toUInt32).toInt32).toInt8.toInt32 = 1 := by
  have e : ((Int32.ofNat n - Int32.ofNat m).toUInt32 >>> ((31 : Int32) &&& 31).toUInt32) = 1 := by
    apply UInt32.toNat_inj.mp
    rw [show ((31 : Int32) &&& 31).toUInt32 = 31 by decide, UInt32.toNat_shiftRight]
    have hb : (Int32.ofNat n - Int32.ofNat m).toUInt32.toNat = 4294967296 - (m - n) := by
      show (BitVec.ofNat 32 n - BitVec.ofNat 32 m).toNat = _
      rw [BitVec.toNat_sub, BitVec.toNat_ofNat, BitVec.toNat_ofNat, Nat.mod_eq_of_lt (by omega), Nat.mod_eq_of_lt (by omega)]; omega
    rw [hb, show (UInt32.toNat 31 % 32) = 31 from by decide, Nat.shiftRight_eq_div_pow, show (2 : Nat) ^ 31 = 2147483648 from rfl, show UInt32.toNat 1 = 1 from rfl]; omega
  rw [e]; decide
def own_hs (c : Int32) : Int32 := if ¬ c < (55296 : Int32) ∧ c < (56320 : Int32) then 1 else 0
def own_ls (c : Int32) : Int32 := if ¬ c < (56320 : Int32) ∧ c < (57344 : Int32) then 1 else 0
theorem own_push {Z : State} {h h' : Heap} {a : Addr} {c : Cell} {k : ClassId} {ty : FieldType} {z j : Int32} {vs : List Value} {dv v : Value} (A : Arr Z h a c ty) (q1 : c.cls = k) (S : c.slots.size = z.toNatClampNeg) (q3 : ¬ z < 0) (H : Has c vs dv) (G : ∀ i, i < c.slots.size → fits ty (vs.getD i dv) = true) (hv : fits ty v = true) (W : Wr h h' a j.toNatClampNeg v) (hj : j.toNatClampNeg = vs.length) : Arv Z h' a k ty z (vs ++ [v]) dv := by
  have pd := pad_rep vs dv 1
  have e : (vs ++ List.replicate 1 dv).set vs.length v = vs ++ [v] := by rw [List.set_append_right (h := Nat.le_refl _), Nat.sub_self]; rfl
  rw [← e]
  exact Arv.set A q1 S q3 (fun i hi => by rw [pd]; exact H i hi) (fun i hi => by rw [pd]; exact G i hi) hv W vs.length hj (by simp)
theorem own_nlo (c : Int32) : nar .byte (c.toInt8.toInt32) = own_lo c := by
  show (c.toInt8.toInt32).toInt8.toInt32 = c.toInt8.toInt32
  simp
theorem own_nhi (c : Int32) : nar .byte ((c >>> ((8 : Int32) &&& 31)).toInt8.toInt32) = own_hi c := own_nlo _
theorem own_tkv {cs : List Int32} {i : Nat} (h : i < cs.length) : ((cs.take i).map own_lo).map Value.int ++ [Value.int (own_lo (cs.getD i 0))] = ((cs.take (i + 1)).map own_lo).map Value.int := by
  rw [own_take1 h]; simp
theorem own_tku {cs : List Int32} {i : Nat} (h : i < cs.length) : ((own_ub (cs.take i)).map Value.int ++ [Value.int (own_lo (cs.getD i 0))]) ++ [Value.int (own_hi (cs.getD i 0))] = (own_ub (cs.take (i + 1))).map Value.int := by
  rw [own_take1 h, own_uba]; simp [own_ub]
theorem own_tkl {cs : List Int32} {i : Nat} (h : i ≤ cs.length) : ((own_ub (cs.take i)).map Value.int).length = 2 * i := by
  rw [List.length_map, own_ubl, List.length_take, Nat.min_eq_left h]
theorem own_1inc (i : Nat) : Int32.ofNat i + (1 : Int32) = Int32.ofNat (i + 1) := (Int32.ofNat_add i 1).symm
theorem own_byT {cs : List Int32} (h : own_l1 cs = true) : own_by cs = cs.map own_lo := if_pos h
theorem own_byF {cs : List Int32} (h : own_l1 cs = false) : own_by cs = own_ub cs := if_neg (by rw [h]; decide)
theorem own_cdT {cs : List Int32} (h : own_l1 cs = true) : own_cd cs = 0 := if_pos h
theorem own_cdF {cs : List Int32} (h : own_l1 cs = false) : own_cd cs = 1 := if_neg (by rw [h]; decide)
theorem own_cfa {cs : List Int32} (h1 : 1 ≤ cs.length) (h2 : cs.length < 100000) : (((Int32.ofNat cs.length - Int32.ofNat (own_by cs).length).toUInt32 >>> ((31 : Int32) &&& 31).toUInt32).toInt32).toInt8.toInt32 = own_cd cs := by
  rw [own_byl, own_cd]; by_cases h : own_l1 cs = true
  · rw [if_pos h, if_pos h]; exact own_cfa0 _
  · rw [if_neg h, if_neg h]; exact own_cfa1 (by omega) (by omega)
theorem own_ncd (cs : List Int32) : nar .byte (own_cd cs) = own_cd cs := by unfold own_cd; split <;> decide
theorem own_lencd {cs : List Int32} (h2 : cs.length < 100000) : Int32.ofNat (own_by cs).length >>> (own_cd cs &&& 31) = Int32.ofNat cs.length := by
  rw [own_byl, own_cd]; by_cases h : own_l1 cs = true
  · rw [if_pos h, if_pos h]; exact own_shr0 _
  · rw [if_neg h, if_neg h]; exact own_shr1 (by omega)
theorem own_l1of {cs : List Int32} (h : ¬ own_cd cs = 0) : own_l1 cs = false := Bool.eq_false_iff.mpr fun q => h (own_cdT q)
theorem own_bigl {a : Nat} (h : a < 100000) : Int32.ofNat a < (1073741823 : Int32) := (own_olt (b := 1073741823) (by omega) (by omega)).mpr (by omega)
theorem own_nch16 {x c : Int32} (h : x.toUInt32.toUInt16.toUInt32.toInt32 = c.toUInt32.toUInt16.toUInt32.toInt32) : nar .char (x.toUInt32.toUInt16.toUInt32.toInt32) = nar .char c := by
  rw [h]; show ((c.toUInt32.toUInt16.toUInt32.toInt32).toUInt32.toUInt16.toUInt32.toInt32) = c.toUInt32.toUInt16.toUInt32.toInt32
  generalize c.toUInt32.toUInt16 = u; simp
theorem own_fcd (cs : List Int32) : fits .byte (.int (own_cd cs)) = true := by unfold own_cd; split <;> rfl
def own_cl (cs : List Int32) (k : Nat) : Nat := if own_l1 cs = true then k else 2 * k
theorem own_clT {cs : List Int32} (h : own_l1 cs = true) (k : Nat) : own_cl cs k = k := if_pos h
theorem own_clF {cs : List Int32} (h : own_l1 cs = false) (k : Nat) : own_cl cs k = 2 * k := if_neg (by rw [h]; decide)
theorem own_shlcd (cs : List Int32) {k : Nat} (h : k < 1000000) : Int32.ofNat k <<< (own_cd cs &&& 31) = Int32.ofNat (own_cl cs k) := by
  unfold own_cd own_cl; split
  · exact own_shl0 _
  · exact own_shl1 (by omega)
theorem own_shl2cd (cs : List Int32) : (2 : Int32) <<< (own_cd cs &&& 31) = Int32.ofNat (own_cl cs 2) := own_shlcd cs (k := 2) (by decide)
theorem own_shrcd (cs : List Int32) {k : Nat} (h : k < 1000000) : Int32.ofNat (own_cl cs k) >>> (own_cd cs &&& 31) = Int32.ofNat k := by
  unfold own_cd own_cl; split
  · exact own_shr0 _
  · exact own_shr1 (by omega)
theorem own_clsub (cs : List Int32) (a b : Nat) : own_cl cs a - own_cl cs b = own_cl cs (a - b) := by unfold own_cl; split <;> omega
theorem own_cladd (cs : List Int32) (a b : Nat) : own_cl cs a + own_cl cs b = own_cl cs (a + b) := by unfold own_cl; split <;> omega
theorem own_clmax (cs : List Int32) (a b : Nat) : max (own_cl cs a) (own_cl cs b) = own_cl cs (max a b) := by unfold own_cl; split <;> omega
theorem own_clb (cs : List Int32) (a : Nat) : a ≤ own_cl cs a ∧ own_cl cs a ≤ 2 * a := by unfold own_cl; split <;> omega
theorem own_clle (cs : List Int32) {a b : Nat} (h : a ≤ b) : own_cl cs a ≤ own_cl cs b := by unfold own_cl; split <;> omega
theorem own_clinj (cs : List Int32) {a b : Nat} (h : own_cl cs a = own_cl cs b) : a = b := by unfold own_cl at h; split at h <;> omega
theorem own_bycl (cs : List Int32) : (own_by cs).length = own_cl cs cs.length := own_byl cs
theorem own_l1a (a b : List Int32) : own_l1 (a ++ b) = (own_l1 a && own_l1 b) := List.all_append
theorem own_Fl {a b : List Int32} (h : own_l1 a = false) : own_l1 (a ++ b) = false := by rw [own_l1a, h]; rfl
theorem own_Fr {a b : List Int32} (h : own_l1 b = false) : own_l1 (a ++ b) = false := by rw [own_l1a, h, Bool.and_false]
theorem own_TT {a b : List Int32} (h : own_l1 a = true) (g : own_l1 b = true) : own_l1 (a ++ b) = true := by rw [own_l1a, h, g]; rfl
theorem own_n16 {y : Int32} (h : nar .char y = y) : ∃ k, k < 65536 ∧ y = Int32.ofNat k := by
  refine ⟨y.toUInt32.toUInt16.toNat, UInt16.toNat_lt _, ?_⟩
  have e : y = y.toUInt32.toUInt16.toUInt32.toInt32 := h.symm
  refine e.trans ?_
  generalize y.toUInt32.toUInt16 = u
  apply Int32.toBitVec_inj.mp
  apply BitVec.eq_of_toNat_eq
  show u.toUInt32.toNat = (BitVec.ofNat 32 u.toNat).toNat
  rw [BitVec.toNat_ofNat, Nat.mod_eq_of_lt (Nat.lt_of_lt_of_le (UInt16.toNat_lt u) (by decide))]; simp
theorem own_loF : ∀ k : Fin 256, own_lo (Int32.ofNat k.val) &&& 255 = Int32.ofNat k.val := by decide +kernel
theorem own_lo255 {y : Int32} (h1 : ¬ (255 : Int32) < y) (h2 : nar .char y = y) : own_lo y &&& (255 : Int32) = y := by
  obtain ⟨k, hk, rfl⟩ := own_n16 h2
  rw [Int32.lt_iff_toInt_lt, own_oi (by omega)] at h1
  have e : (255 : Int32).toInt = 255 := rfl
  exact own_loF ⟨k, by omega⟩
theorem own_l1g {cs : List Int32} (h : own_l1 cs = true) {j : Nat} (hj : j < cs.length) : ¬ (255 : Int32) < cs.getD j 0 := by
  have := of_decide_eq_true (List.all_eq_true.mp h _ (List.getElem_mem hj))
  rwa [List.getD_eq_getElem?_getD, List.getElem?_eq_getElem hj]
theorem own_ior3 {a b c : Nat} (ha : a < 100000) (hb : b < 100000) (hc : c < 100000) : ¬ ((Int32.ofNat a ||| Int32.ofNat b) ||| Int32.ofNat c) < 0 := by
  rw [Int32.lt_iff_toInt_lt]
  have e : (0 : Int32).toInt = 0 := rfl
  have q : ∀ k, k < 100000 → (Int32.ofNat k).toBitVec.toNat < 2 ^ 17 := fun k hk => by
    show (BitVec.ofNat 32 k).toNat < _
    rw [BitVec.toNat_ofNat, Nat.mod_eq_of_lt (by omega)]; omega
  have h : ((Int32.ofNat a ||| Int32.ofNat b) ||| Int32.ofNat c).toBitVec.toNat < 2 ^ 17 := by
    rw [Int32.toBitVec_or, Int32.toBitVec_or, BitVec.toNat_or, BitVec.toNat_or]
    exact Nat.or_lt_two_pow (Nat.or_lt_two_pow (q a ha) (q b hb)) (q c hc)
  have h2 : 0 ≤ ((Int32.ofNat a ||| Int32.ofNat b) ||| Int32.ofNat c).toInt := by
    show 0 ≤ ((Int32.ofNat a ||| Int32.ofNat b) ||| Int32.ofNat c).toBitVec.toInt
    rw [BitVec.toInt_eq_toNat_cond]; split <;> omega
  omega
theorem own_cdTF (cs : List Int32) : own_l1 cs = true ∧ own_cd cs = 0 ∨ own_l1 cs = false ∧ own_cd cs = 1 := by
  cases h : own_l1 cs with
  | true => exact Or.inl ⟨rfl, if_pos h⟩
  | false => exact Or.inr ⟨rfl, if_neg (by rw [h]; decide)⟩
theorem own_ubt {cs : List Int32} {ys : List Int32} {i : Nat} (h : i < ys.length) : own_ub (cs ++ ys.take i) ++ [own_lo (ys.getD i 0)] ++ [own_hi (ys.getD i 0)] = own_ub (cs ++ ys.take (i + 1)) := by
  rw [List.take_add_one, List.getD_eq_getElem?_getD, List.getElem?_eq_getElem h, ← List.append_assoc, own_uba (cs ++ List.take i ys)]; simp [own_ub]
theorem own_nc57 (cs : List Int32) {cap kk : Nat} (h1 : cap < 1000) (h2 : kk < 1000) : Int32.ofNat (own_cl cs cap + max (own_cl cs kk - own_cl cs cap) (own_cl cs cap + own_cl cs 2)) >>> (own_cd cs &&& 31) = Int32.ofNat (cap + max (kk - cap) (cap + 2)) := by
  rw [own_clsub, own_cladd, own_clmax, own_cladd, own_shrcd cs (by omega)]
theorem own_lo0 : own_lo 0 = 0 := by decide
theorem own_gml (ys : List Int32) (i : Nat) : ((ys.map own_lo).map Value.int).getD i (.int 0) = .int (own_lo (ys.getD i 0)) := by
  rw [own_gm]; congr 1
  simp only [List.getD_eq_getElem?_getD, List.getElem?_map]
  cases ys[i]? <;> simp [own_lo0]
theorem own_utl {cs ys : List Int32} {i : Nat} (h : i ≤ ys.length) : ((own_ub (cs ++ ys.take i)).map Value.int).length = 2 * (cs.length + i) := by
  rw [List.length_map, own_ubl, List.length_append, List.length_take, Nat.min_eq_left h]
theorem own_tku2 {cs ys : List Int32} {i : Nat} (h : i < ys.length) : ((own_ub (cs ++ ys.take i)).map Value.int ++ [Value.int (own_lo (ys.getD i 0))]) ++ [Value.int (own_hi (ys.getD i 0))] = (own_ub (cs ++ ys.take (i + 1))).map Value.int := by
  rw [← own_ubt h]; simp
theorem own_lapn {cs ys : List Int32} : ((own_by cs).map Value.int).length = own_cl cs cs.length := by rw [List.length_map, own_bycl]
theorem own_bt {b e t : Addr} {n n2 : Nat} (h1 : b = e ∨ n2 ≤ b) (h2 : e = t ∨ n ≤ e) (h : n ≤ n2) : b = t ∨ n ≤ b := h1.elim (fun q => q ▸ h2) (fun q => Or.inr (Nat.le_trans h q))
theorem own_l1ot {cs : List Int32} (h : own_cd cs = 0) : own_l1 cs = true := by
  rcases own_cdTF cs with ⟨q, -⟩ | ⟨-, q⟩
  · exact q
  · rw [q] at h; exact absurd h (by decide)
theorem own_kt {h h' : Heap} {a t : Addr} (K : Keep h h' [t]) : Keep h h' [a, t] := ⟨K.1, fun x c q r => K.2.1 x c q fun z => r (List.mem_cons.mpr (Or.inr z)), K.2.2⟩
theorem own_wi {a t b : Addr} {n : Nat} (h : b = t ∨ n ≤ b) : b ∈ [a, t] ∨ n ≤ b := h.imp (fun e => by rw [e]; exact List.mem_cons.mpr (Or.inr (List.mem_singleton.mpr rfl))) id
theorem own_nc16 (y : Int32) : nar .char (y.toUInt32.toUInt16.toUInt32.toInt32) = y.toUInt32.toUInt16.toUInt32.toInt32 := by
  generalize y.toUInt32.toUInt16 = u
  show (u.toUInt32.toInt32).toUInt32.toUInt16.toUInt32.toInt32 = u.toUInt32.toInt32; simp
theorem own_hrn : ∀ z ∈ ([] : List Int32), nar .char z = z := fun _ q => nomatch q
theorem own_hrc {c : Int32} {r : List Int32} (h : nar .char c = c) (g : ∀ z ∈ r, nar .char z = z) : ∀ z ∈ c :: r, nar .char z = z := fun z hz => (List.mem_cons.mp hz).elim (fun e => e ▸ h) (g z)
theorem own_hrm {cs : List Int32} (h : ∀ z ∈ cs, nar .char z = z) : ∀ j, j < cs.length → nar .char (cs.getD j 0) = cs.getD j 0 := fun j hj => by
  rw [List.getD_eq_getElem?_getD, List.getElem?_eq_getElem hj]; exact h _ (List.getElem_mem hj)
theorem own_hrj {a b : List Int32} (h : ∀ j, j < a.length → nar .char (a.getD j 0) = a.getD j 0) (g : ∀ j, j < b.length → nar .char (b.getD j 0) = b.getD j 0) : ∀ j, j < (a ++ b).length → nar .char ((a ++ b).getD j 0) = (a ++ b).getD j 0 := fun j hj => by
  rw [List.length_append] at hj
  simp only [List.getD_eq_getElem?_getD] at h g ⊢
  by_cases q : j < a.length
  · rw [List.getElem?_append_left q]; exact h j q
  · rw [List.getElem?_append_right (Nat.le_of_not_lt q)]; exact g _ (by omega)
def own_ip (u : Int32) : Int32 := if (((u.toUInt32 >>> ((16 : Int32) &&& 31).toUInt32).toInt32) &&& (1 : Int32)) = (0 : Int32) then 0 else 1
def own_ph (u : Int32) : Int32 := ((55296 : Int32) ||| (((u.toUInt32 >>> ((20 : Int32) &&& 31).toUInt32).toInt32) &&& (1023 : Int32))).toUInt32.toUInt16.toUInt32.toInt32
def own_pl (u : Int32) : Int32 := ((56320 : Int32) ||| (u &&& (1023 : Int32))).toUInt32.toUInt16.toUInt32.toInt32
def own_bm (u : Int32) : Int32 := (if ¬ (u &&& (65535 : Int32)) < (55296 : Int32) ∧ ¬ (57343 : Int32) < (u &&& (65535 : Int32)) then (u &&& (65535 : Int32)) ^^^ (8192 : Int32) else (u &&& (65535 : Int32))).toUInt32.toUInt16.toUInt32.toInt32
def own_uc (u : Int32) : List Int32 := if own_ip u = 0 then [own_bm u] else [own_ph u, own_pl u]
theorem own_uc0 {u : Int32} (h : own_ip u = 0) : own_uc u = [own_bm u] := if_pos h
theorem own_uc1 {u : Int32} (h : ¬ own_ip u = 0) : own_uc u = [own_ph u, own_pl u] := if_neg h
theorem own_ucl (u : Int32) : 1 ≤ (own_uc u).length ∧ (own_uc u).length ≤ 2 := by unfold own_uc; split <;> simp
theorem own_hrp (u : Int32) : ∀ j, j < (own_uc u).length → nar .char ((own_uc u).getD j 0) = (own_uc u).getD j 0 := by
  apply own_hrm; unfold own_uc; split
  · exact own_hrc (own_nc16 _) own_hrn
  · exact own_hrc (own_nc16 _) (own_hrc (own_nc16 _) own_hrn)
def own_nm (p : Int32) : Int32 := if (p &&& (63 : Int32)) < (26 : Int32) then ((65 : Int32) + (p &&& (63 : Int32))).toUInt32.toUInt16.toUInt32.toInt32 else if (p &&& (63 : Int32)) < (52 : Int32) then ((97 : Int32) + ((p &&& (63 : Int32)) - (26 : Int32))).toUInt32.toUInt16.toUInt32.toInt32 else if (p &&& (63 : Int32)) < (62 : Int32) then ((48 : Int32) + ((p &&& (63 : Int32)) - (52 : Int32))).toUInt32.toUInt16.toUInt32.toInt32 else if (p &&& (63 : Int32)) = (62 : Int32) then 95 else 45
theorem own_andk (x : Int32) {m : Nat} (hm : m < 2147483648) : ∃ k, k ≤ m ∧ x &&& Int32.ofNat m = Int32.ofNat k := by
  refine ⟨(x &&& Int32.ofNat m).toBitVec.toNat, ?_, ?_⟩
  · rw [Int32.toBitVec_and, BitVec.toNat_and]
    refine Nat.le_trans Nat.and_le_right ?_
    show (BitVec.ofNat 32 m).toNat ≤ m
    rw [BitVec.toNat_ofNat]; exact Nat.mod_le _ _
  · apply Int32.toBitVec_inj.mp
    apply BitVec.eq_of_toNat_eq
    show _ = (BitVec.ofNat 32 _).toNat
    rw [BitVec.toNat_ofNat, Nat.mod_eq_of_lt (BitVec.isLt _)]
theorem own_nmF : ∀ k : Fin 64, ¬ (255 : Int32) < own_nm (Int32.ofNat k.val) ∧ nar .char (own_nm (Int32.ofNat k.val)) = own_nm (Int32.ofNat k.val) := by decide +kernel
theorem own_nmA (p : Int32) : own_nm p = own_nm (p &&& (63 : Int32)) := by
  have e : (p &&& (63 : Int32)) &&& (63 : Int32) = p &&& (63 : Int32) := by rw [Int32.and_assoc, Int32.and_self]
  unfold own_nm; rw [e]
theorem own_nmf (p : Int32) : ¬ (255 : Int32) < own_nm p ∧ nar .char (own_nm p) = own_nm p := by
  rw [own_nmA]
  obtain ⟨k, hk, e⟩ := own_andk p (m := 63) (by decide)
  rw [show (63 : Int32) = Int32.ofNat 63 from rfl, e]; exact own_nmF ⟨k, by omega⟩
theorem own_phF : ∀ k : Fin 1024, ((55296 : Int32) ||| Int32.ofNat k.val).toUInt32.toUInt16.toUInt32.toInt32 = Int32.ofNat (55296 + k.val) := by decide +kernel
theorem own_plF : ∀ k : Fin 1024, ((56320 : Int32) ||| Int32.ofNat k.val).toUInt32.toUInt16.toUInt32.toInt32 = Int32.ofNat (56320 + k.val) := by decide +kernel
theorem own_phk (u : Int32) : ∃ k, k < 1024 ∧ own_ph u = Int32.ofNat (55296 + k) := by
  obtain ⟨k, hk, e⟩ := own_andk ((u.toUInt32 >>> ((20 : Int32) &&& 31).toUInt32).toInt32) (m := 1023) (by decide)
  refine ⟨k, by omega, ?_⟩
  unfold own_ph; rw [show (1023 : Int32) = Int32.ofNat 1023 from rfl, e]; exact own_phF ⟨k, by omega⟩
theorem own_plk (u : Int32) : ∃ k, k < 1024 ∧ own_pl u = Int32.ofNat (56320 + k) := by
  obtain ⟨k, hk, e⟩ := own_andk u (m := 1023) (by decide)
  refine ⟨k, by omega, ?_⟩
  unfold own_pl; rw [show (1023 : Int32) = Int32.ofNat 1023 from rfl, e]; exact own_plF ⟨k, by omega⟩
theorem own_i2ck {k : Nat} (h : k < 65536) : (Int32.ofNat k).toUInt32.toUInt16.toUInt32.toInt32 = Int32.ofNat k := by
  apply Int32.toBitVec_inj.mp
  apply BitVec.eq_of_toNat_eq
  show (((BitVec.ofNat 32 k).setWidth 16).setWidth 32).toNat = (BitVec.ofNat 32 k).toNat
  simp; omega
theorem own_bmF : ∀ k : Fin 2048, ((Int32.ofNat (55296 + k.val)) ^^^ (8192 : Int32)).toUInt32.toUInt16.toUInt32.toInt32 = Int32.ofNat (63488 + k.val) := by decide +kernel
theorem own_bmk (u : Int32) : ∃ k, k < 65536 ∧ own_bm u = Int32.ofNat k ∧ (k < 55296 ∨ 57343 < k) := by
  obtain ⟨k, hk, e⟩ := own_andk u (m := 65535) (by decide)
  have q : (¬ Int32.ofNat k < (55296 : Int32) ∧ ¬ (57343 : Int32) < Int32.ofNat k) ↔ (¬ k < 55296 ∧ ¬ 57343 < k) := by
    rw [show (55296 : Int32) = Int32.ofNat 55296 from rfl, show (57343 : Int32) = Int32.ofNat 57343 from rfl, own_olt (by omega) (by omega), own_olt (by omega) (by omega)]
  unfold own_bm; rw [show (65535 : Int32) = Int32.ofNat 65535 from rfl, e]
  by_cases h : ¬ k < 55296 ∧ ¬ 57343 < k
  · rw [if_pos (q.mpr h)]
    have := own_bmF ⟨k - 55296, by omega⟩
    rw [show 55296 + (⟨k - 55296, by omega⟩ : Fin 2048).val = k by show 55296 + (k - 55296) = k; omega] at this
    exact ⟨63488 + (k - 55296), by omega, this, by omega⟩
  · rw [if_neg (fun z => h (q.mp z))]; exact ⟨k, by omega, own_i2ck (by omega), by omega⟩
def own_tcp (a b : Int32) : Int32 := ((a <<< ((10 : Int32) &&& 31)) + b) + (-56613888 : Int32)
def own_cpa (cs : List Int32) (i : Nat) : Int32 := if ¬ own_hs (cs.getD i 0) = 0 ∧ i + 1 < cs.length ∧ ¬ own_ls (cs.getD (i + 1) 0) = 0 then own_tcp (cs.getD i 0) (cs.getD (i + 1) 0) else cs.getD i 0
def own_u8 (p : Int32) : Nat := if p < (128 : Int32) then 1 else if p < (2048 : Int32) then 2 else if p < (65536 : Int32) then 3 else 4
def own_cc (p : Int32) : Nat := if p < (65536 : Int32) then 1 else 2
theorem own_u8l (p : Int32) : own_u8 p ≤ 4 := by unfold own_u8; repeat' split
                                                 all_goals omega
theorem own_shl10 {a : Nat} (h : a < 1048576) : Int32.ofNat a <<< ((10 : Int32) &&& 31) = Int32.ofNat (1024 * a) := by
  apply Int32.toBitVec_inj.mp
  rw [show ((10 : Int32) &&& 31) = 10 by decide, Int32.toBitVec_shiftLeft, show (Int32.toBitVec 10).smod 32 = 10#32 from by decide]
  apply BitVec.eq_of_toNat_eq
  show ((BitVec.ofNat 32 a) <<< (10#32)).toNat = (BitVec.ofNat 32 (1024 * a)).toNat
  simp [Nat.shiftLeft_eq]; omega
theorem own_tcpk {x y : Nat} (hx : x < 1024) (hy : y < 1024) : own_tcp (Int32.ofNat (55296 + x)) (Int32.ofNat (56320 + y)) = Int32.ofNat (65536 + 1024 * x + y) := by
  unfold own_tcp
  rw [own_shl10 (by omega), own_oadd, show 1024 * (55296 + x) + (56320 + y) = (65536 + 1024 * x + y) + 56613888 by omega, ← own_oadd, Int32.add_assoc, show Int32.ofNat 56613888 + (-56613888 : Int32) = 0 from by decide, Int32.add_zero]
theorem own_hs1 {k : Nat} (h : k < 1024) : ¬ own_hs (Int32.ofNat (55296 + k)) = 0 := by
  rw [own_hs, show (55296 : Int32) = Int32.ofNat 55296 from rfl, show (56320 : Int32) = Int32.ofNat 56320 from rfl, if_pos ⟨fun q => absurd ((own_olt (by omega) (by omega)).mp q) (by omega), (own_olt (by omega) (by omega)).mpr (by omega)⟩]; decide
theorem own_ls1 {k : Nat} (h : k < 1024) : ¬ own_ls (Int32.ofNat (56320 + k)) = 0 := by
  rw [own_ls, show (56320 : Int32) = Int32.ofNat 56320 from rfl, show (57344 : Int32) = Int32.ofNat 57344 from rfl, if_pos ⟨fun q => absurd ((own_olt (by omega) (by omega)).mp q) (by omega), (own_olt (by omega) (by omega)).mpr (by omega)⟩]; decide
theorem own_hs0 {k : Nat} (h : k < 65536) (g : k < 55296 ∨ 57343 < k) : own_hs (Int32.ofNat k) = 0 := by
  rw [own_hs, show (55296 : Int32) = Int32.ofNat 55296 from rfl, show (56320 : Int32) = Int32.ofNat 56320 from rfl, if_neg]
  rintro ⟨q1, q2⟩
  have := (own_olt (by omega) (by omega)).mp q2
  exact q1 ((own_olt (by omega) (by omega)).mpr (by omega))
theorem own_cpaL {cs : List Int32} {i : Nat} (l : own_l1 cs = true) (hi : i < cs.length) (hr : nar .char (cs.getD i 0) = cs.getD i 0) : own_cpa cs i = cs.getD i 0 := by
  obtain ⟨k, hk, e⟩ := own_n16 hr
  have h := own_l1g l hi
  rw [e, show (255 : Int32) = Int32.ofNat 255 from rfl, own_olt (by omega) (by omega)] at h
  rw [own_cpa, e, if_neg (fun z => z.1 (own_hs0 hk (Or.inl (by omega))))]
def own_at (cs : List Int32) (i n : Nat) : Prop := ∃ us : List Int32, us.length = n ∧ cs.drop i = us.flatMap own_uc ∧ i ≤ cs.length
theorem own_at0 {cs : List Int32} {i : Nat} (h : own_at cs i 0) : i = cs.length := by
  obtain ⟨us, e, d, l⟩ := h
  rw [List.length_eq_zero_iff.mp e] at d
  have := congrArg List.length d
  rw [List.length_drop] at this; simp at this; omega
theorem own_dg {cs r : List Int32} {i : Nat} {c : Int32} (h : cs.drop i = c :: r) : i < cs.length ∧ cs.getD i 0 = c ∧ cs.drop (i + 1) = r := by
  have hl : i < cs.length := by
    have := congrArg List.length h
    rw [List.length_drop, List.length_cons] at this; omega
  rw [List.drop_eq_getElem_cons hl] at h
  refine ⟨hl, ?_, (List.cons.inj h).2⟩
  rw [List.getD_eq_getElem?_getD, List.getElem?_eq_getElem hl]; exact (List.cons.inj h).1
theorem own_step {cs : List Int32} {i n : Nat} (h : own_at cs i (n + 1)) : i < cs.length ∧ (own_cpa cs i < (55296 : Int32) ∨ (57343 : Int32) < own_cpa cs i) ∧ own_at cs (i + own_cc (own_cpa cs i)) n := by
  obtain ⟨us, e, d, l⟩ := h
  match us, e with
  | u :: r, e =>
    rw [List.flatMap_cons] at d
    by_cases hp : own_ip u = 0
    · rw [own_uc0 hp] at d
      obtain ⟨hl, hg, hd⟩ := own_dg d
      obtain ⟨k, hk, eb, hb⟩ := own_bmk u
      have ec : own_cpa cs i = Int32.ofNat k := by rw [own_cpa, hg, eb, if_neg (fun z => z.1 (own_hs0 hk hb))]
      have e1 : own_cc (own_cpa cs i) = 1 := by rw [ec, own_cc, if_pos (show Int32.ofNat k < (65536 : Int32) from (own_olt (b := 65536) (by omega) (by omega)).mpr hk)]
      refine ⟨hl, ?_, r, by simpa using e, ?_, ?_⟩
      · rw [ec]; exact hb.imp (fun q => (own_olt (b := 55296) (by omega) (by omega)).mpr q) (fun q => (own_olt (a := 57343) (by omega) (by omega)).mpr q)
      · rw [e1]; exact hd
      · rw [e1]; exact hl
    · rw [own_uc1 hp] at d
      obtain ⟨hl, hg, hd⟩ := own_dg d
      obtain ⟨hl2, hg2, hd2⟩ := own_dg hd
      obtain ⟨x, hx, ex⟩ := own_phk u
      obtain ⟨y, hy, ey⟩ := own_plk u
      have ec : own_cpa cs i = Int32.ofNat (65536 + 1024 * x + y) := by rw [own_cpa, hg, hg2, ex, ey, if_pos ⟨own_hs1 hx, hl2, own_ls1 hy⟩, own_tcpk hx hy]
      have e1 : own_cc (own_cpa cs i) = 2 := by rw [ec, own_cc, if_neg (fun (q : Int32.ofNat (65536 + 1024 * x + y) < (65536 : Int32)) => absurd ((own_olt (b := 65536) (by omega) (by omega)).mp q) (by omega))]
      refine ⟨hl, ?_, r, by simpa using e, ?_, ?_⟩
      · rw [ec]; exact Or.inr ((own_olt (a := 57343) (by omega) (by omega)).mpr (by omega))
      · rw [e1]; exact hd2
      · rw [e1]; exact hl2
def own_c2 (k : Nat) (u : Int32) : List Int32 := if 2 ≤ k then own_uc u else []
def own_c3 (k : Nat) (u : Int32) : List Int32 := if 3 ≤ k then own_uc u else []
theorem own_c2y {k : Nat} {u : Int32} (h : 2 ≤ k) : own_c2 k u = own_uc u := if_pos h
theorem own_c2n {k : Nat} {u : Int32} (h : ¬ 2 ≤ k) : own_c2 k u = [] := if_neg h
theorem own_c3y {k : Nat} {u : Int32} (h : 3 ≤ k) : own_c3 k u = own_uc u := if_pos h
theorem own_c3n {k : Nat} {u : Int32} (h : ¬ 3 ≤ k) : own_c3 k u = [] := if_neg h
def own_key (k : Nat) (u v w : Int32) : List Int32 := own_uc u ++ own_c2 k v ++ own_c3 k w
theorem own_key1 {k : Nat} {u v w : Int32} (h : ¬ 2 ≤ k) : own_key k u v w = own_uc u := by rw [own_key, own_c2n h, own_c3n (by omega), List.append_nil, List.append_nil]
theorem own_key2 {k : Nat} {u v w : Int32} (h : 2 ≤ k) (g : ¬ 3 ≤ k) : own_key k u v w = own_uc u ++ own_uc v := by rw [own_key, own_c2y h, own_c3n g, List.append_nil]
theorem own_key3 {k : Nat} {u v w : Int32} (g : 3 ≤ k) : own_key k u v w = own_uc u ++ own_uc v ++ own_uc w := by rw [own_key, own_c2y (by omega), own_c3y g]
theorem own_keyl (k : Nat) (u v w : Int32) : 1 ≤ (own_key k u v w).length ∧ (own_key k u v w).length ≤ 6 := by
  have h1 := own_ucl u; have h2 := own_ucl v; have h3 := own_ucl w
  unfold own_key own_c2 own_c3
  split <;> split <;> simp only [List.length_append, List.length_nil] <;> omega
theorem own_keyr (k : Nat) (u v w : Int32) : ∀ j, j < (own_key k u v w).length → nar .char ((own_key k u v w).getD j 0) = (own_key k u v w).getD j 0 := by
  refine own_hrj (own_hrj (own_hrp u) ?_) ?_
  · unfold own_c2; split
    · exact own_hrp v
    · exact own_hrm own_hrn
  · unfold own_c3; split
    · exact own_hrp w
    · exact own_hrm own_hrn
theorem own_keya {k : Nat} {u v w : Int32} (h : 1 ≤ k) (g : k ≤ 3) : own_at (own_key k u v w) 0 k := by
  have : k = 1 ∨ k = 2 ∨ k = 3 := by omega
  rcases this with rfl | rfl | rfl
  · exact ⟨[u], rfl, by simp [own_key1], Nat.zero_le _⟩
  · exact ⟨[u, v], rfl, by simp [own_key2], Nat.zero_le _⟩
  · exact ⟨[u, v, w], rfl, by simp [own_key3], Nat.zero_le _⟩
def own_L0 : List Int32 := [111, 112, 108, 105, 109, 58, 123]
theorem own_l0_ : own_L0.length = 7 := rfl
theorem own_cdL0 : own_cd own_L0 = 0 := by decide +kernel
theorem own_byL0 : own_by own_L0 = own_L0 := by decide +kernel
theorem own_hrL0 : ∀ j, j < own_L0.length → nar .char (own_L0.getD j 0) = own_L0.getD j 0 := by decide +kernel
theorem own_1L0 : own_l1 own_L0 = true := by decide +kernel
def own_M (r p : List Int32) : List Int32 := own_L0 ++ r ++ [58] ++ p ++ [125]
theorem own_Mnil {r p : List Int32} : ((((([] : List Int32) ++ own_L0) ++ r) ++ [58]) ++ p) ++ [125] = own_M r p := rfl
theorem own_Ml (r p : List Int32) : (own_M r p).length = 9 + r.length + p.length := by simp only [own_M, List.length_append, own_l0_, List.length_cons, List.length_nil]; omega
theorem own_hr1 {c : Int32} (h : nar .char c = c) : ∀ j, j < [c].length → nar .char ([c].getD j 0) = [c].getD j 0 := own_hrm (own_hrc h own_hrn)
theorem own_hrM {r p : List Int32} (h : ∀ j, j < r.length → nar .char (r.getD j 0) = r.getD j 0) (g : ∀ j, j < p.length → nar .char (p.getD j 0) = p.getD j 0) : ∀ j, j < (own_M r p).length → nar .char ((own_M r p).getD j 0) = (own_M r p).getD j 0 := own_hrj (own_hrj (own_hrj (own_hrj own_hrL0 h) (own_hr1 (by decide))) g) (own_hr1 (by decide))
theorem own_la1 (cs : List Int32) (c : Int32) : (cs ++ [c]).length = cs.length + 1 := by simp
theorem own_bye {cs : List Int32} (h : 1 ≤ cs.length) (g : cs.length < 1000) : ¬ Int32.ofNat (own_by cs).length = (0 : Int32) := fun q => by
  have b := own_byl cs
  have : (own_by cs).length = 0 := (own_oeq (b := 0) (by split at b <;> omega) (by omega)).mp q
  split at b <;> omega
theorem own_mv (cs : List Int32) (c : Int32) : cs.map Value.int ++ [Value.int c] = (cs ++ [c]).map Value.int := by simp
theorem own_mod3 (x : Int32) : ∃ k : Nat, 1 ≤ k ∧ k ≤ 3 ∧ (((x.toUInt32 >>> ((1 : Int32) &&& 31).toUInt32).toInt32) % (3 : Int32)) + (1 : Int32) = Int32.ofNat k := by
  obtain ⟨z, ez⟩ : ∃ z, z = ((x.toUInt32 >>> ((1 : Int32) &&& 31).toUInt32).toInt32) := ⟨_, rfl⟩
  have h0 : 0 ≤ z.toInt := by
    have hb : z.toBitVec.toNat < 2147483648 := by
      rw [ez]
      show (x.toUInt32 >>> ((1 : Int32) &&& 31).toUInt32).toNat < _
      rw [show ((1 : Int32) &&& 31).toUInt32 = 1 by decide, UInt32.toNat_shiftRight, show (UInt32.toNat 1 % 32) = 1 from by decide, Nat.shiftRight_eq_div_pow]
      have := x.toUInt32.toNat_lt; omega
    show 0 ≤ z.toBitVec.toInt
    rw [BitVec.toInt_eq_toNat_cond]; split <;> omega
  rw [← ez]
  have h3 : (3 : Int32).toInt = 3 := rfl
  have hm : (z % 3).toInt = z.toInt.tmod 3 := by rw [Int32.toInt_mod, h3]
  have h1 := Int.tmod_nonneg 3 h0
  have h2 := Int.tmod_lt_of_pos z.toInt (show (0 : Int) < 3 by decide)
  refine ⟨(z.toInt.tmod 3).toNat + 1, by omega, by omega, ?_⟩
  have e : z % 3 = Int32.ofNat (z.toInt.tmod 3).toNat := by
    apply Int32.toInt_inj.mp
    rw [hm, own_oi (by omega)]; omega
  rw [e]; exact own_1inc _
theorem own_nl2 (x : Int32) : ∃ k : Nat, 1 ≤ k ∧ k ≤ 2 ∧ (x &&& (1 : Int32)) + (1 : Int32) = Int32.ofNat k := by
  obtain ⟨k, hk, e⟩ := own_andk x (m := 1) (by decide)
  exact ⟨k + 1, by omega, by omega, by rw [show (1 : Int32) = Int32.ofNat 1 from rfl, e]; exact own_1inc k⟩
theorem own_l1s {c : Int32} (h : ¬ (255 : Int32) < c) : own_l1 [c] = true := by
  show (decide (¬ (255 : Int32) < c) && true) = true
  rw [decide_eq_true h]; rfl
theorem own_kl1 (k : Nat) (u v w : Int32) : (own_uc u).length ≤ (own_key k u v w).length := by rw [own_key, List.length_append, List.length_append]; omega
theorem own_kl2 {k : Nat} {u v w : Int32} (h : 2 ≤ k) : (own_uc u ++ own_uc v).length ≤ (own_key k u v w).length := by rw [own_key, own_c2y h, List.length_append (as := own_uc u ++ own_uc v)]; omega
theorem own_kl3 {k : Nat} {u v w : Int32} (h : 3 ≤ k) : (own_uc u ++ own_uc v ++ own_uc w).length ≤ (own_key k u v w).length := by rw [own_key3 h]; exact Nat.le_refl _
theorem own_one {r : List Int32} (h : r.length = 1) : own_L0 ++ [r.getD 0 0] = own_L0 ++ r := by
  match r, h with
  | [_], _ => rfl
theorem own_two {r : List Int32} (h : r.length = 2) : own_L0 ++ [r.getD 0 0] ++ [r.getD 1 0] = own_L0 ++ r := by
  match r, h with
  | [_, _], _ => rfl
theorem own_l1c {c : Int32} {r : List Int32} (h : ¬ (255 : Int32) < c) (g : own_l1 r = true) : own_l1 (c :: r) = true := own_TT (own_l1s h) g
theorem own_ix (r : List Int32) : Int32.ofNat (7 + r.length) + (1 : Int32) = Int32.ofNat (own_L0 ++ r ++ [58]).length := by
  rw [own_1inc]; congr 1; simp only [List.length_append, own_l0_, List.length_cons, List.length_nil]

def Q_rmMax (Z : State) (na : Nat) (nb : Nat) (h0 : Heap) (n0 : Nat) (v : Option Value) (h : Heap) (L : List Loc) : Prop := v = some (.int (Int32.ofNat (max na nb))) ∧ Fr n0 L ∧ h = h0
theorem rmMax (l : Launch) (Z : State) (a0 : Array Value) (hw : HWt a0 Z) (ws : List Jvm.Cond) (na : Nat) (nb : Nat) (h0 : Heap) (n0 : Nat) (O : Old Z n0 h0) (ha : na < 1073741824) (hb_ : nb < 1073741824) :
    Met l mY5 (Jvm.Cond.code mY5 jdk_29_method_65_code 2 (some .int) :: ws) rz0_0_0_0 #[(.int (Int32.ofNat na)), (.int (Int32.ofNat nb))] Z h0 (Q_rmMax Z na nb h0 n0) := by
  refine MetFree.of_bodySF (Jvm.Free.JP.mathPlain rfl (by decide +kernel)) hisR ?_
  intro p e s m args below meth c s₁ Bd hml0 hP hK
  obtain ⟨rfl, hZ, hh⟩ := hP
  have hx := Bd.exec
  have hby := Bd.bytes
  have hml : c.maxLocals = 2 := hml0
  have hlk : meth.locks = false := BodyLoose.notSynchronized Bd
  have X0 : Stand p l e rz0_0_0_0 s m #[(.int (Int32.ofNat na)), (.int (Int32.ofNat nb))] below meth c s₁ [] 0 0 := Stand.of_body Bd
  have e0 : s₁.heap = h0 := by rw [← hh, Bd.state]; rfl
  have N0 := Fr.nil n0
  show Go p e below s rz0_0_0_0.cells rz0_0_0_0.slots (Q_rmMax Z na nb h0 n0) s₁ (entryFrame m #[(.int (Int32.ofNat na)), (.int (Int32.ofNat nb))] 2)
  refine Go.eq (ef_rmMax m (Int32.ofNat na) (Int32.ofNat nb)) ?_
  show Go _ _ _ _ _ _ _  s₁ (mkF m 0 #[vI (Int32.ofNat na), vI (Int32.ofNat nb)] [])
  refine Go.st (fun _ => XS.iloadN X0.here hx rfl (hb hby (dq dz67 0 0 rfl)) rfl) ?_
  refine Go.st (fun _ => XS.iloadN X0.here hx rfl (hb hby (dq dz67 1 1 rfl)) rfl) ?_
  show Go _ _ _ _ _ _ _  s₁ (mkF m 2 #[vI (Int32.ofNat na), vI (Int32.ofNat nb)] [(.int (Int32.ofNat nb)), (.int (Int32.ofNat na))])
  by_cases c2_1 : (Int32.ofNat na) < (Int32.ofNat nb)
  · refine Go.st (fun _ => XS.icmpYes X0.here hx rfl (pc0 := 2) (pc' := 9) rfl (hb hby (dq dz67 2 2 rfl)) rfl (tlt c2_1).1 (by decide) (by decide)) ?_
    show Go _ _ _ _ _ _ _  s₁ (mkF m 9 #[vI (Int32.ofNat na), vI (Int32.ofNat nb)] [])
    refine Go.st (fun _ => XS.iloadN X0.here hx rfl (hb hby (dq dz67 3 9 rfl)) rfl) ?_
    show Go _ _ _ _ _ _ _  s₁ (mkF m 10 #[vI (Int32.ofNat na), vI (Int32.ofNat nb)] [(.int (Int32.ofNat nb))])
    refine Go.retI X0 hlk hx Bd.returns (hb hby (dq dz67 4 10 rfl)) (by decide) (by decide) ?_
    show Q_rmMax Z _ _ h0 n0 _ s₁.heap _
    rw [e0]
    exact ⟨by have q := c2_1; rw [own_olt (by omega) (by omega)] at q; rw [show max na nb = nb by omega], N0, rfl⟩
  · refine Go.st (fun _ => XS.icmpNo X0.here hx rfl (hb hby (dq dz67 2 2 rfl)) rfl (flt c2_1).1) ?_
    show Go _ _ _ _ _ _ _  s₁ (mkF m 5 #[vI (Int32.ofNat na), vI (Int32.ofNat nb)] [])
    refine Go.st (fun _ => XS.iloadN X0.here hx rfl (hb hby (dq dz67 5 5 rfl)) rfl) ?_
    refine Go.st (fun _ => XS.goto X0.here hx rfl (pc0 := 6) (pc' := 10) rfl (hb hby (dq dz67 6 6 rfl)) (by decide) (by decide)) ?_
    show Go _ _ _ _ _ _ _  s₁ (mkF m 10 #[vI (Int32.ofNat na), vI (Int32.ofNat nb)] [(.int (Int32.ofNat na))])
    refine Go.retI X0 hlk hx Bd.returns (hb hby (dq dz67 4 10 rfl)) (by decide) (by decide) ?_
    show Q_rmMax Z _ _ h0 n0 _ s₁.heap _
    rw [e0]
    exact ⟨by have q := c2_1; rw [own_olt (by omega) (by omega)] at q; rw [show max na nb = na by omega], N0, rfl⟩
def Q_rmMin (Z : State) (na : Nat) (nb : Nat) (h0 : Heap) (n0 : Nat) (v : Option Value) (h : Heap) (L : List Loc) : Prop := v = some (.int (Int32.ofNat (min na nb))) ∧ Fr n0 L ∧ h = h0
theorem rmMin (l : Launch) (Z : State) (a0 : Array Value) (hw : HWt a0 Z) (ws : List Jvm.Cond) (na : Nat) (nb : Nat) (h0 : Heap) (n0 : Nat) (O : Old Z n0 h0) (ha : na < 1073741824) (hb_ : nb < 1073741824) :
    Met l mY6 (Jvm.Cond.code mY6 jdk_29_method_69_code 2 (some .int) :: ws) rz0_0_0_0 #[(.int (Int32.ofNat na)), (.int (Int32.ofNat nb))] Z h0 (Q_rmMin Z na nb h0 n0) := by
  refine MetFree.of_bodySF (Jvm.Free.JP.mathPlain rfl (by decide +kernel)) hisR ?_
  intro p e s m args below meth c s₁ Bd hml0 hP hK
  obtain ⟨rfl, hZ, hh⟩ := hP
  have hx := Bd.exec
  have hby := Bd.bytes
  have hml : c.maxLocals = 2 := hml0
  have hlk : meth.locks = false := BodyLoose.notSynchronized Bd
  have X0 : Stand p l e rz0_0_0_0 s m #[(.int (Int32.ofNat na)), (.int (Int32.ofNat nb))] below meth c s₁ [] 0 0 := Stand.of_body Bd
  have e0 : s₁.heap = h0 := by rw [← hh, Bd.state]; rfl
  have N0 := Fr.nil n0
  show Go p e below s rz0_0_0_0.cells rz0_0_0_0.slots (Q_rmMin Z na nb h0 n0) s₁ (entryFrame m #[(.int (Int32.ofNat na)), (.int (Int32.ofNat nb))] 2)
  refine Go.eq (ef_rmMin m (Int32.ofNat na) (Int32.ofNat nb)) ?_
  show Go _ _ _ _ _ _ _  s₁ (mkF m 0 #[vI (Int32.ofNat na), vI (Int32.ofNat nb)] [])
  refine Go.st (fun _ => XS.iloadN X0.here hx rfl (hb hby (dq dz43 0 0 rfl)) rfl) ?_
  refine Go.st (fun _ => XS.iloadN X0.here hx rfl (hb hby (dq dz43 1 1 rfl)) rfl) ?_
  show Go _ _ _ _ _ _ _  s₁ (mkF m 2 #[vI (Int32.ofNat na), vI (Int32.ofNat nb)] [(.int (Int32.ofNat nb)), (.int (Int32.ofNat na))])
  by_cases c2_1 : (Int32.ofNat nb) < (Int32.ofNat na)
  · refine Go.st (fun _ => XS.icmpYes X0.here hx rfl (pc0 := 2) (pc' := 9) rfl (hb hby (dq dz43 2 2 rfl)) rfl (tlt c2_1).2.2.1 (by decide) (by decide)) ?_
    show Go _ _ _ _ _ _ _  s₁ (mkF m 9 #[vI (Int32.ofNat na), vI (Int32.ofNat nb)] [])
    refine Go.st (fun _ => XS.iloadN X0.here hx rfl (hb hby (dq dz43 3 9 rfl)) rfl) ?_
    show Go _ _ _ _ _ _ _  s₁ (mkF m 10 #[vI (Int32.ofNat na), vI (Int32.ofNat nb)] [(.int (Int32.ofNat nb))])
    refine Go.retI X0 hlk hx Bd.returns (hb hby (dq dz43 4 10 rfl)) (by decide) (by decide) ?_
    show Q_rmMin Z _ _ h0 n0 _ s₁.heap _
    rw [e0]
    exact ⟨by have q := c2_1; rw [own_olt (by omega) (by omega)] at q; rw [show min na nb = nb by omega], N0, rfl⟩
  · refine Go.st (fun _ => XS.icmpNo X0.here hx rfl (hb hby (dq dz43 2 2 rfl)) rfl (flt c2_1).2.2.1) ?_
    show Go _ _ _ _ _ _ _  s₁ (mkF m 5 #[vI (Int32.ofNat na), vI (Int32.ofNat nb)] [])
    refine Go.st (fun _ => XS.iloadN X0.here hx rfl (hb hby (dq dz43 5 5 rfl)) rfl) ?_
    refine Go.st (fun _ => XS.goto X0.here hx rfl (pc0 := 6) (pc' := 10) rfl (hb hby (dq dz43 6 6 rfl)) (by decide) (by decide)) ?_
    show Go _ _ _ _ _ _ _  s₁ (mkF m 10 #[vI (Int32.ofNat na), vI (Int32.ofNat nb)] [(.int (Int32.ofNat na))])
    refine Go.retI X0 hlk hx Bd.returns (hb hby (dq dz43 4 10 rfl)) (by decide) (by decide) ?_
    show Q_rmMin Z _ _ h0 n0 _ s₁.heap _
    rw [e0]
    exact ⟨by have q := c2_1; rw [own_olt (by omega) (by omega)] at q; rw [show min na nb = na by omega], N0, rfl⟩
def Q_rmNL (Z : State) (c0 : Nat) (na : Nat) (nb : Nat) (h0 : Heap) (n0 : Nat) (v : Option Value) (h : Heap) (L : List Loc) : Prop := v = some (.int (Int32.ofNat (c0 + max na nb))) ∧ Fr n0 L ∧ h = h0
theorem rmNL (l : Launch) (Z : State) (a0 : Array Value) (hw : HWt a0 Z) (ws : List Jvm.Cond) (c0 : Nat) (na : Nat) (nb : Nat) (h0 : Heap) (n0 : Nat) (O : Old Z n0 h0) (hc : c0 < 500000000) (ha : na < 500000000) (hb_ : nb < 500000000) (hpos : 0 < nb) :
    Met l mY7 (Jvm.Cond.code mY7 jdk_48_method_27_code 4 (some .int) :: ws) rz1_0_0_14 #[(.int (Int32.ofNat c0)), (.int (Int32.ofNat na)), (.int (Int32.ofNat nb))] Z h0 (Q_rmNL Z c0 na nb h0 n0) := by
  refine MetFree.of_bodySF (plainFor_of_name pn_66) hisR ?_
  intro p e s m args below meth c s₁ Bd hml0 hP hK
  obtain ⟨rfl, hZ, hh⟩ := hP
  have hx := Bd.exec
  have hby := Bd.bytes
  have hml : c.maxLocals = 4 := hml0
  have hown : s.vm.findClass "jdk/internal/util/ArraysSupport" = some m.cls := findClass_of_methodNamed Bd.named
  have hlk : meth.locks = false := BodyLoose.notSynchronized Bd
  have X0 : Stand p l e rz1_0_0_14 s m #[(.int (Int32.ofNat c0)), (.int (Int32.ofNat na)), (.int (Int32.ofNat nb))] below meth c s₁ [] 0 0 := Stand.of_body Bd
  have e0 : s₁.heap = h0 := by rw [← hh, Bd.state]; rfl
  have N0 := Fr.nil n0
  show Go p e below s rz1_0_0_14.cells rz1_0_0_14.slots (Q_rmNL Z c0 na nb h0 n0) s₁ (entryFrame m #[(.int (Int32.ofNat c0)), (.int (Int32.ofNat na)), (.int (Int32.ofNat nb))] 4)
  refine Go.eq (ef_rmNL m (Int32.ofNat c0) (Int32.ofNat na) (Int32.ofNat nb)) ?_
  show Go _ _ _ _ _ _ _  s₁ (mkF m 0 #[vI (Int32.ofNat c0), vI (Int32.ofNat na), vI (Int32.ofNat nb), uS] [])
  refine Go.st (fun _ => XS.iloadN X0.here hx rfl (hb hby (dq dz66 0 0 rfl)) rfl) ?_
  refine Go.st (fun _ => XS.iloadN X0.here hx rfl (hb hby (dq dz66 1 1 rfl)) rfl) ?_
  refine Go.st (fun _ => XS.iloadN X0.here hx rfl (hb hby (dq dz66 2 2 rfl)) rfl) ?_
  show Go _ _ _ _ _ _ _  s₁ (mkF m 3 #[vI (Int32.ofNat c0), vI (Int32.ofNat na), vI (Int32.ofNat nb), uS] [(.int (Int32.ofNat nb)), (.int (Int32.ofNat na)), (.int (Int32.ofNat c0))])
  refine Go.pureS (w := (some (.int (Int32.ofNat (max na nb))))) (rest := [(.int (Int32.ofNat c0))]) (pc' := 6) (Jvm.LawKit.callS X0 hx (y := mY5) hown (mvT hZ (hwi hw 314 rfl)) (mvT hZ (hwi hw 315 rfl)) (mvT hZ (hwi hw 209 rfl)) (mvT hZ (hwi hw 316 rfl)) (by decide) (backOf (W := 1) (rmMax l Z a0 hw [] na nb h0 n0 O (by omega) (by omega)) hZ (hwi hw 316 rfl) (hwi hw 209 rfl) (by decide) (by decide)) (g := (mkF m 3 #[vI (Int32.ofNat c0), vI (Int32.ofNat na), vI (Int32.ofNat nb), uS] [(.int (Int32.ofNat nb)), (.int (Int32.ofNat na)), (.int (Int32.ofNat c0))])) rfl (by rw [hml]; rfl) (argsL := [(.int (Int32.ofNat na)), (.int (Int32.ofNat nb))]) (rest := [(.int (Int32.ofNat c0))]) (lenOf pd__II_I rfl) rfl (by show 2 * 0 + _ ≤ _; exact Nat.le_of_eq rfl) (hb hby (dq dz66 3 3 rfl)) (fun _ _ => ⟨rfl, e0, (by decide : 0 + 0 ≤ _), (by decide : 0 + 0 ≤ _)⟩)) (fun _ _ _ q => q) N0 (fun T1 L1 X1 e1q N1 => ?_)
  show Go _ _ _ _ _ _ _  T1 (mkF m 6 #[vI (Int32.ofNat c0), vI (Int32.ofNat na), vI (Int32.ofNat nb), uS] [(.int (Int32.ofNat (max na nb))), (.int (Int32.ofNat c0))])
  refine Go.st (fun _ => XS.iadd X1.here hx rfl (hb hby (dq dz66 4 6 rfl)) rfl) ?_
  show Go _ _ _ _ _ _ _  T1 (mkF m 7 #[vI (Int32.ofNat c0), vI (Int32.ofNat na), vI (Int32.ofNat nb), uS] [(.int ((Int32.ofNat c0) + (Int32.ofNat (max na nb))))])
  rw [own_oadd]
  refine Go.st (fun _ => XS.istoreN X1.here hx rfl (hb hby (dq dz66 5 7 rfl)) rfl (l' := #[vI (Int32.ofNat c0), vI (Int32.ofNat na), vI (Int32.ofNat nb), vI (Int32.ofNat (c0 + max na nb))]) rfl) ?_
  refine Go.st (fun _ => XS.iconst X1.here hx rfl (hb hby (dq dz66 6 8 rfl))) ?_
  refine Go.st (fun _ => XS.iloadN X1.here hx rfl (hb hby (dq dz66 7 9 rfl)) rfl) ?_
  show Go _ _ _ _ _ _ _  T1 (mkF m 10 #[vI (Int32.ofNat c0), vI (Int32.ofNat na), vI (Int32.ofNat nb), vI (Int32.ofNat (c0 + max na nb))] [(.int (Int32.ofNat (c0 + max na nb))), (.int (0 : Int32))])
  refine Go.st (fun _ => XS.icmpNo X1.here hx rfl (hb hby (dq dz66 8 10 rfl)) rfl (tlt (own_opos (by omega) (by omega) : (0 : Int32) < (Int32.ofNat (c0 + max na nb)))).2.1) ?_
  show Go _ _ _ _ _ _ _  T1 (mkF m 13 #[vI (Int32.ofNat c0), vI (Int32.ofNat na), vI (Int32.ofNat nb), vI (Int32.ofNat (c0 + max na nb))] [])
  refine Go.st (fun _ => XS.iloadN X1.here hx rfl (hb hby (dq dz66 9 13 rfl)) rfl) ?_
  show Go _ _ _ _ _ _ _  T1 (mkF m 14 #[vI (Int32.ofNat c0), vI (Int32.ofNat na), vI (Int32.ofNat nb), vI (Int32.ofNat (c0 + max na nb))] [(.int (Int32.ofNat (c0 + max na nb)))])
  refine Go.st (X1.ldcInt hx hown (mvT hZ (hwi hw 317 rfl)) (g := (mkF m 14 #[vI (Int32.ofNat c0), vI (Int32.ofNat na), vI (Int32.ofNat nb), vI (Int32.ofNat (c0 + max na nb))] [(.int (Int32.ofNat (c0 + max na nb)))])) rfl (hb hby (dq dz66 10 14 rfl))) ?_
  show Go _ _ _ _ _ _ _  T1 (mkF m 16 #[vI (Int32.ofNat c0), vI (Int32.ofNat na), vI (Int32.ofNat nb), vI (Int32.ofNat (c0 + max na nb))] [(.int (2147483639 : Int32)), (.int (Int32.ofNat (c0 + max na nb)))])
  refine Go.st (fun _ => XS.icmpNo X1.here hx rfl (hb hby (dq dz66 11 16 rfl)) rfl (flt (own_onbig (by omega) : ¬ ((2147483639 : Int32) < (Int32.ofNat (c0 + max na nb))))).2.2.1) ?_
  show Go _ _ _ _ _ _ _  T1 (mkF m 19 #[vI (Int32.ofNat c0), vI (Int32.ofNat na), vI (Int32.ofNat nb), vI (Int32.ofNat (c0 + max na nb))] [])
  refine Go.st (fun _ => XS.iloadN X1.here hx rfl (hb hby (dq dz66 12 19 rfl)) rfl) ?_
  show Go _ _ _ _ _ _ _  T1 (mkF m 20 #[vI (Int32.ofNat c0), vI (Int32.ofNat na), vI (Int32.ofNat nb), vI (Int32.ofNat (c0 + max na nb))] [(.int (Int32.ofNat (c0 + max na nb)))])
  refine Go.retI X1 hlk hx Bd.returns (hb hby (dq dz66 13 20 rfl)) (by decide) (by decide) ?_
  show Q_rmNL Z _ _ _ h0 n0 _ T1.heap _
  rw [e1q]
  exact ⟨rfl, N1, rfl⟩
def Q_rmCO (Z : State) (a1 : Addr) (N : Nat) (kd : ClassId) (cap : Nat) (bs : List Value) (h0 : Heap) (n0 : Nat) (v : Option Value) (h : Heap) (L : List Loc) : Prop := ∃ (b : Addr) (kb : ClassId), v = some (.ref b) ∧ Fr n0 L ∧ Ext h0 h ∧ h0.size ≤ b ∧ Arv Z h b kb .byte (Int32.ofNat N) bs (.int 0)
theorem rmCO (l : Launch) (Z : State) (a0 : Array Value) (hw : HWt a0 Z) (ws : List Jvm.Cond) (a1 : Addr) (N : Nat) (kd : ClassId) (cap : Nat) (bs : List Value) (h0 : Heap) (n0 : Nat) (O : Old Z n0 h0) (A_a1 : Arv Z h0 a1 kd .byte (Int32.ofNat cap) bs (.int 0)) (hbs : bs.length ≤ cap) (hN1 : cap ≤ N) (hN2 : N ≠ cap) (hN3 : N ≤ 68) :
    Met l mY9 (Jvm.Cond.code mY9 jdk_65_method_121_code 3 (some (.array .byte)) :: ws) rz1_1_68_18 #[(.ref a1), (.int (Int32.ofNat N))] Z h0 (Q_rmCO Z a1 N kd cap bs h0 n0) := by
  refine MetFree.of_bodySF (plainFor_of_name pn_68) hisR ?_
  intro p e s m args below meth c s₁ Bd hml0 hP hK
  obtain ⟨rfl, hZ, hh⟩ := hP
  have hx := Bd.exec
  have hby := Bd.bytes
  have hml : c.maxLocals = 3 := hml0
  have hown : s.vm.findClass "java/util/Arrays" = some m.cls := findClass_of_methodNamed Bd.named
  have hlk : meth.locks = false := BodyLoose.notSynchronized Bd
  have X0 : Stand p l e rz1_1_68_18 s m #[(.ref a1), (.int (Int32.ofNat N))] below meth c s₁ [] 0 0 := Stand.of_body Bd
  have e0 : s₁.heap = h0 := by rw [← hh, Bd.state]; rfl
  have N0 := Fr.nil n0
  have KK : Keep h0 h0 [] := Keep.refl h0 _
  show Go p e below s rz1_1_68_18.cells rz1_1_68_18.slots (Q_rmCO Z a1 N kd cap bs h0 n0) s₁ (entryFrame m #[(.ref a1), (.int (Int32.ofNat N))] 3)
  refine Go.eq (ef_rmCO m a1 (Int32.ofNat N)) ?_
  show Go _ _ _ _ _ _ _  s₁ (mkF m 0 #[vR a1, vI (Int32.ofNat N), uS] [])
  refine Go.st (fun _ => XS.iloadN X0.here hx rfl (hb hby (dq dz68 0 0 rfl)) rfl) ?_
  refine Go.st (fun _ => XS.aloadN X0.here hx rfl (hb hby (dq dz68 1 1 rfl)) rfl rfl) ?_
  show Go _ _ _ _ _ _ _  s₁ (mkF m 2 #[vR a1, vI (Int32.ofNat N), uS] [(.ref a1), (.int (Int32.ofNat N))])
  obtain ⟨cl1, Ar1, q1, S1, M1, Hh1, G1⟩ := id A_a1
  refine Go.st (X0.arraylength hx (by rw [e0]; exact Ar1.1) (State.isArrayOf_alike hZ.alike Ar1.2.1) (g := (mkF m 2 #[vR a1, vI (Int32.ofNat N), uS] [(.ref a1), (.int (Int32.ofNat N))])) rfl rfl (hb hby (dq dz68 2 2 rfl))) ?_
  rw [len_of S1 M1]
  show Go _ _ _ _ _ _ _  s₁ (mkF m 3 #[vR a1, vI (Int32.ofNat N), uS] [(.int (Int32.ofNat cap)), (.int (Int32.ofNat N))])
  refine Go.st (fun _ => XS.icmpYes X0.here hx rfl (pc0 := 3) (pc' := 14) rfl (hb hby (dq dz68 3 3 rfl)) rfl (feq (fun q => hN2 ((own_oeq (by omega) (by omega)).mp q) : ¬ ((Int32.ofNat N) = (Int32.ofNat cap)))).2 (by decide) (by decide)) ?_
  show Go _ _ _ _ _ _ _  s₁ (mkF m 14 #[vR a1, vI (Int32.ofNat N), uS] [])
  refine Go.st (fun _ => XS.iloadN X0.here hx rfl (hb hby (dq dz68 4 14 rfl)) rfl) ?_
  show Go _ _ _ _ _ _ _  s₁ (mkF m 15 #[vR a1, vI (Int32.ofNat N), uS] [(.int (Int32.ofNat N))])
  obtain ⟨T2, h2, k2, X2, e2, E2, A2, st2⟩ := newP X0 hx hZ (hwi hw 23 rfl) e0 (g := (mkF m 15 #[vR a1, vI (Int32.ofNat N), uS] [(.int (Int32.ofNat N))])) rfl (hb hby (dq dz68 5 15 rfl)) rfl (own_onn (by omega)) (cap := 68) (by rw [own_ocl (by omega)]; omega) (by decide) (by decide) (by decide)
  obtain ⟨b2, g2⟩ : ∃ z, z = h0.size := ⟨_, rfl⟩
  rw [← g2] at A2 st2
  refine Go.st st2 ?_
  have g_b2 : n0 ≤ b2 := by rw [g2]; exact own_le O
  have sz_b2 : h0.size ≤ b2 := by rw [g2]; exact KK.1
  have ne_a1_b2 : a1 ≠ b2 := Nat.ne_of_lt (by rw [g2]; exact A_a1.lt)
  have A_a1 := A_a1.ext E2
  have O := O.ext E2
  have KK := KK.ext E2
  have V_b2 := Arv.new A2 (own_onn (by omega))
  show Go _ _ _ _ _ _ _  T2 (mkF m 17 #[vR a1, vI (Int32.ofNat N), uS] [(.ref b2)])
  refine Go.st (fun _ => XS.astoreN X2.here hx rfl (hb hby (dq dz68 6 17 rfl)) rfl rfl (l' := #[vR a1, vI (Int32.ofNat N), vR b2]) rfl) ?_
  refine Go.st (fun _ => XS.aloadN X2.here hx rfl (hb hby (dq dz68 7 18 rfl)) rfl rfl) ?_
  refine Go.st (fun _ => XS.iconst X2.here hx rfl (hb hby (dq dz68 8 19 rfl))) ?_
  refine Go.st (fun _ => XS.aloadN X2.here hx rfl (hb hby (dq dz68 9 20 rfl)) rfl rfl) ?_
  refine Go.st (fun _ => XS.iconst X2.here hx rfl (hb hby (dq dz68 10 21 rfl))) ?_
  refine Go.st (fun _ => XS.aloadN X2.here hx rfl (hb hby (dq dz68 11 22 rfl)) rfl rfl) ?_
  show Go _ _ _ _ _ _ _  T2 (mkF m 23 #[vR a1, vI (Int32.ofNat N), vR b2] [(.ref a1), (.int (0 : Int32)), (.ref b2), (.int (0 : Int32)), (.ref a1)])
  obtain ⟨cl3, Ar3, q3, S3, M3, Hh3, G3⟩ := id A_a1
  refine Go.st (X2.arraylength hx (by rw [e2]; exact Ar3.1) (State.isArrayOf_alike hZ.alike Ar3.2.1) (g := (mkF m 23 #[vR a1, vI (Int32.ofNat N), vR b2] [(.ref a1), (.int (0 : Int32)), (.ref b2), (.int (0 : Int32)), (.ref a1)])) rfl rfl (hb hby (dq dz68 12 23 rfl))) ?_
  rw [len_of S3 M3]
  show Go _ _ _ _ _ _ _  T2 (mkF m 24 #[vR a1, vI (Int32.ofNat N), vR b2] [(.int (Int32.ofNat cap)), (.int (0 : Int32)), (.ref b2), (.int (0 : Int32)), (.ref a1)])
  refine Go.st (fun _ => XS.iloadN X2.here hx rfl (hb hby (dq dz68 13 24 rfl)) rfl) ?_
  show Go _ _ _ _ _ _ _  T2 (mkF m 25 #[vR a1, vI (Int32.ofNat N), vR b2] [(.int (Int32.ofNat N)), (.int (Int32.ofNat cap)), (.int (0 : Int32)), (.ref b2), (.int (0 : Int32)), (.ref a1)])
  refine Go.pureS (w := (some (.int (Int32.ofNat (min cap N))))) (rest := [(.int (0 : Int32)), (.ref b2), (.int (0 : Int32)), (.ref a1)]) (pc' := 28) (Jvm.LawKit.callS X2 hx (y := mY6) hown (mvT hZ (hwi hw 207 rfl)) (mvT hZ (hwi hw 208 rfl)) (mvT hZ (hwi hw 209 rfl)) (mvT hZ (hwi hw 210 rfl)) (by decide) (backOf (W := 4) (rmMin l Z a0 hw [] cap N h2 n0 O (by omega) (by omega)) hZ (hwi hw 210 rfl) (hwi hw 209 rfl) (by decide) (by decide)) (g := (mkF m 25 #[vR a1, vI (Int32.ofNat N), vR b2] [(.int (Int32.ofNat N)), (.int (Int32.ofNat cap)), (.int (0 : Int32)), (.ref b2), (.int (0 : Int32)), (.ref a1)])) rfl (by rw [hml]; rfl) (argsL := [(.int (Int32.ofNat cap)), (.int (Int32.ofNat N))]) (rest := [(.int (0 : Int32)), (.ref b2), (.int (0 : Int32)), (.ref a1)]) (lenOf pd__II_I rfl) rfl (by show 2 * 0 + _ ≤ _; exact Nat.le_of_eq rfl) (hb hby (dq dz68 14 25 rfl)) (fun _ _ => ⟨rfl, e2, (by decide : 1 + 0 ≤ _), (by decide : 68 + 0 ≤ _)⟩)) (fun _ _ _ q => q) N0 (fun T4 L4 X4 e4q N4 => ?_)
  rw [Nat.min_eq_left hN1]
  show Go _ _ _ _ _ _ _  T4 (mkF m 28 #[vR a1, vI (Int32.ofNat N), vR b2] [(.int (Int32.ofNat cap)), (.int (0 : Int32)), (.ref b2), (.int (0 : Int32)), (.ref a1)])
  obtain ⟨T5, h5, L5, X5, e5, N5, K5, V5, st5⟩ := cpA X4 hx hZ hown (hwi hw 211 rfl) (hwi hw 152 rfl) (hwi hw 150 rfl) (hwi hw 151 rfl) e4q A_a1 (V_b2.pad (pad_rep [] (.int 0) cap)) (Or.inl ⟨rfl, rfl⟩) (by decide) (by decide) (own_onn (by omega)) (by rw [own_ocl (by omega)]; exact Nat.le_of_eq (Nat.zero_add _)) (by rw [own_ocl (by omega), own_ocl (by omega)]; exact Nat.le_trans (Nat.le_of_eq (Nat.zero_add _)) hN1) (us := (List.range cap).map fun i => bs.getD (0 + i) (.int 0)) (by rw [own_ocl (by omega)]; rfl) (by rw [own_ocl (by omega)]; simp) N4 g_b2 (g := (mkF m 28 #[vR a1, vI (Int32.ofNat N), vR b2] [(.int (Int32.ofNat cap)), (.int (0 : Int32)), (.ref b2), (.int (0 : Int32)), (.ref a1)])) rfl (by rw [hml]; rfl) rfl (hb hby (dq dz68 15 28 rfl)) (by decide) (W := 0) (by show 2 * 0 + _ ≤ _; exact Nat.le_of_eq rfl) (by decide)
  refine Go.st st5 ?_
  have V5 := V5.pad (by rw [own_ocl (by omega)]; exact own_cp (bs := []) (d := 0) rfl hbs)
  have A_a1 := A_a1.keep K5 (ninS ne_a1_b2 nin0)
  have O := O.keep K5 (allS g_b2 all0)
  have KK := KK.trans K5 (allS (Or.inr sz_b2) all0)
  have V_b2 := V5
  show Go _ _ _ _ _ _ _  T5 (mkF m 31 #[vR a1, vI (Int32.ofNat N), vR b2] [])
  refine Go.st (fun _ => XS.aloadN X5.here hx rfl (hb hby (dq dz68 16 31 rfl)) rfl rfl) ?_
  show Go _ _ _ _ _ _ _  T5 (mkF m 32 #[vR a1, vI (Int32.ofNat N), vR b2] [(.ref b2)])
  refine Go.retR X5 hlk hx Bd.returns rfl rfl rfl (hb hby (dq dz68 17 32 rfl)) (by decide) (by decide) ?_
  show Q_rmCO Z _ _ _ _ _ h0 n0 _ T5.heap _
  rw [e5]
  exact ⟨_, _, rfl, N5, own_ext0 KK, sz_b2, V_b2⟩
def Q_rmI1 (Z : State) (a1 : Addr) (zc : Int32) (h0 : Heap) (n0 : Nat) (v : Option Value) (h : Heap) (L : List Loc) : Prop := v = none ∧ Fr n0 L ∧ Keep h0 h [a1] ∧ Exa Z h a1 "java/lang/StringBuilder" ∧ Fld Z h a1 "java/lang/AbstractStringBuilder" "coder" "B" (.int 0) ∧ Fld Z h a1 "java/lang/AbstractStringBuilder" "count" "I" (.int (Int32.ofNat 0)) ∧ Fld Z h a1 "java/lang/AbstractStringBuilder" "maybeLatin1" "Z" (.int 0) ∧ ∃ (b : Addr) (kb : ClassId), h0.size ≤ b ∧ Fld Z h a1 "java/lang/AbstractStringBuilder" "value" "[B" (.ref b) ∧ Arv Z h b kb .byte (Int32.ofNat 16) [] (.int 0) ∧ Exa Z h b "[B"
theorem rmI1 (l : Launch) (Z : State) (a0 : Array Value) (hw : HWt a0 Z) (ws : List Jvm.Cond) (a1 : Addr) (zc : Int32) (h0 : Heap) (n0 : Nat) (O : Old Z n0 h0) (S_COMPACT : Sta Z Z.heap "java/lang/String" "COMPACT_STRINGS" "Z" (.int zc)) (hcs : ¬ zc = 0) (E_a1 : Exa Z h0 a1 "java/lang/StringBuilder") (F_value_a1 : Fld Z h0 a1 "java/lang/AbstractStringBuilder" "value" "[B" .null) (F_coder_a1 : Fld Z h0 a1 "java/lang/AbstractStringBuilder" "coder" "B" (.int (0 : Int32))) (F_count_a1 : Fld Z h0 a1 "java/lang/AbstractStringBuilder" "count" "I" (.int (0 : Int32))) (F_maybeLatin1_a1 : Fld Z h0 a1 "java/lang/AbstractStringBuilder" "maybeLatin1" "Z" (.int (0 : Int32))) (g_a1 : n0 ≤ a1) :
    Met l mY13 (Jvm.Cond.code mY13 jdk_68_method_2_code 2 none :: ws) rz1_1_16_12 #[(.ref a1), (.int (16 : Int32))] Z h0 (Q_rmI1 Z a1 zc h0 n0) := by
  refine MetFree.of_bodySF (plainFor_of_name pn_23) hisR ?_
  intro p e s m args below meth c s₁ Bd hml0 hP hK
  obtain ⟨rfl, hZ, hh⟩ := hP
  have hx := Bd.exec
  have hby := Bd.bytes
  have hml : c.maxLocals = 2 := hml0
  have hown : s.vm.findClass "java/lang/AbstractStringBuilder" = some m.cls := findClass_of_methodNamed Bd.named
  have hlk : meth.locks = false := BodyLoose.notSynchronized Bd
  have X0 : Stand p l e rz1_1_16_12 s m #[(.ref a1), (.int (16 : Int32))] below meth c s₁ [] 0 0 := Stand.of_body Bd
  have e0 : s₁.heap = h0 := by rw [← hh, Bd.state]; rfl
  have N0 := Fr.nil n0
  have KK : Keep h0 h0 [a1] := Keep.refl h0 _
  show Go p e below s rz1_1_16_12.cells rz1_1_16_12.slots (Q_rmI1 Z a1 zc h0 n0) s₁ (entryFrame m #[(.ref a1), (.int (16 : Int32))] 2)
  refine Go.eq (ef_rmI1 m a1) ?_
  show Go _ _ _ _ _ _ _  s₁ (mkF m 0 #[vR a1, vI (16 : Int32)] [])
  refine Go.st (fun _ => XS.aloadN X0.here hx rfl (hb hby (dq dz23 0 0 rfl)) rfl rfl) ?_
  show Go _ _ _ _ _ _ _  s₁ (mkF m 1 #[vR a1, vI (16 : Int32)] [(.ref a1)])
  obtain ⟨T1, X1, e1, st1⟩ := initO X0 hx hZ hown (hwi hw 106 rfl) (hwi hw 16 rfl) (hwi hw 17 rfl) e0 (g := (mkF m 1 #[vR a1, vI (16 : Int32)] [(.ref a1)])) rfl (by rw [hml]; rfl) rfl (hb hby (dq dz23 1 1 rfl)) (by decide) (W := 0) (by show 2 * 0 + _ ≤ _; exact Nat.le_of_eq rfl) (by decide)
  refine Go.st st1 ?_
  show Go _ _ _ _ _ _ _  T1 (mkF m 4 #[vR a1, vI (16 : Int32)] [])
  obtain ⟨T2, X2, e2, st2⟩ := getS2 X1 hx hZ hown (host := "") (Or.inl (hwi hw 107 rfl)) Via.refl e1 (S_COMPACT.ext O.2) (g := (mkF m 4 #[vR a1, vI (16 : Int32)] [])) rfl (hb hby (dq dz23 2 4 rfl))
  refine Go.st st2 ?_
  show Go _ _ _ _ _ _ _  T2 (mkF m 7 #[vR a1, vI (16 : Int32)] [(.int zc)])
  refine Go.st (fun _ => XS.ifNo X2.here hx rfl (hb hby (dq dz23 3 7 rfl)) rfl ((if0 _ _).trans (feq (hcs : ¬ (zc = (0 : Int32)))).1)) ?_
  show Go _ _ _ _ _ _ _  T2 (mkF m 10 #[vR a1, vI (16 : Int32)] [])
  refine Go.st (fun _ => XS.aloadN X2.here hx rfl (hb hby (dq dz23 4 10 rfl)) rfl rfl) ?_
  refine Go.st (fun _ => XS.iloadN X2.here hx rfl (hb hby (dq dz23 5 11 rfl)) rfl) ?_
  show Go _ _ _ _ _ _ _  T2 (mkF m 12 #[vR a1, vI (16 : Int32)] [(.int (16 : Int32)), (.ref a1)])
  obtain ⟨T3, h3, k3, X3, e3, E3, A3, B3, st3⟩ := newPE X2 hx hZ (hwi hw 23 rfl) e2 (g := (mkF m 12 #[vR a1, vI (16 : Int32)] [(.int (16 : Int32)), (.ref a1)])) rfl (hb hby (dq dz23 6 12 rfl)) rfl (by decide) (cap := 16) (by decide) (by decide) (by decide) (by decide) (ad := "[B") (by decide +kernel)
  obtain ⟨b3, g3⟩ : ∃ z, z = h0.size := ⟨_, rfl⟩
  rw [← g3] at A3 B3 st3
  refine Go.st st3 ?_
  have g_b3 : n0 ≤ b3 := by rw [g3]; exact own_le O
  have sz_b3 : h0.size ≤ b3 := by rw [g3]; exact KK.1
  have ne_a1_b3 : a1 ≠ b3 := Nat.ne_of_lt (by rw [g3]; exact E_a1.lt)
  have E_a1 := E_a1.ext E3
  have F_value_a1 := F_value_a1.ext E3
  have F_coder_a1 := F_coder_a1.ext E3
  have F_count_a1 := F_count_a1.ext E3
  have F_maybeLatin1_a1 := F_maybeLatin1_a1.ext E3
  have O := O.ext E3
  have KK := KK.ext E3
  have E_b3 := B3
  have V_b3 : Arv Z h3 b3 k3 .byte (16 : Int32) [(.int (0 : Int32)), (.int (0 : Int32)), (.int (0 : Int32)), (.int (0 : Int32)), (.int (0 : Int32)), (.int (0 : Int32)), (.int (0 : Int32)), (.int (0 : Int32)), (.int (0 : Int32)), (.int (0 : Int32)), (.int (0 : Int32)), (.int (0 : Int32)), (.int (0 : Int32)), (.int (0 : Int32)), (.int (0 : Int32)), (.int (0 : Int32))] (.int (0 : Int32)) := (Arv.new A3 (by decide)).pad (pad_rep [] (.int (0 : Int32)) 16)
  show Go _ _ _ _ _ _ _  T3 (mkF m 14 #[vR a1, vI (16 : Int32)] [(.ref b3), (.ref a1)])
  obtain ⟨T4, h4, X4, e4, W4, st4⟩ := putF X3 hx hZ hown (host := "") (Or.inl (hwi hw 108 rfl)) Via.refl e3 F_value_a1 E_a1 (Or.inl (hwi hw 109 rfl)) (hwi hw 95 rfl) (ty := (.array .byte)) (by decide) rfl rfl (g := (mkF m 14 #[vR a1, vI (16 : Int32)] [(.ref b3), (.ref a1)])) rfl rfl (hb hby (dq dz23 7 14 rfl))
  refine Go.st st4 ?_
  have F_value_a1 : Fld Z h4 a1 "java/lang/AbstractStringBuilder" "value" "[B" (.ref b3) := F_value_a1.same W4
  have N4 := Fr.snoc X4 N0 g_a1
  have E_a1 := E_a1.wr W4
  have F_coder_a1 := F_coder_a1.other W4 (Or.inr (slot_ne (Or.inl (hwi hw 111 rfl)) (Or.inl (hwi hw 109 rfl)) (by decide) (t := .byte) (t' := (.array .byte)) (by decide) (by decide)))
  have F_count_a1 := F_count_a1.other W4 (Or.inr (slot_ne (Or.inl (hwi hw 127 rfl)) (Or.inl (hwi hw 109 rfl)) (by decide) (t := .int) (t' := (.array .byte)) (by decide) (by decide)))
  have F_maybeLatin1_a1 := F_maybeLatin1_a1.other W4 (Or.inr (slot_ne (Or.inl (hwi hw 295 rfl)) (Or.inl (hwi hw 109 rfl)) (by decide) (t := .boolean) (t' := (.array .byte)) (by decide) (by decide)))
  have E_b3 := E_b3.wr W4
  have V_b3 := V_b3.other W4 (Ne.symm ne_a1_b3)
  have O := O.wr W4 g_a1
  have KK := KK.wr W4 (Or.inl (List.mem_of_getElem? (i := 0) rfl))
  show Go _ _ _ _ _ _ _  T4 (mkF m 17 #[vR a1, vI (16 : Int32)] [])
  refine Go.st (fun _ => XS.aloadN X4.here hx rfl (hb hby (dq dz23 8 17 rfl)) rfl rfl) ?_
  refine Go.st (fun _ => XS.iconst X4.here hx rfl (hb hby (dq dz23 9 18 rfl))) ?_
  show Go _ _ _ _ _ _ _  T4 (mkF m 19 #[vR a1, vI (16 : Int32)] [(.int (0 : Int32)), (.ref a1)])
  obtain ⟨T5, h5, X5, e5, W5, st5⟩ := putFN X4 hx hZ hown (hwi hw 110 rfl) Via.refl e4 F_coder_a1 E_a1 (Or.inl (hwi hw 111 rfl)) (hwi hw 95 rfl) (ty := .byte) (v' := .int (0 : Int32)) (by decide) rfl rfl (g := (mkF m 19 #[vR a1, vI (16 : Int32)] [(.int (0 : Int32)), (.ref a1)])) rfl rfl (hb hby (dq dz23 10 19 rfl))
  refine Go.st st5 ?_
  have F_coder_a1 : Fld Z h5 a1 "java/lang/AbstractStringBuilder" "coder" "B" (.int (0 : Int32)) := F_coder_a1.same W5
  have N5 := Fr.snoc X5 N4 g_a1
  have E_a1 := E_a1.wr W5
  have F_value_a1 := F_value_a1.other W5 (Or.inr (slot_ne (Or.inl (hwi hw 109 rfl)) (Or.inl (hwi hw 111 rfl)) (by decide) (t := (.array .byte)) (t' := .byte) (by decide) (by decide)))
  have F_count_a1 := F_count_a1.other W5 (Or.inr (slot_ne (Or.inl (hwi hw 127 rfl)) (Or.inl (hwi hw 111 rfl)) (by decide) (t := .int) (t' := .byte) (by decide) (by decide)))
  have F_maybeLatin1_a1 := F_maybeLatin1_a1.other W5 (Or.inr (slot_ne (Or.inl (hwi hw 295 rfl)) (Or.inl (hwi hw 111 rfl)) (by decide) (t := .boolean) (t' := .byte) (by decide) (by decide)))
  have E_b3 := E_b3.wr W5
  have V_b3 := V_b3.other W5 (Ne.symm ne_a1_b3)
  have O := O.wr W5 g_a1
  have KK := KK.wr W5 (Or.inl (List.mem_of_getElem? (i := 0) rfl))
  show Go _ _ _ _ _ _ _  T5 (mkF m 22 #[vR a1, vI (16 : Int32)] [])
  refine Go.st (fun _ => XS.goto X5.here hx rfl (pc0 := 22) (pc' := 38) rfl (hb hby (dq dz23 11 22 rfl)) (by decide) (by decide)) ?_
  show Go _ _ _ _ _ _ _  T5 (mkF m 38 #[vR a1, vI (16 : Int32)] [])
  refine Go.ret0 X5 hlk hx Bd.returns (hb hby (dq dz23 12 38 rfl)) (by decide) (by decide) ?_
  show Q_rmI1 Z _ _ h0 n0 _ T5.heap _
  rw [e5]
  exact ⟨rfl, N5, KK, E_a1, F_coder_a1, F_count_a1, F_maybeLatin1_a1, b3, _, sz_b3, F_value_a1, V_b3.pad (fun i => (pad_rep [] (.int 0) 16 i).symm), E_b3⟩
def Q_rmI0 (Z : State) (a1 : Addr) (zc : Int32) (h0 : Heap) (n0 : Nat) (v : Option Value) (h : Heap) (L : List Loc) : Prop := v = none ∧ Fr n0 L ∧ Keep h0 h [a1] ∧ Exa Z h a1 "java/lang/StringBuilder" ∧ Fld Z h a1 "java/lang/AbstractStringBuilder" "coder" "B" (.int 0) ∧ Fld Z h a1 "java/lang/AbstractStringBuilder" "count" "I" (.int (Int32.ofNat 0)) ∧ Fld Z h a1 "java/lang/AbstractStringBuilder" "maybeLatin1" "Z" (.int 0) ∧ ∃ (b : Addr) (kb : ClassId), h0.size ≤ b ∧ Fld Z h a1 "java/lang/AbstractStringBuilder" "value" "[B" (.ref b) ∧ Arv Z h b kb .byte (Int32.ofNat 16) [] (.int 0) ∧ Exa Z h b "[B"
theorem rmI0 (l : Launch) (Z : State) (a0 : Array Value) (hw : HWt a0 Z) (ws : List Jvm.Cond) (a1 : Addr) (zc : Int32) (h0 : Heap) (n0 : Nat) (O : Old Z n0 h0) (S_COMPACT : Sta Z Z.heap "java/lang/String" "COMPACT_STRINGS" "Z" (.int zc)) (hcs : ¬ zc = 0) (E_a1 : Exa Z h0 a1 "java/lang/StringBuilder") (F_value_a1 : Fld Z h0 a1 "java/lang/AbstractStringBuilder" "value" "[B" .null) (F_coder_a1 : Fld Z h0 a1 "java/lang/AbstractStringBuilder" "coder" "B" (.int (0 : Int32))) (F_count_a1 : Fld Z h0 a1 "java/lang/AbstractStringBuilder" "count" "I" (.int (0 : Int32))) (F_maybeLatin1_a1 : Fld Z h0 a1 "java/lang/AbstractStringBuilder" "maybeLatin1" "Z" (.int (0 : Int32))) (g_a1 : n0 ≤ a1) :
    Met l mY14 (Jvm.Cond.code mY14 jdk_67_method_1_code 1 none :: ws) rz2_1_16_25 #[(.ref a1)] Z h0 (Q_rmI0 Z a1 zc h0 n0) := by
  refine MetFree.of_bodySF (plainFor_of_name pn_22) hisR ?_
  intro p e s m args below meth c s₁ Bd hml0 hP hK
  obtain ⟨rfl, hZ, hh⟩ := hP
  have hx := Bd.exec
  have hby := Bd.bytes
  have hml : c.maxLocals = 1 := hml0
  have hown : s.vm.findClass "java/lang/StringBuilder" = some m.cls := findClass_of_methodNamed Bd.named
  have hlk : meth.locks = false := BodyLoose.notSynchronized Bd
  have X0 : Stand p l e rz2_1_16_25 s m #[(.ref a1)] below meth c s₁ [] 0 0 := Stand.of_body Bd
  have e0 : s₁.heap = h0 := by rw [← hh, Bd.state]; rfl
  have N0 := Fr.nil n0
  have KK : Keep h0 h0 [a1] := Keep.refl h0 _
  show Go p e below s rz2_1_16_25.cells rz2_1_16_25.slots (Q_rmI0 Z a1 zc h0 n0) s₁ (entryFrame m #[(.ref a1)] 1)
  refine Go.eq (ef_rmI0 m a1) ?_
  show Go _ _ _ _ _ _ _  s₁ (mkF m 0 #[vR a1] [])
  refine Go.st (fun _ => XS.aloadN X0.here hx rfl (hb hby (dq dz22 0 0 rfl)) rfl rfl) ?_
  refine Go.st (fun _ => XS.bipush X0.here hx rfl (hb hby (dq dz22 1 1 rfl))) ?_
  show Go _ _ _ _ _ _ _  s₁ (mkF m 3 #[vR a1] [(.int (16 : Int32)), (.ref a1)])
  obtain ⟨_, _, ⟨T1, L1, k1, n1⟩, -, X1, ⟨Lc1, hQ1, l1, y1, z1⟩, st1⟩ := X0.specialBack hx (y := mY13) rfl hown (mvT hZ (hwi hw 100 rfl)) (mvT hZ (hwi hw 101 rfl)) (mvT hZ (hwi hw 105 rfl)) (by decide) (backOf (W := 0) (rmI1 l Z a0 hw [] a1 zc h0 n0 O S_COMPACT hcs E_a1 F_value_a1 F_coder_a1 F_count_a1 F_maybeLatin1_a1 g_a1) hZ (hwi hw 105 rfl) (hwi hw 104 rfl) (by decide) (by decide)) (g := (mkF m 3 #[vR a1] [(.int (16 : Int32)), (.ref a1)])) rfl (by rw [hml]; rfl) (Steps.refl _) (a := a1) (argsL := [(.int (16 : Int32))]) (rest := []) (lenOf pd__I_V rfl) rfl (by show 2 * 0 + _ ≤ _; exact Nat.le_of_eq rfl) (hb hby (dq dz22 2 3 rfl)) (fun _ _ => ⟨rfl, e0, (by decide : 0 + 1 ≤ _), (by decide : 0 + 16 ≤ _)⟩)
  dsimp only [Pt.U, Pt.locs, Pt.cells, Pt.slots] at X1 l1 y1 z1 st1 hQ1
  rw [l1, y1, z1] at X1
  have X1 : Stand p l e _ _ m _ below meth c T1 _ 1 16 := X1
  obtain ⟨rfl, N1q, K1q, Q1⟩ := hQ1
  have N1 := Fr.app N0 N1q
  refine Go.tr st1 ?_
  have E_a1 := E_a1.keep K1q
  have O := O.keep K1q (allS g_a1 all0)
  have KK := KK.trans K1q (allS (Or.inl (List.mem_of_getElem? (i := 0) rfl)) all0)
  show Go _ _ _ _ _ _ _  T1 (mkF m 6 #[vR a1] [])
  refine Go.ret0 X1 hlk hx Bd.returns (hb hby (dq dz22 3 6 rfl)) (by decide) (by decide) ?_
  show Q_rmI0 Z _ _ h0 n0 _ T1.heap _
  exact ⟨rfl, N1, KK, Q1⟩
def Q_rmGV (Z : State) (a1 : Addr) (t : Addr) (h0 : Heap) (n0 : Nat) (v : Option Value) (h : Heap) (L : List Loc) : Prop := v = some (.ref t) ∧ Fr n0 L ∧ h = h0
theorem rmGV (l : Launch) (Z : State) (a0 : Array Value) (hw : HWt a0 Z) (ws : List Jvm.Cond) (a1 : Addr) (t : Addr) (h0 : Heap) (n0 : Nat) (O : Old Z n0 h0) (V_a1 : Fld Z h0 a1 "java/lang/AbstractStringBuilder" "value" "[B" (.ref t)) :
    Met l mY15 (Jvm.Cond.code mY15 jdk_68_method_64_code 1 (some (.array .byte)) :: ws) rz0_0_0_0 #[(.ref a1)] Z h0 (Q_rmGV Z a1 t h0 n0) := by
  refine MetFree.of_bodySF (plainFor_of_name pn_37) hisR ?_
  intro p e s m args below meth c s₁ Bd hml0 hP hK
  obtain ⟨rfl, hZ, hh⟩ := hP
  have hx := Bd.exec
  have hby := Bd.bytes
  have hml : c.maxLocals = 1 := hml0
  have hown : s.vm.findClass "java/lang/AbstractStringBuilder" = some m.cls := findClass_of_methodNamed Bd.named
  have hlk : meth.locks = false := BodyLoose.notSynchronized Bd
  have X0 : Stand p l e rz0_0_0_0 s m #[(.ref a1)] below meth c s₁ [] 0 0 := Stand.of_body Bd
  have e0 : s₁.heap = h0 := by rw [← hh, Bd.state]; rfl
  have N0 := Fr.nil n0
  show Go p e below s rz0_0_0_0.cells rz0_0_0_0.slots (Q_rmGV Z a1 t h0 n0) s₁ (entryFrame m #[(.ref a1)] 1)
  refine Go.eq (ef_rmGV m a1) ?_
  show Go _ _ _ _ _ _ _  s₁ (mkF m 0 #[vR a1] [])
  refine Go.st (fun _ => XS.aloadN X0.here hx rfl (hb hby (dq dz37 0 0 rfl)) rfl rfl) ?_
  show Go _ _ _ _ _ _ _  s₁ (mkF m 1 #[vR a1] [(.ref a1)])
  obtain ⟨T1, X1, e1, st1⟩ := getF X0 hx hZ hown (host := "") (Or.inl (hwi hw 108 rfl)) Via.refl e0 V_a1 (g := (mkF m 1 #[vR a1] [(.ref a1)])) rfl rfl (hb hby (dq dz37 1 1 rfl))
  refine Go.st st1 ?_
  show Go _ _ _ _ _ _ _  T1 (mkF m 4 #[vR a1] [(.ref t)])
  refine Go.retR X1 hlk hx Bd.returns rfl rfl rfl (hb hby (dq dz37 2 4 rfl)) (by decide) (by decide) ?_
  show Q_rmGV Z _ _ h0 n0 _ T1.heap _
  rw [e1]
  exact ⟨rfl, N0, rfl⟩
def Q_rmAL (Z : State) (a1 : Addr) (z : Int32) (h0 : Heap) (n0 : Nat) (v : Option Value) (h : Heap) (L : List Loc) : Prop := v = some (.int z) ∧ Fr n0 L ∧ h = h0
theorem rmAL (l : Launch) (Z : State) (a0 : Array Value) (hw : HWt a0 Z) (ws : List Jvm.Cond) (a1 : Addr) (z : Int32) (h0 : Heap) (n0 : Nat) (O : Old Z n0 h0) (N_a1 : Fld Z h0 a1 "java/lang/AbstractStringBuilder" "count" "I" (.int z)) :
    Met l mY16 (Jvm.Cond.code mY16 jdk_68_method_6_code 1 (some .int) :: ws) rz0_0_0_0 #[(.ref a1)] Z h0 (Q_rmAL Z a1 z h0 n0) := by
  refine MetFree.of_bodySF (plainFor_of_name pn_39) hisR ?_
  intro p e s m args below meth c s₁ Bd hml0 hP hK
  obtain ⟨rfl, hZ, hh⟩ := hP
  have hx := Bd.exec
  have hby := Bd.bytes
  have hml : c.maxLocals = 1 := hml0
  have hown : s.vm.findClass "java/lang/AbstractStringBuilder" = some m.cls := findClass_of_methodNamed Bd.named
  have hlk : meth.locks = false := BodyLoose.notSynchronized Bd
  have X0 : Stand p l e rz0_0_0_0 s m #[(.ref a1)] below meth c s₁ [] 0 0 := Stand.of_body Bd
  have e0 : s₁.heap = h0 := by rw [← hh, Bd.state]; rfl
  have N0 := Fr.nil n0
  show Go p e below s rz0_0_0_0.cells rz0_0_0_0.slots (Q_rmAL Z a1 z h0 n0) s₁ (entryFrame m #[(.ref a1)] 1)
  refine Go.eq (ef_rmAL m a1) ?_
  show Go _ _ _ _ _ _ _  s₁ (mkF m 0 #[vR a1] [])
  refine Go.st (fun _ => XS.aloadN X0.here hx rfl (hb hby (dq dz39 0 0 rfl)) rfl rfl) ?_
  show Go _ _ _ _ _ _ _  s₁ (mkF m 1 #[vR a1] [(.ref a1)])
  obtain ⟨T1, X1, e1, st1⟩ := getF X0 hx hZ hown (host := "") (Or.inl (hwi hw 126 rfl)) Via.refl e0 N_a1 (g := (mkF m 1 #[vR a1] [(.ref a1)])) rfl rfl (hb hby (dq dz39 1 1 rfl))
  refine Go.st st1 ?_
  show Go _ _ _ _ _ _ _  T1 (mkF m 4 #[vR a1] [(.int z)])
  refine Go.retI X1 hlk hx Bd.returns (hb hby (dq dz39 2 4 rfl)) (by decide) (by decide) ?_
  show Q_rmAL Z _ _ h0 n0 _ T1.heap _
  rw [e1]
  exact ⟨rfl, N0, rfl⟩
def Q_rmSL (Z : State) (a1 : Addr) (z : Int32) (h0 : Heap) (n0 : Nat) (v : Option Value) (h : Heap) (L : List Loc) : Prop := v = some (.int z) ∧ Fr n0 L ∧ h = h0
theorem rmSL (l : Launch) (Z : State) (a0 : Array Value) (hw : HWt a0 Z) (ws : List Jvm.Cond) (a1 : Addr) (z : Int32) (h0 : Heap) (n0 : Nat) (O : Old Z n0 h0) (E_a1 : Exa Z h0 a1 "java/lang/StringBuilder") (N_a1 : Fld Z h0 a1 "java/lang/AbstractStringBuilder" "count" "I" (.int z)) :
    Met l mY17 (Jvm.Cond.code mY17 jdk_67_method_93_code 1 (some .int) :: ws) rz1_0_0_12 #[(.ref a1)] Z h0 (Q_rmSL Z a1 z h0 n0) := by
  refine MetFree.of_bodySF (plainFor_of_name pn_38) hisR ?_
  intro p e s m args below meth c s₁ Bd hml0 hP hK
  obtain ⟨rfl, hZ, hh⟩ := hP
  have hx := Bd.exec
  have hby := Bd.bytes
  have hml : c.maxLocals = 1 := hml0
  have hown : s.vm.findClass "java/lang/StringBuilder" = some m.cls := findClass_of_methodNamed Bd.named
  have hlk : meth.locks = false := BodyLoose.notSynchronized Bd
  have X0 : Stand p l e rz1_0_0_12 s m #[(.ref a1)] below meth c s₁ [] 0 0 := Stand.of_body Bd
  have e0 : s₁.heap = h0 := by rw [← hh, Bd.state]; rfl
  have N0 := Fr.nil n0
  show Go p e below s rz1_0_0_12.cells rz1_0_0_12.slots (Q_rmSL Z a1 z h0 n0) s₁ (entryFrame m #[(.ref a1)] 1)
  refine Go.eq (ef_rmSL m a1) ?_
  show Go _ _ _ _ _ _ _  s₁ (mkF m 0 #[vR a1] [])
  refine Go.st (fun _ => XS.aloadN X0.here hx rfl (hb hby (dq dz38 0 0 rfl)) rfl rfl) ?_
  show Go _ _ _ _ _ _ _  s₁ (mkF m 1 #[vR a1] [(.ref a1)])
  refine Go.pure (w := (some (.int z))) (rest := []) (pc' := 4) (superBack X0 hx hZ (y := mY16) hown (hwi hw 194 rfl) (own_same (hwi hw 189 rfl) (hwi hw 131 rfl) rfl (by decide)) (hwi hw 190 rfl) (hwi hw 122 rfl) (by decide) (backOf (W := 0) (rmAL l Z a0 hw [] a1 z h0 n0 O N_a1) hZ (hwi hw 195 rfl) (hwi hw 104 rfl) (by decide) (by decide)) e0 (Ins.self E_a1) (g := (mkF m 1 #[vR a1] [(.ref a1)])) rfl (by rw [hml]; rfl) (hwi hw 195 rfl) (argsL := []) (rest := []) (lenOf pd___I rfl) rfl (by show 2 * 0 + _ ≤ _; exact Nat.le_of_eq rfl) (hb hby (dq dz38 1 1 rfl)) (fun _ _ => ⟨rfl, e0, (by decide : 0 + 0 ≤ _), (by decide : 0 + 0 ≤ _)⟩)) (fun _ _ _ q => q) N0 (fun T1 L1 X1 e1q N1 => ?_)
  show Go _ _ _ _ _ _ _  T1 (mkF m 4 #[vR a1] [(.int z)])
  refine Go.retI X1 hlk hx Bd.returns (hb hby (dq dz38 2 4 rfl)) (by decide) (by decide) ?_
  show Q_rmSL Z _ _ h0 n0 _ T1.heap _
  rw [e1q]
  exact ⟨rfl, N1, rfl⟩
def Q_rmCL (Z : State) (n : Nat) (h0 : Heap) (n0 : Nat) (v : Option Value) (h : Heap) (L : List Loc) : Prop := v = none ∧ Fr n0 L ∧ h = h0
theorem rmCL (l : Launch) (Z : State) (a0 : Array Value) (hw : HWt a0 Z) (ws : List Jvm.Cond) (n : Nat) (h0 : Heap) (n0 : Nat) (O : Old Z n0 h0) (hn : n < 100000) :
    Met l mY19 (Jvm.Cond.code mY19 jdk_65_method_131_code 2 none :: ws) rz0_0_0_0 #[(.int (0 : Int32)), (.int (Int32.ofNat n))] Z h0 (Q_rmCL Z n h0 n0) := by
  refine MetFree.of_bodySF (plainFor_of_name pn_42) hisR ?_
  intro p e s m args below meth c s₁ Bd hml0 hP hK
  obtain ⟨rfl, hZ, hh⟩ := hP
  have hx := Bd.exec
  have hby := Bd.bytes
  have hml : c.maxLocals = 2 := hml0
  have hlk : meth.locks = false := BodyLoose.notSynchronized Bd
  have X0 : Stand p l e rz0_0_0_0 s m #[(.int (0 : Int32)), (.int (Int32.ofNat n))] below meth c s₁ [] 0 0 := Stand.of_body Bd
  have e0 : s₁.heap = h0 := by rw [← hh, Bd.state]; rfl
  have N0 := Fr.nil n0
  show Go p e below s rz0_0_0_0.cells rz0_0_0_0.slots (Q_rmCL Z n h0 n0) s₁ (entryFrame m #[(.int (0 : Int32)), (.int (Int32.ofNat n))] 2)
  refine Go.eq (ef_rmCL m (0 : Int32) (Int32.ofNat n)) ?_
  show Go _ _ _ _ _ _ _  s₁ (mkF m 0 #[vI (0 : Int32), vI (Int32.ofNat n)] [])
  refine Go.st (fun _ => XS.iloadN X0.here hx rfl (hb hby (dq dz42 0 0 rfl)) rfl) ?_
  refine Go.st (fun _ => XS.iloadN X0.here hx rfl (hb hby (dq dz42 1 1 rfl)) rfl) ?_
  show Go _ _ _ _ _ _ _  s₁ (mkF m 2 #[vI (0 : Int32), vI (Int32.ofNat n)] [(.int (0 : Int32)), (.int (Int32.ofNat n))])
  refine Go.st (fun _ => XS.icmpYes X0.here hx rfl (pc0 := 2) (pc' := 37) rfl (hb hby (dq dz42 2 2 rfl)) rfl (flt (own_onn (by omega) : ¬ ((Int32.ofNat n) < (0 : Int32)))).2.1 (by decide) (by decide)) ?_
  show Go _ _ _ _ _ _ _  s₁ (mkF m 37 #[vI (0 : Int32), vI (Int32.ofNat n)] [])
  refine Go.ret0 X0 hlk hx Bd.returns (hb hby (dq dz42 3 37 rfl)) (by decide) (by decide) ?_
  show Q_rmCL Z _ h0 n0 _ s₁.heap _
  rw [e0]
  exact ⟨rfl, N0, rfl⟩
def Q_rmCRB (Z : State) (a1 : Addr) (n : Nat) (kd : ClassId) (cap : Nat) (bs : List Value) (h0 : Heap) (n0 : Nat) (v : Option Value) (h : Heap) (L : List Loc) : Prop := ∃ (b : Addr) (kb : ClassId), v = some (.ref b) ∧ Fr n0 L ∧ Ext h0 h ∧ h0.size ≤ b ∧ Arv Z h b kb .byte (Int32.ofNat n) bs (.int 0)
theorem rmCRB (l : Launch) (Z : State) (a0 : Array Value) (hw : HWt a0 Z) (ws : List Jvm.Cond) (a1 : Addr) (n : Nat) (kd : ClassId) (cap : Nat) (bs : List Value) (h0 : Heap) (n0 : Nat) (O : Old Z n0 h0) (A_a1 : Arv Z h0 a1 kd .byte (Int32.ofNat cap) bs (.int 0)) (hbs : bs.length = n) (hN1 : n < cap) (hN2 : cap < 100000) (hN3 : n ≤ 34) :
    Met l mY20 (Jvm.Cond.code mY20 jdk_65_method_133_code 5 (some (.array .byte)) :: ws) rz1_1_34_18 #[(.ref a1), (.int (0 : Int32)), (.int (Int32.ofNat n))] Z h0 (Q_rmCRB Z a1 n kd cap bs h0 n0) := by
  refine MetFree.of_bodySF (plainFor_of_name pn_41) hisR ?_
  intro p e s m args below meth c s₁ Bd hml0 hP hK
  obtain ⟨rfl, hZ, hh⟩ := hP
  have hx := Bd.exec
  have hby := Bd.bytes
  have hml : c.maxLocals = 5 := hml0
  have hown : s.vm.findClass "java/util/Arrays" = some m.cls := findClass_of_methodNamed Bd.named
  have hlk : meth.locks = false := BodyLoose.notSynchronized Bd
  have X0 : Stand p l e rz1_1_34_18 s m #[(.ref a1), (.int (0 : Int32)), (.int (Int32.ofNat n))] below meth c s₁ [] 0 0 := Stand.of_body Bd
  have e0 : s₁.heap = h0 := by rw [← hh, Bd.state]; rfl
  have N0 := Fr.nil n0
  have KK : Keep h0 h0 [] := Keep.refl h0 _
  show Go p e below s rz1_1_34_18.cells rz1_1_34_18.slots (Q_rmCRB Z a1 n kd cap bs h0 n0) s₁ (entryFrame m #[(.ref a1), (.int (0 : Int32)), (.int (Int32.ofNat n))] 5)
  refine Go.eq (ef_rmCRB m a1 (0 : Int32) (Int32.ofNat n)) ?_
  show Go _ _ _ _ _ _ _  s₁ (mkF m 0 #[vR a1, vI (0 : Int32), vI (Int32.ofNat n), uS, uS] [])
  refine Go.st (fun _ => XS.iloadN X0.here hx rfl (hb hby (dq dz41 0 0 rfl)) rfl) ?_
  refine Go.st (fun _ => XS.iloadN X0.here hx rfl (hb hby (dq dz41 1 1 rfl)) rfl) ?_
  show Go _ _ _ _ _ _ _  s₁ (mkF m 2 #[vR a1, vI (0 : Int32), vI (Int32.ofNat n), uS, uS] [(.int (Int32.ofNat n)), (.int (0 : Int32))])
  refine Go.pureS (w := none) (rest := []) (pc' := 5) (Jvm.LawKit.callS X0 hx (y := mY19) hown (mvT hZ (hwi hw 204 rfl)) (mvT hZ (hwi hw 205 rfl)) (mvT hZ (hwi hw 199 rfl)) (mvT hZ (hwi hw 206 rfl)) (by decide) (backOf (W := 0) (rmCL l Z a0 hw [] n h0 n0 O (by omega)) hZ (hwi hw 206 rfl) (hwi hw 199 rfl) (by decide) (by decide)) (g := (mkF m 2 #[vR a1, vI (0 : Int32), vI (Int32.ofNat n), uS, uS] [(.int (Int32.ofNat n)), (.int (0 : Int32))])) rfl (by rw [hml]; rfl) (argsL := [(.int (0 : Int32)), (.int (Int32.ofNat n))]) (rest := []) (lenOf pd__II_V rfl) rfl (by show 2 * 0 + _ ≤ _; exact Nat.le_of_eq rfl) (hb hby (dq dz41 2 2 rfl)) (fun _ _ => ⟨rfl, e0, (by decide : 0 + 0 ≤ _), (by decide : 0 + 0 ≤ _)⟩)) (fun _ _ _ q => q) N0 (fun T1 L1 X1 e1q N1 => ?_)
  show Go _ _ _ _ _ _ _  T1 (mkF m 5 #[vR a1, vI (0 : Int32), vI (Int32.ofNat n), uS, uS] [])
  refine Go.st (fun _ => XS.iloadN X1.here hx rfl (hb hby (dq dz41 3 5 rfl)) rfl) ?_
  refine Go.st (fun _ => XS.iloadN X1.here hx rfl (hb hby (dq dz41 4 6 rfl)) rfl) ?_
  refine Go.st (fun _ => XS.isub X1.here hx rfl (hb hby (dq dz41 5 7 rfl)) rfl) ?_
  show Go _ _ _ _ _ _ _  T1 (mkF m 8 #[vR a1, vI (0 : Int32), vI (Int32.ofNat n), uS, uS] [(.int ((Int32.ofNat n) - (0 : Int32)))])
  rw [Int32.sub_zero]
  refine Go.st (fun _ => XS.istoreN X1.here hx rfl (hb hby (dq dz41 6 8 rfl)) rfl (l' := #[vR a1, vI (0 : Int32), vI (Int32.ofNat n), vI (Int32.ofNat n), uS]) rfl) ?_
  refine Go.st (fun _ => XS.iloadN X1.here hx rfl (hb hby (dq dz41 7 9 rfl)) rfl) ?_
  show Go _ _ _ _ _ _ _  T1 (mkF m 10 #[vR a1, vI (0 : Int32), vI (Int32.ofNat n), vI (Int32.ofNat n), uS] [(.int (Int32.ofNat n))])
  obtain ⟨T2, h2, k2, X2, e2, E2, A2, st2⟩ := newP X1 hx hZ (hwi hw 23 rfl) e1q (g := (mkF m 10 #[vR a1, vI (0 : Int32), vI (Int32.ofNat n), vI (Int32.ofNat n), uS] [(.int (Int32.ofNat n))])) rfl (hb hby (dq dz41 8 10 rfl)) rfl (own_onn (by omega)) (cap := 34) (by rw [own_ocl (by omega)]; omega) (by decide) (by decide) (by decide)
  obtain ⟨b2, g2⟩ : ∃ z, z = h0.size := ⟨_, rfl⟩
  rw [← g2] at A2 st2
  refine Go.st st2 ?_
  have g_b2 : n0 ≤ b2 := by rw [g2]; exact own_le O
  have sz_b2 : h0.size ≤ b2 := by rw [g2]; exact KK.1
  have ne_a1_b2 : a1 ≠ b2 := Nat.ne_of_lt (by rw [g2]; exact A_a1.lt)
  have A_a1 := A_a1.ext E2
  have O := O.ext E2
  have KK := KK.ext E2
  have V_b2 := Arv.new A2 (own_onn (by omega))
  show Go _ _ _ _ _ _ _  T2 (mkF m 12 #[vR a1, vI (0 : Int32), vI (Int32.ofNat n), vI (Int32.ofNat n), uS] [(.ref b2)])
  refine Go.st (fun _ => XS.astore X2.here hx rfl (hb hby (dq dz41 9 12 rfl)) rfl rfl (l' := #[vR a1, vI (0 : Int32), vI (Int32.ofNat n), vI (Int32.ofNat n), vR b2]) rfl) ?_
  refine Go.st (fun _ => XS.aloadN X2.here hx rfl (hb hby (dq dz41 10 14 rfl)) rfl rfl) ?_
  refine Go.st (fun _ => XS.iloadN X2.here hx rfl (hb hby (dq dz41 11 15 rfl)) rfl) ?_
  refine Go.st (fun _ => XS.aload X2.here hx rfl (hb hby (dq dz41 12 16 rfl)) rfl rfl) ?_
  refine Go.st (fun _ => XS.iconst X2.here hx rfl (hb hby (dq dz41 13 18 rfl))) ?_
  refine Go.st (fun _ => XS.aloadN X2.here hx rfl (hb hby (dq dz41 14 19 rfl)) rfl rfl) ?_
  show Go _ _ _ _ _ _ _  T2 (mkF m 20 #[vR a1, vI (0 : Int32), vI (Int32.ofNat n), vI (Int32.ofNat n), vR b2] [(.ref a1), (.int (0 : Int32)), (.ref b2), (.int (0 : Int32)), (.ref a1)])
  obtain ⟨cl3, Ar3, q3, S3, M3, Hh3, G3⟩ := id A_a1
  refine Go.st (X2.arraylength hx (by rw [e2]; exact Ar3.1) (State.isArrayOf_alike hZ.alike Ar3.2.1) (g := (mkF m 20 #[vR a1, vI (0 : Int32), vI (Int32.ofNat n), vI (Int32.ofNat n), vR b2] [(.ref a1), (.int (0 : Int32)), (.ref b2), (.int (0 : Int32)), (.ref a1)])) rfl rfl (hb hby (dq dz41 15 20 rfl))) ?_
  rw [len_of S3 M3]
  show Go _ _ _ _ _ _ _  T2 (mkF m 21 #[vR a1, vI (0 : Int32), vI (Int32.ofNat n), vI (Int32.ofNat n), vR b2] [(.int (Int32.ofNat cap)), (.int (0 : Int32)), (.ref b2), (.int (0 : Int32)), (.ref a1)])
  refine Go.st (fun _ => XS.iloadN X2.here hx rfl (hb hby (dq dz41 16 21 rfl)) rfl) ?_
  refine Go.st (fun _ => XS.isub X2.here hx rfl (hb hby (dq dz41 17 22 rfl)) rfl) ?_
  show Go _ _ _ _ _ _ _  T2 (mkF m 23 #[vR a1, vI (0 : Int32), vI (Int32.ofNat n), vI (Int32.ofNat n), vR b2] [(.int ((Int32.ofNat cap) - (0 : Int32))), (.int (0 : Int32)), (.ref b2), (.int (0 : Int32)), (.ref a1)])
  rw [Int32.sub_zero]
  refine Go.st (fun _ => XS.iloadN X2.here hx rfl (hb hby (dq dz41 18 23 rfl)) rfl) ?_
  show Go _ _ _ _ _ _ _  T2 (mkF m 24 #[vR a1, vI (0 : Int32), vI (Int32.ofNat n), vI (Int32.ofNat n), vR b2] [(.int (Int32.ofNat n)), (.int (Int32.ofNat cap)), (.int (0 : Int32)), (.ref b2), (.int (0 : Int32)), (.ref a1)])
  refine Go.pureS (w := (some (.int (Int32.ofNat (min cap n))))) (rest := [(.int (0 : Int32)), (.ref b2), (.int (0 : Int32)), (.ref a1)]) (pc' := 27) (Jvm.LawKit.callS X2 hx (y := mY6) hown (mvT hZ (hwi hw 207 rfl)) (mvT hZ (hwi hw 208 rfl)) (mvT hZ (hwi hw 209 rfl)) (mvT hZ (hwi hw 210 rfl)) (by decide) (backOf (W := 4) (rmMin l Z a0 hw [] cap n h2 n0 O (by omega) (by omega)) hZ (hwi hw 210 rfl) (hwi hw 209 rfl) (by decide) (by decide)) (g := (mkF m 24 #[vR a1, vI (0 : Int32), vI (Int32.ofNat n), vI (Int32.ofNat n), vR b2] [(.int (Int32.ofNat n)), (.int (Int32.ofNat cap)), (.int (0 : Int32)), (.ref b2), (.int (0 : Int32)), (.ref a1)])) rfl (by rw [hml]; rfl) (argsL := [(.int (Int32.ofNat cap)), (.int (Int32.ofNat n))]) (rest := [(.int (0 : Int32)), (.ref b2), (.int (0 : Int32)), (.ref a1)]) (lenOf pd__II_I rfl) rfl (by show 2 * 0 + _ ≤ _; exact Nat.le_of_eq rfl) (hb hby (dq dz41 19 24 rfl)) (fun _ _ => ⟨rfl, e2, (by decide : 1 + 0 ≤ _), (by decide : 34 + 0 ≤ _)⟩)) (fun _ _ _ q => q) N1 (fun T4 L4 X4 e4q N4 => ?_)
  rw [Nat.min_eq_right (Nat.le_of_lt hN1)]
  show Go _ _ _ _ _ _ _  T4 (mkF m 27 #[vR a1, vI (0 : Int32), vI (Int32.ofNat n), vI (Int32.ofNat n), vR b2] [(.int (Int32.ofNat n)), (.int (0 : Int32)), (.ref b2), (.int (0 : Int32)), (.ref a1)])
  obtain ⟨T5, h5, L5, X5, e5, N5, K5, V5, st5⟩ := cpA X4 hx hZ hown (hwi hw 211 rfl) (hwi hw 152 rfl) (hwi hw 150 rfl) (hwi hw 151 rfl) e4q A_a1 (V_b2.pad (pad_rep [] (.int 0) n)) (Or.inl ⟨rfl, rfl⟩) (by decide) (by decide) (own_onn (by omega)) (by rw [own_ocl (by omega), own_ocl (by omega)]; show 0 + n ≤ cap; omega) (by rw [own_ocl (by omega)]; exact Nat.le_of_eq (Nat.zero_add _)) (us := (List.range n).map fun i => bs.getD (0 + i) (.int 0)) (by rw [own_ocl (by omega)]; rfl) (by rw [own_ocl (by omega)]; simp) N4 g_b2 (g := (mkF m 27 #[vR a1, vI (0 : Int32), vI (Int32.ofNat n), vI (Int32.ofNat n), vR b2] [(.int (Int32.ofNat n)), (.int (0 : Int32)), (.ref b2), (.int (0 : Int32)), (.ref a1)])) rfl (by rw [hml]; rfl) rfl (hb hby (dq dz41 20 27 rfl)) (by decide) (W := 0) (by show 2 * 0 + _ ≤ _; exact Nat.le_of_eq rfl) (by decide)
  refine Go.st st5 ?_
  have V5 := V5.pad (by rw [own_ocl (by omega)]; exact own_cp (bs := []) (d := 0) rfl (Nat.le_of_eq hbs))
  have A_a1 := A_a1.keep K5 (ninS ne_a1_b2 nin0)
  have O := O.keep K5 (allS g_b2 all0)
  have KK := KK.trans K5 (allS (Or.inr sz_b2) all0)
  have V_b2 := V5
  show Go _ _ _ _ _ _ _  T5 (mkF m 30 #[vR a1, vI (0 : Int32), vI (Int32.ofNat n), vI (Int32.ofNat n), vR b2] [])
  refine Go.st (fun _ => XS.aload X5.here hx rfl (hb hby (dq dz41 21 30 rfl)) rfl rfl) ?_
  show Go _ _ _ _ _ _ _  T5 (mkF m 32 #[vR a1, vI (0 : Int32), vI (Int32.ofNat n), vI (Int32.ofNat n), vR b2] [(.ref b2)])
  refine Go.retR X5 hlk hx Bd.returns rfl rfl rfl (hb hby (dq dz41 22 32 rfl)) (by decide) (by decide) ?_
  show Q_rmCRB Z _ _ _ _ _ h0 n0 _ T5.heap _
  rw [e5]
  exact ⟨_, _, rfl, N5, own_ext0 KK, sz_b2, V_b2⟩
def Q_rmCR (Z : State) (a1 : Addr) (n : Nat) (kd : ClassId) (cap : Nat) (bs : List Value) (h0 : Heap) (n0 : Nat) (v : Option Value) (h : Heap) (L : List Loc) : Prop := ∃ (b : Addr) (kb : ClassId), v = some (.ref b) ∧ Fr n0 L ∧ Ext h0 h ∧ h0.size ≤ b ∧ Arv Z h b kb .byte (Int32.ofNat n) bs (.int 0)
theorem rmCR (l : Launch) (Z : State) (a0 : Array Value) (hw : HWt a0 Z) (ws : List Jvm.Cond) (a1 : Addr) (n : Nat) (kd : ClassId) (cap : Nat) (bs : List Value) (h0 : Heap) (n0 : Nat) (O : Old Z n0 h0) (A_a1 : Arv Z h0 a1 kd .byte (Int32.ofNat cap) bs (.int 0)) (hbs : bs.length = n) (hN1 : n < cap) (hN2 : cap < 100000) (hN3 : n ≤ 34) :
    Met l mY21 (Jvm.Cond.code mY21 jdk_65_method_132_code 3 (some (.array .byte)) :: ws) rz2_1_34_34 #[(.ref a1), (.int (0 : Int32)), (.int (Int32.ofNat n))] Z h0 (Q_rmCR Z a1 n kd cap bs h0 n0) := by
  refine MetFree.of_bodySF (plainFor_of_name pn_40) hisR ?_
  intro p e s m args below meth c s₁ Bd hml0 hP hK
  obtain ⟨rfl, hZ, hh⟩ := hP
  have hx := Bd.exec
  have hby := Bd.bytes
  have hml : c.maxLocals = 3 := hml0
  have hown : s.vm.findClass "java/util/Arrays" = some m.cls := findClass_of_methodNamed Bd.named
  have hlk : meth.locks = false := BodyLoose.notSynchronized Bd
  have X0 : Stand p l e rz2_1_34_34 s m #[(.ref a1), (.int (0 : Int32)), (.int (Int32.ofNat n))] below meth c s₁ [] 0 0 := Stand.of_body Bd
  have e0 : s₁.heap = h0 := by rw [← hh, Bd.state]; rfl
  have N0 := Fr.nil n0
  have KK : Keep h0 h0 [] := Keep.refl h0 _
  show Go p e below s rz2_1_34_34.cells rz2_1_34_34.slots (Q_rmCR Z a1 n kd cap bs h0 n0) s₁ (entryFrame m #[(.ref a1), (.int (0 : Int32)), (.int (Int32.ofNat n))] 3)
  refine Go.eq (ef_rmCR m a1 (0 : Int32) (Int32.ofNat n)) ?_
  show Go _ _ _ _ _ _ _  s₁ (mkF m 0 #[vR a1, vI (0 : Int32), vI (Int32.ofNat n)] [])
  refine Go.st (fun _ => XS.iloadN X0.here hx rfl (hb hby (dq dz40 0 0 rfl)) rfl) ?_
  show Go _ _ _ _ _ _ _  s₁ (mkF m 1 #[vR a1, vI (0 : Int32), vI (Int32.ofNat n)] [(.int (0 : Int32))])
  refine Go.st (fun _ => XS.ifNo X0.here hx rfl (hb hby (dq dz40 1 1 rfl)) rfl ((if0 _ _).trans (teq (rfl : (0 : Int32) = (0 : Int32))).2)) ?_
  show Go _ _ _ _ _ _ _  s₁ (mkF m 4 #[vR a1, vI (0 : Int32), vI (Int32.ofNat n)] [])
  refine Go.st (fun _ => XS.iloadN X0.here hx rfl (hb hby (dq dz40 2 4 rfl)) rfl) ?_
  refine Go.st (fun _ => XS.aloadN X0.here hx rfl (hb hby (dq dz40 3 5 rfl)) rfl rfl) ?_
  show Go _ _ _ _ _ _ _  s₁ (mkF m 6 #[vR a1, vI (0 : Int32), vI (Int32.ofNat n)] [(.ref a1), (.int (Int32.ofNat n))])
  obtain ⟨cl1, Ar1, q1, S1, M1, Hh1, G1⟩ := id A_a1
  refine Go.st (X0.arraylength hx (by rw [e0]; exact Ar1.1) (State.isArrayOf_alike hZ.alike Ar1.2.1) (g := (mkF m 6 #[vR a1, vI (0 : Int32), vI (Int32.ofNat n)] [(.ref a1), (.int (Int32.ofNat n))])) rfl rfl (hb hby (dq dz40 4 6 rfl))) ?_
  rw [len_of S1 M1]
  show Go _ _ _ _ _ _ _  s₁ (mkF m 7 #[vR a1, vI (0 : Int32), vI (Int32.ofNat n)] [(.int (Int32.ofNat cap)), (.int (Int32.ofNat n))])
  refine Go.st (fun _ => XS.icmpNo X0.here hx rfl (hb hby (dq dz40 5 7 rfl)) rfl (feq (fun q => absurd ((own_oeq (by omega) (by omega)).mp q) (by omega) : ¬ ((Int32.ofNat n) = (Int32.ofNat cap)))).1) ?_
  show Go _ _ _ _ _ _ _  s₁ (mkF m 10 #[vR a1, vI (0 : Int32), vI (Int32.ofNat n)] [])
  refine Go.st (fun _ => XS.aloadN X0.here hx rfl (hb hby (dq dz40 6 10 rfl)) rfl rfl) ?_
  refine Go.st (fun _ => XS.iloadN X0.here hx rfl (hb hby (dq dz40 7 11 rfl)) rfl) ?_
  refine Go.st (fun _ => XS.iloadN X0.here hx rfl (hb hby (dq dz40 8 12 rfl)) rfl) ?_
  show Go _ _ _ _ _ _ _  s₁ (mkF m 13 #[vR a1, vI (0 : Int32), vI (Int32.ofNat n)] [(.int (Int32.ofNat n)), (.int (0 : Int32)), (.ref a1)])
  obtain ⟨_, _, ⟨T2, L2, k2, n2⟩, -, X2, ⟨Lc2, hQ2, l2, y2, z2⟩, st2⟩ := Jvm.LawKit.callS X0 hx (y := mY20) hown (mvT hZ (hwi hw 201 rfl)) (mvT hZ (hwi hw 202 rfl)) (mvT hZ (hwi hw 199 rfl)) (mvT hZ (hwi hw 203 rfl)) (by decide) (backOf (W := 0) (rmCRB l Z a0 hw [] a1 n kd cap bs h0 n0 O A_a1 hbs hN1 hN2 hN3) hZ (hwi hw 203 rfl) (hwi hw 199 rfl) (by decide) (by decide)) (g := (mkF m 13 #[vR a1, vI (0 : Int32), vI (Int32.ofNat n)] [(.int (Int32.ofNat n)), (.int (0 : Int32)), (.ref a1)])) rfl (by rw [hml]; rfl) (argsL := [(.ref a1), (.int (0 : Int32)), (.int (Int32.ofNat n))]) (rest := []) (lenOf pd___BII__B rfl) rfl (by show 2 * 0 + _ ≤ _; exact Nat.le_of_eq rfl) (hb hby (dq dz40 9 13 rfl)) (fun _ _ => ⟨rfl, e0, (by decide : 0 + 1 ≤ _), (by decide : 0 + 34 ≤ _)⟩)
  dsimp only [Pt.U, Pt.locs, Pt.cells, Pt.slots] at X2 l2 y2 z2 st2 hQ2
  rw [l2, y2, z2] at X2
  have X2 : Stand p l e _ _ m _ below meth c T2 _ 1 34 := X2
  obtain ⟨t2, kt2, rfl, N2q, E2q, lt2, Vq2⟩ := hQ2
  have N2 := Fr.app N0 N2q
  refine Go.st st2 ?_
  have g_t2 : n0 ≤ t2 := Nat.le_trans (own_le O) lt2
  have sz_t2 : h0.size ≤ t2 := Nat.le_trans KK.1 lt2
  have ne_a1_t2 : a1 ≠ t2 := Nat.ne_of_lt (Nat.lt_of_lt_of_le A_a1.lt lt2)
  have E2 := E2q
  have A_a1 := A_a1.ext E2
  have O := O.ext E2
  have KK := KK.ext E2
  show Go _ _ _ _ _ _ _  T2 (mkF m 16 #[vR a1, vI (0 : Int32), vI (Int32.ofNat n)] [(.ref t2)])
  refine Go.retR X2 hlk hx Bd.returns rfl rfl rfl (hb hby (dq dz40 10 16 rfl)) (by decide) (by decide) ?_
  show Q_rmCR Z _ _ _ _ _ h0 n0 _ T2.heap _
  exact ⟨_, _, rfl, N2, own_ext0 KK, sz_t2, Vq2⟩
def Q_rmCRc (Z : State) (a1 : Addr) (n : Nat) (kd : ClassId) (bs : List Value) (h0 : Heap) (n0 : Nat) (v : Option Value) (h : Heap) (L : List Loc) : Prop := ∃ (b : Addr) (kb : ClassId), v = some (.ref b) ∧ Fr n0 L ∧ Ext h0 h ∧ h0.size ≤ b ∧ Arv Z h b kb .byte (Int32.ofNat n) bs (.int 0)
theorem rmCRc (l : Launch) (Z : State) (a0 : Array Value) (hw : HWt a0 Z) (ws : List Jvm.Cond) (a1 : Addr) (n : Nat) (kd : ClassId) (bs : List Value) (h0 : Heap) (n0 : Nat) (O : Old Z n0 h0) (A_a1 : Arv Z h0 a1 kd .byte (Int32.ofNat n) bs (.int 0)) (E_a1 : Exa Z h0 a1 "[B") (hN3 : n ≤ 34) :
    Met l mY21 (Jvm.Cond.code mY21 jdk_65_method_132_code 3 (some (.array .byte)) :: ws) rz2_1_34_34 #[(.ref a1), (.int (0 : Int32)), (.int (Int32.ofNat n))] Z h0 (Q_rmCRc Z a1 n kd bs h0 n0) := by
  refine MetFree.of_bodySF (plainFor_of_name pn_40) hisR ?_
  intro p e s m args below meth c s₁ Bd hml0 hP hK
  obtain ⟨rfl, hZ, hh⟩ := hP
  have hx := Bd.exec
  have hby := Bd.bytes
  have hml : c.maxLocals = 3 := hml0
  have hown : s.vm.findClass "java/util/Arrays" = some m.cls := findClass_of_methodNamed Bd.named
  have hlk : meth.locks = false := BodyLoose.notSynchronized Bd
  have X0 : Stand p l e rz2_1_34_34 s m #[(.ref a1), (.int (0 : Int32)), (.int (Int32.ofNat n))] below meth c s₁ [] 0 0 := Stand.of_body Bd
  have e0 : s₁.heap = h0 := by rw [← hh, Bd.state]; rfl
  have N0 := Fr.nil n0
  have KK : Keep h0 h0 [] := Keep.refl h0 _
  show Go p e below s rz2_1_34_34.cells rz2_1_34_34.slots (Q_rmCRc Z a1 n kd bs h0 n0) s₁ (entryFrame m #[(.ref a1), (.int (0 : Int32)), (.int (Int32.ofNat n))] 3)
  refine Go.eq (ef_rmCRc m a1 (0 : Int32) (Int32.ofNat n)) ?_
  show Go _ _ _ _ _ _ _  s₁ (mkF m 0 #[vR a1, vI (0 : Int32), vI (Int32.ofNat n)] [])
  refine Go.st (fun _ => XS.iloadN X0.here hx rfl (hb hby (dq dz40 0 0 rfl)) rfl) ?_
  show Go _ _ _ _ _ _ _  s₁ (mkF m 1 #[vR a1, vI (0 : Int32), vI (Int32.ofNat n)] [(.int (0 : Int32))])
  refine Go.st (fun _ => XS.ifNo X0.here hx rfl (hb hby (dq dz40 1 1 rfl)) rfl ((if0 _ _).trans (teq (rfl : (0 : Int32) = (0 : Int32))).2)) ?_
  show Go _ _ _ _ _ _ _  s₁ (mkF m 4 #[vR a1, vI (0 : Int32), vI (Int32.ofNat n)] [])
  refine Go.st (fun _ => XS.iloadN X0.here hx rfl (hb hby (dq dz40 2 4 rfl)) rfl) ?_
  refine Go.st (fun _ => XS.aloadN X0.here hx rfl (hb hby (dq dz40 3 5 rfl)) rfl rfl) ?_
  show Go _ _ _ _ _ _ _  s₁ (mkF m 6 #[vR a1, vI (0 : Int32), vI (Int32.ofNat n)] [(.ref a1), (.int (Int32.ofNat n))])
  obtain ⟨cl1, Ar1, q1, S1, M1, Hh1, G1⟩ := id A_a1
  refine Go.st (X0.arraylength hx (by rw [e0]; exact Ar1.1) (State.isArrayOf_alike hZ.alike Ar1.2.1) (g := (mkF m 6 #[vR a1, vI (0 : Int32), vI (Int32.ofNat n)] [(.ref a1), (.int (Int32.ofNat n))])) rfl rfl (hb hby (dq dz40 4 6 rfl))) ?_
  rw [len_of S1 M1]
  show Go _ _ _ _ _ _ _  s₁ (mkF m 7 #[vR a1, vI (0 : Int32), vI (Int32.ofNat n)] [(.int (Int32.ofNat n)), (.int (Int32.ofNat n))])
  refine Go.st (fun _ => XS.icmpYes X0.here hx rfl (pc0 := 7) (pc' := 17) rfl (hb hby (dq dz40 5 7 rfl)) rfl (teq (rfl : (Int32.ofNat n) = (Int32.ofNat n))).1 (by decide) (by decide)) ?_
  show Go _ _ _ _ _ _ _  s₁ (mkF m 17 #[vR a1, vI (0 : Int32), vI (Int32.ofNat n)] [])
  refine Go.st (fun _ => XS.aloadN X0.here hx rfl (hb hby (dq dz40 11 17 rfl)) rfl rfl) ?_
  show Go _ _ _ _ _ _ _  s₁ (mkF m 18 #[vR a1, vI (0 : Int32), vI (Int32.ofNat n)] [(.ref a1)])
  obtain ⟨T2, h2, X2, e2, E2, A2, B2, st2⟩ := cloneH X0 hx hZ hown (hwi hw 296 rfl) (hwi hw 297 rfl) (hwi hw 301 rfl) (hwi hw 299 rfl) (hwi hw 300 rfl) (hwi hw 302 rfl) e0 (Arv.arh A_a1) E_a1 (g := (mkF m 18 #[vR a1, vI (0 : Int32), vI (Int32.ofNat n)] [(.ref a1)])) rfl (by rw [hml]; rfl) rfl (hb hby (dq dz40 12 18 rfl)) (by decide) (W := 0) (by show 2 * 0 + _ ≤ _; exact Nat.le_of_eq rfl) (by decide) (cap := 34) (by rw [own_ocl (by omega)]; exact hN3) (by decide) (by decide)
  obtain ⟨b2, g2⟩ : ∃ z, z = h0.size := ⟨_, rfl⟩
  rw [← g2] at A2 B2 st2
  refine Go.st st2 ?_
  have g_b2 : n0 ≤ b2 := by rw [g2]; exact own_le O
  have sz_b2 : h0.size ≤ b2 := by rw [g2]; exact KK.1
  have ne_a1_b2 : a1 ≠ b2 := Nat.ne_of_lt (by rw [g2]; exact A_a1.lt)
  have A_a1 := A_a1.ext E2
  have E_a1 := E_a1.ext E2
  have O := O.ext E2
  have KK := KK.ext E2
  have V_b2 : Arv Z h2 b2 kd .byte (Int32.ofNat n) bs (.int 0) := A2
  have E_b2 := B2
  show Go _ _ _ _ _ _ _  T2 (mkF m 21 #[vR a1, vI (0 : Int32), vI (Int32.ofNat n)] [(.ref b2)])
  obtain ⟨T3, X3, e3, st3⟩ := castY X2 hx hZ hown (hwi hw 303 rfl) e2 (Ins.self E_b2) (g := (mkF m 21 #[vR a1, vI (0 : Int32), vI (Int32.ofNat n)] [(.ref b2)])) rfl rfl (hb hby (dq dz40 13 21 rfl))
  refine Go.st st3 ?_
  show Go _ _ _ _ _ _ _  T3 (mkF m 24 #[vR a1, vI (0 : Int32), vI (Int32.ofNat n)] [(.ref b2)])
  refine Go.retR X3 hlk hx Bd.returns rfl rfl rfl (hb hby (dq dz40 14 24 rfl)) (by decide) (by decide) ?_
  show Q_rmCRc Z _ _ _ _ h0 n0 _ T3.heap _
  rw [e3]
  exact ⟨_, _, rfl, N0, own_ext0 KK, sz_b2, V_b2⟩
def Q_rmPC (Z : State) (fm : Value) (i : Nat) (n : Nat) (h0 : Heap) (n0 : Nat) (v : Option Value) (h : Heap) (L : List Loc) : Prop := v = some (.int (Int32.ofNat i)) ∧ Fr n0 L ∧ h = h0
theorem rmPC (l : Launch) (Z : State) (a0 : Array Value) (hw : HWt a0 Z) (ws : List Jvm.Cond) (fm : Value) (i : Nat) (n : Nat) (h0 : Heap) (n0 : Nat) (O : Old Z n0 h0) (ref_fm : fm.isRef = true) (hi : i < n) (hn : n < 100000) :
    Met l mY25 (Jvm.Cond.code mY25 jdk_41_method_11_code 3 (some .int) :: ws) rz0_0_0_0 #[(.int (Int32.ofNat i)), (.int (Int32.ofNat n)), fm] Z h0 (Q_rmPC Z fm i n h0 n0) := by
  refine MetFree.of_bodySF (plainFor_of_name pn_19) hisR ?_
  intro p e s m args below meth c s₁ Bd hml0 hP hK
  obtain ⟨rfl, hZ, hh⟩ := hP
  have hx := Bd.exec
  have hby := Bd.bytes
  have hml : c.maxLocals = 3 := hml0
  have hlk : meth.locks = false := BodyLoose.notSynchronized Bd
  have X0 : Stand p l e rz0_0_0_0 s m #[(.int (Int32.ofNat i)), (.int (Int32.ofNat n)), fm] below meth c s₁ [] 0 0 := Stand.of_body Bd
  have e0 : s₁.heap = h0 := by rw [← hh, Bd.state]; rfl
  have N0 := Fr.nil n0
  show Go p e below s rz0_0_0_0.cells rz0_0_0_0.slots (Q_rmPC Z fm i n h0 n0) s₁ (entryFrame m #[(.int (Int32.ofNat i)), (.int (Int32.ofNat n)), fm] 3)
  refine Go.eq (ef_rmPC m (Int32.ofNat i) (Int32.ofNat n) fm ref_fm) ?_
  show Go _ _ _ _ _ _ _  s₁ (mkF m 0 #[vI (Int32.ofNat i), vI (Int32.ofNat n), .val fm] [])
  refine Go.st (fun _ => XS.iloadN X0.here hx rfl (hb hby (dq dz19 0 0 rfl)) rfl) ?_
  show Go _ _ _ _ _ _ _  s₁ (mkF m 1 #[vI (Int32.ofNat i), vI (Int32.ofNat n), .val fm] [(.int (Int32.ofNat i))])
  refine Go.st (fun _ => XS.ifNo X0.here hx rfl (hb hby (dq dz19 1 1 rfl)) rfl ((if0 _ _).trans (flt (own_onn (by omega) : ¬ ((Int32.ofNat i) < (0 : Int32)))).1)) ?_
  show Go _ _ _ _ _ _ _  s₁ (mkF m 4 #[vI (Int32.ofNat i), vI (Int32.ofNat n), .val fm] [])
  refine Go.st (fun _ => XS.iloadN X0.here hx rfl (hb hby (dq dz19 2 4 rfl)) rfl) ?_
  refine Go.st (fun _ => XS.iloadN X0.here hx rfl (hb hby (dq dz19 3 5 rfl)) rfl) ?_
  show Go _ _ _ _ _ _ _  s₁ (mkF m 6 #[vI (Int32.ofNat i), vI (Int32.ofNat n), .val fm] [(.int (Int32.ofNat n)), (.int (Int32.ofNat i))])
  refine Go.st (fun _ => XS.icmpYes X0.here hx rfl (pc0 := 6) (pc' := 16) rfl (hb hby (dq dz19 4 6 rfl)) rfl (tlt ((own_olt (by omega) (by omega)).mpr hi : (Int32.ofNat i) < (Int32.ofNat n))).1 (by decide) (by decide)) ?_
  show Go _ _ _ _ _ _ _  s₁ (mkF m 16 #[vI (Int32.ofNat i), vI (Int32.ofNat n), .val fm] [])
  refine Go.st (fun _ => XS.iloadN X0.here hx rfl (hb hby (dq dz19 5 16 rfl)) rfl) ?_
  show Go _ _ _ _ _ _ _  s₁ (mkF m 17 #[vI (Int32.ofNat i), vI (Int32.ofNat n), .val fm] [(.int (Int32.ofNat i))])
  refine Go.retI X0 hlk hx Bd.returns (hb hby (dq dz19 6 17 rfl)) (by decide) (by decide) ?_
  show Q_rmPC Z _ _ _ h0 n0 _ s₁.heap _
  rw [e0]
  exact ⟨rfl, N0, rfl⟩
def Q_rmCI (Z : State) (fm : Value) (i : Nat) (n : Nat) (h0 : Heap) (n0 : Nat) (v : Option Value) (h : Heap) (L : List Loc) : Prop := v = none ∧ Fr n0 L ∧ h = h0
theorem rmCI (l : Launch) (Z : State) (a0 : Array Value) (hw : HWt a0 Z) (ws : List Jvm.Cond) (fm : Value) (i : Nat) (n : Nat) (h0 : Heap) (n0 : Nat) (O : Old Z n0 h0) (S_SIO : Sta Z Z.heap "jdk/internal/util/Preconditions" "SIOOBE_FORMATTER" "Ljava/util/function/BiFunction;" fm) (ref_fm : fm.isRef = true) (hi : i < n) (hn : n < 100000) :
    Met l mY26 (Jvm.Cond.code mY26 jdk_42_method_155_code 2 none :: ws) rz1_0_0_14 #[(.int (Int32.ofNat i)), (.int (Int32.ofNat n))] Z h0 (Q_rmCI Z fm i n h0 n0) := by
  refine MetFree.of_bodySF (plainFor_of_name pn_18) hisR ?_
  intro p e s m args below meth c s₁ Bd hml0 hP hK
  obtain ⟨rfl, hZ, hh⟩ := hP
  have hx := Bd.exec
  have hby := Bd.bytes
  have hml : c.maxLocals = 2 := hml0
  have hown : s.vm.findClass "java/lang/String" = some m.cls := findClass_of_methodNamed Bd.named
  have hlk : meth.locks = false := BodyLoose.notSynchronized Bd
  have X0 : Stand p l e rz1_0_0_14 s m #[(.int (Int32.ofNat i)), (.int (Int32.ofNat n))] below meth c s₁ [] 0 0 := Stand.of_body Bd
  have e0 : s₁.heap = h0 := by rw [← hh, Bd.state]; rfl
  have N0 := Fr.nil n0
  show Go p e below s rz1_0_0_14.cells rz1_0_0_14.slots (Q_rmCI Z fm i n h0 n0) s₁ (entryFrame m #[(.int (Int32.ofNat i)), (.int (Int32.ofNat n))] 2)
  refine Go.eq (ef_rmCI m (Int32.ofNat i) (Int32.ofNat n)) ?_
  show Go _ _ _ _ _ _ _  s₁ (mkF m 0 #[vI (Int32.ofNat i), vI (Int32.ofNat n)] [])
  refine Go.st (fun _ => XS.iloadN X0.here hx rfl (hb hby (dq dz18 0 0 rfl)) rfl) ?_
  refine Go.st (fun _ => XS.iloadN X0.here hx rfl (hb hby (dq dz18 1 1 rfl)) rfl) ?_
  show Go _ _ _ _ _ _ _  s₁ (mkF m 2 #[vI (Int32.ofNat i), vI (Int32.ofNat n)] [(.int (Int32.ofNat n)), (.int (Int32.ofNat i))])
  obtain ⟨T1, X1, e1, st1⟩ := getS2 X0 hx hZ hown (host := "") (Or.inl (hwi hw 80 rfl)) Via.refl e0 (S_SIO.ext O.2) (g := (mkF m 2 #[vI (Int32.ofNat i), vI (Int32.ofNat n)] [(.int (Int32.ofNat n)), (.int (Int32.ofNat i))])) rfl (hb hby (dq dz18 2 2 rfl))
  refine Go.st st1 ?_
  show Go _ _ _ _ _ _ _  T1 (mkF m 5 #[vI (Int32.ofNat i), vI (Int32.ofNat n)] [fm, (.int (Int32.ofNat n)), (.int (Int32.ofNat i))])
  refine Go.pureS (w := (some (.int (Int32.ofNat i)))) (rest := []) (pc' := 8) (Jvm.LawKit.callS X1 hx (y := mY25) hown (mvT hZ (hwi hw 82 rfl)) (mvT hZ (hwi hw 83 rfl)) (mvT hZ (hwi hw 81 rfl)) (mvT hZ (hwi hw 84 rfl)) (by decide) (backOf (W := 0) (rmPC l Z a0 hw [] fm i n h0 n0 O ref_fm hi hn) hZ (hwi hw 84 rfl) (hwi hw 81 rfl) (by decide) (by decide)) (g := (mkF m 5 #[vI (Int32.ofNat i), vI (Int32.ofNat n)] [fm, (.int (Int32.ofNat n)), (.int (Int32.ofNat i))])) rfl (by rw [hml]; rfl) (argsL := [(.int (Int32.ofNat i)), (.int (Int32.ofNat n)), fm]) (rest := []) (lenOf pd__IILjava_util_function_BiFunction__I rfl) rfl (by show 2 * 0 + _ ≤ _; exact Nat.le_of_eq rfl) (hb hby (dq dz18 3 5 rfl)) (fun _ _ => ⟨rfl, e1, (by decide : 0 + 0 ≤ _), (by decide : 0 + 0 ≤ _)⟩)) (fun _ _ _ q => q) N0 (fun T2 L2 X2 e2q N2 => ?_)
  show Go _ _ _ _ _ _ _  T2 (mkF m 8 #[vI (Int32.ofNat i), vI (Int32.ofNat n)] [(.int (Int32.ofNat i))])
  refine Go.st (fun _ => XS.pop X2.here hx rfl (hb hby (dq dz18 4 8 rfl)) rfl rfl) ?_
  show Go _ _ _ _ _ _ _  T2 (mkF m 9 #[vI (Int32.ofNat i), vI (Int32.ofNat n)] [])
  refine Go.ret0 X2 hlk hx Bd.returns (hb hby (dq dz18 5 9 rfl)) (by decide) (by decide) ?_
  show Q_rmCI Z _ _ _ h0 n0 _ T2.heap _
  rw [e2q]
  exact ⟨rfl, N2, rfl⟩
def Q_rmCmp (Z : State) (a1 : Addr) (a3 : Addr) (kc : ClassId) (cs : List Int32) (k3 : ClassId) (h0 : Heap) (n0 : Nat) (v : Option Value) (h : Heap) (L : List Loc) : Prop := ∃ i, v = some (.int (Int32.ofNat i)) ∧ Fr n0 L ∧ Keep h0 h [a3] ∧ (i < cs.length ∧ (255 : Int32) < cs.getD i 0 ∨ i = cs.length ∧ Arv Z h a3 k3 .byte (Int32.ofNat cs.length) ((cs.map own_lo).map Value.int) (.int 0) ∧ ∀ j, j < cs.length → ¬ (255 : Int32) < cs.getD j 0)
theorem rmCmp (l : Launch) (Z : State) (a0 : Array Value) (hw : HWt a0 Z) (ws : List Jvm.Cond) (a1 : Addr) (a3 : Addr) (kc : ClassId) (cs : List Int32) (k3 : ClassId) (h0 : Heap) (n0 : Nat) (O : Old Z n0 h0) (A_a1 : Arv Z h0 a1 kc .char (Int32.ofNat cs.length) (cs.map Value.int) (.int 0)) (hn : cs.length ≤ 34) (A_a3 : Arv Z h0 a3 k3 .byte (Int32.ofNat cs.length) [] (.int 0)) (g_a3 : n0 ≤ a3) (ne_a1_a3 : a1 ≠ a3) :
    Met l mY27 (Jvm.Cond.code mY27 jdk_52_method_21_code 7 (some .int) :: ws) rz0_0_0_0 #[(.ref a1), (.int (0 : Int32)), (.ref a3), (.int (0 : Int32)), (.int (Int32.ofNat cs.length))] Z h0 (Q_rmCmp Z a1 a3 kc cs k3 h0 n0) := by
  refine MetFree.of_bodySF (plainFor_of_name pn_6) hisR ?_
  intro p e s m args below meth c s₁ Bd hml0 hP hK
  obtain ⟨rfl, hZ, hh⟩ := hP
  have hx := Bd.exec
  have hby := Bd.bytes
  have hml : c.maxLocals = 7 := hml0
  have hlk : meth.locks = false := BodyLoose.notSynchronized Bd
  have X0 : Stand p l e rz0_0_0_0 s m #[(.ref a1), (.int (0 : Int32)), (.ref a3), (.int (0 : Int32)), (.int (Int32.ofNat cs.length))] below meth c s₁ [] 0 0 := Stand.of_body Bd
  have e0 : s₁.heap = h0 := by rw [← hh, Bd.state]; rfl
  have N0 := Fr.nil n0
  have KK : Keep h0 h0 [a3] := Keep.refl h0 _
  show Go p e below s rz0_0_0_0.cells rz0_0_0_0.slots (Q_rmCmp Z a1 a3 kc cs k3 h0 n0) s₁ (entryFrame m #[(.ref a1), (.int (0 : Int32)), (.ref a3), (.int (0 : Int32)), (.int (Int32.ofNat cs.length))] 7)
  refine Go.eq (ef_rmCmp m a1 (0 : Int32) a3 (0 : Int32) (Int32.ofNat cs.length)) ?_
  show Go _ _ _ _ _ _ _  s₁ (mkF m 0 #[vR a1, vI (0 : Int32), vR a3, vI (0 : Int32), vI (Int32.ofNat cs.length), uS, uS] [])
  refine Go.st (fun _ => XS.iconst X0.here hx rfl (hb hby (dq dz6 0 0 rfl))) ?_
  refine Go.st (fun _ => XS.istore X0.here hx rfl (hb hby (dq dz6 1 1 rfl)) rfl (l' := #[vR a1, vI (0 : Int32), vR a3, vI (0 : Int32), vI (Int32.ofNat cs.length), vI (0 : Int32), uS]) rfl) ?_
  have loop : ∀ (k9 : Nat) (T9 : State) (h9 : Heap) (Lz : List Loc) (i : Nat) (s6 : Slot), cs.length - i = k9 → Stand p l e rz0_0_0_0 s m #[(.ref a1), (.int (0 : Int32)), (.ref a3), (.int (0 : Int32)), (.int (Int32.ofNat cs.length))] below meth c T9 Lz 0 0 → T9.heap = h9 → Old Z n0 h9 → Fr n0 Lz → Keep h0 h9 [a3] → (Arv Z h9 a1 kc .char (Int32.ofNat cs.length) (cs.map Value.int) (.int 0)) → (Arv Z h9 a3 k3 .byte (Int32.ofNat cs.length) (((cs.take i).map own_lo).map Value.int) (.int 0)) → (s6 = uS ∨ ∃ z, s6 = vI z) → (i ≤ cs.length) → (∀ j, j < i → ¬ (255 : Int32) < cs.getD j 0) → Go p e below s rz0_0_0_0.cells rz0_0_0_0.slots (Q_rmCmp Z a1 a3 kc cs k3 h0 n0) T9 (mkF m 3 #[vR a1, vI (Int32.ofNat i), vR a3, vI (Int32.ofNat i), vI (Int32.ofNat cs.length), vI (Int32.ofNat i), s6] []) := by
    intro k9
    induction k9 with
    | zero =>
      intro T9 h9 Lz i s6 hk9 X9 e9 O N9 KK A_a1 A_a3 hs6 hi hsm
      refine Go.st (fun _ => XS.iload X9.here hx rfl (hb hby (dq dz6 2 3 rfl)) rfl) ?_
      refine Go.st (fun _ => XS.iload X9.here hx rfl (hb hby (dq dz6 3 5 rfl)) rfl) ?_
      show Go _ _ _ _ _ _ _  T9 (mkF m 7 #[vR a1, vI (Int32.ofNat i), vR a3, vI (Int32.ofNat i), vI (Int32.ofNat cs.length), vI (Int32.ofNat i), s6] [(.int (Int32.ofNat cs.length)), (.int (Int32.ofNat i))])
      refine Go.st (fun _ => XS.icmpYes X9.here hx rfl (pc0 := 7) (pc' := 44) rfl (hb hby (dq dz6 4 7 rfl)) rfl (flt (fun q => absurd ((own_olt (by omega) (by omega)).mp q) (by omega) : ¬ ((Int32.ofNat i) < (Int32.ofNat cs.length)))).2.1 (by decide) (by decide)) ?_
      show Go _ _ _ _ _ _ _  T9 (mkF m 44 #[vR a1, vI (Int32.ofNat i), vR a3, vI (Int32.ofNat i), vI (Int32.ofNat cs.length), vI (Int32.ofNat i), s6] [])
      refine Go.st (fun _ => XS.iload X9.here hx rfl (hb hby (dq dz6 5 44 rfl)) rfl) ?_
      show Go _ _ _ _ _ _ _  T9 (mkF m 46 #[vR a1, vI (Int32.ofNat i), vR a3, vI (Int32.ofNat i), vI (Int32.ofNat cs.length), vI (Int32.ofNat i), s6] [(.int (Int32.ofNat cs.length))])
      refine Go.retI X9 hlk hx Bd.returns (hb hby (dq dz6 6 46 rfl)) (by decide) (by decide) ?_
      show Q_rmCmp Z _ _ _ _ _ h0 n0 _ T9.heap _
      rw [e9]
      have q : i = cs.length := by omega
      rw [q, List.take_length] at A_a3
      exact ⟨cs.length, rfl, N9, KK, Or.inr ⟨rfl, A_a3, fun j hj => hsm j (by omega)⟩⟩
    | succ k9 ih =>
      intro T9 h9 Lz i s6 hk9 X9 e9 O N9 KK A_a1 A_a3 hs6 hi hsm
      refine Go.st (fun _ => XS.iload X9.here hx rfl (hb hby (dq dz6 2 3 rfl)) rfl) ?_
      refine Go.st (fun _ => XS.iload X9.here hx rfl (hb hby (dq dz6 3 5 rfl)) rfl) ?_
      show Go _ _ _ _ _ _ _  T9 (mkF m 7 #[vR a1, vI (Int32.ofNat i), vR a3, vI (Int32.ofNat i), vI (Int32.ofNat cs.length), vI (Int32.ofNat i), s6] [(.int (Int32.ofNat cs.length)), (.int (Int32.ofNat i))])
      refine Go.st (fun _ => XS.icmpNo X9.here hx rfl (hb hby (dq dz6 4 7 rfl)) rfl (tlt ((own_olt (by omega) (by omega)).mpr (by omega) : (Int32.ofNat i) < (Int32.ofNat cs.length))).2.1) ?_
      show Go _ _ _ _ _ _ _  T9 (mkF m 10 #[vR a1, vI (Int32.ofNat i), vR a3, vI (Int32.ofNat i), vI (Int32.ofNat cs.length), vI (Int32.ofNat i), s6] [])
      refine Go.st (fun _ => XS.aloadN X9.here hx rfl (hb hby (dq dz6 7 10 rfl)) rfl rfl) ?_
      refine Go.st (fun _ => XS.iloadN X9.here hx rfl (hb hby (dq dz6 8 11 rfl)) rfl) ?_
      show Go _ _ _ _ _ _ _  T9 (mkF m 12 #[vR a1, vI (Int32.ofNat i), vR a3, vI (Int32.ofNat i), vI (Int32.ofNat cs.length), vI (Int32.ofNat i), s6] [(.int (Int32.ofNat i)), (.ref a1)])
      obtain ⟨cl1, Ar1, q1, S1, M1, Hh1, G1⟩ := id A_a1
      refine Go.st (X9.caload hx (j := (Int32.ofNat i)) (v := (.int (cs.getD i 0))) (by rw [e9]; exact Ar1.1) (State.isArrayOf_alike hZ.alike Ar1.2.1) Ar1.2.2 (inb_of S1 ⟨own_onn (by omega), (own_olt (by omega) (by omega)).mpr (by omega)⟩) (Hh1.at (inb_of S1 ⟨own_onn (by omega), (own_olt (by omega) (by omega)).mpr (by omega)⟩) (by rw [own_ocl (by omega)]; exact own_gm cs i)) (g := (mkF m 12 #[vR a1, vI (Int32.ofNat i), vR a3, vI (Int32.ofNat i), vI (Int32.ofNat cs.length), vI (Int32.ofNat i), s6] [(.int (Int32.ofNat i)), (.ref a1)])) rfl rfl (hb hby (dq dz6 9 12 rfl))) ?_
      show Go _ _ _ _ _ _ _  T9 (mkF m 13 #[vR a1, vI (Int32.ofNat i), vR a3, vI (Int32.ofNat i), vI (Int32.ofNat cs.length), vI (Int32.ofNat i), s6] [(.int (cs.getD i 0))])
      refine Go.st (fun _ => XS.istore X9.here hx rfl (hb hby (dq dz6 10 13 rfl)) rfl (l' := #[vR a1, vI (Int32.ofNat i), vR a3, vI (Int32.ofNat i), vI (Int32.ofNat cs.length), vI (Int32.ofNat i), vI (cs.getD i 0)]) (by rcases hs6 with rfl | ⟨_, rfl⟩ <;> rfl)) ?_
      refine Go.st (fun _ => XS.iload X9.here hx rfl (hb hby (dq dz6 11 15 rfl)) rfl) ?_
      refine Go.st (fun _ => XS.sipush X9.here hx rfl (hb hby (dq dz6 12 17 rfl))) ?_
      show Go _ _ _ _ _ _ _  T9 (mkF m 20 #[vR a1, vI (Int32.ofNat i), vR a3, vI (Int32.ofNat i), vI (Int32.ofNat cs.length), vI (Int32.ofNat i), vI (cs.getD i 0)] [(.int (255 : Int32)), (.int (cs.getD i 0))])
      by_cases c20_2 : (255 : Int32) < (cs.getD i 0)
      · refine Go.st (fun _ => XS.icmpNo X9.here hx rfl (hb hby (dq dz6 13 20 rfl)) rfl (tlt c20_2).2.2.2) ?_
        show Go _ _ _ _ _ _ _  T9 (mkF m 23 #[vR a1, vI (Int32.ofNat i), vR a3, vI (Int32.ofNat i), vI (Int32.ofNat cs.length), vI (Int32.ofNat i), vI (cs.getD i 0)] [])
        refine Go.st (fun _ => XS.iload X9.here hx rfl (hb hby (dq dz6 14 23 rfl)) rfl) ?_
        show Go _ _ _ _ _ _ _  T9 (mkF m 25 #[vR a1, vI (Int32.ofNat i), vR a3, vI (Int32.ofNat i), vI (Int32.ofNat cs.length), vI (Int32.ofNat i), vI (cs.getD i 0)] [(.int (Int32.ofNat i))])
        refine Go.retI X9 hlk hx Bd.returns (hb hby (dq dz6 15 25 rfl)) (by decide) (by decide) ?_
        show Q_rmCmp Z _ _ _ _ _ h0 n0 _ T9.heap _
        rw [e9]
        exact ⟨i, rfl, N9, KK, Or.inl ⟨by omega, c20_2⟩⟩
      · refine Go.st (fun _ => XS.icmpYes X9.here hx rfl (pc0 := 20) (pc' := 26) rfl (hb hby (dq dz6 13 20 rfl)) rfl (flt c20_2).2.2.2 (by decide) (by decide)) ?_
        show Go _ _ _ _ _ _ _  T9 (mkF m 26 #[vR a1, vI (Int32.ofNat i), vR a3, vI (Int32.ofNat i), vI (Int32.ofNat cs.length), vI (Int32.ofNat i), vI (cs.getD i 0)] [])
        refine Go.st (fun _ => XS.aloadN X9.here hx rfl (hb hby (dq dz6 16 26 rfl)) rfl rfl) ?_
        refine Go.st (fun _ => XS.iloadN X9.here hx rfl (hb hby (dq dz6 17 27 rfl)) rfl) ?_
        refine Go.st (fun _ => XS.iload X9.here hx rfl (hb hby (dq dz6 18 28 rfl)) rfl) ?_
        refine Go.st (fun _ => XS.i2b X9.here hx rfl (hb hby (dq dz6 19 30 rfl)) rfl) ?_
        show Go _ _ _ _ _ _ _  T9 (mkF m 31 #[vR a1, vI (Int32.ofNat i), vR a3, vI (Int32.ofNat i), vI (Int32.ofNat cs.length), vI (Int32.ofNat i), vI (cs.getD i 0)] [(.int ((cs.getD i 0).toInt8.toInt32)), (.int (Int32.ofNat i)), (.ref a3)])
        obtain ⟨cl3, Ar3, q3, S3, M3, Hh3, G3⟩ := A_a3
        obtain ⟨T4, h4, X4, e4, W4, st4⟩ := stB X9 hx hZ e9 Ar3 (j := (Int32.ofNat i)) (inb_of S3 ⟨own_onn (by omega), (own_olt (by omega) (by omega)).mpr (by omega)⟩) (g := (mkF m 31 #[vR a1, vI (Int32.ofNat i), vR a3, vI (Int32.ofNat i), vI (Int32.ofNat cs.length), vI (Int32.ofNat i), vI (cs.getD i 0)] [(.int ((cs.getD i 0).toInt8.toInt32)), (.int (Int32.ofNat i)), (.ref a3)])) rfl rfl (hb hby (dq dz6 20 31 rfl))
        refine Go.st st4 ?_
        have A_a3 : Arv Z h4 a3 k3 .byte (Int32.ofNat cs.length) ((((cs.take i).map own_lo).map Value.int) ++ [Value.int (nar .byte ((cs.getD i 0).toInt8.toInt32))]) (.int 0) := own_push Ar3 q3 S3 M3 Hh3 G3 (fits_nar_byte _) W4 (by rw [own_ocl (by omega), List.length_map, List.length_map, List.length_take, Nat.min_eq_left (by omega)])
        rw [own_nlo] at A_a3
        have N4 := Fr.snoc X4 N9 g_a3
        have A_a1 := A_a1.other W4 ne_a1_a3
        have O := O.wr W4 g_a3
        have KK := KK.wr W4 (Or.inl (List.mem_of_getElem? (i := 0) rfl))
        rw [own_tkv (by omega)] at A_a3
        show Go _ _ _ _ _ _ _  T4 (mkF m 32 #[vR a1, vI (Int32.ofNat i), vR a3, vI (Int32.ofNat i), vI (Int32.ofNat cs.length), vI (Int32.ofNat i), vI (cs.getD i 0)] [])
        refine Go.st (fun _ => XS.iinc X4.here hx rfl (hb hby (dq dz6 21 32 rfl)) rfl (l' := #[vR a1, vI ((Int32.ofNat i) + (1 : Int32)), vR a3, vI (Int32.ofNat i), vI (Int32.ofNat cs.length), vI (Int32.ofNat i), vI (cs.getD i 0)]) rfl) ?_
        show Go _ _ _ _ _ _ _  T4 (mkF m 35 #[vR a1, vI ((Int32.ofNat i) + (1 : Int32)), vR a3, vI (Int32.ofNat i), vI (Int32.ofNat cs.length), vI (Int32.ofNat i), vI (cs.getD i 0)] [])
        rw [own_1inc]
        show Go _ _ _ _ _ _ _  T4 (mkF m 35 #[vR a1, vI (Int32.ofNat (i + 1)), vR a3, vI (Int32.ofNat i), vI (Int32.ofNat cs.length), vI (Int32.ofNat i), vI (cs.getD i 0)] [])
        refine Go.st (fun _ => XS.iinc X4.here hx rfl (hb hby (dq dz6 22 35 rfl)) rfl (l' := #[vR a1, vI (Int32.ofNat (i + 1)), vR a3, vI ((Int32.ofNat i) + (1 : Int32)), vI (Int32.ofNat cs.length), vI (Int32.ofNat i), vI (cs.getD i 0)]) rfl) ?_
        show Go _ _ _ _ _ _ _  T4 (mkF m 38 #[vR a1, vI (Int32.ofNat (i + 1)), vR a3, vI ((Int32.ofNat i) + (1 : Int32)), vI (Int32.ofNat cs.length), vI (Int32.ofNat i), vI (cs.getD i 0)] [])
        rw [own_1inc]
        show Go _ _ _ _ _ _ _  T4 (mkF m 38 #[vR a1, vI (Int32.ofNat (i + 1)), vR a3, vI (Int32.ofNat (i + 1)), vI (Int32.ofNat cs.length), vI (Int32.ofNat i), vI (cs.getD i 0)] [])
        refine Go.st (fun _ => XS.iinc X4.here hx rfl (hb hby (dq dz6 23 38 rfl)) rfl (l' := #[vR a1, vI (Int32.ofNat (i + 1)), vR a3, vI (Int32.ofNat (i + 1)), vI (Int32.ofNat cs.length), vI ((Int32.ofNat i) + (1 : Int32)), vI (cs.getD i 0)]) rfl) ?_
        show Go _ _ _ _ _ _ _  T4 (mkF m 41 #[vR a1, vI (Int32.ofNat (i + 1)), vR a3, vI (Int32.ofNat (i + 1)), vI (Int32.ofNat cs.length), vI ((Int32.ofNat i) + (1 : Int32)), vI (cs.getD i 0)] [])
        rw [own_1inc]
        show Go _ _ _ _ _ _ _  T4 (mkF m 41 #[vR a1, vI (Int32.ofNat (i + 1)), vR a3, vI (Int32.ofNat (i + 1)), vI (Int32.ofNat cs.length), vI (Int32.ofNat (i + 1)), vI (cs.getD i 0)] [])
        refine Go.st (fun _ => XS.goto X4.here hx rfl (pc0 := 41) (pc' := 3) rfl (hb hby (dq dz6 24 41 rfl)) (by decide) (by decide)) ?_
        show Go _ _ _ _ _ _ _  T4 (mkF m 3 #[vR a1, vI (Int32.ofNat (i + 1)), vR a3, vI (Int32.ofNat (i + 1)), vI (Int32.ofNat cs.length), vI (Int32.ofNat (i + 1)), vI (cs.getD i 0)] [])
        exact ih T4 h4 _ (i + 1) (vI (cs.getD i 0)) (by omega) X4 e4 O N4 KK A_a1 A_a3 (Or.inr ⟨_, rfl⟩) (by omega) (fun j hj => by rcases Nat.lt_or_eq_of_le (Nat.le_of_lt_succ hj) with q | q; exact hsm j q; rw [q]; exact c20_2)
  show Go _ _ _ _ _ _ _  s₁ (mkF m 3 #[vR a1, vI (0 : Int32), vR a3, vI (0 : Int32), vI (Int32.ofNat cs.length), vI (0 : Int32), uS] [])
  exact loop _ s₁ h0 _ 0 uS rfl X0 e0 O N0 KK A_a1 A_a3 (Or.inl rfl) (Nat.zero_le _) (fun j hj => absurd hj (Nat.not_lt_zero _))
def Q_rmPutC (Z : State) (a1 : Addr) (p3 : Int32) (i : Nat) (k1 : ClassId) (cap : Nat) (bs : List Value) (h0 : Heap) (n0 : Nat) (v : Option Value) (h : Heap) (L : List Loc) : Prop := v = none ∧ Fr n0 L ∧ Keep h0 h [a1] ∧ Arv Z h a1 k1 .byte (Int32.ofNat cap) ((bs ++ [Value.int (own_lo p3)]) ++ [Value.int (own_hi p3)]) (.int 0)
theorem rmPutC (l : Launch) (Z : State) (a0 : Array Value) (hw : HWt a0 Z) (ws : List Jvm.Cond) (a1 : Addr) (p3 : Int32) (i : Nat) (k1 : ClassId) (cap : Nat) (bs : List Value) (h0 : Heap) (n0 : Nat) (O : Old Z n0 h0) (S_ad : Sta Z Z.heap "java/lang/StringUTF16" "$assertionsDisabled" "Z" (.int 1)) (S_hi : Sta Z Z.heap "java/lang/StringUTF16" "HI_BYTE_SHIFT" "I" (.int 0)) (S_lo : Sta Z Z.heap "java/lang/StringUTF16" "LO_BYTE_SHIFT" "I" (.int 8)) (A_a1 : Arv Z h0 a1 k1 .byte (Int32.ofNat cap) bs (.int 0)) (hb_ : bs.length = 2 * i) (hc : 2 * i + 2 ≤ cap) (hcb : cap < 100000) (g_a1 : n0 ≤ a1) :
    Met l mY28 (Jvm.Cond.code mY28 jdk_52_method_4_code 3 none :: ws) rz0_0_0_0 #[(.ref a1), (.int (Int32.ofNat i)), (.int p3)] Z h0 (Q_rmPutC Z a1 p3 i k1 cap bs h0 n0) := by
  refine MetFree.of_bodySF (plainFor_of_name pn_49) hisR ?_
  intro p e s m args below meth c s₁ Bd hml0 hP hK
  obtain ⟨rfl, hZ, hh⟩ := hP
  have hx := Bd.exec
  have hby := Bd.bytes
  have hml : c.maxLocals = 3 := hml0
  have hown : s.vm.findClass "java/lang/StringUTF16" = some m.cls := findClass_of_methodNamed Bd.named
  have hlk : meth.locks = false := BodyLoose.notSynchronized Bd
  have X0 : Stand p l e rz0_0_0_0 s m #[(.ref a1), (.int (Int32.ofNat i)), (.int p3)] below meth c s₁ [] 0 0 := Stand.of_body Bd
  have e0 : s₁.heap = h0 := by rw [← hh, Bd.state]; rfl
  have N0 := Fr.nil n0
  have KK : Keep h0 h0 [a1] := Keep.refl h0 _
  show Go p e below s rz0_0_0_0.cells rz0_0_0_0.slots (Q_rmPutC Z a1 p3 i k1 cap bs h0 n0) s₁ (entryFrame m #[(.ref a1), (.int (Int32.ofNat i)), (.int p3)] 3)
  refine Go.eq (ef_rmPutC m a1 (Int32.ofNat i) p3) ?_
  show Go _ _ _ _ _ _ _  s₁ (mkF m 0 #[vR a1, vI (Int32.ofNat i), vI p3] [])
  obtain ⟨T1, X1, e1, st1⟩ := getS2 X0 hx hZ hown (host := "") (Or.inl (hwi hw 236 rfl)) Via.refl e0 (S_ad.ext O.2) (g := (mkF m 0 #[vR a1, vI (Int32.ofNat i), vI p3] [])) rfl (hb hby (dq dz49 0 0 rfl))
  refine Go.st st1 ?_
  show Go _ _ _ _ _ _ _  T1 (mkF m 3 #[vR a1, vI (Int32.ofNat i), vI p3] [(.int (1 : Int32))])
  refine Go.st (fun _ => XS.ifYes X1.here hx rfl (pc0 := 3) (pc' := 28) rfl (hb hby (dq dz49 1 3 rfl)) rfl ((if0 _ _).trans (feq (by decide : ¬ ((1 : Int32) = (0 : Int32)))).2) (by decide) (by decide)) ?_
  show Go _ _ _ _ _ _ _  T1 (mkF m 28 #[vR a1, vI (Int32.ofNat i), vI p3] [])
  refine Go.st (fun _ => XS.iloadN X1.here hx rfl (hb hby (dq dz49 2 28 rfl)) rfl) ?_
  refine Go.st (fun _ => XS.iconst X1.here hx rfl (hb hby (dq dz49 3 29 rfl))) ?_
  refine Go.st (fun _ => XS.ishl X1.here hx rfl (hb hby (dq dz49 4 30 rfl)) rfl) ?_
  show Go _ _ _ _ _ _ _  T1 (mkF m 31 #[vR a1, vI (Int32.ofNat i), vI p3] [(.int ((Int32.ofNat i) <<< ((1 : Int32) &&& 31)))])
  rw [own_shl1 (by omega)]
  refine Go.st (fun _ => XS.istoreN X1.here hx rfl (hb hby (dq dz49 5 31 rfl)) rfl (l' := #[vR a1, vI (Int32.ofNat (2 * i)), vI p3]) rfl) ?_
  refine Go.st (fun _ => XS.aloadN X1.here hx rfl (hb hby (dq dz49 6 32 rfl)) rfl rfl) ?_
  refine Go.st (fun _ => XS.iloadN X1.here hx rfl (hb hby (dq dz49 7 33 rfl)) rfl) ?_
  show Go _ _ _ _ _ _ _  T1 (mkF m 34 #[vR a1, vI (Int32.ofNat (2 * i)), vI p3] [(.int (Int32.ofNat (2 * i))), (.ref a1)])
  refine Go.st (fun _ => XS.iinc X1.here hx rfl (hb hby (dq dz49 8 34 rfl)) rfl (l' := #[vR a1, vI ((Int32.ofNat (2 * i)) + (1 : Int32)), vI p3]) rfl) ?_
  show Go _ _ _ _ _ _ _  T1 (mkF m 37 #[vR a1, vI ((Int32.ofNat (2 * i)) + (1 : Int32)), vI p3] [(.int (Int32.ofNat (2 * i))), (.ref a1)])
  rw [own_1inc]
  show Go _ _ _ _ _ _ _  T1 (mkF m 37 #[vR a1, vI (Int32.ofNat ((2 * i) + 1)), vI p3] [(.int (Int32.ofNat (2 * i))), (.ref a1)])
  refine Go.st (fun _ => XS.iloadN X1.here hx rfl (hb hby (dq dz49 9 37 rfl)) rfl) ?_
  show Go _ _ _ _ _ _ _  T1 (mkF m 38 #[vR a1, vI (Int32.ofNat ((2 * i) + 1)), vI p3] [(.int p3), (.int (Int32.ofNat (2 * i))), (.ref a1)])
  obtain ⟨T2, X2, e2, st2⟩ := getS2 X1 hx hZ hown (host := "") (Or.inl (hwi hw 237 rfl)) Via.refl e1 (S_hi.ext O.2) (g := (mkF m 38 #[vR a1, vI (Int32.ofNat ((2 * i) + 1)), vI p3] [(.int p3), (.int (Int32.ofNat (2 * i))), (.ref a1)])) rfl (hb hby (dq dz49 10 38 rfl))
  refine Go.st st2 ?_
  show Go _ _ _ _ _ _ _  T2 (mkF m 41 #[vR a1, vI (Int32.ofNat ((2 * i) + 1)), vI p3] [(.int (0 : Int32)), (.int p3), (.int (Int32.ofNat (2 * i))), (.ref a1)])
  refine Go.st (fun _ => XS.ishr X2.here hx rfl (hb hby (dq dz49 11 41 rfl)) rfl) ?_
  show Go _ _ _ _ _ _ _  T2 (mkF m 42 #[vR a1, vI (Int32.ofNat ((2 * i) + 1)), vI p3] [(.int (p3 >>> ((0 : Int32) &&& 31))), (.int (Int32.ofNat (2 * i))), (.ref a1)])
  rw [own_shr0]
  refine Go.st (fun _ => XS.i2b X2.here hx rfl (hb hby (dq dz49 12 42 rfl)) rfl) ?_
  show Go _ _ _ _ _ _ _  T2 (mkF m 43 #[vR a1, vI (Int32.ofNat ((2 * i) + 1)), vI p3] [(.int (p3.toInt8.toInt32)), (.int (Int32.ofNat (2 * i))), (.ref a1)])
  obtain ⟨cl3, Ar3, q3, S3, M3, Hh3, G3⟩ := A_a1
  obtain ⟨T4, h4, X4, e4, W4, st4⟩ := stB X2 hx hZ e2 Ar3 (j := (Int32.ofNat (2 * i))) (inb_of S3 ⟨own_onn (by omega), (own_olt (by omega) (by omega)).mpr (by omega)⟩) (g := (mkF m 43 #[vR a1, vI (Int32.ofNat ((2 * i) + 1)), vI p3] [(.int (p3.toInt8.toInt32)), (.int (Int32.ofNat (2 * i))), (.ref a1)])) rfl rfl (hb hby (dq dz49 13 43 rfl))
  refine Go.st st4 ?_
  have A_a1 : Arv Z h4 a1 k1 .byte (Int32.ofNat cap) (bs ++ [Value.int (nar .byte (p3.toInt8.toInt32))]) (.int 0) := own_push Ar3 q3 S3 M3 Hh3 G3 (fits_nar_byte _) W4 (by rw [own_ocl (by omega)]; omega)
  rw [own_nlo] at A_a1
  have N4 := Fr.snoc X4 N0 g_a1
  have O := O.wr W4 g_a1
  have KK := KK.wr W4 (Or.inl (List.mem_of_getElem? (i := 0) rfl))
  show Go _ _ _ _ _ _ _  T4 (mkF m 44 #[vR a1, vI (Int32.ofNat ((2 * i) + 1)), vI p3] [])
  refine Go.st (fun _ => XS.aloadN X4.here hx rfl (hb hby (dq dz49 14 44 rfl)) rfl rfl) ?_
  refine Go.st (fun _ => XS.iloadN X4.here hx rfl (hb hby (dq dz49 15 45 rfl)) rfl) ?_
  refine Go.st (fun _ => XS.iloadN X4.here hx rfl (hb hby (dq dz49 16 46 rfl)) rfl) ?_
  show Go _ _ _ _ _ _ _  T4 (mkF m 47 #[vR a1, vI (Int32.ofNat ((2 * i) + 1)), vI p3] [(.int p3), (.int (Int32.ofNat ((2 * i) + 1))), (.ref a1)])
  obtain ⟨T5, X5, e5, st5⟩ := getS2 X4 hx hZ hown (host := "") (Or.inl (hwi hw 238 rfl)) Via.refl e4 (S_lo.ext O.2) (g := (mkF m 47 #[vR a1, vI (Int32.ofNat ((2 * i) + 1)), vI p3] [(.int p3), (.int (Int32.ofNat ((2 * i) + 1))), (.ref a1)])) rfl (hb hby (dq dz49 17 47 rfl))
  refine Go.st st5 ?_
  show Go _ _ _ _ _ _ _  T5 (mkF m 50 #[vR a1, vI (Int32.ofNat ((2 * i) + 1)), vI p3] [(.int (8 : Int32)), (.int p3), (.int (Int32.ofNat ((2 * i) + 1))), (.ref a1)])
  refine Go.st (fun _ => XS.ishr X5.here hx rfl (hb hby (dq dz49 18 50 rfl)) rfl) ?_
  refine Go.st (fun _ => XS.i2b X5.here hx rfl (hb hby (dq dz49 19 51 rfl)) rfl) ?_
  show Go _ _ _ _ _ _ _  T5 (mkF m 52 #[vR a1, vI (Int32.ofNat ((2 * i) + 1)), vI p3] [(.int ((p3 >>> ((8 : Int32) &&& 31)).toInt8.toInt32)), (.int (Int32.ofNat ((2 * i) + 1))), (.ref a1)])
  obtain ⟨cl6, Ar6, q6, S6, M6, Hh6, G6⟩ := A_a1
  obtain ⟨T7, h7, X7, e7, W7, st7⟩ := stB X5 hx hZ e5 Ar6 (j := (Int32.ofNat ((2 * i) + 1))) (inb_of S6 ⟨own_onn (by omega), (own_olt (by omega) (by omega)).mpr (by omega)⟩) (g := (mkF m 52 #[vR a1, vI (Int32.ofNat ((2 * i) + 1)), vI p3] [(.int ((p3 >>> ((8 : Int32) &&& 31)).toInt8.toInt32)), (.int (Int32.ofNat ((2 * i) + 1))), (.ref a1)])) rfl rfl (hb hby (dq dz49 20 52 rfl))
  refine Go.st st7 ?_
  have A_a1 : Arv Z h7 a1 k1 .byte (Int32.ofNat cap) ((bs ++ [Value.int (own_lo p3)]) ++ [Value.int (nar .byte ((p3 >>> ((8 : Int32) &&& 31)).toInt8.toInt32))]) (.int 0) := own_push Ar6 q6 S6 M6 Hh6 G6 (fits_nar_byte _) W7 (by rw [own_ocl (by omega), List.length_append, show ([Value.int (own_lo p3)] : List Value).length = 1 from rfl]; omega)
  rw [own_nhi] at A_a1
  have N7 := Fr.snoc X7 N4 g_a1
  have O := O.wr W7 g_a1
  have KK := KK.wr W7 (Or.inl (List.mem_of_getElem? (i := 0) rfl))
  show Go _ _ _ _ _ _ _  T7 (mkF m 53 #[vR a1, vI (Int32.ofNat ((2 * i) + 1)), vI p3] [])
  refine Go.ret0 X7 hlk hx Bd.returns (hb hby (dq dz49 21 53 rfl)) (by decide) (by decide) ?_
  show Q_rmPutC Z _ _ _ _ _ _ h0 n0 _ T7.heap _
  rw [e7]
  exact ⟨rfl, N7, KK, A_a1⟩
def Q_rmNBL (Z : State) (n : Nat) (h0 : Heap) (n0 : Nat) (v : Option Value) (h : Heap) (L : List Loc) : Prop := v = some (.int (Int32.ofNat (2 * n))) ∧ Fr n0 L ∧ h = h0
theorem rmNBL (l : Launch) (Z : State) (a0 : Array Value) (hw : HWt a0 Z) (ws : List Jvm.Cond) (n : Nat) (h0 : Heap) (n0 : Nat) (O : Old Z n0 h0) (hn : n < 100000) :
    Met l mY29 (Jvm.Cond.code mY29 jdk_52_method_3_code 1 (some .int) :: ws) rz0_0_0_0 #[(.int (Int32.ofNat n))] Z h0 (Q_rmNBL Z n h0 n0) := by
  refine MetFree.of_bodySF (plainFor_of_name pn_48) hisR ?_
  intro p e s m args below meth c s₁ Bd hml0 hP hK
  obtain ⟨rfl, hZ, hh⟩ := hP
  have hx := Bd.exec
  have hby := Bd.bytes
  have hml : c.maxLocals = 1 := hml0
  have hown : s.vm.findClass "java/lang/StringUTF16" = some m.cls := findClass_of_methodNamed Bd.named
  have hlk : meth.locks = false := BodyLoose.notSynchronized Bd
  have X0 : Stand p l e rz0_0_0_0 s m #[(.int (Int32.ofNat n))] below meth c s₁ [] 0 0 := Stand.of_body Bd
  have e0 : s₁.heap = h0 := by rw [← hh, Bd.state]; rfl
  have N0 := Fr.nil n0
  show Go p e below s rz0_0_0_0.cells rz0_0_0_0.slots (Q_rmNBL Z n h0 n0) s₁ (entryFrame m #[(.int (Int32.ofNat n))] 1)
  refine Go.eq (ef_rmNBL m (Int32.ofNat n)) ?_
  show Go _ _ _ _ _ _ _  s₁ (mkF m 0 #[vI (Int32.ofNat n)] [])
  refine Go.st (fun _ => XS.iloadN X0.here hx rfl (hb hby (dq dz48 0 0 rfl)) rfl) ?_
  show Go _ _ _ _ _ _ _  s₁ (mkF m 1 #[vI (Int32.ofNat n)] [(.int (Int32.ofNat n))])
  refine Go.st (fun _ => XS.ifYes X0.here hx rfl (pc0 := 1) (pc' := 12) rfl (hb hby (dq dz48 1 1 rfl)) rfl ((if0 _ _).trans (flt (own_onn (by omega) : ¬ ((Int32.ofNat n) < (0 : Int32)))).2.1) (by decide) (by decide)) ?_
  show Go _ _ _ _ _ _ _  s₁ (mkF m 12 #[vI (Int32.ofNat n)] [])
  refine Go.st (fun _ => XS.iloadN X0.here hx rfl (hb hby (dq dz48 2 12 rfl)) rfl) ?_
  show Go _ _ _ _ _ _ _  s₁ (mkF m 13 #[vI (Int32.ofNat n)] [(.int (Int32.ofNat n))])
  refine Go.st (X0.ldcInt hx hown (mvT hZ (hwi hw 232 rfl)) (g := (mkF m 13 #[vI (Int32.ofNat n)] [(.int (Int32.ofNat n))])) rfl (hb hby (dq dz48 3 13 rfl))) ?_
  show Go _ _ _ _ _ _ _  s₁ (mkF m 15 #[vI (Int32.ofNat n)] [(.int (1073741823 : Int32)), (.int (Int32.ofNat n))])
  refine Go.st (fun _ => XS.icmpYes X0.here hx rfl (pc0 := 15) (pc' := 55) rfl (hb hby (dq dz48 4 15 rfl)) rfl (tlt (own_bigl (by omega) : (Int32.ofNat n) < (1073741823 : Int32))).1 (by decide) (by decide)) ?_
  show Go _ _ _ _ _ _ _  s₁ (mkF m 55 #[vI (Int32.ofNat n)] [])
  refine Go.st (fun _ => XS.iloadN X0.here hx rfl (hb hby (dq dz48 5 55 rfl)) rfl) ?_
  refine Go.st (fun _ => XS.iconst X0.here hx rfl (hb hby (dq dz48 6 56 rfl))) ?_
  refine Go.st (fun _ => XS.ishl X0.here hx rfl (hb hby (dq dz48 7 57 rfl)) rfl) ?_
  show Go _ _ _ _ _ _ _  s₁ (mkF m 58 #[vI (Int32.ofNat n)] [(.int ((Int32.ofNat n) <<< ((1 : Int32) &&& 31)))])
  rw [own_shl1 (by omega)]
  show Go _ _ _ _ _ _ _  s₁ (mkF m 58 #[vI (Int32.ofNat n)] [(.int (Int32.ofNat (2 * n)))])
  refine Go.retI X0 hlk hx Bd.returns (hb hby (dq dz48 8 58 rfl)) (by decide) (by decide) ?_
  show Q_rmNBL Z _ h0 n0 _ s₁.heap _
  rw [e0]
  exact ⟨rfl, N0, rfl⟩
def Q_rmNBF (Z : State) (n : Nat) (h0 : Heap) (n0 : Nat) (v : Option Value) (h : Heap) (L : List Loc) : Prop := ∃ (b : Addr) (kb : ClassId), v = some (.ref b) ∧ Fr n0 L ∧ Ext h0 h ∧ h0.size ≤ b ∧ Arv Z h b kb .byte (Int32.ofNat (2 * n)) [] (.int 0) ∧ Exa Z h b "[B"
theorem rmNBF (l : Launch) (Z : State) (a0 : Array Value) (hw : HWt a0 Z) (ws : List Jvm.Cond) (n : Nat) (h0 : Heap) (n0 : Nat) (O : Old Z n0 h0) (hn : n ≤ 34) :
    Met l mY30 (Jvm.Cond.code mY30 jdk_52_method_2_code 1 (some (.array .byte)) :: ws) rz1_1_68_12 #[(.int (Int32.ofNat n))] Z h0 (Q_rmNBF Z n h0 n0) := by
  refine MetFree.of_bodySF (plainFor_of_name pn_47) hisR ?_
  intro p e s m args below meth c s₁ Bd hml0 hP hK
  obtain ⟨rfl, hZ, hh⟩ := hP
  have hx := Bd.exec
  have hby := Bd.bytes
  have hml : c.maxLocals = 1 := hml0
  have hown : s.vm.findClass "java/lang/StringUTF16" = some m.cls := findClass_of_methodNamed Bd.named
  have hlk : meth.locks = false := BodyLoose.notSynchronized Bd
  have X0 : Stand p l e rz1_1_68_12 s m #[(.int (Int32.ofNat n))] below meth c s₁ [] 0 0 := Stand.of_body Bd
  have e0 : s₁.heap = h0 := by rw [← hh, Bd.state]; rfl
  have N0 := Fr.nil n0
  have KK : Keep h0 h0 [] := Keep.refl h0 _
  show Go p e below s rz1_1_68_12.cells rz1_1_68_12.slots (Q_rmNBF Z n h0 n0) s₁ (entryFrame m #[(.int (Int32.ofNat n))] 1)
  refine Go.eq (ef_rmNBF m (Int32.ofNat n)) ?_
  show Go _ _ _ _ _ _ _  s₁ (mkF m 0 #[vI (Int32.ofNat n)] [])
  refine Go.st (fun _ => XS.iloadN X0.here hx rfl (hb hby (dq dz47 0 0 rfl)) rfl) ?_
  show Go _ _ _ _ _ _ _  s₁ (mkF m 1 #[vI (Int32.ofNat n)] [(.int (Int32.ofNat n))])
  refine Go.pureS (w := (some (.int (Int32.ofNat (2 * n))))) (rest := []) (pc' := 4) (Jvm.LawKit.callS X0 hx (y := mY29) hown (mvT hZ (hwi hw 229 rfl)) (mvT hZ (hwi hw 230 rfl)) (mvT hZ (hwi hw 21 rfl)) (mvT hZ (hwi hw 231 rfl)) (by decide) (backOf (W := 0) (rmNBL l Z a0 hw [] n h0 n0 O (by omega)) hZ (hwi hw 231 rfl) (hwi hw 21 rfl) (by decide) (by decide)) (g := (mkF m 1 #[vI (Int32.ofNat n)] [(.int (Int32.ofNat n))])) rfl (by rw [hml]; rfl) (argsL := [(.int (Int32.ofNat n))]) (rest := []) (lenOf pd__I_I rfl) rfl (by show 2 * 0 + _ ≤ _; exact Nat.le_of_eq rfl) (hb hby (dq dz47 1 1 rfl)) (fun _ _ => ⟨rfl, e0, (by decide : 0 + 0 ≤ _), (by decide : 0 + 0 ≤ _)⟩)) (fun _ _ _ q => q) N0 (fun T1 L1 X1 e1q N1 => ?_)
  show Go _ _ _ _ _ _ _  T1 (mkF m 4 #[vI (Int32.ofNat n)] [(.int (Int32.ofNat (2 * n)))])
  obtain ⟨T2, h2, k2, X2, e2, E2, A2, B2, st2⟩ := newPE X1 hx hZ (hwi hw 23 rfl) e1q (g := (mkF m 4 #[vI (Int32.ofNat n)] [(.int (Int32.ofNat (2 * n)))])) rfl (hb hby (dq dz47 2 4 rfl)) rfl (own_onn (by omega)) (cap := 68) (by rw [own_ocl (by omega)]; omega) (by decide) (by decide) (by decide) (ad := "[B") (by decide +kernel)
  obtain ⟨b2, g2⟩ : ∃ z, z = h0.size := ⟨_, rfl⟩
  rw [← g2] at A2 B2 st2
  refine Go.st st2 ?_
  have g_b2 : n0 ≤ b2 := by rw [g2]; exact own_le O
  have sz_b2 : h0.size ≤ b2 := by rw [g2]; exact KK.1
  have O := O.ext E2
  have KK := KK.ext E2
  have E_b2 := B2
  have V_b2 := Arv.new A2 (own_onn (by omega))
  show Go _ _ _ _ _ _ _  T2 (mkF m 6 #[vI (Int32.ofNat n)] [(.ref b2)])
  refine Go.retR X2 hlk hx Bd.returns rfl rfl rfl (hb hby (dq dz47 3 6 rfl)) (by decide) (by decide) ?_
  show Q_rmNBF Z _ h0 n0 _ T2.heap _
  rw [e2]
  exact ⟨_, _, rfl, N1, own_ext0 KK, sz_b2, V_b2, E_b2⟩
def Q_rmTBs (Z : State) (a1 : Addr) (kc : ClassId) (cs : List Int32) (h0 : Heap) (n0 : Nat) (v : Option Value) (h : Heap) (L : List Loc) : Prop := ∃ (b : Addr) (kb : ClassId), v = some (.ref b) ∧ Fr n0 L ∧ Ext h0 h ∧ h0.size ≤ b ∧ Arv Z h b kb .byte (Int32.ofNat (2 * cs.length)) ((own_ub cs).map Value.int) (.int 0)
theorem rmTBs (l : Launch) (Z : State) (a0 : Array Value) (hw : HWt a0 Z) (ws : List Jvm.Cond) (a1 : Addr) (kc : ClassId) (cs : List Int32) (h0 : Heap) (n0 : Nat) (O : Old Z n0 h0) (S_ad : Sta Z Z.heap "java/lang/StringUTF16" "$assertionsDisabled" "Z" (.int 1)) (S_hi : Sta Z Z.heap "java/lang/StringUTF16" "HI_BYTE_SHIFT" "I" (.int 0)) (S_lo : Sta Z Z.heap "java/lang/StringUTF16" "LO_BYTE_SHIFT" "I" (.int 8)) (A_a1 : Arv Z h0 a1 kc .char (Int32.ofNat cs.length) (cs.map Value.int) (.int 0)) (hn : cs.length ≤ 34) :
    Met l mY31 (Jvm.Cond.code mY31 jdk_52_method_14_code 5 (some (.array .byte)) :: ws) rz2_1_68_24 #[(.ref a1), (.int (0 : Int32)), (.int (Int32.ofNat cs.length))] Z h0 (Q_rmTBs Z a1 kc cs h0 n0) := by
  refine MetFree.of_bodySF (plainFor_of_name pn_46) hisR ?_
  intro p e s m args below meth c s₁ Bd hml0 hP hK
  obtain ⟨rfl, hZ, hh⟩ := hP
  have hx := Bd.exec
  have hby := Bd.bytes
  have hml : c.maxLocals = 5 := hml0
  have hown : s.vm.findClass "java/lang/StringUTF16" = some m.cls := findClass_of_methodNamed Bd.named
  have hlk : meth.locks = false := BodyLoose.notSynchronized Bd
  have X0 : Stand p l e rz2_1_68_24 s m #[(.ref a1), (.int (0 : Int32)), (.int (Int32.ofNat cs.length))] below meth c s₁ [] 0 0 := Stand.of_body Bd
  have e0 : s₁.heap = h0 := by rw [← hh, Bd.state]; rfl
  have N0 := Fr.nil n0
  have KK : Keep h0 h0 [] := Keep.refl h0 _
  show Go p e below s rz2_1_68_24.cells rz2_1_68_24.slots (Q_rmTBs Z a1 kc cs h0 n0) s₁ (entryFrame m #[(.ref a1), (.int (0 : Int32)), (.int (Int32.ofNat cs.length))] 5)
  refine Go.eq (ef_rmTBs m a1 (0 : Int32) (Int32.ofNat cs.length)) ?_
  show Go _ _ _ _ _ _ _  s₁ (mkF m 0 #[vR a1, vI (0 : Int32), vI (Int32.ofNat cs.length), uS, uS] [])
  refine Go.st (fun _ => XS.iloadN X0.here hx rfl (hb hby (dq dz46 0 0 rfl)) rfl) ?_
  show Go _ _ _ _ _ _ _  s₁ (mkF m 1 #[vR a1, vI (0 : Int32), vI (Int32.ofNat cs.length), uS, uS] [(.int (Int32.ofNat cs.length))])
  obtain ⟨_, _, ⟨T1, L1, k1, n1⟩, -, X1, ⟨Lc1, hQ1, l1, y1, z1⟩, st1⟩ := Jvm.LawKit.callS X0 hx (y := mY30) hown (mvT hZ (hwi hw 226 rfl)) (mvT hZ (hwi hw 227 rfl)) (mvT hZ (hwi hw 21 rfl)) (mvT hZ (hwi hw 228 rfl)) (by decide) (backOf (W := 0) (rmNBF l Z a0 hw [] cs.length h0 n0 O hn) hZ (hwi hw 228 rfl) (hwi hw 21 rfl) (by decide) (by decide)) (g := (mkF m 1 #[vR a1, vI (0 : Int32), vI (Int32.ofNat cs.length), uS, uS] [(.int (Int32.ofNat cs.length))])) rfl (by rw [hml]; rfl) (argsL := [(.int (Int32.ofNat cs.length))]) (rest := []) (lenOf pd__I__B rfl) rfl (by show 2 * 0 + _ ≤ _; exact Nat.le_of_eq rfl) (hb hby (dq dz46 1 1 rfl)) (fun _ _ => ⟨rfl, e0, (by decide : 0 + 1 ≤ _), (by decide : 0 + 68 ≤ _)⟩)
  dsimp only [Pt.U, Pt.locs, Pt.cells, Pt.slots] at X1 l1 y1 z1 st1 hQ1
  rw [l1, y1, z1] at X1
  have X1 : Stand p l e _ _ m _ below meth c T1 _ 1 68 := X1
  obtain ⟨t1, kt1, rfl, N1q, E1q, lt1, Vt1, Xt1⟩ := hQ1
  have N1 := Fr.app N0 N1q
  refine Go.st st1 ?_
  have g_t1 : n0 ≤ t1 := Nat.le_trans (own_le O) lt1
  have sz_t1 : h0.size ≤ t1 := Nat.le_trans KK.1 lt1
  have ne_a1_t1 : a1 ≠ t1 := Nat.ne_of_lt (Nat.lt_of_lt_of_le A_a1.lt lt1)
  have E1 := E1q
  have A_a1 := A_a1.ext E1
  have O := O.ext E1
  have KK := KK.ext E1
  show Go _ _ _ _ _ _ _  T1 (mkF m 4 #[vR a1, vI (0 : Int32), vI (Int32.ofNat cs.length), uS, uS] [(.ref t1)])
  refine Go.st (fun _ => XS.astoreN X1.here hx rfl (hb hby (dq dz46 2 4 rfl)) rfl rfl (l' := #[vR a1, vI (0 : Int32), vI (Int32.ofNat cs.length), vR t1, uS]) rfl) ?_
  refine Go.st (fun _ => XS.iconst X1.here hx rfl (hb hby (dq dz46 3 5 rfl))) ?_
  refine Go.st (fun _ => XS.istore X1.here hx rfl (hb hby (dq dz46 4 6 rfl)) rfl (l' := #[vR a1, vI (0 : Int32), vI (Int32.ofNat cs.length), vR t1, vI (0 : Int32)]) rfl) ?_
  have loop : ∀ (k9 : Nat) (T9 : State) (h9 : Heap) (Lz : List Loc) (i : Nat), cs.length - i = k9 → Stand p l e rz2_1_68_24 s m #[(.ref a1), (.int (0 : Int32)), (.int (Int32.ofNat cs.length))] below meth c T9 Lz 1 68 → T9.heap = h9 → Old Z n0 h9 → Fr n0 Lz → Keep h0 h9 [] → (Arv Z h9 a1 kc .char (Int32.ofNat cs.length) (cs.map Value.int) (.int 0)) → (Arv Z h9 t1 kt1 .byte (Int32.ofNat (2 * cs.length)) ((own_ub (cs.take i)).map Value.int) (.int 0)) → (i ≤ cs.length) → Go p e below s rz2_1_68_24.cells rz2_1_68_24.slots (Q_rmTBs Z a1 kc cs h0 n0) T9 (mkF m 8 #[vR a1, vI (Int32.ofNat i), vI (Int32.ofNat cs.length), vR t1, vI (Int32.ofNat i)] []) := by
    intro k9
    induction k9 with
    | zero =>
      intro T9 h9 Lz i hk9 X9 e9 O N9 KK A_a1 A_b hi
      refine Go.st (fun _ => XS.iload X9.here hx rfl (hb hby (dq dz46 5 8 rfl)) rfl) ?_
      refine Go.st (fun _ => XS.iloadN X9.here hx rfl (hb hby (dq dz46 6 10 rfl)) rfl) ?_
      show Go _ _ _ _ _ _ _  T9 (mkF m 11 #[vR a1, vI (Int32.ofNat i), vI (Int32.ofNat cs.length), vR t1, vI (Int32.ofNat i)] [(.int (Int32.ofNat cs.length)), (.int (Int32.ofNat i))])
      refine Go.st (fun _ => XS.icmpYes X9.here hx rfl (pc0 := 11) (pc' := 32) rfl (hb hby (dq dz46 7 11 rfl)) rfl (flt (fun q => absurd ((own_olt (by omega) (by omega)).mp q) (by omega) : ¬ ((Int32.ofNat i) < (Int32.ofNat cs.length)))).2.1 (by decide) (by decide)) ?_
      show Go _ _ _ _ _ _ _  T9 (mkF m 32 #[vR a1, vI (Int32.ofNat i), vI (Int32.ofNat cs.length), vR t1, vI (Int32.ofNat i)] [])
      refine Go.st (fun _ => XS.aloadN X9.here hx rfl (hb hby (dq dz46 8 32 rfl)) rfl rfl) ?_
      show Go _ _ _ _ _ _ _  T9 (mkF m 33 #[vR a1, vI (Int32.ofNat i), vI (Int32.ofNat cs.length), vR t1, vI (Int32.ofNat i)] [(.ref t1)])
      refine Go.retR X9 hlk hx Bd.returns rfl rfl rfl (hb hby (dq dz46 9 33 rfl)) (by decide) (by decide) ?_
      show Q_rmTBs Z _ _ _ h0 n0 _ T9.heap _
      rw [e9]
      have q : i = cs.length := by omega
      rw [q, List.take_length] at A_b
      exact ⟨_, _, rfl, N9, own_ext0 KK, sz_t1, A_b⟩
    | succ k9 ih =>
      intro T9 h9 Lz i hk9 X9 e9 O N9 KK A_a1 A_b hi
      refine Go.st (fun _ => XS.iload X9.here hx rfl (hb hby (dq dz46 5 8 rfl)) rfl) ?_
      refine Go.st (fun _ => XS.iloadN X9.here hx rfl (hb hby (dq dz46 6 10 rfl)) rfl) ?_
      show Go _ _ _ _ _ _ _  T9 (mkF m 11 #[vR a1, vI (Int32.ofNat i), vI (Int32.ofNat cs.length), vR t1, vI (Int32.ofNat i)] [(.int (Int32.ofNat cs.length)), (.int (Int32.ofNat i))])
      refine Go.st (fun _ => XS.icmpNo X9.here hx rfl (hb hby (dq dz46 7 11 rfl)) rfl (tlt ((own_olt (by omega) (by omega)).mpr (by omega) : (Int32.ofNat i) < (Int32.ofNat cs.length))).2.1) ?_
      show Go _ _ _ _ _ _ _  T9 (mkF m 14 #[vR a1, vI (Int32.ofNat i), vI (Int32.ofNat cs.length), vR t1, vI (Int32.ofNat i)] [])
      refine Go.st (fun _ => XS.aloadN X9.here hx rfl (hb hby (dq dz46 10 14 rfl)) rfl rfl) ?_
      refine Go.st (fun _ => XS.iload X9.here hx rfl (hb hby (dq dz46 11 15 rfl)) rfl) ?_
      refine Go.st (fun _ => XS.aloadN X9.here hx rfl (hb hby (dq dz46 12 17 rfl)) rfl rfl) ?_
      refine Go.st (fun _ => XS.iloadN X9.here hx rfl (hb hby (dq dz46 13 18 rfl)) rfl) ?_
      show Go _ _ _ _ _ _ _  T9 (mkF m 19 #[vR a1, vI (Int32.ofNat i), vI (Int32.ofNat cs.length), vR t1, vI (Int32.ofNat i)] [(.int (Int32.ofNat i)), (.ref a1), (.int (Int32.ofNat i)), (.ref t1)])
      obtain ⟨cl2, Ar2, q2, S2, M2, Hh2, G2⟩ := id A_a1
      refine Go.st (X9.caload hx (j := (Int32.ofNat i)) (v := (.int (cs.getD i 0))) (by rw [e9]; exact Ar2.1) (State.isArrayOf_alike hZ.alike Ar2.2.1) Ar2.2.2 (inb_of S2 ⟨own_onn (by omega), (own_olt (by omega) (by omega)).mpr (by omega)⟩) (Hh2.at (inb_of S2 ⟨own_onn (by omega), (own_olt (by omega) (by omega)).mpr (by omega)⟩) (by rw [own_ocl (by omega)]; exact own_gm cs i)) (g := (mkF m 19 #[vR a1, vI (Int32.ofNat i), vI (Int32.ofNat cs.length), vR t1, vI (Int32.ofNat i)] [(.int (Int32.ofNat i)), (.ref a1), (.int (Int32.ofNat i)), (.ref t1)])) rfl rfl (hb hby (dq dz46 14 19 rfl))) ?_
      show Go _ _ _ _ _ _ _  T9 (mkF m 20 #[vR a1, vI (Int32.ofNat i), vI (Int32.ofNat cs.length), vR t1, vI (Int32.ofNat i)] [(.int (cs.getD i 0)), (.int (Int32.ofNat i)), (.ref t1)])
      obtain ⟨_, _, ⟨T3, L3, k3, n3⟩, -, X3, ⟨Lc3, hQ3, l3, y3, z3⟩, st3⟩ := Jvm.LawKit.callS X9 hx (y := mY28) hown (mvT hZ (hwi hw 233 rfl)) (mvT hZ (hwi hw 234 rfl)) (mvT hZ (hwi hw 21 rfl)) (mvT hZ (hwi hw 235 rfl)) (by decide) (backOf (W := 0) (rmPutC l Z a0 hw [] t1 (cs.getD i 0) i kt1 (2 * cs.length) ((own_ub (cs.take i)).map Value.int) h9 n0 O S_ad S_hi S_lo A_b (own_tkl (by omega)) (by omega) (by omega) g_t1) hZ (hwi hw 235 rfl) (hwi hw 21 rfl) (by decide) (by decide)) (g := (mkF m 20 #[vR a1, vI (Int32.ofNat i), vI (Int32.ofNat cs.length), vR t1, vI (Int32.ofNat i)] [(.int (cs.getD i 0)), (.int (Int32.ofNat i)), (.ref t1)])) rfl (by rw [hml]; rfl) (argsL := [(.ref t1), (.int (Int32.ofNat i)), (.int (cs.getD i 0))]) (rest := []) (lenOf pd___BII_V rfl) rfl (by show 2 * 0 + _ ≤ _; exact Nat.le_of_eq rfl) (hb hby (dq dz46 15 20 rfl)) (fun _ _ => ⟨rfl, e9, (by decide : 1 + 0 ≤ _), (by decide : 68 + 0 ≤ _)⟩)
      dsimp only [Pt.U, Pt.locs, Pt.cells, Pt.slots] at X3 l3 y3 z3 st3 hQ3
      rw [l3, y3, z3] at X3
      have X3 : Stand p l e _ _ m _ below meth c T3 _ 1 68 := X3
      obtain ⟨rfl, N3q, K3q, Pq3⟩ := hQ3
      have N3 := Fr.app N9 N3q
      refine Go.st st3 ?_
      have A_a1 := A_a1.keep K3q (ninS ne_a1_t1 nin0)
      have O := O.keep K3q (allS g_t1 all0)
      have KK := KK.trans K3q (allS (Or.inr sz_t1) all0)
      rw [own_tku (by omega)] at Pq3
      show Go _ _ _ _ _ _ _  T3 (mkF m 23 #[vR a1, vI (Int32.ofNat i), vI (Int32.ofNat cs.length), vR t1, vI (Int32.ofNat i)] [])
      refine Go.st (fun _ => XS.iinc X3.here hx rfl (hb hby (dq dz46 16 23 rfl)) rfl (l' := #[vR a1, vI ((Int32.ofNat i) + (1 : Int32)), vI (Int32.ofNat cs.length), vR t1, vI (Int32.ofNat i)]) rfl) ?_
      show Go _ _ _ _ _ _ _  T3 (mkF m 26 #[vR a1, vI ((Int32.ofNat i) + (1 : Int32)), vI (Int32.ofNat cs.length), vR t1, vI (Int32.ofNat i)] [])
      rw [own_1inc]
      show Go _ _ _ _ _ _ _  T3 (mkF m 26 #[vR a1, vI (Int32.ofNat (i + 1)), vI (Int32.ofNat cs.length), vR t1, vI (Int32.ofNat i)] [])
      refine Go.st (fun _ => XS.iinc X3.here hx rfl (hb hby (dq dz46 17 26 rfl)) rfl (l' := #[vR a1, vI (Int32.ofNat (i + 1)), vI (Int32.ofNat cs.length), vR t1, vI ((Int32.ofNat i) + (1 : Int32))]) rfl) ?_
      show Go _ _ _ _ _ _ _  T3 (mkF m 29 #[vR a1, vI (Int32.ofNat (i + 1)), vI (Int32.ofNat cs.length), vR t1, vI ((Int32.ofNat i) + (1 : Int32))] [])
      rw [own_1inc]
      show Go _ _ _ _ _ _ _  T3 (mkF m 29 #[vR a1, vI (Int32.ofNat (i + 1)), vI (Int32.ofNat cs.length), vR t1, vI (Int32.ofNat (i + 1))] [])
      refine Go.st (fun _ => XS.goto X3.here hx rfl (pc0 := 29) (pc' := 8) rfl (hb hby (dq dz46 18 29 rfl)) (by decide) (by decide)) ?_
      show Go _ _ _ _ _ _ _  T3 (mkF m 8 #[vR a1, vI (Int32.ofNat (i + 1)), vI (Int32.ofNat cs.length), vR t1, vI (Int32.ofNat (i + 1))] [])
      exact ih T3 T3.heap _ (i + 1) (by omega) X3 rfl O N3 KK A_a1 Pq3 (by omega)
  show Go _ _ _ _ _ _ _  T1 (mkF m 8 #[vR a1, vI (0 : Int32), vI (Int32.ofNat cs.length), vR t1, vI (0 : Int32)] [])
  exact loop _ T1 T1.heap _ 0 rfl X1 rfl O N1 KK A_a1 Vt1 (Nat.zero_le _)
def Q_rmGetC (Z : State) (a1 : Addr) (kb : ClassId) (cs : List Int32) (i : Nat) (h0 : Heap) (n0 : Nat) (v : Option Value) (h : Heap) (L : List Loc) : Prop := v = some (.int (cs.getD i 0)) ∧ Fr n0 L ∧ h = h0
theorem rmGetC (l : Launch) (Z : State) (a0 : Array Value) (hw : HWt a0 Z) (ws : List Jvm.Cond) (a1 : Addr) (kb : ClassId) (cs : List Int32) (i : Nat) (h0 : Heap) (n0 : Nat) (O : Old Z n0 h0) (S_ad : Sta Z Z.heap "java/lang/StringUTF16" "$assertionsDisabled" "Z" (.int 1)) (S_hi : Sta Z Z.heap "java/lang/StringUTF16" "HI_BYTE_SHIFT" "I" (.int 0)) (S_lo : Sta Z Z.heap "java/lang/StringUTF16" "LO_BYTE_SHIFT" "I" (.int 8)) (A_a1 : Arv Z h0 a1 kb .byte (Int32.ofNat (2 * cs.length)) ((own_ub cs).map Value.int) (.int 0)) (hn : cs.length ≤ 34) (hi : i < cs.length) (hr : nar .char (cs.getD i 0) = cs.getD i 0) :
    Met l mY32 (Jvm.Cond.code mY32 jdk_52_method_5_code 2 (some .char) :: ws) rz0_0_0_0 #[(.ref a1), (.int (Int32.ofNat i))] Z h0 (Q_rmGetC Z a1 kb cs i h0 n0) := by
  refine MetFree.of_bodySF (plainFor_of_name pn_50) hisR ?_
  intro p e s m args below meth c s₁ Bd hml0 hP hK
  obtain ⟨rfl, hZ, hh⟩ := hP
  have hx := Bd.exec
  have hby := Bd.bytes
  have hml : c.maxLocals = 2 := hml0
  have hown : s.vm.findClass "java/lang/StringUTF16" = some m.cls := findClass_of_methodNamed Bd.named
  have hlk : meth.locks = false := BodyLoose.notSynchronized Bd
  have X0 : Stand p l e rz0_0_0_0 s m #[(.ref a1), (.int (Int32.ofNat i))] below meth c s₁ [] 0 0 := Stand.of_body Bd
  have e0 : s₁.heap = h0 := by rw [← hh, Bd.state]; rfl
  have N0 := Fr.nil n0
  show Go p e below s rz0_0_0_0.cells rz0_0_0_0.slots (Q_rmGetC Z a1 kb cs i h0 n0) s₁ (entryFrame m #[(.ref a1), (.int (Int32.ofNat i))] 2)
  refine Go.eq (ef_rmGetC m a1 (Int32.ofNat i)) ?_
  show Go _ _ _ _ _ _ _  s₁ (mkF m 0 #[vR a1, vI (Int32.ofNat i)] [])
  obtain ⟨T1, X1, e1, st1⟩ := getS2 X0 hx hZ hown (host := "") (Or.inl (hwi hw 236 rfl)) Via.refl e0 (S_ad.ext O.2) (g := (mkF m 0 #[vR a1, vI (Int32.ofNat i)] [])) rfl (hb hby (dq dz50 0 0 rfl))
  refine Go.st st1 ?_
  show Go _ _ _ _ _ _ _  T1 (mkF m 3 #[vR a1, vI (Int32.ofNat i)] [(.int (1 : Int32))])
  refine Go.st (fun _ => XS.ifYes X1.here hx rfl (pc0 := 3) (pc' := 28) rfl (hb hby (dq dz50 1 3 rfl)) rfl ((if0 _ _).trans (feq (by decide : ¬ ((1 : Int32) = (0 : Int32)))).2) (by decide) (by decide)) ?_
  show Go _ _ _ _ _ _ _  T1 (mkF m 28 #[vR a1, vI (Int32.ofNat i)] [])
  refine Go.st (fun _ => XS.iloadN X1.here hx rfl (hb hby (dq dz50 2 28 rfl)) rfl) ?_
  refine Go.st (fun _ => XS.iconst X1.here hx rfl (hb hby (dq dz50 3 29 rfl))) ?_
  refine Go.st (fun _ => XS.ishl X1.here hx rfl (hb hby (dq dz50 4 30 rfl)) rfl) ?_
  show Go _ _ _ _ _ _ _  T1 (mkF m 31 #[vR a1, vI (Int32.ofNat i)] [(.int ((Int32.ofNat i) <<< ((1 : Int32) &&& 31)))])
  rw [own_shl1 (by omega)]
  refine Go.st (fun _ => XS.istoreN X1.here hx rfl (hb hby (dq dz50 5 31 rfl)) rfl (l' := #[vR a1, vI (Int32.ofNat (2 * i))]) rfl) ?_
  refine Go.st (fun _ => XS.aloadN X1.here hx rfl (hb hby (dq dz50 6 32 rfl)) rfl rfl) ?_
  refine Go.st (fun _ => XS.iloadN X1.here hx rfl (hb hby (dq dz50 7 33 rfl)) rfl) ?_
  show Go _ _ _ _ _ _ _  T1 (mkF m 34 #[vR a1, vI (Int32.ofNat (2 * i))] [(.int (Int32.ofNat (2 * i))), (.ref a1)])
  refine Go.st (fun _ => XS.iinc X1.here hx rfl (hb hby (dq dz50 8 34 rfl)) rfl (l' := #[vR a1, vI ((Int32.ofNat (2 * i)) + (1 : Int32))]) rfl) ?_
  show Go _ _ _ _ _ _ _  T1 (mkF m 37 #[vR a1, vI ((Int32.ofNat (2 * i)) + (1 : Int32))] [(.int (Int32.ofNat (2 * i))), (.ref a1)])
  rw [own_1inc]
  show Go _ _ _ _ _ _ _  T1 (mkF m 37 #[vR a1, vI (Int32.ofNat ((2 * i) + 1))] [(.int (Int32.ofNat (2 * i))), (.ref a1)])
  obtain ⟨cl2, Ar2, q2, S2, M2, Hh2, G2⟩ := id A_a1
  refine Go.st (X1.baloadBytes hx (j := (Int32.ofNat (2 * i))) (v := (.int (own_lo (cs.getD i 0)))) (by rw [e1]; exact Ar2.1) (State.isArrayOf_alike hZ.alike Ar2.2.1) Ar2.2.2 (inb_of S2 ⟨own_onn (by omega), (own_olt (by omega) (by omega)).mpr (by omega)⟩) (Hh2.at (inb_of S2 ⟨own_onn (by omega), (own_olt (by omega) (by omega)).mpr (by omega)⟩) (by rw [own_ocl (by omega), own_gm, own_ublo cs i hi])) (g := (mkF m 37 #[vR a1, vI (Int32.ofNat ((2 * i) + 1))] [(.int (Int32.ofNat (2 * i))), (.ref a1)])) rfl rfl (hb hby (dq dz50 9 37 rfl))) ?_
  show Go _ _ _ _ _ _ _  T1 (mkF m 38 #[vR a1, vI (Int32.ofNat ((2 * i) + 1))] [(.int (own_lo (cs.getD i 0)))])
  refine Go.st (fun _ => XS.sipush X1.here hx rfl (hb hby (dq dz50 10 38 rfl))) ?_
  refine Go.st (fun _ => XS.iand X1.here hx rfl (hb hby (dq dz50 11 41 rfl)) rfl) ?_
  show Go _ _ _ _ _ _ _  T1 (mkF m 42 #[vR a1, vI (Int32.ofNat ((2 * i) + 1))] [(.int ((own_lo (cs.getD i 0)) &&& (255 : Int32)))])
  obtain ⟨T3, X3, e3, st3⟩ := getS2 X1 hx hZ hown (host := "") (Or.inl (hwi hw 237 rfl)) Via.refl e1 (S_hi.ext O.2) (g := (mkF m 42 #[vR a1, vI (Int32.ofNat ((2 * i) + 1))] [(.int ((own_lo (cs.getD i 0)) &&& (255 : Int32)))])) rfl (hb hby (dq dz50 12 42 rfl))
  refine Go.st st3 ?_
  show Go _ _ _ _ _ _ _  T3 (mkF m 45 #[vR a1, vI (Int32.ofNat ((2 * i) + 1))] [(.int (0 : Int32)), (.int ((own_lo (cs.getD i 0)) &&& (255 : Int32)))])
  refine Go.st (fun _ => XS.ishl X3.here hx rfl (hb hby (dq dz50 13 45 rfl)) rfl) ?_
  refine Go.st (fun _ => XS.aloadN X3.here hx rfl (hb hby (dq dz50 14 46 rfl)) rfl rfl) ?_
  refine Go.st (fun _ => XS.iloadN X3.here hx rfl (hb hby (dq dz50 15 47 rfl)) rfl) ?_
  show Go _ _ _ _ _ _ _  T3 (mkF m 48 #[vR a1, vI (Int32.ofNat ((2 * i) + 1))] [(.int (Int32.ofNat ((2 * i) + 1))), (.ref a1), (.int (((own_lo (cs.getD i 0)) &&& (255 : Int32)) <<< ((0 : Int32) &&& 31)))])
  obtain ⟨cl4, Ar4, q4, S4, M4, Hh4, G4⟩ := id A_a1
  refine Go.st (X3.baloadBytes hx (j := (Int32.ofNat ((2 * i) + 1))) (v := (.int (own_hi (cs.getD i 0)))) (by rw [e3]; exact Ar4.1) (State.isArrayOf_alike hZ.alike Ar4.2.1) Ar4.2.2 (inb_of S4 ⟨own_onn (by omega), (own_olt (by omega) (by omega)).mpr (by omega)⟩) (Hh4.at (inb_of S4 ⟨own_onn (by omega), (own_olt (by omega) (by omega)).mpr (by omega)⟩) (by rw [own_ocl (by omega), own_gm, own_ubhi cs i hi])) (g := (mkF m 48 #[vR a1, vI (Int32.ofNat ((2 * i) + 1))] [(.int (Int32.ofNat ((2 * i) + 1))), (.ref a1), (.int (((own_lo (cs.getD i 0)) &&& (255 : Int32)) <<< ((0 : Int32) &&& 31)))])) rfl rfl (hb hby (dq dz50 16 48 rfl))) ?_
  show Go _ _ _ _ _ _ _  T3 (mkF m 49 #[vR a1, vI (Int32.ofNat ((2 * i) + 1))] [(.int (own_hi (cs.getD i 0))), (.int (((own_lo (cs.getD i 0)) &&& (255 : Int32)) <<< ((0 : Int32) &&& 31)))])
  refine Go.st (fun _ => XS.sipush X3.here hx rfl (hb hby (dq dz50 17 49 rfl))) ?_
  refine Go.st (fun _ => XS.iand X3.here hx rfl (hb hby (dq dz50 18 52 rfl)) rfl) ?_
  show Go _ _ _ _ _ _ _  T3 (mkF m 53 #[vR a1, vI (Int32.ofNat ((2 * i) + 1))] [(.int ((own_hi (cs.getD i 0)) &&& (255 : Int32))), (.int (((own_lo (cs.getD i 0)) &&& (255 : Int32)) <<< ((0 : Int32) &&& 31)))])
  obtain ⟨T5, X5, e5, st5⟩ := getS2 X3 hx hZ hown (host := "") (Or.inl (hwi hw 238 rfl)) Via.refl e3 (S_lo.ext O.2) (g := (mkF m 53 #[vR a1, vI (Int32.ofNat ((2 * i) + 1))] [(.int ((own_hi (cs.getD i 0)) &&& (255 : Int32))), (.int (((own_lo (cs.getD i 0)) &&& (255 : Int32)) <<< ((0 : Int32) &&& 31)))])) rfl (hb hby (dq dz50 19 53 rfl))
  refine Go.st st5 ?_
  show Go _ _ _ _ _ _ _  T5 (mkF m 56 #[vR a1, vI (Int32.ofNat ((2 * i) + 1))] [(.int (8 : Int32)), (.int ((own_hi (cs.getD i 0)) &&& (255 : Int32))), (.int (((own_lo (cs.getD i 0)) &&& (255 : Int32)) <<< ((0 : Int32) &&& 31)))])
  refine Go.st (fun _ => XS.ishl X5.here hx rfl (hb hby (dq dz50 20 56 rfl)) rfl) ?_
  refine Go.st (fun _ => XS.ior X5.here hx rfl (hb hby (dq dz50 21 57 rfl)) rfl) ?_
  refine Go.st (fun _ => XS.i2c X5.here hx rfl (hb hby (dq dz50 22 58 rfl)) rfl) ?_
  show Go _ _ _ _ _ _ _  T5 (mkF m 59 #[vR a1, vI (Int32.ofNat ((2 * i) + 1))] [(.int (((((own_lo (cs.getD i 0)) &&& (255 : Int32)) <<< ((0 : Int32) &&& 31)) ||| (((own_hi (cs.getD i 0)) &&& (255 : Int32)) <<< ((8 : Int32) &&& 31))).toUInt32.toUInt16.toUInt32.toInt32))])
  refine Go.retN X5 hlk hx (t := .char) (z' := (cs.getD i 0)) Bd.returns (by simp) (hb hby (dq dz50 23 59 rfl)) (by decide) (by decide) ((own_nch16 (own_un _)).trans hr) ?_
  show Q_rmGetC Z _ _ _ _ h0 n0 _ T5.heap _
  rw [e5]
  exact ⟨rfl, N0, rfl⟩
def Q_rmC2 (Z : State) (a1 : Addr) (kc : ClassId) (cs : List Int32) (h0 : Heap) (n0 : Nat) (v : Option Value) (h : Heap) (L : List Loc) : Prop := ∃ (b : Addr) (kb : ClassId), v = some (.ref b) ∧ Fr n0 L ∧ Ext h0 h ∧ h0.size ≤ b ∧ Arv Z h b kb .byte (Int32.ofNat (own_by cs).length) ((own_by cs).map Value.int) (.int 0)
theorem rmC2 (l : Launch) (Z : State) (a0 : Array Value) (hw : HWt a0 Z) (ws : List Jvm.Cond) (a1 : Addr) (kc : ClassId) (cs : List Int32) (h0 : Heap) (n0 : Nat) (O : Old Z n0 h0) (S_ad : Sta Z Z.heap "java/lang/StringUTF16" "$assertionsDisabled" "Z" (.int 1)) (S_hi : Sta Z Z.heap "java/lang/StringUTF16" "HI_BYTE_SHIFT" "I" (.int 0)) (S_lo : Sta Z Z.heap "java/lang/StringUTF16" "LO_BYTE_SHIFT" "I" (.int 8)) (A_a1 : Arv Z h0 a1 kc .char (Int32.ofNat cs.length) (cs.map Value.int) (.int 0)) (hn : cs.length ≤ 34) (hr : ∀ j, j < cs.length → nar .char (cs.getD j 0) = cs.getD j 0) :
    Met l mY33 (Jvm.Cond.code mY33 jdk_52_method_16_code 6 (some (.array .byte)) :: ws) rz3_2_102_40 #[(.ref a1), (.int (0 : Int32)), (.int (Int32.ofNat cs.length))] Z h0 (Q_rmC2 Z a1 kc cs h0 n0) := by
  refine MetFree.of_bodySF (plainFor_of_name pn_5) hisR ?_
  intro p e s m args below meth c s₁ Bd hml0 hP hK
  obtain ⟨rfl, hZ, hh⟩ := hP
  have hx := Bd.exec
  have hby := Bd.bytes
  have hml : c.maxLocals = 6 := hml0
  have hown : s.vm.findClass "java/lang/StringUTF16" = some m.cls := findClass_of_methodNamed Bd.named
  have hlk : meth.locks = false := BodyLoose.notSynchronized Bd
  have X0 : Stand p l e rz3_2_102_40 s m #[(.ref a1), (.int (0 : Int32)), (.int (Int32.ofNat cs.length))] below meth c s₁ [] 0 0 := Stand.of_body Bd
  have e0 : s₁.heap = h0 := by rw [← hh, Bd.state]; rfl
  have N0 := Fr.nil n0
  have KK : Keep h0 h0 [] := Keep.refl h0 _
  show Go p e below s rz3_2_102_40.cells rz3_2_102_40.slots (Q_rmC2 Z a1 kc cs h0 n0) s₁ (entryFrame m #[(.ref a1), (.int (0 : Int32)), (.int (Int32.ofNat cs.length))] 6)
  refine Go.eq (ef_rmC2 m a1 (0 : Int32) (Int32.ofNat cs.length)) ?_
  show Go _ _ _ _ _ _ _  s₁ (mkF m 0 #[vR a1, vI (0 : Int32), vI (Int32.ofNat cs.length), uS, uS, uS] [])
  refine Go.st (fun _ => XS.iloadN X0.here hx rfl (hb hby (dq dz5 0 0 rfl)) rfl) ?_
  show Go _ _ _ _ _ _ _  s₁ (mkF m 1 #[vR a1, vI (0 : Int32), vI (Int32.ofNat cs.length), uS, uS, uS] [(.int (Int32.ofNat cs.length))])
  obtain ⟨T1, h1, k1, X1, e1, E1, A1, st1⟩ := newP X0 hx hZ (hwi hw 23 rfl) e0 (g := (mkF m 1 #[vR a1, vI (0 : Int32), vI (Int32.ofNat cs.length), uS, uS, uS] [(.int (Int32.ofNat cs.length))])) rfl (hb hby (dq dz5 1 1 rfl)) rfl (own_onn (by omega)) (cap := 34) (by rw [own_ocl (by omega)]; omega) (by decide) (by decide) (by decide)
  obtain ⟨b1, g1⟩ : ∃ z, z = h0.size := ⟨_, rfl⟩
  rw [← g1] at A1 st1
  refine Go.st st1 ?_
  have g_b1 : n0 ≤ b1 := by rw [g1]; exact own_le O
  have sz_b1 : h0.size ≤ b1 := by rw [g1]; exact KK.1
  have ne_a1_b1 : a1 ≠ b1 := Nat.ne_of_lt (by rw [g1]; exact A_a1.lt)
  have A_a1 := A_a1.ext E1
  have O := O.ext E1
  have KK := KK.ext E1
  have V_b1 := Arv.new A1 (own_onn (by omega))
  show Go _ _ _ _ _ _ _  T1 (mkF m 3 #[vR a1, vI (0 : Int32), vI (Int32.ofNat cs.length), uS, uS, uS] [(.ref b1)])
  refine Go.st (fun _ => XS.astoreN X1.here hx rfl (hb hby (dq dz5 2 3 rfl)) rfl rfl (l' := #[vR a1, vI (0 : Int32), vI (Int32.ofNat cs.length), vR b1, uS, uS]) rfl) ?_
  refine Go.st (fun _ => XS.aloadN X1.here hx rfl (hb hby (dq dz5 3 4 rfl)) rfl rfl) ?_
  refine Go.st (fun _ => XS.iloadN X1.here hx rfl (hb hby (dq dz5 4 5 rfl)) rfl) ?_
  refine Go.st (fun _ => XS.aloadN X1.here hx rfl (hb hby (dq dz5 5 6 rfl)) rfl rfl) ?_
  refine Go.st (fun _ => XS.iconst X1.here hx rfl (hb hby (dq dz5 6 7 rfl))) ?_
  refine Go.st (fun _ => XS.iloadN X1.here hx rfl (hb hby (dq dz5 7 8 rfl)) rfl) ?_
  show Go _ _ _ _ _ _ _  T1 (mkF m 9 #[vR a1, vI (0 : Int32), vI (Int32.ofNat cs.length), vR b1, uS, uS] [(.int (Int32.ofNat cs.length)), (.int (0 : Int32)), (.ref b1), (.int (0 : Int32)), (.ref a1)])
  obtain ⟨_, _, ⟨T2, L2, k2, n2⟩, -, X2, ⟨Lc2, hQ2, l2, y2, z2⟩, st2⟩ := Jvm.LawKit.callS X1 hx (y := mY27) hown (mvT hZ (hwi hw 24 rfl)) (mvT hZ (hwi hw 25 rfl)) (mvT hZ (hwi hw 21 rfl)) (mvT hZ (hwi hw 26 rfl)) (by decide) (backOf (W := 0) (rmCmp l Z a0 hw [] a1 b1 kc cs k1 h1 n0 O A_a1 hn V_b1 g_b1 ne_a1_b1) hZ (hwi hw 26 rfl) (hwi hw 21 rfl) (by decide) (by decide)) (g := (mkF m 9 #[vR a1, vI (0 : Int32), vI (Int32.ofNat cs.length), vR b1, uS, uS] [(.int (Int32.ofNat cs.length)), (.int (0 : Int32)), (.ref b1), (.int (0 : Int32)), (.ref a1)])) rfl (by rw [hml]; rfl) (argsL := [(.ref a1), (.int (0 : Int32)), (.ref b1), (.int (0 : Int32)), (.int (Int32.ofNat cs.length))]) (rest := []) (lenOf pd___CI_BII_I rfl) rfl (by show 2 * 0 + _ ≤ _; exact Nat.le_of_eq rfl) (hb hby (dq dz5 8 9 rfl)) (fun _ _ => ⟨rfl, e1, (by decide : 1 + 0 ≤ _), (by decide : 34 + 0 ≤ _)⟩)
  dsimp only [Pt.U, Pt.locs, Pt.cells, Pt.slots] at X2 l2 y2 z2 st2 hQ2
  rw [l2, y2, z2] at X2
  have X2 : Stand p l e _ _ m _ below meth c T2 _ 1 34 := X2
  obtain ⟨i2, rfl, N2q, K2q, D2⟩ := hQ2
  have N2 := Fr.app N0 N2q
  refine Go.st st2 ?_
  have A_a1 := A_a1.keep K2q (ninS ne_a1_b1 nin0)
  have O := O.keep K2q (allS g_b1 all0)
  have KK := KK.trans K2q (allS (Or.inr sz_b1) all0)
  show Go _ _ _ _ _ _ _  T2 (mkF m 12 #[vR a1, vI (0 : Int32), vI (Int32.ofNat cs.length), vR b1, uS, uS] [(.int (Int32.ofNat i2))])
  refine Go.st (fun _ => XS.istore X2.here hx rfl (hb hby (dq dz5 9 12 rfl)) rfl (l' := #[vR a1, vI (0 : Int32), vI (Int32.ofNat cs.length), vR b1, vI (Int32.ofNat i2), uS]) rfl) ?_
  refine Go.st (fun _ => XS.iload X2.here hx rfl (hb hby (dq dz5 10 14 rfl)) rfl) ?_
  refine Go.st (fun _ => XS.iloadN X2.here hx rfl (hb hby (dq dz5 11 16 rfl)) rfl) ?_
  have li2 : i2 ≤ cs.length := D2.elim (fun q => Nat.le_of_lt q.1) (fun q => Nat.le_of_eq q.1)
  show Go _ _ _ _ _ _ _  T2 (mkF m 17 #[vR a1, vI (0 : Int32), vI (Int32.ofNat cs.length), vR b1, vI (Int32.ofNat i2), uS] [(.int (Int32.ofNat cs.length)), (.int (Int32.ofNat i2))])
  by_cases c17_3 : (Int32.ofNat i2) = (Int32.ofNat cs.length)
  · refine Go.st (fun _ => XS.icmpYes X2.here hx rfl (pc0 := 17) (pc' := 57) rfl (hb hby (dq dz5 12 17 rfl)) rfl (teq c17_3).1 (by decide) (by decide)) ?_
    show Go _ _ _ _ _ _ _  T2 (mkF m 57 #[vR a1, vI (0 : Int32), vI (Int32.ofNat cs.length), vR b1, vI (Int32.ofNat i2), uS] [])
    refine Go.st (fun _ => XS.aloadN X2.here hx rfl (hb hby (dq dz5 13 57 rfl)) rfl rfl) ?_
    show Go _ _ _ _ _ _ _  T2 (mkF m 58 #[vR a1, vI (0 : Int32), vI (Int32.ofNat cs.length), vR b1, vI (Int32.ofNat i2), uS] [(.ref b1)])
    refine Go.retR X2 hlk hx Bd.returns rfl rfl rfl (hb hby (dq dz5 14 58 rfl)) (by decide) (by decide) ?_
    show Q_rmC2 Z _ _ _ h0 n0 _ T2.heap _
    obtain ⟨d1, d2, d3⟩ := D2.resolve_left (fun q => absurd ((own_oeq (by omega) (by omega)).mp c17_3) (by omega))
    exact ⟨_, _, rfl, N2, own_ext0 KK, sz_b1, (by rw [own_byT (own_l1t d3), List.length_map]; exact d2)⟩
  · refine Go.st (fun _ => XS.icmpNo X2.here hx rfl (hb hby (dq dz5 12 17 rfl)) rfl (feq c17_3).1) ?_
    show Go _ _ _ _ _ _ _  T2 (mkF m 20 #[vR a1, vI (0 : Int32), vI (Int32.ofNat cs.length), vR b1, vI (Int32.ofNat i2), uS] [])
    refine Go.st (fun _ => XS.aloadN X2.here hx rfl (hb hby (dq dz5 15 20 rfl)) rfl rfl) ?_
    refine Go.st (fun _ => XS.iloadN X2.here hx rfl (hb hby (dq dz5 16 21 rfl)) rfl) ?_
    refine Go.st (fun _ => XS.iloadN X2.here hx rfl (hb hby (dq dz5 17 22 rfl)) rfl) ?_
    show Go _ _ _ _ _ _ _  T2 (mkF m 23 #[vR a1, vI (0 : Int32), vI (Int32.ofNat cs.length), vR b1, vI (Int32.ofNat i2), uS] [(.int (Int32.ofNat cs.length)), (.int (0 : Int32)), (.ref a1)])
    obtain ⟨_, _, ⟨T4, L4, k4, n4⟩, -, X4, ⟨Lc4, hQ4, l4, y4, z4⟩, st4⟩ := Jvm.LawKit.callS X2 hx (y := mY31) hown (mvT hZ (hwi hw 223 rfl)) (mvT hZ (hwi hw 224 rfl)) (mvT hZ (hwi hw 21 rfl)) (mvT hZ (hwi hw 225 rfl)) (by decide) (backOf (W := 0) (rmTBs l Z a0 hw [] a1 kc cs T2.heap n0 O S_ad S_hi S_lo A_a1 hn) hZ (hwi hw 225 rfl) (hwi hw 21 rfl) (by decide) (by decide)) (g := (mkF m 23 #[vR a1, vI (0 : Int32), vI (Int32.ofNat cs.length), vR b1, vI (Int32.ofNat i2), uS] [(.int (Int32.ofNat cs.length)), (.int (0 : Int32)), (.ref a1)])) rfl (by rw [hml]; rfl) (argsL := [(.ref a1), (.int (0 : Int32)), (.int (Int32.ofNat cs.length))]) (rest := []) (lenOf pd___CII__B rfl) rfl (by show 2 * 0 + _ ≤ _; exact Nat.le_of_eq rfl) (hb hby (dq dz5 18 23 rfl)) (fun _ _ => ⟨rfl, rfl, (by decide : 1 + 1 ≤ _), (by decide : 34 + 68 ≤ _)⟩)
    dsimp only [Pt.U, Pt.locs, Pt.cells, Pt.slots] at X4 l4 y4 z4 st4 hQ4
    rw [l4, y4, z4] at X4
    have X4 : Stand p l e _ _ m _ below meth c T4 _ 2 102 := X4
    obtain ⟨t4, kt4, rfl, N4q, E4q, lt4, Vt4⟩ := hQ4
    have N4 := Fr.app N2 N4q
    refine Go.st st4 ?_
    have g_t4 : n0 ≤ t4 := Nat.le_trans (own_le O) lt4
    have sz_t4 : h0.size ≤ t4 := Nat.le_trans KK.1 lt4
    have ne_a1_t4 : a1 ≠ t4 := Nat.ne_of_lt (Nat.lt_of_lt_of_le A_a1.lt lt4)
    have E4 := E4q
    have A_a1 := A_a1.ext E4
    have O := O.ext E4
    have KK := KK.ext E4
    show Go _ _ _ _ _ _ _  T4 (mkF m 26 #[vR a1, vI (0 : Int32), vI (Int32.ofNat cs.length), vR b1, vI (Int32.ofNat i2), uS] [(.ref t4)])
    refine Go.st (fun _ => XS.astore X4.here hx rfl (hb hby (dq dz5 19 26 rfl)) rfl rfl (l' := #[vR a1, vI (0 : Int32), vI (Int32.ofNat cs.length), vR b1, vI (Int32.ofNat i2), vR t4]) rfl) ?_
    refine Go.st (fun _ => XS.aload X4.here hx rfl (hb hby (dq dz5 20 28 rfl)) rfl rfl) ?_
    refine Go.st (fun _ => XS.iload X4.here hx rfl (hb hby (dq dz5 21 30 rfl)) rfl) ?_
    show Go _ _ _ _ _ _ _  T4 (mkF m 32 #[vR a1, vI (0 : Int32), vI (Int32.ofNat cs.length), vR b1, vI (Int32.ofNat i2), vR t4] [(.int (Int32.ofNat i2)), (.ref t4)])
    obtain ⟨ci1, ci2⟩ := D2.resolve_right (fun q => c17_3 (congrArg Int32.ofNat q.1))
    refine Go.pureS (w := (some (.int (cs.getD i2 0)))) (rest := []) (pc' := 35) (Jvm.LawKit.callS X4 hx (y := mY32) hown (mvT hZ (hwi hw 239 rfl)) (mvT hZ (hwi hw 240 rfl)) (mvT hZ (hwi hw 21 rfl)) (mvT hZ (hwi hw 241 rfl)) (by decide) (backOf (W := 0) (rmGetC l Z a0 hw [] t4 kt4 cs i2 T4.heap n0 O S_ad S_hi S_lo Vt4 hn ci1 (hr _ ci1)) hZ (hwi hw 241 rfl) (hwi hw 21 rfl) (by decide) (by decide)) (g := (mkF m 32 #[vR a1, vI (0 : Int32), vI (Int32.ofNat cs.length), vR b1, vI (Int32.ofNat i2), vR t4] [(.int (Int32.ofNat i2)), (.ref t4)])) rfl (by rw [hml]; rfl) (argsL := [(.ref t4), (.int (Int32.ofNat i2))]) (rest := []) (lenOf pd___BI_C rfl) rfl (by show 2 * 0 + _ ≤ _; exact Nat.le_of_eq rfl) (hb hby (dq dz5 22 32 rfl)) (fun _ _ => ⟨rfl, rfl, (by decide : 2 + 0 ≤ _), (by decide : 102 + 0 ≤ _)⟩)) (fun _ _ _ q => q) N4 (fun T5 L5 X5 e5q N5 => ?_)
    show Go _ _ _ _ _ _ _  T5 (mkF m 35 #[vR a1, vI (0 : Int32), vI (Int32.ofNat cs.length), vR b1, vI (Int32.ofNat i2), vR t4] [(.int (cs.getD i2 0))])
    refine Go.st (fun _ => XS.sipush X5.here hx rfl (hb hby (dq dz5 23 35 rfl))) ?_
    show Go _ _ _ _ _ _ _  T5 (mkF m 38 #[vR a1, vI (0 : Int32), vI (Int32.ofNat cs.length), vR b1, vI (Int32.ofNat i2), vR t4] [(.int (255 : Int32)), (.int (cs.getD i2 0))])
    refine Go.st (fun _ => XS.icmpYes X5.here hx rfl (pc0 := 38) (pc' := 54) rfl (hb hby (dq dz5 24 38 rfl)) rfl (tlt (ci2 : (255 : Int32) < (cs.getD i2 0))).2.2.1 (by decide) (by decide)) ?_
    show Go _ _ _ _ _ _ _  T5 (mkF m 54 #[vR a1, vI (0 : Int32), vI (Int32.ofNat cs.length), vR b1, vI (Int32.ofNat i2), vR t4] [])
    refine Go.st (fun _ => XS.aload X5.here hx rfl (hb hby (dq dz5 25 54 rfl)) rfl rfl) ?_
    show Go _ _ _ _ _ _ _  T5 (mkF m 56 #[vR a1, vI (0 : Int32), vI (Int32.ofNat cs.length), vR b1, vI (Int32.ofNat i2), vR t4] [(.ref t4)])
    refine Go.retR X5 hlk hx Bd.returns rfl rfl rfl (hb hby (dq dz5 26 56 rfl)) (by decide) (by decide) ?_
    show Q_rmC2 Z _ _ _ h0 n0 _ T5.heap _
    rw [e5q]
    exact ⟨_, _, rfl, N5, own_ext0 KK, sz_t4, (by rw [own_byF (own_l1f ci1 ci2), own_ubl]; exact Vt4)⟩
def Q_rmCFA (Z : State) (a1 : Addr) (kb : ClassId) (cs : List Int32) (h0 : Heap) (n0 : Nat) (v : Option Value) (h : Heap) (L : List Loc) : Prop := v = some (.int (own_cd cs)) ∧ Fr n0 L ∧ h = h0
theorem rmCFA (l : Launch) (Z : State) (a0 : Array Value) (hw : HWt a0 Z) (ws : List Jvm.Cond) (a1 : Addr) (kb : ClassId) (cs : List Int32) (h0 : Heap) (n0 : Nat) (O : Old Z n0 h0) (A_a1 : Arv Z h0 a1 kb .byte (Int32.ofNat (own_by cs).length) ((own_by cs).map Value.int) (.int 0)) (h1 : 1 ≤ cs.length) (h2 : cs.length < 100000) :
    Met l mY34 (Jvm.Cond.code mY34 jdk_52_method_15_code 2 (some .byte) :: ws) rz0_0_0_0 #[(.ref a1), (.int (Int32.ofNat cs.length))] Z h0 (Q_rmCFA Z a1 kb cs h0 n0) := by
  refine MetFree.of_bodySF (plainFor_of_name pn_7) hisR ?_
  intro p e s m args below meth c s₁ Bd hml0 hP hK
  obtain ⟨rfl, hZ, hh⟩ := hP
  have hx := Bd.exec
  have hby := Bd.bytes
  have hml : c.maxLocals = 2 := hml0
  have hlk : meth.locks = false := BodyLoose.notSynchronized Bd
  have X0 : Stand p l e rz0_0_0_0 s m #[(.ref a1), (.int (Int32.ofNat cs.length))] below meth c s₁ [] 0 0 := Stand.of_body Bd
  have e0 : s₁.heap = h0 := by rw [← hh, Bd.state]; rfl
  have N0 := Fr.nil n0
  show Go p e below s rz0_0_0_0.cells rz0_0_0_0.slots (Q_rmCFA Z a1 kb cs h0 n0) s₁ (entryFrame m #[(.ref a1), (.int (Int32.ofNat cs.length))] 2)
  refine Go.eq (ef_rmCFA m a1 (Int32.ofNat cs.length)) ?_
  show Go _ _ _ _ _ _ _  s₁ (mkF m 0 #[vR a1, vI (Int32.ofNat cs.length)] [])
  refine Go.st (fun _ => XS.iloadN X0.here hx rfl (hb hby (dq dz7 0 0 rfl)) rfl) ?_
  refine Go.st (fun _ => XS.aloadN X0.here hx rfl (hb hby (dq dz7 1 1 rfl)) rfl rfl) ?_
  show Go _ _ _ _ _ _ _  s₁ (mkF m 2 #[vR a1, vI (Int32.ofNat cs.length)] [(.ref a1), (.int (Int32.ofNat cs.length))])
  obtain ⟨cl1, Ar1, q1, S1, M1, Hh1, G1⟩ := id A_a1
  refine Go.st (X0.arraylength hx (by rw [e0]; exact Ar1.1) (State.isArrayOf_alike hZ.alike Ar1.2.1) (g := (mkF m 2 #[vR a1, vI (Int32.ofNat cs.length)] [(.ref a1), (.int (Int32.ofNat cs.length))])) rfl rfl (hb hby (dq dz7 2 2 rfl))) ?_
  rw [len_of S1 M1]
  show Go _ _ _ _ _ _ _  s₁ (mkF m 3 #[vR a1, vI (Int32.ofNat cs.length)] [(.int (Int32.ofNat (own_by cs).length)), (.int (Int32.ofNat cs.length))])
  refine Go.st (fun _ => XS.isub X0.here hx rfl (hb hby (dq dz7 3 3 rfl)) rfl) ?_
  refine Go.st (fun _ => XS.bipush X0.here hx rfl (hb hby (dq dz7 4 4 rfl))) ?_
  refine Go.st (fun _ => XS.iushr X0.here hx rfl (hb hby (dq dz7 5 6 rfl)) rfl) ?_
  refine Go.st (fun _ => XS.i2b X0.here hx rfl (hb hby (dq dz7 6 7 rfl)) rfl) ?_
  show Go _ _ _ _ _ _ _  s₁ (mkF m 8 #[vR a1, vI (Int32.ofNat cs.length)] [(.int (((((Int32.ofNat cs.length) - (Int32.ofNat (own_by cs).length)).toUInt32 >>> ((31 : Int32) &&& 31).toUInt32).toInt32).toInt8.toInt32))])
  refine Go.retN X0 hlk hx (t := .byte) (z' := (own_cd cs)) Bd.returns (by simp) (hb hby (dq dz7 7 8 rfl)) (by decide) (by decide) ((congrArg (nar .byte) (own_cfa h1 h2)).trans (own_ncd cs)) ?_
  show Q_rmCFA Z _ _ _ h0 n0 _ s₁.heap _
  rw [e0]
  exact ⟨rfl, N0, rfl⟩
def Q_rmI4 (Z : State) (a1 : Addr) (a2 : Addr) (u1 : Value) (u2 : Value) (zc : Int32) (kc : ClassId) (cs : List Int32) (h0 : Heap) (n0 : Nat) (v : Option Value) (h : Heap) (L : List Loc) : Prop := v = none ∧ Fr n0 L ∧ Keep h0 h [a1] ∧ Exa Z h a1 "java/lang/String" ∧ Fld Z h a1 "java/lang/String" "coder" "B" (.int (own_cd cs)) ∧ ∃ (b : Addr) (kb : ClassId), h0.size ≤ b ∧ Fld Z h a1 "java/lang/String" "value" "[B" (.ref b) ∧ Arv Z h b kb .byte (Int32.ofNat (own_by cs).length) ((own_by cs).map Value.int) (.int 0)
theorem rmI4 (l : Launch) (Z : State) (a0 : Array Value) (hw : HWt a0 Z) (ws : List Jvm.Cond) (a1 : Addr) (a2 : Addr) (u1 : Value) (u2 : Value) (zc : Int32) (kc : ClassId) (cs : List Int32) (h0 : Heap) (n0 : Nat) (O : Old Z n0 h0) (S_COMPACT : Sta Z Z.heap "java/lang/String" "COMPACT_STRINGS" "Z" (.int zc)) (hcs : ¬ zc = 0) (S_ad : Sta Z Z.heap "java/lang/StringUTF16" "$assertionsDisabled" "Z" (.int 1)) (S_hi : Sta Z Z.heap "java/lang/StringUTF16" "HI_BYTE_SHIFT" "I" (.int 0)) (S_lo : Sta Z Z.heap "java/lang/StringUTF16" "LO_BYTE_SHIFT" "I" (.int 8)) (E_a1 : Exa Z h0 a1 "java/lang/String") (F_value_a1 : Fld Z h0 a1 "java/lang/String" "value" "[B" u1) (F_coder_a1 : Fld Z h0 a1 "java/lang/String" "coder" "B" u2) (g_a1 : n0 ≤ a1) (A_a2 : Arv Z h0 a2 kc .char (Int32.ofNat cs.length) (cs.map Value.int) (.int 0)) (hn : cs.length ≤ 34) (h1 : 1 ≤ cs.length) (hr : ∀ j, j < cs.length → nar .char (cs.getD j 0) = cs.getD j 0) :
    Met l mY35 (Jvm.Cond.code mY35 jdk_42_method_149_code 6 none :: ws) rz4_2_102_60 #[(.ref a1), (.ref a2), (.int (0 : Int32)), (.int (Int32.ofNat cs.length)), .null] Z h0 (Q_rmI4 Z a1 a2 u1 u2 zc kc cs h0 n0) := by
  refine MetFree.of_bodySF (plainFor_of_name pn_3) hisR ?_
  intro p e s m args below meth c s₁ Bd hml0 hP hK
  obtain ⟨rfl, hZ, hh⟩ := hP
  have hx := Bd.exec
  have hby := Bd.bytes
  have hml : c.maxLocals = 6 := hml0
  have hown : s.vm.findClass "java/lang/String" = some m.cls := findClass_of_methodNamed Bd.named
  have hnm := (name_of_methodNamed Bd.named Bd.method).1
  have hlk : meth.locks = false := BodyLoose.notSynchronized Bd
  have X0 : Stand p l e rz4_2_102_60 s m #[(.ref a1), (.ref a2), (.int (0 : Int32)), (.int (Int32.ofNat cs.length)), .null] below meth c s₁ [] 0 0 := Stand.of_body Bd
  have e0 : s₁.heap = h0 := by rw [← hh, Bd.state]; rfl
  have N0 := Fr.nil n0
  have KK : Keep h0 h0 [a1] := Keep.refl h0 _
  show Go p e below s rz4_2_102_60.cells rz4_2_102_60.slots (Q_rmI4 Z a1 a2 u1 u2 zc kc cs h0 n0) s₁ (entryFrame m #[(.ref a1), (.ref a2), (.int (0 : Int32)), (.int (Int32.ofNat cs.length)), .null] 6)
  refine Go.eq (ef_rmI4 m a1 a2 (0 : Int32) (Int32.ofNat cs.length)) ?_
  show Go _ _ _ _ _ _ _  s₁ (mkF m 0 #[vR a1, vR a2, vI (0 : Int32), vI (Int32.ofNat cs.length), .val .null, uS] [])
  refine Go.st (fun _ => XS.aloadN X0.here hx rfl (hb hby (dq dz3 0 0 rfl)) rfl rfl) ?_
  show Go _ _ _ _ _ _ _  s₁ (mkF m 1 #[vR a1, vR a2, vI (0 : Int32), vI (Int32.ofNat cs.length), .val .null, uS] [(.ref a1)])
  obtain ⟨T1, X1, e1, st1⟩ := initO X0 hx hZ hown (hwi hw 15 rfl) (hwi hw 16 rfl) (hwi hw 17 rfl) e0 (g := (mkF m 1 #[vR a1, vR a2, vI (0 : Int32), vI (Int32.ofNat cs.length), .val .null, uS] [(.ref a1)])) rfl (by rw [hml]; rfl) rfl (hb hby (dq dz3 1 1 rfl)) (by decide) (W := 0) (by show 2 * 0 + _ ≤ _; exact Nat.le_of_eq rfl) (by decide)
  refine Go.st st1 ?_
  show Go _ _ _ _ _ _ _  T1 (mkF m 4 #[vR a1, vR a2, vI (0 : Int32), vI (Int32.ofNat cs.length), .val .null, uS] [])
  refine Go.st (fun _ => XS.iloadN X1.here hx rfl (hb hby (dq dz3 2 4 rfl)) rfl) ?_
  show Go _ _ _ _ _ _ _  T1 (mkF m 5 #[vR a1, vR a2, vI (0 : Int32), vI (Int32.ofNat cs.length), .val .null, uS] [(.int (Int32.ofNat cs.length))])
  refine Go.st (fun _ => XS.ifYes X1.here hx rfl (pc0 := 5) (pc' := 27) rfl (hb hby (dq dz3 3 5 rfl)) rfl ((if0 _ _).trans (feq (fun q => absurd ((own_oeq (b := 0) (by omega) (by omega)).mp q) (by omega) : ¬ ((Int32.ofNat cs.length) = (0 : Int32)))).2) (by decide) (by decide)) ?_
  show Go _ _ _ _ _ _ _  T1 (mkF m 27 #[vR a1, vR a2, vI (0 : Int32), vI (Int32.ofNat cs.length), .val .null, uS] [])
  obtain ⟨T2, X2, e2, st2⟩ := getS2 X1 hx hZ hown (host := "") (Or.inl (hwi hw 18 rfl)) Via.refl e1 (S_COMPACT.ext O.2) (g := (mkF m 27 #[vR a1, vR a2, vI (0 : Int32), vI (Int32.ofNat cs.length), .val .null, uS] [])) rfl (hb hby (dq dz3 4 27 rfl))
  refine Go.st st2 ?_
  show Go _ _ _ _ _ _ _  T2 (mkF m 30 #[vR a1, vR a2, vI (0 : Int32), vI (Int32.ofNat cs.length), .val .null, uS] [(.int zc)])
  refine Go.st (fun _ => XS.ifNo X2.here hx rfl (hb hby (dq dz3 5 30 rfl)) rfl ((if0 _ _).trans (feq (hcs : ¬ (zc = (0 : Int32)))).1)) ?_
  show Go _ _ _ _ _ _ _  T2 (mkF m 33 #[vR a1, vR a2, vI (0 : Int32), vI (Int32.ofNat cs.length), .val .null, uS] [])
  refine Go.st (fun _ => XS.aloadN X2.here hx rfl (hb hby (dq dz3 6 33 rfl)) rfl rfl) ?_
  refine Go.st (fun _ => XS.iloadN X2.here hx rfl (hb hby (dq dz3 7 34 rfl)) rfl) ?_
  refine Go.st (fun _ => XS.iloadN X2.here hx rfl (hb hby (dq dz3 8 35 rfl)) rfl) ?_
  show Go _ _ _ _ _ _ _  T2 (mkF m 36 #[vR a1, vR a2, vI (0 : Int32), vI (Int32.ofNat cs.length), .val .null, uS] [(.int (Int32.ofNat cs.length)), (.int (0 : Int32)), (.ref a2)])
  obtain ⟨_, _, ⟨T3, L3, k3, n3⟩, -, X3, ⟨Lc3, hQ3, l3, y3, z3⟩, st3⟩ := Jvm.LawKit.callS X2 hx (y := mY33) hown (mvT hZ (hwi hw 19 rfl)) (mvT hZ (hwi hw 20 rfl)) (mvT hZ (hwi hw 21 rfl)) (mvT hZ (hwi hw 22 rfl)) (by decide) (backOf (W := 0) (rmC2 l Z a0 hw [] a2 kc cs h0 n0 O S_ad S_hi S_lo A_a2 hn hr) hZ (hwi hw 22 rfl) (hwi hw 21 rfl) (by decide) (by decide)) (g := (mkF m 36 #[vR a1, vR a2, vI (0 : Int32), vI (Int32.ofNat cs.length), .val .null, uS] [(.int (Int32.ofNat cs.length)), (.int (0 : Int32)), (.ref a2)])) rfl (by rw [hml]; rfl) (argsL := [(.ref a2), (.int (0 : Int32)), (.int (Int32.ofNat cs.length))]) (rest := []) (lenOf pd___CII__B rfl) rfl (by show 2 * 0 + _ ≤ _; exact Nat.le_of_eq rfl) (hb hby (dq dz3 9 36 rfl)) (fun _ _ => ⟨rfl, e2, (by decide : 0 + 2 ≤ _), (by decide : 0 + 102 ≤ _)⟩)
  dsimp only [Pt.U, Pt.locs, Pt.cells, Pt.slots] at X3 l3 y3 z3 st3 hQ3
  rw [l3, y3, z3] at X3
  have X3 : Stand p l e _ _ m _ below meth c T3 _ 2 102 := X3
  obtain ⟨t3, kt3, rfl, N3q, E3q, lt3, Vt3⟩ := hQ3
  have N3 := Fr.app N0 N3q
  refine Go.st st3 ?_
  have g_t3 : n0 ≤ t3 := Nat.le_trans (own_le O) lt3
  have sz_t3 : h0.size ≤ t3 := Nat.le_trans KK.1 lt3
  have ne_a1_t3 : a1 ≠ t3 := Nat.ne_of_lt (Nat.lt_of_lt_of_le E_a1.lt lt3)
  have ne_a2_t3 : a2 ≠ t3 := Nat.ne_of_lt (Nat.lt_of_lt_of_le A_a2.lt lt3)
  have E3 := E3q
  have E_a1 := E_a1.ext E3
  have A_a2 := A_a2.ext E3
  have F_value_a1 := F_value_a1.ext E3
  have F_coder_a1 := F_coder_a1.ext E3
  have O := O.ext E3
  have KK := KK.ext E3
  show Go _ _ _ _ _ _ _  T3 (mkF m 39 #[vR a1, vR a2, vI (0 : Int32), vI (Int32.ofNat cs.length), .val .null, uS] [(.ref t3)])
  refine Go.st (fun _ => XS.astore X3.here hx rfl (hb hby (dq dz3 10 39 rfl)) rfl rfl (l' := #[vR a1, vR a2, vI (0 : Int32), vI (Int32.ofNat cs.length), .val .null, vR t3]) rfl) ?_
  refine Go.st (fun _ => XS.aloadN X3.here hx rfl (hb hby (dq dz3 11 41 rfl)) rfl rfl) ?_
  refine Go.st (fun _ => XS.aload X3.here hx rfl (hb hby (dq dz3 12 42 rfl)) rfl rfl) ?_
  refine Go.st (fun _ => XS.iloadN X3.here hx rfl (hb hby (dq dz3 13 44 rfl)) rfl) ?_
  show Go _ _ _ _ _ _ _  T3 (mkF m 45 #[vR a1, vR a2, vI (0 : Int32), vI (Int32.ofNat cs.length), .val .null, vR t3] [(.int (Int32.ofNat cs.length)), (.ref t3), (.ref a1)])
  refine Go.pureS (w := (some (.int (own_cd cs)))) (rest := [(.ref a1)]) (pc' := 48) (Jvm.LawKit.callS X3 hx (y := mY34) hown (mvT hZ (hwi hw 27 rfl)) (mvT hZ (hwi hw 28 rfl)) (mvT hZ (hwi hw 21 rfl)) (mvT hZ (hwi hw 29 rfl)) (by decide) (backOf (W := 1) (rmCFA l Z a0 hw [] t3 kt3 cs T3.heap n0 O Vt3 h1 (by omega)) hZ (hwi hw 29 rfl) (hwi hw 21 rfl) (by decide) (by decide)) (g := (mkF m 45 #[vR a1, vR a2, vI (0 : Int32), vI (Int32.ofNat cs.length), .val .null, vR t3] [(.int (Int32.ofNat cs.length)), (.ref t3), (.ref a1)])) rfl (by rw [hml]; rfl) (argsL := [(.ref t3), (.int (Int32.ofNat cs.length))]) (rest := [(.ref a1)]) (lenOf pd___BI_B rfl) rfl (by show 2 * 0 + _ ≤ _; exact Nat.le_of_eq rfl) (hb hby (dq dz3 14 45 rfl)) (fun _ _ => ⟨rfl, rfl, (by decide : 2 + 0 ≤ _), (by decide : 102 + 0 ≤ _)⟩)) (fun _ _ _ q => q) N3 (fun T4 L4 X4 e4q N4 => ?_)
  show Go _ _ _ _ _ _ _  T4 (mkF m 48 #[vR a1, vR a2, vI (0 : Int32), vI (Int32.ofNat cs.length), .val .null, vR t3] [(.int (own_cd cs)), (.ref a1)])
  obtain ⟨T5, h5, X5, e5, W5, st5⟩ := putFN X4 hx hZ hown (hwi hw 30 rfl) Via.refl e4q F_coder_a1 E_a1 (Or.inr ⟨(hwi hw 31 rfl), rfl, hnm⟩) (hwi hw 6 rfl) (ty := .byte) (v' := .int (own_cd cs)) (by decide) (show narrow .byte (.int (own_cd cs)) = .int (own_cd cs) from congrArg Value.int (own_ncd cs)) (own_fcd cs) (g := (mkF m 48 #[vR a1, vR a2, vI (0 : Int32), vI (Int32.ofNat cs.length), .val .null, vR t3] [(.int (own_cd cs)), (.ref a1)])) rfl rfl (hb hby (dq dz3 15 48 rfl))
  refine Go.st st5 ?_
  have F_coder_a1 : Fld Z h5 a1 "java/lang/String" "coder" "B" (.int (own_cd cs)) := F_coder_a1.same W5
  have N5 := Fr.snoc X5 N4 g_a1
  have ne_a2_a1 : a2 ≠ a1 := (Ne.symm (Exa.neArv E_a1 A_a2 (hwi hw 6 rfl)))
  have E_a1 := E_a1.wr W5
  have A_a2 := A_a2.other W5 ne_a2_a1
  have F_value_a1 := F_value_a1.other W5 (Or.inr (slot_ne (Or.inr (hwi hw 33 rfl)) (Or.inr (hwi hw 31 rfl)) (by decide) (t := (.array .byte)) (t' := .byte) (by decide) (by decide)))
  have Vt3 := Vt3.other W5 (Ne.symm ne_a1_t3)
  have O := O.wr W5 g_a1
  have KK := KK.wr W5 (Or.inl (List.mem_of_getElem? (i := 0) rfl))
  show Go _ _ _ _ _ _ _  T5 (mkF m 51 #[vR a1, vR a2, vI (0 : Int32), vI (Int32.ofNat cs.length), .val .null, vR t3] [])
  refine Go.st (fun _ => XS.aloadN X5.here hx rfl (hb hby (dq dz3 16 51 rfl)) rfl rfl) ?_
  refine Go.st (fun _ => XS.aload X5.here hx rfl (hb hby (dq dz3 17 52 rfl)) rfl rfl) ?_
  show Go _ _ _ _ _ _ _  T5 (mkF m 54 #[vR a1, vR a2, vI (0 : Int32), vI (Int32.ofNat cs.length), .val .null, vR t3] [(.ref t3), (.ref a1)])
  obtain ⟨T6, h6, X6, e6, W6, st6⟩ := putF X5 hx hZ hown (host := "") (Or.inl (hwi hw 32 rfl)) Via.refl e5 F_value_a1 E_a1 (Or.inr ⟨(hwi hw 33 rfl), rfl, hnm⟩) (hwi hw 6 rfl) (ty := (.array .byte)) (by decide) rfl rfl (g := (mkF m 54 #[vR a1, vR a2, vI (0 : Int32), vI (Int32.ofNat cs.length), .val .null, vR t3] [(.ref t3), (.ref a1)])) rfl rfl (hb hby (dq dz3 18 54 rfl))
  refine Go.st st6 ?_
  have F_value_a1 : Fld Z h6 a1 "java/lang/String" "value" "[B" (.ref t3) := F_value_a1.same W6
  have N6 := Fr.snoc X6 N5 g_a1
  have E_a1 := E_a1.wr W6
  have A_a2 := A_a2.other W6 ne_a2_a1
  have F_coder_a1 := F_coder_a1.other W6 (Or.inr (slot_ne (Or.inr (hwi hw 31 rfl)) (Or.inr (hwi hw 33 rfl)) (by decide) (t := .byte) (t' := (.array .byte)) (by decide) (by decide)))
  have Vt3 := Vt3.other W6 (Ne.symm ne_a1_t3)
  have O := O.wr W6 g_a1
  have KK := KK.wr W6 (Or.inl (List.mem_of_getElem? (i := 0) rfl))
  show Go _ _ _ _ _ _ _  T6 (mkF m 57 #[vR a1, vR a2, vI (0 : Int32), vI (Int32.ofNat cs.length), .val .null, vR t3] [])
  refine Go.ret0 X6 hlk hx Bd.returns (hb hby (dq dz3 19 57 rfl)) (by decide) (by decide) ?_
  show Q_rmI4 Z _ _ _ _ _ _ _ h0 n0 _ T6.heap _
  rw [e6]
  exact ⟨rfl, N6, KK, E_a1, F_coder_a1, t3, kt3, sz_t3, F_value_a1, Vt3⟩
def Q_rmI5 (Z : State) (a1 : Addr) (a2 : Addr) (u1 : Value) (u2 : Value) (zc : Int32) (kc : ClassId) (cs : List Int32) (h0 : Heap) (n0 : Nat) (v : Option Value) (h : Heap) (L : List Loc) : Prop := v = none ∧ Fr n0 L ∧ Keep h0 h [a1] ∧ Exa Z h a1 "java/lang/String" ∧ Fld Z h a1 "java/lang/String" "coder" "B" (.int (own_cd cs)) ∧ ∃ (b : Addr) (kb : ClassId), h0.size ≤ b ∧ Fld Z h a1 "java/lang/String" "value" "[B" (.ref b) ∧ Arv Z h b kb .byte (Int32.ofNat (own_by cs).length) ((own_by cs).map Value.int) (.int 0)
theorem rmI5 (l : Launch) (Z : State) (a0 : Array Value) (hw : HWt a0 Z) (ws : List Jvm.Cond) (a1 : Addr) (a2 : Addr) (u1 : Value) (u2 : Value) (zc : Int32) (kc : ClassId) (cs : List Int32) (h0 : Heap) (n0 : Nat) (O : Old Z n0 h0) (S_COMPACT : Sta Z Z.heap "java/lang/String" "COMPACT_STRINGS" "Z" (.int zc)) (hcs : ¬ zc = 0) (S_ad : Sta Z Z.heap "java/lang/StringUTF16" "$assertionsDisabled" "Z" (.int 1)) (S_hi : Sta Z Z.heap "java/lang/StringUTF16" "HI_BYTE_SHIFT" "I" (.int 0)) (S_lo : Sta Z Z.heap "java/lang/StringUTF16" "LO_BYTE_SHIFT" "I" (.int 8)) (E_a1 : Exa Z h0 a1 "java/lang/String") (F_value_a1 : Fld Z h0 a1 "java/lang/String" "value" "[B" u1) (F_coder_a1 : Fld Z h0 a1 "java/lang/String" "coder" "B" u2) (g_a1 : n0 ≤ a1) (A_a2 : Arv Z h0 a2 kc .char (Int32.ofNat cs.length) (cs.map Value.int) (.int 0)) (hn : cs.length ≤ 34) (h1 : 1 ≤ cs.length) (hr : ∀ j, j < cs.length → nar .char (cs.getD j 0) = cs.getD j 0) :
    Met l mY36 (Jvm.Cond.code mY36 jdk_42_method_3_code 2 none :: ws) rz5_2_102_77 #[(.ref a1), (.ref a2)] Z h0 (Q_rmI5 Z a1 a2 u1 u2 zc kc cs h0 n0) := by
  refine MetFree.of_bodySF (plainFor_of_name pn_2) hisR ?_
  intro p e s m args below meth c s₁ Bd hml0 hP hK
  obtain ⟨rfl, hZ, hh⟩ := hP
  have hx := Bd.exec
  have hby := Bd.bytes
  have hml : c.maxLocals = 2 := hml0
  have hown : s.vm.findClass "java/lang/String" = some m.cls := findClass_of_methodNamed Bd.named
  have hlk : meth.locks = false := BodyLoose.notSynchronized Bd
  have X0 : Stand p l e rz5_2_102_77 s m #[(.ref a1), (.ref a2)] below meth c s₁ [] 0 0 := Stand.of_body Bd
  have e0 : s₁.heap = h0 := by rw [← hh, Bd.state]; rfl
  have N0 := Fr.nil n0
  have KK : Keep h0 h0 [a1] := Keep.refl h0 _
  show Go p e below s rz5_2_102_77.cells rz5_2_102_77.slots (Q_rmI5 Z a1 a2 u1 u2 zc kc cs h0 n0) s₁ (entryFrame m #[(.ref a1), (.ref a2)] 2)
  refine Go.eq (ef_rmI5 m a1 a2) ?_
  show Go _ _ _ _ _ _ _  s₁ (mkF m 0 #[vR a1, vR a2] [])
  refine Go.st (fun _ => XS.aloadN X0.here hx rfl (hb hby (dq dz2 0 0 rfl)) rfl rfl) ?_
  refine Go.st (fun _ => XS.aloadN X0.here hx rfl (hb hby (dq dz2 1 1 rfl)) rfl rfl) ?_
  refine Go.st (fun _ => XS.iconst X0.here hx rfl (hb hby (dq dz2 2 2 rfl))) ?_
  refine Go.st (fun _ => XS.aloadN X0.here hx rfl (hb hby (dq dz2 3 3 rfl)) rfl rfl) ?_
  show Go _ _ _ _ _ _ _  s₁ (mkF m 4 #[vR a1, vR a2] [(.ref a2), (.int (0 : Int32)), (.ref a2), (.ref a1)])
  obtain ⟨cl1, Ar1, q1, S1, M1, Hh1, G1⟩ := id A_a2
  refine Go.st (X0.arraylength hx (by rw [e0]; exact Ar1.1) (State.isArrayOf_alike hZ.alike Ar1.2.1) (g := (mkF m 4 #[vR a1, vR a2] [(.ref a2), (.int (0 : Int32)), (.ref a2), (.ref a1)])) rfl rfl (hb hby (dq dz2 4 4 rfl))) ?_
  rw [len_of S1 M1]
  show Go _ _ _ _ _ _ _  s₁ (mkF m 5 #[vR a1, vR a2] [(.int (Int32.ofNat cs.length)), (.int (0 : Int32)), (.ref a2), (.ref a1)])
  refine Go.st (fun _ => XS.aconstNull X0.here hx rfl (hb hby (dq dz2 5 5 rfl))) ?_
  show Go _ _ _ _ _ _ _  s₁ (mkF m 6 #[vR a1, vR a2] [.null, (.int (Int32.ofNat cs.length)), (.int (0 : Int32)), (.ref a2), (.ref a1)])
  obtain ⟨_, _, ⟨T2, L2, k2, n2⟩, -, X2, ⟨Lc2, hQ2, l2, y2, z2⟩, st2⟩ := X0.specialBack hx (y := mY35) rfl hown (mvT hZ (hwi hw 11 rfl)) (mvT hZ (hwi hw 12 rfl)) (mvT hZ (hwi hw 14 rfl)) (by decide) (backOf (W := 0) (rmI4 l Z a0 hw [] a1 a2 u1 u2 zc kc cs h0 n0 O S_COMPACT hcs S_ad S_hi S_lo E_a1 F_value_a1 F_coder_a1 g_a1 A_a2 hn h1 hr) hZ (hwi hw 14 rfl) (hwi hw 7 rfl) (by decide) (by decide)) (g := (mkF m 6 #[vR a1, vR a2] [.null, (.int (Int32.ofNat cs.length)), (.int (0 : Int32)), (.ref a2), (.ref a1)])) rfl (by rw [hml]; rfl) (Steps.refl _) (a := a1) (argsL := [(.ref a2), (.int (0 : Int32)), (.int (Int32.ofNat cs.length)), .null]) (rest := []) (lenOf pd___CIILjava_lang_Void__V rfl) rfl (by show 2 * 0 + _ ≤ _; exact Nat.le_of_eq rfl) (hb hby (dq dz2 6 6 rfl)) (fun _ _ => ⟨rfl, e0, (by decide : 0 + 2 ≤ _), (by decide : 0 + 102 ≤ _)⟩)
  dsimp only [Pt.U, Pt.locs, Pt.cells, Pt.slots] at X2 l2 y2 z2 st2 hQ2
  rw [l2, y2, z2] at X2
  have X2 : Stand p l e _ _ m _ below meth c T2 _ 2 102 := X2
  obtain ⟨rfl, N2q, K2q, Q2⟩ := hQ2
  have N2 := Fr.app N0 N2q
  refine Go.tr st2 ?_
  have ne_a2_a1 : a2 ≠ a1 := (Ne.symm (Exa.neArv E_a1 A_a2 (hwi hw 6 rfl)))
  have E_a1 := E_a1.keep K2q
  have A_a2 := A_a2.keep K2q (ninS ne_a2_a1 nin0)
  have O := O.keep K2q (allS g_a1 all0)
  have KK := KK.trans K2q (allS (Or.inl (List.mem_of_getElem? (i := 0) rfl)) all0)
  show Go _ _ _ _ _ _ _  T2 (mkF m 9 #[vR a1, vR a2] [])
  refine Go.ret0 X2 hlk hx Bd.returns (hb hby (dq dz2 7 9 rfl)) (by decide) (by decide) ?_
  show Q_rmI5 Z _ _ _ _ _ _ _ h0 n0 _ T2.heap _
  exact ⟨rfl, N2, KK, Q2⟩
def Q_rmCoderU (Z : State) (a1 : Addr) (zc : Int32) (t : Addr) (kb : ClassId) (cs : List Int32) (h0 : Heap) (n0 : Nat) (v : Option Value) (h : Heap) (L : List Loc) : Prop := v = some (.int (own_cd cs)) ∧ Fr n0 L ∧ h = h0
theorem rmCoderU (l : Launch) (Z : State) (a0 : Array Value) (hw : HWt a0 Z) (ws : List Jvm.Cond) (a1 : Addr) (zc : Int32) (t : Addr) (kb : ClassId) (cs : List Int32) (h0 : Heap) (n0 : Nat) (O : Old Z n0 h0) (S_COMPACT : Sta Z Z.heap "java/lang/String" "COMPACT_STRINGS" "Z" (.int zc)) (hcs : ¬ zc = 0) (E_a1 : Exa Z h0 a1 "java/lang/String") (C_a1 : Fld Z h0 a1 "java/lang/String" "coder" "B" (.int (own_cd cs))) (V_a1 : Fld Z h0 a1 "java/lang/String" "value" "[B" (.ref t)) (A_t : Arv Z h0 t kb .byte (Int32.ofNat (own_by cs).length) ((own_by cs).map Value.int) (.int 0)) (hn : cs.length ≤ 34) :
    Met l mY0 (Jvm.Cond.code mY0 jdk_42_method_152_code 1 (some .byte) :: ws) rz0_0_0_0 #[(.ref a1)] Z h0 (Q_rmCoderU Z a1 zc t kb cs h0 n0) := by
  refine MetFree.of_bodySF (plainFor_of_name pn_15) hisR ?_
  intro p e s m args below meth c s₁ Bd hml0 hP hK
  obtain ⟨rfl, hZ, hh⟩ := hP
  have hx := Bd.exec
  have hby := Bd.bytes
  have hml : c.maxLocals = 1 := hml0
  have hown : s.vm.findClass "java/lang/String" = some m.cls := findClass_of_methodNamed Bd.named
  have hlk : meth.locks = false := BodyLoose.notSynchronized Bd
  have X0 : Stand p l e rz0_0_0_0 s m #[(.ref a1)] below meth c s₁ [] 0 0 := Stand.of_body Bd
  have e0 : s₁.heap = h0 := by rw [← hh, Bd.state]; rfl
  have N0 := Fr.nil n0
  show Go p e below s rz0_0_0_0.cells rz0_0_0_0.slots (Q_rmCoderU Z a1 zc t kb cs h0 n0) s₁ (entryFrame m #[(.ref a1)] 1)
  refine Go.eq (ef_rmCoderU m a1) ?_
  show Go _ _ _ _ _ _ _  s₁ (mkF m 0 #[vR a1] [])
  obtain ⟨T1, X1, e1, st1⟩ := getS2 X0 hx hZ hown (host := "") (Or.inl (hwi hw 18 rfl)) Via.refl e0 (S_COMPACT.ext O.2) (g := (mkF m 0 #[vR a1] [])) rfl (hb hby (dq dz15 0 0 rfl))
  refine Go.st st1 ?_
  show Go _ _ _ _ _ _ _  T1 (mkF m 3 #[vR a1] [(.int zc)])
  refine Go.st (fun _ => XS.ifNo X1.here hx rfl (hb hby (dq dz15 1 3 rfl)) rfl ((if0 _ _).trans (feq (hcs : ¬ (zc = (0 : Int32)))).1)) ?_
  show Go _ _ _ _ _ _ _  T1 (mkF m 6 #[vR a1] [])
  refine Go.st (fun _ => XS.aloadN X1.here hx rfl (hb hby (dq dz15 2 6 rfl)) rfl rfl) ?_
  show Go _ _ _ _ _ _ _  T1 (mkF m 7 #[vR a1] [(.ref a1)])
  obtain ⟨T2, X2, e2, st2⟩ := getF X1 hx hZ hown (host := "") (Or.inl (hwi hw 30 rfl)) Via.refl e1 C_a1 (g := (mkF m 7 #[vR a1] [(.ref a1)])) rfl rfl (hb hby (dq dz15 3 7 rfl))
  refine Go.st st2 ?_
  show Go _ _ _ _ _ _ _  T2 (mkF m 10 #[vR a1] [(.int (own_cd cs))])
  refine Go.st (fun _ => XS.goto X2.here hx rfl (pc0 := 10) (pc' := 14) rfl (hb hby (dq dz15 4 10 rfl)) (by decide) (by decide)) ?_
  show Go _ _ _ _ _ _ _  T2 (mkF m 14 #[vR a1] [(.int (own_cd cs))])
  refine Go.retN X2 hlk hx (t := .byte) (z' := (own_cd cs)) Bd.returns (by simp) (hb hby (dq dz15 5 14 rfl)) (by decide) (by decide) (own_ncd cs) ?_
  show Q_rmCoderU Z _ _ _ _ _ h0 n0 _ T2.heap _
  rw [e2]
  exact ⟨rfl, N0, rfl⟩
def Q_rmLenU (Z : State) (a1 : Addr) (zc : Int32) (t : Addr) (kb : ClassId) (cs : List Int32) (h0 : Heap) (n0 : Nat) (v : Option Value) (h : Heap) (L : List Loc) : Prop := v = some (.int (Int32.ofNat cs.length)) ∧ Fr n0 L ∧ h = h0
theorem rmLenU (l : Launch) (Z : State) (a0 : Array Value) (hw : HWt a0 Z) (ws : List Jvm.Cond) (a1 : Addr) (zc : Int32) (t : Addr) (kb : ClassId) (cs : List Int32) (h0 : Heap) (n0 : Nat) (O : Old Z n0 h0) (S_COMPACT : Sta Z Z.heap "java/lang/String" "COMPACT_STRINGS" "Z" (.int zc)) (hcs : ¬ zc = 0) (E_a1 : Exa Z h0 a1 "java/lang/String") (C_a1 : Fld Z h0 a1 "java/lang/String" "coder" "B" (.int (own_cd cs))) (V_a1 : Fld Z h0 a1 "java/lang/String" "value" "[B" (.ref t)) (A_t : Arv Z h0 t kb .byte (Int32.ofNat (own_by cs).length) ((own_by cs).map Value.int) (.int 0)) (hn : cs.length ≤ 34) :
    Met l mY1 (Jvm.Cond.code mY1 jdk_42_method_54_code 1 (some .int) :: ws) rz1_0_0_13 #[(.ref a1)] Z h0 (Q_rmLenU Z a1 zc t kb cs h0 n0) := by
  refine MetFree.of_bodySF (plainFor_of_name pn_14) hisR ?_
  intro p e s m args below meth c s₁ Bd hml0 hP hK
  obtain ⟨rfl, hZ, hh⟩ := hP
  have hx := Bd.exec
  have hby := Bd.bytes
  have hml : c.maxLocals = 1 := hml0
  have hown : s.vm.findClass "java/lang/String" = some m.cls := findClass_of_methodNamed Bd.named
  have hlk : meth.locks = false := BodyLoose.notSynchronized Bd
  have X0 : Stand p l e rz1_0_0_13 s m #[(.ref a1)] below meth c s₁ [] 0 0 := Stand.of_body Bd
  have e0 : s₁.heap = h0 := by rw [← hh, Bd.state]; rfl
  have N0 := Fr.nil n0
  show Go p e below s rz1_0_0_13.cells rz1_0_0_13.slots (Q_rmLenU Z a1 zc t kb cs h0 n0) s₁ (entryFrame m #[(.ref a1)] 1)
  refine Go.eq (ef_rmLenU m a1) ?_
  show Go _ _ _ _ _ _ _  s₁ (mkF m 0 #[vR a1] [])
  refine Go.st (fun _ => XS.aloadN X0.here hx rfl (hb hby (dq dz14 0 0 rfl)) rfl rfl) ?_
  show Go _ _ _ _ _ _ _  s₁ (mkF m 1 #[vR a1] [(.ref a1)])
  obtain ⟨T1, X1, e1, st1⟩ := getF X0 hx hZ hown (host := "") (Or.inl (hwi hw 32 rfl)) Via.refl e0 V_a1 (g := (mkF m 1 #[vR a1] [(.ref a1)])) rfl rfl (hb hby (dq dz14 1 1 rfl))
  refine Go.st st1 ?_
  show Go _ _ _ _ _ _ _  T1 (mkF m 4 #[vR a1] [(.ref t)])
  obtain ⟨cl2, Ar2, q2, S2, M2, Hh2, G2⟩ := id A_t
  refine Go.st (X1.arraylength hx (by rw [e1]; exact Ar2.1) (State.isArrayOf_alike hZ.alike Ar2.2.1) (g := (mkF m 4 #[vR a1] [(.ref t)])) rfl rfl (hb hby (dq dz14 2 4 rfl))) ?_
  rw [len_of S2 M2]
  show Go _ _ _ _ _ _ _  T1 (mkF m 5 #[vR a1] [(.int (Int32.ofNat (own_by cs).length))])
  refine Go.st (fun _ => XS.aloadN X1.here hx rfl (hb hby (dq dz14 3 5 rfl)) rfl rfl) ?_
  show Go _ _ _ _ _ _ _  T1 (mkF m 6 #[vR a1] [(.ref a1), (.int (Int32.ofNat (own_by cs).length))])
  obtain ⟨cq3, kq3, q3a, q3b, q3c⟩ := isOf hZ e1 E_a1
  refine Go.pure (w := (some (.int (own_cd cs)))) (rest := [(.int (Int32.ofNat (own_by cs).length))]) (pc' := 9) (X1.virtualBack hx (y := mY0) (z := mY0) hown (mvT hZ (hwi hw 62 rfl)) (mvT hZ (hwi hw 63 rfl)) (notFace_of_selects (args := #[]) (mvT hZ (hwi hw 65 rfl))) (mvT hZ (hwi hw 65 rfl)) (mvT hZ (hwi hw 64 rfl)) (by decide) (backOf (W := 1) (rmCoderU l Z a0 hw [] a1 zc t kb cs h0 n0 O S_COMPACT hcs E_a1 C_a1 V_a1 A_t hn) hZ (hwi hw 66 rfl) (hwi hw 7 rfl) (by decide) (by decide)) q3a q3c (g := (mkF m 6 #[vR a1] [(.ref a1), (.int (Int32.ofNat (own_by cs).length))])) rfl (by rw [hml]; rfl) (Steps.refl _) (argsL := []) (rest := [(.int (Int32.ofNat (own_by cs).length))]) (lenOf pd___B rfl) rfl (by show 2 * 0 + _ ≤ _; exact Nat.le_of_eq rfl) (hb hby (dq dz14 4 6 rfl)) (fun _ _ => ⟨rfl, e1, (by decide : 0 + 0 ≤ _), (by decide : 0 + 0 ≤ _)⟩)) (fun _ _ _ q => q) N0 (fun T3 L3 X3 e3q N3 => ?_)
  show Go _ _ _ _ _ _ _  T3 (mkF m 9 #[vR a1] [(.int (own_cd cs)), (.int (Int32.ofNat (own_by cs).length))])
  refine Go.st (fun _ => XS.ishr X3.here hx rfl (hb hby (dq dz14 5 9 rfl)) rfl) ?_
  show Go _ _ _ _ _ _ _  T3 (mkF m 10 #[vR a1] [(.int ((Int32.ofNat (own_by cs).length) >>> ((own_cd cs) &&& 31)))])
  rw [own_lencd (by omega)]
  show Go _ _ _ _ _ _ _  T3 (mkF m 10 #[vR a1] [(.int (Int32.ofNat cs.length))])
  refine Go.retI X3 hlk hx Bd.returns (hb hby (dq dz14 6 10 rfl)) (by decide) (by decide) ?_
  show Q_rmLenU Z _ _ _ _ _ h0 n0 _ T3.heap _
  rw [e3q]
  exact ⟨rfl, N3, rfl⟩
def Q_rmIsLU (Z : State) (a1 : Addr) (zc : Int32) (t : Addr) (kb : ClassId) (cs : List Int32) (h0 : Heap) (n0 : Nat) (v : Option Value) (h : Heap) (L : List Loc) : Prop := v = some (.int (if own_cd cs = 0 then 1 else 0)) ∧ Fr n0 L ∧ h = h0
theorem rmIsLU (l : Launch) (Z : State) (a0 : Array Value) (hw : HWt a0 Z) (ws : List Jvm.Cond) (a1 : Addr) (zc : Int32) (t : Addr) (kb : ClassId) (cs : List Int32) (h0 : Heap) (n0 : Nat) (O : Old Z n0 h0) (S_COMPACT : Sta Z Z.heap "java/lang/String" "COMPACT_STRINGS" "Z" (.int zc)) (hcs : ¬ zc = 0) (E_a1 : Exa Z h0 a1 "java/lang/String") (C_a1 : Fld Z h0 a1 "java/lang/String" "coder" "B" (.int (own_cd cs))) (V_a1 : Fld Z h0 a1 "java/lang/String" "value" "[B" (.ref t)) (A_t : Arv Z h0 t kb .byte (Int32.ofNat (own_by cs).length) ((own_by cs).map Value.int) (.int 0)) (hn : cs.length ≤ 34) :
    Met l mY37 (Jvm.Cond.code mY37 jdk_42_method_154_code 1 (some .boolean) :: ws) rz0_0_0_0 #[(.ref a1)] Z h0 (Q_rmIsLU Z a1 zc t kb cs h0 n0) := by
  refine MetFree.of_bodySF (plainFor_of_name pn_17) hisR ?_
  intro p e s m args below meth c s₁ Bd hml0 hP hK
  obtain ⟨rfl, hZ, hh⟩ := hP
  have hx := Bd.exec
  have hby := Bd.bytes
  have hml : c.maxLocals = 1 := hml0
  have hown : s.vm.findClass "java/lang/String" = some m.cls := findClass_of_methodNamed Bd.named
  have hlk : meth.locks = false := BodyLoose.notSynchronized Bd
  have X0 : Stand p l e rz0_0_0_0 s m #[(.ref a1)] below meth c s₁ [] 0 0 := Stand.of_body Bd
  have e0 : s₁.heap = h0 := by rw [← hh, Bd.state]; rfl
  have N0 := Fr.nil n0
  show Go p e below s rz0_0_0_0.cells rz0_0_0_0.slots (Q_rmIsLU Z a1 zc t kb cs h0 n0) s₁ (entryFrame m #[(.ref a1)] 1)
  refine Go.eq (ef_rmIsLU m a1) ?_
  show Go _ _ _ _ _ _ _  s₁ (mkF m 0 #[vR a1] [])
  obtain ⟨T1, X1, e1, st1⟩ := getS2 X0 hx hZ hown (host := "") (Or.inl (hwi hw 18 rfl)) Via.refl e0 (S_COMPACT.ext O.2) (g := (mkF m 0 #[vR a1] [])) rfl (hb hby (dq dz17 0 0 rfl))
  refine Go.st st1 ?_
  show Go _ _ _ _ _ _ _  T1 (mkF m 3 #[vR a1] [(.int zc)])
  refine Go.st (fun _ => XS.ifNo X1.here hx rfl (hb hby (dq dz17 1 3 rfl)) rfl ((if0 _ _).trans (feq (hcs : ¬ (zc = (0 : Int32)))).1)) ?_
  show Go _ _ _ _ _ _ _  T1 (mkF m 6 #[vR a1] [])
  refine Go.st (fun _ => XS.aloadN X1.here hx rfl (hb hby (dq dz17 2 6 rfl)) rfl rfl) ?_
  show Go _ _ _ _ _ _ _  T1 (mkF m 7 #[vR a1] [(.ref a1)])
  obtain ⟨T2, X2, e2, st2⟩ := getF X1 hx hZ hown (host := "") (Or.inl (hwi hw 30 rfl)) Via.refl e1 C_a1 (g := (mkF m 7 #[vR a1] [(.ref a1)])) rfl rfl (hb hby (dq dz17 3 7 rfl))
  refine Go.st st2 ?_
  show Go _ _ _ _ _ _ _  T2 (mkF m 10 #[vR a1] [(.int (own_cd cs))])
  by_cases c10_3 : (own_cd cs) = (0 : Int32)
  · refine Go.st (fun _ => XS.ifNo X2.here hx rfl (hb hby (dq dz17 4 10 rfl)) rfl ((if0 _ _).trans (teq c10_3).2)) ?_
    show Go _ _ _ _ _ _ _  T2 (mkF m 13 #[vR a1] [])
    refine Go.st (fun _ => XS.iconst X2.here hx rfl (hb hby (dq dz17 5 13 rfl))) ?_
    refine Go.st (fun _ => XS.goto X2.here hx rfl (pc0 := 14) (pc' := 18) rfl (hb hby (dq dz17 6 14 rfl)) (by decide) (by decide)) ?_
    show Go _ _ _ _ _ _ _  T2 (mkF m 18 #[vR a1] [(.int (1 : Int32))])
    refine Go.retN X2 hlk hx (t := .boolean) (z' := (1 : Int32)) Bd.returns (by simp) (hb hby (dq dz17 7 18 rfl)) (by decide) (by decide) rfl ?_
    show Q_rmIsLU Z _ _ _ _ _ h0 n0 _ T2.heap _
    rw [e2]
    exact ⟨by rw [if_pos c10_3], N0, rfl⟩
  · refine Go.st (fun _ => XS.ifYes X2.here hx rfl (pc0 := 10) (pc' := 17) rfl (hb hby (dq dz17 4 10 rfl)) rfl ((if0 _ _).trans (feq c10_3).2) (by decide) (by decide)) ?_
    show Go _ _ _ _ _ _ _  T2 (mkF m 17 #[vR a1] [])
    refine Go.st (fun _ => XS.iconst X2.here hx rfl (hb hby (dq dz17 8 17 rfl))) ?_
    show Go _ _ _ _ _ _ _  T2 (mkF m 18 #[vR a1] [(.int (0 : Int32))])
    refine Go.retN X2 hlk hx (t := .boolean) (z' := (0 : Int32)) Bd.returns (by simp) (hb hby (dq dz17 7 18 rfl)) (by decide) (by decide) rfl ?_
    show Q_rmIsLU Z _ _ _ _ _ h0 n0 _ T2.heap _
    rw [e2]
    exact ⟨by rw [if_neg c10_3], N0, rfl⟩
def Q_rmHs (Z : State) (p1 : Int32) (h0 : Heap) (n0 : Nat) (v : Option Value) (h : Heap) (L : List Loc) : Prop := v = some (.int (own_hs p1)) ∧ Fr n0 L ∧ h = h0
theorem rmHs (l : Launch) (Z : State) (a0 : Array Value) (hw : HWt a0 Z) (ws : List Jvm.Cond) (p1 : Int32) (h0 : Heap) (n0 : Nat) (O : Old Z n0 h0) :
    Met l mY38 (Jvm.Cond.code mY38 jdk_89_method_14_code 1 (some .boolean) :: ws) rz0_0_0_0 #[(.int p1)] Z h0 (Q_rmHs Z p1 h0 n0) := by
  refine MetFree.of_bodySF (plainFor_of_name pn_53) hisR ?_
  intro p e s m args below meth c s₁ Bd hml0 hP hK
  obtain ⟨rfl, hZ, hh⟩ := hP
  have hx := Bd.exec
  have hby := Bd.bytes
  have hml : c.maxLocals = 1 := hml0
  have hown : s.vm.findClass "java/lang/Character" = some m.cls := findClass_of_methodNamed Bd.named
  have hlk : meth.locks = false := BodyLoose.notSynchronized Bd
  have X0 : Stand p l e rz0_0_0_0 s m #[(.int p1)] below meth c s₁ [] 0 0 := Stand.of_body Bd
  have e0 : s₁.heap = h0 := by rw [← hh, Bd.state]; rfl
  have N0 := Fr.nil n0
  show Go p e below s rz0_0_0_0.cells rz0_0_0_0.slots (Q_rmHs Z p1 h0 n0) s₁ (entryFrame m #[(.int p1)] 1)
  refine Go.eq (ef_rmHs m p1) ?_
  show Go _ _ _ _ _ _ _  s₁ (mkF m 0 #[vI p1] [])
  refine Go.st (fun _ => XS.iloadN X0.here hx rfl (hb hby (dq dz53 0 0 rfl)) rfl) ?_
  show Go _ _ _ _ _ _ _  s₁ (mkF m 1 #[vI p1] [(.int p1)])
  refine Go.st (X0.ldcInt hx hown (mvT hZ (hwi hw 251 rfl)) (g := (mkF m 1 #[vI p1] [(.int p1)])) rfl (hb hby (dq dz53 1 1 rfl))) ?_
  show Go _ _ _ _ _ _ _  s₁ (mkF m 3 #[vI p1] [(.int (55296 : Int32)), (.int p1)])
  by_cases c3_1 : p1 < (55296 : Int32)
  · refine Go.st (fun _ => XS.icmpYes X0.here hx rfl (pc0 := 3) (pc' := 16) rfl (hb hby (dq dz53 2 3 rfl)) rfl (tlt c3_1).1 (by decide) (by decide)) ?_
    show Go _ _ _ _ _ _ _  s₁ (mkF m 16 #[vI p1] [])
    refine Go.st (fun _ => XS.iconst X0.here hx rfl (hb hby (dq dz53 3 16 rfl))) ?_
    show Go _ _ _ _ _ _ _  s₁ (mkF m 17 #[vI p1] [(.int (0 : Int32))])
    refine Go.retN X0 hlk hx (t := .boolean) (z' := (0 : Int32)) Bd.returns (by simp) (hb hby (dq dz53 4 17 rfl)) (by decide) (by decide) rfl ?_
    show Q_rmHs Z _ h0 n0 _ s₁.heap _
    rw [e0]
    exact ⟨by rw [own_hs, if_neg (fun z => z.1 c3_1)], N0, rfl⟩
  · refine Go.st (fun _ => XS.icmpNo X0.here hx rfl (hb hby (dq dz53 2 3 rfl)) rfl (flt c3_1).1) ?_
    show Go _ _ _ _ _ _ _  s₁ (mkF m 6 #[vI p1] [])
    refine Go.st (fun _ => XS.iloadN X0.here hx rfl (hb hby (dq dz53 5 6 rfl)) rfl) ?_
    show Go _ _ _ _ _ _ _  s₁ (mkF m 7 #[vI p1] [(.int p1)])
    refine Go.st (X0.ldcInt hx hown (mvT hZ (hwi hw 252 rfl)) (g := (mkF m 7 #[vI p1] [(.int p1)])) rfl (hb hby (dq dz53 6 7 rfl))) ?_
    show Go _ _ _ _ _ _ _  s₁ (mkF m 9 #[vI p1] [(.int (56320 : Int32)), (.int p1)])
    by_cases c9_2 : p1 < (56320 : Int32)
    · refine Go.st (fun _ => XS.icmpNo X0.here hx rfl (hb hby (dq dz53 7 9 rfl)) rfl (tlt c9_2).2.1) ?_
      show Go _ _ _ _ _ _ _  s₁ (mkF m 12 #[vI p1] [])
      refine Go.st (fun _ => XS.iconst X0.here hx rfl (hb hby (dq dz53 8 12 rfl))) ?_
      refine Go.st (fun _ => XS.goto X0.here hx rfl (pc0 := 13) (pc' := 17) rfl (hb hby (dq dz53 9 13 rfl)) (by decide) (by decide)) ?_
      show Go _ _ _ _ _ _ _  s₁ (mkF m 17 #[vI p1] [(.int (1 : Int32))])
      refine Go.retN X0 hlk hx (t := .boolean) (z' := (1 : Int32)) Bd.returns (by simp) (hb hby (dq dz53 4 17 rfl)) (by decide) (by decide) rfl ?_
      show Q_rmHs Z _ h0 n0 _ s₁.heap _
      rw [e0]
      exact ⟨by rw [own_hs, if_pos ⟨c3_1, c9_2⟩], N0, rfl⟩
    · refine Go.st (fun _ => XS.icmpYes X0.here hx rfl (pc0 := 9) (pc' := 16) rfl (hb hby (dq dz53 7 9 rfl)) rfl (flt c9_2).2.1 (by decide) (by decide)) ?_
      show Go _ _ _ _ _ _ _  s₁ (mkF m 16 #[vI p1] [])
      refine Go.st (fun _ => XS.iconst X0.here hx rfl (hb hby (dq dz53 3 16 rfl))) ?_
      show Go _ _ _ _ _ _ _  s₁ (mkF m 17 #[vI p1] [(.int (0 : Int32))])
      refine Go.retN X0 hlk hx (t := .boolean) (z' := (0 : Int32)) Bd.returns (by simp) (hb hby (dq dz53 4 17 rfl)) (by decide) (by decide) rfl ?_
      show Q_rmHs Z _ h0 n0 _ s₁.heap _
      rw [e0]
      exact ⟨by rw [own_hs, if_neg (fun z => c9_2 z.2)], N0, rfl⟩
def Q_rmLs (Z : State) (p1 : Int32) (h0 : Heap) (n0 : Nat) (v : Option Value) (h : Heap) (L : List Loc) : Prop := v = some (.int (own_ls p1)) ∧ Fr n0 L ∧ h = h0
theorem rmLs (l : Launch) (Z : State) (a0 : Array Value) (hw : HWt a0 Z) (ws : List Jvm.Cond) (p1 : Int32) (h0 : Heap) (n0 : Nat) (O : Old Z n0 h0) :
    Met l mY39 (Jvm.Cond.code mY39 jdk_89_method_15_code 1 (some .boolean) :: ws) rz0_0_0_0 #[(.int p1)] Z h0 (Q_rmLs Z p1 h0 n0) := by
  refine MetFree.of_bodySF (plainFor_of_name pn_54) hisR ?_
  intro p e s m args below meth c s₁ Bd hml0 hP hK
  obtain ⟨rfl, hZ, hh⟩ := hP
  have hx := Bd.exec
  have hby := Bd.bytes
  have hml : c.maxLocals = 1 := hml0
  have hown : s.vm.findClass "java/lang/Character" = some m.cls := findClass_of_methodNamed Bd.named
  have hlk : meth.locks = false := BodyLoose.notSynchronized Bd
  have X0 : Stand p l e rz0_0_0_0 s m #[(.int p1)] below meth c s₁ [] 0 0 := Stand.of_body Bd
  have e0 : s₁.heap = h0 := by rw [← hh, Bd.state]; rfl
  have N0 := Fr.nil n0
  show Go p e below s rz0_0_0_0.cells rz0_0_0_0.slots (Q_rmLs Z p1 h0 n0) s₁ (entryFrame m #[(.int p1)] 1)
  refine Go.eq (ef_rmLs m p1) ?_
  show Go _ _ _ _ _ _ _  s₁ (mkF m 0 #[vI p1] [])
  refine Go.st (fun _ => XS.iloadN X0.here hx rfl (hb hby (dq dz54 0 0 rfl)) rfl) ?_
  show Go _ _ _ _ _ _ _  s₁ (mkF m 1 #[vI p1] [(.int p1)])
  refine Go.st (X0.ldcInt hx hown (mvT hZ (hwi hw 252 rfl)) (g := (mkF m 1 #[vI p1] [(.int p1)])) rfl (hb hby (dq dz54 1 1 rfl))) ?_
  show Go _ _ _ _ _ _ _  s₁ (mkF m 3 #[vI p1] [(.int (56320 : Int32)), (.int p1)])
  by_cases c3_1 : p1 < (56320 : Int32)
  · refine Go.st (fun _ => XS.icmpYes X0.here hx rfl (pc0 := 3) (pc' := 16) rfl (hb hby (dq dz54 2 3 rfl)) rfl (tlt c3_1).1 (by decide) (by decide)) ?_
    show Go _ _ _ _ _ _ _  s₁ (mkF m 16 #[vI p1] [])
    refine Go.st (fun _ => XS.iconst X0.here hx rfl (hb hby (dq dz54 3 16 rfl))) ?_
    show Go _ _ _ _ _ _ _  s₁ (mkF m 17 #[vI p1] [(.int (0 : Int32))])
    refine Go.retN X0 hlk hx (t := .boolean) (z' := (0 : Int32)) Bd.returns (by simp) (hb hby (dq dz54 4 17 rfl)) (by decide) (by decide) rfl ?_
    show Q_rmLs Z _ h0 n0 _ s₁.heap _
    rw [e0]
    exact ⟨by rw [own_ls, if_neg (fun z => z.1 c3_1)], N0, rfl⟩
  · refine Go.st (fun _ => XS.icmpNo X0.here hx rfl (hb hby (dq dz54 2 3 rfl)) rfl (flt c3_1).1) ?_
    show Go _ _ _ _ _ _ _  s₁ (mkF m 6 #[vI p1] [])
    refine Go.st (fun _ => XS.iloadN X0.here hx rfl (hb hby (dq dz54 5 6 rfl)) rfl) ?_
    show Go _ _ _ _ _ _ _  s₁ (mkF m 7 #[vI p1] [(.int p1)])
    refine Go.st (X0.ldcInt hx hown (mvT hZ (hwi hw 256 rfl)) (g := (mkF m 7 #[vI p1] [(.int p1)])) rfl (hb hby (dq dz54 6 7 rfl))) ?_
    show Go _ _ _ _ _ _ _  s₁ (mkF m 9 #[vI p1] [(.int (57344 : Int32)), (.int p1)])
    by_cases c9_2 : p1 < (57344 : Int32)
    · refine Go.st (fun _ => XS.icmpNo X0.here hx rfl (hb hby (dq dz54 7 9 rfl)) rfl (tlt c9_2).2.1) ?_
      show Go _ _ _ _ _ _ _  s₁ (mkF m 12 #[vI p1] [])
      refine Go.st (fun _ => XS.iconst X0.here hx rfl (hb hby (dq dz54 8 12 rfl))) ?_
      refine Go.st (fun _ => XS.goto X0.here hx rfl (pc0 := 13) (pc' := 17) rfl (hb hby (dq dz54 9 13 rfl)) (by decide) (by decide)) ?_
      show Go _ _ _ _ _ _ _  s₁ (mkF m 17 #[vI p1] [(.int (1 : Int32))])
      refine Go.retN X0 hlk hx (t := .boolean) (z' := (1 : Int32)) Bd.returns (by simp) (hb hby (dq dz54 4 17 rfl)) (by decide) (by decide) rfl ?_
      show Q_rmLs Z _ h0 n0 _ s₁.heap _
      rw [e0]
      exact ⟨by rw [own_ls, if_pos ⟨c3_1, c9_2⟩], N0, rfl⟩
    · refine Go.st (fun _ => XS.icmpYes X0.here hx rfl (pc0 := 9) (pc' := 16) rfl (hb hby (dq dz54 7 9 rfl)) rfl (flt c9_2).2.1 (by decide) (by decide)) ?_
      show Go _ _ _ _ _ _ _  s₁ (mkF m 16 #[vI p1] [])
      refine Go.st (fun _ => XS.iconst X0.here hx rfl (hb hby (dq dz54 3 16 rfl))) ?_
      show Go _ _ _ _ _ _ _  s₁ (mkF m 17 #[vI p1] [(.int (0 : Int32))])
      refine Go.retN X0 hlk hx (t := .boolean) (z' := (0 : Int32)) Bd.returns (by simp) (hb hby (dq dz54 4 17 rfl)) (by decide) (by decide) rfl ?_
      show Q_rmLs Z _ h0 n0 _ s₁.heap _
      rw [e0]
      exact ⟨by rw [own_ls, if_neg (fun z => c9_2 z.2)], N0, rfl⟩
def Q_rmEqL (Z : State) (a1 : Addr) (a2 : Addr) (k1 : ClassId) (k2 : ClassId) (bs : List Int32) (h0 : Heap) (n0 : Nat) (v : Option Value) (h : Heap) (L : List Loc) : Prop := v = some (.int 1) ∧ Fr n0 L ∧ h = h0
theorem rmEqL (l : Launch) (Z : State) (a0 : Array Value) (hw : HWt a0 Z) (ws : List Jvm.Cond) (a1 : Addr) (a2 : Addr) (k1 : ClassId) (k2 : ClassId) (bs : List Int32) (h0 : Heap) (n0 : Nat) (O : Old Z n0 h0) (A_a1 : Arv Z h0 a1 k1 .byte (Int32.ofNat bs.length) (bs.map Value.int) (.int 0)) (A_a2 : Arv Z h0 a2 k2 .byte (Int32.ofNat bs.length) (bs.map Value.int) (.int 0)) (hb_ : bs.length < 100000) :
    Met l mY40 (Jvm.Cond.code mY40 jdk_43_method_13_code 3 (some .boolean) :: ws) rz0_0_0_0 #[(.ref a1), (.ref a2)] Z h0 (Q_rmEqL Z a1 a2 k1 k2 bs h0 n0) := by
  refine MetFree.of_bodySF (plainFor_of_name pn_45) hisR ?_
  intro p e s m args below meth c s₁ Bd hml0 hP hK
  obtain ⟨rfl, hZ, hh⟩ := hP
  have hx := Bd.exec
  have hby := Bd.bytes
  have hml : c.maxLocals = 3 := hml0
  have hlk : meth.locks = false := BodyLoose.notSynchronized Bd
  have X0 : Stand p l e rz0_0_0_0 s m #[(.ref a1), (.ref a2)] below meth c s₁ [] 0 0 := Stand.of_body Bd
  have e0 : s₁.heap = h0 := by rw [← hh, Bd.state]; rfl
  have N0 := Fr.nil n0
  have KK : Keep h0 h0 [] := Keep.refl h0 _
  show Go p e below s rz0_0_0_0.cells rz0_0_0_0.slots (Q_rmEqL Z a1 a2 k1 k2 bs h0 n0) s₁ (entryFrame m #[(.ref a1), (.ref a2)] 3)
  refine Go.eq (ef_rmEqL m a1 a2) ?_
  show Go _ _ _ _ _ _ _  s₁ (mkF m 0 #[vR a1, vR a2, uS] [])
  refine Go.st (fun _ => XS.aloadN X0.here hx rfl (hb hby (dq dz45 0 0 rfl)) rfl rfl) ?_
  show Go _ _ _ _ _ _ _  s₁ (mkF m 1 #[vR a1, vR a2, uS] [(.ref a1)])
  obtain ⟨cl1, Ar1, q1, S1, M1, Hh1, G1⟩ := id A_a1
  refine Go.st (X0.arraylength hx (by rw [e0]; exact Ar1.1) (State.isArrayOf_alike hZ.alike Ar1.2.1) (g := (mkF m 1 #[vR a1, vR a2, uS] [(.ref a1)])) rfl rfl (hb hby (dq dz45 1 1 rfl))) ?_
  rw [len_of S1 M1]
  show Go _ _ _ _ _ _ _  s₁ (mkF m 2 #[vR a1, vR a2, uS] [(.int (Int32.ofNat bs.length))])
  refine Go.st (fun _ => XS.aloadN X0.here hx rfl (hb hby (dq dz45 2 2 rfl)) rfl rfl) ?_
  show Go _ _ _ _ _ _ _  s₁ (mkF m 3 #[vR a1, vR a2, uS] [(.ref a2), (.int (Int32.ofNat bs.length))])
  obtain ⟨cl2, Ar2, q2, S2, M2, Hh2, G2⟩ := id A_a2
  refine Go.st (X0.arraylength hx (by rw [e0]; exact Ar2.1) (State.isArrayOf_alike hZ.alike Ar2.2.1) (g := (mkF m 3 #[vR a1, vR a2, uS] [(.ref a2), (.int (Int32.ofNat bs.length))])) rfl rfl (hb hby (dq dz45 3 3 rfl))) ?_
  rw [len_of S2 M2]
  show Go _ _ _ _ _ _ _  s₁ (mkF m 4 #[vR a1, vR a2, uS] [(.int (Int32.ofNat bs.length)), (.int (Int32.ofNat bs.length))])
  refine Go.st (fun _ => XS.icmpNo X0.here hx rfl (hb hby (dq dz45 4 4 rfl)) rfl (teq (rfl : (Int32.ofNat bs.length) = (Int32.ofNat bs.length))).2) ?_
  show Go _ _ _ _ _ _ _  s₁ (mkF m 7 #[vR a1, vR a2, uS] [])
  refine Go.st (fun _ => XS.iconst X0.here hx rfl (hb hby (dq dz45 5 7 rfl))) ?_
  refine Go.st (fun _ => XS.istoreN X0.here hx rfl (hb hby (dq dz45 6 8 rfl)) rfl (l' := #[vR a1, vR a2, vI (0 : Int32)]) rfl) ?_
  have loop : ∀ (k9 : Nat) (T9 : State) (h9 : Heap) (Lz : List Loc) (i : Nat), bs.length - i = k9 → Stand p l e rz0_0_0_0 s m #[(.ref a1), (.ref a2)] below meth c T9 Lz 0 0 → T9.heap = h9 → Old Z n0 h9 → Fr n0 Lz → Keep h0 h9 [] → (Arv Z h9 a1 k1 .byte (Int32.ofNat bs.length) (bs.map Value.int) (.int 0)) → (Arv Z h9 a2 k2 .byte (Int32.ofNat bs.length) (bs.map Value.int) (.int 0)) → (h9 = h0) → (i ≤ bs.length) → Go p e below s rz0_0_0_0.cells rz0_0_0_0.slots (Q_rmEqL Z a1 a2 k1 k2 bs h0 n0) T9 (mkF m 9 #[vR a1, vR a2, vI (Int32.ofNat i)] []) := by
    intro k9
    induction k9 with
    | zero =>
      intro T9 h9 Lz i hk9 X9 e9 O N9 KK A_a1 A_a2 eh hi
      refine Go.st (fun _ => XS.iloadN X9.here hx rfl (hb hby (dq dz45 7 9 rfl)) rfl) ?_
      refine Go.st (fun _ => XS.aloadN X9.here hx rfl (hb hby (dq dz45 8 10 rfl)) rfl rfl) ?_
      show Go _ _ _ _ _ _ _  T9 (mkF m 11 #[vR a1, vR a2, vI (Int32.ofNat i)] [(.ref a1), (.int (Int32.ofNat i))])
      obtain ⟨cl3, Ar3, q3, S3, M3, Hh3, G3⟩ := id A_a1
      refine Go.st (X9.arraylength hx (by rw [e9]; exact Ar3.1) (State.isArrayOf_alike hZ.alike Ar3.2.1) (g := (mkF m 11 #[vR a1, vR a2, vI (Int32.ofNat i)] [(.ref a1), (.int (Int32.ofNat i))])) rfl rfl (hb hby (dq dz45 9 11 rfl))) ?_
      rw [len_of S3 M3]
      show Go _ _ _ _ _ _ _  T9 (mkF m 12 #[vR a1, vR a2, vI (Int32.ofNat i)] [(.int (Int32.ofNat bs.length)), (.int (Int32.ofNat i))])
      refine Go.st (fun _ => XS.icmpYes X9.here hx rfl (pc0 := 12) (pc' := 32) rfl (hb hby (dq dz45 10 12 rfl)) rfl (flt (fun q => absurd ((own_olt (by omega) (by omega)).mp q) (by omega) : ¬ ((Int32.ofNat i) < (Int32.ofNat bs.length)))).2.1 (by decide) (by decide)) ?_
      show Go _ _ _ _ _ _ _  T9 (mkF m 32 #[vR a1, vR a2, vI (Int32.ofNat i)] [])
      refine Go.st (fun _ => XS.iconst X9.here hx rfl (hb hby (dq dz45 11 32 rfl))) ?_
      show Go _ _ _ _ _ _ _  T9 (mkF m 33 #[vR a1, vR a2, vI (Int32.ofNat i)] [(.int (1 : Int32))])
      refine Go.retN X9 hlk hx (t := .boolean) (z' := (1 : Int32)) Bd.returns (by simp) (hb hby (dq dz45 12 33 rfl)) (by decide) (by decide) rfl ?_
      show Q_rmEqL Z _ _ _ _ _ h0 n0 _ T9.heap _
      rw [e9]
      exact ⟨rfl, N9, eh⟩
    | succ k9 ih =>
      intro T9 h9 Lz i hk9 X9 e9 O N9 KK A_a1 A_a2 eh hi
      refine Go.st (fun _ => XS.iloadN X9.here hx rfl (hb hby (dq dz45 7 9 rfl)) rfl) ?_
      refine Go.st (fun _ => XS.aloadN X9.here hx rfl (hb hby (dq dz45 8 10 rfl)) rfl rfl) ?_
      show Go _ _ _ _ _ _ _  T9 (mkF m 11 #[vR a1, vR a2, vI (Int32.ofNat i)] [(.ref a1), (.int (Int32.ofNat i))])
      obtain ⟨cl4, Ar4, q4, S4, M4, Hh4, G4⟩ := id A_a1
      refine Go.st (X9.arraylength hx (by rw [e9]; exact Ar4.1) (State.isArrayOf_alike hZ.alike Ar4.2.1) (g := (mkF m 11 #[vR a1, vR a2, vI (Int32.ofNat i)] [(.ref a1), (.int (Int32.ofNat i))])) rfl rfl (hb hby (dq dz45 9 11 rfl))) ?_
      rw [len_of S4 M4]
      show Go _ _ _ _ _ _ _  T9 (mkF m 12 #[vR a1, vR a2, vI (Int32.ofNat i)] [(.int (Int32.ofNat bs.length)), (.int (Int32.ofNat i))])
      refine Go.st (fun _ => XS.icmpNo X9.here hx rfl (hb hby (dq dz45 10 12 rfl)) rfl (tlt ((own_olt (by omega) (by omega)).mpr (by omega) : (Int32.ofNat i) < (Int32.ofNat bs.length))).2.1) ?_
      show Go _ _ _ _ _ _ _  T9 (mkF m 15 #[vR a1, vR a2, vI (Int32.ofNat i)] [])
      refine Go.st (fun _ => XS.aloadN X9.here hx rfl (hb hby (dq dz45 13 15 rfl)) rfl rfl) ?_
      refine Go.st (fun _ => XS.iloadN X9.here hx rfl (hb hby (dq dz45 14 16 rfl)) rfl) ?_
      show Go _ _ _ _ _ _ _  T9 (mkF m 17 #[vR a1, vR a2, vI (Int32.ofNat i)] [(.int (Int32.ofNat i)), (.ref a1)])
      obtain ⟨cl5, Ar5, q5, S5, M5, Hh5, G5⟩ := id A_a1
      refine Go.st (X9.baloadBytes hx (j := (Int32.ofNat i)) (v := (.int (bs.getD i 0))) (by rw [e9]; exact Ar5.1) (State.isArrayOf_alike hZ.alike Ar5.2.1) Ar5.2.2 (inb_of S5 ⟨own_onn (by omega), (own_olt (by omega) (by omega)).mpr (by omega)⟩) (Hh5.at (inb_of S5 ⟨own_onn (by omega), (own_olt (by omega) (by omega)).mpr (by omega)⟩) (by rw [own_ocl (by omega)]; exact own_gm bs i)) (g := (mkF m 17 #[vR a1, vR a2, vI (Int32.ofNat i)] [(.int (Int32.ofNat i)), (.ref a1)])) rfl rfl (hb hby (dq dz45 15 17 rfl))) ?_
      show Go _ _ _ _ _ _ _  T9 (mkF m 18 #[vR a1, vR a2, vI (Int32.ofNat i)] [(.int (bs.getD i 0))])
      refine Go.st (fun _ => XS.aloadN X9.here hx rfl (hb hby (dq dz45 16 18 rfl)) rfl rfl) ?_
      refine Go.st (fun _ => XS.iloadN X9.here hx rfl (hb hby (dq dz45 17 19 rfl)) rfl) ?_
      show Go _ _ _ _ _ _ _  T9 (mkF m 20 #[vR a1, vR a2, vI (Int32.ofNat i)] [(.int (Int32.ofNat i)), (.ref a2), (.int (bs.getD i 0))])
      obtain ⟨cl6, Ar6, q6, S6, M6, Hh6, G6⟩ := id A_a2
      refine Go.st (X9.baloadBytes hx (j := (Int32.ofNat i)) (v := (.int (bs.getD i 0))) (by rw [e9]; exact Ar6.1) (State.isArrayOf_alike hZ.alike Ar6.2.1) Ar6.2.2 (inb_of S6 ⟨own_onn (by omega), (own_olt (by omega) (by omega)).mpr (by omega)⟩) (Hh6.at (inb_of S6 ⟨own_onn (by omega), (own_olt (by omega) (by omega)).mpr (by omega)⟩) (by rw [own_ocl (by omega)]; exact own_gm bs i)) (g := (mkF m 20 #[vR a1, vR a2, vI (Int32.ofNat i)] [(.int (Int32.ofNat i)), (.ref a2), (.int (bs.getD i 0))])) rfl rfl (hb hby (dq dz45 18 20 rfl))) ?_
      show Go _ _ _ _ _ _ _  T9 (mkF m 21 #[vR a1, vR a2, vI (Int32.ofNat i)] [(.int (bs.getD i 0)), (.int (bs.getD i 0))])
      refine Go.st (fun _ => XS.icmpYes X9.here hx rfl (pc0 := 21) (pc' := 26) rfl (hb hby (dq dz45 19 21 rfl)) rfl (teq (rfl : (bs.getD i 0) = (bs.getD i 0))).1 (by decide) (by decide)) ?_
      show Go _ _ _ _ _ _ _  T9 (mkF m 26 #[vR a1, vR a2, vI (Int32.ofNat i)] [])
      refine Go.st (fun _ => XS.iinc X9.here hx rfl (hb hby (dq dz45 20 26 rfl)) rfl (l' := #[vR a1, vR a2, vI ((Int32.ofNat i) + (1 : Int32))]) rfl) ?_
      show Go _ _ _ _ _ _ _  T9 (mkF m 29 #[vR a1, vR a2, vI ((Int32.ofNat i) + (1 : Int32))] [])
      rw [own_1inc]
      show Go _ _ _ _ _ _ _  T9 (mkF m 29 #[vR a1, vR a2, vI (Int32.ofNat (i + 1))] [])
      refine Go.st (fun _ => XS.goto X9.here hx rfl (pc0 := 29) (pc' := 9) rfl (hb hby (dq dz45 21 29 rfl)) (by decide) (by decide)) ?_
      show Go _ _ _ _ _ _ _  T9 (mkF m 9 #[vR a1, vR a2, vI (Int32.ofNat (i + 1))] [])
      exact ih T9 h9 _ (i + 1) (by omega) X9 e9 O N9 KK A_a1 A_a2 eh (by omega)
  show Go _ _ _ _ _ _ _  s₁ (mkF m 9 #[vR a1, vR a2, vI (0 : Int32)] [])
  exact loop _ s₁ h0 _ 0 rfl X0 e0 O N0 KK A_a1 A_a2 rfl (Nat.zero_le _)
def Q_rmEq (Z : State) (a1 : Addr) (a2 : Addr) (zc : Int32) (z1 : Addr) (k1 : ClassId) (z2 : Addr) (k2 : ClassId) (bs : List Int32) (cd : Int32) (h0 : Heap) (n0 : Nat) (v : Option Value) (h : Heap) (L : List Loc) : Prop := v = some (.int 1) ∧ Fr n0 L ∧ h = h0
theorem rmEq (l : Launch) (Z : State) (a0 : Array Value) (hw : HWt a0 Z) (ws : List Jvm.Cond) (a1 : Addr) (a2 : Addr) (zc : Int32) (z1 : Addr) (k1 : ClassId) (z2 : Addr) (k2 : ClassId) (bs : List Int32) (cd : Int32) (h0 : Heap) (n0 : Nat) (O : Old Z n0 h0) (S_COMPACT : Sta Z Z.heap "java/lang/String" "COMPACT_STRINGS" "Z" (.int zc)) (hcs : ¬ zc = 0) (E_a1 : Exa Z h0 a1 "java/lang/String") (C_a1 : Fld Z h0 a1 "java/lang/String" "coder" "B" (.int cd)) (V_a1 : Fld Z h0 a1 "java/lang/String" "value" "[B" (.ref z1)) (A_z1 : Arv Z h0 z1 k1 .byte (Int32.ofNat bs.length) (bs.map Value.int) (.int 0)) (E_a2 : Exa Z h0 a2 "java/lang/String") (C_a2 : Fld Z h0 a2 "java/lang/String" "coder" "B" (.int cd)) (V_a2 : Fld Z h0 a2 "java/lang/String" "value" "[B" (.ref z2)) (A_z2 : Arv Z h0 z2 k2 .byte (Int32.ofNat bs.length) (bs.map Value.int) (.int 0)) (hb_ : bs.length < 100000) :
    Met l mY41 (Jvm.Cond.code mY41 jdk_42_method_66_code 3 (some .boolean) :: ws) rz1_0_0_14 #[(.ref a1), (.ref a2)] Z h0 (Q_rmEq Z a1 a2 zc z1 k1 z2 k2 bs cd h0 n0) := by
  refine MetFree.of_bodySF (plainFor_of_name pn_44) hisR ?_
  intro p e s m args below meth c s₁ Bd hml0 hP hK
  obtain ⟨rfl, hZ, hh⟩ := hP
  have hx := Bd.exec
  have hby := Bd.bytes
  have hml : c.maxLocals = 3 := hml0
  have hown : s.vm.findClass "java/lang/String" = some m.cls := findClass_of_methodNamed Bd.named
  have hlk : meth.locks = false := BodyLoose.notSynchronized Bd
  have X0 : Stand p l e rz1_0_0_14 s m #[(.ref a1), (.ref a2)] below meth c s₁ [] 0 0 := Stand.of_body Bd
  have e0 : s₁.heap = h0 := by rw [← hh, Bd.state]; rfl
  have N0 := Fr.nil n0
  show Go p e below s rz1_0_0_14.cells rz1_0_0_14.slots (Q_rmEq Z a1 a2 zc z1 k1 z2 k2 bs cd h0 n0) s₁ (entryFrame m #[(.ref a1), (.ref a2)] 3)
  refine Go.eq (ef_rmEq m a1 a2) ?_
  show Go _ _ _ _ _ _ _  s₁ (mkF m 0 #[vR a1, vR a2, uS] [])
  refine Go.st (fun _ => XS.aloadN X0.here hx rfl (hb hby (dq dz44 0 0 rfl)) rfl rfl) ?_
  refine Go.st (fun _ => XS.aloadN X0.here hx rfl (hb hby (dq dz44 1 1 rfl)) rfl rfl) ?_
  show Go _ _ _ _ _ _ _  s₁ (mkF m 2 #[vR a1, vR a2, uS] [(.ref a2), (.ref a1)])
  by_cases c2_1 : a1 = a2
  · refine Go.st (fun _ => Jvm.RoadKit.acmp (g := (mkF m 2 #[vR a1, vR a2, uS] [(.ref a2), (.ref a1)])) X0 hx rfl rfl rfl (pc0 := 2) (pc' := 5) (same := true) rfl (hb hby (dq dz44 2 2 rfl)) rfl (decide_eq_true (congrArg Value.ref c2_1)) (by decide) (by decide)) ?_
    show Go _ _ _ _ _ _ _  s₁ (mkF m 5 #[vR a1, vR a2, uS] [])
    refine Go.st (fun _ => XS.iconst X0.here hx rfl (hb hby (dq dz44 3 5 rfl))) ?_
    show Go _ _ _ _ _ _ _  s₁ (mkF m 6 #[vR a1, vR a2, uS] [(.int (1 : Int32))])
    refine Go.retN X0 hlk hx (t := .boolean) (z' := (1 : Int32)) Bd.returns (by simp) (hb hby (dq dz44 4 6 rfl)) (by decide) (by decide) rfl ?_
    show Q_rmEq Z _ _ _ _ _ _ _ _ _ h0 n0 _ s₁.heap _
    rw [e0]
    exact ⟨rfl, N0, rfl⟩
  · refine Go.st (fun _ => Jvm.RoadKit.acmp (g := (mkF m 2 #[vR a1, vR a2, uS] [(.ref a2), (.ref a1)])) X0 hx rfl rfl rfl (pc0 := 2) (pc' := 7) (same := false) rfl (hb hby (dq dz44 2 2 rfl)) rfl (decide_eq_false fun q => c2_1 (Value.ref.inj q)) (by decide) (by decide)) ?_
    show Go _ _ _ _ _ _ _  s₁ (mkF m 7 #[vR a1, vR a2, uS] [])
    refine Go.st (fun _ => XS.aloadN X0.here hx rfl (hb hby (dq dz44 5 7 rfl)) rfl rfl) ?_
    show Go _ _ _ _ _ _ _  s₁ (mkF m 8 #[vR a1, vR a2, uS] [(.ref a2)])
    obtain ⟨T2, X2, e2, st2⟩ := instY X0 hx hZ hown (hwi hw 217 rfl) e0 (Ins.self E_a2) (g := (mkF m 8 #[vR a1, vR a2, uS] [(.ref a2)])) rfl rfl (hb hby (dq dz44 6 8 rfl))
    refine Go.st st2 ?_
    show Go _ _ _ _ _ _ _  T2 (mkF m 11 #[vR a1, vR a2, uS] [(.int (1 : Int32))])
    refine Go.st (fun _ => XS.ifNo X2.here hx rfl (hb hby (dq dz44 7 11 rfl)) rfl ((if0 _ _).trans (feq (by decide : ¬ ((1 : Int32) = (0 : Int32)))).1)) ?_
    show Go _ _ _ _ _ _ _  T2 (mkF m 14 #[vR a1, vR a2, uS] [])
    refine Go.st (fun _ => XS.aloadN X2.here hx rfl (hb hby (dq dz44 8 14 rfl)) rfl rfl) ?_
    show Go _ _ _ _ _ _ _  T2 (mkF m 15 #[vR a1, vR a2, uS] [(.ref a2)])
    obtain ⟨T3, X3, e3, st3⟩ := castY X2 hx hZ hown (hwi hw 217 rfl) e2 (Ins.self E_a2) (g := (mkF m 15 #[vR a1, vR a2, uS] [(.ref a2)])) rfl rfl (hb hby (dq dz44 9 15 rfl))
    refine Go.st st3 ?_
    show Go _ _ _ _ _ _ _  T3 (mkF m 18 #[vR a1, vR a2, uS] [(.ref a2)])
    refine Go.st (fun _ => XS.astoreN X3.here hx rfl (hb hby (dq dz44 10 18 rfl)) rfl rfl (l' := #[vR a1, vR a2, vR a2]) rfl) ?_
    show Go _ _ _ _ _ _ _  T3 (mkF m 19 #[vR a1, vR a2, vR a2] [])
    obtain ⟨T4, X4, e4, st4⟩ := getS2 X3 hx hZ hown (host := "") (Or.inl (hwi hw 18 rfl)) Via.refl e3 (S_COMPACT.ext O.2) (g := (mkF m 19 #[vR a1, vR a2, vR a2] [])) rfl (hb hby (dq dz44 11 19 rfl))
    refine Go.st st4 ?_
    show Go _ _ _ _ _ _ _  T4 (mkF m 22 #[vR a1, vR a2, vR a2] [(.int zc)])
    refine Go.st (fun _ => XS.ifNo X4.here hx rfl (hb hby (dq dz44 12 22 rfl)) rfl ((if0 _ _).trans (feq (hcs : ¬ (zc = (0 : Int32)))).1)) ?_
    show Go _ _ _ _ _ _ _  T4 (mkF m 25 #[vR a1, vR a2, vR a2] [])
    refine Go.st (fun _ => XS.aloadN X4.here hx rfl (hb hby (dq dz44 13 25 rfl)) rfl rfl) ?_
    show Go _ _ _ _ _ _ _  T4 (mkF m 26 #[vR a1, vR a2, vR a2] [(.ref a1)])
    obtain ⟨T5, X5, e5, st5⟩ := getF X4 hx hZ hown (host := "") (Or.inl (hwi hw 30 rfl)) Via.refl e4 C_a1 (g := (mkF m 26 #[vR a1, vR a2, vR a2] [(.ref a1)])) rfl rfl (hb hby (dq dz44 14 26 rfl))
    refine Go.st st5 ?_
    show Go _ _ _ _ _ _ _  T5 (mkF m 29 #[vR a1, vR a2, vR a2] [(.int cd)])
    refine Go.st (fun _ => XS.aloadN X5.here hx rfl (hb hby (dq dz44 15 29 rfl)) rfl rfl) ?_
    show Go _ _ _ _ _ _ _  T5 (mkF m 30 #[vR a1, vR a2, vR a2] [(.ref a2), (.int cd)])
    obtain ⟨T6, X6, e6, st6⟩ := getF X5 hx hZ hown (host := "") (Or.inl (hwi hw 30 rfl)) Via.refl e5 C_a2 (g := (mkF m 30 #[vR a1, vR a2, vR a2] [(.ref a2), (.int cd)])) rfl rfl (hb hby (dq dz44 16 30 rfl))
    refine Go.st st6 ?_
    show Go _ _ _ _ _ _ _  T6 (mkF m 33 #[vR a1, vR a2, vR a2] [(.int cd), (.int cd)])
    refine Go.st (fun _ => XS.icmpNo X6.here hx rfl (hb hby (dq dz44 17 33 rfl)) rfl (teq (rfl : cd = cd)).2) ?_
    show Go _ _ _ _ _ _ _  T6 (mkF m 36 #[vR a1, vR a2, vR a2] [])
    refine Go.st (fun _ => XS.aloadN X6.here hx rfl (hb hby (dq dz44 18 36 rfl)) rfl rfl) ?_
    show Go _ _ _ _ _ _ _  T6 (mkF m 37 #[vR a1, vR a2, vR a2] [(.ref a1)])
    obtain ⟨T7, X7, e7, st7⟩ := getF X6 hx hZ hown (host := "") (Or.inl (hwi hw 32 rfl)) Via.refl e6 V_a1 (g := (mkF m 37 #[vR a1, vR a2, vR a2] [(.ref a1)])) rfl rfl (hb hby (dq dz44 19 37 rfl))
    refine Go.st st7 ?_
    show Go _ _ _ _ _ _ _  T7 (mkF m 40 #[vR a1, vR a2, vR a2] [(.ref z1)])
    refine Go.st (fun _ => XS.aloadN X7.here hx rfl (hb hby (dq dz44 20 40 rfl)) rfl rfl) ?_
    show Go _ _ _ _ _ _ _  T7 (mkF m 41 #[vR a1, vR a2, vR a2] [(.ref a2), (.ref z1)])
    obtain ⟨T8, X8, e8, st8⟩ := getF X7 hx hZ hown (host := "") (Or.inl (hwi hw 32 rfl)) Via.refl e7 V_a2 (g := (mkF m 41 #[vR a1, vR a2, vR a2] [(.ref a2), (.ref z1)])) rfl rfl (hb hby (dq dz44 21 41 rfl))
    refine Go.st st8 ?_
    show Go _ _ _ _ _ _ _  T8 (mkF m 44 #[vR a1, vR a2, vR a2] [(.ref z2), (.ref z1)])
    refine Go.pureS (w := (some (.int (1 : Int32)))) (rest := []) (pc' := 47) (Jvm.LawKit.callS X8 hx (y := mY40) hown (mvT hZ (hwi hw 218 rfl)) (mvT hZ (hwi hw 219 rfl)) (mvT hZ (hwi hw 169 rfl)) (mvT hZ (hwi hw 220 rfl)) (by decide) (backOf (W := 0) (rmEqL l Z a0 hw [] z1 z2 k1 k2 bs h0 n0 O A_z1 A_z2 hb_) hZ (hwi hw 220 rfl) (hwi hw 169 rfl) (by decide) (by decide)) (g := (mkF m 44 #[vR a1, vR a2, vR a2] [(.ref z2), (.ref z1)])) rfl (by rw [hml]; rfl) (argsL := [(.ref z1), (.ref z2)]) (rest := []) (lenOf pd___B_B_Z rfl) rfl (by show 2 * 0 + _ ≤ _; exact Nat.le_of_eq rfl) (hb hby (dq dz44 22 44 rfl)) (fun _ _ => ⟨rfl, e8, (by decide : 0 + 0 ≤ _), (by decide : 0 + 0 ≤ _)⟩)) (fun _ _ _ q => q) N0 (fun T9 L9 X9 e9q N9 => ?_)
    show Go _ _ _ _ _ _ _  T9 (mkF m 47 #[vR a1, vR a2, vR a2] [(.int (1 : Int32))])
    refine Go.st (fun _ => XS.ifNo X9.here hx rfl (hb hby (dq dz44 23 47 rfl)) rfl ((if0 _ _).trans (feq (by decide : ¬ ((1 : Int32) = (0 : Int32)))).1)) ?_
    show Go _ _ _ _ _ _ _  T9 (mkF m 50 #[vR a1, vR a2, vR a2] [])
    refine Go.st (fun _ => XS.iconst X9.here hx rfl (hb hby (dq dz44 24 50 rfl))) ?_
    refine Go.st (fun _ => XS.goto X9.here hx rfl (pc0 := 51) (pc' := 55) rfl (hb hby (dq dz44 25 51 rfl)) (by decide) (by decide)) ?_
    show Go _ _ _ _ _ _ _  T9 (mkF m 55 #[vR a1, vR a2, vR a2] [(.int (1 : Int32))])
    refine Go.retN X9 hlk hx (t := .boolean) (z' := (1 : Int32)) Bd.returns (by simp) (hb hby (dq dz44 26 55 rfl)) (by decide) (by decide) rfl ?_
    show Q_rmEq Z _ _ _ _ _ _ _ _ _ h0 n0 _ T9.heap _
    rw [e9q]
    exact ⟨rfl, N9, rfl⟩
def Q_rmE0U (Z : State) (a1 : Addr) (kk : Nat) (t : Addr) (kd : ClassId) (cs : List Int32) (cap : Nat) (h0 : Heap) (n0 : Nat) (v : Option Value) (h : Heap) (L : List Loc) : Prop := v = none ∧ Fr n0 L ∧ h = h0
theorem rmE0U (l : Launch) (Z : State) (a0 : Array Value) (hw : HWt a0 Z) (ws : List Jvm.Cond) (a1 : Addr) (kk : Nat) (t : Addr) (kd : ClassId) (cs : List Int32) (cap : Nat) (h0 : Heap) (n0 : Nat) (O : Old Z n0 h0) (E_a1 : Exa Z h0 a1 "java/lang/StringBuilder") (C_a1 : Fld Z h0 a1 "java/lang/AbstractStringBuilder" "coder" "B" (.int (own_cd cs))) (V_a1 : Fld Z h0 a1 "java/lang/AbstractStringBuilder" "value" "[B" (.ref t)) (N_a1 : Fld Z h0 a1 "java/lang/AbstractStringBuilder" "count" "I" (.int (Int32.ofNat cs.length))) (M_a1 : Fld Z h0 a1 "java/lang/AbstractStringBuilder" "maybeLatin1" "Z" (.int 0)) (A_t : Arv Z h0 t kd .byte (Int32.ofNat (own_cl cs cap)) ((own_by cs).map Value.int) (.int 0)) (K_a1 : cs.length ≤ cap) (B_a1 : 16 ≤ cap) (D_a1 : cap ≤ 34) (g_a1 : n0 ≤ a1) (g_t : n0 ≤ t) (hk1 : kk ≤ cap) :
    Met l mY10 (Jvm.Cond.code mY10 jdk_68_method_9_code 3 none :: ws) rz0_0_0_0 #[(.ref a1), (.int (Int32.ofNat kk))] Z h0 (Q_rmE0U Z a1 kk t kd cs cap h0 n0) := by
  refine MetFree.of_bodySF (plainFor_of_name pn_26) hisR ?_
  intro p e s m args below meth c s₁ Bd hml0 hP hK
  obtain ⟨rfl, hZ, hh⟩ := hP
  have hx := Bd.exec
  have hby := Bd.bytes
  have hml : c.maxLocals = 3 := hml0
  have hown : s.vm.findClass "java/lang/AbstractStringBuilder" = some m.cls := findClass_of_methodNamed Bd.named
  have hlk : meth.locks = false := BodyLoose.notSynchronized Bd
  have X0 : Stand p l e rz0_0_0_0 s m #[(.ref a1), (.int (Int32.ofNat kk))] below meth c s₁ [] 0 0 := Stand.of_body Bd
  have e0 : s₁.heap = h0 := by rw [← hh, Bd.state]; rfl
  have N0 := Fr.nil n0
  show Go p e below s rz0_0_0_0.cells rz0_0_0_0.slots (Q_rmE0U Z a1 kk t kd cs cap h0 n0) s₁ (entryFrame m #[(.ref a1), (.int (Int32.ofNat kk))] 3)
  refine Go.eq (ef_rmE0U m a1 (Int32.ofNat kk)) ?_
  show Go _ _ _ _ _ _ _  s₁ (mkF m 0 #[vR a1, vI (Int32.ofNat kk), uS] [])
  refine Go.st (fun _ => XS.aloadN X0.here hx rfl (hb hby (dq dz26 0 0 rfl)) rfl rfl) ?_
  show Go _ _ _ _ _ _ _  s₁ (mkF m 1 #[vR a1, vI (Int32.ofNat kk), uS] [(.ref a1)])
  obtain ⟨T1, X1, e1, st1⟩ := getF X0 hx hZ hown (host := "") (Or.inl (hwi hw 108 rfl)) Via.refl e0 V_a1 (g := (mkF m 1 #[vR a1, vI (Int32.ofNat kk), uS] [(.ref a1)])) rfl rfl (hb hby (dq dz26 1 1 rfl))
  refine Go.st st1 ?_
  show Go _ _ _ _ _ _ _  T1 (mkF m 4 #[vR a1, vI (Int32.ofNat kk), uS] [(.ref t)])
  obtain ⟨cl2, Ar2, q2, S2, M2, Hh2, G2⟩ := id A_t
  refine Go.st (X1.arraylength hx (by rw [e1]; exact Ar2.1) (State.isArrayOf_alike hZ.alike Ar2.2.1) (g := (mkF m 4 #[vR a1, vI (Int32.ofNat kk), uS] [(.ref t)])) rfl rfl (hb hby (dq dz26 2 4 rfl))) ?_
  rw [len_of S2 M2]
  show Go _ _ _ _ _ _ _  T1 (mkF m 5 #[vR a1, vI (Int32.ofNat kk), uS] [(.int (Int32.ofNat (own_cl cs cap)))])
  refine Go.st (fun _ => XS.aloadN X1.here hx rfl (hb hby (dq dz26 3 5 rfl)) rfl rfl) ?_
  show Go _ _ _ _ _ _ _  T1 (mkF m 6 #[vR a1, vI (Int32.ofNat kk), uS] [(.ref a1), (.int (Int32.ofNat (own_cl cs cap)))])
  obtain ⟨T3, X3, e3, st3⟩ := getF X1 hx hZ hown (host := "") (Or.inl (hwi hw 110 rfl)) Via.refl e1 C_a1 (g := (mkF m 6 #[vR a1, vI (Int32.ofNat kk), uS] [(.ref a1), (.int (Int32.ofNat (own_cl cs cap)))])) rfl rfl (hb hby (dq dz26 4 6 rfl))
  refine Go.st st3 ?_
  show Go _ _ _ _ _ _ _  T3 (mkF m 9 #[vR a1, vI (Int32.ofNat kk), uS] [(.int (own_cd cs)), (.int (Int32.ofNat (own_cl cs cap)))])
  refine Go.st (fun _ => XS.ishr X3.here hx rfl (hb hby (dq dz26 5 9 rfl)) rfl) ?_
  show Go _ _ _ _ _ _ _  T3 (mkF m 10 #[vR a1, vI (Int32.ofNat kk), uS] [(.int ((Int32.ofNat (own_cl cs cap)) >>> ((own_cd cs) &&& 31)))])
  rw [own_shrcd cs (by omega)]
  refine Go.st (fun _ => XS.istoreN X3.here hx rfl (hb hby (dq dz26 6 10 rfl)) rfl (l' := #[vR a1, vI (Int32.ofNat kk), vI (Int32.ofNat cap)]) rfl) ?_
  refine Go.st (fun _ => XS.iloadN X3.here hx rfl (hb hby (dq dz26 7 11 rfl)) rfl) ?_
  refine Go.st (fun _ => XS.iloadN X3.here hx rfl (hb hby (dq dz26 8 12 rfl)) rfl) ?_
  refine Go.st (fun _ => XS.isub X3.here hx rfl (hb hby (dq dz26 9 13 rfl)) rfl) ?_
  show Go _ _ _ _ _ _ _  T3 (mkF m 14 #[vR a1, vI (Int32.ofNat kk), vI (Int32.ofNat cap)] [(.int ((Int32.ofNat kk) - (Int32.ofNat cap)))])
  refine Go.st (fun _ => XS.ifYes X3.here hx rfl (pc0 := 14) (pc' := 38) rfl (hb hby (dq dz26 10 14 rfl)) rfl ((if0 _ _).trans (flt (own_le0 hk1 (by omega) : ¬ ((0 : Int32) < ((Int32.ofNat kk) - (Int32.ofNat cap))))).2.2.2) (by decide) (by decide)) ?_
  show Go _ _ _ _ _ _ _  T3 (mkF m 38 #[vR a1, vI (Int32.ofNat kk), vI (Int32.ofNat cap)] [])
  refine Go.ret0 X3 hlk hx Bd.returns (hb hby (dq dz26 11 38 rfl)) (by decide) (by decide) ?_
  show Q_rmE0U Z _ _ _ _ _ _ h0 n0 _ T3.heap _
  rw [e3]
  exact ⟨rfl, N0, rfl⟩
def Q_rmNCU (Z : State) (a1 : Addr) (kk : Nat) (t : Addr) (kd : ClassId) (cs : List Int32) (cap : Nat) (h0 : Heap) (n0 : Nat) (v : Option Value) (h : Heap) (L : List Loc) : Prop := v = some (.int (Int32.ofNat (cap + max (kk - cap) (cap + 2)))) ∧ Fr n0 L ∧ h = h0
theorem rmNCU (l : Launch) (Z : State) (a0 : Array Value) (hw : HWt a0 Z) (ws : List Jvm.Cond) (a1 : Addr) (kk : Nat) (t : Addr) (kd : ClassId) (cs : List Int32) (cap : Nat) (h0 : Heap) (n0 : Nat) (O : Old Z n0 h0) (E_a1 : Exa Z h0 a1 "java/lang/StringBuilder") (C_a1 : Fld Z h0 a1 "java/lang/AbstractStringBuilder" "coder" "B" (.int (own_cd cs))) (V_a1 : Fld Z h0 a1 "java/lang/AbstractStringBuilder" "value" "[B" (.ref t)) (N_a1 : Fld Z h0 a1 "java/lang/AbstractStringBuilder" "count" "I" (.int (Int32.ofNat cs.length))) (M_a1 : Fld Z h0 a1 "java/lang/AbstractStringBuilder" "maybeLatin1" "Z" (.int 0)) (A_t : Arv Z h0 t kd .byte (Int32.ofNat (own_cl cs cap)) ((own_by cs).map Value.int) (.int 0)) (K_a1 : cs.length ≤ cap) (B_a1 : 16 ≤ cap) (D_a1 : cap ≤ 34) (g_a1 : n0 ≤ a1) (g_t : n0 ≤ t) (hk1 : cap < kk) (hk2 : kk ≤ 40) :
    Met l mY8 (Jvm.Cond.code mY8 jdk_68_method_10_code 6 (some .int) :: ws) rz2_0_0_29 #[(.ref a1), (.int (Int32.ofNat kk))] Z h0 (Q_rmNCU Z a1 kk t kd cs cap h0 n0) := by
  refine MetFree.of_bodySF (plainFor_of_name pn_65) hisR ?_
  intro p e s m args below meth c s₁ Bd hml0 hP hK
  obtain ⟨rfl, hZ, hh⟩ := hP
  have hx := Bd.exec
  have hby := Bd.bytes
  have hml : c.maxLocals = 6 := hml0
  have hown : s.vm.findClass "java/lang/AbstractStringBuilder" = some m.cls := findClass_of_methodNamed Bd.named
  have hlk : meth.locks = false := BodyLoose.notSynchronized Bd
  have X0 : Stand p l e rz2_0_0_29 s m #[(.ref a1), (.int (Int32.ofNat kk))] below meth c s₁ [] 0 0 := Stand.of_body Bd
  have e0 : s₁.heap = h0 := by rw [← hh, Bd.state]; rfl
  have N0 := Fr.nil n0
  show Go p e below s rz2_0_0_29.cells rz2_0_0_29.slots (Q_rmNCU Z a1 kk t kd cs cap h0 n0) s₁ (entryFrame m #[(.ref a1), (.int (Int32.ofNat kk))] 6)
  refine Go.eq (ef_rmNCU m a1 (Int32.ofNat kk)) ?_
  have w1 := own_clb cs cap
  have w2 := own_clb cs kk
  have w3 := own_clb cs 2
  have w4 := own_clle cs (show cap ≤ kk by omega)
  show Go _ _ _ _ _ _ _  s₁ (mkF m 0 #[vR a1, vI (Int32.ofNat kk), uS, uS, uS, uS] [])
  refine Go.st (fun _ => XS.aloadN X0.here hx rfl (hb hby (dq dz65 0 0 rfl)) rfl rfl) ?_
  show Go _ _ _ _ _ _ _  s₁ (mkF m 1 #[vR a1, vI (Int32.ofNat kk), uS, uS, uS, uS] [(.ref a1)])
  obtain ⟨T1, X1, e1, st1⟩ := getF X0 hx hZ hown (host := "") (Or.inl (hwi hw 108 rfl)) Via.refl e0 V_a1 (g := (mkF m 1 #[vR a1, vI (Int32.ofNat kk), uS, uS, uS, uS] [(.ref a1)])) rfl rfl (hb hby (dq dz65 1 1 rfl))
  refine Go.st st1 ?_
  show Go _ _ _ _ _ _ _  T1 (mkF m 4 #[vR a1, vI (Int32.ofNat kk), uS, uS, uS, uS] [(.ref t)])
  obtain ⟨cl2, Ar2, q2, S2, M2, Hh2, G2⟩ := id A_t
  refine Go.st (X1.arraylength hx (by rw [e1]; exact Ar2.1) (State.isArrayOf_alike hZ.alike Ar2.2.1) (g := (mkF m 4 #[vR a1, vI (Int32.ofNat kk), uS, uS, uS, uS] [(.ref t)])) rfl rfl (hb hby (dq dz65 2 4 rfl))) ?_
  rw [len_of S2 M2]
  show Go _ _ _ _ _ _ _  T1 (mkF m 5 #[vR a1, vI (Int32.ofNat kk), uS, uS, uS, uS] [(.int (Int32.ofNat (own_cl cs cap)))])
  refine Go.st (fun _ => XS.istoreN X1.here hx rfl (hb hby (dq dz65 3 5 rfl)) rfl (l' := #[vR a1, vI (Int32.ofNat kk), vI (Int32.ofNat (own_cl cs cap)), uS, uS, uS]) rfl) ?_
  refine Go.st (fun _ => XS.iloadN X1.here hx rfl (hb hby (dq dz65 4 6 rfl)) rfl) ?_
  refine Go.st (fun _ => XS.aloadN X1.here hx rfl (hb hby (dq dz65 5 7 rfl)) rfl rfl) ?_
  show Go _ _ _ _ _ _ _  T1 (mkF m 8 #[vR a1, vI (Int32.ofNat kk), vI (Int32.ofNat (own_cl cs cap)), uS, uS, uS] [(.ref a1), (.int (Int32.ofNat kk))])
  obtain ⟨T3, X3, e3, st3⟩ := getF X1 hx hZ hown (host := "") (Or.inl (hwi hw 110 rfl)) Via.refl e1 C_a1 (g := (mkF m 8 #[vR a1, vI (Int32.ofNat kk), vI (Int32.ofNat (own_cl cs cap)), uS, uS, uS] [(.ref a1), (.int (Int32.ofNat kk))])) rfl rfl (hb hby (dq dz65 6 8 rfl))
  refine Go.st st3 ?_
  show Go _ _ _ _ _ _ _  T3 (mkF m 11 #[vR a1, vI (Int32.ofNat kk), vI (Int32.ofNat (own_cl cs cap)), uS, uS, uS] [(.int (own_cd cs)), (.int (Int32.ofNat kk))])
  refine Go.st (fun _ => XS.ishl X3.here hx rfl (hb hby (dq dz65 7 11 rfl)) rfl) ?_
  show Go _ _ _ _ _ _ _  T3 (mkF m 12 #[vR a1, vI (Int32.ofNat kk), vI (Int32.ofNat (own_cl cs cap)), uS, uS, uS] [(.int ((Int32.ofNat kk) <<< ((own_cd cs) &&& 31)))])
  rw [own_shlcd cs (by omega)]
  refine Go.st (fun _ => XS.istoreN X3.here hx rfl (hb hby (dq dz65 8 12 rfl)) rfl (l' := #[vR a1, vI (Int32.ofNat kk), vI (Int32.ofNat (own_cl cs cap)), vI (Int32.ofNat (own_cl cs kk)), uS, uS]) rfl) ?_
  refine Go.st (fun _ => XS.iloadN X3.here hx rfl (hb hby (dq dz65 9 13 rfl)) rfl) ?_
  refine Go.st (fun _ => XS.iloadN X3.here hx rfl (hb hby (dq dz65 10 14 rfl)) rfl) ?_
  refine Go.st (fun _ => XS.isub X3.here hx rfl (hb hby (dq dz65 11 15 rfl)) rfl) ?_
  show Go _ _ _ _ _ _ _  T3 (mkF m 16 #[vR a1, vI (Int32.ofNat kk), vI (Int32.ofNat (own_cl cs cap)), vI (Int32.ofNat (own_cl cs kk)), uS, uS] [(.int ((Int32.ofNat (own_cl cs kk)) - (Int32.ofNat (own_cl cs cap))))])
  rw [own_osub (by omega) (by omega)]
  refine Go.st (fun _ => XS.istore X3.here hx rfl (hb hby (dq dz65 12 16 rfl)) rfl (l' := #[vR a1, vI (Int32.ofNat kk), vI (Int32.ofNat (own_cl cs cap)), vI (Int32.ofNat (own_cl cs kk)), vI (Int32.ofNat (own_cl cs kk - own_cl cs cap)), uS]) rfl) ?_
  show Go _ _ _ _ _ _ _  T3 (mkF m 18 #[vR a1, vI (Int32.ofNat kk), vI (Int32.ofNat (own_cl cs cap)), vI (Int32.ofNat (own_cl cs kk)), vI (Int32.ofNat (own_cl cs kk - own_cl cs cap)), uS] [])
  refine Go.st (fun _ => XS.iloadN X3.here hx rfl (hb hby (dq dz65 13 18 rfl)) rfl) ?_
  refine Go.st (fun _ => XS.iload X3.here hx rfl (hb hby (dq dz65 14 19 rfl)) rfl) ?_
  refine Go.st (fun _ => XS.iloadN X3.here hx rfl (hb hby (dq dz65 15 21 rfl)) rfl) ?_
  refine Go.st (fun _ => XS.iconst X3.here hx rfl (hb hby (dq dz65 16 22 rfl))) ?_
  refine Go.st (fun _ => XS.aloadN X3.here hx rfl (hb hby (dq dz65 17 23 rfl)) rfl rfl) ?_
  show Go _ _ _ _ _ _ _  T3 (mkF m 24 #[vR a1, vI (Int32.ofNat kk), vI (Int32.ofNat (own_cl cs cap)), vI (Int32.ofNat (own_cl cs kk)), vI (Int32.ofNat (own_cl cs kk - own_cl cs cap)), uS] [(.ref a1), (.int (2 : Int32)), (.int (Int32.ofNat (own_cl cs cap))), (.int (Int32.ofNat (own_cl cs kk - own_cl cs cap))), (.int (Int32.ofNat (own_cl cs cap)))])
  obtain ⟨T4, X4, e4, st4⟩ := getF X3 hx hZ hown (host := "") (Or.inl (hwi hw 110 rfl)) Via.refl e3 C_a1 (g := (mkF m 24 #[vR a1, vI (Int32.ofNat kk), vI (Int32.ofNat (own_cl cs cap)), vI (Int32.ofNat (own_cl cs kk)), vI (Int32.ofNat (own_cl cs kk - own_cl cs cap)), uS] [(.ref a1), (.int (2 : Int32)), (.int (Int32.ofNat (own_cl cs cap))), (.int (Int32.ofNat (own_cl cs kk - own_cl cs cap))), (.int (Int32.ofNat (own_cl cs cap)))])) rfl rfl (hb hby (dq dz65 18 24 rfl))
  refine Go.st st4 ?_
  show Go _ _ _ _ _ _ _  T4 (mkF m 27 #[vR a1, vI (Int32.ofNat kk), vI (Int32.ofNat (own_cl cs cap)), vI (Int32.ofNat (own_cl cs kk)), vI (Int32.ofNat (own_cl cs kk - own_cl cs cap)), uS] [(.int (own_cd cs)), (.int (2 : Int32)), (.int (Int32.ofNat (own_cl cs cap))), (.int (Int32.ofNat (own_cl cs kk - own_cl cs cap))), (.int (Int32.ofNat (own_cl cs cap)))])
  refine Go.st (fun _ => XS.ishl X4.here hx rfl (hb hby (dq dz65 19 27 rfl)) rfl) ?_
  show Go _ _ _ _ _ _ _  T4 (mkF m 28 #[vR a1, vI (Int32.ofNat kk), vI (Int32.ofNat (own_cl cs cap)), vI (Int32.ofNat (own_cl cs kk)), vI (Int32.ofNat (own_cl cs kk - own_cl cs cap)), uS] [(.int ((2 : Int32) <<< ((own_cd cs) &&& 31))), (.int (Int32.ofNat (own_cl cs cap))), (.int (Int32.ofNat (own_cl cs kk - own_cl cs cap))), (.int (Int32.ofNat (own_cl cs cap)))])
  rw [own_shl2cd]
  refine Go.st (fun _ => XS.iadd X4.here hx rfl (hb hby (dq dz65 20 28 rfl)) rfl) ?_
  show Go _ _ _ _ _ _ _  T4 (mkF m 29 #[vR a1, vI (Int32.ofNat kk), vI (Int32.ofNat (own_cl cs cap)), vI (Int32.ofNat (own_cl cs kk)), vI (Int32.ofNat (own_cl cs kk - own_cl cs cap)), uS] [(.int ((Int32.ofNat (own_cl cs cap)) + (Int32.ofNat (own_cl cs 2)))), (.int (Int32.ofNat (own_cl cs kk - own_cl cs cap))), (.int (Int32.ofNat (own_cl cs cap)))])
  rw [own_oadd]
  show Go _ _ _ _ _ _ _  T4 (mkF m 29 #[vR a1, vI (Int32.ofNat kk), vI (Int32.ofNat (own_cl cs cap)), vI (Int32.ofNat (own_cl cs kk)), vI (Int32.ofNat (own_cl cs kk - own_cl cs cap)), uS] [(.int (Int32.ofNat (own_cl cs cap + own_cl cs 2))), (.int (Int32.ofNat (own_cl cs kk - own_cl cs cap))), (.int (Int32.ofNat (own_cl cs cap)))])
  refine Go.pureS (w := (some (.int (Int32.ofNat (own_cl cs cap + max (own_cl cs kk - own_cl cs cap) (own_cl cs cap + own_cl cs 2)))))) (rest := []) (pc' := 32) (Jvm.LawKit.callS X4 hx (y := mY7) hown (mvT hZ (hwi hw 310 rfl)) (mvT hZ (hwi hw 311 rfl)) (mvT hZ (hwi hw 312 rfl)) (mvT hZ (hwi hw 313 rfl)) (by decide) (backOf (W := 0) (rmNL l Z a0 hw [] (own_cl cs cap) (own_cl cs kk - own_cl cs cap) (own_cl cs cap + own_cl cs 2) h0 n0 O (by omega) (by omega) (by omega) (by omega)) hZ (hwi hw 313 rfl) (hwi hw 312 rfl) (by decide) (by decide)) (g := (mkF m 29 #[vR a1, vI (Int32.ofNat kk), vI (Int32.ofNat (own_cl cs cap)), vI (Int32.ofNat (own_cl cs kk)), vI (Int32.ofNat (own_cl cs kk - own_cl cs cap)), uS] [(.int (Int32.ofNat (own_cl cs cap + own_cl cs 2))), (.int (Int32.ofNat (own_cl cs kk - own_cl cs cap))), (.int (Int32.ofNat (own_cl cs cap)))])) rfl (by rw [hml]; rfl) (argsL := [(.int (Int32.ofNat (own_cl cs cap))), (.int (Int32.ofNat (own_cl cs kk - own_cl cs cap))), (.int (Int32.ofNat (own_cl cs cap + own_cl cs 2)))]) (rest := []) (lenOf pd__III_I rfl) rfl (by show 2 * 0 + _ ≤ _; exact Nat.le_of_eq rfl) (hb hby (dq dz65 21 29 rfl)) (fun _ _ => ⟨rfl, e4, (by decide : 0 + 0 ≤ _), (by decide : 0 + 0 ≤ _)⟩)) (fun _ _ _ q => q) N0 (fun T5 L5 X5 e5q N5 => ?_)
  show Go _ _ _ _ _ _ _  T5 (mkF m 32 #[vR a1, vI (Int32.ofNat kk), vI (Int32.ofNat (own_cl cs cap)), vI (Int32.ofNat (own_cl cs kk)), vI (Int32.ofNat (own_cl cs kk - own_cl cs cap)), uS] [(.int (Int32.ofNat (own_cl cs cap + max (own_cl cs kk - own_cl cs cap) (own_cl cs cap + own_cl cs 2))))])
  refine Go.st (fun _ => XS.istore X5.here hx rfl (hb hby (dq dz65 22 32 rfl)) rfl (l' := #[vR a1, vI (Int32.ofNat kk), vI (Int32.ofNat (own_cl cs cap)), vI (Int32.ofNat (own_cl cs kk)), vI (Int32.ofNat (own_cl cs kk - own_cl cs cap)), vI (Int32.ofNat (own_cl cs cap + max (own_cl cs kk - own_cl cs cap) (own_cl cs cap + own_cl cs 2)))]) rfl) ?_
  refine Go.st (fun _ => XS.iload X5.here hx rfl (hb hby (dq dz65 23 34 rfl)) rfl) ?_
  show Go _ _ _ _ _ _ _  T5 (mkF m 36 #[vR a1, vI (Int32.ofNat kk), vI (Int32.ofNat (own_cl cs cap)), vI (Int32.ofNat (own_cl cs kk)), vI (Int32.ofNat (own_cl cs kk - own_cl cs cap)), vI (Int32.ofNat (own_cl cs cap + max (own_cl cs kk - own_cl cs cap) (own_cl cs cap + own_cl cs 2)))] [(.int (Int32.ofNat (own_cl cs cap + max (own_cl cs kk - own_cl cs cap) (own_cl cs cap + own_cl cs 2))))])
  refine Go.st (X5.ldcInt hx hown (mvT hZ (hwi hw 318 rfl)) (g := (mkF m 36 #[vR a1, vI (Int32.ofNat kk), vI (Int32.ofNat (own_cl cs cap)), vI (Int32.ofNat (own_cl cs kk)), vI (Int32.ofNat (own_cl cs kk - own_cl cs cap)), vI (Int32.ofNat (own_cl cs cap + max (own_cl cs kk - own_cl cs cap) (own_cl cs cap + own_cl cs 2)))] [(.int (Int32.ofNat (own_cl cs cap + max (own_cl cs kk - own_cl cs cap) (own_cl cs cap + own_cl cs 2))))])) rfl (hb hby (dq dz65 24 36 rfl))) ?_
  show Go _ _ _ _ _ _ _  T5 (mkF m 38 #[vR a1, vI (Int32.ofNat kk), vI (Int32.ofNat (own_cl cs cap)), vI (Int32.ofNat (own_cl cs kk)), vI (Int32.ofNat (own_cl cs kk - own_cl cs cap)), vI (Int32.ofNat (own_cl cs cap + max (own_cl cs kk - own_cl cs cap) (own_cl cs cap + own_cl cs 2)))] [(.int (2147483647 : Int32)), (.int (Int32.ofNat (own_cl cs cap + max (own_cl cs kk - own_cl cs cap) (own_cl cs cap + own_cl cs 2))))])
  refine Go.st (fun _ => XS.icmpYes X5.here hx rfl (pc0 := 38) (pc' := 51) rfl (hb hby (dq dz65 25 38 rfl)) rfl (feq (own_onmax (by omega) : ¬ ((Int32.ofNat (own_cl cs cap + max (own_cl cs kk - own_cl cs cap) (own_cl cs cap + own_cl cs 2))) = (2147483647 : Int32)))).2 (by decide) (by decide)) ?_
  show Go _ _ _ _ _ _ _  T5 (mkF m 51 #[vR a1, vI (Int32.ofNat kk), vI (Int32.ofNat (own_cl cs cap)), vI (Int32.ofNat (own_cl cs kk)), vI (Int32.ofNat (own_cl cs kk - own_cl cs cap)), vI (Int32.ofNat (own_cl cs cap + max (own_cl cs kk - own_cl cs cap) (own_cl cs cap + own_cl cs 2)))] [])
  refine Go.st (fun _ => XS.iload X5.here hx rfl (hb hby (dq dz65 26 51 rfl)) rfl) ?_
  refine Go.st (fun _ => XS.aloadN X5.here hx rfl (hb hby (dq dz65 27 53 rfl)) rfl rfl) ?_
  show Go _ _ _ _ _ _ _  T5 (mkF m 54 #[vR a1, vI (Int32.ofNat kk), vI (Int32.ofNat (own_cl cs cap)), vI (Int32.ofNat (own_cl cs kk)), vI (Int32.ofNat (own_cl cs kk - own_cl cs cap)), vI (Int32.ofNat (own_cl cs cap + max (own_cl cs kk - own_cl cs cap) (own_cl cs cap + own_cl cs 2)))] [(.ref a1), (.int (Int32.ofNat (own_cl cs cap + max (own_cl cs kk - own_cl cs cap) (own_cl cs cap + own_cl cs 2))))])
  obtain ⟨T6, X6, e6, st6⟩ := getF X5 hx hZ hown (host := "") (Or.inl (hwi hw 110 rfl)) Via.refl e5q C_a1 (g := (mkF m 54 #[vR a1, vI (Int32.ofNat kk), vI (Int32.ofNat (own_cl cs cap)), vI (Int32.ofNat (own_cl cs kk)), vI (Int32.ofNat (own_cl cs kk - own_cl cs cap)), vI (Int32.ofNat (own_cl cs cap + max (own_cl cs kk - own_cl cs cap) (own_cl cs cap + own_cl cs 2)))] [(.ref a1), (.int (Int32.ofNat (own_cl cs cap + max (own_cl cs kk - own_cl cs cap) (own_cl cs cap + own_cl cs 2))))])) rfl rfl (hb hby (dq dz65 28 54 rfl))
  refine Go.st st6 ?_
  show Go _ _ _ _ _ _ _  T6 (mkF m 57 #[vR a1, vI (Int32.ofNat kk), vI (Int32.ofNat (own_cl cs cap)), vI (Int32.ofNat (own_cl cs kk)), vI (Int32.ofNat (own_cl cs kk - own_cl cs cap)), vI (Int32.ofNat (own_cl cs cap + max (own_cl cs kk - own_cl cs cap) (own_cl cs cap + own_cl cs 2)))] [(.int (own_cd cs)), (.int (Int32.ofNat (own_cl cs cap + max (own_cl cs kk - own_cl cs cap) (own_cl cs cap + own_cl cs 2))))])
  refine Go.st (fun _ => XS.ishr X6.here hx rfl (hb hby (dq dz65 29 57 rfl)) rfl) ?_
  show Go _ _ _ _ _ _ _  T6 (mkF m 58 #[vR a1, vI (Int32.ofNat kk), vI (Int32.ofNat (own_cl cs cap)), vI (Int32.ofNat (own_cl cs kk)), vI (Int32.ofNat (own_cl cs kk - own_cl cs cap)), vI (Int32.ofNat (own_cl cs cap + max (own_cl cs kk - own_cl cs cap) (own_cl cs cap + own_cl cs 2)))] [(.int ((Int32.ofNat (own_cl cs cap + max (own_cl cs kk - own_cl cs cap) (own_cl cs cap + own_cl cs 2))) >>> ((own_cd cs) &&& 31)))])
  rw [own_nc57 cs (by omega) (by omega)]
  show Go _ _ _ _ _ _ _  T6 (mkF m 58 #[vR a1, vI (Int32.ofNat kk), vI (Int32.ofNat (own_cl cs cap)), vI (Int32.ofNat (own_cl cs kk)), vI (Int32.ofNat (own_cl cs kk - own_cl cs cap)), vI (Int32.ofNat (own_cl cs cap + max (own_cl cs kk - own_cl cs cap) (own_cl cs cap + own_cl cs 2)))] [(.int (Int32.ofNat (cap + max (kk - cap) (cap + 2))))])
  refine Go.retI X6 hlk hx Bd.returns (hb hby (dq dz65 30 58 rfl)) (by decide) (by decide) ?_
  show Q_rmNCU Z _ _ _ _ _ _ h0 n0 _ T6.heap _
  rw [e6]
  exact ⟨rfl, N5, rfl⟩
def Q_rmE1U (Z : State) (a1 : Addr) (kk : Nat) (t : Addr) (kd : ClassId) (cs : List Int32) (cap : Nat) (h0 : Heap) (n0 : Nat) (v : Option Value) (h : Heap) (L : List Loc) : Prop := v = none ∧ Fr n0 L ∧ Keep h0 h [a1] ∧ ∃ (b : Addr) (kb : ClassId), h0.size ≤ b ∧ Exa Z h a1 "java/lang/StringBuilder" ∧ Fld Z h a1 "java/lang/AbstractStringBuilder" "coder" "B" (.int (own_cd cs)) ∧ Fld Z h a1 "java/lang/AbstractStringBuilder" "value" "[B" (.ref b) ∧ Fld Z h a1 "java/lang/AbstractStringBuilder" "count" "I" (.int (Int32.ofNat cs.length)) ∧ Fld Z h a1 "java/lang/AbstractStringBuilder" "maybeLatin1" "Z" (.int 0) ∧ Arv Z h b kb .byte (Int32.ofNat (own_cl cs (cap + max (kk - cap) (cap + 2)))) ((own_by cs).map Value.int) (.int 0)
theorem rmE1U (l : Launch) (Z : State) (a0 : Array Value) (hw : HWt a0 Z) (ws : List Jvm.Cond) (a1 : Addr) (kk : Nat) (t : Addr) (kd : ClassId) (cs : List Int32) (cap : Nat) (h0 : Heap) (n0 : Nat) (O : Old Z n0 h0) (E_a1 : Exa Z h0 a1 "java/lang/StringBuilder") (C_a1 : Fld Z h0 a1 "java/lang/AbstractStringBuilder" "coder" "B" (.int (own_cd cs))) (V_a1 : Fld Z h0 a1 "java/lang/AbstractStringBuilder" "value" "[B" (.ref t)) (N_a1 : Fld Z h0 a1 "java/lang/AbstractStringBuilder" "count" "I" (.int (Int32.ofNat cs.length))) (M_a1 : Fld Z h0 a1 "java/lang/AbstractStringBuilder" "maybeLatin1" "Z" (.int 0)) (A_t : Arv Z h0 t kd .byte (Int32.ofNat (own_cl cs cap)) ((own_by cs).map Value.int) (.int 0)) (K_a1 : cs.length ≤ cap) (B_a1 : 16 ≤ cap) (D_a1 : cap ≤ 34) (g_a1 : n0 ≤ a1) (g_t : n0 ≤ t) (hk1 : cap < kk) (hk2 : kk ≤ 17) :
    Met l mY10 (Jvm.Cond.code mY10 jdk_68_method_9_code 3 none :: ws) rz3_1_68_48 #[(.ref a1), (.int (Int32.ofNat kk))] Z h0 (Q_rmE1U Z a1 kk t kd cs cap h0 n0) := by
  refine MetFree.of_bodySF (plainFor_of_name pn_26) hisR ?_
  intro p e s m args below meth c s₁ Bd hml0 hP hK
  obtain ⟨rfl, hZ, hh⟩ := hP
  have hx := Bd.exec
  have hby := Bd.bytes
  have hml : c.maxLocals = 3 := hml0
  have hown : s.vm.findClass "java/lang/AbstractStringBuilder" = some m.cls := findClass_of_methodNamed Bd.named
  have hlk : meth.locks = false := BodyLoose.notSynchronized Bd
  have X0 : Stand p l e rz3_1_68_48 s m #[(.ref a1), (.int (Int32.ofNat kk))] below meth c s₁ [] 0 0 := Stand.of_body Bd
  have e0 : s₁.heap = h0 := by rw [← hh, Bd.state]; rfl
  have N0 := Fr.nil n0
  have KK : Keep h0 h0 [a1] := Keep.refl h0 _
  show Go p e below s rz3_1_68_48.cells rz3_1_68_48.slots (Q_rmE1U Z a1 kk t kd cs cap h0 n0) s₁ (entryFrame m #[(.ref a1), (.int (Int32.ofNat kk))] 3)
  refine Go.eq (ef_rmE1U m a1 (Int32.ofNat kk)) ?_
  show Go _ _ _ _ _ _ _  s₁ (mkF m 0 #[vR a1, vI (Int32.ofNat kk), uS] [])
  refine Go.st (fun _ => XS.aloadN X0.here hx rfl (hb hby (dq dz26 0 0 rfl)) rfl rfl) ?_
  show Go _ _ _ _ _ _ _  s₁ (mkF m 1 #[vR a1, vI (Int32.ofNat kk), uS] [(.ref a1)])
  obtain ⟨T1, X1, e1, st1⟩ := getF X0 hx hZ hown (host := "") (Or.inl (hwi hw 108 rfl)) Via.refl e0 V_a1 (g := (mkF m 1 #[vR a1, vI (Int32.ofNat kk), uS] [(.ref a1)])) rfl rfl (hb hby (dq dz26 1 1 rfl))
  refine Go.st st1 ?_
  show Go _ _ _ _ _ _ _  T1 (mkF m 4 #[vR a1, vI (Int32.ofNat kk), uS] [(.ref t)])
  obtain ⟨cl2, Ar2, q2, S2, M2, Hh2, G2⟩ := id A_t
  refine Go.st (X1.arraylength hx (by rw [e1]; exact Ar2.1) (State.isArrayOf_alike hZ.alike Ar2.2.1) (g := (mkF m 4 #[vR a1, vI (Int32.ofNat kk), uS] [(.ref t)])) rfl rfl (hb hby (dq dz26 2 4 rfl))) ?_
  rw [len_of S2 M2]
  show Go _ _ _ _ _ _ _  T1 (mkF m 5 #[vR a1, vI (Int32.ofNat kk), uS] [(.int (Int32.ofNat (own_cl cs cap)))])
  refine Go.st (fun _ => XS.aloadN X1.here hx rfl (hb hby (dq dz26 3 5 rfl)) rfl rfl) ?_
  show Go _ _ _ _ _ _ _  T1 (mkF m 6 #[vR a1, vI (Int32.ofNat kk), uS] [(.ref a1), (.int (Int32.ofNat (own_cl cs cap)))])
  obtain ⟨T3, X3, e3, st3⟩ := getF X1 hx hZ hown (host := "") (Or.inl (hwi hw 110 rfl)) Via.refl e1 C_a1 (g := (mkF m 6 #[vR a1, vI (Int32.ofNat kk), uS] [(.ref a1), (.int (Int32.ofNat (own_cl cs cap)))])) rfl rfl (hb hby (dq dz26 4 6 rfl))
  refine Go.st st3 ?_
  show Go _ _ _ _ _ _ _  T3 (mkF m 9 #[vR a1, vI (Int32.ofNat kk), uS] [(.int (own_cd cs)), (.int (Int32.ofNat (own_cl cs cap)))])
  refine Go.st (fun _ => XS.ishr X3.here hx rfl (hb hby (dq dz26 5 9 rfl)) rfl) ?_
  show Go _ _ _ _ _ _ _  T3 (mkF m 10 #[vR a1, vI (Int32.ofNat kk), uS] [(.int ((Int32.ofNat (own_cl cs cap)) >>> ((own_cd cs) &&& 31)))])
  rw [own_shrcd cs (by omega)]
  refine Go.st (fun _ => XS.istoreN X3.here hx rfl (hb hby (dq dz26 6 10 rfl)) rfl (l' := #[vR a1, vI (Int32.ofNat kk), vI (Int32.ofNat cap)]) rfl) ?_
  refine Go.st (fun _ => XS.iloadN X3.here hx rfl (hb hby (dq dz26 7 11 rfl)) rfl) ?_
  refine Go.st (fun _ => XS.iloadN X3.here hx rfl (hb hby (dq dz26 8 12 rfl)) rfl) ?_
  refine Go.st (fun _ => XS.isub X3.here hx rfl (hb hby (dq dz26 9 13 rfl)) rfl) ?_
  show Go _ _ _ _ _ _ _  T3 (mkF m 14 #[vR a1, vI (Int32.ofNat kk), vI (Int32.ofNat cap)] [(.int ((Int32.ofNat kk) - (Int32.ofNat cap)))])
  refine Go.st (fun _ => XS.ifNo X3.here hx rfl (hb hby (dq dz26 10 14 rfl)) rfl ((if0 _ _).trans (tlt (own_gt0 hk1 (by omega) : (0 : Int32) < ((Int32.ofNat kk) - (Int32.ofNat cap)))).2.2.2)) ?_
  show Go _ _ _ _ _ _ _  T3 (mkF m 17 #[vR a1, vI (Int32.ofNat kk), vI (Int32.ofNat cap)] [])
  refine Go.st (fun _ => XS.aloadN X3.here hx rfl (hb hby (dq dz26 12 17 rfl)) rfl rfl) ?_
  refine Go.st (fun _ => XS.aloadN X3.here hx rfl (hb hby (dq dz26 13 18 rfl)) rfl rfl) ?_
  show Go _ _ _ _ _ _ _  T3 (mkF m 19 #[vR a1, vI (Int32.ofNat kk), vI (Int32.ofNat cap)] [(.ref a1), (.ref a1)])
  obtain ⟨T4, X4, e4, st4⟩ := getF X3 hx hZ hown (host := "") (Or.inl (hwi hw 108 rfl)) Via.refl e3 V_a1 (g := (mkF m 19 #[vR a1, vI (Int32.ofNat kk), vI (Int32.ofNat cap)] [(.ref a1), (.ref a1)])) rfl rfl (hb hby (dq dz26 14 19 rfl))
  refine Go.st st4 ?_
  show Go _ _ _ _ _ _ _  T4 (mkF m 22 #[vR a1, vI (Int32.ofNat kk), vI (Int32.ofNat cap)] [(.ref t), (.ref a1)])
  refine Go.st (fun _ => XS.aloadN X4.here hx rfl (hb hby (dq dz26 15 22 rfl)) rfl rfl) ?_
  refine Go.st (fun _ => XS.iloadN X4.here hx rfl (hb hby (dq dz26 16 23 rfl)) rfl) ?_
  show Go _ _ _ _ _ _ _  T4 (mkF m 24 #[vR a1, vI (Int32.ofNat kk), vI (Int32.ofNat cap)] [(.int (Int32.ofNat kk)), (.ref a1), (.ref t), (.ref a1)])
  obtain ⟨cq5, q5, q5'⟩ := Exa.cell E_a1
  refine Go.pure (w := (some (.int (Int32.ofNat (cap + max (kk - cap) (cap + 2)))))) (rest := [(.ref t), (.ref a1)]) (pc' := 27) (X4.privateBack hx (y := mY8) hown (mvT hZ (hwi hw 305 rfl)) (mvT hZ (hwi hw 306 rfl)) (own_selfsel2 (mvT hZ (hwi hw 308 rfl)) (mvP hZ (hwi hw 307 rfl)) (mvT hZ (hwi hw 306 rfl)) (by decide)) (Cond.privateMethod_at (mvP hZ (hwi hw 307 rfl) (args := #[]))) (mvT hZ (hwi hw 309 rfl)) (by decide) (backOf (W := 2) (rmNCU l Z a0 hw [] a1 kk t kd cs cap h0 n0 O E_a1 C_a1 V_a1 N_a1 M_a1 A_t K_a1 B_a1 D_a1 g_a1 g_t hk1 (by omega)) hZ (hwi hw 309 rfl) (hwi hw 104 rfl) (by decide) (by decide)) (g := (mkF m 24 #[vR a1, vI (Int32.ofNat kk), vI (Int32.ofNat cap)] [(.int (Int32.ofNat kk)), (.ref a1), (.ref t), (.ref a1)])) rfl (by rw [hml]; rfl) (Steps.refl _) (a := a1) (by rw [e4]; exact q5) q5' (argsL := [(.int (Int32.ofNat kk))]) (rest := [(.ref t), (.ref a1)]) (lenOf pd__I_I rfl) rfl (by show 2 * 0 + _ ≤ _; exact Nat.le_of_eq rfl) (hb hby (dq dz26 17 24 rfl)) (fun _ _ => ⟨rfl, e4, (by decide : 0 + 0 ≤ _), (by decide : 0 + 0 ≤ _)⟩)) (fun _ _ _ q => q) N0 (fun T5 L5 X5 e5q N5 => ?_)
  show Go _ _ _ _ _ _ _  T5 (mkF m 27 #[vR a1, vI (Int32.ofNat kk), vI (Int32.ofNat cap)] [(.int (Int32.ofNat (cap + max (kk - cap) (cap + 2)))), (.ref t), (.ref a1)])
  refine Go.st (fun _ => XS.aloadN X5.here hx rfl (hb hby (dq dz26 18 27 rfl)) rfl rfl) ?_
  show Go _ _ _ _ _ _ _  T5 (mkF m 28 #[vR a1, vI (Int32.ofNat kk), vI (Int32.ofNat cap)] [(.ref a1), (.int (Int32.ofNat (cap + max (kk - cap) (cap + 2)))), (.ref t), (.ref a1)])
  obtain ⟨T6, X6, e6, st6⟩ := getF X5 hx hZ hown (host := "") (Or.inl (hwi hw 110 rfl)) Via.refl e5q C_a1 (g := (mkF m 28 #[vR a1, vI (Int32.ofNat kk), vI (Int32.ofNat cap)] [(.ref a1), (.int (Int32.ofNat (cap + max (kk - cap) (cap + 2)))), (.ref t), (.ref a1)])) rfl rfl (hb hby (dq dz26 19 28 rfl))
  refine Go.st st6 ?_
  show Go _ _ _ _ _ _ _  T6 (mkF m 31 #[vR a1, vI (Int32.ofNat kk), vI (Int32.ofNat cap)] [(.int (own_cd cs)), (.int (Int32.ofNat (cap + max (kk - cap) (cap + 2)))), (.ref t), (.ref a1)])
  refine Go.st (fun _ => XS.ishl X6.here hx rfl (hb hby (dq dz26 20 31 rfl)) rfl) ?_
  show Go _ _ _ _ _ _ _  T6 (mkF m 32 #[vR a1, vI (Int32.ofNat kk), vI (Int32.ofNat cap)] [(.int ((Int32.ofNat (cap + max (kk - cap) (cap + 2))) <<< ((own_cd cs) &&& 31))), (.ref t), (.ref a1)])
  rw [own_shlcd cs (by omega)]
  show Go _ _ _ _ _ _ _  T6 (mkF m 32 #[vR a1, vI (Int32.ofNat kk), vI (Int32.ofNat cap)] [(.int (Int32.ofNat (own_cl cs (cap + max (kk - cap) (cap + 2))))), (.ref t), (.ref a1)])
  obtain ⟨_, _, ⟨T7, L7, k7, n7⟩, -, X7, ⟨Lc7, hQ7, l7, y7, z7⟩, st7⟩ := Jvm.LawKit.callS X6 hx (y := mY9) hown (mvT hZ (hwi hw 319 rfl)) (mvT hZ (hwi hw 320 rfl)) (mvT hZ (hwi hw 199 rfl)) (mvT hZ (hwi hw 321 rfl)) (by decide) (backOf (W := 1) (rmCO l Z a0 hw [] t (own_cl cs (cap + max (kk - cap) (cap + 2))) kd (own_cl cs cap) ((own_by cs).map Value.int) h0 n0 O A_t (by rw [own_lapn (ys := [])]; exact own_clle cs K_a1) (own_clle cs (by omega)) (fun q => absurd (own_clinj cs q) (by omega)) (by have := own_clb cs (cap + max (kk - cap) (cap + 2)); omega)) hZ (hwi hw 321 rfl) (hwi hw 199 rfl) (by decide) (by decide)) (g := (mkF m 32 #[vR a1, vI (Int32.ofNat kk), vI (Int32.ofNat cap)] [(.int (Int32.ofNat (own_cl cs (cap + max (kk - cap) (cap + 2))))), (.ref t), (.ref a1)])) rfl (by rw [hml]; rfl) (argsL := [(.ref t), (.int (Int32.ofNat (own_cl cs (cap + max (kk - cap) (cap + 2)))))]) (rest := [(.ref a1)]) (lenOf pd___BI__B rfl) rfl (by show 2 * 0 + _ ≤ _; exact Nat.le_of_eq rfl) (hb hby (dq dz26 21 32 rfl)) (fun _ _ => ⟨rfl, e6, (by decide : 0 + 1 ≤ _), (by decide : 0 + 68 ≤ _)⟩)
  dsimp only [Pt.U, Pt.locs, Pt.cells, Pt.slots] at X7 l7 y7 z7 st7 hQ7
  rw [l7, y7, z7] at X7
  have X7 : Stand p l e _ _ m _ below meth c T7 _ 1 68 := X7
  obtain ⟨t7, kt7, rfl, N7q, E7q, lt7, Vq7⟩ := hQ7
  have N7 := Fr.app N5 N7q
  refine Go.st st7 ?_
  have g_t7 : n0 ≤ t7 := Nat.le_trans (own_le O) lt7
  have sz_t7 : h0.size ≤ t7 := Nat.le_trans KK.1 lt7
  have ne_a1_t7 : a1 ≠ t7 := Nat.ne_of_lt (Nat.lt_of_lt_of_le E_a1.lt lt7)
  have ne_t_t7 : t ≠ t7 := Nat.ne_of_lt (Nat.lt_of_lt_of_le A_t.lt lt7)
  have E7 := E7q
  have E_a1 := E_a1.ext E7
  have A_t := A_t.ext E7
  have C_a1 := C_a1.ext E7
  have V_a1 := V_a1.ext E7
  have N_a1 := N_a1.ext E7
  have M_a1 := M_a1.ext E7
  have O := O.ext E7
  have KK := KK.ext E7
  show Go _ _ _ _ _ _ _  T7 (mkF m 35 #[vR a1, vI (Int32.ofNat kk), vI (Int32.ofNat cap)] [(.ref t7), (.ref a1)])
  obtain ⟨T8, h8, X8, e8, W8, st8⟩ := putF X7 hx hZ hown (host := "") (Or.inl (hwi hw 108 rfl)) Via.refl rfl V_a1 E_a1 (Or.inl (hwi hw 109 rfl)) (hwi hw 95 rfl) (ty := (.array .byte)) (by decide) rfl rfl (g := (mkF m 35 #[vR a1, vI (Int32.ofNat kk), vI (Int32.ofNat cap)] [(.ref t7), (.ref a1)])) rfl rfl (hb hby (dq dz26 22 35 rfl))
  refine Go.st st8 ?_
  have V_a1 : Fld Z h8 a1 "java/lang/AbstractStringBuilder" "value" "[B" (.ref t7) := V_a1.same W8
  have N8 := Fr.snoc X8 N7 g_a1
  have ne_t_a1 : t ≠ a1 := (Ne.symm (Exa.neArv E_a1 A_t (hwi hw 95 rfl)))
  have E_a1 := E_a1.wr W8
  have A_t := A_t.other W8 ne_t_a1
  have C_a1 := C_a1.other W8 (Or.inr (slot_ne (Or.inl (hwi hw 111 rfl)) (Or.inl (hwi hw 109 rfl)) (by decide) (t := .byte) (t' := (.array .byte)) (by decide) (by decide)))
  have N_a1 := N_a1.other W8 (Or.inr (slot_ne (Or.inl (hwi hw 127 rfl)) (Or.inl (hwi hw 109 rfl)) (by decide) (t := .int) (t' := (.array .byte)) (by decide) (by decide)))
  have M_a1 := M_a1.other W8 (Or.inr (slot_ne (Or.inl (hwi hw 295 rfl)) (Or.inl (hwi hw 109 rfl)) (by decide) (t := .boolean) (t' := (.array .byte)) (by decide) (by decide)))
  have Vq7 := Vq7.other W8 (Ne.symm ne_a1_t7)
  have O := O.wr W8 g_a1
  have KK := KK.wr W8 (Or.inl (List.mem_of_getElem? (i := 0) rfl))
  show Go _ _ _ _ _ _ _  T8 (mkF m 38 #[vR a1, vI (Int32.ofNat kk), vI (Int32.ofNat cap)] [])
  refine Go.ret0 X8 hlk hx Bd.returns (hb hby (dq dz26 11 38 rfl)) (by decide) (by decide) ?_
  show Q_rmE1U Z _ _ _ _ _ _ h0 n0 _ T8.heap _
  rw [e8]
  exact ⟨rfl, N8, KK, t7, _, sz_t7, E_a1, C_a1, V_a1, N_a1, M_a1, Vq7⟩
def Q_rmEw (Z : State) (a1 : Addr) (kk : Nat) (t : Addr) (kd : ClassId) (cs : List Int32) (cap : Nat) (m0 : Nat) (h0 : Heap) (n0 : Nat) (v : Option Value) (h : Heap) (L : List Loc) : Prop := v = none ∧ Fr n0 L ∧ Keep h0 h [a1, t] ∧ ∃ (b : Addr) (kb : ClassId) (cap2 : Nat), kk ≤ cap2 ∧ cs.length ≤ cap2 ∧ (b = t ∨ h0.size ≤ b) ∧ n0 ≤ b ∧ m0 ≤ b ∧ Exa Z h a1 "java/lang/StringBuilder" ∧ Fld Z h a1 "java/lang/AbstractStringBuilder" "coder" "B" (.int (own_cd cs)) ∧ Fld Z h a1 "java/lang/AbstractStringBuilder" "value" "[B" (.ref b) ∧ Fld Z h a1 "java/lang/AbstractStringBuilder" "count" "I" (.int (Int32.ofNat cs.length)) ∧ Fld Z h a1 "java/lang/AbstractStringBuilder" "maybeLatin1" "Z" (.int 0) ∧ Arv Z h b kb .byte (Int32.ofNat (own_cl cs cap2)) ((own_by cs).map Value.int) (.int 0) ∧ 16 ≤ cap2 ∧ cap2 ≤ 34 ∧ (Exa Z h b "[B" ∨ 17 < cap2)
theorem rmEw (l : Launch) (Z : State) (a0 : Array Value) (hw : HWt a0 Z) (ws : List Jvm.Cond) (a1 : Addr) (kk : Nat) (t : Addr) (kd : ClassId) (cs : List Int32) (cap : Nat) (m0 : Nat) (h0 : Heap) (n0 : Nat) (O : Old Z n0 h0) (E_a1 : Exa Z h0 a1 "java/lang/StringBuilder") (C_a1 : Fld Z h0 a1 "java/lang/AbstractStringBuilder" "coder" "B" (.int (own_cd cs))) (V_a1 : Fld Z h0 a1 "java/lang/AbstractStringBuilder" "value" "[B" (.ref t)) (N_a1 : Fld Z h0 a1 "java/lang/AbstractStringBuilder" "count" "I" (.int (Int32.ofNat cs.length))) (M_a1 : Fld Z h0 a1 "java/lang/AbstractStringBuilder" "maybeLatin1" "Z" (.int 0)) (A_t : Arv Z h0 t kd .byte (Int32.ofNat (own_cl cs cap)) ((own_by cs).map Value.int) (.int 0)) (K_a1 : cs.length ≤ cap) (B_a1 : 16 ≤ cap) (D_a1 : cap ≤ 34) (g_a1 : n0 ≤ a1) (g_t : n0 ≤ t) (hm1 : m0 ≤ t) (hm2 : m0 ≤ h0.size) (XX : Exa Z h0 t "[B" ∨ 17 < cap) (hk2 : kk ≤ 17) :
    Met l mY10 (Jvm.Cond.code mY10 jdk_68_method_9_code 3 none :: ws) rz3_1_68_48 #[(.ref a1), (.int (Int32.ofNat kk))] Z h0 (Q_rmEw Z a1 kk t kd cs cap m0 h0 n0) := by
  by_cases hk : kk ≤ cap
  · refine own_wide (rmE0U l Z a0 hw ws a1 kk t kd cs cap h0 n0 O E_a1 C_a1 V_a1 N_a1 M_a1 A_t K_a1 B_a1 D_a1 g_a1 g_t hk) (by decide) (by decide) (by decide) (by decide) (fun v h L q => ?_)
    obtain ⟨q1, q2, rfl⟩ := q
    exact ⟨q1, q2, Keep.refl _ _, t, kd, cap, hk, K_a1, Or.inl rfl, g_t, hm1, E_a1, C_a1, V_a1, N_a1, M_a1, A_t, B_a1, D_a1, XX⟩
  · refine own_wide (rmE1U l Z a0 hw ws a1 kk t kd cs cap h0 n0 O E_a1 C_a1 V_a1 N_a1 M_a1 A_t K_a1 B_a1 D_a1 g_a1 g_t (Nat.lt_of_not_le hk) hk2) (by decide) (by decide) (by decide) (by decide) (fun v h L q => ?_)
    obtain ⟨q1, q2, q3, b, kb, lb, e1, e2, e3, e4, e5, e6⟩ := q
    exact ⟨q1, q2, own_kw q3, b, kb, _, by omega, by omega, Or.inr lb, Nat.le_trans (own_le O) lb, Nat.le_trans hm2 lb, e1, e2, e3, e4, e5, e6, by omega, by omega, Or.inr (by omega)⟩
def Q_rmU16L (Z : State) (a1 : Addr) (k1 : ClassId) (mq : Nat) (bs : List Value) (h0 : Heap) (n0 : Nat) (v : Option Value) (h : Heap) (L : List Loc) : Prop := v = some (.int (Int32.ofNat mq)) ∧ Fr n0 L ∧ h = h0
theorem rmU16L (l : Launch) (Z : State) (a0 : Array Value) (hw : HWt a0 Z) (ws : List Jvm.Cond) (a1 : Addr) (k1 : ClassId) (mq : Nat) (bs : List Value) (h0 : Heap) (n0 : Nat) (O : Old Z n0 h0) (A_a1 : Arv Z h0 a1 k1 .byte (Int32.ofNat (2 * mq)) bs (.int 0)) (hm : mq < 1000) :
    Met l mY42 (Jvm.Cond.code mY42 jdk_52_method_6_code 1 (some .int) :: ws) rz0_0_0_0 #[(.ref a1)] Z h0 (Q_rmU16L Z a1 k1 mq bs h0 n0) := by
  refine MetFree.of_bodySF (plainFor_of_name pn_60) hisR ?_
  intro p e s m args below meth c s₁ Bd hml0 hP hK
  obtain ⟨rfl, hZ, hh⟩ := hP
  have hx := Bd.exec
  have hby := Bd.bytes
  have hml : c.maxLocals = 1 := hml0
  have hlk : meth.locks = false := BodyLoose.notSynchronized Bd
  have X0 : Stand p l e rz0_0_0_0 s m #[(.ref a1)] below meth c s₁ [] 0 0 := Stand.of_body Bd
  have e0 : s₁.heap = h0 := by rw [← hh, Bd.state]; rfl
  have N0 := Fr.nil n0
  show Go p e below s rz0_0_0_0.cells rz0_0_0_0.slots (Q_rmU16L Z a1 k1 mq bs h0 n0) s₁ (entryFrame m #[(.ref a1)] 1)
  refine Go.eq (ef_rmU16L m a1) ?_
  show Go _ _ _ _ _ _ _  s₁ (mkF m 0 #[vR a1] [])
  refine Go.st (fun _ => XS.aloadN X0.here hx rfl (hb hby (dq dz60 0 0 rfl)) rfl rfl) ?_
  show Go _ _ _ _ _ _ _  s₁ (mkF m 1 #[vR a1] [(.ref a1)])
  obtain ⟨cl1, Ar1, q1, S1, M1, Hh1, G1⟩ := id A_a1
  refine Go.st (X0.arraylength hx (by rw [e0]; exact Ar1.1) (State.isArrayOf_alike hZ.alike Ar1.2.1) (g := (mkF m 1 #[vR a1] [(.ref a1)])) rfl rfl (hb hby (dq dz60 1 1 rfl))) ?_
  rw [len_of S1 M1]
  show Go _ _ _ _ _ _ _  s₁ (mkF m 2 #[vR a1] [(.int (Int32.ofNat (2 * mq)))])
  refine Go.st (fun _ => XS.iconst X0.here hx rfl (hb hby (dq dz60 2 2 rfl))) ?_
  refine Go.st (fun _ => XS.ishr X0.here hx rfl (hb hby (dq dz60 3 3 rfl)) rfl) ?_
  show Go _ _ _ _ _ _ _  s₁ (mkF m 4 #[vR a1] [(.int ((Int32.ofNat (2 * mq)) >>> ((1 : Int32) &&& 31)))])
  rw [own_shr1 (by omega)]
  show Go _ _ _ _ _ _ _  s₁ (mkF m 4 #[vR a1] [(.int (Int32.ofNat mq))])
  refine Go.retI X0 hlk hx Bd.returns (hb hby (dq dz60 4 4 rfl)) (by decide) (by decide) ?_
  show Q_rmU16L Z _ _ _ _ h0 n0 _ s₁.heap _
  rw [e0]
  exact ⟨rfl, N0, rfl⟩
def Q_rmPFS (Z : State) (fm : Value) (d : Nat) (n : Nat) (mq : Nat) (h0 : Heap) (n0 : Nat) (v : Option Value) (h : Heap) (L : List Loc) : Prop := v = some (.int (Int32.ofNat d)) ∧ Fr n0 L ∧ h = h0
theorem rmPFS (l : Launch) (Z : State) (a0 : Array Value) (hw : HWt a0 Z) (ws : List Jvm.Cond) (fm : Value) (d : Nat) (n : Nat) (mq : Nat) (h0 : Heap) (n0 : Nat) (O : Old Z n0 h0) (ref_fm : fm.isRef = true) (hdm : d + n ≤ mq) (hmb : mq < 1000) :
    Met l mY43 (Jvm.Cond.code mY43 jdk_41_method_13_code 4 (some .int) :: ws) rz0_0_0_0 #[(.int (Int32.ofNat d)), (.int (Int32.ofNat n)), (.int (Int32.ofNat mq)), fm] Z h0 (Q_rmPFS Z fm d n mq h0 n0) := by
  refine MetFree.of_bodySF (plainFor_of_name pn_62) hisR ?_
  intro p e s m args below meth c s₁ Bd hml0 hP hK
  obtain ⟨rfl, hZ, hh⟩ := hP
  have hx := Bd.exec
  have hby := Bd.bytes
  have hml : c.maxLocals = 4 := hml0
  have hlk : meth.locks = false := BodyLoose.notSynchronized Bd
  have X0 : Stand p l e rz0_0_0_0 s m #[(.int (Int32.ofNat d)), (.int (Int32.ofNat n)), (.int (Int32.ofNat mq)), fm] below meth c s₁ [] 0 0 := Stand.of_body Bd
  have e0 : s₁.heap = h0 := by rw [← hh, Bd.state]; rfl
  have N0 := Fr.nil n0
  show Go p e below s rz0_0_0_0.cells rz0_0_0_0.slots (Q_rmPFS Z fm d n mq h0 n0) s₁ (entryFrame m #[(.int (Int32.ofNat d)), (.int (Int32.ofNat n)), (.int (Int32.ofNat mq)), fm] 4)
  refine Go.eq (ef_rmPFS m (Int32.ofNat d) (Int32.ofNat n) (Int32.ofNat mq) fm ref_fm) ?_
  show Go _ _ _ _ _ _ _  s₁ (mkF m 0 #[vI (Int32.ofNat d), vI (Int32.ofNat n), vI (Int32.ofNat mq), .val fm] [])
  refine Go.st (fun _ => XS.iloadN X0.here hx rfl (hb hby (dq dz62 0 0 rfl)) rfl) ?_
  refine Go.st (fun _ => XS.iloadN X0.here hx rfl (hb hby (dq dz62 1 1 rfl)) rfl) ?_
  refine Go.st (fun _ => XS.ior X0.here hx rfl (hb hby (dq dz62 2 2 rfl)) rfl) ?_
  refine Go.st (fun _ => XS.iloadN X0.here hx rfl (hb hby (dq dz62 3 3 rfl)) rfl) ?_
  refine Go.st (fun _ => XS.ior X0.here hx rfl (hb hby (dq dz62 4 4 rfl)) rfl) ?_
  show Go _ _ _ _ _ _ _  s₁ (mkF m 5 #[vI (Int32.ofNat d), vI (Int32.ofNat n), vI (Int32.ofNat mq), .val fm] [(.int (((Int32.ofNat mq) ||| (Int32.ofNat d)) ||| (Int32.ofNat n)))])
  refine Go.st (fun _ => XS.ifNo X0.here hx rfl (hb hby (dq dz62 5 5 rfl)) rfl ((if0 _ _).trans (flt (own_ior3 (by omega) (by omega) (by omega) : ¬ ((((Int32.ofNat mq) ||| (Int32.ofNat d)) ||| (Int32.ofNat n)) < (0 : Int32)))).1)) ?_
  show Go _ _ _ _ _ _ _  s₁ (mkF m 8 #[vI (Int32.ofNat d), vI (Int32.ofNat n), vI (Int32.ofNat mq), .val fm] [])
  refine Go.st (fun _ => XS.iloadN X0.here hx rfl (hb hby (dq dz62 6 8 rfl)) rfl) ?_
  refine Go.st (fun _ => XS.iloadN X0.here hx rfl (hb hby (dq dz62 7 9 rfl)) rfl) ?_
  refine Go.st (fun _ => XS.iloadN X0.here hx rfl (hb hby (dq dz62 8 10 rfl)) rfl) ?_
  refine Go.st (fun _ => XS.isub X0.here hx rfl (hb hby (dq dz62 9 11 rfl)) rfl) ?_
  show Go _ _ _ _ _ _ _  s₁ (mkF m 12 #[vI (Int32.ofNat d), vI (Int32.ofNat n), vI (Int32.ofNat mq), .val fm] [(.int ((Int32.ofNat mq) - (Int32.ofNat d))), (.int (Int32.ofNat n))])
  rw [own_osub (by omega) (by omega)]
  show Go _ _ _ _ _ _ _  s₁ (mkF m 12 #[vI (Int32.ofNat d), vI (Int32.ofNat n), vI (Int32.ofNat mq), .val fm] [(.int (Int32.ofNat (mq - d))), (.int (Int32.ofNat n))])
  refine Go.st (fun _ => XS.icmpYes X0.here hx rfl (pc0 := 12) (pc' := 23) rfl (hb hby (dq dz62 10 12 rfl)) rfl (flt (fun q => absurd ((own_olt (by omega) (by omega)).mp q) (by omega) : ¬ ((Int32.ofNat (mq - d)) < (Int32.ofNat n)))).2.2.2 (by decide) (by decide)) ?_
  show Go _ _ _ _ _ _ _  s₁ (mkF m 23 #[vI (Int32.ofNat d), vI (Int32.ofNat n), vI (Int32.ofNat mq), .val fm] [])
  refine Go.st (fun _ => XS.iloadN X0.here hx rfl (hb hby (dq dz62 11 23 rfl)) rfl) ?_
  show Go _ _ _ _ _ _ _  s₁ (mkF m 24 #[vI (Int32.ofNat d), vI (Int32.ofNat n), vI (Int32.ofNat mq), .val fm] [(.int (Int32.ofNat d))])
  refine Go.retI X0 hlk hx Bd.returns (hb hby (dq dz62 12 24 rfl)) (by decide) (by decide) ?_
  show Q_rmPFS Z _ _ _ _ h0 n0 _ s₁.heap _
  rw [e0]
  exact ⟨rfl, N0, rfl⟩
def Q_rmSBO (Z : State) (fm : Value) (d : Nat) (n : Nat) (mq : Nat) (h0 : Heap) (n0 : Nat) (v : Option Value) (h : Heap) (L : List Loc) : Prop := v = some (.int (Int32.ofNat d)) ∧ Fr n0 L ∧ h = h0
theorem rmSBO (l : Launch) (Z : State) (a0 : Array Value) (hw : HWt a0 Z) (ws : List Jvm.Cond) (fm : Value) (d : Nat) (n : Nat) (mq : Nat) (h0 : Heap) (n0 : Nat) (O : Old Z n0 h0) (S_SIO : Sta Z Z.heap "jdk/internal/util/Preconditions" "SIOOBE_FORMATTER" "Ljava/util/function/BiFunction;" fm) (ref_fm : fm.isRef = true) (hdm : d + n ≤ mq) (hmb : mq < 1000) :
    Met l mY44 (Jvm.Cond.code mY44 jdk_42_method_157_code 3 (some .int) :: ws) rz1_0_0_15 #[(.int (Int32.ofNat d)), (.int (Int32.ofNat n)), (.int (Int32.ofNat mq))] Z h0 (Q_rmSBO Z fm d n mq h0 n0) := by
  refine MetFree.of_bodySF (plainFor_of_name pn_61) hisR ?_
  intro p e s m args below meth c s₁ Bd hml0 hP hK
  obtain ⟨rfl, hZ, hh⟩ := hP
  have hx := Bd.exec
  have hby := Bd.bytes
  have hml : c.maxLocals = 3 := hml0
  have hown : s.vm.findClass "java/lang/String" = some m.cls := findClass_of_methodNamed Bd.named
  have hlk : meth.locks = false := BodyLoose.notSynchronized Bd
  have X0 : Stand p l e rz1_0_0_15 s m #[(.int (Int32.ofNat d)), (.int (Int32.ofNat n)), (.int (Int32.ofNat mq))] below meth c s₁ [] 0 0 := Stand.of_body Bd
  have e0 : s₁.heap = h0 := by rw [← hh, Bd.state]; rfl
  have N0 := Fr.nil n0
  show Go p e below s rz1_0_0_15.cells rz1_0_0_15.slots (Q_rmSBO Z fm d n mq h0 n0) s₁ (entryFrame m #[(.int (Int32.ofNat d)), (.int (Int32.ofNat n)), (.int (Int32.ofNat mq))] 3)
  refine Go.eq (ef_rmSBO m (Int32.ofNat d) (Int32.ofNat n) (Int32.ofNat mq)) ?_
  show Go _ _ _ _ _ _ _  s₁ (mkF m 0 #[vI (Int32.ofNat d), vI (Int32.ofNat n), vI (Int32.ofNat mq)] [])
  refine Go.st (fun _ => XS.iloadN X0.here hx rfl (hb hby (dq dz61 0 0 rfl)) rfl) ?_
  refine Go.st (fun _ => XS.iloadN X0.here hx rfl (hb hby (dq dz61 1 1 rfl)) rfl) ?_
  refine Go.st (fun _ => XS.iloadN X0.here hx rfl (hb hby (dq dz61 2 2 rfl)) rfl) ?_
  show Go _ _ _ _ _ _ _  s₁ (mkF m 3 #[vI (Int32.ofNat d), vI (Int32.ofNat n), vI (Int32.ofNat mq)] [(.int (Int32.ofNat mq)), (.int (Int32.ofNat n)), (.int (Int32.ofNat d))])
  obtain ⟨T1, X1, e1, st1⟩ := getS2 X0 hx hZ hown (host := "") (Or.inl (hwi hw 80 rfl)) Via.refl e0 (S_SIO.ext O.2) (g := (mkF m 3 #[vI (Int32.ofNat d), vI (Int32.ofNat n), vI (Int32.ofNat mq)] [(.int (Int32.ofNat mq)), (.int (Int32.ofNat n)), (.int (Int32.ofNat d))])) rfl (hb hby (dq dz61 3 3 rfl))
  refine Go.st st1 ?_
  show Go _ _ _ _ _ _ _  T1 (mkF m 6 #[vI (Int32.ofNat d), vI (Int32.ofNat n), vI (Int32.ofNat mq)] [fm, (.int (Int32.ofNat mq)), (.int (Int32.ofNat n)), (.int (Int32.ofNat d))])
  refine Go.pureS (w := (some (.int (Int32.ofNat d)))) (rest := []) (pc' := 9) (Jvm.LawKit.callS X1 hx (y := mY43) hown (mvT hZ (hwi hw 284 rfl)) (mvT hZ (hwi hw 285 rfl)) (mvT hZ (hwi hw 81 rfl)) (mvT hZ (hwi hw 286 rfl)) (by decide) (backOf (W := 0) (rmPFS l Z a0 hw [] fm d n mq h0 n0 O ref_fm hdm hmb) hZ (hwi hw 286 rfl) (hwi hw 81 rfl) (by decide) (by decide)) (g := (mkF m 6 #[vI (Int32.ofNat d), vI (Int32.ofNat n), vI (Int32.ofNat mq)] [fm, (.int (Int32.ofNat mq)), (.int (Int32.ofNat n)), (.int (Int32.ofNat d))])) rfl (by rw [hml]; rfl) (argsL := [(.int (Int32.ofNat d)), (.int (Int32.ofNat n)), (.int (Int32.ofNat mq)), fm]) (rest := []) (lenOf pd__IIILjava_util_function_BiFunction__I rfl) rfl (by show 2 * 0 + _ ≤ _; exact Nat.le_of_eq rfl) (hb hby (dq dz61 4 6 rfl)) (fun _ _ => ⟨rfl, e1, (by decide : 0 + 0 ≤ _), (by decide : 0 + 0 ≤ _)⟩)) (fun _ _ _ q => q) N0 (fun T2 L2 X2 e2q N2 => ?_)
  show Go _ _ _ _ _ _ _  T2 (mkF m 9 #[vI (Int32.ofNat d), vI (Int32.ofNat n), vI (Int32.ofNat mq)] [(.int (Int32.ofNat d))])
  refine Go.retI X2 hlk hx Bd.returns (hb hby (dq dz61 5 9 rfl)) (by decide) (by decide) ?_
  show Q_rmSBO Z _ _ _ _ h0 n0 _ T2.heap _
  rw [e2q]
  exact ⟨rfl, N2, rfl⟩
def Q_rmUBO (Z : State) (a3 : Addr) (fm : Value) (d : Nat) (n : Nat) (mq : Nat) (k3 : ClassId) (bs : List Value) (h0 : Heap) (n0 : Nat) (v : Option Value) (h : Heap) (L : List Loc) : Prop := v = none ∧ Fr n0 L ∧ h = h0
theorem rmUBO (l : Launch) (Z : State) (a0 : Array Value) (hw : HWt a0 Z) (ws : List Jvm.Cond) (a3 : Addr) (fm : Value) (d : Nat) (n : Nat) (mq : Nat) (k3 : ClassId) (bs : List Value) (h0 : Heap) (n0 : Nat) (O : Old Z n0 h0) (S_SIO : Sta Z Z.heap "jdk/internal/util/Preconditions" "SIOOBE_FORMATTER" "Ljava/util/function/BiFunction;" fm) (ref_fm : fm.isRef = true) (hdm : d + n ≤ mq) (hmb : mq < 1000) (A_a3 : Arv Z h0 a3 k3 .byte (Int32.ofNat (2 * mq)) bs (.int 0)) :
    Met l mY45 (Jvm.Cond.code mY45 jdk_52_method_94_code 3 none :: ws) rz2_0_0_29 #[(.int (Int32.ofNat d)), (.int (Int32.ofNat n)), (.ref a3)] Z h0 (Q_rmUBO Z a3 fm d n mq k3 bs h0 n0) := by
  refine MetFree.of_bodySF (plainFor_of_name pn_59) hisR ?_
  intro p e s m args below meth c s₁ Bd hml0 hP hK
  obtain ⟨rfl, hZ, hh⟩ := hP
  have hx := Bd.exec
  have hby := Bd.bytes
  have hml : c.maxLocals = 3 := hml0
  have hown : s.vm.findClass "java/lang/StringUTF16" = some m.cls := findClass_of_methodNamed Bd.named
  have hlk : meth.locks = false := BodyLoose.notSynchronized Bd
  have X0 : Stand p l e rz2_0_0_29 s m #[(.int (Int32.ofNat d)), (.int (Int32.ofNat n)), (.ref a3)] below meth c s₁ [] 0 0 := Stand.of_body Bd
  have e0 : s₁.heap = h0 := by rw [← hh, Bd.state]; rfl
  have N0 := Fr.nil n0
  show Go p e below s rz2_0_0_29.cells rz2_0_0_29.slots (Q_rmUBO Z a3 fm d n mq k3 bs h0 n0) s₁ (entryFrame m #[(.int (Int32.ofNat d)), (.int (Int32.ofNat n)), (.ref a3)] 3)
  refine Go.eq (ef_rmUBO m (Int32.ofNat d) (Int32.ofNat n) a3) ?_
  show Go _ _ _ _ _ _ _  s₁ (mkF m 0 #[vI (Int32.ofNat d), vI (Int32.ofNat n), vR a3] [])
  refine Go.st (fun _ => XS.iloadN X0.here hx rfl (hb hby (dq dz59 0 0 rfl)) rfl) ?_
  refine Go.st (fun _ => XS.iloadN X0.here hx rfl (hb hby (dq dz59 1 1 rfl)) rfl) ?_
  refine Go.st (fun _ => XS.aloadN X0.here hx rfl (hb hby (dq dz59 2 2 rfl)) rfl rfl) ?_
  show Go _ _ _ _ _ _ _  s₁ (mkF m 3 #[vI (Int32.ofNat d), vI (Int32.ofNat n), vR a3] [(.ref a3), (.int (Int32.ofNat n)), (.int (Int32.ofNat d))])
  refine Go.pureS (w := (some (.int (Int32.ofNat mq)))) (rest := [(.int (Int32.ofNat n)), (.int (Int32.ofNat d))]) (pc' := 6) (Jvm.LawKit.callS X0 hx (y := mY42) hown (mvT hZ (hwi hw 278 rfl)) (mvT hZ (hwi hw 279 rfl)) (mvT hZ (hwi hw 21 rfl)) (mvT hZ (hwi hw 280 rfl)) (by decide) (backOf (W := 2) (rmU16L l Z a0 hw [] a3 k3 mq bs h0 n0 O A_a3 hmb) hZ (hwi hw 280 rfl) (hwi hw 21 rfl) (by decide) (by decide)) (g := (mkF m 3 #[vI (Int32.ofNat d), vI (Int32.ofNat n), vR a3] [(.ref a3), (.int (Int32.ofNat n)), (.int (Int32.ofNat d))])) rfl (by rw [hml]; rfl) (argsL := [(.ref a3)]) (rest := [(.int (Int32.ofNat n)), (.int (Int32.ofNat d))]) (lenOf pd___B_I rfl) rfl (by show 2 * 0 + _ ≤ _; exact Nat.le_of_eq rfl) (hb hby (dq dz59 3 3 rfl)) (fun _ _ => ⟨rfl, e0, (by decide : 0 + 0 ≤ _), (by decide : 0 + 0 ≤ _)⟩)) (fun _ _ _ q => q) N0 (fun T1 L1 X1 e1q N1 => ?_)
  show Go _ _ _ _ _ _ _  T1 (mkF m 6 #[vI (Int32.ofNat d), vI (Int32.ofNat n), vR a3] [(.int (Int32.ofNat mq)), (.int (Int32.ofNat n)), (.int (Int32.ofNat d))])
  refine Go.pureS (w := (some (.int (Int32.ofNat d)))) (rest := []) (pc' := 9) (Jvm.LawKit.callS X1 hx (y := mY44) hown (mvT hZ (hwi hw 281 rfl)) (mvT hZ (hwi hw 282 rfl)) (mvT hZ (hwi hw 7 rfl)) (mvT hZ (hwi hw 283 rfl)) (by decide) (backOf (W := 0) (rmSBO l Z a0 hw [] fm d n mq h0 n0 O S_SIO ref_fm hdm hmb) hZ (hwi hw 283 rfl) (hwi hw 7 rfl) (by decide) (by decide)) (g := (mkF m 6 #[vI (Int32.ofNat d), vI (Int32.ofNat n), vR a3] [(.int (Int32.ofNat mq)), (.int (Int32.ofNat n)), (.int (Int32.ofNat d))])) rfl (by rw [hml]; rfl) (argsL := [(.int (Int32.ofNat d)), (.int (Int32.ofNat n)), (.int (Int32.ofNat mq))]) (rest := []) (lenOf pd__III_I rfl) rfl (by show 2 * 0 + _ ≤ _; exact Nat.le_of_eq rfl) (hb hby (dq dz59 4 6 rfl)) (fun _ _ => ⟨rfl, e1q, (by decide : 0 + 0 ≤ _), (by decide : 0 + 0 ≤ _)⟩)) (fun _ _ _ q => q) N1 (fun T2 L2 X2 e2q N2 => ?_)
  show Go _ _ _ _ _ _ _  T2 (mkF m 9 #[vI (Int32.ofNat d), vI (Int32.ofNat n), vR a3] [(.int (Int32.ofNat d))])
  refine Go.st (fun _ => XS.pop X2.here hx rfl (hb hby (dq dz59 5 9 rfl)) rfl rfl) ?_
  show Go _ _ _ _ _ _ _  T2 (mkF m 10 #[vI (Int32.ofNat d), vI (Int32.ofNat n), vR a3] [])
  refine Go.ret0 X2 hlk hx Bd.returns (hb hby (dq dz59 6 10 rfl)) (by decide) (by decide) ?_
  show Q_rmUBO Z _ _ _ _ _ _ _ h0 n0 _ T2.heap _
  rw [e2q]
  exact ⟨rfl, N2, rfl⟩
def Q_rmUInf (Z : State) (a1 : Addr) (a3 : Addr) (fm : Value) (k1 : ClassId) (k3 : ClassId) (cs : List Int32) (ys : List Int32) (cap : Nat) (m1 : Nat) (h0 : Heap) (n0 : Nat) (v : Option Value) (h : Heap) (L : List Loc) : Prop := v = none ∧ Fr n0 L ∧ Keep h0 h [a3] ∧ Arv Z h a3 k3 .byte (Int32.ofNat (2 * cap)) ((own_ub (cs ++ ys)).map Value.int) (.int 0)
theorem rmUInf (l : Launch) (Z : State) (a0 : Array Value) (hw : HWt a0 Z) (ws : List Jvm.Cond) (a1 : Addr) (a3 : Addr) (fm : Value) (k1 : ClassId) (k3 : ClassId) (cs : List Int32) (ys : List Int32) (cap : Nat) (m1 : Nat) (h0 : Heap) (n0 : Nat) (O : Old Z n0 h0) (S_SIO : Sta Z Z.heap "jdk/internal/util/Preconditions" "SIOOBE_FORMATTER" "Ljava/util/function/BiFunction;" fm) (ref_fm : fm.isRef = true) (S_ad : Sta Z Z.heap "java/lang/StringUTF16" "$assertionsDisabled" "Z" (.int 1)) (S_hi : Sta Z Z.heap "java/lang/StringUTF16" "HI_BYTE_SHIFT" "I" (.int 0)) (S_lo : Sta Z Z.heap "java/lang/StringUTF16" "LO_BYTE_SHIFT" "I" (.int 8)) (A_a1 : Arv Z h0 a1 k1 .byte (Int32.ofNat m1) ((ys.map own_lo).map Value.int) (.int 0)) (A_a3 : Arv Z h0 a3 k3 .byte (Int32.ofNat (2 * cap)) ((own_ub cs).map Value.int) (.int 0)) (hcy : cs.length + ys.length ≤ cap) (hc40 : cap ≤ 34) (hm1 : ys.length ≤ m1) (hm2 : m1 < 1000) (ly : own_l1 ys = true) (hry : ∀ j, j < ys.length → nar .char (ys.getD j 0) = ys.getD j 0) (g_a3 : n0 ≤ a3) (ne_a1_a3 : a1 ≠ a3) :
    Met l mY46 (Jvm.Cond.code mY46 jdk_52_method_86_code 6 none :: ws) rz3_0_0_43 #[(.ref a1), (.int (0 : Int32)), (.ref a3), (.int (Int32.ofNat cs.length)), (.int (Int32.ofNat ys.length))] Z h0 (Q_rmUInf Z a1 a3 fm k1 k3 cs ys cap m1 h0 n0) := by
  refine MetFree.of_bodySF (plainFor_of_name pn_58) hisR ?_
  intro p e s m args below meth c s₁ Bd hml0 hP hK
  obtain ⟨rfl, hZ, hh⟩ := hP
  have hx := Bd.exec
  have hby := Bd.bytes
  have hml : c.maxLocals = 6 := hml0
  have hown : s.vm.findClass "java/lang/StringUTF16" = some m.cls := findClass_of_methodNamed Bd.named
  have hlk : meth.locks = false := BodyLoose.notSynchronized Bd
  have X0 : Stand p l e rz3_0_0_43 s m #[(.ref a1), (.int (0 : Int32)), (.ref a3), (.int (Int32.ofNat cs.length)), (.int (Int32.ofNat ys.length))] below meth c s₁ [] 0 0 := Stand.of_body Bd
  have e0 : s₁.heap = h0 := by rw [← hh, Bd.state]; rfl
  have N0 := Fr.nil n0
  have KK : Keep h0 h0 [a3] := Keep.refl h0 _
  show Go p e below s rz3_0_0_43.cells rz3_0_0_43.slots (Q_rmUInf Z a1 a3 fm k1 k3 cs ys cap m1 h0 n0) s₁ (entryFrame m #[(.ref a1), (.int (0 : Int32)), (.ref a3), (.int (Int32.ofNat cs.length)), (.int (Int32.ofNat ys.length))] 6)
  refine Go.eq (ef_rmUInf m a1 (0 : Int32) a3 (Int32.ofNat cs.length) (Int32.ofNat ys.length)) ?_
  show Go _ _ _ _ _ _ _  s₁ (mkF m 0 #[vR a1, vI (0 : Int32), vR a3, vI (Int32.ofNat cs.length), vI (Int32.ofNat ys.length), uS] [])
  refine Go.st (fun _ => XS.iloadN X0.here hx rfl (hb hby (dq dz58 0 0 rfl)) rfl) ?_
  refine Go.st (fun _ => XS.iload X0.here hx rfl (hb hby (dq dz58 1 1 rfl)) rfl) ?_
  refine Go.st (fun _ => XS.aloadN X0.here hx rfl (hb hby (dq dz58 2 3 rfl)) rfl rfl) ?_
  show Go _ _ _ _ _ _ _  s₁ (mkF m 4 #[vR a1, vI (0 : Int32), vR a3, vI (Int32.ofNat cs.length), vI (Int32.ofNat ys.length), uS] [(.ref a3), (.int (Int32.ofNat ys.length)), (.int (Int32.ofNat cs.length))])
  refine Go.pureS (w := none) (rest := []) (pc' := 7) (Jvm.LawKit.callS X0 hx (y := mY45) hown (mvT hZ (hwi hw 275 rfl)) (mvT hZ (hwi hw 276 rfl)) (mvT hZ (hwi hw 21 rfl)) (mvT hZ (hwi hw 277 rfl)) (by decide) (backOf (W := 0) (rmUBO l Z a0 hw [] a3 fm cs.length ys.length cap k3 ((own_ub cs).map Value.int) h0 n0 O S_SIO ref_fm hcy (by omega) A_a3) hZ (hwi hw 277 rfl) (hwi hw 21 rfl) (by decide) (by decide)) (g := (mkF m 4 #[vR a1, vI (0 : Int32), vR a3, vI (Int32.ofNat cs.length), vI (Int32.ofNat ys.length), uS] [(.ref a3), (.int (Int32.ofNat ys.length)), (.int (Int32.ofNat cs.length))])) rfl (by rw [hml]; rfl) (argsL := [(.int (Int32.ofNat cs.length)), (.int (Int32.ofNat ys.length)), (.ref a3)]) (rest := []) (lenOf pd__II_B_V rfl) rfl (by show 2 * 0 + _ ≤ _; exact Nat.le_of_eq rfl) (hb hby (dq dz58 3 4 rfl)) (fun _ _ => ⟨rfl, e0, (by decide : 0 + 0 ≤ _), (by decide : 0 + 0 ≤ _)⟩)) (fun _ _ _ q => q) N0 (fun T1 L1 X1 e1q N1 => ?_)
  show Go _ _ _ _ _ _ _  T1 (mkF m 7 #[vR a1, vI (0 : Int32), vR a3, vI (Int32.ofNat cs.length), vI (Int32.ofNat ys.length), uS] [])
  refine Go.st (fun _ => XS.iconst X1.here hx rfl (hb hby (dq dz58 4 7 rfl))) ?_
  refine Go.st (fun _ => XS.istore X1.here hx rfl (hb hby (dq dz58 5 8 rfl)) rfl (l' := #[vR a1, vI (0 : Int32), vR a3, vI (Int32.ofNat cs.length), vI (Int32.ofNat ys.length), vI (0 : Int32)]) rfl) ?_
  have loop : ∀ (k9 : Nat) (T9 : State) (h9 : Heap) (Lz : List Loc) (i : Nat), ys.length - i = k9 → Stand p l e rz3_0_0_43 s m #[(.ref a1), (.int (0 : Int32)), (.ref a3), (.int (Int32.ofNat cs.length)), (.int (Int32.ofNat ys.length))] below meth c T9 Lz 0 0 → T9.heap = h9 → Old Z n0 h9 → Fr n0 Lz → Keep h0 h9 [a3] → (Arv Z h9 a1 k1 .byte (Int32.ofNat m1) ((ys.map own_lo).map Value.int) (.int 0)) → (Arv Z h9 a3 k3 .byte (Int32.ofNat (2 * cap)) ((own_ub (cs ++ ys.take i)).map Value.int) (.int 0)) → (i ≤ ys.length) → Go p e below s rz3_0_0_43.cells rz3_0_0_43.slots (Q_rmUInf Z a1 a3 fm k1 k3 cs ys cap m1 h0 n0) T9 (mkF m 10 #[vR a1, vI (Int32.ofNat i), vR a3, vI (Int32.ofNat (cs.length + i)), vI (Int32.ofNat ys.length), vI (Int32.ofNat i)] []) := by
    intro k9
    induction k9 with
    | zero =>
      intro T9 h9 Lz i hk9 X9 e9 O N9 KK A_a1 A_a3 hi
      refine Go.st (fun _ => XS.iload X9.here hx rfl (hb hby (dq dz58 6 10 rfl)) rfl) ?_
      refine Go.st (fun _ => XS.iload X9.here hx rfl (hb hby (dq dz58 7 12 rfl)) rfl) ?_
      show Go _ _ _ _ _ _ _  T9 (mkF m 14 #[vR a1, vI (Int32.ofNat i), vR a3, vI (Int32.ofNat (cs.length + i)), vI (Int32.ofNat ys.length), vI (Int32.ofNat i)] [(.int (Int32.ofNat ys.length)), (.int (Int32.ofNat i))])
      refine Go.st (fun _ => XS.icmpYes X9.here hx rfl (pc0 := 14) (pc' := 41) rfl (hb hby (dq dz58 8 14 rfl)) rfl (flt (fun q => absurd ((own_olt (by omega) (by omega)).mp q) (by omega) : ¬ ((Int32.ofNat i) < (Int32.ofNat ys.length)))).2.1 (by decide) (by decide)) ?_
      show Go _ _ _ _ _ _ _  T9 (mkF m 41 #[vR a1, vI (Int32.ofNat i), vR a3, vI (Int32.ofNat (cs.length + i)), vI (Int32.ofNat ys.length), vI (Int32.ofNat i)] [])
      refine Go.ret0 X9 hlk hx Bd.returns (hb hby (dq dz58 9 41 rfl)) (by decide) (by decide) ?_
      show Q_rmUInf Z _ _ _ _ _ _ _ _ _ h0 n0 _ T9.heap _
      rw [e9]
      have q : i = ys.length := by omega
      rw [q, List.take_length] at A_a3
      exact ⟨rfl, N9, KK, A_a3⟩
    | succ k9 ih =>
      intro T9 h9 Lz i hk9 X9 e9 O N9 KK A_a1 A_a3 hi
      refine Go.st (fun _ => XS.iload X9.here hx rfl (hb hby (dq dz58 6 10 rfl)) rfl) ?_
      refine Go.st (fun _ => XS.iload X9.here hx rfl (hb hby (dq dz58 7 12 rfl)) rfl) ?_
      show Go _ _ _ _ _ _ _  T9 (mkF m 14 #[vR a1, vI (Int32.ofNat i), vR a3, vI (Int32.ofNat (cs.length + i)), vI (Int32.ofNat ys.length), vI (Int32.ofNat i)] [(.int (Int32.ofNat ys.length)), (.int (Int32.ofNat i))])
      refine Go.st (fun _ => XS.icmpNo X9.here hx rfl (hb hby (dq dz58 8 14 rfl)) rfl (tlt ((own_olt (by omega) (by omega)).mpr (by omega) : (Int32.ofNat i) < (Int32.ofNat ys.length))).2.1) ?_
      have hiy : i < ys.length := by omega
      show Go _ _ _ _ _ _ _  T9 (mkF m 17 #[vR a1, vI (Int32.ofNat i), vR a3, vI (Int32.ofNat (cs.length + i)), vI (Int32.ofNat ys.length), vI (Int32.ofNat i)] [])
      refine Go.st (fun _ => XS.aloadN X9.here hx rfl (hb hby (dq dz58 10 17 rfl)) rfl rfl) ?_
      refine Go.st (fun _ => XS.iloadN X9.here hx rfl (hb hby (dq dz58 11 18 rfl)) rfl) ?_
      show Go _ _ _ _ _ _ _  T9 (mkF m 19 #[vR a1, vI (Int32.ofNat i), vR a3, vI (Int32.ofNat (cs.length + i)), vI (Int32.ofNat ys.length), vI (Int32.ofNat i)] [(.int (Int32.ofNat (cs.length + i))), (.ref a3)])
      refine Go.st (fun _ => XS.iinc X9.here hx rfl (hb hby (dq dz58 12 19 rfl)) rfl (l' := #[vR a1, vI (Int32.ofNat i), vR a3, vI ((Int32.ofNat (cs.length + i)) + (1 : Int32)), vI (Int32.ofNat ys.length), vI (Int32.ofNat i)]) rfl) ?_
      show Go _ _ _ _ _ _ _  T9 (mkF m 22 #[vR a1, vI (Int32.ofNat i), vR a3, vI ((Int32.ofNat (cs.length + i)) + (1 : Int32)), vI (Int32.ofNat ys.length), vI (Int32.ofNat i)] [(.int (Int32.ofNat (cs.length + i))), (.ref a3)])
      rw [own_1inc]
      show Go _ _ _ _ _ _ _  T9 (mkF m 22 #[vR a1, vI (Int32.ofNat i), vR a3, vI (Int32.ofNat ((cs.length + i) + 1)), vI (Int32.ofNat ys.length), vI (Int32.ofNat i)] [(.int (Int32.ofNat (cs.length + i))), (.ref a3)])
      refine Go.st (fun _ => XS.aloadN X9.here hx rfl (hb hby (dq dz58 13 22 rfl)) rfl rfl) ?_
      refine Go.st (fun _ => XS.iloadN X9.here hx rfl (hb hby (dq dz58 14 23 rfl)) rfl) ?_
      show Go _ _ _ _ _ _ _  T9 (mkF m 24 #[vR a1, vI (Int32.ofNat i), vR a3, vI (Int32.ofNat ((cs.length + i) + 1)), vI (Int32.ofNat ys.length), vI (Int32.ofNat i)] [(.int (Int32.ofNat i)), (.ref a1), (.int (Int32.ofNat (cs.length + i))), (.ref a3)])
      refine Go.st (fun _ => XS.iinc X9.here hx rfl (hb hby (dq dz58 15 24 rfl)) rfl (l' := #[vR a1, vI ((Int32.ofNat i) + (1 : Int32)), vR a3, vI (Int32.ofNat ((cs.length + i) + 1)), vI (Int32.ofNat ys.length), vI (Int32.ofNat i)]) rfl) ?_
      show Go _ _ _ _ _ _ _  T9 (mkF m 27 #[vR a1, vI ((Int32.ofNat i) + (1 : Int32)), vR a3, vI (Int32.ofNat ((cs.length + i) + 1)), vI (Int32.ofNat ys.length), vI (Int32.ofNat i)] [(.int (Int32.ofNat i)), (.ref a1), (.int (Int32.ofNat (cs.length + i))), (.ref a3)])
      rw [own_1inc]
      show Go _ _ _ _ _ _ _  T9 (mkF m 27 #[vR a1, vI (Int32.ofNat (i + 1)), vR a3, vI (Int32.ofNat ((cs.length + i) + 1)), vI (Int32.ofNat ys.length), vI (Int32.ofNat i)] [(.int (Int32.ofNat i)), (.ref a1), (.int (Int32.ofNat (cs.length + i))), (.ref a3)])
      obtain ⟨cl2, Ar2, q2, S2, M2, Hh2, G2⟩ := id A_a1
      refine Go.st (X9.baloadBytes hx (j := (Int32.ofNat i)) (v := (.int (own_lo (ys.getD i 0)))) (by rw [e9]; exact Ar2.1) (State.isArrayOf_alike hZ.alike Ar2.2.1) Ar2.2.2 (inb_of S2 ⟨own_onn (by omega), (own_olt (by omega) (by omega)).mpr (by omega)⟩) (Hh2.at (inb_of S2 ⟨own_onn (by omega), (own_olt (by omega) (by omega)).mpr (by omega)⟩) (by rw [own_ocl (by omega)]; exact own_gml ys i)) (g := (mkF m 27 #[vR a1, vI (Int32.ofNat (i + 1)), vR a3, vI (Int32.ofNat ((cs.length + i) + 1)), vI (Int32.ofNat ys.length), vI (Int32.ofNat i)] [(.int (Int32.ofNat i)), (.ref a1), (.int (Int32.ofNat (cs.length + i))), (.ref a3)])) rfl rfl (hb hby (dq dz58 16 27 rfl))) ?_
      show Go _ _ _ _ _ _ _  T9 (mkF m 28 #[vR a1, vI (Int32.ofNat (i + 1)), vR a3, vI (Int32.ofNat ((cs.length + i) + 1)), vI (Int32.ofNat ys.length), vI (Int32.ofNat i)] [(.int (own_lo (ys.getD i 0))), (.int (Int32.ofNat (cs.length + i))), (.ref a3)])
      refine Go.st (fun _ => XS.sipush X9.here hx rfl (hb hby (dq dz58 17 28 rfl))) ?_
      refine Go.st (fun _ => XS.iand X9.here hx rfl (hb hby (dq dz58 18 31 rfl)) rfl) ?_
      show Go _ _ _ _ _ _ _  T9 (mkF m 32 #[vR a1, vI (Int32.ofNat (i + 1)), vR a3, vI (Int32.ofNat ((cs.length + i) + 1)), vI (Int32.ofNat ys.length), vI (Int32.ofNat i)] [(.int ((own_lo (ys.getD i 0)) &&& (255 : Int32))), (.int (Int32.ofNat (cs.length + i))), (.ref a3)])
      rw [own_lo255 (own_l1g ly hiy) (hry i hiy)]
      show Go _ _ _ _ _ _ _  T9 (mkF m 32 #[vR a1, vI (Int32.ofNat (i + 1)), vR a3, vI (Int32.ofNat ((cs.length + i) + 1)), vI (Int32.ofNat ys.length), vI (Int32.ofNat i)] [(.int (ys.getD i 0)), (.int (Int32.ofNat (cs.length + i))), (.ref a3)])
      obtain ⟨_, _, ⟨T3, L3, k3, n3⟩, -, X3, ⟨Lc3, hQ3, l3, y3, z3⟩, st3⟩ := Jvm.LawKit.callS X9 hx (y := mY28) hown (mvT hZ (hwi hw 233 rfl)) (mvT hZ (hwi hw 234 rfl)) (mvT hZ (hwi hw 21 rfl)) (mvT hZ (hwi hw 235 rfl)) (by decide) (backOf (W := 0) (rmPutC l Z a0 hw [] a3 (ys.getD i 0) (cs.length + i) k3 (2 * cap) ((own_ub (cs ++ ys.take i)).map Value.int) h9 n0 O S_ad S_hi S_lo A_a3 (own_utl (by omega)) (by omega) (by omega) g_a3) hZ (hwi hw 235 rfl) (hwi hw 21 rfl) (by decide) (by decide)) (g := (mkF m 32 #[vR a1, vI (Int32.ofNat (i + 1)), vR a3, vI (Int32.ofNat ((cs.length + i) + 1)), vI (Int32.ofNat ys.length), vI (Int32.ofNat i)] [(.int (ys.getD i 0)), (.int (Int32.ofNat (cs.length + i))), (.ref a3)])) rfl (by rw [hml]; rfl) (argsL := [(.ref a3), (.int (Int32.ofNat (cs.length + i))), (.int (ys.getD i 0))]) (rest := []) (lenOf pd___BII_V rfl) rfl (by show 2 * 0 + _ ≤ _; exact Nat.le_of_eq rfl) (hb hby (dq dz58 19 32 rfl)) (fun _ _ => ⟨rfl, e9, (by decide : 0 + 0 ≤ _), (by decide : 0 + 0 ≤ _)⟩)
      dsimp only [Pt.U, Pt.locs, Pt.cells, Pt.slots] at X3 l3 y3 z3 st3 hQ3
      rw [l3, y3, z3] at X3
      have X3 : Stand p l e _ _ m _ below meth c T3 _ 0 0 := X3
      obtain ⟨rfl, N3q, K3q, Pq3⟩ := hQ3
      have N3 := Fr.app N9 N3q
      refine Go.st st3 ?_
      have A_a1 := A_a1.keep K3q (ninS ne_a1_a3 nin0)
      have O := O.keep K3q (allS g_a3 all0)
      have KK := KK.trans K3q (allS (Or.inl (List.mem_of_getElem? (i := 0) rfl)) all0)
      rw [own_tku2 hiy] at Pq3
      show Go _ _ _ _ _ _ _  T3 (mkF m 35 #[vR a1, vI (Int32.ofNat (i + 1)), vR a3, vI (Int32.ofNat ((cs.length + i) + 1)), vI (Int32.ofNat ys.length), vI (Int32.ofNat i)] [])
      refine Go.st (fun _ => XS.iinc X3.here hx rfl (hb hby (dq dz58 20 35 rfl)) rfl (l' := #[vR a1, vI (Int32.ofNat (i + 1)), vR a3, vI (Int32.ofNat ((cs.length + i) + 1)), vI (Int32.ofNat ys.length), vI ((Int32.ofNat i) + (1 : Int32))]) rfl) ?_
      show Go _ _ _ _ _ _ _  T3 (mkF m 38 #[vR a1, vI (Int32.ofNat (i + 1)), vR a3, vI (Int32.ofNat ((cs.length + i) + 1)), vI (Int32.ofNat ys.length), vI ((Int32.ofNat i) + (1 : Int32))] [])
      rw [own_1inc]
      show Go _ _ _ _ _ _ _  T3 (mkF m 38 #[vR a1, vI (Int32.ofNat (i + 1)), vR a3, vI (Int32.ofNat ((cs.length + i) + 1)), vI (Int32.ofNat ys.length), vI (Int32.ofNat (i + 1))] [])
      refine Go.st (fun _ => XS.goto X3.here hx rfl (pc0 := 38) (pc' := 10) rfl (hb hby (dq dz58 21 38 rfl)) (by decide) (by decide)) ?_
      show Go _ _ _ _ _ _ _  T3 (mkF m 10 #[vR a1, vI (Int32.ofNat (i + 1)), vR a3, vI (Int32.ofNat ((cs.length + i) + 1)), vI (Int32.ofNat ys.length), vI (Int32.ofNat (i + 1))] [])
      exact ih T3 T3.heap _ (i + 1) (by omega) X3 rfl O N3 KK A_a1 Pq3 (by omega)
  show Go _ _ _ _ _ _ _  T1 (mkF m 10 #[vR a1, vI (0 : Int32), vR a3, vI (Int32.ofNat cs.length), vI (Int32.ofNat ys.length), vI (0 : Int32)] [])
  exact loop _ T1 h0 _ 0 rfl X1 e1q O N1 KK A_a1 (by rw [List.take_zero, List.append_nil]; exact A_a3) (Nat.zero_le _)
def Q_rmLInf (Z : State) (a1 : Addr) (a3 : Addr) (fm : Value) (k1 : ClassId) (k3 : ClassId) (cs : List Int32) (ys : List Int32) (cap : Nat) (m1 : Nat) (h0 : Heap) (n0 : Nat) (v : Option Value) (h : Heap) (L : List Loc) : Prop := v = none ∧ Fr n0 L ∧ Keep h0 h [a3] ∧ Arv Z h a3 k3 .byte (Int32.ofNat (2 * cap)) ((own_ub (cs ++ ys)).map Value.int) (.int 0)
theorem rmLInf (l : Launch) (Z : State) (a0 : Array Value) (hw : HWt a0 Z) (ws : List Jvm.Cond) (a1 : Addr) (a3 : Addr) (fm : Value) (k1 : ClassId) (k3 : ClassId) (cs : List Int32) (ys : List Int32) (cap : Nat) (m1 : Nat) (h0 : Heap) (n0 : Nat) (O : Old Z n0 h0) (S_SIO : Sta Z Z.heap "jdk/internal/util/Preconditions" "SIOOBE_FORMATTER" "Ljava/util/function/BiFunction;" fm) (ref_fm : fm.isRef = true) (S_ad : Sta Z Z.heap "java/lang/StringUTF16" "$assertionsDisabled" "Z" (.int 1)) (S_hi : Sta Z Z.heap "java/lang/StringUTF16" "HI_BYTE_SHIFT" "I" (.int 0)) (S_lo : Sta Z Z.heap "java/lang/StringUTF16" "LO_BYTE_SHIFT" "I" (.int 8)) (A_a1 : Arv Z h0 a1 k1 .byte (Int32.ofNat m1) ((ys.map own_lo).map Value.int) (.int 0)) (A_a3 : Arv Z h0 a3 k3 .byte (Int32.ofNat (2 * cap)) ((own_ub cs).map Value.int) (.int 0)) (hcy : cs.length + ys.length ≤ cap) (hc40 : cap ≤ 34) (hm1 : ys.length ≤ m1) (hm2 : m1 < 1000) (ly : own_l1 ys = true) (hry : ∀ j, j < ys.length → nar .char (ys.getD j 0) = ys.getD j 0) (g_a3 : n0 ≤ a3) (ne_a1_a3 : a1 ≠ a3) :
    Met l mY47 (Jvm.Cond.code mY47 jdk_43_method_50_code 5 none :: ws) rz4_0_0_60 #[(.ref a1), (.int (0 : Int32)), (.ref a3), (.int (Int32.ofNat cs.length)), (.int (Int32.ofNat ys.length))] Z h0 (Q_rmLInf Z a1 a3 fm k1 k3 cs ys cap m1 h0 n0) := by
  refine MetFree.of_bodySF (plainFor_of_name pn_57) hisR ?_
  intro p e s m args below meth c s₁ Bd hml0 hP hK
  obtain ⟨rfl, hZ, hh⟩ := hP
  have hx := Bd.exec
  have hby := Bd.bytes
  have hml : c.maxLocals = 5 := hml0
  have hown : s.vm.findClass "java/lang/StringLatin1" = some m.cls := findClass_of_methodNamed Bd.named
  have hlk : meth.locks = false := BodyLoose.notSynchronized Bd
  have X0 : Stand p l e rz4_0_0_60 s m #[(.ref a1), (.int (0 : Int32)), (.ref a3), (.int (Int32.ofNat cs.length)), (.int (Int32.ofNat ys.length))] below meth c s₁ [] 0 0 := Stand.of_body Bd
  have e0 : s₁.heap = h0 := by rw [← hh, Bd.state]; rfl
  have N0 := Fr.nil n0
  have KK : Keep h0 h0 [a3] := Keep.refl h0 _
  show Go p e below s rz4_0_0_60.cells rz4_0_0_60.slots (Q_rmLInf Z a1 a3 fm k1 k3 cs ys cap m1 h0 n0) s₁ (entryFrame m #[(.ref a1), (.int (0 : Int32)), (.ref a3), (.int (Int32.ofNat cs.length)), (.int (Int32.ofNat ys.length))] 5)
  refine Go.eq (ef_rmLInf m a1 (0 : Int32) a3 (Int32.ofNat cs.length) (Int32.ofNat ys.length)) ?_
  show Go _ _ _ _ _ _ _  s₁ (mkF m 0 #[vR a1, vI (0 : Int32), vR a3, vI (Int32.ofNat cs.length), vI (Int32.ofNat ys.length)] [])
  refine Go.st (fun _ => XS.aloadN X0.here hx rfl (hb hby (dq dz57 0 0 rfl)) rfl rfl) ?_
  refine Go.st (fun _ => XS.iloadN X0.here hx rfl (hb hby (dq dz57 1 1 rfl)) rfl) ?_
  refine Go.st (fun _ => XS.aloadN X0.here hx rfl (hb hby (dq dz57 2 2 rfl)) rfl rfl) ?_
  refine Go.st (fun _ => XS.iloadN X0.here hx rfl (hb hby (dq dz57 3 3 rfl)) rfl) ?_
  refine Go.st (fun _ => XS.iload X0.here hx rfl (hb hby (dq dz57 4 4 rfl)) rfl) ?_
  show Go _ _ _ _ _ _ _  s₁ (mkF m 6 #[vR a1, vI (0 : Int32), vR a3, vI (Int32.ofNat cs.length), vI (Int32.ofNat ys.length)] [(.int (Int32.ofNat ys.length)), (.int (Int32.ofNat cs.length)), (.ref a3), (.int (0 : Int32)), (.ref a1)])
  obtain ⟨_, _, ⟨T1, L1, k1, n1⟩, -, X1, ⟨Lc1, hQ1, l1, y1, z1⟩, st1⟩ := Jvm.LawKit.callS X0 hx (y := mY46) hown (mvT hZ (hwi hw 272 rfl)) (mvT hZ (hwi hw 273 rfl)) (mvT hZ (hwi hw 21 rfl)) (mvT hZ (hwi hw 274 rfl)) (by decide) (backOf (W := 0) (rmUInf l Z a0 hw [] a1 a3 fm k1 k3 cs ys cap m1 h0 n0 O S_SIO ref_fm S_ad S_hi S_lo A_a1 A_a3 hcy hc40 hm1 hm2 ly hry g_a3 ne_a1_a3) hZ (hwi hw 274 rfl) (hwi hw 21 rfl) (by decide) (by decide)) (g := (mkF m 6 #[vR a1, vI (0 : Int32), vR a3, vI (Int32.ofNat cs.length), vI (Int32.ofNat ys.length)] [(.int (Int32.ofNat ys.length)), (.int (Int32.ofNat cs.length)), (.ref a3), (.int (0 : Int32)), (.ref a1)])) rfl (by rw [hml]; rfl) (argsL := [(.ref a1), (.int (0 : Int32)), (.ref a3), (.int (Int32.ofNat cs.length)), (.int (Int32.ofNat ys.length))]) (rest := []) (lenOf pd___BI_BII_V rfl) rfl (by show 2 * 0 + _ ≤ _; exact Nat.le_of_eq rfl) (hb hby (dq dz57 5 6 rfl)) (fun _ _ => ⟨rfl, e0, (by decide : 0 + 0 ≤ _), (by decide : 0 + 0 ≤ _)⟩)
  dsimp only [Pt.U, Pt.locs, Pt.cells, Pt.slots] at X1 l1 y1 z1 st1 hQ1
  rw [l1, y1, z1] at X1
  have X1 : Stand p l e _ _ m _ below meth c T1 _ 0 0 := X1
  obtain ⟨rfl, N1q, K1q, Q1⟩ := hQ1
  have N1 := Fr.app N0 N1q
  refine Go.st st1 ?_
  have A_a1 := A_a1.keep K1q (ninS ne_a1_a3 nin0)
  have O := O.keep K1q (allS g_a3 all0)
  have KK := KK.trans K1q (allS (Or.inl (List.mem_of_getElem? (i := 0) rfl)) all0)
  show Go _ _ _ _ _ _ _  T1 (mkF m 9 #[vR a1, vI (0 : Int32), vR a3, vI (Int32.ofNat cs.length), vI (Int32.ofNat ys.length)] [])
  refine Go.ret0 X1 hlk hx Bd.returns (hb hby (dq dz57 6 9 rfl)) (by decide) (by decide) ?_
  show Q_rmLInf Z _ _ _ _ _ _ _ _ _ h0 n0 _ T1.heap _
  exact ⟨rfl, N1, KK, Q1⟩
def Q_rmILc (Z : State) (a1 : Addr) (zc : Int32) (cd : Int32) (h0 : Heap) (n0 : Nat) (v : Option Value) (h : Heap) (L : List Loc) : Prop := v = some (.int (if cd = 0 then 1 else 0)) ∧ Fr n0 L ∧ h = h0
theorem rmILc (l : Launch) (Z : State) (a0 : Array Value) (hw : HWt a0 Z) (ws : List Jvm.Cond) (a1 : Addr) (zc : Int32) (cd : Int32) (h0 : Heap) (n0 : Nat) (O : Old Z n0 h0) (S_COMPACT : Sta Z Z.heap "java/lang/String" "COMPACT_STRINGS" "Z" (.int zc)) (hcs : ¬ zc = 0) (C_a1 : Fld Z h0 a1 "java/lang/AbstractStringBuilder" "coder" "B" (.int cd)) :
    Met l mY18 (Jvm.Cond.code mY18 jdk_68_method_68_code 1 (some .boolean) :: ws) rz0_0_0_0 #[(.ref a1)] Z h0 (Q_rmILc Z a1 zc cd h0 n0) := by
  refine MetFree.of_bodySF (plainFor_of_name pn_32) hisR ?_
  intro p e s m args below meth c s₁ Bd hml0 hP hK
  obtain ⟨rfl, hZ, hh⟩ := hP
  have hx := Bd.exec
  have hby := Bd.bytes
  have hml : c.maxLocals = 1 := hml0
  have hown : s.vm.findClass "java/lang/AbstractStringBuilder" = some m.cls := findClass_of_methodNamed Bd.named
  have hlk : meth.locks = false := BodyLoose.notSynchronized Bd
  have X0 : Stand p l e rz0_0_0_0 s m #[(.ref a1)] below meth c s₁ [] 0 0 := Stand.of_body Bd
  have e0 : s₁.heap = h0 := by rw [← hh, Bd.state]; rfl
  have N0 := Fr.nil n0
  show Go p e below s rz0_0_0_0.cells rz0_0_0_0.slots (Q_rmILc Z a1 zc cd h0 n0) s₁ (entryFrame m #[(.ref a1)] 1)
  refine Go.eq (ef_rmILc m a1) ?_
  show Go _ _ _ _ _ _ _  s₁ (mkF m 0 #[vR a1] [])
  obtain ⟨T1, X1, e1, st1⟩ := getS2 X0 hx hZ hown (host := "") (Or.inl (hwi hw 107 rfl)) Via.refl e0 (S_COMPACT.ext O.2) (g := (mkF m 0 #[vR a1] [])) rfl (hb hby (dq dz32 0 0 rfl))
  refine Go.st st1 ?_
  show Go _ _ _ _ _ _ _  T1 (mkF m 3 #[vR a1] [(.int zc)])
  refine Go.st (fun _ => XS.ifNo X1.here hx rfl (hb hby (dq dz32 1 3 rfl)) rfl ((if0 _ _).trans (feq (hcs : ¬ (zc = (0 : Int32)))).1)) ?_
  show Go _ _ _ _ _ _ _  T1 (mkF m 6 #[vR a1] [])
  refine Go.st (fun _ => XS.aloadN X1.here hx rfl (hb hby (dq dz32 2 6 rfl)) rfl rfl) ?_
  show Go _ _ _ _ _ _ _  T1 (mkF m 7 #[vR a1] [(.ref a1)])
  obtain ⟨T2, X2, e2, st2⟩ := getF X1 hx hZ hown (host := "") (Or.inl (hwi hw 110 rfl)) Via.refl e1 C_a1 (g := (mkF m 7 #[vR a1] [(.ref a1)])) rfl rfl (hb hby (dq dz32 3 7 rfl))
  refine Go.st st2 ?_
  show Go _ _ _ _ _ _ _  T2 (mkF m 10 #[vR a1] [(.int cd)])
  by_cases c10_3 : cd = (0 : Int32)
  · refine Go.st (fun _ => XS.ifNo X2.here hx rfl (hb hby (dq dz32 4 10 rfl)) rfl ((if0 _ _).trans (teq c10_3).2)) ?_
    show Go _ _ _ _ _ _ _  T2 (mkF m 13 #[vR a1] [])
    refine Go.st (fun _ => XS.iconst X2.here hx rfl (hb hby (dq dz32 5 13 rfl))) ?_
    refine Go.st (fun _ => XS.goto X2.here hx rfl (pc0 := 14) (pc' := 18) rfl (hb hby (dq dz32 6 14 rfl)) (by decide) (by decide)) ?_
    show Go _ _ _ _ _ _ _  T2 (mkF m 18 #[vR a1] [(.int (1 : Int32))])
    refine Go.retN X2 hlk hx (t := .boolean) (z' := (1 : Int32)) Bd.returns (by simp) (hb hby (dq dz32 7 18 rfl)) (by decide) (by decide) rfl ?_
    show Q_rmILc Z _ _ _ h0 n0 _ T2.heap _
    rw [e2]
    exact ⟨by rw [if_pos c10_3], N0, rfl⟩
  · refine Go.st (fun _ => XS.ifYes X2.here hx rfl (pc0 := 10) (pc' := 17) rfl (hb hby (dq dz32 4 10 rfl)) rfl ((if0 _ _).trans (feq c10_3).2) (by decide) (by decide)) ?_
    show Go _ _ _ _ _ _ _  T2 (mkF m 17 #[vR a1] [])
    refine Go.st (fun _ => XS.iconst X2.here hx rfl (hb hby (dq dz32 8 17 rfl))) ?_
    show Go _ _ _ _ _ _ _  T2 (mkF m 18 #[vR a1] [(.int (0 : Int32))])
    refine Go.retN X2 hlk hx (t := .boolean) (z' := (0 : Int32)) Bd.returns (by simp) (hb hby (dq dz32 7 18 rfl)) (by decide) (by decide) rfl ?_
    show Q_rmILc Z _ _ _ h0 n0 _ T2.heap _
    rw [e2]
    exact ⟨by rw [if_neg c10_3], N0, rfl⟩
def Q_rmInfl (Z : State) (a1 : Addr) (zc : Int32) (fm : Value) (t : Addr) (kd : ClassId) (cs : List Int32) (cap : Nat) (h0 : Heap) (n0 : Nat) (v : Option Value) (h : Heap) (L : List Loc) : Prop := v = none ∧ Fr n0 L ∧ Keep h0 h [a1] ∧ Exa Z h a1 "java/lang/StringBuilder" ∧ Fld Z h a1 "java/lang/AbstractStringBuilder" "coder" "B" (.int 1) ∧ Fld Z h a1 "java/lang/AbstractStringBuilder" "count" "I" (.int (Int32.ofNat cs.length)) ∧ Fld Z h a1 "java/lang/AbstractStringBuilder" "maybeLatin1" "Z" (.int 0) ∧ ∃ (b : Addr) (kb : ClassId), h0.size ≤ b ∧ Fld Z h a1 "java/lang/AbstractStringBuilder" "value" "[B" (.ref b) ∧ Arv Z h b kb .byte (Int32.ofNat (2 * cap)) ((own_ub cs).map Value.int) (.int 0) ∧ Exa Z h b "[B"
theorem rmInfl (l : Launch) (Z : State) (a0 : Array Value) (hw : HWt a0 Z) (ws : List Jvm.Cond) (a1 : Addr) (zc : Int32) (fm : Value) (t : Addr) (kd : ClassId) (cs : List Int32) (cap : Nat) (h0 : Heap) (n0 : Nat) (O : Old Z n0 h0) (S_COMPACT : Sta Z Z.heap "java/lang/String" "COMPACT_STRINGS" "Z" (.int zc)) (hcs : ¬ zc = 0) (S_SIO : Sta Z Z.heap "jdk/internal/util/Preconditions" "SIOOBE_FORMATTER" "Ljava/util/function/BiFunction;" fm) (ref_fm : fm.isRef = true) (S_ad : Sta Z Z.heap "java/lang/StringUTF16" "$assertionsDisabled" "Z" (.int 1)) (S_hi : Sta Z Z.heap "java/lang/StringUTF16" "HI_BYTE_SHIFT" "I" (.int 0)) (S_lo : Sta Z Z.heap "java/lang/StringUTF16" "LO_BYTE_SHIFT" "I" (.int 8)) (E_a1 : Exa Z h0 a1 "java/lang/StringBuilder") (C_a1 : Fld Z h0 a1 "java/lang/AbstractStringBuilder" "coder" "B" (.int 0)) (V_a1 : Fld Z h0 a1 "java/lang/AbstractStringBuilder" "value" "[B" (.ref t)) (N_a1 : Fld Z h0 a1 "java/lang/AbstractStringBuilder" "count" "I" (.int (Int32.ofNat cs.length))) (M_a1 : Fld Z h0 a1 "java/lang/AbstractStringBuilder" "maybeLatin1" "Z" (.int 0)) (A_t : Arv Z h0 t kd .byte (Int32.ofNat cap) ((cs.map own_lo).map Value.int) (.int 0)) (K_a1 : cs.length ≤ cap) (D_a1 : cap ≤ 34) (g_a1 : n0 ≤ a1) (g_t : n0 ≤ t) (lc : own_l1 cs = true) (hrc : ∀ j, j < cs.length → nar .char (cs.getD j 0) = cs.getD j 0) :
    Met l mY48 (Jvm.Cond.code mY48 jdk_68_method_11_code 2 none :: ws) rz5_1_68_76 #[(.ref a1)] Z h0 (Q_rmInfl Z a1 zc fm t kd cs cap h0 n0) := by
  refine MetFree.of_bodySF (plainFor_of_name pn_56) hisR ?_
  intro p e s m args below meth c s₁ Bd hml0 hP hK
  obtain ⟨rfl, hZ, hh⟩ := hP
  have hx := Bd.exec
  have hby := Bd.bytes
  have hml : c.maxLocals = 2 := hml0
  have hown : s.vm.findClass "java/lang/AbstractStringBuilder" = some m.cls := findClass_of_methodNamed Bd.named
  have hlk : meth.locks = false := BodyLoose.notSynchronized Bd
  have X0 : Stand p l e rz5_1_68_76 s m #[(.ref a1)] below meth c s₁ [] 0 0 := Stand.of_body Bd
  have e0 : s₁.heap = h0 := by rw [← hh, Bd.state]; rfl
  have N0 := Fr.nil n0
  have KK : Keep h0 h0 [a1] := Keep.refl h0 _
  show Go p e below s rz5_1_68_76.cells rz5_1_68_76.slots (Q_rmInfl Z a1 zc fm t kd cs cap h0 n0) s₁ (entryFrame m #[(.ref a1)] 2)
  refine Go.eq (ef_rmInfl m a1) ?_
  show Go _ _ _ _ _ _ _  s₁ (mkF m 0 #[vR a1, uS] [])
  refine Go.st (fun _ => XS.aloadN X0.here hx rfl (hb hby (dq dz56 0 0 rfl)) rfl rfl) ?_
  show Go _ _ _ _ _ _ _  s₁ (mkF m 1 #[vR a1, uS] [(.ref a1)])
  obtain ⟨cq1, kq1, q1a, q1b, q1c⟩ := isOf hZ e0 E_a1
  refine Go.pure (w := (some (.int (if (0 : Int32) = 0 then 1 else 0)))) (rest := []) (pc' := 4) (X0.virtualBack hx (y := mY18) (z := mY18) hown (mvT hZ (hwi hw 162 rfl)) (mvT hZ (hwi hw 163 rfl)) (notFace_of_selects (args := #[]) (mvT hZ (hwi hw 165 rfl))) (mvT hZ (hwi hw 165 rfl)) (mvT hZ (hwi hw 164 rfl)) (by decide) (backOf (W := 0) (rmILc l Z a0 hw [] a1 zc (0 : Int32) h0 n0 O S_COMPACT hcs C_a1) hZ (hwi hw 166 rfl) (hwi hw 104 rfl) (by decide) (by decide)) q1a q1c (g := (mkF m 1 #[vR a1, uS] [(.ref a1)])) rfl (by rw [hml]; rfl) (Steps.refl _) (argsL := []) (rest := []) (lenOf pd___Z rfl) rfl (by show 2 * 0 + _ ≤ _; exact Nat.le_of_eq rfl) (hb hby (dq dz56 1 1 rfl)) (fun _ _ => ⟨rfl, e0, (by decide : 0 + 0 ≤ _), (by decide : 0 + 0 ≤ _)⟩)) (fun _ _ _ q => q) N0 (fun T1 L1 X1 e1q N1 => ?_)
  show Go _ _ _ _ _ _ _  T1 (mkF m 4 #[vR a1, uS] [(.int (if (0 : Int32) = 0 then 1 else 0))])
  rw [show (if (0 : Int32) = (0 : Int32) then (1 : Int32) else 0) = (1 : Int32) from rfl]
  show Go _ _ _ _ _ _ _  T1 (mkF m 4 #[vR a1, uS] [(.int (1 : Int32))])
  refine Go.st (fun _ => XS.ifYes X1.here hx rfl (pc0 := 4) (pc' := 8) rfl (hb hby (dq dz56 2 4 rfl)) rfl ((if0 _ _).trans (feq (by decide : ¬ ((1 : Int32) = (0 : Int32)))).2) (by decide) (by decide)) ?_
  show Go _ _ _ _ _ _ _  T1 (mkF m 8 #[vR a1, uS] [])
  refine Go.st (fun _ => XS.aloadN X1.here hx rfl (hb hby (dq dz56 3 8 rfl)) rfl rfl) ?_
  show Go _ _ _ _ _ _ _  T1 (mkF m 9 #[vR a1, uS] [(.ref a1)])
  obtain ⟨T2, X2, e2, st2⟩ := getF X1 hx hZ hown (host := "") (Or.inl (hwi hw 108 rfl)) Via.refl e1q V_a1 (g := (mkF m 9 #[vR a1, uS] [(.ref a1)])) rfl rfl (hb hby (dq dz56 4 9 rfl))
  refine Go.st st2 ?_
  show Go _ _ _ _ _ _ _  T2 (mkF m 12 #[vR a1, uS] [(.ref t)])
  obtain ⟨cl3, Ar3, q3, S3, M3, Hh3, G3⟩ := id A_t
  refine Go.st (X2.arraylength hx (by rw [e2]; exact Ar3.1) (State.isArrayOf_alike hZ.alike Ar3.2.1) (g := (mkF m 12 #[vR a1, uS] [(.ref t)])) rfl rfl (hb hby (dq dz56 5 12 rfl))) ?_
  rw [len_of S3 M3]
  show Go _ _ _ _ _ _ _  T2 (mkF m 13 #[vR a1, uS] [(.int (Int32.ofNat cap))])
  obtain ⟨_, _, ⟨T4, L4, k4, n4⟩, -, X4, ⟨Lc4, hQ4, l4, y4, z4⟩, st4⟩ := Jvm.LawKit.callS X2 hx (y := mY30) hown (mvT hZ (hwi hw 268 rfl)) (mvT hZ (hwi hw 227 rfl)) (mvT hZ (hwi hw 21 rfl)) (mvT hZ (hwi hw 228 rfl)) (by decide) (backOf (W := 0) (rmNBF l Z a0 hw [] cap h0 n0 O D_a1) hZ (hwi hw 228 rfl) (hwi hw 21 rfl) (by decide) (by decide)) (g := (mkF m 13 #[vR a1, uS] [(.int (Int32.ofNat cap))])) rfl (by rw [hml]; rfl) (argsL := [(.int (Int32.ofNat cap))]) (rest := []) (lenOf pd__I__B rfl) rfl (by show 2 * 0 + _ ≤ _; exact Nat.le_of_eq rfl) (hb hby (dq dz56 6 13 rfl)) (fun _ _ => ⟨rfl, e2, (by decide : 0 + 1 ≤ _), (by decide : 0 + 68 ≤ _)⟩)
  dsimp only [Pt.U, Pt.locs, Pt.cells, Pt.slots] at X4 l4 y4 z4 st4 hQ4
  rw [l4, y4, z4] at X4
  have X4 : Stand p l e _ _ m _ below meth c T4 _ 1 68 := X4
  obtain ⟨t4, kt4, rfl, N4q, E4q, lt4, Vt4, Xt4⟩ := hQ4
  have N4 := Fr.app N1 N4q
  refine Go.st st4 ?_
  have g_t4 : n0 ≤ t4 := Nat.le_trans (own_le O) lt4
  have sz_t4 : h0.size ≤ t4 := Nat.le_trans KK.1 lt4
  have ne_a1_t4 : a1 ≠ t4 := Nat.ne_of_lt (Nat.lt_of_lt_of_le E_a1.lt lt4)
  have ne_t_t4 : t ≠ t4 := Nat.ne_of_lt (Nat.lt_of_lt_of_le A_t.lt lt4)
  have E4 := E4q
  have E_a1 := E_a1.ext E4
  have A_t := A_t.ext E4
  have C_a1 := C_a1.ext E4
  have V_a1 := V_a1.ext E4
  have N_a1 := N_a1.ext E4
  have M_a1 := M_a1.ext E4
  have O := O.ext E4
  have KK := KK.ext E4
  show Go _ _ _ _ _ _ _  T4 (mkF m 16 #[vR a1, uS] [(.ref t4)])
  refine Go.st (fun _ => XS.astoreN X4.here hx rfl (hb hby (dq dz56 7 16 rfl)) rfl rfl (l' := #[vR a1, vR t4]) rfl) ?_
  refine Go.st (fun _ => XS.aloadN X4.here hx rfl (hb hby (dq dz56 8 17 rfl)) rfl rfl) ?_
  show Go _ _ _ _ _ _ _  T4 (mkF m 18 #[vR a1, vR t4] [(.ref a1)])
  obtain ⟨T5, X5, e5, st5⟩ := getF X4 hx hZ hown (host := "") (Or.inl (hwi hw 108 rfl)) Via.refl rfl V_a1 (g := (mkF m 18 #[vR a1, vR t4] [(.ref a1)])) rfl rfl (hb hby (dq dz56 9 18 rfl))
  refine Go.st st5 ?_
  show Go _ _ _ _ _ _ _  T5 (mkF m 21 #[vR a1, vR t4] [(.ref t)])
  refine Go.st (fun _ => XS.iconst X5.here hx rfl (hb hby (dq dz56 10 21 rfl))) ?_
  refine Go.st (fun _ => XS.aloadN X5.here hx rfl (hb hby (dq dz56 11 22 rfl)) rfl rfl) ?_
  refine Go.st (fun _ => XS.iconst X5.here hx rfl (hb hby (dq dz56 12 23 rfl))) ?_
  refine Go.st (fun _ => XS.aloadN X5.here hx rfl (hb hby (dq dz56 13 24 rfl)) rfl rfl) ?_
  show Go _ _ _ _ _ _ _  T5 (mkF m 25 #[vR a1, vR t4] [(.ref a1), (.int (0 : Int32)), (.ref t4), (.int (0 : Int32)), (.ref t)])
  obtain ⟨T6, X6, e6, st6⟩ := getF X5 hx hZ hown (host := "") (Or.inl (hwi hw 126 rfl)) Via.refl e5 N_a1 (g := (mkF m 25 #[vR a1, vR t4] [(.ref a1), (.int (0 : Int32)), (.ref t4), (.int (0 : Int32)), (.ref t)])) rfl rfl (hb hby (dq dz56 14 25 rfl))
  refine Go.st st6 ?_
  show Go _ _ _ _ _ _ _  T6 (mkF m 28 #[vR a1, vR t4] [(.int (Int32.ofNat cs.length)), (.int (0 : Int32)), (.ref t4), (.int (0 : Int32)), (.ref t)])
  obtain ⟨_, _, ⟨T7, L7, k7, n7⟩, -, X7, ⟨Lc7, hQ7, l7, y7, z7⟩, st7⟩ := Jvm.LawKit.callS X6 hx (y := mY47) hown (mvT hZ (hwi hw 269 rfl)) (mvT hZ (hwi hw 270 rfl)) (mvT hZ (hwi hw 169 rfl)) (mvT hZ (hwi hw 271 rfl)) (by decide) (backOf (W := 0) (rmLInf l Z a0 hw [] t t4 fm kd kt4 ([] : List Int32) cs cap cap T4.heap n0 O S_SIO ref_fm S_ad S_hi S_lo A_t Vt4 (by simpa using K_a1) D_a1 K_a1 (by omega) lc hrc g_t4 ne_t_t4) hZ (hwi hw 271 rfl) (hwi hw 169 rfl) (by decide) (by decide)) (g := (mkF m 28 #[vR a1, vR t4] [(.int (Int32.ofNat cs.length)), (.int (0 : Int32)), (.ref t4), (.int (0 : Int32)), (.ref t)])) rfl (by rw [hml]; rfl) (argsL := [(.ref t), (.int (0 : Int32)), (.ref t4), (.int (0 : Int32)), (.int (Int32.ofNat cs.length))]) (rest := []) (lenOf pd___BI_BII_V rfl) rfl (by show 2 * 0 + _ ≤ _; exact Nat.le_of_eq rfl) (hb hby (dq dz56 15 28 rfl)) (fun _ _ => ⟨rfl, e6, (by decide : 1 + 0 ≤ _), (by decide : 68 + 0 ≤ _)⟩)
  dsimp only [Pt.U, Pt.locs, Pt.cells, Pt.slots] at X7 l7 y7 z7 st7 hQ7
  rw [l7, y7, z7] at X7
  have X7 : Stand p l e _ _ m _ below meth c T7 _ 1 68 := X7
  obtain ⟨rfl, N7q, K7q, Q7⟩ := hQ7
  have N7 := Fr.app N4 N7q
  refine Go.st st7 ?_
  have E_a1 := E_a1.keep K7q
  have A_t := A_t.keep K7q (ninS ne_t_t4 nin0)
  have C_a1 := C_a1.keep K7q (ninS ne_a1_t4 nin0)
  have V_a1 := V_a1.keep K7q (ninS ne_a1_t4 nin0)
  have N_a1 := N_a1.keep K7q (ninS ne_a1_t4 nin0)
  have M_a1 := M_a1.keep K7q (ninS ne_a1_t4 nin0)
  have Xt4 := Xt4.keep K7q
  have O := O.keep K7q (allS g_t4 all0)
  have KK := KK.trans K7q (allS (Or.inr sz_t4) all0)
  rw [List.nil_append] at Q7
  show Go _ _ _ _ _ _ _  T7 (mkF m 31 #[vR a1, vR t4] [])
  refine Go.st (fun _ => XS.aloadN X7.here hx rfl (hb hby (dq dz56 16 31 rfl)) rfl rfl) ?_
  refine Go.st (fun _ => XS.aloadN X7.here hx rfl (hb hby (dq dz56 17 32 rfl)) rfl rfl) ?_
  show Go _ _ _ _ _ _ _  T7 (mkF m 33 #[vR a1, vR t4] [(.ref t4), (.ref a1)])
  obtain ⟨T8, h8, X8, e8, W8, st8⟩ := putF X7 hx hZ hown (host := "") (Or.inl (hwi hw 108 rfl)) Via.refl rfl V_a1 E_a1 (Or.inl (hwi hw 109 rfl)) (hwi hw 95 rfl) (ty := (.array .byte)) (by decide) rfl rfl (g := (mkF m 33 #[vR a1, vR t4] [(.ref t4), (.ref a1)])) rfl rfl (hb hby (dq dz56 18 33 rfl))
  refine Go.st st8 ?_
  have V_a1 : Fld Z h8 a1 "java/lang/AbstractStringBuilder" "value" "[B" (.ref t4) := V_a1.same W8
  have N8 := Fr.snoc X8 N7 g_a1
  have ne_t_a1 : t ≠ a1 := (Ne.symm (Exa.neArv E_a1 A_t (hwi hw 95 rfl)))
  have E_a1 := E_a1.wr W8
  have A_t := A_t.other W8 ne_t_a1
  have C_a1 := C_a1.other W8 (Or.inr (slot_ne (Or.inl (hwi hw 111 rfl)) (Or.inl (hwi hw 109 rfl)) (by decide) (t := .byte) (t' := (.array .byte)) (by decide) (by decide)))
  have N_a1 := N_a1.other W8 (Or.inr (slot_ne (Or.inl (hwi hw 127 rfl)) (Or.inl (hwi hw 109 rfl)) (by decide) (t := .int) (t' := (.array .byte)) (by decide) (by decide)))
  have M_a1 := M_a1.other W8 (Or.inr (slot_ne (Or.inl (hwi hw 295 rfl)) (Or.inl (hwi hw 109 rfl)) (by decide) (t := .boolean) (t' := (.array .byte)) (by decide) (by decide)))
  have Xt4 := Xt4.wr W8
  have Q7 := Q7.other W8 (Ne.symm ne_a1_t4)
  have O := O.wr W8 g_a1
  have KK := KK.wr W8 (Or.inl (List.mem_of_getElem? (i := 0) rfl))
  show Go _ _ _ _ _ _ _  T8 (mkF m 36 #[vR a1, vR t4] [])
  refine Go.st (fun _ => XS.aloadN X8.here hx rfl (hb hby (dq dz56 19 36 rfl)) rfl rfl) ?_
  refine Go.st (fun _ => XS.iconst X8.here hx rfl (hb hby (dq dz56 20 37 rfl))) ?_
  show Go _ _ _ _ _ _ _  T8 (mkF m 38 #[vR a1, vR t4] [(.int (1 : Int32)), (.ref a1)])
  obtain ⟨T9, h9, X9, e9, W9, st9⟩ := putFN X8 hx hZ hown (hwi hw 110 rfl) Via.refl e8 C_a1 E_a1 (Or.inl (hwi hw 111 rfl)) (hwi hw 95 rfl) (ty := .byte) (v' := .int (1 : Int32)) (by decide) rfl rfl (g := (mkF m 38 #[vR a1, vR t4] [(.int (1 : Int32)), (.ref a1)])) rfl rfl (hb hby (dq dz56 21 38 rfl))
  refine Go.st st9 ?_
  have C_a1 : Fld Z h9 a1 "java/lang/AbstractStringBuilder" "coder" "B" (.int (1 : Int32)) := C_a1.same W9
  have N9 := Fr.snoc X9 N8 g_a1
  have E_a1 := E_a1.wr W9
  have A_t := A_t.other W9 ne_t_a1
  have V_a1 := V_a1.other W9 (Or.inr (slot_ne (Or.inl (hwi hw 109 rfl)) (Or.inl (hwi hw 111 rfl)) (by decide) (t := (.array .byte)) (t' := .byte) (by decide) (by decide)))
  have N_a1 := N_a1.other W9 (Or.inr (slot_ne (Or.inl (hwi hw 127 rfl)) (Or.inl (hwi hw 111 rfl)) (by decide) (t := .int) (t' := .byte) (by decide) (by decide)))
  have M_a1 := M_a1.other W9 (Or.inr (slot_ne (Or.inl (hwi hw 295 rfl)) (Or.inl (hwi hw 111 rfl)) (by decide) (t := .boolean) (t' := .byte) (by decide) (by decide)))
  have Xt4 := Xt4.wr W9
  have Q7 := Q7.other W9 (Ne.symm ne_a1_t4)
  have O := O.wr W9 g_a1
  have KK := KK.wr W9 (Or.inl (List.mem_of_getElem? (i := 0) rfl))
  show Go _ _ _ _ _ _ _  T9 (mkF m 41 #[vR a1, vR t4] [])
  refine Go.ret0 X9 hlk hx Bd.returns (hb hby (dq dz56 22 41 rfl)) (by decide) (by decide) ?_
  show Q_rmInfl Z _ _ _ _ _ _ _ h0 n0 _ T9.heap _
  rw [e9]
  exact ⟨rfl, N9, KK, E_a1, C_a1, N_a1, M_a1, t4, kt4, sz_t4, V_a1, Q7, Xt4⟩
def Q_rmCoderV (Z : State) (a1 : Addr) (zc : Int32) (cd : Int32) (h0 : Heap) (n0 : Nat) (v : Option Value) (h : Heap) (L : List Loc) : Prop := v = some (.int cd) ∧ Fr n0 L ∧ h = h0
theorem rmCoderV (l : Launch) (Z : State) (a0 : Array Value) (hw : HWt a0 Z) (ws : List Jvm.Cond) (a1 : Addr) (zc : Int32) (cd : Int32) (h0 : Heap) (n0 : Nat) (O : Old Z n0 h0) (S_COMPACT : Sta Z Z.heap "java/lang/String" "COMPACT_STRINGS" "Z" (.int zc)) (hcs : ¬ zc = 0) (C_a1 : Fld Z h0 a1 "java/lang/String" "coder" "B" (.int cd)) (hcd : nar .byte cd = cd) :
    Met l mY0 (Jvm.Cond.code mY0 jdk_42_method_152_code 1 (some .byte) :: ws) rz0_0_0_0 #[(.ref a1)] Z h0 (Q_rmCoderV Z a1 zc cd h0 n0) := by
  refine MetFree.of_bodySF (plainFor_of_name pn_15) hisR ?_
  intro p e s m args below meth c s₁ Bd hml0 hP hK
  obtain ⟨rfl, hZ, hh⟩ := hP
  have hx := Bd.exec
  have hby := Bd.bytes
  have hml : c.maxLocals = 1 := hml0
  have hown : s.vm.findClass "java/lang/String" = some m.cls := findClass_of_methodNamed Bd.named
  have hlk : meth.locks = false := BodyLoose.notSynchronized Bd
  have X0 : Stand p l e rz0_0_0_0 s m #[(.ref a1)] below meth c s₁ [] 0 0 := Stand.of_body Bd
  have e0 : s₁.heap = h0 := by rw [← hh, Bd.state]; rfl
  have N0 := Fr.nil n0
  show Go p e below s rz0_0_0_0.cells rz0_0_0_0.slots (Q_rmCoderV Z a1 zc cd h0 n0) s₁ (entryFrame m #[(.ref a1)] 1)
  refine Go.eq (ef_rmCoderV m a1) ?_
  show Go _ _ _ _ _ _ _  s₁ (mkF m 0 #[vR a1] [])
  obtain ⟨T1, X1, e1, st1⟩ := getS2 X0 hx hZ hown (host := "") (Or.inl (hwi hw 18 rfl)) Via.refl e0 (S_COMPACT.ext O.2) (g := (mkF m 0 #[vR a1] [])) rfl (hb hby (dq dz15 0 0 rfl))
  refine Go.st st1 ?_
  show Go _ _ _ _ _ _ _  T1 (mkF m 3 #[vR a1] [(.int zc)])
  refine Go.st (fun _ => XS.ifNo X1.here hx rfl (hb hby (dq dz15 1 3 rfl)) rfl ((if0 _ _).trans (feq (hcs : ¬ (zc = (0 : Int32)))).1)) ?_
  show Go _ _ _ _ _ _ _  T1 (mkF m 6 #[vR a1] [])
  refine Go.st (fun _ => XS.aloadN X1.here hx rfl (hb hby (dq dz15 2 6 rfl)) rfl rfl) ?_
  show Go _ _ _ _ _ _ _  T1 (mkF m 7 #[vR a1] [(.ref a1)])
  obtain ⟨T2, X2, e2, st2⟩ := getF X1 hx hZ hown (host := "") (Or.inl (hwi hw 30 rfl)) Via.refl e1 C_a1 (g := (mkF m 7 #[vR a1] [(.ref a1)])) rfl rfl (hb hby (dq dz15 3 7 rfl))
  refine Go.st st2 ?_
  show Go _ _ _ _ _ _ _  T2 (mkF m 10 #[vR a1] [(.int cd)])
  refine Go.st (fun _ => XS.goto X2.here hx rfl (pc0 := 10) (pc' := 14) rfl (hb hby (dq dz15 4 10 rfl)) (by decide) (by decide)) ?_
  show Go _ _ _ _ _ _ _  T2 (mkF m 14 #[vR a1] [(.int cd)])
  refine Go.retN X2 hlk hx (t := .byte) (z' := cd) Bd.returns (by simp) (hb hby (dq dz15 5 14 rfl)) (by decide) (by decide) hcd ?_
  show Q_rmCoderV Z _ _ _ h0 n0 _ T2.heap _
  rw [e2]
  exact ⟨rfl, N0, rfl⟩
def Q_rmIf0 (Z : State) (a1 : Addr) (a2 : Addr) (zc : Int32) (cd : Int32) (h0 : Heap) (n0 : Nat) (v : Option Value) (h : Heap) (L : List Loc) : Prop := v = none ∧ Fr n0 L ∧ h = h0
theorem rmIf0 (l : Launch) (Z : State) (a0 : Array Value) (hw : HWt a0 Z) (ws : List Jvm.Cond) (a1 : Addr) (a2 : Addr) (zc : Int32) (cd : Int32) (h0 : Heap) (n0 : Nat) (O : Old Z n0 h0) (S_COMPACT : Sta Z Z.heap "java/lang/String" "COMPACT_STRINGS" "Z" (.int zc)) (hcs : ¬ zc = 0) (E_a1 : Exa Z h0 a1 "java/lang/StringBuilder") (C_a1 : Fld Z h0 a1 "java/lang/AbstractStringBuilder" "coder" "B" (.int cd)) (E_a2 : Exa Z h0 a2 "java/lang/String") (C_a2 : Fld Z h0 a2 "java/lang/String" "coder" "B" (.int cd)) (hcd : nar .byte cd = cd) :
    Met l mY3 (Jvm.Cond.code mY3 jdk_68_method_71_code 2 none :: ws) rz1_0_0_13 #[(.ref a1), (.ref a2)] Z h0 (Q_rmIf0 Z a1 a2 zc cd h0 n0) := by
  refine MetFree.of_bodySF (plainFor_of_name pn_28) hisR ?_
  intro p e s m args below meth c s₁ Bd hml0 hP hK
  obtain ⟨rfl, hZ, hh⟩ := hP
  have hx := Bd.exec
  have hby := Bd.bytes
  have hml : c.maxLocals = 2 := hml0
  have hown : s.vm.findClass "java/lang/AbstractStringBuilder" = some m.cls := findClass_of_methodNamed Bd.named
  have hlk : meth.locks = false := BodyLoose.notSynchronized Bd
  have X0 : Stand p l e rz1_0_0_13 s m #[(.ref a1), (.ref a2)] below meth c s₁ [] 0 0 := Stand.of_body Bd
  have e0 : s₁.heap = h0 := by rw [← hh, Bd.state]; rfl
  have N0 := Fr.nil n0
  show Go p e below s rz1_0_0_13.cells rz1_0_0_13.slots (Q_rmIf0 Z a1 a2 zc cd h0 n0) s₁ (entryFrame m #[(.ref a1), (.ref a2)] 2)
  refine Go.eq (ef_rmIf0 m a1 a2) ?_
  show Go _ _ _ _ _ _ _  s₁ (mkF m 0 #[vR a1, vR a2] [])
  obtain ⟨T1, X1, e1, st1⟩ := getS2 X0 hx hZ hown (host := "") (Or.inl (hwi hw 107 rfl)) Via.refl e0 (S_COMPACT.ext O.2) (g := (mkF m 0 #[vR a1, vR a2] [])) rfl (hb hby (dq dz28 0 0 rfl))
  refine Go.st st1 ?_
  show Go _ _ _ _ _ _ _  T1 (mkF m 3 #[vR a1, vR a2] [(.int zc)])
  refine Go.st (fun _ => XS.ifNo X1.here hx rfl (hb hby (dq dz28 1 3 rfl)) rfl ((if0 _ _).trans (feq (hcs : ¬ (zc = (0 : Int32)))).1)) ?_
  show Go _ _ _ _ _ _ _  T1 (mkF m 6 #[vR a1, vR a2] [])
  refine Go.st (fun _ => XS.aloadN X1.here hx rfl (hb hby (dq dz28 2 6 rfl)) rfl rfl) ?_
  show Go _ _ _ _ _ _ _  T1 (mkF m 7 #[vR a1, vR a2] [(.ref a1)])
  obtain ⟨T2, X2, e2, st2⟩ := getF X1 hx hZ hown (host := "") (Or.inl (hwi hw 110 rfl)) Via.refl e1 C_a1 (g := (mkF m 7 #[vR a1, vR a2] [(.ref a1)])) rfl rfl (hb hby (dq dz28 3 7 rfl))
  refine Go.st st2 ?_
  show Go _ _ _ _ _ _ _  T2 (mkF m 10 #[vR a1, vR a2] [(.int cd)])
  refine Go.st (fun _ => XS.aloadN X2.here hx rfl (hb hby (dq dz28 4 10 rfl)) rfl rfl) ?_
  show Go _ _ _ _ _ _ _  T2 (mkF m 11 #[vR a1, vR a2] [(.ref a2), (.int cd)])
  obtain ⟨cq3, kq3, q3a, q3b, q3c⟩ := isOf hZ e2 E_a2
  refine Go.pure (w := (some (.int cd))) (rest := [(.int cd)]) (pc' := 14) (X2.virtualBack hx (y := mY0) (z := mY0) hown (mvT hZ (hwi hw 143 rfl)) (mvT hZ (hwi hw 63 rfl)) (notFace_of_selects (args := #[]) (mvT hZ (hwi hw 65 rfl))) (mvT hZ (hwi hw 65 rfl)) (mvT hZ (hwi hw 64 rfl)) (by decide) (backOf (W := 1) (rmCoderV l Z a0 hw [] a2 zc cd h0 n0 O S_COMPACT hcs C_a2 hcd) hZ (hwi hw 66 rfl) (hwi hw 7 rfl) (by decide) (by decide)) q3a q3c (g := (mkF m 11 #[vR a1, vR a2] [(.ref a2), (.int cd)])) rfl (by rw [hml]; rfl) (Steps.refl _) (argsL := []) (rest := [(.int cd)]) (lenOf pd___B rfl) rfl (by show 2 * 0 + _ ≤ _; exact Nat.le_of_eq rfl) (hb hby (dq dz28 5 11 rfl)) (fun _ _ => ⟨rfl, e2, (by decide : 0 + 0 ≤ _), (by decide : 0 + 0 ≤ _)⟩)) (fun _ _ _ q => q) N0 (fun T3 L3 X3 e3q N3 => ?_)
  show Go _ _ _ _ _ _ _  T3 (mkF m 14 #[vR a1, vR a2] [(.int cd), (.int cd)])
  refine Go.st (fun _ => XS.icmpYes X3.here hx rfl (pc0 := 14) (pc' := 21) rfl (hb hby (dq dz28 6 14 rfl)) rfl (teq (rfl : cd = cd)).1 (by decide) (by decide)) ?_
  show Go _ _ _ _ _ _ _  T3 (mkF m 21 #[vR a1, vR a2] [])
  refine Go.ret0 X3 hlk hx Bd.returns (hb hby (dq dz28 7 21 rfl)) (by decide) (by decide) ?_
  show Q_rmIf0 Z _ _ _ _ h0 n0 _ T3.heap _
  rw [e3q]
  exact ⟨rfl, N3, rfl⟩
def Q_rmIf2 (Z : State) (a1 : Addr) (a2 : Addr) (zc : Int32) (fm : Value) (t : Addr) (kd : ClassId) (cs : List Int32) (cap : Nat) (h0 : Heap) (n0 : Nat) (v : Option Value) (h : Heap) (L : List Loc) : Prop := v = none ∧ Fr n0 L ∧ Keep h0 h [a1] ∧ Exa Z h a1 "java/lang/StringBuilder" ∧ Fld Z h a1 "java/lang/AbstractStringBuilder" "coder" "B" (.int 1) ∧ Fld Z h a1 "java/lang/AbstractStringBuilder" "count" "I" (.int (Int32.ofNat cs.length)) ∧ Fld Z h a1 "java/lang/AbstractStringBuilder" "maybeLatin1" "Z" (.int 0) ∧ ∃ (b : Addr) (kb : ClassId), h0.size ≤ b ∧ Fld Z h a1 "java/lang/AbstractStringBuilder" "value" "[B" (.ref b) ∧ Arv Z h b kb .byte (Int32.ofNat (2 * cap)) ((own_ub cs).map Value.int) (.int 0) ∧ Exa Z h b "[B"
theorem rmIf2 (l : Launch) (Z : State) (a0 : Array Value) (hw : HWt a0 Z) (ws : List Jvm.Cond) (a1 : Addr) (a2 : Addr) (zc : Int32) (fm : Value) (t : Addr) (kd : ClassId) (cs : List Int32) (cap : Nat) (h0 : Heap) (n0 : Nat) (O : Old Z n0 h0) (S_COMPACT : Sta Z Z.heap "java/lang/String" "COMPACT_STRINGS" "Z" (.int zc)) (hcs : ¬ zc = 0) (S_SIO : Sta Z Z.heap "jdk/internal/util/Preconditions" "SIOOBE_FORMATTER" "Ljava/util/function/BiFunction;" fm) (ref_fm : fm.isRef = true) (S_ad : Sta Z Z.heap "java/lang/StringUTF16" "$assertionsDisabled" "Z" (.int 1)) (S_hi : Sta Z Z.heap "java/lang/StringUTF16" "HI_BYTE_SHIFT" "I" (.int 0)) (S_lo : Sta Z Z.heap "java/lang/StringUTF16" "LO_BYTE_SHIFT" "I" (.int 8)) (E_a1 : Exa Z h0 a1 "java/lang/StringBuilder") (C_a1 : Fld Z h0 a1 "java/lang/AbstractStringBuilder" "coder" "B" (.int 0)) (V_a1 : Fld Z h0 a1 "java/lang/AbstractStringBuilder" "value" "[B" (.ref t)) (N_a1 : Fld Z h0 a1 "java/lang/AbstractStringBuilder" "count" "I" (.int (Int32.ofNat cs.length))) (M_a1 : Fld Z h0 a1 "java/lang/AbstractStringBuilder" "maybeLatin1" "Z" (.int 0)) (A_t : Arv Z h0 t kd .byte (Int32.ofNat cap) ((cs.map own_lo).map Value.int) (.int 0)) (K_a1 : cs.length ≤ cap) (D_a1 : cap ≤ 34) (g_a1 : n0 ≤ a1) (g_t : n0 ≤ t) (lc : own_l1 cs = true) (hrc : ∀ j, j < cs.length → nar .char (cs.getD j 0) = cs.getD j 0) (E_a2 : Exa Z h0 a2 "java/lang/String") (C_a2 : Fld Z h0 a2 "java/lang/String" "coder" "B" (.int 1)) :
    Met l mY3 (Jvm.Cond.code mY3 jdk_68_method_71_code 2 none :: ws) rz6_1_68_90 #[(.ref a1), (.ref a2)] Z h0 (Q_rmIf2 Z a1 a2 zc fm t kd cs cap h0 n0) := by
  refine MetFree.of_bodySF (plainFor_of_name pn_28) hisR ?_
  intro p e s m args below meth c s₁ Bd hml0 hP hK
  obtain ⟨rfl, hZ, hh⟩ := hP
  have hx := Bd.exec
  have hby := Bd.bytes
  have hml : c.maxLocals = 2 := hml0
  have hown : s.vm.findClass "java/lang/AbstractStringBuilder" = some m.cls := findClass_of_methodNamed Bd.named
  have hlk : meth.locks = false := BodyLoose.notSynchronized Bd
  have X0 : Stand p l e rz6_1_68_90 s m #[(.ref a1), (.ref a2)] below meth c s₁ [] 0 0 := Stand.of_body Bd
  have e0 : s₁.heap = h0 := by rw [← hh, Bd.state]; rfl
  have N0 := Fr.nil n0
  have KK : Keep h0 h0 [a1] := Keep.refl h0 _
  show Go p e below s rz6_1_68_90.cells rz6_1_68_90.slots (Q_rmIf2 Z a1 a2 zc fm t kd cs cap h0 n0) s₁ (entryFrame m #[(.ref a1), (.ref a2)] 2)
  refine Go.eq (ef_rmIf2 m a1 a2) ?_
  show Go _ _ _ _ _ _ _  s₁ (mkF m 0 #[vR a1, vR a2] [])
  obtain ⟨T1, X1, e1, st1⟩ := getS2 X0 hx hZ hown (host := "") (Or.inl (hwi hw 107 rfl)) Via.refl e0 (S_COMPACT.ext O.2) (g := (mkF m 0 #[vR a1, vR a2] [])) rfl (hb hby (dq dz28 0 0 rfl))
  refine Go.st st1 ?_
  show Go _ _ _ _ _ _ _  T1 (mkF m 3 #[vR a1, vR a2] [(.int zc)])
  refine Go.st (fun _ => XS.ifNo X1.here hx rfl (hb hby (dq dz28 1 3 rfl)) rfl ((if0 _ _).trans (feq (hcs : ¬ (zc = (0 : Int32)))).1)) ?_
  show Go _ _ _ _ _ _ _  T1 (mkF m 6 #[vR a1, vR a2] [])
  refine Go.st (fun _ => XS.aloadN X1.here hx rfl (hb hby (dq dz28 2 6 rfl)) rfl rfl) ?_
  show Go _ _ _ _ _ _ _  T1 (mkF m 7 #[vR a1, vR a2] [(.ref a1)])
  obtain ⟨T2, X2, e2, st2⟩ := getF X1 hx hZ hown (host := "") (Or.inl (hwi hw 110 rfl)) Via.refl e1 C_a1 (g := (mkF m 7 #[vR a1, vR a2] [(.ref a1)])) rfl rfl (hb hby (dq dz28 3 7 rfl))
  refine Go.st st2 ?_
  show Go _ _ _ _ _ _ _  T2 (mkF m 10 #[vR a1, vR a2] [(.int (0 : Int32))])
  refine Go.st (fun _ => XS.aloadN X2.here hx rfl (hb hby (dq dz28 4 10 rfl)) rfl rfl) ?_
  show Go _ _ _ _ _ _ _  T2 (mkF m 11 #[vR a1, vR a2] [(.ref a2), (.int (0 : Int32))])
  obtain ⟨cq3, kq3, q3a, q3b, q3c⟩ := isOf hZ e2 E_a2
  refine Go.pure (w := (some (.int (1 : Int32)))) (rest := [(.int (0 : Int32))]) (pc' := 14) (X2.virtualBack hx (y := mY0) (z := mY0) hown (mvT hZ (hwi hw 143 rfl)) (mvT hZ (hwi hw 63 rfl)) (notFace_of_selects (args := #[]) (mvT hZ (hwi hw 65 rfl))) (mvT hZ (hwi hw 65 rfl)) (mvT hZ (hwi hw 64 rfl)) (by decide) (backOf (W := 1) (rmCoderV l Z a0 hw [] a2 zc (1 : Int32) h0 n0 O S_COMPACT hcs C_a2 (by decide)) hZ (hwi hw 66 rfl) (hwi hw 7 rfl) (by decide) (by decide)) q3a q3c (g := (mkF m 11 #[vR a1, vR a2] [(.ref a2), (.int (0 : Int32))])) rfl (by rw [hml]; rfl) (Steps.refl _) (argsL := []) (rest := [(.int (0 : Int32))]) (lenOf pd___B rfl) rfl (by show 2 * 0 + _ ≤ _; exact Nat.le_of_eq rfl) (hb hby (dq dz28 5 11 rfl)) (fun _ _ => ⟨rfl, e2, (by decide : 0 + 0 ≤ _), (by decide : 0 + 0 ≤ _)⟩)) (fun _ _ _ q => q) N0 (fun T3 L3 X3 e3q N3 => ?_)
  show Go _ _ _ _ _ _ _  T3 (mkF m 14 #[vR a1, vR a2] [(.int (1 : Int32)), (.int (0 : Int32))])
  refine Go.st (fun _ => XS.icmpNo X3.here hx rfl (hb hby (dq dz28 6 14 rfl)) rfl (feq (by decide : ¬ ((0 : Int32) = (1 : Int32)))).1) ?_
  show Go _ _ _ _ _ _ _  T3 (mkF m 17 #[vR a1, vR a2] [])
  refine Go.st (fun _ => XS.aloadN X3.here hx rfl (hb hby (dq dz28 8 17 rfl)) rfl rfl) ?_
  show Go _ _ _ _ _ _ _  T3 (mkF m 18 #[vR a1, vR a2] [(.ref a1)])
  obtain ⟨cq4, q4, q4'⟩ := Exa.cell E_a1
  obtain ⟨_, _, ⟨T4, L4, k4, n4⟩, -, X4, ⟨Lc4, hQ4, l4, y4, z4⟩, st4⟩ := X3.privateBack hx (y := mY48) hown (mvT hZ (hwi hw 263 rfl)) (mvT hZ (hwi hw 264 rfl)) (own_selfsel2 (mvT hZ (hwi hw 266 rfl)) (mvP hZ (hwi hw 265 rfl)) (mvT hZ (hwi hw 264 rfl)) (by decide)) (Cond.privateMethod_at (mvP hZ (hwi hw 265 rfl) (args := #[]))) (mvT hZ (hwi hw 267 rfl)) (by decide) (backOf (W := 0) (rmInfl l Z a0 hw [] a1 zc fm t kd cs cap h0 n0 O S_COMPACT hcs S_SIO ref_fm S_ad S_hi S_lo E_a1 C_a1 V_a1 N_a1 M_a1 A_t K_a1 D_a1 g_a1 g_t lc hrc) hZ (hwi hw 267 rfl) (hwi hw 104 rfl) (by decide) (by decide)) (g := (mkF m 18 #[vR a1, vR a2] [(.ref a1)])) rfl (by rw [hml]; rfl) (Steps.refl _) (a := a1) (by rw [e3q]; exact q4) q4' (argsL := []) (rest := []) (lenOf pd___V rfl) rfl (by show 2 * 0 + _ ≤ _; exact Nat.le_of_eq rfl) (hb hby (dq dz28 9 18 rfl)) (fun _ _ => ⟨rfl, e3q, (by decide : 0 + 1 ≤ _), (by decide : 0 + 68 ≤ _)⟩)
  dsimp only [Pt.U, Pt.locs, Pt.cells, Pt.slots] at X4 l4 y4 z4 st4 hQ4
  rw [l4, y4, z4] at X4
  have X4 : Stand p l e _ _ m _ below meth c T4 _ 1 68 := X4
  obtain ⟨rfl, N4q, K4q, Q4⟩ := hQ4
  have N4 := Fr.app N3 N4q
  refine Go.tr st4 ?_
  have ne_t_a1 : t ≠ a1 := (Ne.symm (Exa.neArv E_a1 A_t (hwi hw 95 rfl)))
  have E_a1 := E_a1.keep K4q
  have A_t := A_t.keep K4q (ninS ne_t_a1 nin0)
  have O := O.keep K4q (allS g_a1 all0)
  have KK := KK.trans K4q (allS (Or.inl (List.mem_of_getElem? (i := 0) rfl)) all0)
  show Go _ _ _ _ _ _ _  T4 (mkF m 21 #[vR a1, vR a2] [])
  refine Go.ret0 X4 hlk hx Bd.returns (hb hby (dq dz28 7 21 rfl)) (by decide) (by decide) ?_
  show Q_rmIf2 Z _ _ _ _ _ _ _ _ h0 n0 _ T4.heap _
  exact ⟨rfl, N4, KK, Q4⟩
def Q_rmGBg (Z : State) (a1 : Addr) (a2 : Addr) (p4 : Int32) (zc : Int32) (t : Addr) (kb : ClassId) (mm : Nat) (vs : List Value) (kd : ClassId) (n : Nat) (pn : Nat) (cap : Nat) (bs : List Value) (h0 : Heap) (n0 : Nat) (v : Option Value) (h : Heap) (L : List Loc) : Prop := v = none ∧ Fr n0 L ∧ Keep h0 h [a2] ∧ Arv Z h a2 kd .byte (Int32.ofNat cap) (bs ++ vs) (.int 0)
theorem rmGBg (l : Launch) (Z : State) (a0 : Array Value) (hw : HWt a0 Z) (ws : List Jvm.Cond) (a1 : Addr) (a2 : Addr) (p4 : Int32) (zc : Int32) (t : Addr) (kb : ClassId) (mm : Nat) (vs : List Value) (kd : ClassId) (n : Nat) (pn : Nat) (cap : Nat) (bs : List Value) (h0 : Heap) (n0 : Nat) (O : Old Z n0 h0) (S_COMPACT : Sta Z Z.heap "java/lang/String" "COMPACT_STRINGS" "Z" (.int zc)) (hcs : ¬ zc = 0) (E_a1 : Exa Z h0 a1 "java/lang/String") (C_a1 : Fld Z h0 a1 "java/lang/String" "coder" "B" (.int p4)) (V_a1 : Fld Z h0 a1 "java/lang/String" "value" "[B" (.ref t)) (A_t : Arv Z h0 t kb .byte (Int32.ofNat mm) vs (.int 0)) (hvs : vs.length = mm) (hmm : mm < 1000) (hcd : nar .byte p4 = p4) (hsh : Int32.ofNat n <<< (p4 &&& 31) = Int32.ofNat pn) (A_a2 : Arv Z h0 a2 kd .byte (Int32.ofNat cap) bs (.int 0)) (hbs : bs.length = pn) (hcap : pn + mm ≤ cap) (hcb : cap < 1000) (g_a2 : n0 ≤ a2) (ne_t_a2 : t ≠ a2) :
    Met l mY2 (Jvm.Cond.code mY2 jdk_42_method_147_code 4 none :: ws) rz1_0_0_18 #[(.ref a1), (.ref a2), (.int (Int32.ofNat n)), (.int p4)] Z h0 (Q_rmGBg Z a1 a2 p4 zc t kb mm vs kd n pn cap bs h0 n0) := by
  refine MetFree.of_bodySF (plainFor_of_name pn_29) hisR ?_
  intro p e s m args below meth c s₁ Bd hml0 hP hK
  obtain ⟨rfl, hZ, hh⟩ := hP
  have hx := Bd.exec
  have hby := Bd.bytes
  have hml : c.maxLocals = 4 := hml0
  have hown : s.vm.findClass "java/lang/String" = some m.cls := findClass_of_methodNamed Bd.named
  have hlk : meth.locks = false := BodyLoose.notSynchronized Bd
  have X0 : Stand p l e rz1_0_0_18 s m #[(.ref a1), (.ref a2), (.int (Int32.ofNat n)), (.int p4)] below meth c s₁ [] 0 0 := Stand.of_body Bd
  have e0 : s₁.heap = h0 := by rw [← hh, Bd.state]; rfl
  have N0 := Fr.nil n0
  have KK : Keep h0 h0 [a2] := Keep.refl h0 _
  show Go p e below s rz1_0_0_18.cells rz1_0_0_18.slots (Q_rmGBg Z a1 a2 p4 zc t kb mm vs kd n pn cap bs h0 n0) s₁ (entryFrame m #[(.ref a1), (.ref a2), (.int (Int32.ofNat n)), (.int p4)] 4)
  refine Go.eq (ef_rmGBg m a1 a2 (Int32.ofNat n) p4) ?_
  show Go _ _ _ _ _ _ _  s₁ (mkF m 0 #[vR a1, vR a2, vI (Int32.ofNat n), vI p4] [])
  refine Go.st (fun _ => XS.aloadN X0.here hx rfl (hb hby (dq dz29 0 0 rfl)) rfl rfl) ?_
  show Go _ _ _ _ _ _ _  s₁ (mkF m 1 #[vR a1, vR a2, vI (Int32.ofNat n), vI p4] [(.ref a1)])
  obtain ⟨cq1, kq1, q1a, q1b, q1c⟩ := isOf hZ e0 E_a1
  refine Go.pure (w := (some (.int p4))) (rest := []) (pc' := 4) (X0.virtualBack hx (y := mY0) (z := mY0) hown (mvT hZ (hwi hw 62 rfl)) (mvT hZ (hwi hw 63 rfl)) (notFace_of_selects (args := #[]) (mvT hZ (hwi hw 65 rfl))) (mvT hZ (hwi hw 65 rfl)) (mvT hZ (hwi hw 64 rfl)) (by decide) (backOf (W := 0) (rmCoderV l Z a0 hw [] a1 zc p4 h0 n0 O S_COMPACT hcs C_a1 hcd) hZ (hwi hw 66 rfl) (hwi hw 7 rfl) (by decide) (by decide)) q1a q1c (g := (mkF m 1 #[vR a1, vR a2, vI (Int32.ofNat n), vI p4] [(.ref a1)])) rfl (by rw [hml]; rfl) (Steps.refl _) (argsL := []) (rest := []) (lenOf pd___B rfl) rfl (by show 2 * 0 + _ ≤ _; exact Nat.le_of_eq rfl) (hb hby (dq dz29 1 1 rfl)) (fun _ _ => ⟨rfl, e0, (by decide : 0 + 0 ≤ _), (by decide : 0 + 0 ≤ _)⟩)) (fun _ _ _ q => q) N0 (fun T1 L1 X1 e1q N1 => ?_)
  show Go _ _ _ _ _ _ _  T1 (mkF m 4 #[vR a1, vR a2, vI (Int32.ofNat n), vI p4] [(.int p4)])
  refine Go.st (fun _ => XS.iloadN X1.here hx rfl (hb hby (dq dz29 2 4 rfl)) rfl) ?_
  show Go _ _ _ _ _ _ _  T1 (mkF m 5 #[vR a1, vR a2, vI (Int32.ofNat n), vI p4] [(.int p4), (.int p4)])
  refine Go.st (fun _ => XS.icmpNo X1.here hx rfl (hb hby (dq dz29 3 5 rfl)) rfl (teq (rfl : p4 = p4)).2) ?_
  show Go _ _ _ _ _ _ _  T1 (mkF m 8 #[vR a1, vR a2, vI (Int32.ofNat n), vI p4] [])
  refine Go.st (fun _ => XS.aloadN X1.here hx rfl (hb hby (dq dz29 4 8 rfl)) rfl rfl) ?_
  show Go _ _ _ _ _ _ _  T1 (mkF m 9 #[vR a1, vR a2, vI (Int32.ofNat n), vI p4] [(.ref a1)])
  obtain ⟨T2, X2, e2, st2⟩ := getF X1 hx hZ hown (host := "") (Or.inl (hwi hw 32 rfl)) Via.refl e1q V_a1 (g := (mkF m 9 #[vR a1, vR a2, vI (Int32.ofNat n), vI p4] [(.ref a1)])) rfl rfl (hb hby (dq dz29 5 9 rfl))
  refine Go.st st2 ?_
  show Go _ _ _ _ _ _ _  T2 (mkF m 12 #[vR a1, vR a2, vI (Int32.ofNat n), vI p4] [(.ref t)])
  refine Go.st (fun _ => XS.iconst X2.here hx rfl (hb hby (dq dz29 6 12 rfl))) ?_
  refine Go.st (fun _ => XS.aloadN X2.here hx rfl (hb hby (dq dz29 7 13 rfl)) rfl rfl) ?_
  refine Go.st (fun _ => XS.iloadN X2.here hx rfl (hb hby (dq dz29 8 14 rfl)) rfl) ?_
  refine Go.st (fun _ => XS.iloadN X2.here hx rfl (hb hby (dq dz29 9 15 rfl)) rfl) ?_
  refine Go.st (fun _ => XS.ishl X2.here hx rfl (hb hby (dq dz29 10 16 rfl)) rfl) ?_
  show Go _ _ _ _ _ _ _  T2 (mkF m 17 #[vR a1, vR a2, vI (Int32.ofNat n), vI p4] [(.int ((Int32.ofNat n) <<< (p4 &&& 31))), (.ref a2), (.int (0 : Int32)), (.ref t)])
  rw [hsh]
  refine Go.st (fun _ => XS.aloadN X2.here hx rfl (hb hby (dq dz29 11 17 rfl)) rfl rfl) ?_
  show Go _ _ _ _ _ _ _  T2 (mkF m 18 #[vR a1, vR a2, vI (Int32.ofNat n), vI p4] [(.ref a1), (.int (Int32.ofNat pn)), (.ref a2), (.int (0 : Int32)), (.ref t)])
  obtain ⟨T3, X3, e3, st3⟩ := getF X2 hx hZ hown (host := "") (Or.inl (hwi hw 32 rfl)) Via.refl e2 V_a1 (g := (mkF m 18 #[vR a1, vR a2, vI (Int32.ofNat n), vI p4] [(.ref a1), (.int (Int32.ofNat pn)), (.ref a2), (.int (0 : Int32)), (.ref t)])) rfl rfl (hb hby (dq dz29 12 18 rfl))
  refine Go.st st3 ?_
  show Go _ _ _ _ _ _ _  T3 (mkF m 21 #[vR a1, vR a2, vI (Int32.ofNat n), vI p4] [(.ref t), (.int (Int32.ofNat pn)), (.ref a2), (.int (0 : Int32)), (.ref t)])
  obtain ⟨cl4, Ar4, q4, S4, M4, Hh4, G4⟩ := id A_t
  refine Go.st (X3.arraylength hx (by rw [e3]; exact Ar4.1) (State.isArrayOf_alike hZ.alike Ar4.2.1) (g := (mkF m 21 #[vR a1, vR a2, vI (Int32.ofNat n), vI p4] [(.ref t), (.int (Int32.ofNat pn)), (.ref a2), (.int (0 : Int32)), (.ref t)])) rfl rfl (hb hby (dq dz29 13 21 rfl))) ?_
  rw [len_of S4 M4]
  show Go _ _ _ _ _ _ _  T3 (mkF m 22 #[vR a1, vR a2, vI (Int32.ofNat n), vI p4] [(.int (Int32.ofNat mm)), (.int (Int32.ofNat pn)), (.ref a2), (.int (0 : Int32)), (.ref t)])
  obtain ⟨T5, h5, L5, X5, e5, N5, K5, V5, st5⟩ := cpA X3 hx hZ hown (hwi hw 149 rfl) (hwi hw 152 rfl) (hwi hw 150 rfl) (hwi hw 151 rfl) e3 A_t (A_a2.pad (pad_rep bs (.int 0) mm)) (Or.inl ⟨rfl, rfl⟩) (by decide) (own_onn (by omega)) (own_onn (by omega)) (by rw [own_ocl (by omega)]; exact Nat.le_of_eq (Nat.zero_add _)) (by rw [own_ocl (by omega), own_ocl (by omega), own_ocl (by omega)]; omega) (us := (List.range mm).map fun i => vs.getD (0 + i) (.int 0)) (by rw [own_ocl (by omega)]; rfl) (by rw [own_ocl (by omega), own_ocl (by omega)]; simp; omega) N1 g_a2 (g := (mkF m 22 #[vR a1, vR a2, vI (Int32.ofNat n), vI p4] [(.int (Int32.ofNat mm)), (.int (Int32.ofNat pn)), (.ref a2), (.int (0 : Int32)), (.ref t)])) rfl (by rw [hml]; rfl) rfl (hb hby (dq dz29 14 22 rfl)) (by decide) (W := 0) (by show 2 * 0 + _ ≤ _; exact Nat.le_of_eq rfl) (by decide)
  refine Go.st st5 ?_
  have V5 := V5.pad (by rw [own_ocl (by omega), own_ocl (by omega)]; exact own_cp hbs (Nat.le_of_eq hvs))
  have ne_a1_a2 : a1 ≠ a2 := (Exa.neArv E_a1 A_a2 (hwi hw 6 rfl))
  have E_a1 := E_a1.keep K5
  have A_t := A_t.keep K5 (ninS ne_t_a2 nin0)
  have C_a1 := C_a1.keep K5 (ninS ne_a1_a2 nin0)
  have V_a1 := V_a1.keep K5 (ninS ne_a1_a2 nin0)
  have O := O.keep K5 (allS g_a2 all0)
  have KK := KK.trans K5 (allS (Or.inl (List.mem_of_getElem? (i := 0) rfl)) all0)
  have A_a2 := V5
  show Go _ _ _ _ _ _ _  T5 (mkF m 25 #[vR a1, vR a2, vI (Int32.ofNat n), vI p4] [])
  refine Go.st (fun _ => XS.goto X5.here hx rfl (pc0 := 25) (pc' := 43) rfl (hb hby (dq dz29 15 25 rfl)) (by decide) (by decide)) ?_
  show Go _ _ _ _ _ _ _  T5 (mkF m 43 #[vR a1, vR a2, vI (Int32.ofNat n), vI p4] [])
  refine Go.ret0 X5 hlk hx Bd.returns (hb hby (dq dz29 16 43 rfl)) (by decide) (by decide) ?_
  show Q_rmGBg Z _ _ _ _ _ _ _ _ _ _ _ _ _ h0 n0 _ T5.heap _
  rw [e5]
  exact ⟨rfl, N5, KK, A_a2⟩
def Q_rmPeq (Z : State) (a1 : Addr) (a2 : Addr) (zc : Int32) (t : Addr) (kd : ClassId) (cap : Nat) (bs : List Value) (u : Addr) (ku : ClassId) (mm : Nat) (vs : List Value) (n : Nat) (pn : Nat) (cd : Int32) (h0 : Heap) (n0 : Nat) (v : Option Value) (h : Heap) (L : List Loc) : Prop := v = none ∧ Fr n0 L ∧ Keep h0 h [t] ∧ Arv Z h t kd .byte (Int32.ofNat cap) (bs ++ vs) (.int 0)
theorem rmPeq (l : Launch) (Z : State) (a0 : Array Value) (hw : HWt a0 Z) (ws : List Jvm.Cond) (a1 : Addr) (a2 : Addr) (zc : Int32) (t : Addr) (kd : ClassId) (cap : Nat) (bs : List Value) (u : Addr) (ku : ClassId) (mm : Nat) (vs : List Value) (n : Nat) (pn : Nat) (cd : Int32) (h0 : Heap) (n0 : Nat) (O : Old Z n0 h0) (S_COMPACT : Sta Z Z.heap "java/lang/String" "COMPACT_STRINGS" "Z" (.int zc)) (hcs : ¬ zc = 0) (E_a1 : Exa Z h0 a1 "java/lang/StringBuilder") (C_a1 : Fld Z h0 a1 "java/lang/AbstractStringBuilder" "coder" "B" (.int cd)) (V_a1 : Fld Z h0 a1 "java/lang/AbstractStringBuilder" "value" "[B" (.ref t)) (A_t : Arv Z h0 t kd .byte (Int32.ofNat cap) bs (.int 0)) (E_a2 : Exa Z h0 a2 "java/lang/String") (C_a2 : Fld Z h0 a2 "java/lang/String" "coder" "B" (.int cd)) (V_a2 : Fld Z h0 a2 "java/lang/String" "value" "[B" (.ref u)) (A_u : Arv Z h0 u ku .byte (Int32.ofNat mm) vs (.int 0)) (hvs : vs.length = mm) (hmm : mm < 1000) (hcd : nar .byte cd = cd) (hsh : Int32.ofNat n <<< (cd &&& 31) = Int32.ofNat pn) (hbs : bs.length = pn) (hcap : pn + mm ≤ cap) (hcb : cap < 1000) (g_t : n0 ≤ t) (ne_u_t : u ≠ t) :
    Met l mY4 (Jvm.Cond.code mY4 jdk_68_method_73_code 3 none :: ws) rz2_0_0_33 #[(.ref a1), (.int (Int32.ofNat n)), (.ref a2)] Z h0 (Q_rmPeq Z a1 a2 zc t kd cap bs u ku mm vs n pn cd h0 n0) := by
  refine MetFree.of_bodySF (plainFor_of_name pn_27) hisR ?_
  intro p e s m args below meth c s₁ Bd hml0 hP hK
  obtain ⟨rfl, hZ, hh⟩ := hP
  have hx := Bd.exec
  have hby := Bd.bytes
  have hml : c.maxLocals = 3 := hml0
  have hown : s.vm.findClass "java/lang/AbstractStringBuilder" = some m.cls := findClass_of_methodNamed Bd.named
  have hlk : meth.locks = false := BodyLoose.notSynchronized Bd
  have X0 : Stand p l e rz2_0_0_33 s m #[(.ref a1), (.int (Int32.ofNat n)), (.ref a2)] below meth c s₁ [] 0 0 := Stand.of_body Bd
  have e0 : s₁.heap = h0 := by rw [← hh, Bd.state]; rfl
  have N0 := Fr.nil n0
  have KK : Keep h0 h0 [t] := Keep.refl h0 _
  show Go p e below s rz2_0_0_33.cells rz2_0_0_33.slots (Q_rmPeq Z a1 a2 zc t kd cap bs u ku mm vs n pn cd h0 n0) s₁ (entryFrame m #[(.ref a1), (.int (Int32.ofNat n)), (.ref a2)] 3)
  refine Go.eq (ef_rmPeq m a1 (Int32.ofNat n) a2) ?_
  show Go _ _ _ _ _ _ _  s₁ (mkF m 0 #[vR a1, vI (Int32.ofNat n), vR a2] [])
  refine Go.st (fun _ => XS.aloadN X0.here hx rfl (hb hby (dq dz27 0 0 rfl)) rfl rfl) ?_
  refine Go.st (fun _ => XS.aloadN X0.here hx rfl (hb hby (dq dz27 1 1 rfl)) rfl rfl) ?_
  show Go _ _ _ _ _ _ _  s₁ (mkF m 2 #[vR a1, vI (Int32.ofNat n), vR a2] [(.ref a2), (.ref a1)])
  obtain ⟨cq1, q1, q1'⟩ := Exa.cell E_a1
  refine Go.pure (w := none) (rest := []) (pc' := 5) (X0.privateBack hx (y := mY3) hown (mvT hZ (hwi hw 138 rfl)) (mvT hZ (hwi hw 139 rfl)) (own_selfsel2 (mvT hZ (hwi hw 141 rfl)) (mvP hZ (hwi hw 140 rfl)) (mvT hZ (hwi hw 139 rfl)) (by decide)) (Cond.privateMethod_at (mvP hZ (hwi hw 140 rfl) (args := #[]))) (mvT hZ (hwi hw 142 rfl)) (by decide) (backOf (W := 0) (rmIf0 l Z a0 hw [] a1 a2 zc cd h0 n0 O S_COMPACT hcs E_a1 C_a1 E_a2 C_a2 hcd) hZ (hwi hw 142 rfl) (hwi hw 104 rfl) (by decide) (by decide)) (g := (mkF m 2 #[vR a1, vI (Int32.ofNat n), vR a2] [(.ref a2), (.ref a1)])) rfl (by rw [hml]; rfl) (Steps.refl _) (a := a1) (by rw [e0]; exact q1) q1' (argsL := [(.ref a2)]) (rest := []) (lenOf pd__Ljava_lang_String__V rfl) rfl (by show 2 * 0 + _ ≤ _; exact Nat.le_of_eq rfl) (hb hby (dq dz27 2 2 rfl)) (fun _ _ => ⟨rfl, e0, (by decide : 0 + 0 ≤ _), (by decide : 0 + 0 ≤ _)⟩)) (fun _ _ _ q => q) N0 (fun T1 L1 X1 e1q N1 => ?_)
  show Go _ _ _ _ _ _ _  T1 (mkF m 5 #[vR a1, vI (Int32.ofNat n), vR a2] [])
  refine Go.st (fun _ => XS.aloadN X1.here hx rfl (hb hby (dq dz27 3 5 rfl)) rfl rfl) ?_
  refine Go.st (fun _ => XS.aloadN X1.here hx rfl (hb hby (dq dz27 4 6 rfl)) rfl rfl) ?_
  show Go _ _ _ _ _ _ _  T1 (mkF m 7 #[vR a1, vI (Int32.ofNat n), vR a2] [(.ref a1), (.ref a2)])
  obtain ⟨T2, X2, e2, st2⟩ := getF X1 hx hZ hown (host := "") (Or.inl (hwi hw 108 rfl)) Via.refl e1q V_a1 (g := (mkF m 7 #[vR a1, vI (Int32.ofNat n), vR a2] [(.ref a1), (.ref a2)])) rfl rfl (hb hby (dq dz27 5 7 rfl))
  refine Go.st st2 ?_
  show Go _ _ _ _ _ _ _  T2 (mkF m 10 #[vR a1, vI (Int32.ofNat n), vR a2] [(.ref t), (.ref a2)])
  refine Go.st (fun _ => XS.iloadN X2.here hx rfl (hb hby (dq dz27 6 10 rfl)) rfl) ?_
  refine Go.st (fun _ => XS.aloadN X2.here hx rfl (hb hby (dq dz27 7 11 rfl)) rfl rfl) ?_
  show Go _ _ _ _ _ _ _  T2 (mkF m 12 #[vR a1, vI (Int32.ofNat n), vR a2] [(.ref a1), (.int (Int32.ofNat n)), (.ref t), (.ref a2)])
  obtain ⟨T3, X3, e3, st3⟩ := getF X2 hx hZ hown (host := "") (Or.inl (hwi hw 110 rfl)) Via.refl e2 C_a1 (g := (mkF m 12 #[vR a1, vI (Int32.ofNat n), vR a2] [(.ref a1), (.int (Int32.ofNat n)), (.ref t), (.ref a2)])) rfl rfl (hb hby (dq dz27 8 12 rfl))
  refine Go.st st3 ?_
  show Go _ _ _ _ _ _ _  T3 (mkF m 15 #[vR a1, vI (Int32.ofNat n), vR a2] [(.int cd), (.int (Int32.ofNat n)), (.ref t), (.ref a2)])
  obtain ⟨cq4, kq4, q4a, q4b, q4c⟩ := isOf hZ e3 E_a2
  obtain ⟨_, _, ⟨T4, L4, k4, n4⟩, -, X4, ⟨Lc4, hQ4, l4, y4, z4⟩, st4⟩ := X3.virtualBack hx (y := mY2) (z := mY2) hown (mvT hZ (hwi hw 144 rfl)) (mvT hZ (hwi hw 145 rfl)) (notFace_of_selects (args := #[]) (mvT hZ (hwi hw 147 rfl))) (mvT hZ (hwi hw 147 rfl)) (mvT hZ (hwi hw 146 rfl)) (by decide) (backOf (W := 0) (rmGBg l Z a0 hw [] a2 t cd zc u ku mm vs kd n pn cap bs h0 n0 O S_COMPACT hcs E_a2 C_a2 V_a2 A_u hvs hmm hcd hsh A_t hbs hcap hcb g_t ne_u_t) hZ (hwi hw 148 rfl) (hwi hw 7 rfl) (by decide) (by decide)) q4a q4c (g := (mkF m 15 #[vR a1, vI (Int32.ofNat n), vR a2] [(.int cd), (.int (Int32.ofNat n)), (.ref t), (.ref a2)])) rfl (by rw [hml]; rfl) (Steps.refl _) (argsL := [(.ref t), (.int (Int32.ofNat n)), (.int cd)]) (rest := []) (lenOf pd___BIB_V rfl) rfl (by show 2 * 0 + _ ≤ _; exact Nat.le_of_eq rfl) (hb hby (dq dz27 9 15 rfl)) (fun _ _ => ⟨rfl, e3, (by decide : 0 + 0 ≤ _), (by decide : 0 + 0 ≤ _)⟩)
  dsimp only [Pt.U, Pt.locs, Pt.cells, Pt.slots] at X4 l4 y4 z4 st4 hQ4
  rw [l4, y4, z4] at X4
  have X4 : Stand p l e _ _ m _ below meth c T4 _ 0 0 := X4
  obtain ⟨rfl, N4q, K4q, Q4⟩ := hQ4
  have N4 := Fr.app N1 N4q
  refine Go.tr st4 ?_
  have ne_a1_t : a1 ≠ t := (Exa.neArv E_a1 A_t (hwi hw 95 rfl))
  have ne_a2_t : a2 ≠ t := (Exa.neArv E_a2 A_t (hwi hw 6 rfl))
  have E_a1 := E_a1.keep K4q
  have E_a2 := E_a2.keep K4q
  have A_u := A_u.keep K4q (ninS ne_u_t nin0)
  have C_a1 := C_a1.keep K4q (ninS ne_a1_t nin0)
  have V_a1 := V_a1.keep K4q (ninS ne_a1_t nin0)
  have C_a2 := C_a2.keep K4q (ninS ne_a2_t nin0)
  have V_a2 := V_a2.keep K4q (ninS ne_a2_t nin0)
  have O := O.keep K4q (allS g_t all0)
  have KK := KK.trans K4q (allS (Or.inl (List.mem_of_getElem? (i := 0) rfl)) all0)
  show Go _ _ _ _ _ _ _  T4 (mkF m 18 #[vR a1, vI (Int32.ofNat n), vR a2] [])
  refine Go.ret0 X4 hlk hx Bd.returns (hb hby (dq dz27 10 18 rfl)) (by decide) (by decide) ?_
  show Q_rmPeq Z _ _ _ _ _ _ _ _ _ _ _ _ _ _ h0 n0 _ T4.heap _
  exact ⟨rfl, N4, KK, Q4⟩
def Q_rmP01 (Z : State) (a1 : Addr) (a2 : Addr) (zc : Int32) (fm : Value) (t : Addr) (kd : ClassId) (u : Addr) (ku : ClassId) (cs : List Int32) (ys : List Int32) (cap : Nat) (h0 : Heap) (n0 : Nat) (v : Option Value) (h : Heap) (L : List Loc) : Prop := v = none ∧ Fr n0 L ∧ Keep h0 h [a1] ∧ Exa Z h a1 "java/lang/StringBuilder" ∧ Fld Z h a1 "java/lang/AbstractStringBuilder" "coder" "B" (.int 1) ∧ Fld Z h a1 "java/lang/AbstractStringBuilder" "count" "I" (.int (Int32.ofNat cs.length)) ∧ Fld Z h a1 "java/lang/AbstractStringBuilder" "maybeLatin1" "Z" (.int 0) ∧ ∃ (b : Addr) (kb : ClassId), h0.size ≤ b ∧ Fld Z h a1 "java/lang/AbstractStringBuilder" "value" "[B" (.ref b) ∧ Arv Z h b kb .byte (Int32.ofNat (2 * cap)) ((own_ub (cs ++ ys)).map Value.int) (.int 0) ∧ Exa Z h b "[B"
theorem rmP01 (l : Launch) (Z : State) (a0 : Array Value) (hw : HWt a0 Z) (ws : List Jvm.Cond) (a1 : Addr) (a2 : Addr) (zc : Int32) (fm : Value) (t : Addr) (kd : ClassId) (u : Addr) (ku : ClassId) (cs : List Int32) (ys : List Int32) (cap : Nat) (h0 : Heap) (n0 : Nat) (O : Old Z n0 h0) (S_COMPACT : Sta Z Z.heap "java/lang/String" "COMPACT_STRINGS" "Z" (.int zc)) (hcs : ¬ zc = 0) (S_SIO : Sta Z Z.heap "jdk/internal/util/Preconditions" "SIOOBE_FORMATTER" "Ljava/util/function/BiFunction;" fm) (ref_fm : fm.isRef = true) (S_ad : Sta Z Z.heap "java/lang/StringUTF16" "$assertionsDisabled" "Z" (.int 1)) (S_hi : Sta Z Z.heap "java/lang/StringUTF16" "HI_BYTE_SHIFT" "I" (.int 0)) (S_lo : Sta Z Z.heap "java/lang/StringUTF16" "LO_BYTE_SHIFT" "I" (.int 8)) (E_a1 : Exa Z h0 a1 "java/lang/StringBuilder") (C_a1 : Fld Z h0 a1 "java/lang/AbstractStringBuilder" "coder" "B" (.int 0)) (V_a1 : Fld Z h0 a1 "java/lang/AbstractStringBuilder" "value" "[B" (.ref t)) (N_a1 : Fld Z h0 a1 "java/lang/AbstractStringBuilder" "count" "I" (.int (Int32.ofNat cs.length))) (M_a1 : Fld Z h0 a1 "java/lang/AbstractStringBuilder" "maybeLatin1" "Z" (.int 0)) (A_t : Arv Z h0 t kd .byte (Int32.ofNat cap) ((cs.map own_lo).map Value.int) (.int 0)) (K_a1 : cs.length ≤ cap) (D_a1 : cap ≤ 34) (g_a1 : n0 ≤ a1) (g_t : n0 ≤ t) (lc : own_l1 cs = true) (hrc : ∀ j, j < cs.length → nar .char (cs.getD j 0) = cs.getD j 0) (E_a2 : Exa Z h0 a2 "java/lang/String") (C_a2 : Fld Z h0 a2 "java/lang/String" "coder" "B" (.int 1)) (V_a2 : Fld Z h0 a2 "java/lang/String" "value" "[B" (.ref u)) (A_u : Arv Z h0 u ku .byte (Int32.ofNat (2 * ys.length)) ((own_ub ys).map Value.int) (.int 0)) (hcy : cs.length + ys.length ≤ cap) :
    Met l mY4 (Jvm.Cond.code mY4 jdk_68_method_73_code 3 none :: ws) rz7_1_68_105 #[(.ref a1), (.int (Int32.ofNat cs.length)), (.ref a2)] Z h0 (Q_rmP01 Z a1 a2 zc fm t kd u ku cs ys cap h0 n0) := by
  refine MetFree.of_bodySF (plainFor_of_name pn_27) hisR ?_
  intro p e s m args below meth c s₁ Bd hml0 hP hK
  obtain ⟨rfl, hZ, hh⟩ := hP
  have hx := Bd.exec
  have hby := Bd.bytes
  have hml : c.maxLocals = 3 := hml0
  have hown : s.vm.findClass "java/lang/AbstractStringBuilder" = some m.cls := findClass_of_methodNamed Bd.named
  have hlk : meth.locks = false := BodyLoose.notSynchronized Bd
  have X0 : Stand p l e rz7_1_68_105 s m #[(.ref a1), (.int (Int32.ofNat cs.length)), (.ref a2)] below meth c s₁ [] 0 0 := Stand.of_body Bd
  have e0 : s₁.heap = h0 := by rw [← hh, Bd.state]; rfl
  have N0 := Fr.nil n0
  have KK : Keep h0 h0 [a1] := Keep.refl h0 _
  show Go p e below s rz7_1_68_105.cells rz7_1_68_105.slots (Q_rmP01 Z a1 a2 zc fm t kd u ku cs ys cap h0 n0) s₁ (entryFrame m #[(.ref a1), (.int (Int32.ofNat cs.length)), (.ref a2)] 3)
  refine Go.eq (ef_rmP01 m a1 (Int32.ofNat cs.length) a2) ?_
  show Go _ _ _ _ _ _ _  s₁ (mkF m 0 #[vR a1, vI (Int32.ofNat cs.length), vR a2] [])
  refine Go.st (fun _ => XS.aloadN X0.here hx rfl (hb hby (dq dz27 0 0 rfl)) rfl rfl) ?_
  refine Go.st (fun _ => XS.aloadN X0.here hx rfl (hb hby (dq dz27 1 1 rfl)) rfl rfl) ?_
  show Go _ _ _ _ _ _ _  s₁ (mkF m 2 #[vR a1, vI (Int32.ofNat cs.length), vR a2] [(.ref a2), (.ref a1)])
  obtain ⟨cq1, q1, q1'⟩ := Exa.cell E_a1
  obtain ⟨_, _, ⟨T1, L1, k1, n1⟩, -, X1, ⟨Lc1, hQ1, l1, y1, z1⟩, st1⟩ := X0.privateBack hx (y := mY3) hown (mvT hZ (hwi hw 138 rfl)) (mvT hZ (hwi hw 139 rfl)) (own_selfsel2 (mvT hZ (hwi hw 141 rfl)) (mvP hZ (hwi hw 140 rfl)) (mvT hZ (hwi hw 139 rfl)) (by decide)) (Cond.privateMethod_at (mvP hZ (hwi hw 140 rfl) (args := #[]))) (mvT hZ (hwi hw 142 rfl)) (by decide) (backOf (W := 0) (rmIf2 l Z a0 hw [] a1 a2 zc fm t kd cs cap h0 n0 O S_COMPACT hcs S_SIO ref_fm S_ad S_hi S_lo E_a1 C_a1 V_a1 N_a1 M_a1 A_t K_a1 D_a1 g_a1 g_t lc hrc E_a2 C_a2) hZ (hwi hw 142 rfl) (hwi hw 104 rfl) (by decide) (by decide)) (g := (mkF m 2 #[vR a1, vI (Int32.ofNat cs.length), vR a2] [(.ref a2), (.ref a1)])) rfl (by rw [hml]; rfl) (Steps.refl _) (a := a1) (by rw [e0]; exact q1) q1' (argsL := [(.ref a2)]) (rest := []) (lenOf pd__Ljava_lang_String__V rfl) rfl (by show 2 * 0 + _ ≤ _; exact Nat.le_of_eq rfl) (hb hby (dq dz27 2 2 rfl)) (fun _ _ => ⟨rfl, e0, (by decide : 0 + 1 ≤ _), (by decide : 0 + 68 ≤ _)⟩)
  dsimp only [Pt.U, Pt.locs, Pt.cells, Pt.slots] at X1 l1 y1 z1 st1 hQ1
  rw [l1, y1, z1] at X1
  have X1 : Stand p l e _ _ m _ below meth c T1 _ 1 68 := X1
  obtain ⟨rfl, N1q, K1q, Eq1, Cq1, Nq1, Mq1, t1, kt1, lt1, Vq1, Aq1, Xq1⟩ := hQ1
  have N1 := Fr.app N0 N1q
  refine Go.tr st1 ?_
  have g_t1 : n0 ≤ t1 := Nat.le_trans (own_le O) lt1
  have sz_t1 : h0.size ≤ t1 := Nat.le_trans KK.1 lt1
  have ne_a1_t1 : a1 ≠ t1 := Nat.ne_of_lt (Nat.lt_of_lt_of_le E_a1.lt lt1)
  have ne_t_t1 : t ≠ t1 := Nat.ne_of_lt (Nat.lt_of_lt_of_le A_t.lt lt1)
  have ne_a2_t1 : a2 ≠ t1 := Nat.ne_of_lt (Nat.lt_of_lt_of_le E_a2.lt lt1)
  have ne_u_t1 : u ≠ t1 := Nat.ne_of_lt (Nat.lt_of_lt_of_le A_u.lt lt1)
  have ne_t_a1 : t ≠ a1 := (Ne.symm (Exa.neArv E_a1 A_t (hwi hw 95 rfl)))
  have ne_u_a1 : u ≠ a1 := (Ne.symm (Exa.neArv E_a1 A_u (hwi hw 95 rfl)))
  have ne_a2_a1 : a2 ≠ a1 := (ne_exa E_a2 E_a1 (by decide))
  have E_a1 := E_a1.keep K1q
  have A_t := A_t.keep K1q (ninS ne_t_a1 nin0)
  have E_a2 := E_a2.keep K1q
  have A_u := A_u.keep K1q (ninS ne_u_a1 nin0)
  have C_a2 := C_a2.keep K1q (ninS ne_a2_a1 nin0)
  have V_a2 := V_a2.keep K1q (ninS ne_a2_a1 nin0)
  have O := O.keep K1q (allS g_a1 all0)
  have KK := KK.trans K1q (allS (Or.inl (List.mem_of_getElem? (i := 0) rfl)) all0)
  have E_a1 := Eq1
  have C_a1 := Cq1
  have N_a1 := Nq1
  have M_a1 := Mq1
  have V_a1 := Vq1
  show Go _ _ _ _ _ _ _  T1 (mkF m 5 #[vR a1, vI (Int32.ofNat cs.length), vR a2] [])
  refine Go.st (fun _ => XS.aloadN X1.here hx rfl (hb hby (dq dz27 3 5 rfl)) rfl rfl) ?_
  refine Go.st (fun _ => XS.aloadN X1.here hx rfl (hb hby (dq dz27 4 6 rfl)) rfl rfl) ?_
  show Go _ _ _ _ _ _ _  T1 (mkF m 7 #[vR a1, vI (Int32.ofNat cs.length), vR a2] [(.ref a1), (.ref a2)])
  obtain ⟨T2, X2, e2, st2⟩ := getF X1 hx hZ hown (host := "") (Or.inl (hwi hw 108 rfl)) Via.refl rfl V_a1 (g := (mkF m 7 #[vR a1, vI (Int32.ofNat cs.length), vR a2] [(.ref a1), (.ref a2)])) rfl rfl (hb hby (dq dz27 5 7 rfl))
  refine Go.st st2 ?_
  show Go _ _ _ _ _ _ _  T2 (mkF m 10 #[vR a1, vI (Int32.ofNat cs.length), vR a2] [(.ref t1), (.ref a2)])
  refine Go.st (fun _ => XS.iloadN X2.here hx rfl (hb hby (dq dz27 6 10 rfl)) rfl) ?_
  refine Go.st (fun _ => XS.aloadN X2.here hx rfl (hb hby (dq dz27 7 11 rfl)) rfl rfl) ?_
  show Go _ _ _ _ _ _ _  T2 (mkF m 12 #[vR a1, vI (Int32.ofNat cs.length), vR a2] [(.ref a1), (.int (Int32.ofNat cs.length)), (.ref t1), (.ref a2)])
  obtain ⟨T3, X3, e3, st3⟩ := getF X2 hx hZ hown (host := "") (Or.inl (hwi hw 110 rfl)) Via.refl e2 C_a1 (g := (mkF m 12 #[vR a1, vI (Int32.ofNat cs.length), vR a2] [(.ref a1), (.int (Int32.ofNat cs.length)), (.ref t1), (.ref a2)])) rfl rfl (hb hby (dq dz27 8 12 rfl))
  refine Go.st st3 ?_
  show Go _ _ _ _ _ _ _  T3 (mkF m 15 #[vR a1, vI (Int32.ofNat cs.length), vR a2] [(.int (1 : Int32)), (.int (Int32.ofNat cs.length)), (.ref t1), (.ref a2)])
  obtain ⟨cq4, kq4, q4a, q4b, q4c⟩ := isOf hZ e3 E_a2
  obtain ⟨_, _, ⟨T4, L4, k4, n4⟩, -, X4, ⟨Lc4, hQ4, l4, y4, z4⟩, st4⟩ := X3.virtualBack hx (y := mY2) (z := mY2) hown (mvT hZ (hwi hw 144 rfl)) (mvT hZ (hwi hw 145 rfl)) (notFace_of_selects (args := #[]) (mvT hZ (hwi hw 147 rfl))) (mvT hZ (hwi hw 147 rfl)) (mvT hZ (hwi hw 146 rfl)) (by decide) (backOf (W := 0) (rmGBg l Z a0 hw [] a2 t1 (1 : Int32) zc u ku (2 * ys.length) ((own_ub ys).map Value.int) kt1 cs.length (2 * cs.length) (2 * cap) ((own_ub cs).map Value.int) T1.heap n0 O S_COMPACT hcs E_a2 C_a2 V_a2 A_u (by rw [List.length_map, own_ubl]) (by omega) (by decide) (own_shl1 (by omega)) Aq1 (by rw [List.length_map, own_ubl]) (by omega) (by omega) g_t1 ne_u_t1) hZ (hwi hw 148 rfl) (hwi hw 7 rfl) (by decide) (by decide)) q4a q4c (g := (mkF m 15 #[vR a1, vI (Int32.ofNat cs.length), vR a2] [(.int (1 : Int32)), (.int (Int32.ofNat cs.length)), (.ref t1), (.ref a2)])) rfl (by rw [hml]; rfl) (Steps.refl _) (argsL := [(.ref t1), (.int (Int32.ofNat cs.length)), (.int (1 : Int32))]) (rest := []) (lenOf pd___BIB_V rfl) rfl (by show 2 * 0 + _ ≤ _; exact Nat.le_of_eq rfl) (hb hby (dq dz27 9 15 rfl)) (fun _ _ => ⟨rfl, e3, (by decide : 1 + 0 ≤ _), (by decide : 68 + 0 ≤ _)⟩)
  dsimp only [Pt.U, Pt.locs, Pt.cells, Pt.slots] at X4 l4 y4 z4 st4 hQ4
  rw [l4, y4, z4] at X4
  have X4 : Stand p l e _ _ m _ below meth c T4 _ 1 68 := X4
  obtain ⟨rfl, N4q, K4q, Q4⟩ := hQ4
  have N4 := Fr.app N1 N4q
  refine Go.tr st4 ?_
  have E_a1 := E_a1.keep K4q
  have A_t := A_t.keep K4q (ninS ne_t_t1 nin0)
  have E_a2 := E_a2.keep K4q
  have A_u := A_u.keep K4q (ninS ne_u_t1 nin0)
  have C_a2 := C_a2.keep K4q (ninS ne_a2_t1 nin0)
  have V_a2 := V_a2.keep K4q (ninS ne_a2_t1 nin0)
  have C_a1 := C_a1.keep K4q (ninS ne_a1_t1 nin0)
  have V_a1 := V_a1.keep K4q (ninS ne_a1_t1 nin0)
  have N_a1 := N_a1.keep K4q (ninS ne_a1_t1 nin0)
  have M_a1 := M_a1.keep K4q (ninS ne_a1_t1 nin0)
  have Xq1 := Xq1.keep K4q
  have O := O.keep K4q (allS g_t1 all0)
  have KK := KK.trans K4q (allS (Or.inr sz_t1) all0)
  rw [← List.map_append, ← own_uba] at Q4
  show Go _ _ _ _ _ _ _  T4 (mkF m 18 #[vR a1, vI (Int32.ofNat cs.length), vR a2] [])
  refine Go.ret0 X4 hlk hx Bd.returns (hb hby (dq dz27 10 18 rfl)) (by decide) (by decide) ?_
  show Q_rmP01 Z _ _ _ _ _ _ _ _ _ _ _ h0 n0 _ T4.heap _
  exact ⟨rfl, N4, KK, E_a1, C_a1, N_a1, M_a1, t1, kt1, sz_t1, V_a1, Q4, Xq1⟩
def Q_rmPw (Z : State) (a1 : Addr) (a2 : Addr) (zc : Int32) (fm : Value) (t : Addr) (kd : ClassId) (u : Addr) (ku : ClassId) (cs : List Int32) (ys : List Int32) (cap : Nat) (m0 : Nat) (h0 : Heap) (n0 : Nat) (v : Option Value) (h : Heap) (L : List Loc) : Prop := v = none ∧ Fr n0 L ∧ Keep h0 h [a1, t] ∧ ∃ (b : Addr) (kb : ClassId), (b = t ∨ h0.size ≤ b) ∧ n0 ≤ b ∧ m0 ≤ b ∧ Exa Z h a1 "java/lang/StringBuilder" ∧ Fld Z h a1 "java/lang/AbstractStringBuilder" "coder" "B" (.int (own_cd (cs ++ ys))) ∧ Fld Z h a1 "java/lang/AbstractStringBuilder" "value" "[B" (.ref b) ∧ Fld Z h a1 "java/lang/AbstractStringBuilder" "count" "I" (.int (Int32.ofNat cs.length)) ∧ Fld Z h a1 "java/lang/AbstractStringBuilder" "maybeLatin1" "Z" (.int 0) ∧ Arv Z h b kb .byte (Int32.ofNat (own_cl (cs ++ ys) cap)) ((own_by (cs ++ ys)).map Value.int) (.int 0) ∧ (Exa Z h b "[B" ∨ 17 < cap)
theorem rmPw (l : Launch) (Z : State) (a0 : Array Value) (hw : HWt a0 Z) (ws : List Jvm.Cond) (a1 : Addr) (a2 : Addr) (zc : Int32) (fm : Value) (t : Addr) (kd : ClassId) (u : Addr) (ku : ClassId) (cs : List Int32) (ys : List Int32) (cap : Nat) (m0 : Nat) (h0 : Heap) (n0 : Nat) (O : Old Z n0 h0) (S_COMPACT : Sta Z Z.heap "java/lang/String" "COMPACT_STRINGS" "Z" (.int zc)) (hcs : ¬ zc = 0) (S_SIO : Sta Z Z.heap "jdk/internal/util/Preconditions" "SIOOBE_FORMATTER" "Ljava/util/function/BiFunction;" fm) (ref_fm : fm.isRef = true) (S_ad : Sta Z Z.heap "java/lang/StringUTF16" "$assertionsDisabled" "Z" (.int 1)) (S_hi : Sta Z Z.heap "java/lang/StringUTF16" "HI_BYTE_SHIFT" "I" (.int 0)) (S_lo : Sta Z Z.heap "java/lang/StringUTF16" "LO_BYTE_SHIFT" "I" (.int 8)) (E_a1 : Exa Z h0 a1 "java/lang/StringBuilder") (C_a1 : Fld Z h0 a1 "java/lang/AbstractStringBuilder" "coder" "B" (.int (own_cd cs))) (V_a1 : Fld Z h0 a1 "java/lang/AbstractStringBuilder" "value" "[B" (.ref t)) (N_a1 : Fld Z h0 a1 "java/lang/AbstractStringBuilder" "count" "I" (.int (Int32.ofNat cs.length))) (M_a1 : Fld Z h0 a1 "java/lang/AbstractStringBuilder" "maybeLatin1" "Z" (.int 0)) (A_t : Arv Z h0 t kd .byte (Int32.ofNat (own_cl cs cap)) ((own_by cs).map Value.int) (.int 0)) (K_a1 : cs.length ≤ cap) (B_a1 : 16 ≤ cap) (D_a1 : cap ≤ 34) (g_a1 : n0 ≤ a1) (g_t : n0 ≤ t) (E_a2 : Exa Z h0 a2 "java/lang/String") (C_a2 : Fld Z h0 a2 "java/lang/String" "coder" "B" (.int (own_cd ys))) (V_a2 : Fld Z h0 a2 "java/lang/String" "value" "[B" (.ref u)) (A_u : Arv Z h0 u ku .byte (Int32.ofNat (own_by ys).length) ((own_by ys).map Value.int) (.int 0)) (hrc : ∀ j, j < cs.length → nar .char (cs.getD j 0) = cs.getD j 0) (hry : ∀ j, j < ys.length → nar .char (ys.getD j 0) = ys.getD j 0) (hcy : cs.length + ys.length ≤ cap) (ne_u_t : u ≠ t) (hm1 : m0 ≤ t) (hm2 : m0 ≤ h0.size) (XX : Exa Z h0 t "[B" ∨ 17 < cap) (lcs : own_l1 cs = true) :
    Met l mY4 (Jvm.Cond.code mY4 jdk_68_method_73_code 3 none :: ws) rz7_1_68_105 #[(.ref a1), (.int (Int32.ofNat cs.length)), (.ref a2)] Z h0 (Q_rmPw Z a1 a2 zc fm t kd u ku cs ys cap m0 h0 n0) := by
  have nat_ : a1 ≠ t := Exa.neArv E_a1 A_t (hwi hw 95 rfl)
  have nt : a1 ∉ [t] := ninS nat_ nin0
  rcases own_cdTF cs with ⟨lc, ec⟩ | ⟨lc, ec⟩
  · rw [ec] at C_a1; rw [own_clT lc, own_byT lc] at A_t
    rcases own_cdTF ys with ⟨ly, ey⟩ | ⟨ly, ey⟩
    · rw [ey] at C_a2; rw [own_byT ly, List.length_map] at A_u
      refine own_wide (rmPeq l Z a0 hw ws a1 a2 zc t kd cap _ u ku ys.length _ cs.length cs.length 0 h0 n0 O S_COMPACT hcs E_a1 C_a1 V_a1 A_t E_a2 C_a2 V_a2 A_u (by rw [List.length_map, List.length_map]) (by omega) (by decide) (own_shl0 _) (by rw [List.length_map, List.length_map]) (by omega) (by omega) g_t ne_u_t) (by decide) (by decide) (by decide) (by decide) (fun v h L q => ?_)
      obtain ⟨q1, q2, q3, q4⟩ := q
      have lb := own_TT lc ly
      exact ⟨q1, q2, own_kt q3, t, kd, Or.inl rfl, g_t, hm1, E_a1.keep q3, (by rw [own_cdT lb]; exact C_a1.keep q3 nt), V_a1.keep q3 nt, N_a1.keep q3 nt, M_a1.keep q3 nt, (by rw [own_clT lb, own_byT lb, List.map_append, List.map_append]; exact q4), XX.imp (fun E => E.keep q3) id⟩
    · rw [ey] at C_a2; rw [own_byF ly, own_ubl] at A_u
      refine own_wide (rmP01 l Z a0 hw ws a1 a2 zc fm t kd u ku cs ys cap h0 n0 O S_COMPACT hcs S_SIO ref_fm S_ad S_hi S_lo E_a1 C_a1 V_a1 N_a1 M_a1 A_t K_a1 D_a1 g_a1 g_t lc hrc E_a2 C_a2 V_a2 A_u hcy) (by decide) (by decide) (by decide) (by decide) (fun v h L q => ?_)
      obtain ⟨q1, q2, q3, q4, q5, q6, q7, b, kb, lb, q8, q9, q10⟩ := q
      have lF := own_Fr (a := cs) ly
      exact ⟨q1, q2, own_kw q3, b, kb, Or.inr lb, Nat.le_trans (own_le O) lb, Nat.le_trans hm2 lb, q4, (by rw [own_cdF lF]; exact q5), q8, q6, q7, (by rw [own_clF lF, own_byF lF]; exact q9), Or.inl q10⟩
  · exact absurd lcs (by rw [lc]; decide)
def Q_rmAU (Z : State) (a1 : Addr) (a2 : Addr) (zc : Int32) (fm : Value) (t : Addr) (kd : ClassId) (cs : List Int32) (cap : Nat) (u : Addr) (ku : ClassId) (ys : List Int32) (m0 : Nat) (h0 : Heap) (n0 : Nat) (v : Option Value) (h : Heap) (L : List Loc) : Prop := v = some (.ref a1) ∧ Fr n0 L ∧ Keep h0 h [a1, t] ∧ ∃ (b : Addr) (kb : ClassId) (cap2 : Nat), (b = t ∨ h0.size ≤ b) ∧ (cs ++ ys).length ≤ cap2 ∧ n0 ≤ b ∧ m0 ≤ b ∧ Exa Z h a1 "java/lang/StringBuilder" ∧ Fld Z h a1 "java/lang/AbstractStringBuilder" "coder" "B" (.int (own_cd (cs ++ ys))) ∧ Fld Z h a1 "java/lang/AbstractStringBuilder" "value" "[B" (.ref b) ∧ Fld Z h a1 "java/lang/AbstractStringBuilder" "count" "I" (.int (Int32.ofNat (cs ++ ys).length)) ∧ Fld Z h a1 "java/lang/AbstractStringBuilder" "maybeLatin1" "Z" (.int 0) ∧ Arv Z h b kb .byte (Int32.ofNat (own_cl (cs ++ ys) cap2)) ((own_by (cs ++ ys)).map Value.int) (.int 0) ∧ 16 ≤ cap2 ∧ cap2 ≤ 34 ∧ (Exa Z h b "[B" ∨ 17 < cap2)
theorem rmAU (l : Launch) (Z : State) (a0 : Array Value) (hw : HWt a0 Z) (ws : List Jvm.Cond) (a1 : Addr) (a2 : Addr) (zc : Int32) (fm : Value) (t : Addr) (kd : ClassId) (cs : List Int32) (cap : Nat) (u : Addr) (ku : ClassId) (ys : List Int32) (m0 : Nat) (h0 : Heap) (n0 : Nat) (O : Old Z n0 h0) (S_COMPACT : Sta Z Z.heap "java/lang/String" "COMPACT_STRINGS" "Z" (.int zc)) (hcs : ¬ zc = 0) (S_SIO : Sta Z Z.heap "jdk/internal/util/Preconditions" "SIOOBE_FORMATTER" "Ljava/util/function/BiFunction;" fm) (ref_fm : fm.isRef = true) (S_ad : Sta Z Z.heap "java/lang/StringUTF16" "$assertionsDisabled" "Z" (.int 1)) (S_hi : Sta Z Z.heap "java/lang/StringUTF16" "HI_BYTE_SHIFT" "I" (.int 0)) (S_lo : Sta Z Z.heap "java/lang/StringUTF16" "LO_BYTE_SHIFT" "I" (.int 8)) (E_a1 : Exa Z h0 a1 "java/lang/StringBuilder") (C_a1 : Fld Z h0 a1 "java/lang/AbstractStringBuilder" "coder" "B" (.int (own_cd cs))) (V_a1 : Fld Z h0 a1 "java/lang/AbstractStringBuilder" "value" "[B" (.ref t)) (N_a1 : Fld Z h0 a1 "java/lang/AbstractStringBuilder" "count" "I" (.int (Int32.ofNat cs.length))) (M_a1 : Fld Z h0 a1 "java/lang/AbstractStringBuilder" "maybeLatin1" "Z" (.int 0)) (A_t : Arv Z h0 t kd .byte (Int32.ofNat (own_cl cs cap)) ((own_by cs).map Value.int) (.int 0)) (K_a1 : cs.length ≤ cap) (B_a1 : 16 ≤ cap) (D_a1 : cap ≤ 34) (g_a1 : n0 ≤ a1) (g_t : n0 ≤ t) (E_a2 : Exa Z h0 a2 "java/lang/String") (C_a2 : Fld Z h0 a2 "java/lang/String" "coder" "B" (.int (own_cd ys))) (V_a2 : Fld Z h0 a2 "java/lang/String" "value" "[B" (.ref u)) (A_u : Arv Z h0 u ku .byte (Int32.ofNat (own_by ys).length) ((own_by ys).map Value.int) (.int 0)) (hrc : ∀ j, j < cs.length → nar .char (cs.getD j 0) = cs.getD j 0) (hry : ∀ j, j < ys.length → nar .char (ys.getD j 0) = ys.getD j 0) (hl30 : cs.length + ys.length ≤ 17) (ne_u_t : u ≠ t) (g_u : u < h0.size) (hm1 : m0 ≤ t) (hm2 : m0 ≤ h0.size) (XX : Exa Z h0 t "[B" ∨ 17 < cap) (lcs : own_l1 cs = true) :
    Met l mY11 (Jvm.Cond.code mY11 jdk_68_method_22_code 3 (some (.object "java/lang/AbstractStringBuilder")) :: ws) rz8_2_136_120 #[(.ref a1), (.ref a2)] Z h0 (Q_rmAU Z a1 a2 zc fm t kd cs cap u ku ys m0 h0 n0) := by
  refine MetFree.of_bodySF (plainFor_of_name pn_25) hisR ?_
  intro p e s m args below meth c s₁ Bd hml0 hP hK
  obtain ⟨rfl, hZ, hh⟩ := hP
  have hx := Bd.exec
  have hby := Bd.bytes
  have hml : c.maxLocals = 3 := hml0
  have hown : s.vm.findClass "java/lang/AbstractStringBuilder" = some m.cls := findClass_of_methodNamed Bd.named
  have hlk : meth.locks = false := BodyLoose.notSynchronized Bd
  have X0 : Stand p l e rz8_2_136_120 s m #[(.ref a1), (.ref a2)] below meth c s₁ [] 0 0 := Stand.of_body Bd
  have e0 : s₁.heap = h0 := by rw [← hh, Bd.state]; rfl
  have N0 := Fr.nil n0
  have KK : Keep h0 h0 [a1, t] := Keep.refl h0 _
  show Go p e below s rz8_2_136_120.cells rz8_2_136_120.slots (Q_rmAU Z a1 a2 zc fm t kd cs cap u ku ys m0 h0 n0) s₁ (entryFrame m #[(.ref a1), (.ref a2)] 3)
  refine Go.eq (ef_rmAU m a1 a2) ?_
  show Go _ _ _ _ _ _ _  s₁ (mkF m 0 #[vR a1, vR a2, uS] [])
  refine Go.st (fun _ => XS.aloadN X0.here hx rfl (hb hby (dq dz25 0 0 rfl)) rfl rfl) ?_
  show Go _ _ _ _ _ _ _  s₁ (mkF m 1 #[vR a1, vR a2, uS] [(.ref a2)])
  refine Go.st (fun _ => XS.ifnonnullYes X0.here hx rfl (pc0 := 1) (pc' := 9) rfl (hb hby (dq dz25 1 1 rfl)) rfl (by decide) (by decide)) ?_
  show Go _ _ _ _ _ _ _  s₁ (mkF m 9 #[vR a1, vR a2, uS] [])
  refine Go.st (fun _ => XS.aloadN X0.here hx rfl (hb hby (dq dz25 2 9 rfl)) rfl rfl) ?_
  show Go _ _ _ _ _ _ _  s₁ (mkF m 10 #[vR a1, vR a2, uS] [(.ref a2)])
  obtain ⟨cq1, kq1, q1a, q1b, q1c⟩ := isOf hZ e0 E_a2
  refine Go.pure (w := (some (.int (Int32.ofNat ys.length)))) (rest := []) (pc' := 13) (X0.virtualBack hx (y := mY1) (z := mY1) hown (mvT hZ (hwi hw 125 rfl)) (mvT hZ (hwi hw 58 rfl)) (notFace_of_selects (args := #[]) (mvT hZ (hwi hw 60 rfl))) (mvT hZ (hwi hw 60 rfl)) (mvT hZ (hwi hw 59 rfl)) (by decide) (backOf (W := 0) (rmLenU l Z a0 hw [] a2 zc u ku ys h0 n0 O S_COMPACT hcs E_a2 C_a2 V_a2 A_u (by omega)) hZ (hwi hw 61 rfl) (hwi hw 7 rfl) (by decide) (by decide)) q1a q1c (g := (mkF m 10 #[vR a1, vR a2, uS] [(.ref a2)])) rfl (by rw [hml]; rfl) (Steps.refl _) (argsL := []) (rest := []) (lenOf pd___I rfl) rfl (by show 2 * 0 + _ ≤ _; exact Nat.le_of_eq rfl) (hb hby (dq dz25 3 10 rfl)) (fun _ _ => ⟨rfl, e0, (by decide : 0 + 0 ≤ _), (by decide : 0 + 0 ≤ _)⟩)) (fun _ _ _ q => q) N0 (fun T1 L1 X1 e1q N1 => ?_)
  show Go _ _ _ _ _ _ _  T1 (mkF m 13 #[vR a1, vR a2, uS] [(.int (Int32.ofNat ys.length))])
  refine Go.st (fun _ => XS.istoreN X1.here hx rfl (hb hby (dq dz25 4 13 rfl)) rfl (l' := #[vR a1, vR a2, vI (Int32.ofNat ys.length)]) rfl) ?_
  refine Go.st (fun _ => XS.aloadN X1.here hx rfl (hb hby (dq dz25 5 14 rfl)) rfl rfl) ?_
  refine Go.st (fun _ => XS.aloadN X1.here hx rfl (hb hby (dq dz25 6 15 rfl)) rfl rfl) ?_
  show Go _ _ _ _ _ _ _  T1 (mkF m 16 #[vR a1, vR a2, vI (Int32.ofNat ys.length)] [(.ref a1), (.ref a1)])
  obtain ⟨T2, X2, e2, st2⟩ := getF X1 hx hZ hown (host := "") (Or.inl (hwi hw 126 rfl)) Via.refl e1q N_a1 (g := (mkF m 16 #[vR a1, vR a2, vI (Int32.ofNat ys.length)] [(.ref a1), (.ref a1)])) rfl rfl (hb hby (dq dz25 7 16 rfl))
  refine Go.st st2 ?_
  show Go _ _ _ _ _ _ _  T2 (mkF m 19 #[vR a1, vR a2, vI (Int32.ofNat ys.length)] [(.int (Int32.ofNat cs.length)), (.ref a1)])
  refine Go.st (fun _ => XS.iloadN X2.here hx rfl (hb hby (dq dz25 8 19 rfl)) rfl) ?_
  refine Go.st (fun _ => XS.iadd X2.here hx rfl (hb hby (dq dz25 9 20 rfl)) rfl) ?_
  show Go _ _ _ _ _ _ _  T2 (mkF m 21 #[vR a1, vR a2, vI (Int32.ofNat ys.length)] [(.int ((Int32.ofNat cs.length) + (Int32.ofNat ys.length))), (.ref a1)])
  rw [own_oadd]
  show Go _ _ _ _ _ _ _  T2 (mkF m 21 #[vR a1, vR a2, vI (Int32.ofNat ys.length)] [(.int (Int32.ofNat (cs.length + ys.length))), (.ref a1)])
  obtain ⟨cq3, q3, q3'⟩ := Exa.cell E_a1
  obtain ⟨_, _, ⟨T3, L3, k3, n3⟩, -, X3, ⟨Lc3, hQ3, l3, y3, z3⟩, st3⟩ := X2.privateBack hx (y := mY10) hown (mvT hZ (hwi hw 128 rfl)) (mvT hZ (hwi hw 129 rfl)) (own_selfsel2 (mvT hZ (hwi hw 131 rfl)) (mvP hZ (hwi hw 130 rfl)) (mvT hZ (hwi hw 129 rfl)) (by decide)) (Cond.privateMethod_at (mvP hZ (hwi hw 130 rfl) (args := #[]))) (mvT hZ (hwi hw 132 rfl)) (by decide) (backOf (W := 0) (rmEw l Z a0 hw [] a1 (cs.length + ys.length) t kd cs cap m0 h0 n0 O E_a1 C_a1 V_a1 N_a1 M_a1 A_t K_a1 B_a1 D_a1 g_a1 g_t hm1 hm2 XX hl30) hZ (hwi hw 132 rfl) (hwi hw 104 rfl) (by decide) (by decide)) (g := (mkF m 21 #[vR a1, vR a2, vI (Int32.ofNat ys.length)] [(.int (Int32.ofNat (cs.length + ys.length))), (.ref a1)])) rfl (by rw [hml]; rfl) (Steps.refl _) (a := a1) (by rw [e2]; exact q3) q3' (argsL := [(.int (Int32.ofNat (cs.length + ys.length)))]) (rest := []) (lenOf pd__I_V rfl) rfl (by show 2 * 0 + _ ≤ _; exact Nat.le_of_eq rfl) (hb hby (dq dz25 10 21 rfl)) (fun _ _ => ⟨rfl, e2, (by decide : 0 + 1 ≤ _), (by decide : 0 + 68 ≤ _)⟩)
  dsimp only [Pt.U, Pt.locs, Pt.cells, Pt.slots] at X3 l3 y3 z3 st3 hQ3
  rw [l3, y3, z3] at X3
  have X3 : Stand p l e _ _ m _ below meth c T3 _ 1 68 := X3
  obtain ⟨rfl, N3q, K3q, t3, kt3, cp3, kc3, kd3, bt3, gb3, mb3, Eq3, Cq3, Vq3, Nq3, Mq3, Aq3, lo3, hi3, Xq3⟩ := hQ3
  have N3 := Fr.app N1 N3q
  refine Go.tr st3 ?_
  have ne_u_a1 : u ≠ a1 := (Ne.symm (Exa.neArv E_a1 A_u (hwi hw 95 rfl)))
  have ne_a2_a1 : a2 ≠ a1 := (ne_exa E_a2 E_a1 (by decide))
  have ne_a2_t : a2 ≠ t := (Exa.neArv E_a2 A_t (hwi hw 6 rfl))
  have E_a1 := E_a1.keep K3q
  have E_a2 := E_a2.keep K3q
  have A_u := A_u.keep K3q (ninS ne_u_a1 (ninS ne_u_t nin0))
  have C_a2 := C_a2.keep K3q (ninS ne_a2_a1 (ninS ne_a2_t nin0))
  have V_a2 := V_a2.keep K3q (ninS ne_a2_a1 (ninS ne_a2_t nin0))
  have XX := XX.imp (fun q => q.keep K3q) id
  have O := O.keep K3q (allS g_a1 (allS g_t all0))
  have KK := KK.trans K3q (allS (Or.inl (List.mem_of_getElem? (i := 0) rfl)) (allS (Or.inl (List.mem_of_getElem? (i := 1) rfl)) all0))
  have E_a1 := Eq3
  have g_t3 := gb3
  have ne_u_t3 : u ≠ t3 := bt3.elim (fun e => e ▸ ne_u_t) (fun e => Nat.ne_of_lt (Nat.lt_of_lt_of_le g_u e))
  show Go _ _ _ _ _ _ _  T3 (mkF m 24 #[vR a1, vR a2, vI (Int32.ofNat ys.length)] [])
  refine Go.st (fun _ => XS.aloadN X3.here hx rfl (hb hby (dq dz25 11 24 rfl)) rfl rfl) ?_
  refine Go.st (fun _ => XS.aloadN X3.here hx rfl (hb hby (dq dz25 12 25 rfl)) rfl rfl) ?_
  show Go _ _ _ _ _ _ _  T3 (mkF m 26 #[vR a1, vR a2, vI (Int32.ofNat ys.length)] [(.ref a1), (.ref a1)])
  obtain ⟨T4, X4, e4, st4⟩ := getF X3 hx hZ hown (host := "") (Or.inl (hwi hw 126 rfl)) Via.refl rfl Nq3 (g := (mkF m 26 #[vR a1, vR a2, vI (Int32.ofNat ys.length)] [(.ref a1), (.ref a1)])) rfl rfl (hb hby (dq dz25 13 26 rfl))
  refine Go.st st4 ?_
  show Go _ _ _ _ _ _ _  T4 (mkF m 29 #[vR a1, vR a2, vI (Int32.ofNat ys.length)] [(.int (Int32.ofNat cs.length)), (.ref a1)])
  refine Go.st (fun _ => XS.aloadN X4.here hx rfl (hb hby (dq dz25 14 29 rfl)) rfl rfl) ?_
  show Go _ _ _ _ _ _ _  T4 (mkF m 30 #[vR a1, vR a2, vI (Int32.ofNat ys.length)] [(.ref a2), (.int (Int32.ofNat cs.length)), (.ref a1)])
  have k2_3 := KK.1
  have m2_3 : m0 ≤ T3.heap.size := Nat.le_trans hm2 KK.1
  obtain ⟨cq5, q5, q5'⟩ := Exa.cell E_a1
  obtain ⟨_, _, ⟨T5, L5, k5, n5⟩, -, X5, ⟨Lc5, hQ5, l5, y5, z5⟩, st5⟩ := X4.privateBack hx (y := mY4) hown (mvT hZ (hwi hw 133 rfl)) (mvT hZ (hwi hw 134 rfl)) (own_selfsel2 (mvT hZ (hwi hw 136 rfl)) (mvP hZ (hwi hw 135 rfl)) (mvT hZ (hwi hw 134 rfl)) (by decide)) (Cond.privateMethod_at (mvP hZ (hwi hw 135 rfl) (args := #[]))) (mvT hZ (hwi hw 137 rfl)) (by decide) (backOf (W := 0) (rmPw l Z a0 hw [] a1 a2 zc fm t3 kt3 u ku cs ys cp3 m0 T3.heap n0 O S_COMPACT hcs S_SIO ref_fm S_ad S_hi S_lo E_a1 Cq3 Vq3 Nq3 Mq3 Aq3 kd3 lo3 hi3 g_a1 g_t3 E_a2 C_a2 V_a2 A_u hrc hry kc3 ne_u_t3 mb3 m2_3 Xq3 lcs) hZ (hwi hw 137 rfl) (hwi hw 104 rfl) (by decide) (by decide)) (g := (mkF m 30 #[vR a1, vR a2, vI (Int32.ofNat ys.length)] [(.ref a2), (.int (Int32.ofNat cs.length)), (.ref a1)])) rfl (by rw [hml]; rfl) (Steps.refl _) (a := a1) (by rw [e4]; exact q5) q5' (argsL := [(.int (Int32.ofNat cs.length)), (.ref a2)]) (rest := []) (lenOf pd__ILjava_lang_String__V rfl) rfl (by show 2 * 0 + _ ≤ _; exact Nat.le_of_eq rfl) (hb hby (dq dz25 15 30 rfl)) (fun _ _ => ⟨rfl, e4, (by decide : 1 + 1 ≤ _), (by decide : 68 + 68 ≤ _)⟩)
  dsimp only [Pt.U, Pt.locs, Pt.cells, Pt.slots] at X5 l5 y5 z5 st5 hQ5
  rw [l5, y5, z5] at X5
  have X5 : Stand p l e _ _ m _ below meth c T5 _ 2 136 := X5
  obtain ⟨rfl, N5q, K5q, t5, kt5, bt5, gb5, mb5, Eq5, Cq5, Vq5, Nq5, Mq5, Aq5, Xq5⟩ := hQ5
  have N5 := Fr.app N3 N5q
  refine Go.tr st5 ?_
  have ne_a2_t3 : a2 ≠ t3 := (Exa.neArv E_a2 Aq3 (hwi hw 6 rfl))
  have E_a1 := E_a1.keep K5q
  have E_a2 := E_a2.keep K5q
  have A_u := A_u.keep K5q (ninS ne_u_a1 (ninS ne_u_t3 nin0))
  have C_a2 := C_a2.keep K5q (ninS ne_a2_a1 (ninS ne_a2_t3 nin0))
  have V_a2 := V_a2.keep K5q (ninS ne_a2_a1 (ninS ne_a2_t3 nin0))
  have Xq3 := Xq3.imp (fun q => q.keep K5q) id
  have O := O.keep K5q (allS g_a1 (allS g_t3 all0))
  have KK := KK.trans K5q (allS (Or.inl (List.mem_of_getElem? (i := 0) rfl)) (allS (own_wi bt3) all0))
  have E_a1 := Eq5
  have g_t5 := gb5
  show Go _ _ _ _ _ _ _  T5 (mkF m 33 #[vR a1, vR a2, vI (Int32.ofNat ys.length)] [])
  refine Go.st (fun _ => XS.aloadN X5.here hx rfl (hb hby (dq dz25 16 33 rfl)) rfl rfl) ?_
  refine Go.st (fun _ => XS.dup X5.here hx rfl (hb hby (dq dz25 17 34 rfl)) rfl rfl) ?_
  show Go _ _ _ _ _ _ _  T5 (mkF m 35 #[vR a1, vR a2, vI (Int32.ofNat ys.length)] [(.ref a1), (.ref a1)])
  obtain ⟨T6, X6, e6, st6⟩ := getF X5 hx hZ hown (host := "") (Or.inl (hwi hw 126 rfl)) Via.refl rfl Nq5 (g := (mkF m 35 #[vR a1, vR a2, vI (Int32.ofNat ys.length)] [(.ref a1), (.ref a1)])) rfl rfl (hb hby (dq dz25 18 35 rfl))
  refine Go.st st6 ?_
  show Go _ _ _ _ _ _ _  T6 (mkF m 38 #[vR a1, vR a2, vI (Int32.ofNat ys.length)] [(.int (Int32.ofNat cs.length)), (.ref a1)])
  refine Go.st (fun _ => XS.iloadN X6.here hx rfl (hb hby (dq dz25 19 38 rfl)) rfl) ?_
  refine Go.st (fun _ => XS.iadd X6.here hx rfl (hb hby (dq dz25 20 39 rfl)) rfl) ?_
  show Go _ _ _ _ _ _ _  T6 (mkF m 40 #[vR a1, vR a2, vI (Int32.ofNat ys.length)] [(.int ((Int32.ofNat cs.length) + (Int32.ofNat ys.length))), (.ref a1)])
  rw [own_oadd]
  show Go _ _ _ _ _ _ _  T6 (mkF m 40 #[vR a1, vR a2, vI (Int32.ofNat ys.length)] [(.int (Int32.ofNat (cs.length + ys.length))), (.ref a1)])
  obtain ⟨T7, h7, X7, e7, W7, st7⟩ := putF X6 hx hZ hown (host := "") (Or.inl (hwi hw 126 rfl)) Via.refl e6 Nq5 E_a1 (Or.inl (hwi hw 127 rfl)) (hwi hw 95 rfl) (ty := .int) (by decide) rfl rfl (g := (mkF m 40 #[vR a1, vR a2, vI (Int32.ofNat ys.length)] [(.int (Int32.ofNat (cs.length + ys.length))), (.ref a1)])) rfl rfl (hb hby (dq dz25 21 40 rfl))
  refine Go.st st7 ?_
  have Nq5 : Fld Z h7 a1 "java/lang/AbstractStringBuilder" "count" "I" (.int (Int32.ofNat (cs.length + ys.length))) := Nq5.same W7
  have N7 := Fr.snoc X7 N5 g_a1
  have ne_t5_a1 : t5 ≠ a1 := (Ne.symm (Exa.neArv E_a1 Aq5 (hwi hw 95 rfl)))
  have E_a1 := E_a1.wr W7
  have E_a2 := E_a2.wr W7
  have A_u := A_u.other W7 ne_u_a1
  have C_a2 := C_a2.other W7 (Or.inl ne_a2_a1)
  have V_a2 := V_a2.other W7 (Or.inl ne_a2_a1)
  have Xq5 := Xq5.imp (fun q => q.wr W7) id
  have Cq5 := Cq5.other W7 (Or.inr (slot_ne (Or.inl (hwi hw 111 rfl)) (Or.inl (hwi hw 127 rfl)) (by decide) (t := .byte) (t' := .int) (by decide) (by decide)))
  have Vq5 := Vq5.other W7 (Or.inr (slot_ne (Or.inl (hwi hw 109 rfl)) (Or.inl (hwi hw 127 rfl)) (by decide) (t := (.array .byte)) (t' := .int) (by decide) (by decide)))
  have Mq5 := Mq5.other W7 (Or.inr (slot_ne (Or.inl (hwi hw 295 rfl)) (Or.inl (hwi hw 127 rfl)) (by decide) (t := .boolean) (t' := .int) (by decide) (by decide)))
  have Aq5 := Aq5.other W7 ne_t5_a1
  have O := O.wr W7 g_a1
  have KK := KK.wr W7 (Or.inl (List.mem_of_getElem? (i := 0) rfl))
  show Go _ _ _ _ _ _ _  T7 (mkF m 43 #[vR a1, vR a2, vI (Int32.ofNat ys.length)] [])
  refine Go.st (fun _ => XS.aloadN X7.here hx rfl (hb hby (dq dz25 22 43 rfl)) rfl rfl) ?_
  show Go _ _ _ _ _ _ _  T7 (mkF m 44 #[vR a1, vR a2, vI (Int32.ofNat ys.length)] [(.ref a1)])
  refine Go.retR X7 hlk hx Bd.returns rfl rfl rfl (hb hby (dq dz25 23 44 rfl)) (by decide) (by decide) ?_
  show Q_rmAU Z _ _ _ _ _ _ _ _ _ _ _ _ h0 n0 _ T7.heap _
  rw [e7]
  rw [← List.length_append] at Nq5
  exact ⟨rfl, N7, KK, t5, kt5, cp3, own_bt bt5 bt3 k2_3, (by rw [List.length_append]; exact kc3), gb5, mb5, E_a1, Cq5, Vq5, Nq5, Mq5, Aq5, lo3, hi3, Xq5⟩
def Q_rmSU (Z : State) (a1 : Addr) (a2 : Addr) (zc : Int32) (fm : Value) (t : Addr) (kd : ClassId) (cs : List Int32) (cap : Nat) (u : Addr) (ku : ClassId) (ys : List Int32) (m0 : Nat) (h0 : Heap) (n0 : Nat) (v : Option Value) (h : Heap) (L : List Loc) : Prop := v = some (.ref a1) ∧ Fr n0 L ∧ Keep h0 h [a1, t] ∧ ∃ (b : Addr) (kb : ClassId) (cap2 : Nat), (b = t ∨ h0.size ≤ b) ∧ (cs ++ ys).length ≤ cap2 ∧ n0 ≤ b ∧ m0 ≤ b ∧ Exa Z h a1 "java/lang/StringBuilder" ∧ Fld Z h a1 "java/lang/AbstractStringBuilder" "coder" "B" (.int (own_cd (cs ++ ys))) ∧ Fld Z h a1 "java/lang/AbstractStringBuilder" "value" "[B" (.ref b) ∧ Fld Z h a1 "java/lang/AbstractStringBuilder" "count" "I" (.int (Int32.ofNat (cs ++ ys).length)) ∧ Fld Z h a1 "java/lang/AbstractStringBuilder" "maybeLatin1" "Z" (.int 0) ∧ Arv Z h b kb .byte (Int32.ofNat (own_cl (cs ++ ys) cap2)) ((own_by (cs ++ ys)).map Value.int) (.int 0) ∧ 16 ≤ cap2 ∧ cap2 ≤ 34 ∧ (Exa Z h b "[B" ∨ 17 < cap2)
theorem rmSU (l : Launch) (Z : State) (a0 : Array Value) (hw : HWt a0 Z) (ws : List Jvm.Cond) (a1 : Addr) (a2 : Addr) (zc : Int32) (fm : Value) (t : Addr) (kd : ClassId) (cs : List Int32) (cap : Nat) (u : Addr) (ku : ClassId) (ys : List Int32) (m0 : Nat) (h0 : Heap) (n0 : Nat) (O : Old Z n0 h0) (S_COMPACT : Sta Z Z.heap "java/lang/String" "COMPACT_STRINGS" "Z" (.int zc)) (hcs : ¬ zc = 0) (S_SIO : Sta Z Z.heap "jdk/internal/util/Preconditions" "SIOOBE_FORMATTER" "Ljava/util/function/BiFunction;" fm) (ref_fm : fm.isRef = true) (S_ad : Sta Z Z.heap "java/lang/StringUTF16" "$assertionsDisabled" "Z" (.int 1)) (S_hi : Sta Z Z.heap "java/lang/StringUTF16" "HI_BYTE_SHIFT" "I" (.int 0)) (S_lo : Sta Z Z.heap "java/lang/StringUTF16" "LO_BYTE_SHIFT" "I" (.int 8)) (E_a1 : Exa Z h0 a1 "java/lang/StringBuilder") (C_a1 : Fld Z h0 a1 "java/lang/AbstractStringBuilder" "coder" "B" (.int (own_cd cs))) (V_a1 : Fld Z h0 a1 "java/lang/AbstractStringBuilder" "value" "[B" (.ref t)) (N_a1 : Fld Z h0 a1 "java/lang/AbstractStringBuilder" "count" "I" (.int (Int32.ofNat cs.length))) (M_a1 : Fld Z h0 a1 "java/lang/AbstractStringBuilder" "maybeLatin1" "Z" (.int 0)) (A_t : Arv Z h0 t kd .byte (Int32.ofNat (own_cl cs cap)) ((own_by cs).map Value.int) (.int 0)) (K_a1 : cs.length ≤ cap) (B_a1 : 16 ≤ cap) (D_a1 : cap ≤ 34) (g_a1 : n0 ≤ a1) (g_t : n0 ≤ t) (E_a2 : Exa Z h0 a2 "java/lang/String") (C_a2 : Fld Z h0 a2 "java/lang/String" "coder" "B" (.int (own_cd ys))) (V_a2 : Fld Z h0 a2 "java/lang/String" "value" "[B" (.ref u)) (A_u : Arv Z h0 u ku .byte (Int32.ofNat (own_by ys).length) ((own_by ys).map Value.int) (.int 0)) (hrc : ∀ j, j < cs.length → nar .char (cs.getD j 0) = cs.getD j 0) (hry : ∀ j, j < ys.length → nar .char (ys.getD j 0) = ys.getD j 0) (hl30 : cs.length + ys.length ≤ 17) (ne_u_t : u ≠ t) (g_u : u < h0.size) (hm1 : m0 ≤ t) (hm2 : m0 ≤ h0.size) (XX : Exa Z h0 t "[B" ∨ 17 < cap) (lcs : own_l1 cs = true) :
    Met l mY12 (Jvm.Cond.code mY12 jdk_67_method_7_code 2 (some (.object "java/lang/StringBuilder")) :: ws) rz9_2_136_134 #[(.ref a1), (.ref a2)] Z h0 (Q_rmSU Z a1 a2 zc fm t kd cs cap u ku ys m0 h0 n0) := by
  refine MetFree.of_bodySF (plainFor_of_name pn_24) hisR ?_
  intro p e s m args below meth c s₁ Bd hml0 hP hK
  obtain ⟨rfl, hZ, hh⟩ := hP
  have hx := Bd.exec
  have hby := Bd.bytes
  have hml : c.maxLocals = 2 := hml0
  have hown : s.vm.findClass "java/lang/StringBuilder" = some m.cls := findClass_of_methodNamed Bd.named
  have hlk : meth.locks = false := BodyLoose.notSynchronized Bd
  have X0 : Stand p l e rz9_2_136_134 s m #[(.ref a1), (.ref a2)] below meth c s₁ [] 0 0 := Stand.of_body Bd
  have e0 : s₁.heap = h0 := by rw [← hh, Bd.state]; rfl
  have N0 := Fr.nil n0
  have KK : Keep h0 h0 [a1, t] := Keep.refl h0 _
  show Go p e below s rz9_2_136_134.cells rz9_2_136_134.slots (Q_rmSU Z a1 a2 zc fm t kd cs cap u ku ys m0 h0 n0) s₁ (entryFrame m #[(.ref a1), (.ref a2)] 2)
  refine Go.eq (ef_rmSU m a1 a2) ?_
  show Go _ _ _ _ _ _ _  s₁ (mkF m 0 #[vR a1, vR a2] [])
  refine Go.st (fun _ => XS.aloadN X0.here hx rfl (hb hby (dq dz24 0 0 rfl)) rfl rfl) ?_
  refine Go.st (fun _ => XS.aloadN X0.here hx rfl (hb hby (dq dz24 1 1 rfl)) rfl rfl) ?_
  show Go _ _ _ _ _ _ _  s₁ (mkF m 2 #[vR a1, vR a2] [(.ref a2), (.ref a1)])
  obtain ⟨_, _, ⟨T1, L1, k1, n1⟩, -, X1, ⟨Lc1, hQ1, l1, y1, z1⟩, st1⟩ := superBack X0 hx hZ (y := mY11) hown (hwi hw 120 rfl) (own_same (hwi hw 123 rfl) (hwi hw 131 rfl) rfl (by decide)) (hwi hw 121 rfl) (hwi hw 122 rfl) (by decide) (backOf (W := 0) (rmAU l Z a0 hw [] a1 a2 zc fm t kd cs cap u ku ys m0 h0 n0 O S_COMPACT hcs S_SIO ref_fm S_ad S_hi S_lo E_a1 C_a1 V_a1 N_a1 M_a1 A_t K_a1 B_a1 D_a1 g_a1 g_t E_a2 C_a2 V_a2 A_u hrc hry hl30 ne_u_t g_u hm1 hm2 XX lcs) hZ (hwi hw 124 rfl) (hwi hw 104 rfl) (by decide) (by decide)) e0 (Ins.self E_a1) (g := (mkF m 2 #[vR a1, vR a2] [(.ref a2), (.ref a1)])) rfl (by rw [hml]; rfl) (hwi hw 124 rfl) (argsL := [(.ref a2)]) (rest := []) (lenOf pd__Ljava_lang_String__Ljava_lang_AbstractStringBuilder_ rfl) rfl (by show 2 * 0 + _ ≤ _; exact Nat.le_of_eq rfl) (hb hby (dq dz24 2 2 rfl)) (fun _ _ => ⟨rfl, e0, (by decide : 0 + 2 ≤ _), (by decide : 0 + 136 ≤ _)⟩)
  dsimp only [Pt.U, Pt.locs, Pt.cells, Pt.slots] at X1 l1 y1 z1 st1 hQ1
  rw [l1, y1, z1] at X1
  have X1 : Stand p l e _ _ m _ below meth c T1 _ 2 136 := X1
  obtain ⟨rfl, N1q, K1q, Q1⟩ := hQ1
  have N1 := Fr.app N0 N1q
  refine Go.tr st1 ?_
  have ne_u_a1 : u ≠ a1 := (Ne.symm (Exa.neArv E_a1 A_u (hwi hw 95 rfl)))
  have ne_a2_a1 : a2 ≠ a1 := (ne_exa E_a2 E_a1 (by decide))
  have ne_a2_t : a2 ≠ t := (Exa.neArv E_a2 A_t (hwi hw 6 rfl))
  have E_a1 := E_a1.keep K1q
  have E_a2 := E_a2.keep K1q
  have A_u := A_u.keep K1q (ninS ne_u_a1 (ninS ne_u_t nin0))
  have C_a2 := C_a2.keep K1q (ninS ne_a2_a1 (ninS ne_a2_t nin0))
  have V_a2 := V_a2.keep K1q (ninS ne_a2_a1 (ninS ne_a2_t nin0))
  have XX := XX.imp (fun q => q.keep K1q) id
  have O := O.keep K1q (allS g_a1 (allS g_t all0))
  have KK := KK.trans K1q (allS (Or.inl (List.mem_of_getElem? (i := 0) rfl)) (allS (Or.inl (List.mem_of_getElem? (i := 1) rfl)) all0))
  show Go _ _ _ _ _ _ _  T1 (mkF m 5 #[vR a1, vR a2] [(.ref a1)])
  refine Go.st (fun _ => XS.pop X1.here hx rfl (hb hby (dq dz24 3 5 rfl)) rfl rfl) ?_
  refine Go.st (fun _ => XS.aloadN X1.here hx rfl (hb hby (dq dz24 4 6 rfl)) rfl rfl) ?_
  show Go _ _ _ _ _ _ _  T1 (mkF m 7 #[vR a1, vR a2] [(.ref a1)])
  refine Go.retR X1 hlk hx Bd.returns rfl rfl rfl (hb hby (dq dz24 5 7 rfl)) (by decide) (by decide) ?_
  show Q_rmSU Z _ _ _ _ _ _ _ _ _ _ _ _ h0 n0 _ T1.heap _
  exact ⟨rfl, N1, KK, Q1⟩
def Q_rmCRw (Z : State) (a1 : Addr) (n : Nat) (kd : ClassId) (cap : Nat) (bs : List Value) (h0 : Heap) (n0 : Nat) (v : Option Value) (h : Heap) (L : List Loc) : Prop := ∃ (b : Addr) (kb : ClassId), v = some (.ref b) ∧ Fr n0 L ∧ Ext h0 h ∧ h0.size ≤ b ∧ Arv Z h b kb .byte (Int32.ofNat n) bs (.int 0)
theorem rmCRw (l : Launch) (Z : State) (a0 : Array Value) (hw : HWt a0 Z) (ws : List Jvm.Cond) (a1 : Addr) (n : Nat) (kd : ClassId) (cap : Nat) (bs : List Value) (h0 : Heap) (n0 : Nat) (O : Old Z n0 h0) (A_a1 : Arv Z h0 a1 kd .byte (Int32.ofNat cap) bs (.int 0)) (hbs : bs.length = n) (hN1 : n ≤ cap) (hN2 : cap < 100000) (hN3 : n ≤ 34) (hX : n < cap ∨ Exa Z h0 a1 "[B") :
    Met l mY21 (Jvm.Cond.code mY21 jdk_65_method_132_code 3 (some (.array .byte)) :: ws) rz2_1_34_34 #[(.ref a1), (.int (0 : Int32)), (.int (Int32.ofNat n))] Z h0 (Q_rmCRw Z a1 n kd cap bs h0 n0) := by
  by_cases hl : n < cap
  · exact own_wide (rmCR l Z a0 hw ws a1 n kd cap bs h0 n0 O A_a1 hbs hl hN2 hN3) (by decide) (by decide) (by decide) (by decide) (fun _ _ _ q => q)
  · have e : n = cap := by omega
    exact own_wide (rmCRc l Z a0 hw ws a1 n kd bs h0 n0 O (e ▸ A_a1) (hX.resolve_left hl) hN3) (by decide) (by decide) (by decide) (by decide) (fun _ _ _ q => q)
def Q_rmT2U (Z : State) (a1 : Addr) (a2 : Addr) (u1 : Value) (u2 : Value) (zc : Int32) (t : Addr) (kd : ClassId) (cs : List Int32) (cap : Nat) (h0 : Heap) (n0 : Nat) (v : Option Value) (h : Heap) (L : List Loc) : Prop := v = none ∧ Fr n0 L ∧ Keep h0 h [a1] ∧ Exa Z h a1 "java/lang/String" ∧ Fld Z h a1 "java/lang/String" "coder" "B" (.int (own_cd cs)) ∧ ∃ (b : Addr) (kb : ClassId), h0.size ≤ b ∧ Fld Z h a1 "java/lang/String" "value" "[B" (.ref b) ∧ Arv Z h b kb .byte (Int32.ofNat (own_by cs).length) ((own_by cs).map Value.int) (.int 0)
theorem rmT2U (l : Launch) (Z : State) (a0 : Array Value) (hw : HWt a0 Z) (ws : List Jvm.Cond) (a1 : Addr) (a2 : Addr) (u1 : Value) (u2 : Value) (zc : Int32) (t : Addr) (kd : ClassId) (cs : List Int32) (cap : Nat) (h0 : Heap) (n0 : Nat) (O : Old Z n0 h0) (E_a1 : Exa Z h0 a1 "java/lang/String") (F_value_a1 : Fld Z h0 a1 "java/lang/String" "value" "[B" u1) (F_coder_a1 : Fld Z h0 a1 "java/lang/String" "coder" "B" u2) (g_a1 : n0 ≤ a1) (S_COMPACT : Sta Z Z.heap "java/lang/String" "COMPACT_STRINGS" "Z" (.int zc)) (hcs : ¬ zc = 0) (E_a2 : Exa Z h0 a2 "java/lang/StringBuilder") (C_a2 : Fld Z h0 a2 "java/lang/AbstractStringBuilder" "coder" "B" (.int (own_cd cs))) (V_a2 : Fld Z h0 a2 "java/lang/AbstractStringBuilder" "value" "[B" (.ref t)) (N_a2 : Fld Z h0 a2 "java/lang/AbstractStringBuilder" "count" "I" (.int (Int32.ofNat cs.length))) (M_a2 : Fld Z h0 a2 "java/lang/AbstractStringBuilder" "maybeLatin1" "Z" (.int 0)) (A_t : Arv Z h0 t kd .byte (Int32.ofNat (own_cl cs cap)) ((own_by cs).map Value.int) (.int 0)) (K_a2 : cs.length ≤ cap) (B_a2 : 16 ≤ cap) (D_a2 : cap ≤ 34) (XX : Exa Z h0 t "[B" ∨ 17 < cap) (hl30 : cs.length ≤ 17) :
    Met l mY22 (Jvm.Cond.code mY22 jdk_42_method_150_code 5 none :: ws) rz3_1_34_49 #[(.ref a1), (.ref a2), .null] Z h0 (Q_rmT2U Z a1 a2 u1 u2 zc t kd cs cap h0 n0) := by
  refine MetFree.of_bodySF (plainFor_of_name pn_36) hisR ?_
  intro p e s m args below meth c s₁ Bd hml0 hP hK
  obtain ⟨rfl, hZ, hh⟩ := hP
  have hx := Bd.exec
  have hby := Bd.bytes
  have hml : c.maxLocals = 5 := hml0
  have hown : s.vm.findClass "java/lang/String" = some m.cls := findClass_of_methodNamed Bd.named
  have hnm := (name_of_methodNamed Bd.named Bd.method).1
  have hlk : meth.locks = false := BodyLoose.notSynchronized Bd
  have X0 : Stand p l e rz3_1_34_49 s m #[(.ref a1), (.ref a2), .null] below meth c s₁ [] 0 0 := Stand.of_body Bd
  have e0 : s₁.heap = h0 := by rw [← hh, Bd.state]; rfl
  have N0 := Fr.nil n0
  have KK : Keep h0 h0 [a1] := Keep.refl h0 _
  show Go p e below s rz3_1_34_49.cells rz3_1_34_49.slots (Q_rmT2U Z a1 a2 u1 u2 zc t kd cs cap h0 n0) s₁ (entryFrame m #[(.ref a1), (.ref a2), .null] 5)
  refine Go.eq (ef_rmT2U m a1 a2) ?_
  show Go _ _ _ _ _ _ _  s₁ (mkF m 0 #[vR a1, vR a2, .val .null, uS, uS] [])
  refine Go.st (fun _ => XS.aloadN X0.here hx rfl (hb hby (dq dz36 0 0 rfl)) rfl rfl) ?_
  show Go _ _ _ _ _ _ _  s₁ (mkF m 1 #[vR a1, vR a2, .val .null, uS, uS] [(.ref a1)])
  obtain ⟨T1, X1, e1, st1⟩ := initO X0 hx hZ hown (hwi hw 15 rfl) (hwi hw 16 rfl) (hwi hw 17 rfl) e0 (g := (mkF m 1 #[vR a1, vR a2, .val .null, uS, uS] [(.ref a1)])) rfl (by rw [hml]; rfl) rfl (hb hby (dq dz36 1 1 rfl)) (by decide) (W := 0) (by show 2 * 0 + _ ≤ _; exact Nat.le_of_eq rfl) (by decide)
  refine Go.st st1 ?_
  show Go _ _ _ _ _ _ _  T1 (mkF m 4 #[vR a1, vR a2, .val .null, uS, uS] [])
  refine Go.st (fun _ => XS.aloadN X1.here hx rfl (hb hby (dq dz36 2 4 rfl)) rfl rfl) ?_
  show Go _ _ _ _ _ _ _  T1 (mkF m 5 #[vR a1, vR a2, .val .null, uS, uS] [(.ref a2)])
  obtain ⟨cq2, kq2, q2a, q2b, q2c⟩ := isOf hZ e1 E_a2
  refine Go.pure (w := (some (.ref t))) (rest := []) (pc' := 8) (X1.virtualBack hx (y := mY15) (z := mY15) hown (mvT hZ (hwi hw 183 rfl)) (mvT hZ (hwi hw 184 rfl)) (notFace_of_selects (args := #[]) (mvT hZ (hwi hw 186 rfl))) (mvT hZ (hwi hw 186 rfl)) (mvT hZ (hwi hw 185 rfl)) (by decide) (backOf (W := 0) (rmGV l Z a0 hw [] a2 t h0 n0 O V_a2) hZ (hwi hw 187 rfl) (hwi hw 104 rfl) (by decide) (by decide)) q2a q2c (g := (mkF m 5 #[vR a1, vR a2, .val .null, uS, uS] [(.ref a2)])) rfl (by rw [hml]; rfl) (Steps.refl _) (argsL := []) (rest := []) (lenOf pd____B rfl) rfl (by show 2 * 0 + _ ≤ _; exact Nat.le_of_eq rfl) (hb hby (dq dz36 3 5 rfl)) (fun _ _ => ⟨rfl, e1, (by decide : 0 + 0 ≤ _), (by decide : 0 + 0 ≤ _)⟩)) (fun _ _ _ q => q) N0 (fun T2 L2 X2 e2q N2 => ?_)
  show Go _ _ _ _ _ _ _  T2 (mkF m 8 #[vR a1, vR a2, .val .null, uS, uS] [(.ref t)])
  refine Go.st (fun _ => XS.astoreN X2.here hx rfl (hb hby (dq dz36 4 8 rfl)) rfl rfl (l' := #[vR a1, vR a2, .val .null, vR t, uS]) rfl) ?_
  refine Go.st (fun _ => XS.aloadN X2.here hx rfl (hb hby (dq dz36 5 9 rfl)) rfl rfl) ?_
  show Go _ _ _ _ _ _ _  T2 (mkF m 10 #[vR a1, vR a2, .val .null, vR t, uS] [(.ref a2)])
  obtain ⟨cq3, kq3, q3a, q3b, q3c⟩ := isOf hZ e2q E_a2
  refine Go.pure (w := (some (.int (Int32.ofNat cs.length)))) (rest := []) (pc' := 13) (X2.virtualBack hx (y := mY16) (z := mY17) hown (mvT hZ (hwi hw 188 rfl)) (mvT hZ (hwi hw 189 rfl)) (own_nf (args := #[]) (mvT hZ (hwi hw 186 rfl)) rfl) (mvT hZ (hwi hw 191 rfl)) (mvT hZ (hwi hw 192 rfl)) (by decide) (backOf (W := 0) (rmSL l Z a0 hw [] a2 (Int32.ofNat cs.length) h0 n0 O E_a2 N_a2) hZ (hwi hw 193 rfl) (hwi hw 96 rfl) (by decide) (by decide)) q3a q3c (g := (mkF m 10 #[vR a1, vR a2, .val .null, vR t, uS] [(.ref a2)])) rfl (by rw [hml]; rfl) (Steps.refl _) (argsL := []) (rest := []) (lenOf pd___I rfl) rfl (by show 2 * 0 + _ ≤ _; exact Nat.le_of_eq rfl) (hb hby (dq dz36 6 10 rfl)) (fun _ _ => ⟨rfl, e2q, (by decide : 0 + 0 ≤ _), (by decide : 0 + 0 ≤ _)⟩)) (fun _ _ _ q => q) N2 (fun T3 L3 X3 e3q N3 => ?_)
  show Go _ _ _ _ _ _ _  T3 (mkF m 13 #[vR a1, vR a2, .val .null, vR t, uS] [(.int (Int32.ofNat cs.length))])
  refine Go.st (fun _ => XS.istore X3.here hx rfl (hb hby (dq dz36 7 13 rfl)) rfl (l' := #[vR a1, vR a2, .val .null, vR t, vI (Int32.ofNat cs.length)]) rfl) ?_
  refine Go.st (fun _ => XS.aloadN X3.here hx rfl (hb hby (dq dz36 8 15 rfl)) rfl rfl) ?_
  show Go _ _ _ _ _ _ _  T3 (mkF m 16 #[vR a1, vR a2, .val .null, vR t, vI (Int32.ofNat cs.length)] [(.ref a2)])
  obtain ⟨cq4, kq4, q4a, q4b, q4c⟩ := isOf hZ e3q E_a2
  refine Go.pure (w := (some (.int (if (own_cd cs) = 0 then 1 else 0)))) (rest := []) (pc' := 19) (X3.virtualBack hx (y := mY18) (z := mY18) hown (mvT hZ (hwi hw 196 rfl)) (mvT hZ (hwi hw 163 rfl)) (notFace_of_selects (args := #[]) (mvT hZ (hwi hw 165 rfl))) (mvT hZ (hwi hw 165 rfl)) (mvT hZ (hwi hw 164 rfl)) (by decide) (backOf (W := 0) (rmILc l Z a0 hw [] a2 zc (own_cd cs) h0 n0 O S_COMPACT hcs C_a2) hZ (hwi hw 166 rfl) (hwi hw 104 rfl) (by decide) (by decide)) q4a q4c (g := (mkF m 16 #[vR a1, vR a2, .val .null, vR t, vI (Int32.ofNat cs.length)] [(.ref a2)])) rfl (by rw [hml]; rfl) (Steps.refl _) (argsL := []) (rest := []) (lenOf pd___Z rfl) rfl (by show 2 * 0 + _ ≤ _; exact Nat.le_of_eq rfl) (hb hby (dq dz36 9 16 rfl)) (fun _ _ => ⟨rfl, e3q, (by decide : 0 + 0 ≤ _), (by decide : 0 + 0 ≤ _)⟩)) (fun _ _ _ q => q) N3 (fun T4 L4 X4 e4q N4 => ?_)
  show Go _ _ _ _ _ _ _  T4 (mkF m 19 #[vR a1, vR a2, .val .null, vR t, vI (Int32.ofNat cs.length)] [(.int (if (own_cd cs) = 0 then 1 else 0))])
  by_cases c19_5 : own_cd cs = 0
  · rw [if_pos c19_5]
    have lcs : own_l1 cs = true := own_l1ot c19_5
    show Go _ _ _ _ _ _ _  T4 (mkF m 19 #[vR a1, vR a2, .val .null, vR t, vI (Int32.ofNat cs.length)] [(.int (1 : Int32))])
    refine Go.st (fun _ => XS.ifNo X4.here hx rfl (hb hby (dq dz36 10 19 rfl)) rfl ((if0 _ _).trans (feq (by decide : ¬ ((1 : Int32) = (0 : Int32)))).1)) ?_
    show Go _ _ _ _ _ _ _  T4 (mkF m 22 #[vR a1, vR a2, .val .null, vR t, vI (Int32.ofNat cs.length)] [])
    refine Go.st (fun _ => XS.aloadN X4.here hx rfl (hb hby (dq dz36 11 22 rfl)) rfl rfl) ?_
    refine Go.st (fun _ => XS.iconst X4.here hx rfl (hb hby (dq dz36 12 23 rfl))) ?_
    show Go _ _ _ _ _ _ _  T4 (mkF m 24 #[vR a1, vR a2, .val .null, vR t, vI (Int32.ofNat cs.length)] [(.int (0 : Int32)), (.ref a1)])
    obtain ⟨T6, h6, X6, e6, W6, st6⟩ := putFN X4 hx hZ hown (hwi hw 30 rfl) Via.refl e4q F_coder_a1 E_a1 (Or.inr ⟨(hwi hw 31 rfl), rfl, hnm⟩) (hwi hw 6 rfl) (ty := .byte) (v' := .int (0 : Int32)) (by decide) rfl rfl (g := (mkF m 24 #[vR a1, vR a2, .val .null, vR t, vI (Int32.ofNat cs.length)] [(.int (0 : Int32)), (.ref a1)])) rfl rfl (hb hby (dq dz36 13 24 rfl))
    refine Go.st st6 ?_
    have F_coder_a1 : Fld Z h6 a1 "java/lang/String" "coder" "B" (.int (0 : Int32)) := F_coder_a1.same W6
    have N6 := Fr.snoc X6 N4 g_a1
    have ne_t_a1 : t ≠ a1 := (Ne.symm (Exa.neArv E_a1 A_t (hwi hw 6 rfl)))
    have ne_a2_a1 : a2 ≠ a1 := (ne_exa E_a2 E_a1 (by decide))
    have E_a2 := E_a2.wr W6
    have A_t := A_t.other W6 ne_t_a1
    have C_a2 := C_a2.other W6 (Or.inl ne_a2_a1)
    have V_a2 := V_a2.other W6 (Or.inl ne_a2_a1)
    have N_a2 := N_a2.other W6 (Or.inl ne_a2_a1)
    have M_a2 := M_a2.other W6 (Or.inl ne_a2_a1)
    have E_a1 := E_a1.wr W6
    have XX := XX.imp (fun q => q.wr W6) id
    have F_value_a1 := F_value_a1.other W6 (Or.inr (slot_ne (Or.inr (hwi hw 33 rfl)) (Or.inr (hwi hw 31 rfl)) (by decide) (t := (.array .byte)) (t' := .byte) (by decide) (by decide)))
    have O := O.wr W6 g_a1
    have KK := KK.wr W6 (Or.inl (List.mem_of_getElem? (i := 0) rfl))
    show Go _ _ _ _ _ _ _  T6 (mkF m 27 #[vR a1, vR a2, .val .null, vR t, vI (Int32.ofNat cs.length)] [])
    refine Go.st (fun _ => XS.aloadN X6.here hx rfl (hb hby (dq dz36 14 27 rfl)) rfl rfl) ?_
    refine Go.st (fun _ => XS.aloadN X6.here hx rfl (hb hby (dq dz36 15 28 rfl)) rfl rfl) ?_
    refine Go.st (fun _ => XS.iconst X6.here hx rfl (hb hby (dq dz36 16 29 rfl))) ?_
    refine Go.st (fun _ => XS.iload X6.here hx rfl (hb hby (dq dz36 17 30 rfl)) rfl) ?_
    show Go _ _ _ _ _ _ _  T6 (mkF m 32 #[vR a1, vR a2, .val .null, vR t, vI (Int32.ofNat cs.length)] [(.int (Int32.ofNat cs.length)), (.int (0 : Int32)), (.ref t), (.ref a1)])
    obtain ⟨_, _, ⟨T7, L7, k7, n7⟩, -, X7, ⟨Lc7, hQ7, l7, y7, z7⟩, st7⟩ := Jvm.LawKit.callS X6 hx (y := mY21) hown (mvT hZ (hwi hw 197 rfl)) (mvT hZ (hwi hw 198 rfl)) (mvT hZ (hwi hw 199 rfl)) (mvT hZ (hwi hw 200 rfl)) (by decide) (backOf (W := 1) (rmCRw l Z a0 hw [] t cs.length kd (own_cl cs cap) ((own_by cs).map Value.int) h6 n0 O A_t (by rw [own_lapn (ys := []), own_clT lcs]) (by rw [own_clT lcs]; omega) (by have := own_clb cs cap; omega) (by omega) (by rw [own_clT lcs]; exact (Nat.lt_or_ge cs.length cap).imp (fun q => by omega) (fun q => XX.resolve_right (by omega)))) hZ (hwi hw 200 rfl) (hwi hw 199 rfl) (by decide) (by decide)) (g := (mkF m 32 #[vR a1, vR a2, .val .null, vR t, vI (Int32.ofNat cs.length)] [(.int (Int32.ofNat cs.length)), (.int (0 : Int32)), (.ref t), (.ref a1)])) rfl (by rw [hml]; rfl) (argsL := [(.ref t), (.int (0 : Int32)), (.int (Int32.ofNat cs.length))]) (rest := [(.ref a1)]) (lenOf pd___BII__B rfl) rfl (by show 2 * 0 + _ ≤ _; exact Nat.le_of_eq rfl) (hb hby (dq dz36 18 32 rfl)) (fun _ _ => ⟨rfl, e6, (by decide : 0 + 1 ≤ _), (by decide : 0 + 34 ≤ _)⟩)
    dsimp only [Pt.U, Pt.locs, Pt.cells, Pt.slots] at X7 l7 y7 z7 st7 hQ7
    rw [l7, y7, z7] at X7
    have X7 : Stand p l e _ _ m _ below meth c T7 _ 1 34 := X7
    obtain ⟨t7, kt7, rfl, N7q, E7q, lt7, Vq7⟩ := hQ7
    have N7 := Fr.app N6 N7q
    refine Go.st st7 ?_
    have g_t7 : n0 ≤ t7 := Nat.le_trans (own_le O) lt7
    have sz_t7 : h0.size ≤ t7 := Nat.le_trans KK.1 lt7
    have ne_a2_t7 : a2 ≠ t7 := Nat.ne_of_lt (Nat.lt_of_lt_of_le E_a2.lt lt7)
    have ne_t_t7 : t ≠ t7 := Nat.ne_of_lt (Nat.lt_of_lt_of_le A_t.lt lt7)
    have ne_a1_t7 : a1 ≠ t7 := Nat.ne_of_lt (Nat.lt_of_lt_of_le E_a1.lt lt7)
    have E7 := E7q
    have E_a2 := E_a2.ext E7
    have A_t := A_t.ext E7
    have C_a2 := C_a2.ext E7
    have V_a2 := V_a2.ext E7
    have N_a2 := N_a2.ext E7
    have M_a2 := M_a2.ext E7
    have E_a1 := E_a1.ext E7
    have XX := XX.imp (fun q => q.ext E7) id
    have F_value_a1 := F_value_a1.ext E7
    have F_coder_a1 := F_coder_a1.ext E7
    have O := O.ext E7
    have KK := KK.ext E7
    show Go _ _ _ _ _ _ _  T7 (mkF m 35 #[vR a1, vR a2, .val .null, vR t, vI (Int32.ofNat cs.length)] [(.ref t7), (.ref a1)])
    obtain ⟨T8, h8, X8, e8, W8, st8⟩ := putF X7 hx hZ hown (host := "") (Or.inl (hwi hw 32 rfl)) Via.refl rfl F_value_a1 E_a1 (Or.inr ⟨(hwi hw 33 rfl), rfl, hnm⟩) (hwi hw 6 rfl) (ty := (.array .byte)) (by decide) rfl rfl (g := (mkF m 35 #[vR a1, vR a2, .val .null, vR t, vI (Int32.ofNat cs.length)] [(.ref t7), (.ref a1)])) rfl rfl (hb hby (dq dz36 19 35 rfl))
    refine Go.st st8 ?_
    have F_value_a1 : Fld Z h8 a1 "java/lang/String" "value" "[B" (.ref t7) := F_value_a1.same W8
    have N8 := Fr.snoc X8 N7 g_a1
    have E_a2 := E_a2.wr W8
    have A_t := A_t.other W8 ne_t_a1
    have C_a2 := C_a2.other W8 (Or.inl ne_a2_a1)
    have V_a2 := V_a2.other W8 (Or.inl ne_a2_a1)
    have N_a2 := N_a2.other W8 (Or.inl ne_a2_a1)
    have M_a2 := M_a2.other W8 (Or.inl ne_a2_a1)
    have E_a1 := E_a1.wr W8
    have XX := XX.imp (fun q => q.wr W8) id
    have F_coder_a1 := F_coder_a1.other W8 (Or.inr (slot_ne (Or.inr (hwi hw 31 rfl)) (Or.inr (hwi hw 33 rfl)) (by decide) (t := .byte) (t' := (.array .byte)) (by decide) (by decide)))
    have Vq7 := Vq7.other W8 (Ne.symm ne_a1_t7)
    have O := O.wr W8 g_a1
    have KK := KK.wr W8 (Or.inl (List.mem_of_getElem? (i := 0) rfl))
    show Go _ _ _ _ _ _ _  T8 (mkF m 38 #[vR a1, vR a2, .val .null, vR t, vI (Int32.ofNat cs.length)] [])
    refine Go.st (fun _ => XS.goto X8.here hx rfl (pc0 := 38) (pc' := 97) rfl (hb hby (dq dz36 20 38 rfl)) (by decide) (by decide)) ?_
    show Go _ _ _ _ _ _ _  T8 (mkF m 97 #[vR a1, vR a2, .val .null, vR t, vI (Int32.ofNat cs.length)] [])
    refine Go.ret0 X8 hlk hx Bd.returns (hb hby (dq dz36 21 97 rfl)) (by decide) (by decide) ?_
    show Q_rmT2U Z _ _ _ _ _ _ _ _ _ h0 n0 _ T8.heap _
    rw [e8]
    exact ⟨rfl, N8, KK, E_a1, (by rw [own_cdT lcs]; exact F_coder_a1), t7, kt7, sz_t7, F_value_a1, (by rw [own_bycl, own_clT lcs]; exact Vq7)⟩
  · rw [if_neg c19_5]
    have lcs : own_l1 cs = false := own_l1of c19_5
    show Go _ _ _ _ _ _ _  T4 (mkF m 19 #[vR a1, vR a2, .val .null, vR t, vI (Int32.ofNat cs.length)] [(.int (0 : Int32))])
    refine Go.st (fun _ => XS.ifYes X4.here hx rfl (pc0 := 19) (pc' := 41) rfl (hb hby (dq dz36 10 19 rfl)) rfl ((if0 _ _).trans (teq (rfl : (0 : Int32) = (0 : Int32))).1) (by decide) (by decide)) ?_
    show Go _ _ _ _ _ _ _  T4 (mkF m 41 #[vR a1, vR a2, .val .null, vR t, vI (Int32.ofNat cs.length)] [])
    obtain ⟨T9, X9, e9, st9⟩ := getS2 X4 hx hZ hown (host := "") (Or.inl (hwi hw 18 rfl)) Via.refl e4q (S_COMPACT.ext O.2) (g := (mkF m 41 #[vR a1, vR a2, .val .null, vR t, vI (Int32.ofNat cs.length)] [])) rfl (hb hby (dq dz36 22 41 rfl))
    refine Go.st st9 ?_
    show Go _ _ _ _ _ _ _  T9 (mkF m 44 #[vR a1, vR a2, .val .null, vR t, vI (Int32.ofNat cs.length)] [(.int zc)])
    refine Go.st (fun _ => XS.ifNo X9.here hx rfl (hb hby (dq dz36 23 44 rfl)) rfl ((if0 _ _).trans (feq (hcs : ¬ (zc = (0 : Int32)))).1)) ?_
    show Go _ _ _ _ _ _ _  T9 (mkF m 47 #[vR a1, vR a2, .val .null, vR t, vI (Int32.ofNat cs.length)] [])
    refine Go.st (fun _ => XS.aloadN X9.here hx rfl (hb hby (dq dz36 24 47 rfl)) rfl rfl) ?_
    show Go _ _ _ _ _ _ _  T9 (mkF m 48 #[vR a1, vR a2, .val .null, vR t, vI (Int32.ofNat cs.length)] [(.ref a2)])
    obtain ⟨T10, X10, e10, st10⟩ := getF X9 hx hZ hown (host := "") (Or.inl (hwi hw 294 rfl)) Via.refl e9 M_a2 (g := (mkF m 48 #[vR a1, vR a2, .val .null, vR t, vI (Int32.ofNat cs.length)] [(.ref a2)])) rfl rfl (hb hby (dq dz36 25 48 rfl))
    refine Go.st st10 ?_
    show Go _ _ _ _ _ _ _  T10 (mkF m 51 #[vR a1, vR a2, .val .null, vR t, vI (Int32.ofNat cs.length)] [(.int (0 : Int32))])
    refine Go.st (fun _ => XS.ifYes X10.here hx rfl (pc0 := 51) (pc' := 79) rfl (hb hby (dq dz36 26 51 rfl)) rfl ((if0 _ _).trans (teq (rfl : (0 : Int32) = (0 : Int32))).1) (by decide) (by decide)) ?_
    show Go _ _ _ _ _ _ _  T10 (mkF m 79 #[vR a1, vR a2, .val .null, vR t, vI (Int32.ofNat cs.length)] [])
    refine Go.st (fun _ => XS.aloadN X10.here hx rfl (hb hby (dq dz36 27 79 rfl)) rfl rfl) ?_
    refine Go.st (fun _ => XS.iconst X10.here hx rfl (hb hby (dq dz36 28 80 rfl))) ?_
    show Go _ _ _ _ _ _ _  T10 (mkF m 81 #[vR a1, vR a2, .val .null, vR t, vI (Int32.ofNat cs.length)] [(.int (1 : Int32)), (.ref a1)])
    obtain ⟨T11, h11, X11, e11, W11, st11⟩ := putFN X10 hx hZ hown (hwi hw 30 rfl) Via.refl e10 F_coder_a1 E_a1 (Or.inr ⟨(hwi hw 31 rfl), rfl, hnm⟩) (hwi hw 6 rfl) (ty := .byte) (v' := .int (1 : Int32)) (by decide) rfl rfl (g := (mkF m 81 #[vR a1, vR a2, .val .null, vR t, vI (Int32.ofNat cs.length)] [(.int (1 : Int32)), (.ref a1)])) rfl rfl (hb hby (dq dz36 29 81 rfl))
    refine Go.st st11 ?_
    have F_coder_a1 : Fld Z h11 a1 "java/lang/String" "coder" "B" (.int (1 : Int32)) := F_coder_a1.same W11
    have N11 := Fr.snoc X11 N4 g_a1
    have ne_t_a1 : t ≠ a1 := (Ne.symm (Exa.neArv E_a1 A_t (hwi hw 6 rfl)))
    have ne_a2_a1 : a2 ≠ a1 := (ne_exa E_a2 E_a1 (by decide))
    have E_a2 := E_a2.wr W11
    have A_t := A_t.other W11 ne_t_a1
    have C_a2 := C_a2.other W11 (Or.inl ne_a2_a1)
    have V_a2 := V_a2.other W11 (Or.inl ne_a2_a1)
    have N_a2 := N_a2.other W11 (Or.inl ne_a2_a1)
    have M_a2 := M_a2.other W11 (Or.inl ne_a2_a1)
    have E_a1 := E_a1.wr W11
    have XX := XX.imp (fun q => q.wr W11) id
    have F_value_a1 := F_value_a1.other W11 (Or.inr (slot_ne (Or.inr (hwi hw 33 rfl)) (Or.inr (hwi hw 31 rfl)) (by decide) (t := (.array .byte)) (t' := .byte) (by decide) (by decide)))
    have O := O.wr W11 g_a1
    have KK := KK.wr W11 (Or.inl (List.mem_of_getElem? (i := 0) rfl))
    show Go _ _ _ _ _ _ _  T11 (mkF m 84 #[vR a1, vR a2, .val .null, vR t, vI (Int32.ofNat cs.length)] [])
    refine Go.st (fun _ => XS.aloadN X11.here hx rfl (hb hby (dq dz36 30 84 rfl)) rfl rfl) ?_
    refine Go.st (fun _ => XS.aloadN X11.here hx rfl (hb hby (dq dz36 31 85 rfl)) rfl rfl) ?_
    refine Go.st (fun _ => XS.iconst X11.here hx rfl (hb hby (dq dz36 32 86 rfl))) ?_
    refine Go.st (fun _ => XS.iload X11.here hx rfl (hb hby (dq dz36 33 87 rfl)) rfl) ?_
    refine Go.st (fun _ => XS.iconst X11.here hx rfl (hb hby (dq dz36 34 89 rfl))) ?_
    refine Go.st (fun _ => XS.ishl X11.here hx rfl (hb hby (dq dz36 35 90 rfl)) rfl) ?_
    show Go _ _ _ _ _ _ _  T11 (mkF m 91 #[vR a1, vR a2, .val .null, vR t, vI (Int32.ofNat cs.length)] [(.int ((Int32.ofNat cs.length) <<< ((1 : Int32) &&& 31))), (.int (0 : Int32)), (.ref t), (.ref a1)])
    rw [own_shl1 (by omega)]
    show Go _ _ _ _ _ _ _  T11 (mkF m 91 #[vR a1, vR a2, .val .null, vR t, vI (Int32.ofNat cs.length)] [(.int (Int32.ofNat (2 * cs.length))), (.int (0 : Int32)), (.ref t), (.ref a1)])
    obtain ⟨_, _, ⟨T12, L12, k12, n12⟩, -, X12, ⟨Lc12, hQ12, l12, y12, z12⟩, st12⟩ := Jvm.LawKit.callS X11 hx (y := mY21) hown (mvT hZ (hwi hw 197 rfl)) (mvT hZ (hwi hw 198 rfl)) (mvT hZ (hwi hw 199 rfl)) (mvT hZ (hwi hw 200 rfl)) (by decide) (backOf (W := 1) (rmCRw l Z a0 hw [] t (2 * cs.length) kd (own_cl cs cap) ((own_by cs).map Value.int) h11 n0 O A_t (by rw [own_lapn (ys := []), own_clF lcs]) (by rw [own_clF lcs]; omega) (by have := own_clb cs cap; omega) (by omega) (by rw [own_clF lcs]; exact (Nat.lt_or_ge cs.length cap).imp (fun q => by omega) (fun q => XX.resolve_right (by omega)))) hZ (hwi hw 200 rfl) (hwi hw 199 rfl) (by decide) (by decide)) (g := (mkF m 91 #[vR a1, vR a2, .val .null, vR t, vI (Int32.ofNat cs.length)] [(.int (Int32.ofNat (2 * cs.length))), (.int (0 : Int32)), (.ref t), (.ref a1)])) rfl (by rw [hml]; rfl) (argsL := [(.ref t), (.int (0 : Int32)), (.int (Int32.ofNat (2 * cs.length)))]) (rest := [(.ref a1)]) (lenOf pd___BII__B rfl) rfl (by show 2 * 0 + _ ≤ _; exact Nat.le_of_eq rfl) (hb hby (dq dz36 36 91 rfl)) (fun _ _ => ⟨rfl, e11, (by decide : 0 + 1 ≤ _), (by decide : 0 + 34 ≤ _)⟩)
    dsimp only [Pt.U, Pt.locs, Pt.cells, Pt.slots] at X12 l12 y12 z12 st12 hQ12
    rw [l12, y12, z12] at X12
    have X12 : Stand p l e _ _ m _ below meth c T12 _ 1 34 := X12
    obtain ⟨t12, kt12, rfl, N12q, E12q, lt12, Vq12⟩ := hQ12
    have N12 := Fr.app N11 N12q
    refine Go.st st12 ?_
    have g_t12 : n0 ≤ t12 := Nat.le_trans (own_le O) lt12
    have sz_t12 : h0.size ≤ t12 := Nat.le_trans KK.1 lt12
    have ne_a2_t12 : a2 ≠ t12 := Nat.ne_of_lt (Nat.lt_of_lt_of_le E_a2.lt lt12)
    have ne_t_t12 : t ≠ t12 := Nat.ne_of_lt (Nat.lt_of_lt_of_le A_t.lt lt12)
    have ne_a1_t12 : a1 ≠ t12 := Nat.ne_of_lt (Nat.lt_of_lt_of_le E_a1.lt lt12)
    have E12 := E12q
    have E_a2 := E_a2.ext E12
    have A_t := A_t.ext E12
    have C_a2 := C_a2.ext E12
    have V_a2 := V_a2.ext E12
    have N_a2 := N_a2.ext E12
    have M_a2 := M_a2.ext E12
    have E_a1 := E_a1.ext E12
    have XX := XX.imp (fun q => q.ext E12) id
    have F_value_a1 := F_value_a1.ext E12
    have F_coder_a1 := F_coder_a1.ext E12
    have O := O.ext E12
    have KK := KK.ext E12
    show Go _ _ _ _ _ _ _  T12 (mkF m 94 #[vR a1, vR a2, .val .null, vR t, vI (Int32.ofNat cs.length)] [(.ref t12), (.ref a1)])
    obtain ⟨T13, h13, X13, e13, W13, st13⟩ := putF X12 hx hZ hown (host := "") (Or.inl (hwi hw 32 rfl)) Via.refl rfl F_value_a1 E_a1 (Or.inr ⟨(hwi hw 33 rfl), rfl, hnm⟩) (hwi hw 6 rfl) (ty := (.array .byte)) (by decide) rfl rfl (g := (mkF m 94 #[vR a1, vR a2, .val .null, vR t, vI (Int32.ofNat cs.length)] [(.ref t12), (.ref a1)])) rfl rfl (hb hby (dq dz36 37 94 rfl))
    refine Go.st st13 ?_
    have F_value_a1 : Fld Z h13 a1 "java/lang/String" "value" "[B" (.ref t12) := F_value_a1.same W13
    have N13 := Fr.snoc X13 N12 g_a1
    have E_a2 := E_a2.wr W13
    have A_t := A_t.other W13 ne_t_a1
    have C_a2 := C_a2.other W13 (Or.inl ne_a2_a1)
    have V_a2 := V_a2.other W13 (Or.inl ne_a2_a1)
    have N_a2 := N_a2.other W13 (Or.inl ne_a2_a1)
    have M_a2 := M_a2.other W13 (Or.inl ne_a2_a1)
    have E_a1 := E_a1.wr W13
    have XX := XX.imp (fun q => q.wr W13) id
    have F_coder_a1 := F_coder_a1.other W13 (Or.inr (slot_ne (Or.inr (hwi hw 31 rfl)) (Or.inr (hwi hw 33 rfl)) (by decide) (t := .byte) (t' := (.array .byte)) (by decide) (by decide)))
    have Vq12 := Vq12.other W13 (Ne.symm ne_a1_t12)
    have O := O.wr W13 g_a1
    have KK := KK.wr W13 (Or.inl (List.mem_of_getElem? (i := 0) rfl))
    show Go _ _ _ _ _ _ _  T13 (mkF m 97 #[vR a1, vR a2, .val .null, vR t, vI (Int32.ofNat cs.length)] [])
    refine Go.ret0 X13 hlk hx Bd.returns (hb hby (dq dz36 21 97 rfl)) (by decide) (by decide) ?_
    show Q_rmT2U Z _ _ _ _ _ _ _ _ _ h0 n0 _ T13.heap _
    rw [e13]
    exact ⟨rfl, N13, KK, E_a1, (by rw [own_cdF lcs]; exact F_coder_a1), t12, kt12, sz_t12, F_value_a1, (by rw [own_bycl, own_clF lcs]; exact Vq12)⟩
def Q_rmT1U (Z : State) (a1 : Addr) (a2 : Addr) (u1 : Value) (u2 : Value) (zc : Int32) (t : Addr) (kd : ClassId) (cs : List Int32) (cap : Nat) (h0 : Heap) (n0 : Nat) (v : Option Value) (h : Heap) (L : List Loc) : Prop := v = none ∧ Fr n0 L ∧ Keep h0 h [a1] ∧ Exa Z h a1 "java/lang/String" ∧ Fld Z h a1 "java/lang/String" "coder" "B" (.int (own_cd cs)) ∧ ∃ (b : Addr) (kb : ClassId), h0.size ≤ b ∧ Fld Z h a1 "java/lang/String" "value" "[B" (.ref b) ∧ Arv Z h b kb .byte (Int32.ofNat (own_by cs).length) ((own_by cs).map Value.int) (.int 0)
theorem rmT1U (l : Launch) (Z : State) (a0 : Array Value) (hw : HWt a0 Z) (ws : List Jvm.Cond) (a1 : Addr) (a2 : Addr) (u1 : Value) (u2 : Value) (zc : Int32) (t : Addr) (kd : ClassId) (cs : List Int32) (cap : Nat) (h0 : Heap) (n0 : Nat) (O : Old Z n0 h0) (E_a1 : Exa Z h0 a1 "java/lang/String") (F_value_a1 : Fld Z h0 a1 "java/lang/String" "value" "[B" u1) (F_coder_a1 : Fld Z h0 a1 "java/lang/String" "coder" "B" u2) (g_a1 : n0 ≤ a1) (S_COMPACT : Sta Z Z.heap "java/lang/String" "COMPACT_STRINGS" "Z" (.int zc)) (hcs : ¬ zc = 0) (E_a2 : Exa Z h0 a2 "java/lang/StringBuilder") (C_a2 : Fld Z h0 a2 "java/lang/AbstractStringBuilder" "coder" "B" (.int (own_cd cs))) (V_a2 : Fld Z h0 a2 "java/lang/AbstractStringBuilder" "value" "[B" (.ref t)) (N_a2 : Fld Z h0 a2 "java/lang/AbstractStringBuilder" "count" "I" (.int (Int32.ofNat cs.length))) (M_a2 : Fld Z h0 a2 "java/lang/AbstractStringBuilder" "maybeLatin1" "Z" (.int 0)) (A_t : Arv Z h0 t kd .byte (Int32.ofNat (own_cl cs cap)) ((own_by cs).map Value.int) (.int 0)) (K_a2 : cs.length ≤ cap) (B_a2 : 16 ≤ cap) (D_a2 : cap ≤ 34) (XX : Exa Z h0 t "[B" ∨ 17 < cap) (hl30 : cs.length ≤ 17) :
    Met l mY23 (Jvm.Cond.code mY23 jdk_42_method_53_code 2 none :: ws) rz4_1_34_65 #[(.ref a1), (.ref a2)] Z h0 (Q_rmT1U Z a1 a2 u1 u2 zc t kd cs cap h0 n0) := by
  refine MetFree.of_bodySF (plainFor_of_name pn_35) hisR ?_
  intro p e s m args below meth c s₁ Bd hml0 hP hK
  obtain ⟨rfl, hZ, hh⟩ := hP
  have hx := Bd.exec
  have hby := Bd.bytes
  have hml : c.maxLocals = 2 := hml0
  have hown : s.vm.findClass "java/lang/String" = some m.cls := findClass_of_methodNamed Bd.named
  have hlk : meth.locks = false := BodyLoose.notSynchronized Bd
  have X0 : Stand p l e rz4_1_34_65 s m #[(.ref a1), (.ref a2)] below meth c s₁ [] 0 0 := Stand.of_body Bd
  have e0 : s₁.heap = h0 := by rw [← hh, Bd.state]; rfl
  have N0 := Fr.nil n0
  have KK : Keep h0 h0 [a1] := Keep.refl h0 _
  show Go p e below s rz4_1_34_65.cells rz4_1_34_65.slots (Q_rmT1U Z a1 a2 u1 u2 zc t kd cs cap h0 n0) s₁ (entryFrame m #[(.ref a1), (.ref a2)] 2)
  refine Go.eq (ef_rmT1U m a1 a2) ?_
  show Go _ _ _ _ _ _ _  s₁ (mkF m 0 #[vR a1, vR a2] [])
  refine Go.st (fun _ => XS.aloadN X0.here hx rfl (hb hby (dq dz35 0 0 rfl)) rfl rfl) ?_
  refine Go.st (fun _ => XS.aloadN X0.here hx rfl (hb hby (dq dz35 1 1 rfl)) rfl rfl) ?_
  refine Go.st (fun _ => XS.aconstNull X0.here hx rfl (hb hby (dq dz35 2 2 rfl))) ?_
  show Go _ _ _ _ _ _ _  s₁ (mkF m 3 #[vR a1, vR a2] [.null, (.ref a2), (.ref a1)])
  obtain ⟨_, _, ⟨T1, L1, k1, n1⟩, -, X1, ⟨Lc1, hQ1, l1, y1, z1⟩, st1⟩ := X0.specialBack hx (y := mY22) rfl hown (mvT hZ (hwi hw 180 rfl)) (mvT hZ (hwi hw 181 rfl)) (mvT hZ (hwi hw 182 rfl)) (by decide) (backOf (W := 0) (rmT2U l Z a0 hw [] a1 a2 u1 u2 zc t kd cs cap h0 n0 O E_a1 F_value_a1 F_coder_a1 g_a1 S_COMPACT hcs E_a2 C_a2 V_a2 N_a2 M_a2 A_t K_a2 B_a2 D_a2 XX hl30) hZ (hwi hw 182 rfl) (hwi hw 7 rfl) (by decide) (by decide)) (g := (mkF m 3 #[vR a1, vR a2] [.null, (.ref a2), (.ref a1)])) rfl (by rw [hml]; rfl) (Steps.refl _) (a := a1) (argsL := [(.ref a2), .null]) (rest := []) (lenOf pd__Ljava_lang_AbstractStringBuilder_Ljava_lang_Void__V rfl) rfl (by show 2 * 0 + _ ≤ _; exact Nat.le_of_eq rfl) (hb hby (dq dz35 3 3 rfl)) (fun _ _ => ⟨rfl, e0, (by decide : 0 + 1 ≤ _), (by decide : 0 + 34 ≤ _)⟩)
  dsimp only [Pt.U, Pt.locs, Pt.cells, Pt.slots] at X1 l1 y1 z1 st1 hQ1
  rw [l1, y1, z1] at X1
  have X1 : Stand p l e _ _ m _ below meth c T1 _ 1 34 := X1
  obtain ⟨rfl, N1q, K1q, Q1⟩ := hQ1
  have N1 := Fr.app N0 N1q
  refine Go.tr st1 ?_
  have ne_t_a1 : t ≠ a1 := (Ne.symm (Exa.neArv E_a1 A_t (hwi hw 6 rfl)))
  have ne_a2_a1 : a2 ≠ a1 := (ne_exa E_a2 E_a1 (by decide))
  have E_a2 := E_a2.keep K1q
  have A_t := A_t.keep K1q (ninS ne_t_a1 nin0)
  have C_a2 := C_a2.keep K1q (ninS ne_a2_a1 nin0)
  have V_a2 := V_a2.keep K1q (ninS ne_a2_a1 nin0)
  have N_a2 := N_a2.keep K1q (ninS ne_a2_a1 nin0)
  have M_a2 := M_a2.keep K1q (ninS ne_a2_a1 nin0)
  have E_a1 := E_a1.keep K1q
  have XX := XX.imp (fun q => q.keep K1q) id
  have O := O.keep K1q (allS g_a1 all0)
  have KK := KK.trans K1q (allS (Or.inl (List.mem_of_getElem? (i := 0) rfl)) all0)
  show Go _ _ _ _ _ _ _  T1 (mkF m 6 #[vR a1, vR a2] [])
  refine Go.ret0 X1 hlk hx Bd.returns (hb hby (dq dz35 4 6 rfl)) (by decide) (by decide) ?_
  show Q_rmT1U Z _ _ _ _ _ _ _ _ _ h0 n0 _ T1.heap _
  exact ⟨rfl, N1, KK, Q1⟩
def Q_rmTSU (Z : State) (a1 : Addr) (zc : Int32) (t : Addr) (kd : ClassId) (cs : List Int32) (cap : Nat) (h0 : Heap) (n0 : Nat) (v : Option Value) (h : Heap) (L : List Loc) : Prop := ∃ (x b : Addr) (kb : ClassId), v = some (.ref x) ∧ Fr n0 L ∧ Ext h0 h ∧ h0.size ≤ x ∧ h0.size ≤ b ∧ Exa Z h x "java/lang/String" ∧ Fld Z h x "java/lang/String" "coder" "B" (.int (own_cd cs)) ∧ Fld Z h x "java/lang/String" "value" "[B" (.ref b) ∧ Arv Z h b kb .byte (Int32.ofNat (own_by cs).length) ((own_by cs).map Value.int) (.int 0)
theorem rmTSU (l : Launch) (Z : State) (a0 : Array Value) (hw : HWt a0 Z) (ws : List Jvm.Cond) (a1 : Addr) (zc : Int32) (t : Addr) (kd : ClassId) (cs : List Int32) (cap : Nat) (h0 : Heap) (n0 : Nat) (O : Old Z n0 h0) (S_COMPACT : Sta Z Z.heap "java/lang/String" "COMPACT_STRINGS" "Z" (.int zc)) (hcs : ¬ zc = 0) (E_a1 : Exa Z h0 a1 "java/lang/StringBuilder") (C_a1 : Fld Z h0 a1 "java/lang/AbstractStringBuilder" "coder" "B" (.int (own_cd cs))) (V_a1 : Fld Z h0 a1 "java/lang/AbstractStringBuilder" "value" "[B" (.ref t)) (N_a1 : Fld Z h0 a1 "java/lang/AbstractStringBuilder" "count" "I" (.int (Int32.ofNat cs.length))) (M_a1 : Fld Z h0 a1 "java/lang/AbstractStringBuilder" "maybeLatin1" "Z" (.int 0)) (A_t : Arv Z h0 t kd .byte (Int32.ofNat (own_cl cs cap)) ((own_by cs).map Value.int) (.int 0)) (K_a1 : cs.length ≤ cap) (B_a1 : 16 ≤ cap) (D_a1 : cap ≤ 34) (XX : Exa Z h0 t "[B" ∨ 17 < cap) (hl30 : cs.length ≤ 17) :
    Met l mY24 (Jvm.Cond.code mY24 jdk_67_method_42_code 1 (some (.object "java/lang/String")) :: ws) rz5_2_38_79 #[(.ref a1)] Z h0 (Q_rmTSU Z a1 zc t kd cs cap h0 n0) := by
  refine MetFree.of_bodySF (plainFor_of_name pn_34) hisR ?_
  intro p e s m args below meth c s₁ Bd hml0 hP hK
  obtain ⟨rfl, hZ, hh⟩ := hP
  have hx := Bd.exec
  have hby := Bd.bytes
  have hml : c.maxLocals = 1 := hml0
  have hown : s.vm.findClass "java/lang/StringBuilder" = some m.cls := findClass_of_methodNamed Bd.named
  have hlk : meth.locks = false := BodyLoose.notSynchronized Bd
  have X0 : Stand p l e rz5_2_38_79 s m #[(.ref a1)] below meth c s₁ [] 0 0 := Stand.of_body Bd
  have e0 : s₁.heap = h0 := by rw [← hh, Bd.state]; rfl
  have N0 := Fr.nil n0
  have KK : Keep h0 h0 [] := Keep.refl h0 _
  show Go p e below s rz5_2_38_79.cells rz5_2_38_79.slots (Q_rmTSU Z a1 zc t kd cs cap h0 n0) s₁ (entryFrame m #[(.ref a1)] 1)
  refine Go.eq (ef_rmTSU m a1) ?_
  show Go _ _ _ _ _ _ _  s₁ (mkF m 0 #[vR a1] [])
  obtain ⟨T1, h1, X1, e1, E1, A1, D1, U1, st1⟩ := newO X0 hx hZ hown (hwi hw 176 rfl) (hwi hw 6 rfl) (hwi hw 7 rfl) e0 (g := (mkF m 0 #[vR a1] [])) rfl (hb hby (dq dz34 0 0 rfl)) (by decide) (by decide)
  obtain ⟨b1, g1⟩ : ∃ z, z = h0.size := ⟨_, rfl⟩
  rw [← g1] at A1 D1 U1 st1
  refine Go.st st1 ?_
  have g_b1 : n0 ≤ b1 := by rw [g1]; exact own_le O
  have sz_b1 : h0.size ≤ b1 := by rw [g1]; exact KK.1
  have ne_a1_b1 : a1 ≠ b1 := Nat.ne_of_lt (by rw [g1]; exact E_a1.lt)
  have ne_t_b1 : t ≠ b1 := Nat.ne_of_lt (by rw [g1]; exact A_t.lt)
  have E_a1 := E_a1.ext E1
  have A_t := A_t.ext E1
  have C_a1 := C_a1.ext E1
  have V_a1 := V_a1.ext E1
  have N_a1 := N_a1.ext E1
  have M_a1 := M_a1.ext E1
  have XX := XX.imp (fun q => q.ext E1) id
  have O := O.ext E1
  have KK := KK.ext E1
  have E_b1 := A1
  have F_coder_b1 : Fld Z h1 b1 "java/lang/String" "coder" "B" (.int (0 : Int32)) := D1 (Or.inr (hwi hw 31 rfl)) (ty := .byte) (by decide)
  have F_value_b1 : Fld Z h1 b1 "java/lang/String" "value" "[B" .null := D1 (Or.inr (hwi hw 33 rfl)) (ty := (.array .byte)) (by decide)
  show Go _ _ _ _ _ _ _  T1 (mkF m 3 #[vR a1] [(.ref b1)])
  refine Go.st (fun _ => XS.dup X1.here hx rfl (hb hby (dq dz34 1 3 rfl)) rfl rfl) ?_
  refine Go.st (fun _ => XS.aloadN X1.here hx rfl (hb hby (dq dz34 2 4 rfl)) rfl rfl) ?_
  have KK0 := KK
  show Go _ _ _ _ _ _ _  T1 (mkF m 5 #[vR a1] [(.ref a1), (.ref b1), (.ref b1)])
  obtain ⟨_, _, ⟨T2, L2, k2, n2⟩, -, X2, ⟨Lc2, hQ2, l2, y2, z2⟩, st2⟩ := X1.specialBack hx (y := mY23) rfl hown (mvT hZ (hwi hw 177 rfl)) (mvT hZ (hwi hw 178 rfl)) (mvT hZ (hwi hw 179 rfl)) (by decide) (backOf (W := 1) (rmT1U l Z a0 hw [] b1 a1 .null (.int (0 : Int32)) zc t kd cs cap h1 n0 O E_b1 F_value_b1 F_coder_b1 g_b1 S_COMPACT hcs E_a1 C_a1 V_a1 N_a1 M_a1 A_t K_a1 B_a1 D_a1 XX hl30) hZ (hwi hw 179 rfl) (hwi hw 7 rfl) (by decide) (by decide)) (g := (mkF m 5 #[vR a1] [(.ref a1), (.ref b1), (.ref b1)])) rfl (by rw [hml]; rfl) (Steps.refl _) (a := b1) (argsL := [(.ref a1)]) (rest := [(.ref b1)]) (lenOf pd__Ljava_lang_StringBuilder__V rfl) rfl (by show 2 * 0 + _ ≤ _; exact Nat.le_of_eq rfl) (hb hby (dq dz34 3 5 rfl)) (fun _ _ => ⟨rfl, e1, (by decide : 1 + 1 ≤ _), (by decide : 4 + 34 ≤ _)⟩)
  dsimp only [Pt.U, Pt.locs, Pt.cells, Pt.slots] at X2 l2 y2 z2 st2 hQ2
  rw [l2, y2, z2] at X2
  have X2 : Stand p l e _ _ m _ below meth c T2 _ 2 38 := X2
  obtain ⟨rfl, N2q, K2q, Eq2, Cq2, t2, kt2, lt2, Vq2, Aq2⟩ := hQ2
  have N2 := Fr.app N0 N2q
  refine Go.tr st2 ?_
  have E_a1 := E_a1.keep K2q
  have A_t := A_t.keep K2q (ninS ne_t_b1 nin0)
  have C_a1 := C_a1.keep K2q (ninS ne_a1_b1 nin0)
  have V_a1 := V_a1.keep K2q (ninS ne_a1_b1 nin0)
  have N_a1 := N_a1.keep K2q (ninS ne_a1_b1 nin0)
  have M_a1 := M_a1.keep K2q (ninS ne_a1_b1 nin0)
  have XX := XX.imp (fun q => q.keep K2q) id
  have E_b1 := E_b1.keep K2q
  have O := O.keep K2q (allS g_b1 all0)
  have KK := KK.trans K2q (allS (Or.inr sz_b1) all0)
  show Go _ _ _ _ _ _ _  T2 (mkF m 8 #[vR a1] [(.ref b1)])
  refine Go.retR X2 hlk hx Bd.returns rfl rfl rfl (hb hby (dq dz34 4 8 rfl)) (by decide) (by decide) ?_
  show Q_rmTSU Z _ _ _ _ _ _ h0 n0 _ T2.heap _
  exact ⟨_, _, _, rfl, N2, own_ext0 KK, sz_b1, Nat.le_trans KK0.1 lt2, Eq2, Cq2, Vq2, Aq2⟩
def Q_rmIP (Z : State) (p1 : Int32) (h0 : Heap) (n0 : Nat) (v : Option Value) (h : Heap) (L : List Loc) : Prop := v = some (.int (own_ip p1)) ∧ Fr n0 L ∧ h = h0
theorem rmIP (l : Launch) (Z : State) (a0 : Array Value) (hw : HWt a0 Z) (ws : List Jvm.Cond) (p1 : Int32) (h0 : Heap) (n0 : Nat) (O : Old Z n0 h0) :
    Met l mY49 (Jvm.Cond.code mY49 method_2_code 1 (some .boolean) :: ws) rz0_0_0_0 #[(.int p1)] Z h0 (Q_rmIP Z p1 h0 n0) := by
  refine MetFree.of_bodySF (plainFor_of_name pn_9) hisR ?_
  intro p e s m args below meth c s₁ Bd hml0 hP hK
  obtain ⟨rfl, hZ, hh⟩ := hP
  have hx := Bd.exec
  have hby := Bd.bytes
  have hml : c.maxLocals = 1 := hml0
  have hlk : meth.locks = false := BodyLoose.notSynchronized Bd
  have X0 : Stand p l e rz0_0_0_0 s m #[(.int p1)] below meth c s₁ [] 0 0 := Stand.of_body Bd
  have e0 : s₁.heap = h0 := by rw [← hh, Bd.state]; rfl
  have N0 := Fr.nil n0
  show Go p e below s rz0_0_0_0.cells rz0_0_0_0.slots (Q_rmIP Z p1 h0 n0) s₁ (entryFrame m #[(.int p1)] 1)
  refine Go.eq (ef_rmIP m p1) ?_
  show Go _ _ _ _ _ _ _  s₁ (mkF m 0 #[vI p1] [])
  refine Go.st (fun _ => XS.iloadN X0.here hx rfl (hb hby (dq dz9 0 0 rfl)) rfl) ?_
  refine Go.st (fun _ => XS.bipush X0.here hx rfl (hb hby (dq dz9 1 1 rfl))) ?_
  refine Go.st (fun _ => XS.iushr X0.here hx rfl (hb hby (dq dz9 2 3 rfl)) rfl) ?_
  refine Go.st (fun _ => XS.iconst X0.here hx rfl (hb hby (dq dz9 3 4 rfl))) ?_
  refine Go.st (fun _ => XS.iand X0.here hx rfl (hb hby (dq dz9 4 5 rfl)) rfl) ?_
  show Go _ _ _ _ _ _ _  s₁ (mkF m 6 #[vI p1] [(.int (((p1.toUInt32 >>> ((16 : Int32) &&& 31).toUInt32).toInt32) &&& (1 : Int32)))])
  by_cases c6_1 : (((p1.toUInt32 >>> ((16 : Int32) &&& 31).toUInt32).toInt32) &&& (1 : Int32)) = (0 : Int32)
  · refine Go.st (fun _ => XS.ifYes X0.here hx rfl (pc0 := 6) (pc' := 13) rfl (hb hby (dq dz9 5 6 rfl)) rfl ((if0 _ _).trans (teq c6_1).1) (by decide) (by decide)) ?_
    show Go _ _ _ _ _ _ _  s₁ (mkF m 13 #[vI p1] [])
    refine Go.st (fun _ => XS.iconst X0.here hx rfl (hb hby (dq dz9 6 13 rfl))) ?_
    show Go _ _ _ _ _ _ _  s₁ (mkF m 14 #[vI p1] [(.int (0 : Int32))])
    refine Go.retN X0 hlk hx (t := .boolean) (z' := (0 : Int32)) Bd.returns (by simp) (hb hby (dq dz9 7 14 rfl)) (by decide) (by decide) rfl ?_
    show Q_rmIP Z _ h0 n0 _ s₁.heap _
    rw [e0]
    exact ⟨by rw [own_ip, if_pos c6_1], N0, rfl⟩
  · refine Go.st (fun _ => XS.ifNo X0.here hx rfl (hb hby (dq dz9 5 6 rfl)) rfl ((if0 _ _).trans (feq c6_1).1)) ?_
    show Go _ _ _ _ _ _ _  s₁ (mkF m 9 #[vI p1] [])
    refine Go.st (fun _ => XS.iconst X0.here hx rfl (hb hby (dq dz9 8 9 rfl))) ?_
    refine Go.st (fun _ => XS.goto X0.here hx rfl (pc0 := 10) (pc' := 14) rfl (hb hby (dq dz9 9 10 rfl)) (by decide) (by decide)) ?_
    show Go _ _ _ _ _ _ _  s₁ (mkF m 14 #[vI p1] [(.int (1 : Int32))])
    refine Go.retN X0 hlk hx (t := .boolean) (z' := (1 : Int32)) Bd.returns (by simp) (hb hby (dq dz9 7 14 rfl)) (by decide) (by decide) rfl ?_
    show Q_rmIP Z _ h0 n0 _ s₁.heap _
    rw [e0]
    exact ⟨by rw [own_ip, if_neg c6_1], N0, rfl⟩
def Q_rmW (Z : State) (p1 : Int32) (h0 : Heap) (n0 : Nat) (v : Option Value) (h : Heap) (L : List Loc) : Prop := v = some (.int (Int32.ofNat (own_uc p1).length)) ∧ Fr n0 L ∧ h = h0
theorem rmW (l : Launch) (Z : State) (a0 : Array Value) (hw : HWt a0 Z) (ws : List Jvm.Cond) (p1 : Int32) (h0 : Heap) (n0 : Nat) (O : Old Z n0 h0) :
    Met l mY50 (Jvm.Cond.code mY50 method_3_code 1 (some .int) :: ws) rz1_0_0_12 #[(.int p1)] Z h0 (Q_rmW Z p1 h0 n0) := by
  refine MetFree.of_bodySF (plainFor_of_name pn_8) hisR ?_
  intro p e s m args below meth c s₁ Bd hml0 hP hK
  obtain ⟨rfl, hZ, hh⟩ := hP
  have hx := Bd.exec
  have hby := Bd.bytes
  have hml : c.maxLocals = 1 := hml0
  have hown : s.vm.findClass "com/example/oplim/oplim/KeysPrefixPinLaw" = some m.cls := findClass_of_methodNamed Bd.named
  have hlk : meth.locks = false := BodyLoose.notSynchronized Bd
  have X0 : Stand p l e rz1_0_0_12 s m #[(.int p1)] below meth c s₁ [] 0 0 := Stand.of_body Bd
  have e0 : s₁.heap = h0 := by rw [← hh, Bd.state]; rfl
  have N0 := Fr.nil n0
  show Go p e below s rz1_0_0_12.cells rz1_0_0_12.slots (Q_rmW Z p1 h0 n0) s₁ (entryFrame m #[(.int p1)] 1)
  refine Go.eq (ef_rmW m p1) ?_
  show Go _ _ _ _ _ _ _  s₁ (mkF m 0 #[vI p1] [])
  refine Go.st (fun _ => XS.iloadN X0.here hx rfl (hb hby (dq dz8 0 0 rfl)) rfl) ?_
  show Go _ _ _ _ _ _ _  s₁ (mkF m 1 #[vI p1] [(.int p1)])
  refine Go.pureS (w := (some (.int (own_ip p1)))) (rest := []) (pc' := 4) (Jvm.LawKit.callS X0 hx (y := mY49) hown (mvT hZ (hwi hw 37 rfl)) (mvT hZ (hwi hw 38 rfl)) (mvT hZ (hwi hw 3 rfl)) (mvT hZ (hwi hw 39 rfl)) (by decide) (backOf (W := 0) (rmIP l Z a0 hw [] p1 h0 n0 O) hZ (hwi hw 39 rfl) (hwi hw 3 rfl) (by decide) (by decide)) (g := (mkF m 1 #[vI p1] [(.int p1)])) rfl (by rw [hml]; rfl) (argsL := [(.int p1)]) (rest := []) (lenOf pd__I_Z rfl) rfl (by show 2 * 0 + _ ≤ _; exact Nat.le_of_eq rfl) (hb hby (dq dz8 1 1 rfl)) (fun _ _ => ⟨rfl, e0, (by decide : 0 + 0 ≤ _), (by decide : 0 + 0 ≤ _)⟩)) (fun _ _ _ q => q) N0 (fun T1 L1 X1 e1q N1 => ?_)
  show Go _ _ _ _ _ _ _  T1 (mkF m 4 #[vI p1] [(.int (own_ip p1))])
  by_cases c4_2 : (own_ip p1) = (0 : Int32)
  · refine Go.st (fun _ => XS.ifYes X1.here hx rfl (pc0 := 4) (pc' := 11) rfl (hb hby (dq dz8 2 4 rfl)) rfl ((if0 _ _).trans (teq c4_2).1) (by decide) (by decide)) ?_
    show Go _ _ _ _ _ _ _  T1 (mkF m 11 #[vI p1] [])
    refine Go.st (fun _ => XS.iconst X1.here hx rfl (hb hby (dq dz8 3 11 rfl))) ?_
    show Go _ _ _ _ _ _ _  T1 (mkF m 12 #[vI p1] [(.int (1 : Int32))])
    refine Go.retI X1 hlk hx Bd.returns (hb hby (dq dz8 4 12 rfl)) (by decide) (by decide) ?_
    show Q_rmW Z _ h0 n0 _ T1.heap _
    rw [e1q]
    exact ⟨by rw [own_uc0 c4_2]; rfl, N1, rfl⟩
  · refine Go.st (fun _ => XS.ifNo X1.here hx rfl (hb hby (dq dz8 2 4 rfl)) rfl ((if0 _ _).trans (feq c4_2).1)) ?_
    show Go _ _ _ _ _ _ _  T1 (mkF m 7 #[vI p1] [])
    refine Go.st (fun _ => XS.iconst X1.here hx rfl (hb hby (dq dz8 5 7 rfl))) ?_
    refine Go.st (fun _ => XS.goto X1.here hx rfl (pc0 := 8) (pc' := 12) rfl (hb hby (dq dz8 6 8 rfl)) (by decide) (by decide)) ?_
    show Go _ _ _ _ _ _ _  T1 (mkF m 12 #[vI p1] [(.int (2 : Int32))])
    refine Go.retI X1 hlk hx Bd.returns (hb hby (dq dz8 4 12 rfl)) (by decide) (by decide) ?_
    show Q_rmW Z _ h0 n0 _ T1.heap _
    rw [e1q]
    exact ⟨by rw [own_uc1 c4_2]; rfl, N1, rfl⟩
def Q_rmBm (Z : State) (p1 : Int32) (h0 : Heap) (n0 : Nat) (v : Option Value) (h : Heap) (L : List Loc) : Prop := v = some (.int (own_bm p1)) ∧ Fr n0 L ∧ h = h0
theorem rmBm (l : Launch) (Z : State) (a0 : Array Value) (hw : HWt a0 Z) (ws : List Jvm.Cond) (p1 : Int32) (h0 : Heap) (n0 : Nat) (O : Old Z n0 h0) :
    Met l mY51 (Jvm.Cond.code mY51 method_4_code 2 (some .char) :: ws) rz0_0_0_0 #[(.int p1)] Z h0 (Q_rmBm Z p1 h0 n0) := by
  refine MetFree.of_bodySF (plainFor_of_name pn_11) hisR ?_
  intro p e s m args below meth c s₁ Bd hml0 hP hK
  obtain ⟨rfl, hZ, hh⟩ := hP
  have hx := Bd.exec
  have hby := Bd.bytes
  have hml : c.maxLocals = 2 := hml0
  have hown : s.vm.findClass "com/example/oplim/oplim/KeysPrefixPinLaw" = some m.cls := findClass_of_methodNamed Bd.named
  have hlk : meth.locks = false := BodyLoose.notSynchronized Bd
  have X0 : Stand p l e rz0_0_0_0 s m #[(.int p1)] below meth c s₁ [] 0 0 := Stand.of_body Bd
  have e0 : s₁.heap = h0 := by rw [← hh, Bd.state]; rfl
  have N0 := Fr.nil n0
  show Go p e below s rz0_0_0_0.cells rz0_0_0_0.slots (Q_rmBm Z p1 h0 n0) s₁ (entryFrame m #[(.int p1)] 2)
  refine Go.eq (ef_rmBm m p1) ?_
  show Go _ _ _ _ _ _ _  s₁ (mkF m 0 #[vI p1, uS] [])
  refine Go.st (fun _ => XS.iloadN X0.here hx rfl (hb hby (dq dz11 0 0 rfl)) rfl) ?_
  show Go _ _ _ _ _ _ _  s₁ (mkF m 1 #[vI p1, uS] [(.int p1)])
  refine Go.st (X0.ldcInt hx hown (mvT hZ (hwi hw 46 rfl)) (g := (mkF m 1 #[vI p1, uS] [(.int p1)])) rfl (hb hby (dq dz11 1 1 rfl))) ?_
  show Go _ _ _ _ _ _ _  s₁ (mkF m 3 #[vI p1, uS] [(.int (65535 : Int32)), (.int p1)])
  refine Go.st (fun _ => XS.iand X0.here hx rfl (hb hby (dq dz11 2 3 rfl)) rfl) ?_
  refine Go.st (fun _ => XS.istoreN X0.here hx rfl (hb hby (dq dz11 3 4 rfl)) rfl (l' := #[vI p1, vI (p1 &&& (65535 : Int32))]) rfl) ?_
  refine Go.st (fun _ => XS.iloadN X0.here hx rfl (hb hby (dq dz11 4 5 rfl)) rfl) ?_
  show Go _ _ _ _ _ _ _  s₁ (mkF m 6 #[vI p1, vI (p1 &&& (65535 : Int32))] [(.int (p1 &&& (65535 : Int32)))])
  refine Go.st (X0.ldcInt hx hown (mvT hZ (hwi hw 47 rfl)) (g := (mkF m 6 #[vI p1, vI (p1 &&& (65535 : Int32))] [(.int (p1 &&& (65535 : Int32)))])) rfl (hb hby (dq dz11 5 6 rfl))) ?_
  show Go _ _ _ _ _ _ _  s₁ (mkF m 8 #[vI p1, vI (p1 &&& (65535 : Int32))] [(.int (55296 : Int32)), (.int (p1 &&& (65535 : Int32)))])
  by_cases c8_1 : (p1 &&& (65535 : Int32)) < (55296 : Int32)
  · refine Go.st (fun _ => XS.icmpYes X0.here hx rfl (pc0 := 8) (pc' := 23) rfl (hb hby (dq dz11 6 8 rfl)) rfl (tlt c8_1).1 (by decide) (by decide)) ?_
    show Go _ _ _ _ _ _ _  s₁ (mkF m 23 #[vI p1, vI (p1 &&& (65535 : Int32))] [])
    refine Go.st (fun _ => XS.iloadN X0.here hx rfl (hb hby (dq dz11 7 23 rfl)) rfl) ?_
    refine Go.st (fun _ => XS.i2c X0.here hx rfl (hb hby (dq dz11 8 24 rfl)) rfl) ?_
    show Go _ _ _ _ _ _ _  s₁ (mkF m 25 #[vI p1, vI (p1 &&& (65535 : Int32))] [(.int ((p1 &&& (65535 : Int32)).toUInt32.toUInt16.toUInt32.toInt32))])
    refine Go.retN X0 hlk hx (t := .char) (z' := (own_bm p1)) Bd.returns (by simp) (hb hby (dq dz11 9 25 rfl)) (by decide) (by decide) (by rw [own_nc16, own_bm, if_neg (fun q => q.1 c8_1)]) ?_
    show Q_rmBm Z _ h0 n0 _ s₁.heap _
    rw [e0]
    exact ⟨rfl, N0, rfl⟩
  · refine Go.st (fun _ => XS.icmpNo X0.here hx rfl (hb hby (dq dz11 6 8 rfl)) rfl (flt c8_1).1) ?_
    show Go _ _ _ _ _ _ _  s₁ (mkF m 11 #[vI p1, vI (p1 &&& (65535 : Int32))] [])
    refine Go.st (fun _ => XS.iloadN X0.here hx rfl (hb hby (dq dz11 10 11 rfl)) rfl) ?_
    show Go _ _ _ _ _ _ _  s₁ (mkF m 12 #[vI p1, vI (p1 &&& (65535 : Int32))] [(.int (p1 &&& (65535 : Int32)))])
    refine Go.st (X0.ldcInt hx hown (mvT hZ (hwi hw 222 rfl)) (g := (mkF m 12 #[vI p1, vI (p1 &&& (65535 : Int32))] [(.int (p1 &&& (65535 : Int32)))])) rfl (hb hby (dq dz11 11 12 rfl))) ?_
    show Go _ _ _ _ _ _ _  s₁ (mkF m 14 #[vI p1, vI (p1 &&& (65535 : Int32))] [(.int (57343 : Int32)), (.int (p1 &&& (65535 : Int32)))])
    by_cases c14_2 : (57343 : Int32) < (p1 &&& (65535 : Int32))
    · refine Go.st (fun _ => XS.icmpYes X0.here hx rfl (pc0 := 14) (pc' := 23) rfl (hb hby (dq dz11 12 14 rfl)) rfl (tlt c14_2).2.2.1 (by decide) (by decide)) ?_
      show Go _ _ _ _ _ _ _  s₁ (mkF m 23 #[vI p1, vI (p1 &&& (65535 : Int32))] [])
      refine Go.st (fun _ => XS.iloadN X0.here hx rfl (hb hby (dq dz11 7 23 rfl)) rfl) ?_
      refine Go.st (fun _ => XS.i2c X0.here hx rfl (hb hby (dq dz11 8 24 rfl)) rfl) ?_
      show Go _ _ _ _ _ _ _  s₁ (mkF m 25 #[vI p1, vI (p1 &&& (65535 : Int32))] [(.int ((p1 &&& (65535 : Int32)).toUInt32.toUInt16.toUInt32.toInt32))])
      refine Go.retN X0 hlk hx (t := .char) (z' := (own_bm p1)) Bd.returns (by simp) (hb hby (dq dz11 9 25 rfl)) (by decide) (by decide) (by rw [own_nc16, own_bm, if_neg (fun q => q.2 c14_2)]) ?_
      show Q_rmBm Z _ h0 n0 _ s₁.heap _
      rw [e0]
      exact ⟨rfl, N0, rfl⟩
    · refine Go.st (fun _ => XS.icmpNo X0.here hx rfl (hb hby (dq dz11 12 14 rfl)) rfl (flt c14_2).2.2.1) ?_
      show Go _ _ _ _ _ _ _  s₁ (mkF m 17 #[vI p1, vI (p1 &&& (65535 : Int32))] [])
      refine Go.st (fun _ => XS.iloadN X0.here hx rfl (hb hby (dq dz11 13 17 rfl)) rfl) ?_
      refine Go.st (fun _ => XS.sipush X0.here hx rfl (hb hby (dq dz11 14 18 rfl))) ?_
      refine Go.st (fun _ => XS.ixor X0.here hx rfl (hb hby (dq dz11 15 21 rfl)) rfl) ?_
      refine Go.st (fun _ => XS.istoreN X0.here hx rfl (hb hby (dq dz11 16 22 rfl)) rfl (l' := #[vI p1, vI ((p1 &&& (65535 : Int32)) ^^^ (8192 : Int32))]) rfl) ?_
      refine Go.st (fun _ => XS.iloadN X0.here hx rfl (hb hby (dq dz11 7 23 rfl)) rfl) ?_
      refine Go.st (fun _ => XS.i2c X0.here hx rfl (hb hby (dq dz11 8 24 rfl)) rfl) ?_
      show Go _ _ _ _ _ _ _  s₁ (mkF m 25 #[vI p1, vI ((p1 &&& (65535 : Int32)) ^^^ (8192 : Int32))] [(.int (((p1 &&& (65535 : Int32)) ^^^ (8192 : Int32)).toUInt32.toUInt16.toUInt32.toInt32))])
      refine Go.retN X0 hlk hx (t := .char) (z' := (own_bm p1)) Bd.returns (by simp) (hb hby (dq dz11 9 25 rfl)) (by decide) (by decide) (by rw [own_nc16, own_bm, if_pos ⟨c8_1, c14_2⟩]) ?_
      show Q_rmBm Z _ h0 n0 _ s₁.heap _
      rw [e0]
      exact ⟨rfl, N0, rfl⟩
def Q_rmNm (Z : State) (p1 : Int32) (h0 : Heap) (n0 : Nat) (v : Option Value) (h : Heap) (L : List Loc) : Prop := v = some (.int (own_nm p1)) ∧ Fr n0 L ∧ h = h0
theorem rmNm (l : Launch) (Z : State) (a0 : Array Value) (hw : HWt a0 Z) (ws : List Jvm.Cond) (p1 : Int32) (h0 : Heap) (n0 : Nat) (O : Old Z n0 h0) :
    Met l mY52 (Jvm.Cond.code mY52 method_6_code 2 (some .char) :: ws) rz0_0_0_0 #[(.int p1)] Z h0 (Q_rmNm Z p1 h0 n0) := by
  refine MetFree.of_bodySF (plainFor_of_name pn_1) hisR ?_
  intro p e s m args below meth c s₁ Bd hml0 hP hK
  obtain ⟨rfl, hZ, hh⟩ := hP
  have hx := Bd.exec
  have hby := Bd.bytes
  have hml : c.maxLocals = 2 := hml0
  have hlk : meth.locks = false := BodyLoose.notSynchronized Bd
  have X0 : Stand p l e rz0_0_0_0 s m #[(.int p1)] below meth c s₁ [] 0 0 := Stand.of_body Bd
  have e0 : s₁.heap = h0 := by rw [← hh, Bd.state]; rfl
  have N0 := Fr.nil n0
  show Go p e below s rz0_0_0_0.cells rz0_0_0_0.slots (Q_rmNm Z p1 h0 n0) s₁ (entryFrame m #[(.int p1)] 2)
  refine Go.eq (ef_rmNm m p1) ?_
  show Go _ _ _ _ _ _ _  s₁ (mkF m 0 #[vI p1, uS] [])
  refine Go.st (fun _ => XS.iloadN X0.here hx rfl (hb hby (dq dz1 0 0 rfl)) rfl) ?_
  refine Go.st (fun _ => XS.bipush X0.here hx rfl (hb hby (dq dz1 1 1 rfl))) ?_
  refine Go.st (fun _ => XS.iand X0.here hx rfl (hb hby (dq dz1 2 3 rfl)) rfl) ?_
  refine Go.st (fun _ => XS.istoreN X0.here hx rfl (hb hby (dq dz1 3 4 rfl)) rfl (l' := #[vI p1, vI (p1 &&& (63 : Int32))]) rfl) ?_
  refine Go.st (fun _ => XS.iloadN X0.here hx rfl (hb hby (dq dz1 4 5 rfl)) rfl) ?_
  refine Go.st (fun _ => XS.bipush X0.here hx rfl (hb hby (dq dz1 5 6 rfl))) ?_
  show Go _ _ _ _ _ _ _  s₁ (mkF m 8 #[vI p1, vI (p1 &&& (63 : Int32))] [(.int (26 : Int32)), (.int (p1 &&& (63 : Int32)))])
  by_cases c8_1 : (p1 &&& (63 : Int32)) < (26 : Int32)
  · refine Go.st (fun _ => XS.icmpNo X0.here hx rfl (hb hby (dq dz1 6 8 rfl)) rfl (tlt c8_1).2.1) ?_
    show Go _ _ _ _ _ _ _  s₁ (mkF m 11 #[vI p1, vI (p1 &&& (63 : Int32))] [])
    refine Go.st (fun _ => XS.bipush X0.here hx rfl (hb hby (dq dz1 7 11 rfl))) ?_
    refine Go.st (fun _ => XS.iloadN X0.here hx rfl (hb hby (dq dz1 8 13 rfl)) rfl) ?_
    refine Go.st (fun _ => XS.iadd X0.here hx rfl (hb hby (dq dz1 9 14 rfl)) rfl) ?_
    refine Go.st (fun _ => XS.i2c X0.here hx rfl (hb hby (dq dz1 10 15 rfl)) rfl) ?_
    show Go _ _ _ _ _ _ _  s₁ (mkF m 16 #[vI p1, vI (p1 &&& (63 : Int32))] [(.int (((65 : Int32) + (p1 &&& (63 : Int32))).toUInt32.toUInt16.toUInt32.toInt32))])
    refine Go.retN X0 hlk hx (t := .char) (z' := (own_nm p1)) Bd.returns (by simp) (hb hby (dq dz1 11 16 rfl)) (by decide) (by decide) (by rw [own_nm, if_pos c8_1]; exact own_nc16 _) ?_
    show Q_rmNm Z _ h0 n0 _ s₁.heap _
    rw [e0]
    exact ⟨rfl, N0, rfl⟩
  · refine Go.st (fun _ => XS.icmpYes X0.here hx rfl (pc0 := 8) (pc' := 17) rfl (hb hby (dq dz1 6 8 rfl)) rfl (flt c8_1).2.1 (by decide) (by decide)) ?_
    show Go _ _ _ _ _ _ _  s₁ (mkF m 17 #[vI p1, vI (p1 &&& (63 : Int32))] [])
    refine Go.st (fun _ => XS.iloadN X0.here hx rfl (hb hby (dq dz1 12 17 rfl)) rfl) ?_
    refine Go.st (fun _ => XS.bipush X0.here hx rfl (hb hby (dq dz1 13 18 rfl))) ?_
    show Go _ _ _ _ _ _ _  s₁ (mkF m 20 #[vI p1, vI (p1 &&& (63 : Int32))] [(.int (52 : Int32)), (.int (p1 &&& (63 : Int32)))])
    by_cases c20_2 : (p1 &&& (63 : Int32)) < (52 : Int32)
    · refine Go.st (fun _ => XS.icmpNo X0.here hx rfl (hb hby (dq dz1 14 20 rfl)) rfl (tlt c20_2).2.1) ?_
      show Go _ _ _ _ _ _ _  s₁ (mkF m 23 #[vI p1, vI (p1 &&& (63 : Int32))] [])
      refine Go.st (fun _ => XS.bipush X0.here hx rfl (hb hby (dq dz1 15 23 rfl))) ?_
      refine Go.st (fun _ => XS.iloadN X0.here hx rfl (hb hby (dq dz1 16 25 rfl)) rfl) ?_
      refine Go.st (fun _ => XS.bipush X0.here hx rfl (hb hby (dq dz1 17 26 rfl))) ?_
      refine Go.st (fun _ => XS.isub X0.here hx rfl (hb hby (dq dz1 18 28 rfl)) rfl) ?_
      refine Go.st (fun _ => XS.iadd X0.here hx rfl (hb hby (dq dz1 19 29 rfl)) rfl) ?_
      refine Go.st (fun _ => XS.i2c X0.here hx rfl (hb hby (dq dz1 20 30 rfl)) rfl) ?_
      show Go _ _ _ _ _ _ _  s₁ (mkF m 31 #[vI p1, vI (p1 &&& (63 : Int32))] [(.int (((97 : Int32) + ((p1 &&& (63 : Int32)) - (26 : Int32))).toUInt32.toUInt16.toUInt32.toInt32))])
      refine Go.retN X0 hlk hx (t := .char) (z' := (own_nm p1)) Bd.returns (by simp) (hb hby (dq dz1 21 31 rfl)) (by decide) (by decide) (by rw [own_nm, if_neg c8_1, if_pos c20_2]; exact own_nc16 _) ?_
      show Q_rmNm Z _ h0 n0 _ s₁.heap _
      rw [e0]
      exact ⟨rfl, N0, rfl⟩
    · refine Go.st (fun _ => XS.icmpYes X0.here hx rfl (pc0 := 20) (pc' := 32) rfl (hb hby (dq dz1 14 20 rfl)) rfl (flt c20_2).2.1 (by decide) (by decide)) ?_
      show Go _ _ _ _ _ _ _  s₁ (mkF m 32 #[vI p1, vI (p1 &&& (63 : Int32))] [])
      refine Go.st (fun _ => XS.iloadN X0.here hx rfl (hb hby (dq dz1 22 32 rfl)) rfl) ?_
      refine Go.st (fun _ => XS.bipush X0.here hx rfl (hb hby (dq dz1 23 33 rfl))) ?_
      show Go _ _ _ _ _ _ _  s₁ (mkF m 35 #[vI p1, vI (p1 &&& (63 : Int32))] [(.int (62 : Int32)), (.int (p1 &&& (63 : Int32)))])
      by_cases c35_3 : (p1 &&& (63 : Int32)) < (62 : Int32)
      · refine Go.st (fun _ => XS.icmpNo X0.here hx rfl (hb hby (dq dz1 24 35 rfl)) rfl (tlt c35_3).2.1) ?_
        show Go _ _ _ _ _ _ _  s₁ (mkF m 38 #[vI p1, vI (p1 &&& (63 : Int32))] [])
        refine Go.st (fun _ => XS.bipush X0.here hx rfl (hb hby (dq dz1 25 38 rfl))) ?_
        refine Go.st (fun _ => XS.iloadN X0.here hx rfl (hb hby (dq dz1 26 40 rfl)) rfl) ?_
        refine Go.st (fun _ => XS.bipush X0.here hx rfl (hb hby (dq dz1 27 41 rfl))) ?_
        refine Go.st (fun _ => XS.isub X0.here hx rfl (hb hby (dq dz1 28 43 rfl)) rfl) ?_
        refine Go.st (fun _ => XS.iadd X0.here hx rfl (hb hby (dq dz1 29 44 rfl)) rfl) ?_
        refine Go.st (fun _ => XS.i2c X0.here hx rfl (hb hby (dq dz1 30 45 rfl)) rfl) ?_
        show Go _ _ _ _ _ _ _  s₁ (mkF m 46 #[vI p1, vI (p1 &&& (63 : Int32))] [(.int (((48 : Int32) + ((p1 &&& (63 : Int32)) - (52 : Int32))).toUInt32.toUInt16.toUInt32.toInt32))])
        refine Go.retN X0 hlk hx (t := .char) (z' := (own_nm p1)) Bd.returns (by simp) (hb hby (dq dz1 31 46 rfl)) (by decide) (by decide) (by rw [own_nm, if_neg c8_1, if_neg c20_2, if_pos c35_3]; exact own_nc16 _) ?_
        show Q_rmNm Z _ h0 n0 _ s₁.heap _
        rw [e0]
        exact ⟨rfl, N0, rfl⟩
      · refine Go.st (fun _ => XS.icmpYes X0.here hx rfl (pc0 := 35) (pc' := 47) rfl (hb hby (dq dz1 24 35 rfl)) rfl (flt c35_3).2.1 (by decide) (by decide)) ?_
        show Go _ _ _ _ _ _ _  s₁ (mkF m 47 #[vI p1, vI (p1 &&& (63 : Int32))] [])
        refine Go.st (fun _ => XS.iloadN X0.here hx rfl (hb hby (dq dz1 32 47 rfl)) rfl) ?_
        refine Go.st (fun _ => XS.bipush X0.here hx rfl (hb hby (dq dz1 33 48 rfl))) ?_
        show Go _ _ _ _ _ _ _  s₁ (mkF m 50 #[vI p1, vI (p1 &&& (63 : Int32))] [(.int (62 : Int32)), (.int (p1 &&& (63 : Int32)))])
        by_cases c50_4 : (p1 &&& (63 : Int32)) = (62 : Int32)
        · refine Go.st (fun _ => XS.icmpNo X0.here hx rfl (hb hby (dq dz1 34 50 rfl)) rfl (teq c50_4).2) ?_
          show Go _ _ _ _ _ _ _  s₁ (mkF m 53 #[vI p1, vI (p1 &&& (63 : Int32))] [])
          refine Go.st (fun _ => XS.bipush X0.here hx rfl (hb hby (dq dz1 35 53 rfl))) ?_
          show Go _ _ _ _ _ _ _  s₁ (mkF m 55 #[vI p1, vI (p1 &&& (63 : Int32))] [(.int (95 : Int32))])
          refine Go.retN X0 hlk hx (t := .char) (z' := (own_nm p1)) Bd.returns (by simp) (hb hby (dq dz1 36 55 rfl)) (by decide) (by decide) (by rw [own_nm, if_neg c8_1, if_neg c20_2, if_neg c35_3, if_pos c50_4]; rfl) ?_
          show Q_rmNm Z _ h0 n0 _ s₁.heap _
          rw [e0]
          exact ⟨rfl, N0, rfl⟩
        · refine Go.st (fun _ => XS.icmpYes X0.here hx rfl (pc0 := 50) (pc' := 56) rfl (hb hby (dq dz1 34 50 rfl)) rfl (feq c50_4).2 (by decide) (by decide)) ?_
          show Go _ _ _ _ _ _ _  s₁ (mkF m 56 #[vI p1, vI (p1 &&& (63 : Int32))] [])
          refine Go.st (fun _ => XS.bipush X0.here hx rfl (hb hby (dq dz1 37 56 rfl))) ?_
          show Go _ _ _ _ _ _ _  s₁ (mkF m 58 #[vI p1, vI (p1 &&& (63 : Int32))] [(.int (45 : Int32))])
          refine Go.retN X0 hlk hx (t := .char) (z' := (own_nm p1)) Bd.returns (by simp) (hb hby (dq dz1 38 58 rfl)) (by decide) (by decide) (by rw [own_nm, if_neg c8_1, if_neg c20_2, if_neg c35_3, if_neg c50_4]; rfl) ?_
          show Q_rmNm Z _ h0 n0 _ s₁.heap _
          rw [e0]
          exact ⟨rfl, N0, rfl⟩
def Q_rmPt (Z : State) (a1 : Addr) (p3 : Int32) (kc : ClassId) (nn : Nat) (us : List Int32) (h0 : Heap) (n0 : Nat) (v : Option Value) (h : Heap) (L : List Loc) : Prop := v = some (.int (Int32.ofNat (us.length + (own_uc p3).length))) ∧ Fr n0 L ∧ Keep h0 h [a1] ∧ Arv Z h a1 kc .char (Int32.ofNat nn) ((us ++ own_uc p3).map Value.int) (.int 0)
theorem rmPt (l : Launch) (Z : State) (a0 : Array Value) (hw : HWt a0 Z) (ws : List Jvm.Cond) (a1 : Addr) (p3 : Int32) (kc : ClassId) (nn : Nat) (us : List Int32) (h0 : Heap) (n0 : Nat) (O : Old Z n0 h0) (A_a1 : Arv Z h0 a1 kc .char (Int32.ofNat nn) (us.map Value.int) (.int 0)) (hbd : us.length + (own_uc p3).length ≤ nn) (hn : nn < 1000) (g_a1 : n0 ≤ a1) :
    Met l mY53 (Jvm.Cond.code mY53 method_5_code 3 (some .int) :: ws) rz1_0_0_15 #[(.ref a1), (.int (Int32.ofNat us.length)), (.int p3)] Z h0 (Q_rmPt Z a1 p3 kc nn us h0 n0) := by
  refine MetFree.of_bodySF (plainFor_of_name pn_10) hisR ?_
  intro p e s m args below meth c s₁ Bd hml0 hP hK
  obtain ⟨rfl, hZ, hh⟩ := hP
  have hx := Bd.exec
  have hby := Bd.bytes
  have hml : c.maxLocals = 3 := hml0
  have hown : s.vm.findClass "com/example/oplim/oplim/KeysPrefixPinLaw" = some m.cls := findClass_of_methodNamed Bd.named
  have hlk : meth.locks = false := BodyLoose.notSynchronized Bd
  have X0 : Stand p l e rz1_0_0_15 s m #[(.ref a1), (.int (Int32.ofNat us.length)), (.int p3)] below meth c s₁ [] 0 0 := Stand.of_body Bd
  have e0 : s₁.heap = h0 := by rw [← hh, Bd.state]; rfl
  have N0 := Fr.nil n0
  have KK : Keep h0 h0 [a1] := Keep.refl h0 _
  show Go p e below s rz1_0_0_15.cells rz1_0_0_15.slots (Q_rmPt Z a1 p3 kc nn us h0 n0) s₁ (entryFrame m #[(.ref a1), (.int (Int32.ofNat us.length)), (.int p3)] 3)
  refine Go.eq (ef_rmPt m a1 (Int32.ofNat us.length) p3) ?_
  show Go _ _ _ _ _ _ _  s₁ (mkF m 0 #[vR a1, vI (Int32.ofNat us.length), vI p3] [])
  refine Go.st (fun _ => XS.iloadN X0.here hx rfl (hb hby (dq dz10 0 0 rfl)) rfl) ?_
  show Go _ _ _ _ _ _ _  s₁ (mkF m 1 #[vR a1, vI (Int32.ofNat us.length), vI p3] [(.int p3)])
  refine Go.pureS (w := (some (.int (own_ip p3)))) (rest := []) (pc' := 4) (Jvm.LawKit.callS X0 hx (y := mY49) hown (mvT hZ (hwi hw 37 rfl)) (mvT hZ (hwi hw 38 rfl)) (mvT hZ (hwi hw 3 rfl)) (mvT hZ (hwi hw 39 rfl)) (by decide) (backOf (W := 0) (rmIP l Z a0 hw [] p3 h0 n0 O) hZ (hwi hw 39 rfl) (hwi hw 3 rfl) (by decide) (by decide)) (g := (mkF m 1 #[vR a1, vI (Int32.ofNat us.length), vI p3] [(.int p3)])) rfl (by rw [hml]; rfl) (argsL := [(.int p3)]) (rest := []) (lenOf pd__I_Z rfl) rfl (by show 2 * 0 + _ ≤ _; exact Nat.le_of_eq rfl) (hb hby (dq dz10 1 1 rfl)) (fun _ _ => ⟨rfl, e0, (by decide : 0 + 0 ≤ _), (by decide : 0 + 0 ≤ _)⟩)) (fun _ _ _ q => q) N0 (fun T1 L1 X1 e1q N1 => ?_)
  show Go _ _ _ _ _ _ _  T1 (mkF m 4 #[vR a1, vI (Int32.ofNat us.length), vI p3] [(.int (own_ip p3))])
  by_cases c4_2 : (own_ip p3) = 0
  · rw [c4_2]
    have eu := own_uc0 c4_2
    rw [eu] at hbd
    have hbd : us.length + 1 ≤ nn := hbd
    show Go _ _ _ _ _ _ _  T1 (mkF m 4 #[vR a1, vI (Int32.ofNat us.length), vI p3] [(.int (0 : Int32))])
    refine Go.st (fun _ => XS.ifYes X1.here hx rfl (pc0 := 4) (pc' := 40) rfl (hb hby (dq dz10 2 4 rfl)) rfl ((if0 _ _).trans (teq (rfl : (0 : Int32) = (0 : Int32))).1) (by decide) (by decide)) ?_
    show Go _ _ _ _ _ _ _  T1 (mkF m 40 #[vR a1, vI (Int32.ofNat us.length), vI p3] [])
    refine Go.st (fun _ => XS.aloadN X1.here hx rfl (hb hby (dq dz10 3 40 rfl)) rfl rfl) ?_
    refine Go.st (fun _ => XS.iloadN X1.here hx rfl (hb hby (dq dz10 4 41 rfl)) rfl) ?_
    refine Go.st (fun _ => XS.iloadN X1.here hx rfl (hb hby (dq dz10 5 42 rfl)) rfl) ?_
    show Go _ _ _ _ _ _ _  T1 (mkF m 43 #[vR a1, vI (Int32.ofNat us.length), vI p3] [(.int p3), (.int (Int32.ofNat us.length)), (.ref a1)])
    refine Go.pureS (w := (some (.int (own_bm p3)))) (rest := [(.int (Int32.ofNat us.length)), (.ref a1)]) (pc' := 46) (Jvm.LawKit.callS X1 hx (y := mY51) hown (mvT hZ (hwi hw 43 rfl)) (mvT hZ (hwi hw 44 rfl)) (mvT hZ (hwi hw 3 rfl)) (mvT hZ (hwi hw 45 rfl)) (by decide) (backOf (W := 2) (rmBm l Z a0 hw [] p3 h0 n0 O) hZ (hwi hw 45 rfl) (hwi hw 3 rfl) (by decide) (by decide)) (g := (mkF m 43 #[vR a1, vI (Int32.ofNat us.length), vI p3] [(.int p3), (.int (Int32.ofNat us.length)), (.ref a1)])) rfl (by rw [hml]; rfl) (argsL := [(.int p3)]) (rest := [(.int (Int32.ofNat us.length)), (.ref a1)]) (lenOf pd__I_C rfl) rfl (by show 2 * 0 + _ ≤ _; exact Nat.le_of_eq rfl) (hb hby (dq dz10 6 43 rfl)) (fun _ _ => ⟨rfl, e1q, (by decide : 0 + 0 ≤ _), (by decide : 0 + 0 ≤ _)⟩)) (fun _ _ _ q => q) N1 (fun T3 L3 X3 e3q N3 => ?_)
    show Go _ _ _ _ _ _ _  T3 (mkF m 46 #[vR a1, vI (Int32.ofNat us.length), vI p3] [(.int (own_bm p3)), (.int (Int32.ofNat us.length)), (.ref a1)])
    obtain ⟨cl4, Ar4, q4, S4, M4, Hh4, G4⟩ := A_a1
    obtain ⟨T5, h5, X5, e5, W5, st5⟩ := stC X3 hx hZ e3q Ar4 (j := (Int32.ofNat us.length)) (inb_of S4 ⟨own_onn (by omega), (own_olt (by omega) (by omega)).mpr (by omega)⟩) (g := (mkF m 46 #[vR a1, vI (Int32.ofNat us.length), vI p3] [(.int (own_bm p3)), (.int (Int32.ofNat us.length)), (.ref a1)])) rfl rfl (hb hby (dq dz10 7 46 rfl))
    refine Go.st st5 ?_
    have A_a1 : Arv Z h5 a1 kc .char (Int32.ofNat nn) ((us.map Value.int) ++ [Value.int (nar .char (own_bm p3))]) (.int 0) := own_push Ar4 q4 S4 M4 Hh4 G4 (fits_nar_char _) W5 (by rw [own_ocl (by omega)]; rw [List.length_map])
    rw [show nar .char (own_bm p3) = own_bm p3 from own_nc16 _] at A_a1
    have N5 := Fr.snoc X5 N3 g_a1
    have O := O.wr W5 g_a1
    have KK := KK.wr W5 (Or.inl (List.mem_of_getElem? (i := 0) rfl))
    have A_a1 : Arv Z h5 a1 kc .char (Int32.ofNat nn) ((us ++ [own_bm p3]).map Value.int) (.int 0) := by rw [← own_mv]; exact A_a1
    show Go _ _ _ _ _ _ _  T5 (mkF m 47 #[vR a1, vI (Int32.ofNat us.length), vI p3] [])
    refine Go.st (fun _ => XS.iloadN X5.here hx rfl (hb hby (dq dz10 8 47 rfl)) rfl) ?_
    refine Go.st (fun _ => XS.iconst X5.here hx rfl (hb hby (dq dz10 9 48 rfl))) ?_
    refine Go.st (fun _ => XS.iadd X5.here hx rfl (hb hby (dq dz10 10 49 rfl)) rfl) ?_
    show Go _ _ _ _ _ _ _  T5 (mkF m 50 #[vR a1, vI (Int32.ofNat us.length), vI p3] [(.int ((Int32.ofNat us.length) + (1 : Int32)))])
    rw [own_1inc us.length]
    show Go _ _ _ _ _ _ _  T5 (mkF m 50 #[vR a1, vI (Int32.ofNat us.length), vI p3] [(.int (Int32.ofNat (us.length + 1)))])
    refine Go.retI X5 hlk hx Bd.returns (hb hby (dq dz10 11 50 rfl)) (by decide) (by decide) ?_
    show Q_rmPt Z _ _ _ _ _ h0 n0 _ T5.heap _
    rw [e5]
    exact ⟨by rw [eu]; rfl, N5, KK, (by rw [eu]; exact A_a1)⟩
  · have eu := own_uc1 c4_2
    rw [eu] at hbd
    have hbd : us.length + 2 ≤ nn := hbd
    show Go _ _ _ _ _ _ _  T1 (mkF m 4 #[vR a1, vI (Int32.ofNat us.length), vI p3] [(.int (own_ip p3))])
    refine Go.st (fun _ => XS.ifNo X1.here hx rfl (hb hby (dq dz10 2 4 rfl)) rfl ((if0 _ _).trans (feq c4_2).1)) ?_
    show Go _ _ _ _ _ _ _  T1 (mkF m 7 #[vR a1, vI (Int32.ofNat us.length), vI p3] [])
    refine Go.st (fun _ => XS.aloadN X1.here hx rfl (hb hby (dq dz10 12 7 rfl)) rfl rfl) ?_
    refine Go.st (fun _ => XS.iloadN X1.here hx rfl (hb hby (dq dz10 13 8 rfl)) rfl) ?_
    show Go _ _ _ _ _ _ _  T1 (mkF m 9 #[vR a1, vI (Int32.ofNat us.length), vI p3] [(.int (Int32.ofNat us.length)), (.ref a1)])
    refine Go.st (X1.ldcInt hx hown (mvT hZ (hwi hw 47 rfl)) (g := (mkF m 9 #[vR a1, vI (Int32.ofNat us.length), vI p3] [(.int (Int32.ofNat us.length)), (.ref a1)])) rfl (hb hby (dq dz10 14 9 rfl))) ?_
    show Go _ _ _ _ _ _ _  T1 (mkF m 11 #[vR a1, vI (Int32.ofNat us.length), vI p3] [(.int (55296 : Int32)), (.int (Int32.ofNat us.length)), (.ref a1)])
    refine Go.st (fun _ => XS.iloadN X1.here hx rfl (hb hby (dq dz10 15 11 rfl)) rfl) ?_
    refine Go.st (fun _ => XS.bipush X1.here hx rfl (hb hby (dq dz10 16 12 rfl))) ?_
    refine Go.st (fun _ => XS.iushr X1.here hx rfl (hb hby (dq dz10 17 14 rfl)) rfl) ?_
    refine Go.st (fun _ => XS.sipush X1.here hx rfl (hb hby (dq dz10 18 15 rfl))) ?_
    refine Go.st (fun _ => XS.iand X1.here hx rfl (hb hby (dq dz10 19 18 rfl)) rfl) ?_
    refine Go.st (fun _ => XS.ior X1.here hx rfl (hb hby (dq dz10 20 19 rfl)) rfl) ?_
    show Go _ _ _ _ _ _ _  T1 (mkF m 20 #[vR a1, vI (Int32.ofNat us.length), vI p3] [(.int ((55296 : Int32) ||| (((p3.toUInt32 >>> ((20 : Int32) &&& 31).toUInt32).toInt32) &&& (1023 : Int32)))), (.int (Int32.ofNat us.length)), (.ref a1)])
    refine Go.st (fun _ => XS.i2c X1.here hx rfl (hb hby (dq dz10 21 20 rfl)) rfl) ?_
    show Go _ _ _ _ _ _ _  T1 (mkF m 21 #[vR a1, vI (Int32.ofNat us.length), vI p3] [(.int (((55296 : Int32) ||| (((p3.toUInt32 >>> ((20 : Int32) &&& 31).toUInt32).toInt32) &&& (1023 : Int32))).toUInt32.toUInt16.toUInt32.toInt32)), (.int (Int32.ofNat us.length)), (.ref a1)])
    obtain ⟨cl6, Ar6, q6, S6, M6, Hh6, G6⟩ := A_a1
    obtain ⟨T7, h7, X7, e7, W7, st7⟩ := stC X1 hx hZ e1q Ar6 (j := (Int32.ofNat us.length)) (inb_of S6 ⟨own_onn (by omega), (own_olt (by omega) (by omega)).mpr (by omega)⟩) (g := (mkF m 21 #[vR a1, vI (Int32.ofNat us.length), vI p3] [(.int (((55296 : Int32) ||| (((p3.toUInt32 >>> ((20 : Int32) &&& 31).toUInt32).toInt32) &&& (1023 : Int32))).toUInt32.toUInt16.toUInt32.toInt32)), (.int (Int32.ofNat us.length)), (.ref a1)])) rfl rfl (hb hby (dq dz10 22 21 rfl))
    refine Go.st st7 ?_
    have A_a1 : Arv Z h7 a1 kc .char (Int32.ofNat nn) ((us.map Value.int) ++ [Value.int (nar .char (((55296 : Int32) ||| (((p3.toUInt32 >>> ((20 : Int32) &&& 31).toUInt32).toInt32) &&& (1023 : Int32))).toUInt32.toUInt16.toUInt32.toInt32))]) (.int 0) := own_push Ar6 q6 S6 M6 Hh6 G6 (fits_nar_char _) W7 (by rw [own_ocl (by omega)]; rw [List.length_map])
    rw [own_nc16] at A_a1
    have N7 := Fr.snoc X7 N1 g_a1
    have O := O.wr W7 g_a1
    have KK := KK.wr W7 (Or.inl (List.mem_of_getElem? (i := 0) rfl))
    have A_a1 : Arv Z h7 a1 kc .char (Int32.ofNat nn) ((us ++ [own_ph p3]).map Value.int) (.int 0) := by rw [← own_mv]; exact A_a1
    show Go _ _ _ _ _ _ _  T7 (mkF m 22 #[vR a1, vI (Int32.ofNat us.length), vI p3] [])
    refine Go.st (fun _ => XS.aloadN X7.here hx rfl (hb hby (dq dz10 23 22 rfl)) rfl rfl) ?_
    refine Go.st (fun _ => XS.iloadN X7.here hx rfl (hb hby (dq dz10 24 23 rfl)) rfl) ?_
    refine Go.st (fun _ => XS.iconst X7.here hx rfl (hb hby (dq dz10 25 24 rfl))) ?_
    refine Go.st (fun _ => XS.iadd X7.here hx rfl (hb hby (dq dz10 26 25 rfl)) rfl) ?_
    show Go _ _ _ _ _ _ _  T7 (mkF m 26 #[vR a1, vI (Int32.ofNat us.length), vI p3] [(.int ((Int32.ofNat us.length) + (1 : Int32))), (.ref a1)])
    rw [own_1inc us.length]
    show Go _ _ _ _ _ _ _  T7 (mkF m 26 #[vR a1, vI (Int32.ofNat us.length), vI p3] [(.int (Int32.ofNat (us.length + 1))), (.ref a1)])
    refine Go.st (X7.ldcInt hx hown (mvT hZ (hwi hw 221 rfl)) (g := (mkF m 26 #[vR a1, vI (Int32.ofNat us.length), vI p3] [(.int (Int32.ofNat (us.length + 1))), (.ref a1)])) rfl (hb hby (dq dz10 27 26 rfl))) ?_
    show Go _ _ _ _ _ _ _  T7 (mkF m 28 #[vR a1, vI (Int32.ofNat us.length), vI p3] [(.int (56320 : Int32)), (.int (Int32.ofNat (us.length + 1))), (.ref a1)])
    refine Go.st (fun _ => XS.iloadN X7.here hx rfl (hb hby (dq dz10 28 28 rfl)) rfl) ?_
    refine Go.st (fun _ => XS.sipush X7.here hx rfl (hb hby (dq dz10 29 29 rfl))) ?_
    refine Go.st (fun _ => XS.iand X7.here hx rfl (hb hby (dq dz10 30 32 rfl)) rfl) ?_
    refine Go.st (fun _ => XS.ior X7.here hx rfl (hb hby (dq dz10 31 33 rfl)) rfl) ?_
    refine Go.st (fun _ => XS.i2c X7.here hx rfl (hb hby (dq dz10 32 34 rfl)) rfl) ?_
    show Go _ _ _ _ _ _ _  T7 (mkF m 35 #[vR a1, vI (Int32.ofNat us.length), vI p3] [(.int (((56320 : Int32) ||| (p3 &&& (1023 : Int32))).toUInt32.toUInt16.toUInt32.toInt32)), (.int (Int32.ofNat (us.length + 1))), (.ref a1)])
    obtain ⟨cl8, Ar8, q8, S8, M8, Hh8, G8⟩ := A_a1
    obtain ⟨T9, h9, X9, e9, W9, st9⟩ := stC X7 hx hZ e7 Ar8 (j := (Int32.ofNat (us.length + 1))) (inb_of S8 ⟨own_onn (by omega), (own_olt (by omega) (by omega)).mpr (by omega)⟩) (g := (mkF m 35 #[vR a1, vI (Int32.ofNat us.length), vI p3] [(.int (((56320 : Int32) ||| (p3 &&& (1023 : Int32))).toUInt32.toUInt16.toUInt32.toInt32)), (.int (Int32.ofNat (us.length + 1))), (.ref a1)])) rfl rfl (hb hby (dq dz10 33 35 rfl))
    refine Go.st st9 ?_
    have A_a1 : Arv Z h9 a1 kc .char (Int32.ofNat nn) (((us ++ [own_ph p3]).map Value.int) ++ [Value.int (nar .char (((56320 : Int32) ||| (p3 &&& (1023 : Int32))).toUInt32.toUInt16.toUInt32.toInt32))]) (.int 0) := own_push Ar8 q8 S8 M8 Hh8 G8 (fits_nar_char _) W9 (by rw [own_ocl (by omega)]; rw [List.length_map, own_la1])
    rw [own_nc16] at A_a1
    have N9 := Fr.snoc X9 N7 g_a1
    have O := O.wr W9 g_a1
    have KK := KK.wr W9 (Or.inl (List.mem_of_getElem? (i := 0) rfl))
    have A_a1 : Arv Z h9 a1 kc .char (Int32.ofNat nn) ((us ++ [own_ph p3] ++ [own_pl p3]).map Value.int) (.int 0) := by rw [← own_mv]; exact A_a1
    show Go _ _ _ _ _ _ _  T9 (mkF m 36 #[vR a1, vI (Int32.ofNat us.length), vI p3] [])
    refine Go.st (fun _ => XS.iloadN X9.here hx rfl (hb hby (dq dz10 34 36 rfl)) rfl) ?_
    refine Go.st (fun _ => XS.iconst X9.here hx rfl (hb hby (dq dz10 35 37 rfl))) ?_
    refine Go.st (fun _ => XS.iadd X9.here hx rfl (hb hby (dq dz10 36 38 rfl)) rfl) ?_
    show Go _ _ _ _ _ _ _  T9 (mkF m 39 #[vR a1, vI (Int32.ofNat us.length), vI p3] [(.int ((Int32.ofNat us.length) + (2 : Int32)))])
    rw [own_oadd2 us.length]
    show Go _ _ _ _ _ _ _  T9 (mkF m 39 #[vR a1, vI (Int32.ofNat us.length), vI p3] [(.int (Int32.ofNat (us.length + 2)))])
    refine Go.retI X9 hlk hx Bd.returns (hb hby (dq dz10 37 39 rfl)) (by decide) (by decide) ?_
    show Q_rmPt Z _ _ _ _ _ h0 n0 _ T9.heap _
    rw [e9]
    exact ⟨by rw [eu]; rfl, N9, KK, (by rw [eu]; rw [show [own_ph p3, own_pl p3] = [own_ph p3] ++ [own_pl p3] from rfl, ← List.append_assoc]; exact A_a1)⟩
def Q_rmEm (Z : State) (a1 : Addr) (t : Addr) (kb : ClassId) (cs : List Int32) (h0 : Heap) (n0 : Nat) (v : Option Value) (h : Heap) (L : List Loc) : Prop := v = some (.int 0) ∧ Fr n0 L ∧ h = h0
theorem rmEm (l : Launch) (Z : State) (a0 : Array Value) (hw : HWt a0 Z) (ws : List Jvm.Cond) (a1 : Addr) (t : Addr) (kb : ClassId) (cs : List Int32) (h0 : Heap) (n0 : Nat) (O : Old Z n0 h0) (E_a1 : Exa Z h0 a1 "java/lang/String") (C_a1 : Fld Z h0 a1 "java/lang/String" "coder" "B" (.int (own_cd cs))) (V_a1 : Fld Z h0 a1 "java/lang/String" "value" "[B" (.ref t)) (A_t : Arv Z h0 t kb .byte (Int32.ofNat (own_by cs).length) ((own_by cs).map Value.int) (.int 0)) (h1 : 1 ≤ cs.length) (hn : cs.length < 1000) :
    Met l mY54 (Jvm.Cond.code mY54 jdk_42_method_55_code 1 (some .boolean) :: ws) rz0_0_0_0 #[(.ref a1)] Z h0 (Q_rmEm Z a1 t kb cs h0 n0) := by
  refine MetFree.of_bodySF (plainFor_of_name pn_13) hisR ?_
  intro p e s m args below meth c s₁ Bd hml0 hP hK
  obtain ⟨rfl, hZ, hh⟩ := hP
  have hx := Bd.exec
  have hby := Bd.bytes
  have hml : c.maxLocals = 1 := hml0
  have hown : s.vm.findClass "java/lang/String" = some m.cls := findClass_of_methodNamed Bd.named
  have hlk : meth.locks = false := BodyLoose.notSynchronized Bd
  have X0 : Stand p l e rz0_0_0_0 s m #[(.ref a1)] below meth c s₁ [] 0 0 := Stand.of_body Bd
  have e0 : s₁.heap = h0 := by rw [← hh, Bd.state]; rfl
  have N0 := Fr.nil n0
  show Go p e below s rz0_0_0_0.cells rz0_0_0_0.slots (Q_rmEm Z a1 t kb cs h0 n0) s₁ (entryFrame m #[(.ref a1)] 1)
  refine Go.eq (ef_rmEm m a1) ?_
  show Go _ _ _ _ _ _ _  s₁ (mkF m 0 #[vR a1] [])
  refine Go.st (fun _ => XS.aloadN X0.here hx rfl (hb hby (dq dz13 0 0 rfl)) rfl rfl) ?_
  show Go _ _ _ _ _ _ _  s₁ (mkF m 1 #[vR a1] [(.ref a1)])
  obtain ⟨T1, X1, e1, st1⟩ := getF X0 hx hZ hown (host := "") (Or.inl (hwi hw 32 rfl)) Via.refl e0 V_a1 (g := (mkF m 1 #[vR a1] [(.ref a1)])) rfl rfl (hb hby (dq dz13 1 1 rfl))
  refine Go.st st1 ?_
  show Go _ _ _ _ _ _ _  T1 (mkF m 4 #[vR a1] [(.ref t)])
  obtain ⟨cl2, Ar2, q2, S2, M2, Hh2, G2⟩ := id A_t
  refine Go.st (X1.arraylength hx (by rw [e1]; exact Ar2.1) (State.isArrayOf_alike hZ.alike Ar2.2.1) (g := (mkF m 4 #[vR a1] [(.ref t)])) rfl rfl (hb hby (dq dz13 2 4 rfl))) ?_
  rw [len_of S2 M2]
  show Go _ _ _ _ _ _ _  T1 (mkF m 5 #[vR a1] [(.int (Int32.ofNat (own_by cs).length))])
  refine Go.st (fun _ => XS.ifYes X1.here hx rfl (pc0 := 5) (pc' := 12) rfl (hb hby (dq dz13 3 5 rfl)) rfl ((if0 _ _).trans (feq (own_bye h1 hn : ¬ ((Int32.ofNat (own_by cs).length) = (0 : Int32)))).2) (by decide) (by decide)) ?_
  show Go _ _ _ _ _ _ _  T1 (mkF m 12 #[vR a1] [])
  refine Go.st (fun _ => XS.iconst X1.here hx rfl (hb hby (dq dz13 4 12 rfl))) ?_
  show Go _ _ _ _ _ _ _  T1 (mkF m 13 #[vR a1] [(.int (0 : Int32))])
  refine Go.retN X1 hlk hx (t := .boolean) (z' := (0 : Int32)) Bd.returns (by simp) (hb hby (dq dz13 5 13 rfl)) (by decide) (by decide) rfl ?_
  show Q_rmEm Z _ _ _ _ h0 n0 _ T1.heap _
  rw [e1]
  exact ⟨rfl, N0, rfl⟩
def Q_rmU8 (Z : State) (p1 : Int32) (h0 : Heap) (n0 : Nat) (v : Option Value) (h : Heap) (L : List Loc) : Prop := v = some (.int (Int32.ofNat (own_u8 p1))) ∧ Fr n0 L ∧ h = h0
theorem rmU8 (l : Launch) (Z : State) (a0 : Array Value) (hw : HWt a0 Z) (ws : List Jvm.Cond) (p1 : Int32) (h0 : Heap) (n0 : Nat) (O : Old Z n0 h0) :
    Met l mY55 (Jvm.Cond.code mY55 prog_4_method_5_code 2 (some .int) :: ws) rz0_0_0_0 #[(.int p1)] Z h0 (Q_rmU8 Z p1 h0 n0) := by
  refine MetFree.of_bodySF (plainFor_of_name pn_20) hisR ?_
  intro p e s m args below meth c s₁ Bd hml0 hP hK
  obtain ⟨rfl, hZ, hh⟩ := hP
  have hx := Bd.exec
  have hby := Bd.bytes
  have hml : c.maxLocals = 2 := hml0
  have hown : s.vm.findClass "com/example/oplim/oplim/Keys" = some m.cls := findClass_of_methodNamed Bd.named
  have hlk : meth.locks = false := BodyLoose.notSynchronized Bd
  have X0 : Stand p l e rz0_0_0_0 s m #[(.int p1)] below meth c s₁ [] 0 0 := Stand.of_body Bd
  have e0 : s₁.heap = h0 := by rw [← hh, Bd.state]; rfl
  have N0 := Fr.nil n0
  show Go p e below s rz0_0_0_0.cells rz0_0_0_0.slots (Q_rmU8 Z p1 h0 n0) s₁ (entryFrame m #[(.int p1)] 2)
  refine Go.eq (ef_rmU8 m p1) ?_
  show Go _ _ _ _ _ _ _  s₁ (mkF m 0 #[vI p1, uS] [])
  refine Go.st (fun _ => XS.iloadN X0.here hx rfl (hb hby (dq dz20 0 0 rfl)) rfl) ?_
  refine Go.st (fun _ => XS.sipush X0.here hx rfl (hb hby (dq dz20 1 1 rfl))) ?_
  show Go _ _ _ _ _ _ _  s₁ (mkF m 4 #[vI p1, uS] [(.int (128 : Int32)), (.int p1)])
  by_cases c4_1 : p1 < (128 : Int32)
  · refine Go.st (fun _ => XS.icmpNo X0.here hx rfl (hb hby (dq dz20 2 4 rfl)) rfl (tlt c4_1).2.1) ?_
    show Go _ _ _ _ _ _ _  s₁ (mkF m 7 #[vI p1, uS] [])
    refine Go.st (fun _ => XS.iconst X0.here hx rfl (hb hby (dq dz20 3 7 rfl))) ?_
    refine Go.st (fun _ => XS.istoreN X0.here hx rfl (hb hby (dq dz20 4 8 rfl)) rfl (l' := #[vI p1, vI (1 : Int32)]) rfl) ?_
    refine Go.st (fun _ => XS.goto X0.here hx rfl (pc0 := 9) (pc' := 37) rfl (hb hby (dq dz20 5 9 rfl)) (by decide) (by decide)) ?_
    refine Go.st (fun _ => XS.iloadN X0.here hx rfl (hb hby (dq dz20 6 37 rfl)) rfl) ?_
    show Go _ _ _ _ _ _ _  s₁ (mkF m 38 #[vI p1, vI (1 : Int32)] [(.int (1 : Int32))])
    refine Go.retI X0 hlk hx Bd.returns (hb hby (dq dz20 7 38 rfl)) (by decide) (by decide) ?_
    show Q_rmU8 Z _ h0 n0 _ s₁.heap _
    rw [e0]
    exact ⟨by rw [own_u8, if_pos c4_1]; rfl, N0, rfl⟩
  · refine Go.st (fun _ => XS.icmpYes X0.here hx rfl (pc0 := 4) (pc' := 12) rfl (hb hby (dq dz20 2 4 rfl)) rfl (flt c4_1).2.1 (by decide) (by decide)) ?_
    show Go _ _ _ _ _ _ _  s₁ (mkF m 12 #[vI p1, uS] [])
    refine Go.st (fun _ => XS.iloadN X0.here hx rfl (hb hby (dq dz20 8 12 rfl)) rfl) ?_
    refine Go.st (fun _ => XS.sipush X0.here hx rfl (hb hby (dq dz20 9 13 rfl))) ?_
    show Go _ _ _ _ _ _ _  s₁ (mkF m 16 #[vI p1, uS] [(.int (2048 : Int32)), (.int p1)])
    by_cases c16_2 : p1 < (2048 : Int32)
    · refine Go.st (fun _ => XS.icmpNo X0.here hx rfl (hb hby (dq dz20 10 16 rfl)) rfl (tlt c16_2).2.1) ?_
      show Go _ _ _ _ _ _ _  s₁ (mkF m 19 #[vI p1, uS] [])
      refine Go.st (fun _ => XS.iconst X0.here hx rfl (hb hby (dq dz20 11 19 rfl))) ?_
      refine Go.st (fun _ => XS.istoreN X0.here hx rfl (hb hby (dq dz20 12 20 rfl)) rfl (l' := #[vI p1, vI (2 : Int32)]) rfl) ?_
      refine Go.st (fun _ => XS.goto X0.here hx rfl (pc0 := 21) (pc' := 37) rfl (hb hby (dq dz20 13 21 rfl)) (by decide) (by decide)) ?_
      refine Go.st (fun _ => XS.iloadN X0.here hx rfl (hb hby (dq dz20 6 37 rfl)) rfl) ?_
      show Go _ _ _ _ _ _ _  s₁ (mkF m 38 #[vI p1, vI (2 : Int32)] [(.int (2 : Int32))])
      refine Go.retI X0 hlk hx Bd.returns (hb hby (dq dz20 7 38 rfl)) (by decide) (by decide) ?_
      show Q_rmU8 Z _ h0 n0 _ s₁.heap _
      rw [e0]
      exact ⟨by rw [own_u8, if_neg c4_1, if_pos c16_2]; rfl, N0, rfl⟩
    · refine Go.st (fun _ => XS.icmpYes X0.here hx rfl (pc0 := 16) (pc' := 24) rfl (hb hby (dq dz20 10 16 rfl)) rfl (flt c16_2).2.1 (by decide) (by decide)) ?_
      show Go _ _ _ _ _ _ _  s₁ (mkF m 24 #[vI p1, uS] [])
      refine Go.st (fun _ => XS.iloadN X0.here hx rfl (hb hby (dq dz20 14 24 rfl)) rfl) ?_
      show Go _ _ _ _ _ _ _  s₁ (mkF m 25 #[vI p1, uS] [(.int p1)])
      refine Go.st (X0.ldcInt hx hown (mvT hZ (hwi hw 262 rfl)) (g := (mkF m 25 #[vI p1, uS] [(.int p1)])) rfl (hb hby (dq dz20 15 25 rfl))) ?_
      show Go _ _ _ _ _ _ _  s₁ (mkF m 27 #[vI p1, uS] [(.int (65536 : Int32)), (.int p1)])
      by_cases c27_3 : p1 < (65536 : Int32)
      · refine Go.st (fun _ => XS.icmpNo X0.here hx rfl (hb hby (dq dz20 16 27 rfl)) rfl (tlt c27_3).2.1) ?_
        show Go _ _ _ _ _ _ _  s₁ (mkF m 30 #[vI p1, uS] [])
        refine Go.st (fun _ => XS.iconst X0.here hx rfl (hb hby (dq dz20 17 30 rfl))) ?_
        refine Go.st (fun _ => XS.istoreN X0.here hx rfl (hb hby (dq dz20 18 31 rfl)) rfl (l' := #[vI p1, vI (3 : Int32)]) rfl) ?_
        refine Go.st (fun _ => XS.goto X0.here hx rfl (pc0 := 32) (pc' := 37) rfl (hb hby (dq dz20 19 32 rfl)) (by decide) (by decide)) ?_
        refine Go.st (fun _ => XS.iloadN X0.here hx rfl (hb hby (dq dz20 6 37 rfl)) rfl) ?_
        show Go _ _ _ _ _ _ _  s₁ (mkF m 38 #[vI p1, vI (3 : Int32)] [(.int (3 : Int32))])
        refine Go.retI X0 hlk hx Bd.returns (hb hby (dq dz20 7 38 rfl)) (by decide) (by decide) ?_
        show Q_rmU8 Z _ h0 n0 _ s₁.heap _
        rw [e0]
        exact ⟨by rw [own_u8, if_neg c4_1, if_neg c16_2, if_pos c27_3]; rfl, N0, rfl⟩
      · refine Go.st (fun _ => XS.icmpYes X0.here hx rfl (pc0 := 27) (pc' := 35) rfl (hb hby (dq dz20 16 27 rfl)) rfl (flt c27_3).2.1 (by decide) (by decide)) ?_
        show Go _ _ _ _ _ _ _  s₁ (mkF m 35 #[vI p1, uS] [])
        refine Go.st (fun _ => XS.iconst X0.here hx rfl (hb hby (dq dz20 20 35 rfl))) ?_
        refine Go.st (fun _ => XS.istoreN X0.here hx rfl (hb hby (dq dz20 21 36 rfl)) rfl (l' := #[vI p1, vI (4 : Int32)]) rfl) ?_
        refine Go.st (fun _ => XS.iloadN X0.here hx rfl (hb hby (dq dz20 6 37 rfl)) rfl) ?_
        show Go _ _ _ _ _ _ _  s₁ (mkF m 38 #[vI p1, vI (4 : Int32)] [(.int (4 : Int32))])
        refine Go.retI X0 hlk hx Bd.returns (hb hby (dq dz20 7 38 rfl)) (by decide) (by decide) ?_
        show Q_rmU8 Z _ h0 n0 _ s₁.heap _
        rw [e0]
        exact ⟨by rw [own_u8, if_neg c4_1, if_neg c16_2, if_neg c27_3]; rfl, N0, rfl⟩
def Q_rmCC (Z : State) (p1 : Int32) (h0 : Heap) (n0 : Nat) (v : Option Value) (h : Heap) (L : List Loc) : Prop := v = some (.int (Int32.ofNat (own_cc p1))) ∧ Fr n0 L ∧ h = h0
theorem rmCC (l : Launch) (Z : State) (a0 : Array Value) (hw : HWt a0 Z) (ws : List Jvm.Cond) (p1 : Int32) (h0 : Heap) (n0 : Nat) (O : Old Z n0 h0) :
    Met l mY56 (Jvm.Cond.code mY56 jdk_89_method_18_code 1 (some .int) :: ws) rz0_0_0_0 #[(.int p1)] Z h0 (Q_rmCC Z p1 h0 n0) := by
  refine MetFree.of_bodySF (plainFor_of_name pn_21) hisR ?_
  intro p e s m args below meth c s₁ Bd hml0 hP hK
  obtain ⟨rfl, hZ, hh⟩ := hP
  have hx := Bd.exec
  have hby := Bd.bytes
  have hml : c.maxLocals = 1 := hml0
  have hown : s.vm.findClass "java/lang/Character" = some m.cls := findClass_of_methodNamed Bd.named
  have hlk : meth.locks = false := BodyLoose.notSynchronized Bd
  have X0 : Stand p l e rz0_0_0_0 s m #[(.int p1)] below meth c s₁ [] 0 0 := Stand.of_body Bd
  have e0 : s₁.heap = h0 := by rw [← hh, Bd.state]; rfl
  have N0 := Fr.nil n0
  show Go p e below s rz0_0_0_0.cells rz0_0_0_0.slots (Q_rmCC Z p1 h0 n0) s₁ (entryFrame m #[(.int p1)] 1)
  refine Go.eq (ef_rmCC m p1) ?_
  show Go _ _ _ _ _ _ _  s₁ (mkF m 0 #[vI p1] [])
  refine Go.st (fun _ => XS.iloadN X0.here hx rfl (hb hby (dq dz21 0 0 rfl)) rfl) ?_
  show Go _ _ _ _ _ _ _  s₁ (mkF m 1 #[vI p1] [(.int p1)])
  refine Go.st (X0.ldcInt hx hown (mvT hZ (hwi hw 93 rfl)) (g := (mkF m 1 #[vI p1] [(.int p1)])) rfl (hb hby (dq dz21 1 1 rfl))) ?_
  show Go _ _ _ _ _ _ _  s₁ (mkF m 3 #[vI p1] [(.int (65536 : Int32)), (.int p1)])
  by_cases c3_1 : p1 < (65536 : Int32)
  · refine Go.st (fun _ => XS.icmpYes X0.here hx rfl (pc0 := 3) (pc' := 10) rfl (hb hby (dq dz21 2 3 rfl)) rfl (tlt c3_1).1 (by decide) (by decide)) ?_
    show Go _ _ _ _ _ _ _  s₁ (mkF m 10 #[vI p1] [])
    refine Go.st (fun _ => XS.iconst X0.here hx rfl (hb hby (dq dz21 3 10 rfl))) ?_
    show Go _ _ _ _ _ _ _  s₁ (mkF m 11 #[vI p1] [(.int (1 : Int32))])
    refine Go.retI X0 hlk hx Bd.returns (hb hby (dq dz21 4 11 rfl)) (by decide) (by decide) ?_
    show Q_rmCC Z _ h0 n0 _ s₁.heap _
    rw [e0]
    exact ⟨by rw [own_cc, if_pos c3_1]; rfl, N0, rfl⟩
  · refine Go.st (fun _ => XS.icmpNo X0.here hx rfl (hb hby (dq dz21 2 3 rfl)) rfl (flt c3_1).1) ?_
    show Go _ _ _ _ _ _ _  s₁ (mkF m 6 #[vI p1] [])
    refine Go.st (fun _ => XS.iconst X0.here hx rfl (hb hby (dq dz21 5 6 rfl))) ?_
    refine Go.st (fun _ => XS.goto X0.here hx rfl (pc0 := 7) (pc' := 11) rfl (hb hby (dq dz21 6 7 rfl)) (by decide) (by decide)) ?_
    show Go _ _ _ _ _ _ _  s₁ (mkF m 11 #[vI p1] [(.int (2 : Int32))])
    refine Go.retI X0 hlk hx Bd.returns (hb hby (dq dz21 4 11 rfl)) (by decide) (by decide) ?_
    show Q_rmCC Z _ h0 n0 _ s₁.heap _
    rw [e0]
    exact ⟨by rw [own_cc, if_neg c3_1]; rfl, N0, rfl⟩
def Q_rmTcp (Z : State) (p1 : Int32) (p2 : Int32) (h0 : Heap) (n0 : Nat) (v : Option Value) (h : Heap) (L : List Loc) : Prop := v = some (.int (own_tcp p1 p2)) ∧ Fr n0 L ∧ h = h0
theorem rmTcp (l : Launch) (Z : State) (a0 : Array Value) (hw : HWt a0 Z) (ws : List Jvm.Cond) (p1 : Int32) (p2 : Int32) (h0 : Heap) (n0 : Nat) (O : Old Z n0 h0) :
    Met l mY57 (Jvm.Cond.code mY57 jdk_89_method_19_code 2 (some .int) :: ws) rz0_0_0_0 #[(.int p1), (.int p2)] Z h0 (Q_rmTcp Z p1 p2 h0 n0) := by
  refine MetFree.of_bodySF (plainFor_of_name pn_55) hisR ?_
  intro p e s m args below meth c s₁ Bd hml0 hP hK
  obtain ⟨rfl, hZ, hh⟩ := hP
  have hx := Bd.exec
  have hby := Bd.bytes
  have hml : c.maxLocals = 2 := hml0
  have hown : s.vm.findClass "java/lang/Character" = some m.cls := findClass_of_methodNamed Bd.named
  have hlk : meth.locks = false := BodyLoose.notSynchronized Bd
  have X0 : Stand p l e rz0_0_0_0 s m #[(.int p1), (.int p2)] below meth c s₁ [] 0 0 := Stand.of_body Bd
  have e0 : s₁.heap = h0 := by rw [← hh, Bd.state]; rfl
  have N0 := Fr.nil n0
  show Go p e below s rz0_0_0_0.cells rz0_0_0_0.slots (Q_rmTcp Z p1 p2 h0 n0) s₁ (entryFrame m #[(.int p1), (.int p2)] 2)
  refine Go.eq (ef_rmTcp m p1 p2) ?_
  show Go _ _ _ _ _ _ _  s₁ (mkF m 0 #[vI p1, vI p2] [])
  refine Go.st (fun _ => XS.iloadN X0.here hx rfl (hb hby (dq dz55 0 0 rfl)) rfl) ?_
  refine Go.st (fun _ => XS.bipush X0.here hx rfl (hb hby (dq dz55 1 1 rfl))) ?_
  refine Go.st (fun _ => XS.ishl X0.here hx rfl (hb hby (dq dz55 2 3 rfl)) rfl) ?_
  refine Go.st (fun _ => XS.iloadN X0.here hx rfl (hb hby (dq dz55 3 4 rfl)) rfl) ?_
  refine Go.st (fun _ => XS.iadd X0.here hx rfl (hb hby (dq dz55 4 5 rfl)) rfl) ?_
  show Go _ _ _ _ _ _ _  s₁ (mkF m 6 #[vI p1, vI p2] [(.int ((p1 <<< ((10 : Int32) &&& 31)) + p2))])
  refine Go.st (X0.ldcInt hx hown (mvT hZ (hwi hw 260 rfl)) (g := (mkF m 6 #[vI p1, vI p2] [(.int ((p1 <<< ((10 : Int32) &&& 31)) + p2))])) rfl (hb hby (dq dz55 5 6 rfl))) ?_
  show Go _ _ _ _ _ _ _  s₁ (mkF m 8 #[vI p1, vI p2] [(.int (-56613888 : Int32)), (.int ((p1 <<< ((10 : Int32) &&& 31)) + p2))])
  refine Go.st (fun _ => XS.iadd X0.here hx rfl (hb hby (dq dz55 6 8 rfl)) rfl) ?_
  show Go _ _ _ _ _ _ _  s₁ (mkF m 9 #[vI p1, vI p2] [(.int (((p1 <<< ((10 : Int32) &&& 31)) + p2) + (-56613888 : Int32)))])
  refine Go.retI X0 hlk hx Bd.returns (hb hby (dq dz55 7 9 rfl)) (by decide) (by decide) ?_
  show Q_rmTcp Z _ _ h0 n0 _ s₁.heap _
  rw [e0]
  exact ⟨rfl, N0, rfl⟩
def Q_rmCpz (Z : State) (a1 : Addr) (kb : ClassId) (cs : List Int32) (i : Nat) (h0 : Heap) (n0 : Nat) (v : Option Value) (h : Heap) (L : List Loc) : Prop := v = some (.int (own_cpa cs i)) ∧ Fr n0 L ∧ h = h0
theorem rmCpz (l : Launch) (Z : State) (a0 : Array Value) (hw : HWt a0 Z) (ws : List Jvm.Cond) (a1 : Addr) (kb : ClassId) (cs : List Int32) (i : Nat) (h0 : Heap) (n0 : Nat) (O : Old Z n0 h0) (S_ad : Sta Z Z.heap "java/lang/StringUTF16" "$assertionsDisabled" "Z" (.int 1)) (S_hi : Sta Z Z.heap "java/lang/StringUTF16" "HI_BYTE_SHIFT" "I" (.int 0)) (S_lo : Sta Z Z.heap "java/lang/StringUTF16" "LO_BYTE_SHIFT" "I" (.int 8)) (A_a1 : Arv Z h0 a1 kb .byte (Int32.ofNat (2 * cs.length)) ((own_ub cs).map Value.int) (.int 0)) (hn : cs.length ≤ 34) (hi : i < cs.length) (hr : ∀ j, j < cs.length → nar .char (cs.getD j 0) = cs.getD j 0) :
    Met l mY58 (Jvm.Cond.code mY58 jdk_52_method_7_code 6 (some .int) :: ws) rz1_0_0_13 #[(.ref a1), (.int (Int32.ofNat i)), (.int (Int32.ofNat cs.length)), (.int (0 : Int32))] Z h0 (Q_rmCpz Z a1 kb cs i h0 n0) := by
  refine MetFree.of_bodySF (plainFor_of_name pn_52) hisR ?_
  intro p e s m args below meth c s₁ Bd hml0 hP hK
  obtain ⟨rfl, hZ, hh⟩ := hP
  have hx := Bd.exec
  have hby := Bd.bytes
  have hml : c.maxLocals = 6 := hml0
  have hown : s.vm.findClass "java/lang/StringUTF16" = some m.cls := findClass_of_methodNamed Bd.named
  have hlk : meth.locks = false := BodyLoose.notSynchronized Bd
  have X0 : Stand p l e rz1_0_0_13 s m #[(.ref a1), (.int (Int32.ofNat i)), (.int (Int32.ofNat cs.length)), (.int (0 : Int32))] below meth c s₁ [] 0 0 := Stand.of_body Bd
  have e0 : s₁.heap = h0 := by rw [← hh, Bd.state]; rfl
  have N0 := Fr.nil n0
  show Go p e below s rz1_0_0_13.cells rz1_0_0_13.slots (Q_rmCpz Z a1 kb cs i h0 n0) s₁ (entryFrame m #[(.ref a1), (.int (Int32.ofNat i)), (.int (Int32.ofNat cs.length)), (.int (0 : Int32))] 6)
  refine Go.eq (ef_rmCpz m a1 (Int32.ofNat i) (Int32.ofNat cs.length) (0 : Int32)) ?_
  show Go _ _ _ _ _ _ _  s₁ (mkF m 0 #[vR a1, vI (Int32.ofNat i), vI (Int32.ofNat cs.length), vI (0 : Int32), uS, uS] [])
  obtain ⟨T1, X1, e1, st1⟩ := getS2 X0 hx hZ hown (host := "") (Or.inl (hwi hw 236 rfl)) Via.refl e0 (S_ad.ext O.2) (g := (mkF m 0 #[vR a1, vI (Int32.ofNat i), vI (Int32.ofNat cs.length), vI (0 : Int32), uS, uS] [])) rfl (hb hby (dq dz52 0 0 rfl))
  refine Go.st st1 ?_
  show Go _ _ _ _ _ _ _  T1 (mkF m 3 #[vR a1, vI (Int32.ofNat i), vI (Int32.ofNat cs.length), vI (0 : Int32), uS, uS] [(.int (1 : Int32))])
  refine Go.st (fun _ => XS.ifYes X1.here hx rfl (pc0 := 3) (pc' := 19) rfl (hb hby (dq dz52 1 3 rfl)) rfl ((if0 _ _).trans (feq (by decide : ¬ ((1 : Int32) = (0 : Int32)))).2) (by decide) (by decide)) ?_
  show Go _ _ _ _ _ _ _  T1 (mkF m 19 #[vR a1, vI (Int32.ofNat i), vI (Int32.ofNat cs.length), vI (0 : Int32), uS, uS] [])
  refine Go.st (fun _ => XS.iloadN X1.here hx rfl (hb hby (dq dz52 2 19 rfl)) rfl) ?_
  show Go _ _ _ _ _ _ _  T1 (mkF m 20 #[vR a1, vI (Int32.ofNat i), vI (Int32.ofNat cs.length), vI (0 : Int32), uS, uS] [(.int (0 : Int32))])
  refine Go.st (fun _ => XS.ifYes X1.here hx rfl (pc0 := 20) (pc' := 28) rfl (hb hby (dq dz52 3 20 rfl)) rfl ((if0 _ _).trans (teq (rfl : (0 : Int32) = (0 : Int32))).1) (by decide) (by decide)) ?_
  show Go _ _ _ _ _ _ _  T1 (mkF m 28 #[vR a1, vI (Int32.ofNat i), vI (Int32.ofNat cs.length), vI (0 : Int32), uS, uS] [])
  refine Go.st (fun _ => XS.aloadN X1.here hx rfl (hb hby (dq dz52 4 28 rfl)) rfl rfl) ?_
  refine Go.st (fun _ => XS.iloadN X1.here hx rfl (hb hby (dq dz52 5 29 rfl)) rfl) ?_
  show Go _ _ _ _ _ _ _  T1 (mkF m 30 #[vR a1, vI (Int32.ofNat i), vI (Int32.ofNat cs.length), vI (0 : Int32), uS, uS] [(.int (Int32.ofNat i)), (.ref a1)])
  refine Go.pureS (w := (some (.int (cs.getD i 0)))) (rest := []) (pc' := 33) (Jvm.LawKit.callS X1 hx (y := mY32) hown (mvT hZ (hwi hw 239 rfl)) (mvT hZ (hwi hw 240 rfl)) (mvT hZ (hwi hw 21 rfl)) (mvT hZ (hwi hw 241 rfl)) (by decide) (backOf (W := 0) (rmGetC l Z a0 hw [] a1 kb cs i h0 n0 O S_ad S_hi S_lo A_a1 hn hi (hr _ hi)) hZ (hwi hw 241 rfl) (hwi hw 21 rfl) (by decide) (by decide)) (g := (mkF m 30 #[vR a1, vI (Int32.ofNat i), vI (Int32.ofNat cs.length), vI (0 : Int32), uS, uS] [(.int (Int32.ofNat i)), (.ref a1)])) rfl (by rw [hml]; rfl) (argsL := [(.ref a1), (.int (Int32.ofNat i))]) (rest := []) (lenOf pd___BI_C rfl) rfl (by show 2 * 0 + _ ≤ _; exact Nat.le_of_eq rfl) (hb hby (dq dz52 6 30 rfl)) (fun _ _ => ⟨rfl, e1, (by decide : 0 + 0 ≤ _), (by decide : 0 + 0 ≤ _)⟩)) (fun _ _ _ q => q) N0 (fun T2 L2 X2 e2q N2 => ?_)
  show Go _ _ _ _ _ _ _  T2 (mkF m 33 #[vR a1, vI (Int32.ofNat i), vI (Int32.ofNat cs.length), vI (0 : Int32), uS, uS] [(.int (cs.getD i 0))])
  refine Go.st (fun _ => XS.istore X2.here hx rfl (hb hby (dq dz52 7 33 rfl)) rfl (l' := #[vR a1, vI (Int32.ofNat i), vI (Int32.ofNat cs.length), vI (0 : Int32), vI (cs.getD i 0), uS]) rfl) ?_
  refine Go.st (fun _ => XS.iload X2.here hx rfl (hb hby (dq dz52 8 35 rfl)) rfl) ?_
  show Go _ _ _ _ _ _ _  T2 (mkF m 37 #[vR a1, vI (Int32.ofNat i), vI (Int32.ofNat cs.length), vI (0 : Int32), vI (cs.getD i 0), uS] [(.int (cs.getD i 0))])
  refine Go.pureS (w := (some (.int (own_hs (cs.getD i 0))))) (rest := []) (pc' := 40) (Jvm.LawKit.callS X2 hx (y := mY38) hown (mvT hZ (hwi hw 248 rfl)) (mvT hZ (hwi hw 249 rfl)) (mvT hZ (hwi hw 91 rfl)) (mvT hZ (hwi hw 250 rfl)) (by decide) (backOf (W := 0) (rmHs l Z a0 hw [] (cs.getD i 0) h0 n0 O) hZ (hwi hw 250 rfl) (hwi hw 91 rfl) (by decide) (by decide)) (g := (mkF m 37 #[vR a1, vI (Int32.ofNat i), vI (Int32.ofNat cs.length), vI (0 : Int32), vI (cs.getD i 0), uS] [(.int (cs.getD i 0))])) rfl (by rw [hml]; rfl) (argsL := [(.int (cs.getD i 0))]) (rest := []) (lenOf pd__C_Z rfl) rfl (by show 2 * 0 + _ ≤ _; exact Nat.le_of_eq rfl) (hb hby (dq dz52 9 37 rfl)) (fun _ _ => ⟨rfl, e2q, (by decide : 0 + 0 ≤ _), (by decide : 0 + 0 ≤ _)⟩)) (fun _ _ _ q => q) N2 (fun T3 L3 X3 e3q N3 => ?_)
  show Go _ _ _ _ _ _ _  T3 (mkF m 40 #[vR a1, vI (Int32.ofNat i), vI (Int32.ofNat cs.length), vI (0 : Int32), vI (cs.getD i 0), uS] [(.int (own_hs (cs.getD i 0)))])
  by_cases c40_4 : (own_hs (cs.getD i 0)) = (0 : Int32)
  · refine Go.st (fun _ => XS.ifYes X3.here hx rfl (pc0 := 40) (pc' := 83) rfl (hb hby (dq dz52 10 40 rfl)) rfl ((if0 _ _).trans (teq c40_4).1) (by decide) (by decide)) ?_
    show Go _ _ _ _ _ _ _  T3 (mkF m 83 #[vR a1, vI (Int32.ofNat i), vI (Int32.ofNat cs.length), vI (0 : Int32), vI (cs.getD i 0), uS] [])
    refine Go.st (fun _ => XS.iload X3.here hx rfl (hb hby (dq dz52 11 83 rfl)) rfl) ?_
    show Go _ _ _ _ _ _ _  T3 (mkF m 85 #[vR a1, vI (Int32.ofNat i), vI (Int32.ofNat cs.length), vI (0 : Int32), vI (cs.getD i 0), uS] [(.int (cs.getD i 0))])
    refine Go.retI X3 hlk hx Bd.returns (hb hby (dq dz52 12 85 rfl)) (by decide) (by decide) ?_
    show Q_rmCpz Z _ _ _ _ h0 n0 _ T3.heap _
    rw [e3q]
    exact ⟨by rw [own_cpa, if_neg (fun z => z.1 c40_4)], N3, rfl⟩
  · refine Go.st (fun _ => XS.ifNo X3.here hx rfl (hb hby (dq dz52 10 40 rfl)) rfl ((if0 _ _).trans (feq c40_4).1)) ?_
    show Go _ _ _ _ _ _ _  T3 (mkF m 43 #[vR a1, vI (Int32.ofNat i), vI (Int32.ofNat cs.length), vI (0 : Int32), vI (cs.getD i 0), uS] [])
    refine Go.st (fun _ => XS.iinc X3.here hx rfl (hb hby (dq dz52 13 43 rfl)) rfl (l' := #[vR a1, vI ((Int32.ofNat i) + (1 : Int32)), vI (Int32.ofNat cs.length), vI (0 : Int32), vI (cs.getD i 0), uS]) rfl) ?_
    show Go _ _ _ _ _ _ _  T3 (mkF m 46 #[vR a1, vI ((Int32.ofNat i) + (1 : Int32)), vI (Int32.ofNat cs.length), vI (0 : Int32), vI (cs.getD i 0), uS] [])
    rw [own_1inc]
    show Go _ _ _ _ _ _ _  T3 (mkF m 46 #[vR a1, vI (Int32.ofNat (i + 1)), vI (Int32.ofNat cs.length), vI (0 : Int32), vI (cs.getD i 0), uS] [])
    refine Go.st (fun _ => XS.iloadN X3.here hx rfl (hb hby (dq dz52 14 46 rfl)) rfl) ?_
    refine Go.st (fun _ => XS.iloadN X3.here hx rfl (hb hby (dq dz52 15 47 rfl)) rfl) ?_
    show Go _ _ _ _ _ _ _  T3 (mkF m 48 #[vR a1, vI (Int32.ofNat (i + 1)), vI (Int32.ofNat cs.length), vI (0 : Int32), vI (cs.getD i 0), uS] [(.int (Int32.ofNat cs.length)), (.int (Int32.ofNat (i + 1)))])
    by_cases c48_5 : (Int32.ofNat (i + 1)) < (Int32.ofNat cs.length)
    · refine Go.st (fun _ => XS.icmpNo X3.here hx rfl (hb hby (dq dz52 16 48 rfl)) rfl (tlt c48_5).2.1) ?_
      show Go _ _ _ _ _ _ _  T3 (mkF m 51 #[vR a1, vI (Int32.ofNat (i + 1)), vI (Int32.ofNat cs.length), vI (0 : Int32), vI (cs.getD i 0), uS] [])
      refine Go.st (fun _ => XS.iloadN X3.here hx rfl (hb hby (dq dz52 17 51 rfl)) rfl) ?_
      show Go _ _ _ _ _ _ _  T3 (mkF m 52 #[vR a1, vI (Int32.ofNat (i + 1)), vI (Int32.ofNat cs.length), vI (0 : Int32), vI (cs.getD i 0), uS] [(.int (0 : Int32))])
      refine Go.st (fun _ => XS.ifYes X3.here hx rfl (pc0 := 52) (pc' := 60) rfl (hb hby (dq dz52 18 52 rfl)) rfl ((if0 _ _).trans (teq (rfl : (0 : Int32) = (0 : Int32))).1) (by decide) (by decide)) ?_
      show Go _ _ _ _ _ _ _  T3 (mkF m 60 #[vR a1, vI (Int32.ofNat (i + 1)), vI (Int32.ofNat cs.length), vI (0 : Int32), vI (cs.getD i 0), uS] [])
      refine Go.st (fun _ => XS.aloadN X3.here hx rfl (hb hby (dq dz52 19 60 rfl)) rfl rfl) ?_
      refine Go.st (fun _ => XS.iloadN X3.here hx rfl (hb hby (dq dz52 20 61 rfl)) rfl) ?_
      show Go _ _ _ _ _ _ _  T3 (mkF m 62 #[vR a1, vI (Int32.ofNat (i + 1)), vI (Int32.ofNat cs.length), vI (0 : Int32), vI (cs.getD i 0), uS] [(.int (Int32.ofNat (i + 1))), (.ref a1)])
      refine Go.pureS (w := (some (.int (cs.getD (i + 1) 0)))) (rest := []) (pc' := 65) (Jvm.LawKit.callS X3 hx (y := mY32) hown (mvT hZ (hwi hw 239 rfl)) (mvT hZ (hwi hw 240 rfl)) (mvT hZ (hwi hw 21 rfl)) (mvT hZ (hwi hw 241 rfl)) (by decide) (backOf (W := 0) (rmGetC l Z a0 hw [] a1 kb cs (i + 1) h0 n0 O S_ad S_hi S_lo A_a1 hn ((own_olt (by omega) (by omega)).mp c48_5) (hr _ ((own_olt (by omega) (by omega)).mp c48_5))) hZ (hwi hw 241 rfl) (hwi hw 21 rfl) (by decide) (by decide)) (g := (mkF m 62 #[vR a1, vI (Int32.ofNat (i + 1)), vI (Int32.ofNat cs.length), vI (0 : Int32), vI (cs.getD i 0), uS] [(.int (Int32.ofNat (i + 1))), (.ref a1)])) rfl (by rw [hml]; rfl) (argsL := [(.ref a1), (.int (Int32.ofNat (i + 1)))]) (rest := []) (lenOf pd___BI_C rfl) rfl (by show 2 * 0 + _ ≤ _; exact Nat.le_of_eq rfl) (hb hby (dq dz52 21 62 rfl)) (fun _ _ => ⟨rfl, e3q, (by decide : 0 + 0 ≤ _), (by decide : 0 + 0 ≤ _)⟩)) (fun _ _ _ q => q) N3 (fun T6 L6 X6 e6q N6 => ?_)
      show Go _ _ _ _ _ _ _  T6 (mkF m 65 #[vR a1, vI (Int32.ofNat (i + 1)), vI (Int32.ofNat cs.length), vI (0 : Int32), vI (cs.getD i 0), uS] [(.int (cs.getD (i + 1) 0))])
      refine Go.st (fun _ => XS.istore X6.here hx rfl (hb hby (dq dz52 22 65 rfl)) rfl (l' := #[vR a1, vI (Int32.ofNat (i + 1)), vI (Int32.ofNat cs.length), vI (0 : Int32), vI (cs.getD i 0), vI (cs.getD (i + 1) 0)]) rfl) ?_
      refine Go.st (fun _ => XS.iload X6.here hx rfl (hb hby (dq dz52 23 67 rfl)) rfl) ?_
      show Go _ _ _ _ _ _ _  T6 (mkF m 69 #[vR a1, vI (Int32.ofNat (i + 1)), vI (Int32.ofNat cs.length), vI (0 : Int32), vI (cs.getD i 0), vI (cs.getD (i + 1) 0)] [(.int (cs.getD (i + 1) 0))])
      refine Go.pureS (w := (some (.int (own_ls (cs.getD (i + 1) 0))))) (rest := []) (pc' := 72) (Jvm.LawKit.callS X6 hx (y := mY39) hown (mvT hZ (hwi hw 253 rfl)) (mvT hZ (hwi hw 254 rfl)) (mvT hZ (hwi hw 91 rfl)) (mvT hZ (hwi hw 255 rfl)) (by decide) (backOf (W := 0) (rmLs l Z a0 hw [] (cs.getD (i + 1) 0) h0 n0 O) hZ (hwi hw 255 rfl) (hwi hw 91 rfl) (by decide) (by decide)) (g := (mkF m 69 #[vR a1, vI (Int32.ofNat (i + 1)), vI (Int32.ofNat cs.length), vI (0 : Int32), vI (cs.getD i 0), vI (cs.getD (i + 1) 0)] [(.int (cs.getD (i + 1) 0))])) rfl (by rw [hml]; rfl) (argsL := [(.int (cs.getD (i + 1) 0))]) (rest := []) (lenOf pd__C_Z rfl) rfl (by show 2 * 0 + _ ≤ _; exact Nat.le_of_eq rfl) (hb hby (dq dz52 24 69 rfl)) (fun _ _ => ⟨rfl, e6q, (by decide : 0 + 0 ≤ _), (by decide : 0 + 0 ≤ _)⟩)) (fun _ _ _ q => q) N6 (fun T7 L7 X7 e7q N7 => ?_)
      show Go _ _ _ _ _ _ _  T7 (mkF m 72 #[vR a1, vI (Int32.ofNat (i + 1)), vI (Int32.ofNat cs.length), vI (0 : Int32), vI (cs.getD i 0), vI (cs.getD (i + 1) 0)] [(.int (own_ls (cs.getD (i + 1) 0)))])
      by_cases c72_8 : (own_ls (cs.getD (i + 1) 0)) = (0 : Int32)
      · refine Go.st (fun _ => XS.ifYes X7.here hx rfl (pc0 := 72) (pc' := 83) rfl (hb hby (dq dz52 25 72 rfl)) rfl ((if0 _ _).trans (teq c72_8).1) (by decide) (by decide)) ?_
        show Go _ _ _ _ _ _ _  T7 (mkF m 83 #[vR a1, vI (Int32.ofNat (i + 1)), vI (Int32.ofNat cs.length), vI (0 : Int32), vI (cs.getD i 0), vI (cs.getD (i + 1) 0)] [])
        refine Go.st (fun _ => XS.iload X7.here hx rfl (hb hby (dq dz52 11 83 rfl)) rfl) ?_
        show Go _ _ _ _ _ _ _  T7 (mkF m 85 #[vR a1, vI (Int32.ofNat (i + 1)), vI (Int32.ofNat cs.length), vI (0 : Int32), vI (cs.getD i 0), vI (cs.getD (i + 1) 0)] [(.int (cs.getD i 0))])
        refine Go.retI X7 hlk hx Bd.returns (hb hby (dq dz52 12 85 rfl)) (by decide) (by decide) ?_
        show Q_rmCpz Z _ _ _ _ h0 n0 _ T7.heap _
        rw [e7q]
        exact ⟨by rw [own_cpa, if_neg (fun z => z.2.2 c72_8)], N7, rfl⟩
      · refine Go.st (fun _ => XS.ifNo X7.here hx rfl (hb hby (dq dz52 25 72 rfl)) rfl ((if0 _ _).trans (feq c72_8).1)) ?_
        show Go _ _ _ _ _ _ _  T7 (mkF m 75 #[vR a1, vI (Int32.ofNat (i + 1)), vI (Int32.ofNat cs.length), vI (0 : Int32), vI (cs.getD i 0), vI (cs.getD (i + 1) 0)] [])
        refine Go.st (fun _ => XS.iload X7.here hx rfl (hb hby (dq dz52 26 75 rfl)) rfl) ?_
        refine Go.st (fun _ => XS.iload X7.here hx rfl (hb hby (dq dz52 27 77 rfl)) rfl) ?_
        show Go _ _ _ _ _ _ _  T7 (mkF m 79 #[vR a1, vI (Int32.ofNat (i + 1)), vI (Int32.ofNat cs.length), vI (0 : Int32), vI (cs.getD i 0), vI (cs.getD (i + 1) 0)] [(.int (cs.getD (i + 1) 0)), (.int (cs.getD i 0))])
        refine Go.pureS (w := (some (.int (own_tcp (cs.getD i 0) (cs.getD (i + 1) 0))))) (rest := []) (pc' := 82) (Jvm.LawKit.callS X7 hx (y := mY57) hown (mvT hZ (hwi hw 257 rfl)) (mvT hZ (hwi hw 258 rfl)) (mvT hZ (hwi hw 91 rfl)) (mvT hZ (hwi hw 259 rfl)) (by decide) (backOf (W := 0) (rmTcp l Z a0 hw [] (cs.getD i 0) (cs.getD (i + 1) 0) h0 n0 O) hZ (hwi hw 259 rfl) (hwi hw 91 rfl) (by decide) (by decide)) (g := (mkF m 79 #[vR a1, vI (Int32.ofNat (i + 1)), vI (Int32.ofNat cs.length), vI (0 : Int32), vI (cs.getD i 0), vI (cs.getD (i + 1) 0)] [(.int (cs.getD (i + 1) 0)), (.int (cs.getD i 0))])) rfl (by rw [hml]; rfl) (argsL := [(.int (cs.getD i 0)), (.int (cs.getD (i + 1) 0))]) (rest := []) (lenOf pd__CC_I rfl) rfl (by show 2 * 0 + _ ≤ _; exact Nat.le_of_eq rfl) (hb hby (dq dz52 28 79 rfl)) (fun _ _ => ⟨rfl, e7q, (by decide : 0 + 0 ≤ _), (by decide : 0 + 0 ≤ _)⟩)) (fun _ _ _ q => q) N7 (fun T9 L9 X9 e9q N9 => ?_)
        show Go _ _ _ _ _ _ _  T9 (mkF m 82 #[vR a1, vI (Int32.ofNat (i + 1)), vI (Int32.ofNat cs.length), vI (0 : Int32), vI (cs.getD i 0), vI (cs.getD (i + 1) 0)] [(.int (own_tcp (cs.getD i 0) (cs.getD (i + 1) 0)))])
        refine Go.retI X9 hlk hx Bd.returns (hb hby (dq dz52 29 82 rfl)) (by decide) (by decide) ?_
        show Q_rmCpz Z _ _ _ _ h0 n0 _ T9.heap _
        rw [e9q]
        exact ⟨by rw [own_cpa, if_pos ⟨c40_4, (own_olt (by omega) (by omega)).mp c48_5, c72_8⟩], N9, rfl⟩
    · refine Go.st (fun _ => XS.icmpYes X3.here hx rfl (pc0 := 48) (pc' := 83) rfl (hb hby (dq dz52 16 48 rfl)) rfl (flt c48_5).2.1 (by decide) (by decide)) ?_
      show Go _ _ _ _ _ _ _  T3 (mkF m 83 #[vR a1, vI (Int32.ofNat (i + 1)), vI (Int32.ofNat cs.length), vI (0 : Int32), vI (cs.getD i 0), uS] [])
      refine Go.st (fun _ => XS.iload X3.here hx rfl (hb hby (dq dz52 11 83 rfl)) rfl) ?_
      show Go _ _ _ _ _ _ _  T3 (mkF m 85 #[vR a1, vI (Int32.ofNat (i + 1)), vI (Int32.ofNat cs.length), vI (0 : Int32), vI (cs.getD i 0), uS] [(.int (cs.getD i 0))])
      refine Go.retI X3 hlk hx Bd.returns (hb hby (dq dz52 12 85 rfl)) (by decide) (by decide) ?_
      show Q_rmCpz Z _ _ _ _ h0 n0 _ T3.heap _
      rw [e3q]
      exact ⟨by rw [own_cpa, if_neg (fun z => c48_5 ((own_olt (by omega) (by omega)).mpr z.2.1))], N3, rfl⟩
def Q_rmCp3 (Z : State) (a1 : Addr) (kb : ClassId) (cs : List Int32) (i : Nat) (h0 : Heap) (n0 : Nat) (v : Option Value) (h : Heap) (L : List Loc) : Prop := v = some (.int (own_cpa cs i)) ∧ Fr n0 L ∧ h = h0
theorem rmCp3 (l : Launch) (Z : State) (a0 : Array Value) (hw : HWt a0 Z) (ws : List Jvm.Cond) (a1 : Addr) (kb : ClassId) (cs : List Int32) (i : Nat) (h0 : Heap) (n0 : Nat) (O : Old Z n0 h0) (S_ad : Sta Z Z.heap "java/lang/StringUTF16" "$assertionsDisabled" "Z" (.int 1)) (S_hi : Sta Z Z.heap "java/lang/StringUTF16" "HI_BYTE_SHIFT" "I" (.int 0)) (S_lo : Sta Z Z.heap "java/lang/StringUTF16" "LO_BYTE_SHIFT" "I" (.int 8)) (A_a1 : Arv Z h0 a1 kb .byte (Int32.ofNat (2 * cs.length)) ((own_ub cs).map Value.int) (.int 0)) (hn : cs.length ≤ 34) (hi : i < cs.length) (hr : ∀ j, j < cs.length → nar .char (cs.getD j 0) = cs.getD j 0) :
    Met l mY59 (Jvm.Cond.code mY59 jdk_52_method_8_code 3 (some .int) :: ws) rz2_0_0_30 #[(.ref a1), (.int (Int32.ofNat i)), (.int (Int32.ofNat cs.length))] Z h0 (Q_rmCp3 Z a1 kb cs i h0 n0) := by
  refine MetFree.of_bodySF (plainFor_of_name pn_51) hisR ?_
  intro p e s m args below meth c s₁ Bd hml0 hP hK
  obtain ⟨rfl, hZ, hh⟩ := hP
  have hx := Bd.exec
  have hby := Bd.bytes
  have hml : c.maxLocals = 3 := hml0
  have hown : s.vm.findClass "java/lang/StringUTF16" = some m.cls := findClass_of_methodNamed Bd.named
  have hlk : meth.locks = false := BodyLoose.notSynchronized Bd
  have X0 : Stand p l e rz2_0_0_30 s m #[(.ref a1), (.int (Int32.ofNat i)), (.int (Int32.ofNat cs.length))] below meth c s₁ [] 0 0 := Stand.of_body Bd
  have e0 : s₁.heap = h0 := by rw [← hh, Bd.state]; rfl
  have N0 := Fr.nil n0
  show Go p e below s rz2_0_0_30.cells rz2_0_0_30.slots (Q_rmCp3 Z a1 kb cs i h0 n0) s₁ (entryFrame m #[(.ref a1), (.int (Int32.ofNat i)), (.int (Int32.ofNat cs.length))] 3)
  refine Go.eq (ef_rmCp3 m a1 (Int32.ofNat i) (Int32.ofNat cs.length)) ?_
  show Go _ _ _ _ _ _ _  s₁ (mkF m 0 #[vR a1, vI (Int32.ofNat i), vI (Int32.ofNat cs.length)] [])
  refine Go.st (fun _ => XS.aloadN X0.here hx rfl (hb hby (dq dz51 0 0 rfl)) rfl rfl) ?_
  refine Go.st (fun _ => XS.iloadN X0.here hx rfl (hb hby (dq dz51 1 1 rfl)) rfl) ?_
  refine Go.st (fun _ => XS.iloadN X0.here hx rfl (hb hby (dq dz51 2 2 rfl)) rfl) ?_
  refine Go.st (fun _ => XS.iconst X0.here hx rfl (hb hby (dq dz51 3 3 rfl))) ?_
  show Go _ _ _ _ _ _ _  s₁ (mkF m 4 #[vR a1, vI (Int32.ofNat i), vI (Int32.ofNat cs.length)] [(.int (0 : Int32)), (.int (Int32.ofNat cs.length)), (.int (Int32.ofNat i)), (.ref a1)])
  refine Go.pureS (w := (some (.int (own_cpa cs i)))) (rest := []) (pc' := 7) (Jvm.LawKit.callS X0 hx (y := mY58) hown (mvT hZ (hwi hw 245 rfl)) (mvT hZ (hwi hw 246 rfl)) (mvT hZ (hwi hw 21 rfl)) (mvT hZ (hwi hw 247 rfl)) (by decide) (backOf (W := 0) (rmCpz l Z a0 hw [] a1 kb cs i h0 n0 O S_ad S_hi S_lo A_a1 hn hi hr) hZ (hwi hw 247 rfl) (hwi hw 21 rfl) (by decide) (by decide)) (g := (mkF m 4 #[vR a1, vI (Int32.ofNat i), vI (Int32.ofNat cs.length)] [(.int (0 : Int32)), (.int (Int32.ofNat cs.length)), (.int (Int32.ofNat i)), (.ref a1)])) rfl (by rw [hml]; rfl) (argsL := [(.ref a1), (.int (Int32.ofNat i)), (.int (Int32.ofNat cs.length)), (.int (0 : Int32))]) (rest := []) (lenOf pd___BIIZ_I rfl) rfl (by show 2 * 0 + _ ≤ _; exact Nat.le_of_eq rfl) (hb hby (dq dz51 4 4 rfl)) (fun _ _ => ⟨rfl, e0, (by decide : 0 + 0 ≤ _), (by decide : 0 + 0 ≤ _)⟩)) (fun _ _ _ q => q) N0 (fun T1 L1 X1 e1q N1 => ?_)
  show Go _ _ _ _ _ _ _  T1 (mkF m 7 #[vR a1, vI (Int32.ofNat i), vI (Int32.ofNat cs.length)] [(.int (own_cpa cs i))])
  refine Go.retI X1 hlk hx Bd.returns (hb hby (dq dz51 5 7 rfl)) (by decide) (by decide) ?_
  show Q_rmCp3 Z _ _ _ _ h0 n0 _ T1.heap _
  rw [e1q]
  exact ⟨rfl, N1, rfl⟩
def Q_rmCPA (Z : State) (a1 : Addr) (zc : Int32) (t : Addr) (kb : ClassId) (cs : List Int32) (fm : Value) (i : Nat) (h0 : Heap) (n0 : Nat) (v : Option Value) (h : Heap) (L : List Loc) : Prop := v = some (.int (own_cpa cs i)) ∧ Fr n0 L ∧ h = h0
theorem rmCPA (l : Launch) (Z : State) (a0 : Array Value) (hw : HWt a0 Z) (ws : List Jvm.Cond) (a1 : Addr) (zc : Int32) (t : Addr) (kb : ClassId) (cs : List Int32) (fm : Value) (i : Nat) (h0 : Heap) (n0 : Nat) (O : Old Z n0 h0) (S_COMPACT : Sta Z Z.heap "java/lang/String" "COMPACT_STRINGS" "Z" (.int zc)) (hcs : ¬ zc = 0) (E_a1 : Exa Z h0 a1 "java/lang/String") (C_a1 : Fld Z h0 a1 "java/lang/String" "coder" "B" (.int (own_cd cs))) (V_a1 : Fld Z h0 a1 "java/lang/String" "value" "[B" (.ref t)) (A_t : Arv Z h0 t kb .byte (Int32.ofNat (own_by cs).length) ((own_by cs).map Value.int) (.int 0)) (hn : cs.length ≤ 34) (S_SIO : Sta Z Z.heap "jdk/internal/util/Preconditions" "SIOOBE_FORMATTER" "Ljava/util/function/BiFunction;" fm) (ref_fm : fm.isRef = true) (S_ad : Sta Z Z.heap "java/lang/StringUTF16" "$assertionsDisabled" "Z" (.int 1)) (S_hi : Sta Z Z.heap "java/lang/StringUTF16" "HI_BYTE_SHIFT" "I" (.int 0)) (S_lo : Sta Z Z.heap "java/lang/StringUTF16" "LO_BYTE_SHIFT" "I" (.int 8)) (hi : i < cs.length) (hr : ∀ j, j < cs.length → nar .char (cs.getD j 0) = cs.getD j 0) :
    Met l mY60 (Jvm.Cond.code mY60 jdk_42_method_57_code 3 (some .int) :: ws) rz3_0_0_44 #[(.ref a1), (.int (Int32.ofNat i))] Z h0 (Q_rmCPA Z a1 zc t kb cs fm i h0 n0) := by
  refine MetFree.of_bodySF (plainFor_of_name pn_16) hisR ?_
  intro p e s m args below meth c s₁ Bd hml0 hP hK
  obtain ⟨rfl, hZ, hh⟩ := hP
  have hx := Bd.exec
  have hby := Bd.bytes
  have hml : c.maxLocals = 3 := hml0
  have hown : s.vm.findClass "java/lang/String" = some m.cls := findClass_of_methodNamed Bd.named
  have hlk : meth.locks = false := BodyLoose.notSynchronized Bd
  have X0 : Stand p l e rz3_0_0_44 s m #[(.ref a1), (.int (Int32.ofNat i))] below meth c s₁ [] 0 0 := Stand.of_body Bd
  have e0 : s₁.heap = h0 := by rw [← hh, Bd.state]; rfl
  have N0 := Fr.nil n0
  show Go p e below s rz3_0_0_44.cells rz3_0_0_44.slots (Q_rmCPA Z a1 zc t kb cs fm i h0 n0) s₁ (entryFrame m #[(.ref a1), (.int (Int32.ofNat i))] 3)
  refine Go.eq (ef_rmCPA m a1 (Int32.ofNat i)) ?_
  show Go _ _ _ _ _ _ _  s₁ (mkF m 0 #[vR a1, vI (Int32.ofNat i), uS] [])
  refine Go.st (fun _ => XS.aloadN X0.here hx rfl (hb hby (dq dz16 0 0 rfl)) rfl rfl) ?_
  show Go _ _ _ _ _ _ _  s₁ (mkF m 1 #[vR a1, vI (Int32.ofNat i), uS] [(.ref a1)])
  obtain ⟨cq1, kq1, q1a, q1b, q1c⟩ := isOf hZ e0 E_a1
  refine Go.pure (w := (some (.int (if own_cd cs = 0 then 1 else 0)))) (rest := []) (pc' := 4) (X0.virtualBack hx (y := mY37) (z := mY37) hown (mvT hZ (hwi hw 72 rfl)) (mvT hZ (hwi hw 73 rfl)) (notFace_of_selects (args := #[]) (mvT hZ (hwi hw 75 rfl))) (mvT hZ (hwi hw 75 rfl)) (mvT hZ (hwi hw 74 rfl)) (by decide) (backOf (W := 0) (rmIsLU l Z a0 hw [] a1 zc t kb cs h0 n0 O S_COMPACT hcs E_a1 C_a1 V_a1 A_t hn) hZ (hwi hw 76 rfl) (hwi hw 7 rfl) (by decide) (by decide)) q1a q1c (g := (mkF m 1 #[vR a1, vI (Int32.ofNat i), uS] [(.ref a1)])) rfl (by rw [hml]; rfl) (Steps.refl _) (argsL := []) (rest := []) (lenOf pd___Z rfl) rfl (by show 2 * 0 + _ ≤ _; exact Nat.le_of_eq rfl) (hb hby (dq dz16 1 1 rfl)) (fun _ _ => ⟨rfl, e0, (by decide : 0 + 0 ≤ _), (by decide : 0 + 0 ≤ _)⟩)) (fun _ _ _ q => q) N0 (fun T1 L1 X1 e1q N1 => ?_)
  show Go _ _ _ _ _ _ _  T1 (mkF m 4 #[vR a1, vI (Int32.ofNat i), uS] [(.int (if own_cd cs = 0 then 1 else 0))])
  by_cases c4_2 : own_cd cs = 0
  · rw [if_pos c4_2]
    have lcs : own_l1 cs = true := own_l1ot c4_2
    have A_l : Arv Z h0 t kb .byte (Int32.ofNat cs.length) ((cs.map own_lo).map Value.int) (.int 0) := by rw [← List.length_map (as := cs) own_lo, ← own_byT lcs]; exact A_t
    show Go _ _ _ _ _ _ _  T1 (mkF m 4 #[vR a1, vI (Int32.ofNat i), uS] [(.int (1 : Int32))])
    refine Go.st (fun _ => XS.ifNo X1.here hx rfl (hb hby (dq dz16 2 4 rfl)) rfl ((if0 _ _).trans (feq (by decide : ¬ ((1 : Int32) = (0 : Int32)))).1)) ?_
    show Go _ _ _ _ _ _ _  T1 (mkF m 7 #[vR a1, vI (Int32.ofNat i), uS] [])
    refine Go.st (fun _ => XS.iloadN X1.here hx rfl (hb hby (dq dz16 3 7 rfl)) rfl) ?_
    refine Go.st (fun _ => XS.aloadN X1.here hx rfl (hb hby (dq dz16 4 8 rfl)) rfl rfl) ?_
    show Go _ _ _ _ _ _ _  T1 (mkF m 9 #[vR a1, vI (Int32.ofNat i), uS] [(.ref a1), (.int (Int32.ofNat i))])
    obtain ⟨T3, X3, e3, st3⟩ := getF X1 hx hZ hown (host := "") (Or.inl (hwi hw 32 rfl)) Via.refl e1q V_a1 (g := (mkF m 9 #[vR a1, vI (Int32.ofNat i), uS] [(.ref a1), (.int (Int32.ofNat i))])) rfl rfl (hb hby (dq dz16 5 9 rfl))
    refine Go.st st3 ?_
    show Go _ _ _ _ _ _ _  T3 (mkF m 12 #[vR a1, vI (Int32.ofNat i), uS] [(.ref t), (.int (Int32.ofNat i))])
    obtain ⟨cl4, Ar4, q4, S4, M4, Hh4, G4⟩ := id A_l
    refine Go.st (X3.arraylength hx (by rw [e3]; exact Ar4.1) (State.isArrayOf_alike hZ.alike Ar4.2.1) (g := (mkF m 12 #[vR a1, vI (Int32.ofNat i), uS] [(.ref t), (.int (Int32.ofNat i))])) rfl rfl (hb hby (dq dz16 6 12 rfl))) ?_
    rw [len_of S4 M4]
    show Go _ _ _ _ _ _ _  T3 (mkF m 13 #[vR a1, vI (Int32.ofNat i), uS] [(.int (Int32.ofNat cs.length)), (.int (Int32.ofNat i))])
    refine Go.pureS (w := none) (rest := []) (pc' := 16) (Jvm.LawKit.callS X3 hx (y := mY26) hown (mvT hZ (hwi hw 77 rfl)) (mvT hZ (hwi hw 78 rfl)) (mvT hZ (hwi hw 7 rfl)) (mvT hZ (hwi hw 79 rfl)) (by decide) (backOf (W := 0) (rmCI l Z a0 hw [] fm i cs.length h0 n0 O S_SIO ref_fm hi (by omega)) hZ (hwi hw 79 rfl) (hwi hw 7 rfl) (by decide) (by decide)) (g := (mkF m 13 #[vR a1, vI (Int32.ofNat i), uS] [(.int (Int32.ofNat cs.length)), (.int (Int32.ofNat i))])) rfl (by rw [hml]; rfl) (argsL := [(.int (Int32.ofNat i)), (.int (Int32.ofNat cs.length))]) (rest := []) (lenOf pd__II_V rfl) rfl (by show 2 * 0 + _ ≤ _; exact Nat.le_of_eq rfl) (hb hby (dq dz16 7 13 rfl)) (fun _ _ => ⟨rfl, e3, (by decide : 0 + 0 ≤ _), (by decide : 0 + 0 ≤ _)⟩)) (fun _ _ _ q => q) N1 (fun T5 L5 X5 e5q N5 => ?_)
    show Go _ _ _ _ _ _ _  T5 (mkF m 16 #[vR a1, vI (Int32.ofNat i), uS] [])
    refine Go.st (fun _ => XS.aloadN X5.here hx rfl (hb hby (dq dz16 8 16 rfl)) rfl rfl) ?_
    show Go _ _ _ _ _ _ _  T5 (mkF m 17 #[vR a1, vI (Int32.ofNat i), uS] [(.ref a1)])
    obtain ⟨T6, X6, e6, st6⟩ := getF X5 hx hZ hown (host := "") (Or.inl (hwi hw 32 rfl)) Via.refl e5q V_a1 (g := (mkF m 17 #[vR a1, vI (Int32.ofNat i), uS] [(.ref a1)])) rfl rfl (hb hby (dq dz16 9 17 rfl))
    refine Go.st st6 ?_
    show Go _ _ _ _ _ _ _  T6 (mkF m 20 #[vR a1, vI (Int32.ofNat i), uS] [(.ref t)])
    refine Go.st (fun _ => XS.iloadN X6.here hx rfl (hb hby (dq dz16 10 20 rfl)) rfl) ?_
    show Go _ _ _ _ _ _ _  T6 (mkF m 21 #[vR a1, vI (Int32.ofNat i), uS] [(.int (Int32.ofNat i)), (.ref t)])
    obtain ⟨cl7, Ar7, q7, S7, M7, Hh7, G7⟩ := id A_l
    refine Go.st (X6.baloadBytes hx (j := (Int32.ofNat i)) (v := (.int (own_lo (cs.getD i 0)))) (by rw [e6]; exact Ar7.1) (State.isArrayOf_alike hZ.alike Ar7.2.1) Ar7.2.2 (inb_of S7 ⟨own_onn (by omega), (own_olt (by omega) (by omega)).mpr (by omega)⟩) (Hh7.at (inb_of S7 ⟨own_onn (by omega), (own_olt (by omega) (by omega)).mpr (by omega)⟩) (by rw [own_ocl (by omega)]; exact own_gml cs i)) (g := (mkF m 21 #[vR a1, vI (Int32.ofNat i), uS] [(.int (Int32.ofNat i)), (.ref t)])) rfl rfl (hb hby (dq dz16 11 21 rfl))) ?_
    show Go _ _ _ _ _ _ _  T6 (mkF m 22 #[vR a1, vI (Int32.ofNat i), uS] [(.int (own_lo (cs.getD i 0)))])
    refine Go.st (fun _ => XS.sipush X6.here hx rfl (hb hby (dq dz16 12 22 rfl))) ?_
    refine Go.st (fun _ => XS.iand X6.here hx rfl (hb hby (dq dz16 13 25 rfl)) rfl) ?_
    show Go _ _ _ _ _ _ _  T6 (mkF m 26 #[vR a1, vI (Int32.ofNat i), uS] [(.int ((own_lo (cs.getD i 0)) &&& (255 : Int32)))])
    rw [own_lo255 (own_l1g lcs hi) (hr _ hi)]
    show Go _ _ _ _ _ _ _  T6 (mkF m 26 #[vR a1, vI (Int32.ofNat i), uS] [(.int (cs.getD i 0))])
    refine Go.retI X6 hlk hx Bd.returns (hb hby (dq dz16 14 26 rfl)) (by decide) (by decide) ?_
    show Q_rmCPA Z _ _ _ _ _ _ _ h0 n0 _ T6.heap _
    rw [e6]
    exact ⟨by rw [own_cpaL lcs hi (hr _ hi)], N5, rfl⟩
  · rw [if_neg c4_2]
    have lcs : own_l1 cs = false := own_l1of c4_2
    have A_l : Arv Z h0 t kb .byte (Int32.ofNat (2 * cs.length)) ((own_ub cs).map Value.int) (.int 0) := by rw [← own_ubl, ← own_byF lcs]; exact A_t
    show Go _ _ _ _ _ _ _  T1 (mkF m 4 #[vR a1, vI (Int32.ofNat i), uS] [(.int (0 : Int32))])
    refine Go.st (fun _ => XS.ifYes X1.here hx rfl (pc0 := 4) (pc' := 27) rfl (hb hby (dq dz16 2 4 rfl)) rfl ((if0 _ _).trans (teq (rfl : (0 : Int32) = (0 : Int32))).1) (by decide) (by decide)) ?_
    show Go _ _ _ _ _ _ _  T1 (mkF m 27 #[vR a1, vI (Int32.ofNat i), uS] [])
    refine Go.st (fun _ => XS.aloadN X1.here hx rfl (hb hby (dq dz16 15 27 rfl)) rfl rfl) ?_
    show Go _ _ _ _ _ _ _  T1 (mkF m 28 #[vR a1, vI (Int32.ofNat i), uS] [(.ref a1)])
    obtain ⟨T8, X8, e8, st8⟩ := getF X1 hx hZ hown (host := "") (Or.inl (hwi hw 32 rfl)) Via.refl e1q V_a1 (g := (mkF m 28 #[vR a1, vI (Int32.ofNat i), uS] [(.ref a1)])) rfl rfl (hb hby (dq dz16 16 28 rfl))
    refine Go.st st8 ?_
    show Go _ _ _ _ _ _ _  T8 (mkF m 31 #[vR a1, vI (Int32.ofNat i), uS] [(.ref t)])
    obtain ⟨cl9, Ar9, q9, S9, M9, Hh9, G9⟩ := id A_l
    refine Go.st (X8.arraylength hx (by rw [e8]; exact Ar9.1) (State.isArrayOf_alike hZ.alike Ar9.2.1) (g := (mkF m 31 #[vR a1, vI (Int32.ofNat i), uS] [(.ref t)])) rfl rfl (hb hby (dq dz16 17 31 rfl))) ?_
    rw [len_of S9 M9]
    show Go _ _ _ _ _ _ _  T8 (mkF m 32 #[vR a1, vI (Int32.ofNat i), uS] [(.int (Int32.ofNat (2 * cs.length)))])
    refine Go.st (fun _ => XS.iconst X8.here hx rfl (hb hby (dq dz16 18 32 rfl))) ?_
    refine Go.st (fun _ => XS.ishr X8.here hx rfl (hb hby (dq dz16 19 33 rfl)) rfl) ?_
    show Go _ _ _ _ _ _ _  T8 (mkF m 34 #[vR a1, vI (Int32.ofNat i), uS] [(.int ((Int32.ofNat (2 * cs.length)) >>> ((1 : Int32) &&& 31)))])
    rw [own_shr1 (by omega)]
    refine Go.st (fun _ => XS.istoreN X8.here hx rfl (hb hby (dq dz16 20 34 rfl)) rfl (l' := #[vR a1, vI (Int32.ofNat i), vI (Int32.ofNat cs.length)]) rfl) ?_
    refine Go.st (fun _ => XS.iloadN X8.here hx rfl (hb hby (dq dz16 21 35 rfl)) rfl) ?_
    refine Go.st (fun _ => XS.iloadN X8.here hx rfl (hb hby (dq dz16 22 36 rfl)) rfl) ?_
    show Go _ _ _ _ _ _ _  T8 (mkF m 37 #[vR a1, vI (Int32.ofNat i), vI (Int32.ofNat cs.length)] [(.int (Int32.ofNat cs.length)), (.int (Int32.ofNat i))])
    refine Go.pureS (w := none) (rest := []) (pc' := 40) (Jvm.LawKit.callS X8 hx (y := mY26) hown (mvT hZ (hwi hw 77 rfl)) (mvT hZ (hwi hw 78 rfl)) (mvT hZ (hwi hw 7 rfl)) (mvT hZ (hwi hw 79 rfl)) (by decide) (backOf (W := 0) (rmCI l Z a0 hw [] fm i cs.length h0 n0 O S_SIO ref_fm hi (by omega)) hZ (hwi hw 79 rfl) (hwi hw 7 rfl) (by decide) (by decide)) (g := (mkF m 37 #[vR a1, vI (Int32.ofNat i), vI (Int32.ofNat cs.length)] [(.int (Int32.ofNat cs.length)), (.int (Int32.ofNat i))])) rfl (by rw [hml]; rfl) (argsL := [(.int (Int32.ofNat i)), (.int (Int32.ofNat cs.length))]) (rest := []) (lenOf pd__II_V rfl) rfl (by show 2 * 0 + _ ≤ _; exact Nat.le_of_eq rfl) (hb hby (dq dz16 23 37 rfl)) (fun _ _ => ⟨rfl, e8, (by decide : 0 + 0 ≤ _), (by decide : 0 + 0 ≤ _)⟩)) (fun _ _ _ q => q) N1 (fun T10 L10 X10 e10q N10 => ?_)
    show Go _ _ _ _ _ _ _  T10 (mkF m 40 #[vR a1, vI (Int32.ofNat i), vI (Int32.ofNat cs.length)] [])
    refine Go.st (fun _ => XS.aloadN X10.here hx rfl (hb hby (dq dz16 24 40 rfl)) rfl rfl) ?_
    show Go _ _ _ _ _ _ _  T10 (mkF m 41 #[vR a1, vI (Int32.ofNat i), vI (Int32.ofNat cs.length)] [(.ref a1)])
    obtain ⟨T11, X11, e11, st11⟩ := getF X10 hx hZ hown (host := "") (Or.inl (hwi hw 32 rfl)) Via.refl e10q V_a1 (g := (mkF m 41 #[vR a1, vI (Int32.ofNat i), vI (Int32.ofNat cs.length)] [(.ref a1)])) rfl rfl (hb hby (dq dz16 25 41 rfl))
    refine Go.st st11 ?_
    show Go _ _ _ _ _ _ _  T11 (mkF m 44 #[vR a1, vI (Int32.ofNat i), vI (Int32.ofNat cs.length)] [(.ref t)])
    refine Go.st (fun _ => XS.iloadN X11.here hx rfl (hb hby (dq dz16 26 44 rfl)) rfl) ?_
    refine Go.st (fun _ => XS.iloadN X11.here hx rfl (hb hby (dq dz16 27 45 rfl)) rfl) ?_
    show Go _ _ _ _ _ _ _  T11 (mkF m 46 #[vR a1, vI (Int32.ofNat i), vI (Int32.ofNat cs.length)] [(.int (Int32.ofNat cs.length)), (.int (Int32.ofNat i)), (.ref t)])
    refine Go.pureS (w := (some (.int (own_cpa cs i)))) (rest := []) (pc' := 49) (Jvm.LawKit.callS X11 hx (y := mY59) hown (mvT hZ (hwi hw 242 rfl)) (mvT hZ (hwi hw 243 rfl)) (mvT hZ (hwi hw 21 rfl)) (mvT hZ (hwi hw 244 rfl)) (by decide) (backOf (W := 0) (rmCp3 l Z a0 hw [] t kb cs i h0 n0 O S_ad S_hi S_lo A_l hn hi hr) hZ (hwi hw 244 rfl) (hwi hw 21 rfl) (by decide) (by decide)) (g := (mkF m 46 #[vR a1, vI (Int32.ofNat i), vI (Int32.ofNat cs.length)] [(.int (Int32.ofNat cs.length)), (.int (Int32.ofNat i)), (.ref t)])) rfl (by rw [hml]; rfl) (argsL := [(.ref t), (.int (Int32.ofNat i)), (.int (Int32.ofNat cs.length))]) (rest := []) (lenOf pd___BII_I rfl) rfl (by show 2 * 0 + _ ≤ _; exact Nat.le_of_eq rfl) (hb hby (dq dz16 28 46 rfl)) (fun _ _ => ⟨rfl, e11, (by decide : 0 + 0 ≤ _), (by decide : 0 + 0 ≤ _)⟩)) (fun _ _ _ q => q) N10 (fun T12 L12 X12 e12q N12 => ?_)
    show Go _ _ _ _ _ _ _  T12 (mkF m 49 #[vR a1, vI (Int32.ofNat i), vI (Int32.ofNat cs.length)] [(.int (own_cpa cs i))])
    refine Go.retI X12 hlk hx Bd.returns (hb hby (dq dz16 29 49 rfl)) (by decide) (by decide) ?_
    show Q_rmCPA Z _ _ _ _ _ _ _ h0 n0 _ T12.heap _
    rw [e12q]
    exact ⟨rfl, N12, rfl⟩
def Q_rmCE (Z : State) (p1 : Int32) (h0 : Heap) (n0 : Nat) (v : Option Value) (h : Heap) (L : List Loc) : Prop := v = some (.int 1) ∧ Fr n0 L ∧ h = h0
theorem rmCE (l : Launch) (Z : State) (a0 : Array Value) (hw : HWt a0 Z) (ws : List Jvm.Cond) (p1 : Int32) (h0 : Heap) (n0 : Nat) (O : Old Z n0 h0) (hc : ¬ (255 : Int32) < p1) :
    Met l mY61 (Jvm.Cond.code mY61 jdk_43_method_3_code 1 (some .boolean) :: ws) rz0_0_0_0 #[(.int p1)] Z h0 (Q_rmCE Z p1 h0 n0) := by
  refine MetFree.of_bodySF (plainFor_of_name pn_33) hisR ?_
  intro p e s m args below meth c s₁ Bd hml0 hP hK
  obtain ⟨rfl, hZ, hh⟩ := hP
  have hx := Bd.exec
  have hby := Bd.bytes
  have hml : c.maxLocals = 1 := hml0
  have hlk : meth.locks = false := BodyLoose.notSynchronized Bd
  have X0 : Stand p l e rz0_0_0_0 s m #[(.int p1)] below meth c s₁ [] 0 0 := Stand.of_body Bd
  have e0 : s₁.heap = h0 := by rw [← hh, Bd.state]; rfl
  have N0 := Fr.nil n0
  show Go p e below s rz0_0_0_0.cells rz0_0_0_0.slots (Q_rmCE Z p1 h0 n0) s₁ (entryFrame m #[(.int p1)] 1)
  refine Go.eq (ef_rmCE m p1) ?_
  show Go _ _ _ _ _ _ _  s₁ (mkF m 0 #[vI p1] [])
  refine Go.st (fun _ => XS.iloadN X0.here hx rfl (hb hby (dq dz33 0 0 rfl)) rfl) ?_
  refine Go.st (fun _ => XS.sipush X0.here hx rfl (hb hby (dq dz33 1 1 rfl))) ?_
  show Go _ _ _ _ _ _ _  s₁ (mkF m 4 #[vI p1] [(.int (255 : Int32)), (.int p1)])
  refine Go.st (fun _ => XS.icmpNo X0.here hx rfl (hb hby (dq dz33 2 4 rfl)) rfl (flt (hc : ¬ ((255 : Int32) < p1))).2.2.1) ?_
  show Go _ _ _ _ _ _ _  s₁ (mkF m 7 #[vI p1] [])
  refine Go.st (fun _ => XS.iconst X0.here hx rfl (hb hby (dq dz33 3 7 rfl))) ?_
  refine Go.st (fun _ => XS.goto X0.here hx rfl (pc0 := 8) (pc' := 12) rfl (hb hby (dq dz33 4 8 rfl)) (by decide) (by decide)) ?_
  show Go _ _ _ _ _ _ _  s₁ (mkF m 12 #[vI p1] [(.int (1 : Int32))])
  refine Go.retN X0 hlk hx (t := .boolean) (z' := (1 : Int32)) Bd.returns (by simp) (hb hby (dq dz33 5 12 rfl)) (by decide) (by decide) rfl ?_
  show Q_rmCE Z _ h0 n0 _ s₁.heap _
  rw [e0]
  exact ⟨rfl, N0, rfl⟩
def Q_rmUCI (Z : State) (a1 : Addr) (fm : Value) (k1 : ClassId) (mq : Nat) (bs : List Value) (i : Nat) (h0 : Heap) (n0 : Nat) (v : Option Value) (h : Heap) (L : List Loc) : Prop := v = none ∧ Fr n0 L ∧ h = h0
theorem rmUCI (l : Launch) (Z : State) (a0 : Array Value) (hw : HWt a0 Z) (ws : List Jvm.Cond) (a1 : Addr) (fm : Value) (k1 : ClassId) (mq : Nat) (bs : List Value) (i : Nat) (h0 : Heap) (n0 : Nat) (O : Old Z n0 h0) (S_SIO : Sta Z Z.heap "jdk/internal/util/Preconditions" "SIOOBE_FORMATTER" "Ljava/util/function/BiFunction;" fm) (ref_fm : fm.isRef = true) (A_a1 : Arv Z h0 a1 k1 .byte (Int32.ofNat (2 * mq)) bs (.int 0)) (hi : i < mq) (hm : mq < 1000) :
    Met l mY62 (Jvm.Cond.code mY62 jdk_52_method_91_code 2 none :: ws) rz2_0_0_27 #[(.int (Int32.ofNat i)), (.ref a1)] Z h0 (Q_rmUCI Z a1 fm k1 mq bs i h0 n0) := by
  refine MetFree.of_bodySF (plainFor_of_name pn_64) hisR ?_
  intro p e s m args below meth c s₁ Bd hml0 hP hK
  obtain ⟨rfl, hZ, hh⟩ := hP
  have hx := Bd.exec
  have hby := Bd.bytes
  have hml : c.maxLocals = 2 := hml0
  have hown : s.vm.findClass "java/lang/StringUTF16" = some m.cls := findClass_of_methodNamed Bd.named
  have hlk : meth.locks = false := BodyLoose.notSynchronized Bd
  have X0 : Stand p l e rz2_0_0_27 s m #[(.int (Int32.ofNat i)), (.ref a1)] below meth c s₁ [] 0 0 := Stand.of_body Bd
  have e0 : s₁.heap = h0 := by rw [← hh, Bd.state]; rfl
  have N0 := Fr.nil n0
  show Go p e below s rz2_0_0_27.cells rz2_0_0_27.slots (Q_rmUCI Z a1 fm k1 mq bs i h0 n0) s₁ (entryFrame m #[(.int (Int32.ofNat i)), (.ref a1)] 2)
  refine Go.eq (ef_rmUCI m (Int32.ofNat i) a1) ?_
  show Go _ _ _ _ _ _ _  s₁ (mkF m 0 #[vI (Int32.ofNat i), vR a1] [])
  refine Go.st (fun _ => XS.iloadN X0.here hx rfl (hb hby (dq dz64 0 0 rfl)) rfl) ?_
  refine Go.st (fun _ => XS.aloadN X0.here hx rfl (hb hby (dq dz64 1 1 rfl)) rfl rfl) ?_
  show Go _ _ _ _ _ _ _  s₁ (mkF m 2 #[vI (Int32.ofNat i), vR a1] [(.ref a1), (.int (Int32.ofNat i))])
  refine Go.pureS (w := (some (.int (Int32.ofNat mq)))) (rest := [(.int (Int32.ofNat i))]) (pc' := 5) (Jvm.LawKit.callS X0 hx (y := mY42) hown (mvT hZ (hwi hw 278 rfl)) (mvT hZ (hwi hw 279 rfl)) (mvT hZ (hwi hw 21 rfl)) (mvT hZ (hwi hw 280 rfl)) (by decide) (backOf (W := 1) (rmU16L l Z a0 hw [] a1 k1 mq bs h0 n0 O A_a1 hm) hZ (hwi hw 280 rfl) (hwi hw 21 rfl) (by decide) (by decide)) (g := (mkF m 2 #[vI (Int32.ofNat i), vR a1] [(.ref a1), (.int (Int32.ofNat i))])) rfl (by rw [hml]; rfl) (argsL := [(.ref a1)]) (rest := [(.int (Int32.ofNat i))]) (lenOf pd___B_I rfl) rfl (by show 2 * 0 + _ ≤ _; exact Nat.le_of_eq rfl) (hb hby (dq dz64 2 2 rfl)) (fun _ _ => ⟨rfl, e0, (by decide : 0 + 0 ≤ _), (by decide : 0 + 0 ≤ _)⟩)) (fun _ _ _ q => q) N0 (fun T1 L1 X1 e1q N1 => ?_)
  show Go _ _ _ _ _ _ _  T1 (mkF m 5 #[vI (Int32.ofNat i), vR a1] [(.int (Int32.ofNat mq)), (.int (Int32.ofNat i))])
  refine Go.pureS (w := none) (rest := []) (pc' := 8) (Jvm.LawKit.callS X1 hx (y := mY26) hown (mvT hZ (hwi hw 293 rfl)) (mvT hZ (hwi hw 78 rfl)) (mvT hZ (hwi hw 7 rfl)) (mvT hZ (hwi hw 79 rfl)) (by decide) (backOf (W := 0) (rmCI l Z a0 hw [] fm i mq h0 n0 O S_SIO ref_fm hi (by omega)) hZ (hwi hw 79 rfl) (hwi hw 7 rfl) (by decide) (by decide)) (g := (mkF m 5 #[vI (Int32.ofNat i), vR a1] [(.int (Int32.ofNat mq)), (.int (Int32.ofNat i))])) rfl (by rw [hml]; rfl) (argsL := [(.int (Int32.ofNat i)), (.int (Int32.ofNat mq))]) (rest := []) (lenOf pd__II_V rfl) rfl (by show 2 * 0 + _ ≤ _; exact Nat.le_of_eq rfl) (hb hby (dq dz64 3 5 rfl)) (fun _ _ => ⟨rfl, e1q, (by decide : 0 + 0 ≤ _), (by decide : 0 + 0 ≤ _)⟩)) (fun _ _ _ q => q) N1 (fun T2 L2 X2 e2q N2 => ?_)
  show Go _ _ _ _ _ _ _  T2 (mkF m 8 #[vI (Int32.ofNat i), vR a1] [])
  refine Go.ret0 X2 hlk hx Bd.returns (hb hby (dq dz64 4 8 rfl)) (by decide) (by decide) ?_
  show Q_rmUCI Z _ _ _ _ _ _ h0 n0 _ T2.heap _
  rw [e2q]
  exact ⟨rfl, N2, rfl⟩
def Q_rmPSB (Z : State) (a1 : Addr) (p3 : Int32) (fm : Value) (k1 : ClassId) (mq : Nat) (bs : List Value) (i : Nat) (h0 : Heap) (n0 : Nat) (v : Option Value) (h : Heap) (L : List Loc) : Prop := v = none ∧ Fr n0 L ∧ Keep h0 h [a1] ∧ Arv Z h a1 k1 .byte (Int32.ofNat (2 * mq)) ((bs ++ [Value.int (own_lo p3)]) ++ [Value.int (own_hi p3)]) (.int 0)
theorem rmPSB (l : Launch) (Z : State) (a0 : Array Value) (hw : HWt a0 Z) (ws : List Jvm.Cond) (a1 : Addr) (p3 : Int32) (fm : Value) (k1 : ClassId) (mq : Nat) (bs : List Value) (i : Nat) (h0 : Heap) (n0 : Nat) (O : Old Z n0 h0) (S_SIO : Sta Z Z.heap "jdk/internal/util/Preconditions" "SIOOBE_FORMATTER" "Ljava/util/function/BiFunction;" fm) (ref_fm : fm.isRef = true) (S_ad : Sta Z Z.heap "java/lang/StringUTF16" "$assertionsDisabled" "Z" (.int 1)) (S_hi : Sta Z Z.heap "java/lang/StringUTF16" "HI_BYTE_SHIFT" "I" (.int 0)) (S_lo : Sta Z Z.heap "java/lang/StringUTF16" "LO_BYTE_SHIFT" "I" (.int 8)) (A_a1 : Arv Z h0 a1 k1 .byte (Int32.ofNat (2 * mq)) bs (.int 0)) (hbs : bs.length = 2 * i) (hi : i < mq) (hm : mq < 1000) (g_a1 : n0 ≤ a1) :
    Met l mY63 (Jvm.Cond.code mY63 jdk_52_method_71_code 3 none :: ws) rz3_0_0_41 #[(.ref a1), (.int (Int32.ofNat i)), (.int p3)] Z h0 (Q_rmPSB Z a1 p3 fm k1 mq bs i h0 n0) := by
  refine MetFree.of_bodySF (plainFor_of_name pn_63) hisR ?_
  intro p e s m args below meth c s₁ Bd hml0 hP hK
  obtain ⟨rfl, hZ, hh⟩ := hP
  have hx := Bd.exec
  have hby := Bd.bytes
  have hml : c.maxLocals = 3 := hml0
  have hown : s.vm.findClass "java/lang/StringUTF16" = some m.cls := findClass_of_methodNamed Bd.named
  have hlk : meth.locks = false := BodyLoose.notSynchronized Bd
  have X0 : Stand p l e rz3_0_0_41 s m #[(.ref a1), (.int (Int32.ofNat i)), (.int p3)] below meth c s₁ [] 0 0 := Stand.of_body Bd
  have e0 : s₁.heap = h0 := by rw [← hh, Bd.state]; rfl
  have N0 := Fr.nil n0
  have KK : Keep h0 h0 [a1] := Keep.refl h0 _
  show Go p e below s rz3_0_0_41.cells rz3_0_0_41.slots (Q_rmPSB Z a1 p3 fm k1 mq bs i h0 n0) s₁ (entryFrame m #[(.ref a1), (.int (Int32.ofNat i)), (.int p3)] 3)
  refine Go.eq (ef_rmPSB m a1 (Int32.ofNat i) p3) ?_
  show Go _ _ _ _ _ _ _  s₁ (mkF m 0 #[vR a1, vI (Int32.ofNat i), vI p3] [])
  refine Go.st (fun _ => XS.iloadN X0.here hx rfl (hb hby (dq dz63 0 0 rfl)) rfl) ?_
  refine Go.st (fun _ => XS.aloadN X0.here hx rfl (hb hby (dq dz63 1 1 rfl)) rfl rfl) ?_
  show Go _ _ _ _ _ _ _  s₁ (mkF m 2 #[vR a1, vI (Int32.ofNat i), vI p3] [(.ref a1), (.int (Int32.ofNat i))])
  refine Go.pureS (w := none) (rest := []) (pc' := 5) (Jvm.LawKit.callS X0 hx (y := mY62) hown (mvT hZ (hwi hw 290 rfl)) (mvT hZ (hwi hw 291 rfl)) (mvT hZ (hwi hw 21 rfl)) (mvT hZ (hwi hw 292 rfl)) (by decide) (backOf (W := 0) (rmUCI l Z a0 hw [] a1 fm k1 mq bs i h0 n0 O S_SIO ref_fm A_a1 hi hm) hZ (hwi hw 292 rfl) (hwi hw 21 rfl) (by decide) (by decide)) (g := (mkF m 2 #[vR a1, vI (Int32.ofNat i), vI p3] [(.ref a1), (.int (Int32.ofNat i))])) rfl (by rw [hml]; rfl) (argsL := [(.int (Int32.ofNat i)), (.ref a1)]) (rest := []) (lenOf pd__I_B_V rfl) rfl (by show 2 * 0 + _ ≤ _; exact Nat.le_of_eq rfl) (hb hby (dq dz63 2 2 rfl)) (fun _ _ => ⟨rfl, e0, (by decide : 0 + 0 ≤ _), (by decide : 0 + 0 ≤ _)⟩)) (fun _ _ _ q => q) N0 (fun T1 L1 X1 e1q N1 => ?_)
  show Go _ _ _ _ _ _ _  T1 (mkF m 5 #[vR a1, vI (Int32.ofNat i), vI p3] [])
  refine Go.st (fun _ => XS.aloadN X1.here hx rfl (hb hby (dq dz63 3 5 rfl)) rfl rfl) ?_
  refine Go.st (fun _ => XS.iloadN X1.here hx rfl (hb hby (dq dz63 4 6 rfl)) rfl) ?_
  refine Go.st (fun _ => XS.iloadN X1.here hx rfl (hb hby (dq dz63 5 7 rfl)) rfl) ?_
  show Go _ _ _ _ _ _ _  T1 (mkF m 8 #[vR a1, vI (Int32.ofNat i), vI p3] [(.int p3), (.int (Int32.ofNat i)), (.ref a1)])
  obtain ⟨_, _, ⟨T2, L2, k2, n2⟩, -, X2, ⟨Lc2, hQ2, l2, y2, z2⟩, st2⟩ := Jvm.LawKit.callS X1 hx (y := mY28) hown (mvT hZ (hwi hw 233 rfl)) (mvT hZ (hwi hw 234 rfl)) (mvT hZ (hwi hw 21 rfl)) (mvT hZ (hwi hw 235 rfl)) (by decide) (backOf (W := 0) (rmPutC l Z a0 hw [] a1 p3 i k1 (2 * mq) bs h0 n0 O S_ad S_hi S_lo A_a1 hbs (by omega) (by omega) g_a1) hZ (hwi hw 235 rfl) (hwi hw 21 rfl) (by decide) (by decide)) (g := (mkF m 8 #[vR a1, vI (Int32.ofNat i), vI p3] [(.int p3), (.int (Int32.ofNat i)), (.ref a1)])) rfl (by rw [hml]; rfl) (argsL := [(.ref a1), (.int (Int32.ofNat i)), (.int p3)]) (rest := []) (lenOf pd___BII_V rfl) rfl (by show 2 * 0 + _ ≤ _; exact Nat.le_of_eq rfl) (hb hby (dq dz63 6 8 rfl)) (fun _ _ => ⟨rfl, e1q, (by decide : 0 + 0 ≤ _), (by decide : 0 + 0 ≤ _)⟩)
  dsimp only [Pt.U, Pt.locs, Pt.cells, Pt.slots] at X2 l2 y2 z2 st2 hQ2
  rw [l2, y2, z2] at X2
  have X2 : Stand p l e _ _ m _ below meth c T2 _ 0 0 := X2
  obtain ⟨rfl, N2q, K2q, Q2⟩ := hQ2
  have N2 := Fr.app N1 N2q
  refine Go.st st2 ?_
  have O := O.keep K2q (allS g_a1 all0)
  have KK := KK.trans K2q (allS (Or.inl (List.mem_of_getElem? (i := 0) rfl)) all0)
  show Go _ _ _ _ _ _ _  T2 (mkF m 11 #[vR a1, vI (Int32.ofNat i), vI p3] [])
  refine Go.ret0 X2 hlk hx Bd.returns (hb hby (dq dz63 7 11 rfl)) (by decide) (by decide) ?_
  show Q_rmPSB Z _ _ _ _ _ _ _ h0 n0 _ T2.heap _
  exact ⟨rfl, N2, KK, Q2⟩
def Q_rmAC (Z : State) (a1 : Addr) (p2 : Int32) (zc : Int32) (fm : Value) (t : Addr) (kd : ClassId) (cs : List Int32) (cap : Nat) (m0 : Nat) (h0 : Heap) (n0 : Nat) (v : Option Value) (h : Heap) (L : List Loc) : Prop := v = some (.ref a1) ∧ Fr n0 L ∧ Keep h0 h [a1, t] ∧ ∃ (b : Addr) (kb : ClassId) (cap2 : Nat), (b = t ∨ h0.size ≤ b) ∧ (cs ++ [p2]).length ≤ cap2 ∧ n0 ≤ b ∧ m0 ≤ b ∧ Exa Z h a1 "java/lang/StringBuilder" ∧ Fld Z h a1 "java/lang/AbstractStringBuilder" "coder" "B" (.int (own_cd (cs ++ [p2]))) ∧ Fld Z h a1 "java/lang/AbstractStringBuilder" "value" "[B" (.ref b) ∧ Fld Z h a1 "java/lang/AbstractStringBuilder" "count" "I" (.int (Int32.ofNat (cs ++ [p2]).length)) ∧ Fld Z h a1 "java/lang/AbstractStringBuilder" "maybeLatin1" "Z" (.int 0) ∧ Arv Z h b kb .byte (Int32.ofNat (own_cl (cs ++ [p2]) cap2)) ((own_by (cs ++ [p2])).map Value.int) (.int 0) ∧ 16 ≤ cap2 ∧ cap2 ≤ 34 ∧ (Exa Z h b "[B" ∨ 17 < cap2)
theorem rmAC (l : Launch) (Z : State) (a0 : Array Value) (hw : HWt a0 Z) (ws : List Jvm.Cond) (a1 : Addr) (p2 : Int32) (zc : Int32) (fm : Value) (t : Addr) (kd : ClassId) (cs : List Int32) (cap : Nat) (m0 : Nat) (h0 : Heap) (n0 : Nat) (O : Old Z n0 h0) (S_COMPACT : Sta Z Z.heap "java/lang/String" "COMPACT_STRINGS" "Z" (.int zc)) (hcs : ¬ zc = 0) (S_SIO : Sta Z Z.heap "jdk/internal/util/Preconditions" "SIOOBE_FORMATTER" "Ljava/util/function/BiFunction;" fm) (ref_fm : fm.isRef = true) (S_ad : Sta Z Z.heap "java/lang/StringUTF16" "$assertionsDisabled" "Z" (.int 1)) (S_hi : Sta Z Z.heap "java/lang/StringUTF16" "HI_BYTE_SHIFT" "I" (.int 0)) (S_lo : Sta Z Z.heap "java/lang/StringUTF16" "LO_BYTE_SHIFT" "I" (.int 8)) (E_a1 : Exa Z h0 a1 "java/lang/StringBuilder") (C_a1 : Fld Z h0 a1 "java/lang/AbstractStringBuilder" "coder" "B" (.int (own_cd cs))) (V_a1 : Fld Z h0 a1 "java/lang/AbstractStringBuilder" "value" "[B" (.ref t)) (N_a1 : Fld Z h0 a1 "java/lang/AbstractStringBuilder" "count" "I" (.int (Int32.ofNat cs.length))) (M_a1 : Fld Z h0 a1 "java/lang/AbstractStringBuilder" "maybeLatin1" "Z" (.int 0)) (A_t : Arv Z h0 t kd .byte (Int32.ofNat (own_cl cs cap)) ((own_by cs).map Value.int) (.int 0)) (K_a1 : cs.length ≤ cap) (B_a1 : 16 ≤ cap) (D_a1 : cap ≤ 34) (g_a1 : n0 ≤ a1) (g_t : n0 ≤ t) (hc : ¬ (255 : Int32) < p2) (hnc : nar .char p2 = p2) (hl17 : cs.length + 1 ≤ 17) (hm1 : m0 ≤ t) (hm2 : m0 ≤ h0.size) (XX : Exa Z h0 t "[B" ∨ 17 < cap) :
    Met l mY64 (Jvm.Cond.code mY64 jdk_68_method_31_code 2 (some (.object "java/lang/AbstractStringBuilder")) :: ws) rz5_1_68_74 #[(.ref a1), (.int p2)] Z h0 (Q_rmAC Z a1 p2 zc fm t kd cs cap m0 h0 n0) := by
  refine MetFree.of_bodySF (plainFor_of_name pn_31) hisR ?_
  intro p e s m args below meth c s₁ Bd hml0 hP hK
  obtain ⟨rfl, hZ, hh⟩ := hP
  have hx := Bd.exec
  have hby := Bd.bytes
  have hml : c.maxLocals = 2 := hml0
  have hown : s.vm.findClass "java/lang/AbstractStringBuilder" = some m.cls := findClass_of_methodNamed Bd.named
  have hlk : meth.locks = false := BodyLoose.notSynchronized Bd
  have X0 : Stand p l e rz5_1_68_74 s m #[(.ref a1), (.int p2)] below meth c s₁ [] 0 0 := Stand.of_body Bd
  have e0 : s₁.heap = h0 := by rw [← hh, Bd.state]; rfl
  have N0 := Fr.nil n0
  have KK : Keep h0 h0 [a1, t] := Keep.refl h0 _
  show Go p e below s rz5_1_68_74.cells rz5_1_68_74.slots (Q_rmAC Z a1 p2 zc fm t kd cs cap m0 h0 n0) s₁ (entryFrame m #[(.ref a1), (.int p2)] 2)
  refine Go.eq (ef_rmAC m a1 p2) ?_
  show Go _ _ _ _ _ _ _  s₁ (mkF m 0 #[vR a1, vI p2] [])
  refine Go.st (fun _ => XS.aloadN X0.here hx rfl (hb hby (dq dz31 0 0 rfl)) rfl rfl) ?_
  refine Go.st (fun _ => XS.aloadN X0.here hx rfl (hb hby (dq dz31 1 1 rfl)) rfl rfl) ?_
  show Go _ _ _ _ _ _ _  s₁ (mkF m 2 #[vR a1, vI p2] [(.ref a1), (.ref a1)])
  obtain ⟨T1, X1, e1, st1⟩ := getF X0 hx hZ hown (host := "") (Or.inl (hwi hw 126 rfl)) Via.refl e0 N_a1 (g := (mkF m 2 #[vR a1, vI p2] [(.ref a1), (.ref a1)])) rfl rfl (hb hby (dq dz31 2 2 rfl))
  refine Go.st st1 ?_
  show Go _ _ _ _ _ _ _  T1 (mkF m 5 #[vR a1, vI p2] [(.int (Int32.ofNat cs.length)), (.ref a1)])
  refine Go.st (fun _ => XS.iconst X1.here hx rfl (hb hby (dq dz31 3 5 rfl))) ?_
  refine Go.st (fun _ => XS.iadd X1.here hx rfl (hb hby (dq dz31 4 6 rfl)) rfl) ?_
  show Go _ _ _ _ _ _ _  T1 (mkF m 7 #[vR a1, vI p2] [(.int ((Int32.ofNat cs.length) + (1 : Int32))), (.ref a1)])
  rw [own_1inc cs.length]
  show Go _ _ _ _ _ _ _  T1 (mkF m 7 #[vR a1, vI p2] [(.int (Int32.ofNat (cs.length + 1))), (.ref a1)])
  obtain ⟨cq2, q2, q2'⟩ := Exa.cell E_a1
  obtain ⟨_, _, ⟨T2, L2, k2, n2⟩, -, X2, ⟨Lc2, hQ2, l2, y2, z2⟩, st2⟩ := X1.privateBack hx (y := mY10) hown (mvT hZ (hwi hw 128 rfl)) (mvT hZ (hwi hw 129 rfl)) (own_selfsel2 (mvT hZ (hwi hw 131 rfl)) (mvP hZ (hwi hw 130 rfl)) (mvT hZ (hwi hw 129 rfl)) (by decide)) (Cond.privateMethod_at (mvP hZ (hwi hw 130 rfl) (args := #[]))) (mvT hZ (hwi hw 132 rfl)) (by decide) (backOf (W := 0) (rmEw l Z a0 hw [] a1 (cs.length + 1) t kd cs cap m0 h0 n0 O E_a1 C_a1 V_a1 N_a1 M_a1 A_t K_a1 B_a1 D_a1 g_a1 g_t hm1 hm2 XX hl17) hZ (hwi hw 132 rfl) (hwi hw 104 rfl) (by decide) (by decide)) (g := (mkF m 7 #[vR a1, vI p2] [(.int (Int32.ofNat (cs.length + 1))), (.ref a1)])) rfl (by rw [hml]; rfl) (Steps.refl _) (a := a1) (by rw [e1]; exact q2) q2' (argsL := [(.int (Int32.ofNat (cs.length + 1)))]) (rest := []) (lenOf pd__I_V rfl) rfl (by show 2 * 0 + _ ≤ _; exact Nat.le_of_eq rfl) (hb hby (dq dz31 5 7 rfl)) (fun _ _ => ⟨rfl, e1, (by decide : 0 + 1 ≤ _), (by decide : 0 + 68 ≤ _)⟩)
  dsimp only [Pt.U, Pt.locs, Pt.cells, Pt.slots] at X2 l2 y2 z2 st2 hQ2
  rw [l2, y2, z2] at X2
  have X2 : Stand p l e _ _ m _ below meth c T2 _ 1 68 := X2
  obtain ⟨rfl, N2q, K2q, t2, kt2, cp2, kc2, kd2, bt2, gb2, mb2, Eq2, Cq2, Vq2, Nq2, Mq2, Aq2, lo2, hi2, Xq2⟩ := hQ2
  have N2 := Fr.app N0 N2q
  refine Go.tr st2 ?_
  have E_a1 := E_a1.keep K2q
  have XX := XX.imp (fun q => q.keep K2q) id
  have O := O.keep K2q (allS g_a1 (allS g_t all0))
  have KK := KK.trans K2q (allS (Or.inl (List.mem_of_getElem? (i := 0) rfl)) (allS (Or.inl (List.mem_of_getElem? (i := 1) rfl)) all0))
  have E_a1 := Eq2
  have g_t2 := gb2
  show Go _ _ _ _ _ _ _  T2 (mkF m 10 #[vR a1, vI p2] [])
  refine Go.st (fun _ => XS.aloadN X2.here hx rfl (hb hby (dq dz31 6 10 rfl)) rfl rfl) ?_
  show Go _ _ _ _ _ _ _  T2 (mkF m 11 #[vR a1, vI p2] [(.ref a1)])
  obtain ⟨cq3, kq3, q3a, q3b, q3c⟩ := isOf hZ rfl E_a1
  refine Go.pure (w := (some (.int (if (own_cd cs) = 0 then 1 else 0)))) (rest := []) (pc' := 14) (X2.virtualBack hx (y := mY18) (z := mY18) hown (mvT hZ (hwi hw 162 rfl)) (mvT hZ (hwi hw 163 rfl)) (notFace_of_selects (args := #[]) (mvT hZ (hwi hw 165 rfl))) (mvT hZ (hwi hw 165 rfl)) (mvT hZ (hwi hw 164 rfl)) (by decide) (backOf (W := 0) (rmILc l Z a0 hw [] a1 zc (own_cd cs) T2.heap n0 O S_COMPACT hcs Cq2) hZ (hwi hw 166 rfl) (hwi hw 104 rfl) (by decide) (by decide)) q3a q3c (g := (mkF m 11 #[vR a1, vI p2] [(.ref a1)])) rfl (by rw [hml]; rfl) (Steps.refl _) (argsL := []) (rest := []) (lenOf pd___Z rfl) rfl (by show 2 * 0 + _ ≤ _; exact Nat.le_of_eq rfl) (hb hby (dq dz31 7 11 rfl)) (fun _ _ => ⟨rfl, rfl, (by decide : 1 + 0 ≤ _), (by decide : 68 + 0 ≤ _)⟩)) (fun _ _ _ q => q) N2 (fun T3 L3 X3 e3q N3 => ?_)
  show Go _ _ _ _ _ _ _  T3 (mkF m 14 #[vR a1, vI p2] [(.int (if (own_cd cs) = 0 then 1 else 0))])
  by_cases c14_4 : own_cd cs = 0
  · rw [if_pos c14_4]
    have lcs : own_l1 cs = true := own_l1ot c14_4
    rw [own_clT lcs, own_byT lcs] at Aq2
    show Go _ _ _ _ _ _ _  T3 (mkF m 14 #[vR a1, vI p2] [(.int (1 : Int32))])
    refine Go.st (fun _ => XS.ifNo X3.here hx rfl (hb hby (dq dz31 8 14 rfl)) rfl ((if0 _ _).trans (feq (by decide : ¬ ((1 : Int32) = (0 : Int32)))).1)) ?_
    show Go _ _ _ _ _ _ _  T3 (mkF m 17 #[vR a1, vI p2] [])
    refine Go.st (fun _ => XS.iloadN X3.here hx rfl (hb hby (dq dz31 9 17 rfl)) rfl) ?_
    show Go _ _ _ _ _ _ _  T3 (mkF m 18 #[vR a1, vI p2] [(.int p2)])
    refine Go.pureS (w := (some (.int (1 : Int32)))) (rest := []) (pc' := 21) (Jvm.LawKit.callS X3 hx (y := mY61) hown (mvT hZ (hwi hw 167 rfl)) (mvT hZ (hwi hw 168 rfl)) (mvT hZ (hwi hw 169 rfl)) (mvT hZ (hwi hw 170 rfl)) (by decide) (backOf (W := 0) (rmCE l Z a0 hw [] p2 T2.heap n0 O hc) hZ (hwi hw 170 rfl) (hwi hw 169 rfl) (by decide) (by decide)) (g := (mkF m 18 #[vR a1, vI p2] [(.int p2)])) rfl (by rw [hml]; rfl) (argsL := [(.int p2)]) (rest := []) (lenOf pd__C_Z rfl) rfl (by show 2 * 0 + _ ≤ _; exact Nat.le_of_eq rfl) (hb hby (dq dz31 10 18 rfl)) (fun _ _ => ⟨rfl, e3q, (by decide : 1 + 0 ≤ _), (by decide : 68 + 0 ≤ _)⟩)) (fun _ _ _ q => q) N3 (fun T5 L5 X5 e5q N5 => ?_)
    show Go _ _ _ _ _ _ _  T5 (mkF m 21 #[vR a1, vI p2] [(.int (1 : Int32))])
    refine Go.st (fun _ => XS.ifNo X5.here hx rfl (hb hby (dq dz31 11 21 rfl)) rfl ((if0 _ _).trans (feq (by decide : ¬ ((1 : Int32) = (0 : Int32)))).1)) ?_
    show Go _ _ _ _ _ _ _  T5 (mkF m 24 #[vR a1, vI p2] [])
    refine Go.st (fun _ => XS.aloadN X5.here hx rfl (hb hby (dq dz31 12 24 rfl)) rfl rfl) ?_
    show Go _ _ _ _ _ _ _  T5 (mkF m 25 #[vR a1, vI p2] [(.ref a1)])
    obtain ⟨T6, X6, e6, st6⟩ := getF X5 hx hZ hown (host := "") (Or.inl (hwi hw 108 rfl)) Via.refl e5q Vq2 (g := (mkF m 25 #[vR a1, vI p2] [(.ref a1)])) rfl rfl (hb hby (dq dz31 13 25 rfl))
    refine Go.st st6 ?_
    show Go _ _ _ _ _ _ _  T6 (mkF m 28 #[vR a1, vI p2] [(.ref t2)])
    refine Go.st (fun _ => XS.aloadN X6.here hx rfl (hb hby (dq dz31 14 28 rfl)) rfl rfl) ?_
    refine Go.st (fun _ => XS.dup X6.here hx rfl (hb hby (dq dz31 15 29 rfl)) rfl rfl) ?_
    show Go _ _ _ _ _ _ _  T6 (mkF m 30 #[vR a1, vI p2] [(.ref a1), (.ref a1), (.ref t2)])
    obtain ⟨T7, X7, e7, st7⟩ := getF X6 hx hZ hown (host := "") (Or.inl (hwi hw 126 rfl)) Via.refl e6 Nq2 (g := (mkF m 30 #[vR a1, vI p2] [(.ref a1), (.ref a1), (.ref t2)])) rfl rfl (hb hby (dq dz31 16 30 rfl))
    refine Go.st st7 ?_
    show Go _ _ _ _ _ _ _  T7 (mkF m 33 #[vR a1, vI p2] [(.int (Int32.ofNat cs.length)), (.ref a1), (.ref t2)])
    refine Go.st (fun _ => XS.dupX1 X7.here hx rfl (hb hby (dq dz31 17 33 rfl)) rfl rfl rfl) ?_
    show Go _ _ _ _ _ _ _  T7 (mkF m 34 #[vR a1, vI p2] [(.int (Int32.ofNat cs.length)), (.ref a1), (.int (Int32.ofNat cs.length)), (.ref t2)])
    refine Go.st (fun _ => XS.iconst X7.here hx rfl (hb hby (dq dz31 18 34 rfl))) ?_
    refine Go.st (fun _ => XS.iadd X7.here hx rfl (hb hby (dq dz31 19 35 rfl)) rfl) ?_
    show Go _ _ _ _ _ _ _  T7 (mkF m 36 #[vR a1, vI p2] [(.int ((Int32.ofNat cs.length) + (1 : Int32))), (.ref a1), (.int (Int32.ofNat cs.length)), (.ref t2)])
    rw [own_1inc cs.length]
    show Go _ _ _ _ _ _ _  T7 (mkF m 36 #[vR a1, vI p2] [(.int (Int32.ofNat (cs.length + 1))), (.ref a1), (.int (Int32.ofNat cs.length)), (.ref t2)])
    obtain ⟨T8, h8, X8, e8, W8, st8⟩ := putF X7 hx hZ hown (host := "") (Or.inl (hwi hw 126 rfl)) Via.refl e7 Nq2 E_a1 (Or.inl (hwi hw 127 rfl)) (hwi hw 95 rfl) (ty := .int) (by decide) rfl rfl (g := (mkF m 36 #[vR a1, vI p2] [(.int (Int32.ofNat (cs.length + 1))), (.ref a1), (.int (Int32.ofNat cs.length)), (.ref t2)])) rfl rfl (hb hby (dq dz31 20 36 rfl))
    refine Go.st st8 ?_
    have Nq2 : Fld Z h8 a1 "java/lang/AbstractStringBuilder" "count" "I" (.int (Int32.ofNat (cs.length + 1))) := Nq2.same W8
    have N8 := Fr.snoc X8 N5 g_a1
    have ne_t2_a1 : t2 ≠ a1 := (Ne.symm (Exa.neArv E_a1 Aq2 (hwi hw 95 rfl)))
    have E_a1 := E_a1.wr W8
    have Xq2 := Xq2.imp (fun q => q.wr W8) id
    have Cq2 := Cq2.other W8 (Or.inr (slot_ne (Or.inl (hwi hw 111 rfl)) (Or.inl (hwi hw 127 rfl)) (by decide) (t := .byte) (t' := .int) (by decide) (by decide)))
    have Vq2 := Vq2.other W8 (Or.inr (slot_ne (Or.inl (hwi hw 109 rfl)) (Or.inl (hwi hw 127 rfl)) (by decide) (t := (.array .byte)) (t' := .int) (by decide) (by decide)))
    have Mq2 := Mq2.other W8 (Or.inr (slot_ne (Or.inl (hwi hw 295 rfl)) (Or.inl (hwi hw 127 rfl)) (by decide) (t := .boolean) (t' := .int) (by decide) (by decide)))
    have Aq2 := Aq2.other W8 ne_t2_a1
    have O := O.wr W8 g_a1
    have KK := KK.wr W8 (Or.inl (List.mem_of_getElem? (i := 0) rfl))
    show Go _ _ _ _ _ _ _  T8 (mkF m 39 #[vR a1, vI p2] [(.int (Int32.ofNat cs.length)), (.ref t2)])
    refine Go.st (fun _ => XS.iloadN X8.here hx rfl (hb hby (dq dz31 21 39 rfl)) rfl) ?_
    refine Go.st (fun _ => XS.i2b X8.here hx rfl (hb hby (dq dz31 22 40 rfl)) rfl) ?_
    show Go _ _ _ _ _ _ _  T8 (mkF m 41 #[vR a1, vI p2] [(.int (p2.toInt8.toInt32)), (.int (Int32.ofNat cs.length)), (.ref t2)])
    obtain ⟨cl9, Ar9, q9, S9, M9, Hh9, G9⟩ := Aq2
    obtain ⟨T10, h10, X10, e10, W10, st10⟩ := stB X8 hx hZ e8 Ar9 (j := (Int32.ofNat cs.length)) (inb_of S9 ⟨own_onn (by omega), (own_olt (by omega) (by omega)).mpr (by omega)⟩) (g := (mkF m 41 #[vR a1, vI p2] [(.int (p2.toInt8.toInt32)), (.int (Int32.ofNat cs.length)), (.ref t2)])) rfl rfl (hb hby (dq dz31 23 41 rfl))
    refine Go.st st10 ?_
    have Aq2 : Arv Z h10 t2 kt2 .byte (Int32.ofNat cp2) (((cs.map own_lo).map Value.int) ++ [Value.int (nar .byte (p2.toInt8.toInt32))]) (.int 0) := own_push Ar9 q9 S9 M9 Hh9 G9 (fits_nar_byte _) W10 (by rw [own_ocl (by omega), List.length_map, List.length_map])
    rw [own_nlo] at Aq2
    have N10 := Fr.snoc X10 N8 g_t2
    have E_a1 := E_a1.wr W10
    have Xq2 := Xq2.imp (fun q => q.wr W10) id
    have Cq2 := Cq2.other W10 (Or.inl (Ne.symm ne_t2_a1))
    have Vq2 := Vq2.other W10 (Or.inl (Ne.symm ne_t2_a1))
    have Nq2 := Nq2.other W10 (Or.inl (Ne.symm ne_t2_a1))
    have Mq2 := Mq2.other W10 (Or.inl (Ne.symm ne_t2_a1))
    have O := O.wr W10 g_t2
    have KK := KK.wr W10 (own_wi bt2)
    show Go _ _ _ _ _ _ _  T10 (mkF m 42 #[vR a1, vI p2] [])
    refine Go.st (fun _ => XS.goto X10.here hx rfl (pc0 := 42) (pc' := 75) rfl (hb hby (dq dz31 24 42 rfl)) (by decide) (by decide)) ?_
    refine Go.st (fun _ => XS.aloadN X10.here hx rfl (hb hby (dq dz31 25 75 rfl)) rfl rfl) ?_
    show Go _ _ _ _ _ _ _  T10 (mkF m 76 #[vR a1, vI p2] [(.ref a1)])
    refine Go.retR X10 hlk hx Bd.returns rfl rfl rfl (hb hby (dq dz31 26 76 rfl)) (by decide) (by decide) ?_
    show Q_rmAC Z _ _ _ _ _ _ _ _ _ h0 n0 _ T10.heap _
    rw [e10]
    have lb : own_l1 (cs ++ [p2]) = true := own_TT lcs (own_l1s hc)
    rw [← own_la1 cs p2] at Nq2
    exact ⟨rfl, N10, KK, t2, kt2, cp2, bt2, (by rw [own_la1]; exact kc2), gb2, mb2, E_a1, (by rw [own_cdT lb, ← own_cdT lcs]; exact Cq2), Vq2, Nq2, Mq2, (by rw [own_clT lb, own_byT lb, List.map_append, List.map_append]; exact Aq2), lo2, hi2, Xq2⟩
  · rw [if_neg c14_4]
    have lcs : own_l1 cs = false := own_l1of c14_4
    rw [own_clF lcs, own_byF lcs] at Aq2
    show Go _ _ _ _ _ _ _  T3 (mkF m 14 #[vR a1, vI p2] [(.int (0 : Int32))])
    refine Go.st (fun _ => XS.ifYes X3.here hx rfl (pc0 := 14) (pc' := 45) rfl (hb hby (dq dz31 8 14 rfl)) rfl ((if0 _ _).trans (teq (rfl : (0 : Int32) = (0 : Int32))).1) (by decide) (by decide)) ?_
    show Go _ _ _ _ _ _ _  T3 (mkF m 45 #[vR a1, vI p2] [])
    refine Go.st (fun _ => XS.aloadN X3.here hx rfl (hb hby (dq dz31 27 45 rfl)) rfl rfl) ?_
    show Go _ _ _ _ _ _ _  T3 (mkF m 46 #[vR a1, vI p2] [(.ref a1)])
    obtain ⟨cq11, kq11, q11a, q11b, q11c⟩ := isOf hZ e3q E_a1
    refine Go.pure (w := (some (.int (if (own_cd cs) = 0 then 1 else 0)))) (rest := []) (pc' := 49) (X3.virtualBack hx (y := mY18) (z := mY18) hown (mvT hZ (hwi hw 162 rfl)) (mvT hZ (hwi hw 163 rfl)) (notFace_of_selects (args := #[]) (mvT hZ (hwi hw 165 rfl))) (mvT hZ (hwi hw 165 rfl)) (mvT hZ (hwi hw 164 rfl)) (by decide) (backOf (W := 0) (rmILc l Z a0 hw [] a1 zc (own_cd cs) T2.heap n0 O S_COMPACT hcs Cq2) hZ (hwi hw 166 rfl) (hwi hw 104 rfl) (by decide) (by decide)) q11a q11c (g := (mkF m 46 #[vR a1, vI p2] [(.ref a1)])) rfl (by rw [hml]; rfl) (Steps.refl _) (argsL := []) (rest := []) (lenOf pd___Z rfl) rfl (by show 2 * 0 + _ ≤ _; exact Nat.le_of_eq rfl) (hb hby (dq dz31 28 46 rfl)) (fun _ _ => ⟨rfl, e3q, (by decide : 1 + 0 ≤ _), (by decide : 68 + 0 ≤ _)⟩)) (fun _ _ _ q => q) N3 (fun T11 L11 X11 e11q N11 => ?_)
    show Go _ _ _ _ _ _ _  T11 (mkF m 49 #[vR a1, vI p2] [(.int (if (own_cd cs) = 0 then 1 else 0))])
    rw [if_neg c14_4]
    show Go _ _ _ _ _ _ _  T11 (mkF m 49 #[vR a1, vI p2] [(.int (0 : Int32))])
    refine Go.st (fun _ => XS.ifYes X11.here hx rfl (pc0 := 49) (pc' := 56) rfl (hb hby (dq dz31 29 49 rfl)) rfl ((if0 _ _).trans (teq (rfl : (0 : Int32) = (0 : Int32))).1) (by decide) (by decide)) ?_
    show Go _ _ _ _ _ _ _  T11 (mkF m 56 #[vR a1, vI p2] [])
    refine Go.st (fun _ => XS.aloadN X11.here hx rfl (hb hby (dq dz31 30 56 rfl)) rfl rfl) ?_
    show Go _ _ _ _ _ _ _  T11 (mkF m 57 #[vR a1, vI p2] [(.ref a1)])
    obtain ⟨T12, X12, e12, st12⟩ := getF X11 hx hZ hown (host := "") (Or.inl (hwi hw 108 rfl)) Via.refl e11q Vq2 (g := (mkF m 57 #[vR a1, vI p2] [(.ref a1)])) rfl rfl (hb hby (dq dz31 31 57 rfl))
    refine Go.st st12 ?_
    show Go _ _ _ _ _ _ _  T12 (mkF m 60 #[vR a1, vI p2] [(.ref t2)])
    refine Go.st (fun _ => XS.aloadN X12.here hx rfl (hb hby (dq dz31 32 60 rfl)) rfl rfl) ?_
    refine Go.st (fun _ => XS.dup X12.here hx rfl (hb hby (dq dz31 33 61 rfl)) rfl rfl) ?_
    show Go _ _ _ _ _ _ _  T12 (mkF m 62 #[vR a1, vI p2] [(.ref a1), (.ref a1), (.ref t2)])
    obtain ⟨T13, X13, e13, st13⟩ := getF X12 hx hZ hown (host := "") (Or.inl (hwi hw 126 rfl)) Via.refl e12 Nq2 (g := (mkF m 62 #[vR a1, vI p2] [(.ref a1), (.ref a1), (.ref t2)])) rfl rfl (hb hby (dq dz31 34 62 rfl))
    refine Go.st st13 ?_
    show Go _ _ _ _ _ _ _  T13 (mkF m 65 #[vR a1, vI p2] [(.int (Int32.ofNat cs.length)), (.ref a1), (.ref t2)])
    refine Go.st (fun _ => XS.dupX1 X13.here hx rfl (hb hby (dq dz31 35 65 rfl)) rfl rfl rfl) ?_
    show Go _ _ _ _ _ _ _  T13 (mkF m 66 #[vR a1, vI p2] [(.int (Int32.ofNat cs.length)), (.ref a1), (.int (Int32.ofNat cs.length)), (.ref t2)])
    refine Go.st (fun _ => XS.iconst X13.here hx rfl (hb hby (dq dz31 36 66 rfl))) ?_
    refine Go.st (fun _ => XS.iadd X13.here hx rfl (hb hby (dq dz31 37 67 rfl)) rfl) ?_
    show Go _ _ _ _ _ _ _  T13 (mkF m 68 #[vR a1, vI p2] [(.int ((Int32.ofNat cs.length) + (1 : Int32))), (.ref a1), (.int (Int32.ofNat cs.length)), (.ref t2)])
    rw [own_1inc cs.length]
    show Go _ _ _ _ _ _ _  T13 (mkF m 68 #[vR a1, vI p2] [(.int (Int32.ofNat (cs.length + 1))), (.ref a1), (.int (Int32.ofNat cs.length)), (.ref t2)])
    obtain ⟨T14, h14, X14, e14, W14, st14⟩ := putF X13 hx hZ hown (host := "") (Or.inl (hwi hw 126 rfl)) Via.refl e13 Nq2 E_a1 (Or.inl (hwi hw 127 rfl)) (hwi hw 95 rfl) (ty := .int) (by decide) rfl rfl (g := (mkF m 68 #[vR a1, vI p2] [(.int (Int32.ofNat (cs.length + 1))), (.ref a1), (.int (Int32.ofNat cs.length)), (.ref t2)])) rfl rfl (hb hby (dq dz31 38 68 rfl))
    refine Go.st st14 ?_
    have Nq2 : Fld Z h14 a1 "java/lang/AbstractStringBuilder" "count" "I" (.int (Int32.ofNat (cs.length + 1))) := Nq2.same W14
    have N14 := Fr.snoc X14 N11 g_a1
    have ne_t2_a1 : t2 ≠ a1 := (Ne.symm (Exa.neArv E_a1 Aq2 (hwi hw 95 rfl)))
    have E_a1 := E_a1.wr W14
    have Xq2 := Xq2.imp (fun q => q.wr W14) id
    have Cq2 := Cq2.other W14 (Or.inr (slot_ne (Or.inl (hwi hw 111 rfl)) (Or.inl (hwi hw 127 rfl)) (by decide) (t := .byte) (t' := .int) (by decide) (by decide)))
    have Vq2 := Vq2.other W14 (Or.inr (slot_ne (Or.inl (hwi hw 109 rfl)) (Or.inl (hwi hw 127 rfl)) (by decide) (t := (.array .byte)) (t' := .int) (by decide) (by decide)))
    have Mq2 := Mq2.other W14 (Or.inr (slot_ne (Or.inl (hwi hw 295 rfl)) (Or.inl (hwi hw 127 rfl)) (by decide) (t := .boolean) (t' := .int) (by decide) (by decide)))
    have Aq2 := Aq2.other W14 ne_t2_a1
    have O := O.wr W14 g_a1
    have KK := KK.wr W14 (Or.inl (List.mem_of_getElem? (i := 0) rfl))
    show Go _ _ _ _ _ _ _  T14 (mkF m 71 #[vR a1, vI p2] [(.int (Int32.ofNat cs.length)), (.ref t2)])
    refine Go.st (fun _ => XS.iloadN X14.here hx rfl (hb hby (dq dz31 39 71 rfl)) rfl) ?_
    show Go _ _ _ _ _ _ _  T14 (mkF m 72 #[vR a1, vI p2] [(.int p2), (.int (Int32.ofNat cs.length)), (.ref t2)])
    obtain ⟨_, _, ⟨T15, L15, k15, n15⟩, -, X15, ⟨Lc15, hQ15, l15, y15, z15⟩, st15⟩ := Jvm.LawKit.callS X14 hx (y := mY63) hown (mvT hZ (hwi hw 287 rfl)) (mvT hZ (hwi hw 288 rfl)) (mvT hZ (hwi hw 21 rfl)) (mvT hZ (hwi hw 289 rfl)) (by decide) (backOf (W := 0) (rmPSB l Z a0 hw [] t2 p2 fm kt2 cp2 ((own_ub cs).map Value.int) cs.length h14 n0 O S_SIO ref_fm S_ad S_hi S_lo Aq2 (by rw [List.length_map, own_ubl]) (by omega) (by omega) g_t2) hZ (hwi hw 289 rfl) (hwi hw 21 rfl) (by decide) (by decide)) (g := (mkF m 72 #[vR a1, vI p2] [(.int p2), (.int (Int32.ofNat cs.length)), (.ref t2)])) rfl (by rw [hml]; rfl) (argsL := [(.ref t2), (.int (Int32.ofNat cs.length)), (.int p2)]) (rest := []) (lenOf pd___BII_V rfl) rfl (by show 2 * 0 + _ ≤ _; exact Nat.le_of_eq rfl) (hb hby (dq dz31 40 72 rfl)) (fun _ _ => ⟨rfl, e14, (by decide : 1 + 0 ≤ _), (by decide : 68 + 0 ≤ _)⟩)
    dsimp only [Pt.U, Pt.locs, Pt.cells, Pt.slots] at X15 l15 y15 z15 st15 hQ15
    rw [l15, y15, z15] at X15
    have X15 : Stand p l e _ _ m _ below meth c T15 _ 1 68 := X15
    obtain ⟨rfl, N15q, K15q, Q15⟩ := hQ15
    have N15 := Fr.app N14 N15q
    refine Go.st st15 ?_
    have E_a1 := E_a1.keep K15q
    have Xq2 := Xq2.imp (fun q => q.keep K15q) id
    have Cq2 := Cq2.keep K15q (ninS (Ne.symm ne_t2_a1) nin0)
    have Vq2 := Vq2.keep K15q (ninS (Ne.symm ne_t2_a1) nin0)
    have Nq2 := Nq2.keep K15q (ninS (Ne.symm ne_t2_a1) nin0)
    have Mq2 := Mq2.keep K15q (ninS (Ne.symm ne_t2_a1) nin0)
    have O := O.keep K15q (allS g_t2 all0)
    have KK := KK.trans K15q (allS (own_wi bt2) all0)
    show Go _ _ _ _ _ _ _  T15 (mkF m 75 #[vR a1, vI p2] [])
    refine Go.st (fun _ => XS.aloadN X15.here hx rfl (hb hby (dq dz31 25 75 rfl)) rfl rfl) ?_
    show Go _ _ _ _ _ _ _  T15 (mkF m 76 #[vR a1, vI p2] [(.ref a1)])
    refine Go.retR X15 hlk hx Bd.returns rfl rfl rfl (hb hby (dq dz31 26 76 rfl)) (by decide) (by decide) ?_
    show Q_rmAC Z _ _ _ _ _ _ _ _ _ h0 n0 _ T15.heap _
    have lb : own_l1 (cs ++ [p2]) = false := own_Fl lcs
    rw [← own_la1 cs p2] at Nq2
    exact ⟨rfl, N15, KK, t2, kt2, cp2, bt2, (by rw [own_la1]; exact kc2), gb2, mb2, E_a1, (by rw [own_cdF lb, ← own_cdF lcs]; exact Cq2), Vq2, Nq2, Mq2, (by rw [own_clF lb, own_byF lb, own_uba, List.map_append]; simpa [own_ub] using Q15), lo2, hi2, Xq2⟩
def Q_rmSC (Z : State) (a1 : Addr) (p2 : Int32) (zc : Int32) (fm : Value) (t : Addr) (kd : ClassId) (cs : List Int32) (cap : Nat) (m0 : Nat) (h0 : Heap) (n0 : Nat) (v : Option Value) (h : Heap) (L : List Loc) : Prop := v = some (.ref a1) ∧ Fr n0 L ∧ Keep h0 h [a1, t] ∧ ∃ (b : Addr) (kb : ClassId) (cap2 : Nat), (b = t ∨ h0.size ≤ b) ∧ (cs ++ [p2]).length ≤ cap2 ∧ n0 ≤ b ∧ m0 ≤ b ∧ Exa Z h a1 "java/lang/StringBuilder" ∧ Fld Z h a1 "java/lang/AbstractStringBuilder" "coder" "B" (.int (own_cd (cs ++ [p2]))) ∧ Fld Z h a1 "java/lang/AbstractStringBuilder" "value" "[B" (.ref b) ∧ Fld Z h a1 "java/lang/AbstractStringBuilder" "count" "I" (.int (Int32.ofNat (cs ++ [p2]).length)) ∧ Fld Z h a1 "java/lang/AbstractStringBuilder" "maybeLatin1" "Z" (.int 0) ∧ Arv Z h b kb .byte (Int32.ofNat (own_cl (cs ++ [p2]) cap2)) ((own_by (cs ++ [p2])).map Value.int) (.int 0) ∧ 16 ≤ cap2 ∧ cap2 ≤ 34 ∧ (Exa Z h b "[B" ∨ 17 < cap2)
theorem rmSC (l : Launch) (Z : State) (a0 : Array Value) (hw : HWt a0 Z) (ws : List Jvm.Cond) (a1 : Addr) (p2 : Int32) (zc : Int32) (fm : Value) (t : Addr) (kd : ClassId) (cs : List Int32) (cap : Nat) (m0 : Nat) (h0 : Heap) (n0 : Nat) (O : Old Z n0 h0) (S_COMPACT : Sta Z Z.heap "java/lang/String" "COMPACT_STRINGS" "Z" (.int zc)) (hcs : ¬ zc = 0) (S_SIO : Sta Z Z.heap "jdk/internal/util/Preconditions" "SIOOBE_FORMATTER" "Ljava/util/function/BiFunction;" fm) (ref_fm : fm.isRef = true) (S_ad : Sta Z Z.heap "java/lang/StringUTF16" "$assertionsDisabled" "Z" (.int 1)) (S_hi : Sta Z Z.heap "java/lang/StringUTF16" "HI_BYTE_SHIFT" "I" (.int 0)) (S_lo : Sta Z Z.heap "java/lang/StringUTF16" "LO_BYTE_SHIFT" "I" (.int 8)) (E_a1 : Exa Z h0 a1 "java/lang/StringBuilder") (C_a1 : Fld Z h0 a1 "java/lang/AbstractStringBuilder" "coder" "B" (.int (own_cd cs))) (V_a1 : Fld Z h0 a1 "java/lang/AbstractStringBuilder" "value" "[B" (.ref t)) (N_a1 : Fld Z h0 a1 "java/lang/AbstractStringBuilder" "count" "I" (.int (Int32.ofNat cs.length))) (M_a1 : Fld Z h0 a1 "java/lang/AbstractStringBuilder" "maybeLatin1" "Z" (.int 0)) (A_t : Arv Z h0 t kd .byte (Int32.ofNat (own_cl cs cap)) ((own_by cs).map Value.int) (.int 0)) (K_a1 : cs.length ≤ cap) (B_a1 : 16 ≤ cap) (D_a1 : cap ≤ 34) (g_a1 : n0 ≤ a1) (g_t : n0 ≤ t) (hc : ¬ (255 : Int32) < p2) (hnc : nar .char p2 = p2) (hl17 : cs.length + 1 ≤ 17) (hm1 : m0 ≤ t) (hm2 : m0 ≤ h0.size) (XX : Exa Z h0 t "[B" ∨ 17 < cap) :
    Met l mY65 (Jvm.Cond.code mY65 jdk_67_method_14_code 2 (some (.object "java/lang/StringBuilder")) :: ws) rz6_1_68_88 #[(.ref a1), (.int p2)] Z h0 (Q_rmSC Z a1 p2 zc fm t kd cs cap m0 h0 n0) := by
  refine MetFree.of_bodySF (plainFor_of_name pn_30) hisR ?_
  intro p e s m args below meth c s₁ Bd hml0 hP hK
  obtain ⟨rfl, hZ, hh⟩ := hP
  have hx := Bd.exec
  have hby := Bd.bytes
  have hml : c.maxLocals = 2 := hml0
  have hown : s.vm.findClass "java/lang/StringBuilder" = some m.cls := findClass_of_methodNamed Bd.named
  have hlk : meth.locks = false := BodyLoose.notSynchronized Bd
  have X0 : Stand p l e rz6_1_68_88 s m #[(.ref a1), (.int p2)] below meth c s₁ [] 0 0 := Stand.of_body Bd
  have e0 : s₁.heap = h0 := by rw [← hh, Bd.state]; rfl
  have N0 := Fr.nil n0
  have KK : Keep h0 h0 [a1, t] := Keep.refl h0 _
  show Go p e below s rz6_1_68_88.cells rz6_1_68_88.slots (Q_rmSC Z a1 p2 zc fm t kd cs cap m0 h0 n0) s₁ (entryFrame m #[(.ref a1), (.int p2)] 2)
  refine Go.eq (ef_rmSC m a1 p2) ?_
  show Go _ _ _ _ _ _ _  s₁ (mkF m 0 #[vR a1, vI p2] [])
  refine Go.st (fun _ => XS.aloadN X0.here hx rfl (hb hby (dq dz30 0 0 rfl)) rfl rfl) ?_
  refine Go.st (fun _ => XS.iloadN X0.here hx rfl (hb hby (dq dz30 1 1 rfl)) rfl) ?_
  show Go _ _ _ _ _ _ _  s₁ (mkF m 2 #[vR a1, vI p2] [(.int p2), (.ref a1)])
  obtain ⟨_, _, ⟨T1, L1, k1, n1⟩, -, X1, ⟨Lc1, hQ1, l1, y1, z1⟩, st1⟩ := superBack X0 hx hZ (y := mY64) hown (hwi hw 158 rfl) (own_same (hwi hw 160 rfl) (hwi hw 131 rfl) rfl (by decide)) (hwi hw 159 rfl) (hwi hw 122 rfl) (by decide) (backOf (W := 0) (rmAC l Z a0 hw [] a1 p2 zc fm t kd cs cap m0 h0 n0 O S_COMPACT hcs S_SIO ref_fm S_ad S_hi S_lo E_a1 C_a1 V_a1 N_a1 M_a1 A_t K_a1 B_a1 D_a1 g_a1 g_t hc hnc hl17 hm1 hm2 XX) hZ (hwi hw 161 rfl) (hwi hw 104 rfl) (by decide) (by decide)) e0 (Ins.self E_a1) (g := (mkF m 2 #[vR a1, vI p2] [(.int p2), (.ref a1)])) rfl (by rw [hml]; rfl) (hwi hw 161 rfl) (argsL := [(.int p2)]) (rest := []) (lenOf pd__C_Ljava_lang_AbstractStringBuilder_ rfl) rfl (by show 2 * 0 + _ ≤ _; exact Nat.le_of_eq rfl) (hb hby (dq dz30 2 2 rfl)) (fun _ _ => ⟨rfl, e0, (by decide : 0 + 1 ≤ _), (by decide : 0 + 68 ≤ _)⟩)
  dsimp only [Pt.U, Pt.locs, Pt.cells, Pt.slots] at X1 l1 y1 z1 st1 hQ1
  rw [l1, y1, z1] at X1
  have X1 : Stand p l e _ _ m _ below meth c T1 _ 1 68 := X1
  obtain ⟨rfl, N1q, K1q, Q1⟩ := hQ1
  have N1 := Fr.app N0 N1q
  refine Go.tr st1 ?_
  have E_a1 := E_a1.keep K1q
  have XX := XX.imp (fun q => q.keep K1q) id
  have O := O.keep K1q (allS g_a1 (allS g_t all0))
  have KK := KK.trans K1q (allS (Or.inl (List.mem_of_getElem? (i := 0) rfl)) (allS (Or.inl (List.mem_of_getElem? (i := 1) rfl)) all0))
  show Go _ _ _ _ _ _ _  T1 (mkF m 5 #[vR a1, vI p2] [(.ref a1)])
  refine Go.st (fun _ => XS.pop X1.here hx rfl (hb hby (dq dz30 3 5 rfl)) rfl rfl) ?_
  refine Go.st (fun _ => XS.aloadN X1.here hx rfl (hb hby (dq dz30 4 6 rfl)) rfl rfl) ?_
  show Go _ _ _ _ _ _ _  T1 (mkF m 7 #[vR a1, vI p2] [(.ref a1)])
  refine Go.retR X1 hlk hx Bd.returns rfl rfl rfl (hb hby (dq dz30 5 7 rfl)) (by decide) (by decide) ?_
  show Q_rmSC Z _ _ _ _ _ _ _ _ _ h0 n0 _ T1.heap _
  exact ⟨rfl, N1, KK, Q1⟩
def Q_rmPx (Z : State) (a1 : Addr) (a2 : Addr) (zc : Int32) (fm : Value) (z1 : Addr) (k1 : ClassId) (r1 : List Int32) (z2 : Addr) (k2 : ClassId) (r2 : List Int32) (kq : Nat) (h0 : Heap) (n0 : Nat) (v : Option Value) (h : Heap) (L : List Loc) : Prop := ∃ (x t : Addr) (kt : ClassId), v = some (.ref x) ∧ Fr n0 L ∧ Ext h0 h ∧ Exa Z h x "java/lang/String" ∧ Fld Z h x "java/lang/String" "coder" "B" (.int (own_cd (own_M r1 r2))) ∧ Fld Z h x "java/lang/String" "value" "[B" (.ref t) ∧ Arv Z h t kt .byte (Int32.ofNat (own_by (own_M r1 r2)).length) ((own_by (own_M r1 r2)).map Value.int) (.int 0)
theorem rmPx (l : Launch) (Z : State) (a0 : Array Value) (hw : HWt a0 Z) (ws : List Jvm.Cond) (a1 : Addr) (a2 : Addr) (zc : Int32) (fm : Value) (z1 : Addr) (k1 : ClassId) (r1 : List Int32) (z2 : Addr) (k2 : ClassId) (r2 : List Int32) (kq : Nat) (h0 : Heap) (n0 : Nat) (O : Old Z n0 h0) (hEL : EW Z a0 EL) (wS : ∀ a ∈ Bundle.stringAtoms, a.before a0 Z = true) (S_COMPACT : Sta Z Z.heap "java/lang/String" "COMPACT_STRINGS" "Z" (.int zc)) (hcs : ¬ zc = 0) (S_SIO : Sta Z Z.heap "jdk/internal/util/Preconditions" "SIOOBE_FORMATTER" "Ljava/util/function/BiFunction;" fm) (ref_fm : fm.isRef = true) (S_ad : Sta Z Z.heap "java/lang/StringUTF16" "$assertionsDisabled" "Z" (.int 1)) (S_hi : Sta Z Z.heap "java/lang/StringUTF16" "HI_BYTE_SHIFT" "I" (.int 0)) (S_lo : Sta Z Z.heap "java/lang/StringUTF16" "LO_BYTE_SHIFT" "I" (.int 8)) (E_a1 : Exa Z h0 a1 "java/lang/String") (C_a1 : Fld Z h0 a1 "java/lang/String" "coder" "B" (.int (own_cd r1))) (V_a1 : Fld Z h0 a1 "java/lang/String" "value" "[B" (.ref z1)) (A_z1 : Arv Z h0 z1 k1 .byte (Int32.ofNat (own_by r1).length) ((own_by r1).map Value.int) (.int 0)) (E_a2 : Exa Z h0 a2 "java/lang/String") (C_a2 : Fld Z h0 a2 "java/lang/String" "coder" "B" (.int (own_cd r2))) (V_a2 : Fld Z h0 a2 "java/lang/String" "value" "[B" (.ref z2)) (A_z2 : Arv Z h0 z2 k2 .byte (Int32.ofNat (own_by r2).length) ((own_by r2).map Value.int) (.int 0)) (hb1 : r1.length ≤ 2) (h1 : 1 ≤ r2.length) (hb2 : r2.length ≤ 6) (hr_a1 : ∀ j, j < r1.length → nar .char (r1.getD j 0) = r1.getD j 0) (hr_a2 : ∀ j, j < r2.length → nar .char (r2.getD j 0) = r2.getD j 0) (l1n : own_l1 r1 = true) (hat0 : own_at r2 0 kq) (hkq : kq ≤ 3) :
    MetFree l mY66 (head1 (Jvm.Cond.code mY66 prog_4_method_3_code 5 (some (.object "java/lang/String")) :: ws) rz10_16_700_150) (fun a U => a = #[(.ref a1), (.ref a2)] ∧ Z.Warmed39 U.vm ∧ U.heap = h0 ∧ CHv Z EL U.vm h0 ∧ ∀ x ∈ ([] : List Addr), Safe Z EL U.vm h0 x) (fun _ _ _ _ _ => True) (fun _ U o U' => ∃ v L, o = .returned v ∧ Q_rmPx Z a1 a2 zc fm z1 k1 r1 z2 k2 r2 kq h0 n0 v U'.heap L ∧ CHr Z EL U.vm U.heap U'.vm U'.heap ∧ ReturnedEndW U o U' L rz10_16_700_150.cells rz10_16_700_150.slots) := by
  refine MetFree.of_bodySF (plainFor_of_name pn_12) hisR ?_
  intro p e s m args below meth c s₁ Bd hml0 hP hK
  obtain ⟨rfl, hZ, hh, HH, hSF⟩ := hP
  have hx := Bd.exec
  have hby := Bd.bytes
  have hml : c.maxLocals = 5 := hml0
  have hown : s.vm.findClass "com/example/oplim/oplim/Keys" = some m.cls := findClass_of_methodNamed Bd.named
  have hlk : meth.locks = false := BodyLoose.notSynchronized Bd
  have X0 : Stand p l e rz10_16_700_150 (s.setVm s.vm) m #[(.ref a1), (.ref a2)] below meth c s₁ [] 0 0 := Stand.of_body Bd
  have e0 : s₁.heap = h0 := by rw [← hh, Bd.state]; rfl
  have N0 := Fr.nil n0
  have KK : Keep h0 h0 [] := Keep.refl h0 _
  have hS : s.Since s.vm h0.size := own_since s _
  have hk : h0.size ≤ h0.size := Nat.le_refl _
  have RR : CHr Z EL s.vm h0 s.vm h0 := CHr.refl HH
  suffices hgo : GoH p e below s rz10_16_700_150.cells rz10_16_700_150.slots Z h0 EL (Q_rmPx Z a1 a2 zc fm z1 k1 r1 z2 k2 r2 kq h0 n0) s₁ (entryFrame m #[(.ref a1), (.ref a2)] 5) by
    obtain ⟨s₂, o, q1, q2, q3, v, L, q4, q5, q6, q7⟩ := hgo; exact ⟨s₂, o, q1, q2, q3, v, L, q4, q5, hh ▸ q6, q7⟩
  refine GoH.eq (ef_rmPx m a1 a2) ?_
  show GoH _ _ _ _ _ _ _ _ _ _  s₁ (mkF m 0 #[vR a1, vR a2, uS, uS, uS] [])
  refine GoH.st (fun _ => XS.aloadN X0.here hx rfl (hb hby (dq dz12 0 0 rfl)) rfl rfl) ?_
  show GoH _ _ _ _ _ _ _ _ _ _  s₁ (mkF m 1 #[vR a1, vR a2, uS, uS, uS] [(.ref a2)])
  refine GoH.st (fun _ => XS.ifnullNo X0.here hx rfl (hb hby (dq dz12 1 1 rfl)) rfl) ?_
  show GoH _ _ _ _ _ _ _ _ _ _  s₁ (mkF m 4 #[vR a1, vR a2, uS, uS, uS] [])
  refine GoH.st (fun _ => XS.aloadN X0.here hx rfl (hb hby (dq dz12 2 4 rfl)) rfl rfl) ?_
  show GoH _ _ _ _ _ _ _ _ _ _  s₁ (mkF m 5 #[vR a1, vR a2, uS, uS, uS] [(.ref a2)])
  obtain ⟨cq1, kq1, q1a, q1b, q1c⟩ := isOf hZ e0 E_a2
  refine GoH.pure (w := (some (.int (0 : Int32)))) (rest := []) (pc' := 8) (X0.virtualBack hx (y := mY54) (z := mY54) hown (mvT hZ (hwi hw 52 rfl)) (mvT hZ (hwi hw 53 rfl)) (notFace_of_selects (args := #[]) (mvT hZ (hwi hw 55 rfl))) (mvT hZ (hwi hw 55 rfl)) (mvT hZ (hwi hw 54 rfl)) (by decide) (backOf (W := 0) (rmEm l Z a0 hw [] a2 z2 k2 r2 h0 n0 O E_a2 C_a2 V_a2 A_z2 h1 (by omega)) hZ (hwi hw 56 rfl) (hwi hw 7 rfl) (by decide) (by decide)) q1a q1c (g := (mkF m 5 #[vR a1, vR a2, uS, uS, uS] [(.ref a2)])) rfl (by rw [hml]; rfl) (Steps.refl _) (argsL := []) (rest := []) (lenOf pd___Z rfl) rfl (by show 2 * 0 + _ ≤ _; exact Nat.le_of_eq rfl) (hb hby (dq dz12 3 5 rfl)) (fun _ _ => ⟨rfl, e0, (by decide : 0 + 0 ≤ _), (by decide : 0 + 0 ≤ _)⟩)) (fun _ _ _ q => q) N0 (fun T1 L1 X1 e1q N1 => ?_)
  show GoH _ _ _ _ _ _ _ _ _ _  T1 (mkF m 8 #[vR a1, vR a2, uS, uS, uS] [(.int (0 : Int32))])
  refine GoH.st (fun _ => XS.ifYes X1.here hx rfl (pc0 := 8) (pc' := 21) rfl (hb hby (dq dz12 4 8 rfl)) rfl ((if0 _ _).trans (teq (rfl : (0 : Int32) = (0 : Int32))).1) (by decide) (by decide)) ?_
  show GoH _ _ _ _ _ _ _ _ _ _  T1 (mkF m 21 #[vR a1, vR a2, uS, uS, uS] [])
  refine GoH.st (fun _ => XS.iconst X1.here hx rfl (hb hby (dq dz12 5 21 rfl))) ?_
  refine GoH.st (fun _ => XS.istoreN X1.here hx rfl (hb hby (dq dz12 6 22 rfl)) rfl (l' := #[vR a1, vR a2, vI (0 : Int32), uS, uS]) rfl) ?_
  refine GoH.st (fun _ => XS.iconst X1.here hx rfl (hb hby (dq dz12 7 23 rfl))) ?_
  refine GoH.st (fun _ => XS.istoreN X1.here hx rfl (hb hby (dq dz12 8 24 rfl)) rfl (l' := #[vR a1, vR a2, vI (0 : Int32), vI (0 : Int32), uS]) rfl) ?_
  have loop : ∀ (k9 : Nat) (T9 : State) (Lz : List Loc) (bt : Nat) (i : Nat) (s4 : Slot) (nq : Nat), nq = k9 → Stand p l e rz10_16_700_150 (s.setVm s.vm) m #[(.ref a1), (.ref a2)] below meth c T9 Lz 0 0 → T9.heap = h0 → Fr n0 Lz → (s4 = uS ∨ ∃ z, s4 = vI z) → (own_at r2 i nq) → (bt + 4 * nq ≤ 12) → GoH p e below s rz10_16_700_150.cells rz10_16_700_150.slots Z h0 EL (Q_rmPx Z a1 a2 zc fm z1 k1 r1 z2 k2 r2 kq h0 n0) T9 (mkF m 25 #[vR a1, vR a2, vI (Int32.ofNat bt), vI (Int32.ofNat i), s4] []) := by
    intro k9
    induction k9 with
    | zero =>
      intro T9 Lz bt i s4 nq hk9 X9 e9 N9 hs4 hat hbt
      have hz : i = r2.length := own_at0 (hk9 ▸ hat)
      have hb12 : bt ≤ 12 := by omega
      refine GoH.st (fun _ => XS.iloadN X9.here hx rfl (hb hby (dq dz12 9 25 rfl)) rfl) ?_
      refine GoH.st (fun _ => XS.aloadN X9.here hx rfl (hb hby (dq dz12 10 26 rfl)) rfl rfl) ?_
      show GoH _ _ _ _ _ _ _ _ _ _  T9 (mkF m 27 #[vR a1, vR a2, vI (Int32.ofNat bt), vI (Int32.ofNat i), s4] [(.ref a2), (.int (Int32.ofNat i))])
      obtain ⟨cq2, kq2, q2a, q2b, q2c⟩ := isOf hZ e9 E_a2
      refine GoH.pure (w := (some (.int (Int32.ofNat r2.length)))) (rest := [(.int (Int32.ofNat i))]) (pc' := 30) (X9.virtualBack hx (y := mY1) (z := mY1) hown (mvT hZ (hwi hw 57 rfl)) (mvT hZ (hwi hw 58 rfl)) (notFace_of_selects (args := #[]) (mvT hZ (hwi hw 60 rfl))) (mvT hZ (hwi hw 60 rfl)) (mvT hZ (hwi hw 59 rfl)) (by decide) (backOf (W := 1) (rmLenU l Z a0 hw [] a2 zc z2 k2 r2 h0 n0 O S_COMPACT hcs E_a2 C_a2 V_a2 A_z2 (by omega)) hZ (hwi hw 61 rfl) (hwi hw 7 rfl) (by decide) (by decide)) q2a q2c (g := (mkF m 27 #[vR a1, vR a2, vI (Int32.ofNat bt), vI (Int32.ofNat i), s4] [(.ref a2), (.int (Int32.ofNat i))])) rfl (by rw [hml]; rfl) (Steps.refl _) (argsL := []) (rest := [(.int (Int32.ofNat i))]) (lenOf pd___I rfl) rfl (by show 2 * 0 + _ ≤ _; exact Nat.le_of_eq rfl) (hb hby (dq dz12 11 27 rfl)) (fun _ _ => ⟨rfl, e9, (by decide : 0 + 0 ≤ _), (by decide : 0 + 0 ≤ _)⟩)) (fun _ _ _ q => q) N9 (fun T2 L2 X2 e2q N2 => ?_)
      show GoH _ _ _ _ _ _ _ _ _ _  T2 (mkF m 30 #[vR a1, vR a2, vI (Int32.ofNat bt), vI (Int32.ofNat i), s4] [(.int (Int32.ofNat r2.length)), (.int (Int32.ofNat i))])
      refine GoH.st (fun _ => XS.icmpYes X2.here hx rfl (pc0 := 30) (pc' := 107) rfl (hb hby (dq dz12 12 30 rfl)) rfl (flt (fun q => absurd ((own_olt (by omega) (by omega)).mp q) (by omega) : ¬ ((Int32.ofNat i) < (Int32.ofNat r2.length)))).2.1 (by decide) (by decide)) ?_
      show GoH _ _ _ _ _ _ _ _ _ _  T2 (mkF m 107 #[vR a1, vR a2, vI (Int32.ofNat bt), vI (Int32.ofNat i), s4] [])
      refine GoH.st (fun _ => XS.iloadN X2.here hx rfl (hb hby (dq dz12 13 107 rfl)) rfl) ?_
      refine GoH.st (fun _ => XS.sipush X2.here hx rfl (hb hby (dq dz12 14 108 rfl))) ?_
      show GoH _ _ _ _ _ _ _ _ _ _  T2 (mkF m 111 #[vR a1, vR a2, vI (Int32.ofNat bt), vI (Int32.ofNat i), s4] [(.int (512 : Int32)), (.int (Int32.ofNat bt))])
      refine GoH.st (fun _ => XS.icmpYes X2.here hx rfl (pc0 := 111) (pc' := 124) rfl (hb hby (dq dz12 15 111 rfl)) rfl (flt (fun q => absurd ((own_olt (a := 512) (by omega) (by omega)).mp q) (by omega) : ¬ ((512 : Int32) < (Int32.ofNat bt)))).2.2.2 (by decide) (by decide)) ?_
      show GoH _ _ _ _ _ _ _ _ _ _  T2 (mkF m 124 #[vR a1, vR a2, vI (Int32.ofNat bt), vI (Int32.ofNat i), s4] [])
      obtain ⟨T3, h3, X3, e3, E3, A3, D3, U3, st3⟩ := newO X2 hx hZ hown (hwi hw 94 rfl) (hwi hw 95 rfl) (hwi hw 96 rfl) e2q (g := (mkF m 124 #[vR a1, vR a2, vI (Int32.ofNat bt), vI (Int32.ofNat i), s4] [])) rfl (hb hby (dq dz12 16 124 rfl)) (by decide) (by decide)
      obtain ⟨b3, g3⟩ : ∃ z, z = h0.size := ⟨_, rfl⟩
      rw [← g3] at A3 D3 U3 st3
      refine GoH.st st3 ?_
      have g_b3 : n0 ≤ b3 := by rw [g3]; exact own_le O
      have Sf_b3 : Safe Z EL s.vm h0 b3 := Safe.new (Nat.le_of_eq g3.symm)
      have sz_b3 : h0.size ≤ b3 := by rw [g3]; exact KK.1
      have ne_a1_b3 : a1 ≠ b3 := Nat.ne_of_lt (by rw [g3]; exact E_a1.lt)
      have ne_z1_b3 : z1 ≠ b3 := Nat.ne_of_lt (by rw [g3]; exact A_z1.lt)
      have ne_a2_b3 : a2 ≠ b3 := Nat.ne_of_lt (by rw [g3]; exact E_a2.lt)
      have ne_z2_b3 : z2 ≠ b3 := Nat.ne_of_lt (by rw [g3]; exact A_z2.lt)
      have E_a1 := E_a1.ext E3
      have A_z1 := A_z1.ext E3
      have C_a1 := C_a1.ext E3
      have V_a1 := V_a1.ext E3
      have E_a2 := E_a2.ext E3
      have A_z2 := A_z2.ext E3
      have C_a2 := C_a2.ext E3
      have V_a2 := V_a2.ext E3
      have Sf_b3 := Safe.ext E3 HH Sf_b3
      have RR := RR.trans (CHr.ext E3 HH)
      have HH := HH.ext E3
      have hk := Nat.le_trans hk E3.1
      have O := O.ext E3
      have KK := KK.ext E3
      have E_b3 := A3
      have F_value_b3 : Fld Z h3 b3 "java/lang/AbstractStringBuilder" "value" "[B" .null := D3 (Or.inl (hwi hw 109 rfl)) (ty := (.array .byte)) (by decide)
      have F_coder_b3 : Fld Z h3 b3 "java/lang/AbstractStringBuilder" "coder" "B" (.int (0 : Int32)) := D3 (Or.inl (hwi hw 111 rfl)) (ty := .byte) (by decide)
      have F_count_b3 : Fld Z h3 b3 "java/lang/AbstractStringBuilder" "count" "I" (.int (0 : Int32)) := D3 (Or.inl (hwi hw 127 rfl)) (ty := .int) (by decide)
      have F_maybeLatin1_b3 : Fld Z h3 b3 "java/lang/AbstractStringBuilder" "maybeLatin1" "Z" (.int (0 : Int32)) := D3 (Or.inl (hwi hw 295 rfl)) (ty := .boolean) (by decide)
      show GoH _ _ _ _ _ _ _ _ _ _  T3 (mkF m 127 #[vR a1, vR a2, vI (Int32.ofNat bt), vI (Int32.ofNat i), s4] [(.ref b3)])
      refine GoH.st (fun _ => XS.dup X3.here hx rfl (hb hby (dq dz12 17 127 rfl)) rfl rfl) ?_
      show GoH _ _ _ _ _ _ _ _ _ _  T3 (mkF m 128 #[vR a1, vR a2, vI (Int32.ofNat bt), vI (Int32.ofNat i), s4] [(.ref b3), (.ref b3)])
      obtain ⟨_, _, ⟨T4, L4, k4, n4⟩, -, X4, ⟨Lc4, hQ4, l4, y4, z4⟩, st4⟩ := X3.specialBack hx (y := mY14) rfl hown (mvT hZ (hwi hw 97 rfl)) (mvT hZ (hwi hw 98 rfl)) (mvT hZ (hwi hw 99 rfl)) (by decide) (backOf (W := 1) (rmI0 l Z a0 hw [] b3 zc h3 n0 O S_COMPACT hcs E_b3 F_value_b3 F_coder_b3 F_count_b3 F_maybeLatin1_b3 g_b3) hZ (hwi hw 99 rfl) (hwi hw 96 rfl) (by decide) (by decide)) (g := (mkF m 128 #[vR a1, vR a2, vI (Int32.ofNat bt), vI (Int32.ofNat i), s4] [(.ref b3), (.ref b3)])) rfl (by rw [hml]; rfl) (Steps.refl _) (a := b3) (argsL := []) (rest := [(.ref b3)]) (lenOf pd___V rfl) rfl (by show 2 * 0 + _ ≤ _; exact Nat.le_of_eq rfl) (hb hby (dq dz12 18 128 rfl)) (fun _ _ => ⟨rfl, e3, (by decide : 1 + 1 ≤ _), (by decide : 4 + 16 ≤ _)⟩)
      dsimp only [Pt.U, Pt.locs, Pt.cells, Pt.slots] at X4 l4 y4 z4 st4 hQ4
      rw [l4, y4, z4] at X4
      have X4 : Stand p l e _ _ m _ below meth c T4 _ 2 20 := X4
      obtain ⟨rfl, N4q, K4q, Eq4, Cq4, Nq4, Mq4, t4, kt4, lt4, Vq4, Aq4, Xq4⟩ := hQ4
      have N4 := Fr.app N2 N4q
      refine GoH.tr st4 ?_
      have g_t4 : n0 ≤ t4 := Nat.le_trans (own_le O) lt4
      have Sf_t4 : Safe Z EL s.vm h3 t4 := Safe.new lt4
      have sz_t4 : h0.size ≤ t4 := Nat.le_trans KK.1 lt4
      have ne_a1_t4 : a1 ≠ t4 := Nat.ne_of_lt (Nat.lt_of_lt_of_le E_a1.lt lt4)
      have ne_z1_t4 : z1 ≠ t4 := Nat.ne_of_lt (Nat.lt_of_lt_of_le A_z1.lt lt4)
      have ne_a2_t4 : a2 ≠ t4 := Nat.ne_of_lt (Nat.lt_of_lt_of_le E_a2.lt lt4)
      have ne_z2_t4 : z2 ≠ t4 := Nat.ne_of_lt (Nat.lt_of_lt_of_le A_z2.lt lt4)
      have ne_b3_t4 : b3 ≠ t4 := Nat.ne_of_lt (Nat.lt_of_lt_of_le E_b3.lt lt4)
      have E_a1 := E_a1.keep K4q
      have A_z1 := A_z1.keep K4q (ninS ne_z1_b3 nin0)
      have C_a1 := C_a1.keep K4q (ninS ne_a1_b3 nin0)
      have V_a1 := V_a1.keep K4q (ninS ne_a1_b3 nin0)
      have E_a2 := E_a2.keep K4q
      have A_z2 := A_z2.keep K4q (ninS ne_z2_b3 nin0)
      have C_a2 := C_a2.keep K4q (ninS ne_a2_b3 nin0)
      have V_a2 := V_a2.keep K4q (ninS ne_a2_b3 nin0)
      have E_b3 := E_b3.keep K4q
      have sfw4 := (sfS Sf_b3 sf0)
      have Sf_b3 := Safe.keep K4q sfw4 HH Sf_b3
      have Sf_t4 := Safe.keep K4q sfw4 HH Sf_t4
      have RR := RR.trans (CHr.keep K4q sfw4 HH)
      have HH := HH.keep K4q sfw4
      have hk := Nat.le_trans hk K4q.1
      have O := O.keep K4q (allS g_b3 all0)
      have KK := KK.trans K4q (allS (Or.inr sz_b3) all0)
      have E_b3 := Eq4
      have XX_b3 : Exa Z _ t4 "[B" ∨ 17 < 16 := Or.inl Xq4
      show GoH _ _ _ _ _ _ _ _ _ _  T4 (mkF m 131 #[vR a1, vR a2, vI (Int32.ofNat bt), vI (Int32.ofNat i), s4] [(.ref b3)])
      obtain ⟨sa5, T5, h5, kk5, sb5, kb5, X5, e5, E5, hS5, hk5, hZ5, ho5, E_sa5, F_coder_sa5, F_value_sa5, V_sb5, la5, lb5, CR5, Lt5, ns5, st5⟩ := ldcCH X4 hx hZ hown (hwi hw 112 rfl) wS rfl hS hk hEL (List.mem_of_getElem? (i := 0) rfl) HH (vs := [(.int (111 : Int32)), (.int (112 : Int32)), (.int (108 : Int32)), (.int (105 : Int32)), (.int (109 : Int32)), (.int (58 : Int32)), (.int (123 : Int32))]) (z := 7) ⟨by decide, by decide⟩ (by decide) rfl (g := (mkF m 131 #[vR a1, vR a2, vI (Int32.ofNat bt), vI (Int32.ofNat i), s4] [(.ref b3)])) rfl (hb hby (dq dz12 19 131 rfl)) (n := 28) (by decide) (by decide) (by decide) (by decide)
      refine GoH.st st5 ?_
      have Sf_b3 := CHr.safe CR5 E_b3.lt Sf_b3
      have Sf_t4 := CHr.safe CR5 Aq4.lt Sf_t4
      have E_a1 := E_a1.ext E5
      have A_z1 := A_z1.ext E5
      have C_a1 := C_a1.ext E5
      have V_a1 := V_a1.ext E5
      have E_a2 := E_a2.ext E5
      have A_z2 := A_z2.ext E5
      have C_a2 := C_a2.ext E5
      have V_a2 := V_a2.ext E5
      have E_b3 := E_b3.ext E5
      have XX_b3 := XX_b3.imp (fun q => q.ext E5) id
      have Aq4 := Aq4.ext E5
      have Cq4 := Cq4.ext E5
      have Vq4 := Vq4.ext E5
      have Nq4 := Nq4.ext E5
      have Mq4 := Mq4.ext E5
      have O := O.ext E5
      have KK := KK.ext E5
      have RR := RR.trans CR5
      have HH := CR5.1
      have hS := hS5
      have hk := hk5
      have hZ := hZ5
      have hown := ho5
      obtain ⟨ne_b3_sa5, ne_b3_sb5⟩ := ns5 _ Sf_b3
      obtain ⟨ne_t4_sa5, ne_t4_sb5⟩ := ns5 _ Sf_t4
      show GoH _ _ _ _ _ _ _ _ _ _  T5 (mkF m 133 #[vR a1, vR a2, vI (Int32.ofNat bt), vI (Int32.ofNat i), s4] [(.ref sa5), (.ref b3)])
      have C_l6 : Fld Z h5 sa5 "java/lang/String" "coder" "B" (.int (own_cd own_L0)) := by rw [own_cdL0]; exact F_coder_sa5
      have A_l6 : Arv Z h5 sb5 kb5 .byte (Int32.ofNat (own_by own_L0).length) ((own_by own_L0).map Value.int) (.int 0) := by rw [own_byL0]; exact V_sb5
      obtain ⟨cq7, kq7, q7a, q7b, q7c⟩ := isOf hZ e5 E_b3
      obtain ⟨_, _, ⟨T7, L7, k7, n7⟩, -, X7, ⟨Lc7, hQ7, l7, y7, z7⟩, st7⟩ := X5.virtualBack hx (y := mY12) (z := mY12) hown (mvT hZ (hwi hw 115 rfl)) (mvT hZ (hwi hw 116 rfl)) (notFace_of_selects (args := #[]) (mvT hZ (hwi hw 118 rfl))) (mvT hZ (hwi hw 118 rfl)) (mvT hZ (hwi hw 117 rfl)) (by decide) (backOf (W := 0) (rmSU l Z a0 hw [] b3 sa5 zc fm t4 kt4 ([] : List Int32) 16 sb5 kb5 own_L0 h0.size h5 n0 O S_COMPACT hcs S_SIO ref_fm S_ad S_hi S_lo E_b3 Cq4 Vq4 Nq4 Mq4 Aq4 (Nat.zero_le _) (by decide) (by decide) g_b3 g_t4 E_sa5 C_l6 F_value_sa5 A_l6 (own_hrm own_hrn) own_hrL0 (by simp only [List.length_append, List.length_nil, List.length_cons, own_l0_]; omega) (Ne.symm ne_t4_sb5) V_sb5.lt sz_t4 KK.1 XX_b3 rfl) hZ (hwi hw 119 rfl) (hwi hw 96 rfl) (by decide) (by decide)) q7a q7c (g := (mkF m 133 #[vR a1, vR a2, vI (Int32.ofNat bt), vI (Int32.ofNat i), s4] [(.ref sa5), (.ref b3)])) rfl (by rw [hml]; rfl) (Steps.refl _) (argsL := [(.ref sa5)]) (rest := []) (lenOf pd__Ljava_lang_String__Ljava_lang_StringBuilder_ rfl) rfl (by show 2 * 0 + _ ≤ _; exact Nat.le_of_eq rfl) (hb hby (dq dz12 20 133 rfl)) (fun _ _ => ⟨rfl, e5, (by decide : 4 + 2 ≤ _), (by decide : 52 + 136 ≤ _)⟩)
      dsimp only [Pt.U, Pt.locs, Pt.cells, Pt.slots] at X7 l7 y7 z7 st7 hQ7
      rw [l7, y7, z7] at X7
      have X7 : Stand p l e _ _ m _ below meth c T7 _ 6 188 := X7
      obtain ⟨rfl, N7q, K7q, t7, kt7, cp7, bt7, kc7, gb7, mb7, Eq7, Cq7, Vq7, Nq7, Mq7, Aq7, lo7, hi7, Xq7⟩ := hQ7
      have ne_z1_t7 : z1 ≠ t7 := bt7.elim (fun e => e ▸ ne_z1_t4) (fun e => Nat.ne_of_lt (Nat.lt_of_lt_of_le A_z1.lt e))
      have ne_z2_t7 : z2 ≠ t7 := bt7.elim (fun e => e ▸ ne_z2_t4) (fun e => Nat.ne_of_lt (Nat.lt_of_lt_of_le A_z2.lt e))
      have ne_sb5_t7 : sb5 ≠ t7 := bt7.elim (fun e => e ▸ (Ne.symm ne_t4_sb5)) (fun e => Nat.ne_of_lt (Nat.lt_of_lt_of_le V_sb5.lt e))
      have Sf_t7 : Safe Z EL T5.vm h5 t7 := bt7.elim (fun e => e ▸ Sf_t4) Safe.new
      have N7 := Fr.app N4 N7q
      refine GoH.tr st7 ?_
      have E_a1 := E_a1.keep K7q
      have A_z1 := A_z1.keep K7q (ninS ne_z1_b3 (ninS ne_z1_t4 nin0))
      have C_a1 := C_a1.keep K7q (ninS ne_a1_b3 (ninS ne_a1_t4 nin0))
      have V_a1 := V_a1.keep K7q (ninS ne_a1_b3 (ninS ne_a1_t4 nin0))
      have E_a2 := E_a2.keep K7q
      have A_z2 := A_z2.keep K7q (ninS ne_z2_b3 (ninS ne_z2_t4 nin0))
      have C_a2 := C_a2.keep K7q (ninS ne_a2_b3 (ninS ne_a2_t4 nin0))
      have V_a2 := V_a2.keep K7q (ninS ne_a2_b3 (ninS ne_a2_t4 nin0))
      have E_b3 := E_b3.keep K7q
      have XX_b3 := XX_b3.imp (fun q => q.keep K7q) id
      have E_sa5 := E_sa5.keep K7q
      have V_sb5 := V_sb5.keep K7q (ninS (Ne.symm ne_b3_sb5) (ninS (Ne.symm ne_t4_sb5) nin0))
      have F_coder_sa5 := F_coder_sa5.keep K7q (ninS (Ne.symm ne_b3_sa5) (ninS (Ne.symm ne_t4_sa5) nin0))
      have F_value_sa5 := F_value_sa5.keep K7q (ninS (Ne.symm ne_b3_sa5) (ninS (Ne.symm ne_t4_sa5) nin0))
      have sfw7 := (sfS Sf_b3 (sfS Sf_t4 sf0))
      have Sf_b3 := Safe.keep K7q sfw7 HH Sf_b3
      have Sf_t4 := Safe.keep K7q sfw7 HH Sf_t4
      have Sf_t7 := Safe.keep K7q sfw7 HH Sf_t7
      have RR := RR.trans (CHr.keep K7q sfw7 HH)
      have HH := HH.keep K7q sfw7
      have hk := Nat.le_trans hk K7q.1
      have O := O.keep K7q (allS g_b3 (allS g_t4 all0))
      have KK := KK.trans K7q (allS (Or.inr sz_b3) (allS (Or.inr sz_t4) all0))
      have E_b3 := Eq7
      have g_t7 := gb7
      have sz_t7 : h0.size ≤ t7 := mb7
      have XX_b3 := Xq7
      have hrc7 := own_hrj (own_hrm own_hrn) own_hrL0
      show GoH _ _ _ _ _ _ _ _ _ _  T7 (mkF m 136 #[vR a1, vR a2, vI (Int32.ofNat bt), vI (Int32.ofNat i), s4] [(.ref b3)])
      refine GoH.st (fun _ => XS.aloadN X7.here hx rfl (hb hby (dq dz12 21 136 rfl)) rfl rfl) ?_
      show GoH _ _ _ _ _ _ _ _ _ _  T7 (mkF m 137 #[vR a1, vR a2, vI (Int32.ofNat bt), vI (Int32.ofNat i), s4] [(.ref a1), (.ref b3)])
      obtain ⟨cq8, kq8, q8a, q8b, q8c⟩ := isOf hZ rfl E_b3
      obtain ⟨_, _, ⟨T8, L8, k8, n8⟩, -, X8, ⟨Lc8, hQ8, l8, y8, z8⟩, st8⟩ := X7.virtualBack hx (y := mY12) (z := mY12) hown (mvT hZ (hwi hw 115 rfl)) (mvT hZ (hwi hw 116 rfl)) (notFace_of_selects (args := #[]) (mvT hZ (hwi hw 118 rfl))) (mvT hZ (hwi hw 118 rfl)) (mvT hZ (hwi hw 117 rfl)) (by decide) (backOf (W := 0) (rmSU l Z a0 hw [] b3 a1 zc fm t7 kt7 (([] : List Int32) ++ own_L0) cp7 z1 k1 r1 h0.size T7.heap n0 O S_COMPACT hcs S_SIO ref_fm S_ad S_hi S_lo E_b3 Cq7 Vq7 Nq7 Mq7 Aq7 kc7 lo7 hi7 g_b3 g_t7 E_a1 C_a1 V_a1 A_z1 hrc7 hr_a1 (by simp only [List.length_append, List.length_nil, List.length_cons, own_l0_]; omega) ne_z1_t7 A_z1.lt sz_t7 KK.1 XX_b3 own_1L0) hZ (hwi hw 119 rfl) (hwi hw 96 rfl) (by decide) (by decide)) q8a q8c (g := (mkF m 137 #[vR a1, vR a2, vI (Int32.ofNat bt), vI (Int32.ofNat i), s4] [(.ref a1), (.ref b3)])) rfl (by rw [hml]; rfl) (Steps.refl _) (argsL := [(.ref a1)]) (rest := []) (lenOf pd__Ljava_lang_String__Ljava_lang_StringBuilder_ rfl) rfl (by show 2 * 0 + _ ≤ _; exact Nat.le_of_eq rfl) (hb hby (dq dz12 22 137 rfl)) (fun _ _ => ⟨rfl, rfl, (by decide : 6 + 2 ≤ _), (by decide : 188 + 136 ≤ _)⟩)
      dsimp only [Pt.U, Pt.locs, Pt.cells, Pt.slots] at X8 l8 y8 z8 st8 hQ8
      rw [l8, y8, z8] at X8
      have X8 : Stand p l e _ _ m _ below meth c T8 _ 8 324 := X8
      obtain ⟨rfl, N8q, K8q, t8, kt8, cp8, bt8, kc8, gb8, mb8, Eq8, Cq8, Vq8, Nq8, Mq8, Aq8, lo8, hi8, Xq8⟩ := hQ8
      have ne_z1_t8 : z1 ≠ t8 := bt8.elim (fun e => e ▸ ne_z1_t7) (fun e => Nat.ne_of_lt (Nat.lt_of_lt_of_le A_z1.lt e))
      have ne_z2_t8 : z2 ≠ t8 := bt8.elim (fun e => e ▸ ne_z2_t7) (fun e => Nat.ne_of_lt (Nat.lt_of_lt_of_le A_z2.lt e))
      have ne_sb5_t8 : sb5 ≠ t8 := bt8.elim (fun e => e ▸ ne_sb5_t7) (fun e => Nat.ne_of_lt (Nat.lt_of_lt_of_le V_sb5.lt e))
      have Sf_t8 : Safe Z EL T5.vm T7.heap t8 := bt8.elim (fun e => e ▸ Sf_t7) Safe.new
      have N8 := Fr.app N7 N8q
      refine GoH.tr st8 ?_
      have ne_a1_t7 : a1 ≠ t7 := (Exa.neArv E_a1 Aq7 (hwi hw 6 rfl))
      have ne_a2_t7 : a2 ≠ t7 := (Exa.neArv E_a2 Aq7 (hwi hw 6 rfl))
      have ne_sa5_t7 : sa5 ≠ t7 := (Exa.neArv E_sa5 Aq7 (hwi hw 6 rfl))
      have E_a1 := E_a1.keep K8q
      have A_z1 := A_z1.keep K8q (ninS ne_z1_b3 (ninS ne_z1_t7 nin0))
      have C_a1 := C_a1.keep K8q (ninS ne_a1_b3 (ninS ne_a1_t7 nin0))
      have V_a1 := V_a1.keep K8q (ninS ne_a1_b3 (ninS ne_a1_t7 nin0))
      have E_a2 := E_a2.keep K8q
      have A_z2 := A_z2.keep K8q (ninS ne_z2_b3 (ninS ne_z2_t7 nin0))
      have C_a2 := C_a2.keep K8q (ninS ne_a2_b3 (ninS ne_a2_t7 nin0))
      have V_a2 := V_a2.keep K8q (ninS ne_a2_b3 (ninS ne_a2_t7 nin0))
      have E_b3 := E_b3.keep K8q
      have XX_b3 := XX_b3.imp (fun q => q.keep K8q) id
      have E_sa5 := E_sa5.keep K8q
      have V_sb5 := V_sb5.keep K8q (ninS (Ne.symm ne_b3_sb5) (ninS ne_sb5_t7 nin0))
      have F_coder_sa5 := F_coder_sa5.keep K8q (ninS (Ne.symm ne_b3_sa5) (ninS ne_sa5_t7 nin0))
      have F_value_sa5 := F_value_sa5.keep K8q (ninS (Ne.symm ne_b3_sa5) (ninS ne_sa5_t7 nin0))
      have sfw8 := (sfS Sf_b3 (sfS Sf_t7 sf0))
      have Sf_b3 := Safe.keep K8q sfw8 HH Sf_b3
      have Sf_t7 := Safe.keep K8q sfw8 HH Sf_t7
      have Sf_t8 := Safe.keep K8q sfw8 HH Sf_t8
      have RR := RR.trans (CHr.keep K8q sfw8 HH)
      have HH := HH.keep K8q sfw8
      have hk := Nat.le_trans hk K8q.1
      have O := O.keep K8q (allS g_b3 (allS g_t7 all0))
      have KK := KK.trans K8q (allS (Or.inr sz_b3) (allS (Or.inr sz_t7) all0))
      have E_b3 := Eq8
      have g_t8 := gb8
      have sz_t8 : h0.size ≤ t8 := mb8
      have XX_b3 := Xq8
      have hrc8 := own_hrj hrc7 hr_a1
      show GoH _ _ _ _ _ _ _ _ _ _  T8 (mkF m 140 #[vR a1, vR a2, vI (Int32.ofNat bt), vI (Int32.ofNat i), s4] [(.ref b3)])
      refine GoH.st (fun _ => XS.bipush X8.here hx rfl (hb hby (dq dz12 23 140 rfl))) ?_
      show GoH _ _ _ _ _ _ _ _ _ _  T8 (mkF m 142 #[vR a1, vR a2, vI (Int32.ofNat bt), vI (Int32.ofNat i), s4] [(.int (58 : Int32)), (.ref b3)])
      obtain ⟨cq9, kq9, q9a, q9b, q9c⟩ := isOf hZ rfl E_b3
      obtain ⟨_, _, ⟨T9, L9, k9, n9⟩, -, X9, ⟨Lc9, hQ9, l9, y9, z9⟩, st9⟩ := X8.virtualBack hx (y := mY65) (z := mY65) hown (mvT hZ (hwi hw 153 rfl)) (mvT hZ (hwi hw 154 rfl)) (notFace_of_selects (args := #[]) (mvT hZ (hwi hw 156 rfl))) (mvT hZ (hwi hw 156 rfl)) (mvT hZ (hwi hw 155 rfl)) (by decide) (backOf (W := 0) (rmSC l Z a0 hw [] b3 (58 : Int32) zc fm t8 kt8 ((([] : List Int32) ++ own_L0) ++ r1) cp8 h0.size T8.heap n0 O S_COMPACT hcs S_SIO ref_fm S_ad S_hi S_lo E_b3 Cq8 Vq8 Nq8 Mq8 Aq8 kc8 lo8 hi8 g_b3 g_t8 (by decide) (by decide) (by simp only [List.length_append, List.length_nil, List.length_cons, own_l0_]; omega) sz_t8 KK.1 XX_b3) hZ (hwi hw 157 rfl) (hwi hw 96 rfl) (by decide) (by decide)) q9a q9c (g := (mkF m 142 #[vR a1, vR a2, vI (Int32.ofNat bt), vI (Int32.ofNat i), s4] [(.int (58 : Int32)), (.ref b3)])) rfl (by rw [hml]; rfl) (Steps.refl _) (argsL := [(.int (58 : Int32))]) (rest := []) (lenOf pd__C_Ljava_lang_StringBuilder_ rfl) rfl (by show 2 * 0 + _ ≤ _; exact Nat.le_of_eq rfl) (hb hby (dq dz12 24 142 rfl)) (fun _ _ => ⟨rfl, rfl, (by decide : 8 + 1 ≤ _), (by decide : 324 + 68 ≤ _)⟩)
      dsimp only [Pt.U, Pt.locs, Pt.cells, Pt.slots] at X9 l9 y9 z9 st9 hQ9
      rw [l9, y9, z9] at X9
      have X9 : Stand p l e _ _ m _ below meth c T9 _ 9 392 := X9
      obtain ⟨rfl, N9q, K9q, t9, kt9, cp9, bt9, kc9, gb9, mb9, Eq9, Cq9, Vq9, Nq9, Mq9, Aq9, lo9, hi9, Xq9⟩ := hQ9
      have ne_z1_t9 : z1 ≠ t9 := bt9.elim (fun e => e ▸ ne_z1_t8) (fun e => Nat.ne_of_lt (Nat.lt_of_lt_of_le A_z1.lt e))
      have ne_z2_t9 : z2 ≠ t9 := bt9.elim (fun e => e ▸ ne_z2_t8) (fun e => Nat.ne_of_lt (Nat.lt_of_lt_of_le A_z2.lt e))
      have ne_sb5_t9 : sb5 ≠ t9 := bt9.elim (fun e => e ▸ ne_sb5_t8) (fun e => Nat.ne_of_lt (Nat.lt_of_lt_of_le V_sb5.lt e))
      have Sf_t9 : Safe Z EL T5.vm T8.heap t9 := bt9.elim (fun e => e ▸ Sf_t8) Safe.new
      have N9 := Fr.app N8 N9q
      refine GoH.tr st9 ?_
      have ne_a1_t8 : a1 ≠ t8 := (Exa.neArv E_a1 Aq8 (hwi hw 6 rfl))
      have ne_a2_t8 : a2 ≠ t8 := (Exa.neArv E_a2 Aq8 (hwi hw 6 rfl))
      have ne_sa5_t8 : sa5 ≠ t8 := (Exa.neArv E_sa5 Aq8 (hwi hw 6 rfl))
      have E_a1 := E_a1.keep K9q
      have A_z1 := A_z1.keep K9q (ninS ne_z1_b3 (ninS ne_z1_t8 nin0))
      have C_a1 := C_a1.keep K9q (ninS ne_a1_b3 (ninS ne_a1_t8 nin0))
      have V_a1 := V_a1.keep K9q (ninS ne_a1_b3 (ninS ne_a1_t8 nin0))
      have E_a2 := E_a2.keep K9q
      have A_z2 := A_z2.keep K9q (ninS ne_z2_b3 (ninS ne_z2_t8 nin0))
      have C_a2 := C_a2.keep K9q (ninS ne_a2_b3 (ninS ne_a2_t8 nin0))
      have V_a2 := V_a2.keep K9q (ninS ne_a2_b3 (ninS ne_a2_t8 nin0))
      have E_b3 := E_b3.keep K9q
      have XX_b3 := XX_b3.imp (fun q => q.keep K9q) id
      have E_sa5 := E_sa5.keep K9q
      have V_sb5 := V_sb5.keep K9q (ninS (Ne.symm ne_b3_sb5) (ninS ne_sb5_t8 nin0))
      have F_coder_sa5 := F_coder_sa5.keep K9q (ninS (Ne.symm ne_b3_sa5) (ninS ne_sa5_t8 nin0))
      have F_value_sa5 := F_value_sa5.keep K9q (ninS (Ne.symm ne_b3_sa5) (ninS ne_sa5_t8 nin0))
      have sfw9 := (sfS Sf_b3 (sfS Sf_t8 sf0))
      have Sf_b3 := Safe.keep K9q sfw9 HH Sf_b3
      have Sf_t8 := Safe.keep K9q sfw9 HH Sf_t8
      have Sf_t9 := Safe.keep K9q sfw9 HH Sf_t9
      have RR := RR.trans (CHr.keep K9q sfw9 HH)
      have HH := HH.keep K9q sfw9
      have hk := Nat.le_trans hk K9q.1
      have O := O.keep K9q (allS g_b3 (allS g_t8 all0))
      have KK := KK.trans K9q (allS (Or.inr sz_b3) (allS (Or.inr sz_t8) all0))
      have E_b3 := Eq9
      have g_t9 := gb9
      have sz_t9 : h0.size ≤ t9 := mb9
      have XX_b3 := Xq9
      have hrc9 := own_hrj hrc8 (own_hr1 (c := (58 : Int32)) (by decide))
      show GoH _ _ _ _ _ _ _ _ _ _  T9 (mkF m 145 #[vR a1, vR a2, vI (Int32.ofNat bt), vI (Int32.ofNat i), s4] [(.ref b3)])
      refine GoH.st (fun _ => XS.aloadN X9.here hx rfl (hb hby (dq dz12 25 145 rfl)) rfl rfl) ?_
      show GoH _ _ _ _ _ _ _ _ _ _  T9 (mkF m 146 #[vR a1, vR a2, vI (Int32.ofNat bt), vI (Int32.ofNat i), s4] [(.ref a2), (.ref b3)])
      obtain ⟨cq10, kq10, q10a, q10b, q10c⟩ := isOf hZ rfl E_b3
      obtain ⟨_, _, ⟨T10, L10, k10, n10⟩, -, X10, ⟨Lc10, hQ10, l10, y10, z10⟩, st10⟩ := X9.virtualBack hx (y := mY12) (z := mY12) hown (mvT hZ (hwi hw 115 rfl)) (mvT hZ (hwi hw 116 rfl)) (notFace_of_selects (args := #[]) (mvT hZ (hwi hw 118 rfl))) (mvT hZ (hwi hw 118 rfl)) (mvT hZ (hwi hw 117 rfl)) (by decide) (backOf (W := 0) (rmSU l Z a0 hw [] b3 a2 zc fm t9 kt9 (((([] : List Int32) ++ own_L0) ++ r1) ++ [(58 : Int32)]) cp9 z2 k2 r2 h0.size T9.heap n0 O S_COMPACT hcs S_SIO ref_fm S_ad S_hi S_lo E_b3 Cq9 Vq9 Nq9 Mq9 Aq9 kc9 lo9 hi9 g_b3 g_t9 E_a2 C_a2 V_a2 A_z2 hrc9 hr_a2 (by simp only [List.length_append, List.length_nil, List.length_cons, own_l0_]; omega) ne_z2_t9 A_z2.lt sz_t9 KK.1 XX_b3 (own_TT (own_TT own_1L0 l1n) (by decide))) hZ (hwi hw 119 rfl) (hwi hw 96 rfl) (by decide) (by decide)) q10a q10c (g := (mkF m 146 #[vR a1, vR a2, vI (Int32.ofNat bt), vI (Int32.ofNat i), s4] [(.ref a2), (.ref b3)])) rfl (by rw [hml]; rfl) (Steps.refl _) (argsL := [(.ref a2)]) (rest := []) (lenOf pd__Ljava_lang_String__Ljava_lang_StringBuilder_ rfl) rfl (by show 2 * 0 + _ ≤ _; exact Nat.le_of_eq rfl) (hb hby (dq dz12 26 146 rfl)) (fun _ _ => ⟨rfl, rfl, (by decide : 9 + 2 ≤ _), (by decide : 392 + 136 ≤ _)⟩)
      dsimp only [Pt.U, Pt.locs, Pt.cells, Pt.slots] at X10 l10 y10 z10 st10 hQ10
      rw [l10, y10, z10] at X10
      have X10 : Stand p l e _ _ m _ below meth c T10 _ 11 528 := X10
      obtain ⟨rfl, N10q, K10q, t10, kt10, cp10, bt10, kc10, gb10, mb10, Eq10, Cq10, Vq10, Nq10, Mq10, Aq10, lo10, hi10, Xq10⟩ := hQ10
      have ne_z1_t10 : z1 ≠ t10 := bt10.elim (fun e => e ▸ ne_z1_t9) (fun e => Nat.ne_of_lt (Nat.lt_of_lt_of_le A_z1.lt e))
      have ne_z2_t10 : z2 ≠ t10 := bt10.elim (fun e => e ▸ ne_z2_t9) (fun e => Nat.ne_of_lt (Nat.lt_of_lt_of_le A_z2.lt e))
      have ne_sb5_t10 : sb5 ≠ t10 := bt10.elim (fun e => e ▸ ne_sb5_t9) (fun e => Nat.ne_of_lt (Nat.lt_of_lt_of_le V_sb5.lt e))
      have Sf_t10 : Safe Z EL T5.vm T9.heap t10 := bt10.elim (fun e => e ▸ Sf_t9) Safe.new
      have N10 := Fr.app N9 N10q
      refine GoH.tr st10 ?_
      have ne_a1_t9 : a1 ≠ t9 := (Exa.neArv E_a1 Aq9 (hwi hw 6 rfl))
      have ne_a2_t9 : a2 ≠ t9 := (Exa.neArv E_a2 Aq9 (hwi hw 6 rfl))
      have ne_sa5_t9 : sa5 ≠ t9 := (Exa.neArv E_sa5 Aq9 (hwi hw 6 rfl))
      have E_a1 := E_a1.keep K10q
      have A_z1 := A_z1.keep K10q (ninS ne_z1_b3 (ninS ne_z1_t9 nin0))
      have C_a1 := C_a1.keep K10q (ninS ne_a1_b3 (ninS ne_a1_t9 nin0))
      have V_a1 := V_a1.keep K10q (ninS ne_a1_b3 (ninS ne_a1_t9 nin0))
      have E_a2 := E_a2.keep K10q
      have A_z2 := A_z2.keep K10q (ninS ne_z2_b3 (ninS ne_z2_t9 nin0))
      have C_a2 := C_a2.keep K10q (ninS ne_a2_b3 (ninS ne_a2_t9 nin0))
      have V_a2 := V_a2.keep K10q (ninS ne_a2_b3 (ninS ne_a2_t9 nin0))
      have E_b3 := E_b3.keep K10q
      have XX_b3 := XX_b3.imp (fun q => q.keep K10q) id
      have E_sa5 := E_sa5.keep K10q
      have V_sb5 := V_sb5.keep K10q (ninS (Ne.symm ne_b3_sb5) (ninS ne_sb5_t9 nin0))
      have F_coder_sa5 := F_coder_sa5.keep K10q (ninS (Ne.symm ne_b3_sa5) (ninS ne_sa5_t9 nin0))
      have F_value_sa5 := F_value_sa5.keep K10q (ninS (Ne.symm ne_b3_sa5) (ninS ne_sa5_t9 nin0))
      have sfw10 := (sfS Sf_b3 (sfS Sf_t9 sf0))
      have Sf_b3 := Safe.keep K10q sfw10 HH Sf_b3
      have Sf_t9 := Safe.keep K10q sfw10 HH Sf_t9
      have Sf_t10 := Safe.keep K10q sfw10 HH Sf_t10
      have RR := RR.trans (CHr.keep K10q sfw10 HH)
      have HH := HH.keep K10q sfw10
      have hk := Nat.le_trans hk K10q.1
      have O := O.keep K10q (allS g_b3 (allS g_t9 all0))
      have KK := KK.trans K10q (allS (Or.inr sz_b3) (allS (Or.inr sz_t9) all0))
      have E_b3 := Eq10
      have g_t10 := gb10
      have sz_t10 : h0.size ≤ t10 := mb10
      have XX_b3 := Xq10
      have hrc10 := own_hrj hrc9 hr_a2
      show GoH _ _ _ _ _ _ _ _ _ _  T10 (mkF m 149 #[vR a1, vR a2, vI (Int32.ofNat bt), vI (Int32.ofNat i), s4] [(.ref b3)])
      refine GoH.st (fun _ => XS.bipush X10.here hx rfl (hb hby (dq dz12 27 149 rfl))) ?_
      show GoH _ _ _ _ _ _ _ _ _ _  T10 (mkF m 151 #[vR a1, vR a2, vI (Int32.ofNat bt), vI (Int32.ofNat i), s4] [(.int (125 : Int32)), (.ref b3)])
      obtain ⟨cq11, kq11, q11a, q11b, q11c⟩ := isOf hZ rfl E_b3
      obtain ⟨_, _, ⟨T11, L11, k11, n11⟩, -, X11, ⟨Lc11, hQ11, l11, y11, z11⟩, st11⟩ := X10.virtualBack hx (y := mY65) (z := mY65) hown (mvT hZ (hwi hw 153 rfl)) (mvT hZ (hwi hw 154 rfl)) (notFace_of_selects (args := #[]) (mvT hZ (hwi hw 156 rfl))) (mvT hZ (hwi hw 156 rfl)) (mvT hZ (hwi hw 155 rfl)) (by decide) (backOf (W := 0) (rmSC l Z a0 hw [] b3 (125 : Int32) zc fm t10 kt10 ((((([] : List Int32) ++ own_L0) ++ r1) ++ [(58 : Int32)]) ++ r2) cp10 h0.size T10.heap n0 O S_COMPACT hcs S_SIO ref_fm S_ad S_hi S_lo E_b3 Cq10 Vq10 Nq10 Mq10 Aq10 kc10 lo10 hi10 g_b3 g_t10 (by decide) (by decide) (by simp only [List.length_append, List.length_nil, List.length_cons, own_l0_]; omega) sz_t10 KK.1 XX_b3) hZ (hwi hw 157 rfl) (hwi hw 96 rfl) (by decide) (by decide)) q11a q11c (g := (mkF m 151 #[vR a1, vR a2, vI (Int32.ofNat bt), vI (Int32.ofNat i), s4] [(.int (125 : Int32)), (.ref b3)])) rfl (by rw [hml]; rfl) (Steps.refl _) (argsL := [(.int (125 : Int32))]) (rest := []) (lenOf pd__C_Ljava_lang_StringBuilder_ rfl) rfl (by show 2 * 0 + _ ≤ _; exact Nat.le_of_eq rfl) (hb hby (dq dz12 28 151 rfl)) (fun _ _ => ⟨rfl, rfl, (by decide : 11 + 1 ≤ _), (by decide : 528 + 68 ≤ _)⟩)
      dsimp only [Pt.U, Pt.locs, Pt.cells, Pt.slots] at X11 l11 y11 z11 st11 hQ11
      rw [l11, y11, z11] at X11
      have X11 : Stand p l e _ _ m _ below meth c T11 _ 12 596 := X11
      obtain ⟨rfl, N11q, K11q, t11, kt11, cp11, bt11, kc11, gb11, mb11, Eq11, Cq11, Vq11, Nq11, Mq11, Aq11, lo11, hi11, Xq11⟩ := hQ11
      have ne_z1_t11 : z1 ≠ t11 := bt11.elim (fun e => e ▸ ne_z1_t10) (fun e => Nat.ne_of_lt (Nat.lt_of_lt_of_le A_z1.lt e))
      have ne_z2_t11 : z2 ≠ t11 := bt11.elim (fun e => e ▸ ne_z2_t10) (fun e => Nat.ne_of_lt (Nat.lt_of_lt_of_le A_z2.lt e))
      have ne_sb5_t11 : sb5 ≠ t11 := bt11.elim (fun e => e ▸ ne_sb5_t10) (fun e => Nat.ne_of_lt (Nat.lt_of_lt_of_le V_sb5.lt e))
      have Sf_t11 : Safe Z EL T5.vm T10.heap t11 := bt11.elim (fun e => e ▸ Sf_t10) Safe.new
      have N11 := Fr.app N10 N11q
      refine GoH.tr st11 ?_
      have ne_a1_t10 : a1 ≠ t10 := (Exa.neArv E_a1 Aq10 (hwi hw 6 rfl))
      have ne_a2_t10 : a2 ≠ t10 := (Exa.neArv E_a2 Aq10 (hwi hw 6 rfl))
      have ne_sa5_t10 : sa5 ≠ t10 := (Exa.neArv E_sa5 Aq10 (hwi hw 6 rfl))
      have E_a1 := E_a1.keep K11q
      have A_z1 := A_z1.keep K11q (ninS ne_z1_b3 (ninS ne_z1_t10 nin0))
      have C_a1 := C_a1.keep K11q (ninS ne_a1_b3 (ninS ne_a1_t10 nin0))
      have V_a1 := V_a1.keep K11q (ninS ne_a1_b3 (ninS ne_a1_t10 nin0))
      have E_a2 := E_a2.keep K11q
      have A_z2 := A_z2.keep K11q (ninS ne_z2_b3 (ninS ne_z2_t10 nin0))
      have C_a2 := C_a2.keep K11q (ninS ne_a2_b3 (ninS ne_a2_t10 nin0))
      have V_a2 := V_a2.keep K11q (ninS ne_a2_b3 (ninS ne_a2_t10 nin0))
      have E_b3 := E_b3.keep K11q
      have XX_b3 := XX_b3.imp (fun q => q.keep K11q) id
      have E_sa5 := E_sa5.keep K11q
      have V_sb5 := V_sb5.keep K11q (ninS (Ne.symm ne_b3_sb5) (ninS ne_sb5_t10 nin0))
      have F_coder_sa5 := F_coder_sa5.keep K11q (ninS (Ne.symm ne_b3_sa5) (ninS ne_sa5_t10 nin0))
      have F_value_sa5 := F_value_sa5.keep K11q (ninS (Ne.symm ne_b3_sa5) (ninS ne_sa5_t10 nin0))
      have sfw11 := (sfS Sf_b3 (sfS Sf_t10 sf0))
      have Sf_b3 := Safe.keep K11q sfw11 HH Sf_b3
      have Sf_t10 := Safe.keep K11q sfw11 HH Sf_t10
      have Sf_t11 := Safe.keep K11q sfw11 HH Sf_t11
      have RR := RR.trans (CHr.keep K11q sfw11 HH)
      have HH := HH.keep K11q sfw11
      have hk := Nat.le_trans hk K11q.1
      have O := O.keep K11q (allS g_b3 (allS g_t10 all0))
      have KK := KK.trans K11q (allS (Or.inr sz_b3) (allS (Or.inr sz_t10) all0))
      have E_b3 := Eq11
      have g_t11 := gb11
      have sz_t11 : h0.size ≤ t11 := mb11
      have XX_b3 := Xq11
      have hrc11 := own_hrj hrc10 (own_hr1 (c := (125 : Int32)) (by decide))
      show GoH _ _ _ _ _ _ _ _ _ _  T11 (mkF m 154 #[vR a1, vR a2, vI (Int32.ofNat bt), vI (Int32.ofNat i), s4] [(.ref b3)])
      obtain ⟨cq12, kq12, q12a, q12b, q12c⟩ := isOf hZ rfl E_b3
      obtain ⟨_, _, ⟨T12, L12, k12, n12⟩, -, X12, ⟨Lc12, hQ12, l12, y12, z12⟩, st12⟩ := X11.virtualBack hx (y := mY24) (z := mY24) hown (mvT hZ (hwi hw 171 rfl)) (mvT hZ (hwi hw 172 rfl)) (notFace_of_selects (args := #[]) (mvT hZ (hwi hw 174 rfl))) (mvT hZ (hwi hw 174 rfl)) (mvT hZ (hwi hw 173 rfl)) (by decide) (backOf (W := 0) (rmTSU l Z a0 hw [] b3 zc t11 kt11 (((((([] : List Int32) ++ own_L0) ++ r1) ++ [(58 : Int32)]) ++ r2) ++ [(125 : Int32)]) cp11 T11.heap n0 O S_COMPACT hcs E_b3 Cq11 Vq11 Nq11 Mq11 Aq11 kc11 lo11 hi11 XX_b3 (by simp only [List.length_append, List.length_nil, List.length_cons, own_l0_]; omega)) hZ (hwi hw 175 rfl) (hwi hw 96 rfl) (by decide) (by decide)) q12a q12c (g := (mkF m 154 #[vR a1, vR a2, vI (Int32.ofNat bt), vI (Int32.ofNat i), s4] [(.ref b3)])) rfl (by rw [hml]; rfl) (Steps.refl _) (argsL := []) (rest := []) (lenOf pd___Ljava_lang_String_ rfl) rfl (by show 2 * 0 + _ ≤ _; exact Nat.le_of_eq rfl) (hb hby (dq dz12 29 154 rfl)) (fun _ _ => ⟨rfl, rfl, (by decide : 12 + 2 ≤ _), (by decide : 596 + 38 ≤ _)⟩)
      dsimp only [Pt.U, Pt.locs, Pt.cells, Pt.slots] at X12 l12 y12 z12 st12 hQ12
      rw [l12, y12, z12] at X12
      have X12 : Stand p l e _ _ m _ below meth c T12 _ 14 634 := X12
      obtain ⟨y12, t12, kt12, rfl, N12q, E12q, ly12, lt12, E_y12, C_y12, V_y12, A_t12⟩ := hQ12
      have N12 := Fr.app N11 N12q
      refine GoH.tr st12 ?_
      have g_y12 : n0 ≤ y12 := Nat.le_trans (own_le O) ly12
      have Sf_y12 : Safe Z EL T5.vm T11.heap y12 := Safe.new ly12
      have sz_y12 : h0.size ≤ y12 := Nat.le_trans KK.1 ly12
      have ne_a1_y12 : a1 ≠ y12 := Nat.ne_of_lt (Nat.lt_of_lt_of_le E_a1.lt ly12)
      have ne_z1_y12 : z1 ≠ y12 := Nat.ne_of_lt (Nat.lt_of_lt_of_le A_z1.lt ly12)
      have ne_a2_y12 : a2 ≠ y12 := Nat.ne_of_lt (Nat.lt_of_lt_of_le E_a2.lt ly12)
      have ne_z2_y12 : z2 ≠ y12 := Nat.ne_of_lt (Nat.lt_of_lt_of_le A_z2.lt ly12)
      have ne_b3_y12 : b3 ≠ y12 := Nat.ne_of_lt (Nat.lt_of_lt_of_le E_b3.lt ly12)
      have ne_sa5_y12 : sa5 ≠ y12 := Nat.ne_of_lt (Nat.lt_of_lt_of_le E_sa5.lt ly12)
      have ne_sb5_y12 : sb5 ≠ y12 := Nat.ne_of_lt (Nat.lt_of_lt_of_le V_sb5.lt ly12)
      have ne_t11_y12 : t11 ≠ y12 := Nat.ne_of_lt (Nat.lt_of_lt_of_le Aq11.lt ly12)
      have g_t12 : n0 ≤ t12 := Nat.le_trans (own_le O) lt12
      have Sf_t12 : Safe Z EL T5.vm T11.heap t12 := Safe.new lt12
      have sz_t12 : h0.size ≤ t12 := Nat.le_trans KK.1 lt12
      have ne_a1_t12 : a1 ≠ t12 := Nat.ne_of_lt (Nat.lt_of_lt_of_le E_a1.lt lt12)
      have ne_z1_t12 : z1 ≠ t12 := Nat.ne_of_lt (Nat.lt_of_lt_of_le A_z1.lt lt12)
      have ne_a2_t12 : a2 ≠ t12 := Nat.ne_of_lt (Nat.lt_of_lt_of_le E_a2.lt lt12)
      have ne_z2_t12 : z2 ≠ t12 := Nat.ne_of_lt (Nat.lt_of_lt_of_le A_z2.lt lt12)
      have ne_b3_t12 : b3 ≠ t12 := Nat.ne_of_lt (Nat.lt_of_lt_of_le E_b3.lt lt12)
      have ne_sa5_t12 : sa5 ≠ t12 := Nat.ne_of_lt (Nat.lt_of_lt_of_le E_sa5.lt lt12)
      have ne_sb5_t12 : sb5 ≠ t12 := Nat.ne_of_lt (Nat.lt_of_lt_of_le V_sb5.lt lt12)
      have ne_t11_t12 : t11 ≠ t12 := Nat.ne_of_lt (Nat.lt_of_lt_of_le Aq11.lt lt12)
      have E12 := E12q
      have E_a1 := E_a1.ext E12
      have A_z1 := A_z1.ext E12
      have C_a1 := C_a1.ext E12
      have V_a1 := V_a1.ext E12
      have E_a2 := E_a2.ext E12
      have A_z2 := A_z2.ext E12
      have C_a2 := C_a2.ext E12
      have V_a2 := V_a2.ext E12
      have E_b3 := E_b3.ext E12
      have XX_b3 := XX_b3.imp (fun q => q.ext E12) id
      have E_sa5 := E_sa5.ext E12
      have V_sb5 := V_sb5.ext E12
      have F_coder_sa5 := F_coder_sa5.ext E12
      have F_value_sa5 := F_value_sa5.ext E12
      have Aq11 := Aq11.ext E12
      have Cq11 := Cq11.ext E12
      have Vq11 := Vq11.ext E12
      have Nq11 := Nq11.ext E12
      have Mq11 := Mq11.ext E12
      have Sf_b3 := Safe.ext E12 HH Sf_b3
      have Sf_t11 := Safe.ext E12 HH Sf_t11
      have Sf_y12 := Safe.ext E12 HH Sf_y12
      have Sf_t12 := Safe.ext E12 HH Sf_t12
      have RR := RR.trans (CHr.ext E12 HH)
      have HH := HH.ext E12
      have hk := Nat.le_trans hk E12.1
      have O := O.ext E12
      have KK := KK.ext E12
      rw [own_Mnil] at C_y12 A_t12
      show GoH _ _ _ _ _ _ _ _ _ _  T12 (mkF m 157 #[vR a1, vR a2, vI (Int32.ofNat bt), vI (Int32.ofNat i), s4] [(.ref y12)])
      refine GoH.retR X12 hS hk rfl hZ hEL HH RR hlk hx Bd.returns rfl rfl rfl (hb hby (dq dz12 30 157 rfl)) (by decide) (by decide) ?_
      show Q_rmPx Z _ _ _ _ _ _ _ _ _ _ _ h0 n0 _ T12.heap _
      exact ⟨_, _, _, rfl, N12, own_ext0 KK, E_y12, C_y12, V_y12, A_t12⟩
    | succ k9 ih =>
      intro T9 Lz bt i s4 nq hk9 X9 e9 N9 hs4 hat hbt
      obtain ⟨hil, hcp, hat'⟩ := own_step (hk9 ▸ hat : own_at r2 i (k9 + 1))
      have hb12 : bt ≤ 12 := by omega
      have hu8 := own_u8l (own_cpa r2 i)
      refine GoH.st (fun _ => XS.iloadN X9.here hx rfl (hb hby (dq dz12 9 25 rfl)) rfl) ?_
      refine GoH.st (fun _ => XS.aloadN X9.here hx rfl (hb hby (dq dz12 10 26 rfl)) rfl rfl) ?_
      show GoH _ _ _ _ _ _ _ _ _ _  T9 (mkF m 27 #[vR a1, vR a2, vI (Int32.ofNat bt), vI (Int32.ofNat i), s4] [(.ref a2), (.int (Int32.ofNat i))])
      obtain ⟨cq13, kq13, q13a, q13b, q13c⟩ := isOf hZ e9 E_a2
      refine GoH.pure (w := (some (.int (Int32.ofNat r2.length)))) (rest := [(.int (Int32.ofNat i))]) (pc' := 30) (X9.virtualBack hx (y := mY1) (z := mY1) hown (mvT hZ (hwi hw 57 rfl)) (mvT hZ (hwi hw 58 rfl)) (notFace_of_selects (args := #[]) (mvT hZ (hwi hw 60 rfl))) (mvT hZ (hwi hw 60 rfl)) (mvT hZ (hwi hw 59 rfl)) (by decide) (backOf (W := 1) (rmLenU l Z a0 hw [] a2 zc z2 k2 r2 h0 n0 O S_COMPACT hcs E_a2 C_a2 V_a2 A_z2 (by omega)) hZ (hwi hw 61 rfl) (hwi hw 7 rfl) (by decide) (by decide)) q13a q13c (g := (mkF m 27 #[vR a1, vR a2, vI (Int32.ofNat bt), vI (Int32.ofNat i), s4] [(.ref a2), (.int (Int32.ofNat i))])) rfl (by rw [hml]; rfl) (Steps.refl _) (argsL := []) (rest := [(.int (Int32.ofNat i))]) (lenOf pd___I rfl) rfl (by show 2 * 0 + _ ≤ _; exact Nat.le_of_eq rfl) (hb hby (dq dz12 11 27 rfl)) (fun _ _ => ⟨rfl, e9, (by decide : 0 + 0 ≤ _), (by decide : 0 + 0 ≤ _)⟩)) (fun _ _ _ q => q) N9 (fun T13 L13 X13 e13q N13 => ?_)
      show GoH _ _ _ _ _ _ _ _ _ _  T13 (mkF m 30 #[vR a1, vR a2, vI (Int32.ofNat bt), vI (Int32.ofNat i), s4] [(.int (Int32.ofNat r2.length)), (.int (Int32.ofNat i))])
      refine GoH.st (fun _ => XS.icmpNo X13.here hx rfl (hb hby (dq dz12 12 30 rfl)) rfl (tlt ((own_olt (by omega) (by omega)).mpr hil : (Int32.ofNat i) < (Int32.ofNat r2.length))).2.1) ?_
      show GoH _ _ _ _ _ _ _ _ _ _  T13 (mkF m 33 #[vR a1, vR a2, vI (Int32.ofNat bt), vI (Int32.ofNat i), s4] [])
      refine GoH.st (fun _ => XS.iloadN X13.here hx rfl (hb hby (dq dz12 31 33 rfl)) rfl) ?_
      refine GoH.st (fun _ => XS.sipush X13.here hx rfl (hb hby (dq dz12 32 34 rfl))) ?_
      show GoH _ _ _ _ _ _ _ _ _ _  T13 (mkF m 37 #[vR a1, vR a2, vI (Int32.ofNat bt), vI (Int32.ofNat i), s4] [(.int (512 : Int32)), (.int (Int32.ofNat bt))])
      refine GoH.st (fun _ => XS.icmpNo X13.here hx rfl (hb hby (dq dz12 33 37 rfl)) rfl (flt (fun q => absurd ((own_olt (a := 512) (by omega) (by omega)).mp q) (by omega) : ¬ ((512 : Int32) < (Int32.ofNat bt)))).2.2.1) ?_
      show GoH _ _ _ _ _ _ _ _ _ _  T13 (mkF m 40 #[vR a1, vR a2, vI (Int32.ofNat bt), vI (Int32.ofNat i), s4] [])
      refine GoH.st (fun _ => XS.aloadN X13.here hx rfl (hb hby (dq dz12 34 40 rfl)) rfl rfl) ?_
      refine GoH.st (fun _ => XS.iloadN X13.here hx rfl (hb hby (dq dz12 35 41 rfl)) rfl) ?_
      show GoH _ _ _ _ _ _ _ _ _ _  T13 (mkF m 42 #[vR a1, vR a2, vI (Int32.ofNat bt), vI (Int32.ofNat i), s4] [(.int (Int32.ofNat i)), (.ref a2)])
      obtain ⟨cq14, kq14, q14a, q14b, q14c⟩ := isOf hZ e13q E_a2
      refine GoH.pure (w := (some (.int (own_cpa r2 i)))) (rest := []) (pc' := 45) (X13.virtualBack hx (y := mY60) (z := mY60) hown (mvT hZ (hwi hw 67 rfl)) (mvT hZ (hwi hw 68 rfl)) (notFace_of_selects (args := #[]) (mvT hZ (hwi hw 70 rfl))) (mvT hZ (hwi hw 70 rfl)) (mvT hZ (hwi hw 69 rfl)) (by decide) (backOf (W := 0) (rmCPA l Z a0 hw [] a2 zc z2 k2 r2 fm i h0 n0 O S_COMPACT hcs E_a2 C_a2 V_a2 A_z2 (by omega) S_SIO ref_fm S_ad S_hi S_lo hil hr_a2) hZ (hwi hw 71 rfl) (hwi hw 7 rfl) (by decide) (by decide)) q14a q14c (g := (mkF m 42 #[vR a1, vR a2, vI (Int32.ofNat bt), vI (Int32.ofNat i), s4] [(.int (Int32.ofNat i)), (.ref a2)])) rfl (by rw [hml]; rfl) (Steps.refl _) (argsL := [(.int (Int32.ofNat i))]) (rest := []) (lenOf pd__I_I rfl) rfl (by show 2 * 0 + _ ≤ _; exact Nat.le_of_eq rfl) (hb hby (dq dz12 36 42 rfl)) (fun _ _ => ⟨rfl, e13q, (by decide : 0 + 0 ≤ _), (by decide : 0 + 0 ≤ _)⟩)) (fun _ _ _ q => q) N13 (fun T14 L14 X14 e14q N14 => ?_)
      show GoH _ _ _ _ _ _ _ _ _ _  T14 (mkF m 45 #[vR a1, vR a2, vI (Int32.ofNat bt), vI (Int32.ofNat i), s4] [(.int (own_cpa r2 i))])
      refine GoH.st (fun _ => XS.istore X14.here hx rfl (hb hby (dq dz12 37 45 rfl)) rfl (l' := #[vR a1, vR a2, vI (Int32.ofNat bt), vI (Int32.ofNat i), vI (own_cpa r2 i)]) (by rcases hs4 with rfl | ⟨_, rfl⟩ <;> rfl)) ?_
      refine GoH.st (fun _ => XS.iload X14.here hx rfl (hb hby (dq dz12 38 47 rfl)) rfl) ?_
      show GoH _ _ _ _ _ _ _ _ _ _  T14 (mkF m 49 #[vR a1, vR a2, vI (Int32.ofNat bt), vI (Int32.ofNat i), vI (own_cpa r2 i)] [(.int (own_cpa r2 i))])
      refine GoH.st (X14.ldcInt hx hown (mvT hZ (hwi hw 85 rfl)) (g := (mkF m 49 #[vR a1, vR a2, vI (Int32.ofNat bt), vI (Int32.ofNat i), vI (own_cpa r2 i)] [(.int (own_cpa r2 i))])) rfl (hb hby (dq dz12 39 49 rfl))) ?_
      show GoH _ _ _ _ _ _ _ _ _ _  T14 (mkF m 51 #[vR a1, vR a2, vI (Int32.ofNat bt), vI (Int32.ofNat i), vI (own_cpa r2 i)] [(.int (55296 : Int32)), (.int (own_cpa r2 i))])
      by_cases c51_15 : (own_cpa r2 i) < (55296 : Int32)
      · refine GoH.st (fun _ => XS.icmpYes X14.here hx rfl (pc0 := 51) (pc' := 88) rfl (hb hby (dq dz12 40 51 rfl)) rfl (tlt c51_15).1 (by decide) (by decide)) ?_
        show GoH _ _ _ _ _ _ _ _ _ _  T14 (mkF m 88 #[vR a1, vR a2, vI (Int32.ofNat bt), vI (Int32.ofNat i), vI (own_cpa r2 i)] [])
        refine GoH.st (fun _ => XS.iloadN X14.here hx rfl (hb hby (dq dz12 41 88 rfl)) rfl) ?_
        refine GoH.st (fun _ => XS.iload X14.here hx rfl (hb hby (dq dz12 42 89 rfl)) rfl) ?_
        show GoH _ _ _ _ _ _ _ _ _ _  T14 (mkF m 91 #[vR a1, vR a2, vI (Int32.ofNat bt), vI (Int32.ofNat i), vI (own_cpa r2 i)] [(.int (own_cpa r2 i)), (.int (Int32.ofNat bt))])
        refine GoH.pureS (w := (some (.int (Int32.ofNat (own_u8 (own_cpa r2 i)))))) (rest := [(.int (Int32.ofNat bt))]) (pc' := 94) (Jvm.LawKit.callS X14 hx (y := mY55) hown (mvT hZ (hwi hw 86 rfl)) (mvT hZ (hwi hw 87 rfl)) (mvT hZ (hwi hw 50 rfl)) (mvT hZ (hwi hw 88 rfl)) (by decide) (backOf (W := 1) (rmU8 l Z a0 hw [] (own_cpa r2 i) h0 n0 O) hZ (hwi hw 88 rfl) (hwi hw 50 rfl) (by decide) (by decide)) (g := (mkF m 91 #[vR a1, vR a2, vI (Int32.ofNat bt), vI (Int32.ofNat i), vI (own_cpa r2 i)] [(.int (own_cpa r2 i)), (.int (Int32.ofNat bt))])) rfl (by rw [hml]; rfl) (argsL := [(.int (own_cpa r2 i))]) (rest := [(.int (Int32.ofNat bt))]) (lenOf pd__I_I rfl) rfl (by show 2 * 0 + _ ≤ _; exact Nat.le_of_eq rfl) (hb hby (dq dz12 43 91 rfl)) (fun _ _ => ⟨rfl, e14q, (by decide : 0 + 0 ≤ _), (by decide : 0 + 0 ≤ _)⟩)) (fun _ _ _ q => q) N14 (fun T16 L16 X16 e16q N16 => ?_)
        show GoH _ _ _ _ _ _ _ _ _ _  T16 (mkF m 94 #[vR a1, vR a2, vI (Int32.ofNat bt), vI (Int32.ofNat i), vI (own_cpa r2 i)] [(.int (Int32.ofNat (own_u8 (own_cpa r2 i)))), (.int (Int32.ofNat bt))])
        refine GoH.st (fun _ => XS.iadd X16.here hx rfl (hb hby (dq dz12 44 94 rfl)) rfl) ?_
        show GoH _ _ _ _ _ _ _ _ _ _  T16 (mkF m 95 #[vR a1, vR a2, vI (Int32.ofNat bt), vI (Int32.ofNat i), vI (own_cpa r2 i)] [(.int ((Int32.ofNat bt) + (Int32.ofNat (own_u8 (own_cpa r2 i)))))])
        rw [own_oadd]
        refine GoH.st (fun _ => XS.istoreN X16.here hx rfl (hb hby (dq dz12 45 95 rfl)) rfl (l' := #[vR a1, vR a2, vI (Int32.ofNat (bt + own_u8 (own_cpa r2 i))), vI (Int32.ofNat i), vI (own_cpa r2 i)]) rfl) ?_
        refine GoH.st (fun _ => XS.iloadN X16.here hx rfl (hb hby (dq dz12 46 96 rfl)) rfl) ?_
        refine GoH.st (fun _ => XS.iload X16.here hx rfl (hb hby (dq dz12 47 97 rfl)) rfl) ?_
        show GoH _ _ _ _ _ _ _ _ _ _  T16 (mkF m 99 #[vR a1, vR a2, vI (Int32.ofNat (bt + own_u8 (own_cpa r2 i))), vI (Int32.ofNat i), vI (own_cpa r2 i)] [(.int (own_cpa r2 i)), (.int (Int32.ofNat i))])
        refine GoH.pureS (w := (some (.int (Int32.ofNat (own_cc (own_cpa r2 i)))))) (rest := [(.int (Int32.ofNat i))]) (pc' := 102) (Jvm.LawKit.callS X16 hx (y := mY56) hown (mvT hZ (hwi hw 89 rfl)) (mvT hZ (hwi hw 90 rfl)) (mvT hZ (hwi hw 91 rfl)) (mvT hZ (hwi hw 92 rfl)) (by decide) (backOf (W := 1) (rmCC l Z a0 hw [] (own_cpa r2 i) h0 n0 O) hZ (hwi hw 92 rfl) (hwi hw 91 rfl) (by decide) (by decide)) (g := (mkF m 99 #[vR a1, vR a2, vI (Int32.ofNat (bt + own_u8 (own_cpa r2 i))), vI (Int32.ofNat i), vI (own_cpa r2 i)] [(.int (own_cpa r2 i)), (.int (Int32.ofNat i))])) rfl (by rw [hml]; rfl) (argsL := [(.int (own_cpa r2 i))]) (rest := [(.int (Int32.ofNat i))]) (lenOf pd__I_I rfl) rfl (by show 2 * 0 + _ ≤ _; exact Nat.le_of_eq rfl) (hb hby (dq dz12 48 99 rfl)) (fun _ _ => ⟨rfl, e16q, (by decide : 0 + 0 ≤ _), (by decide : 0 + 0 ≤ _)⟩)) (fun _ _ _ q => q) N16 (fun T17 L17 X17 e17q N17 => ?_)
        show GoH _ _ _ _ _ _ _ _ _ _  T17 (mkF m 102 #[vR a1, vR a2, vI (Int32.ofNat (bt + own_u8 (own_cpa r2 i))), vI (Int32.ofNat i), vI (own_cpa r2 i)] [(.int (Int32.ofNat (own_cc (own_cpa r2 i)))), (.int (Int32.ofNat i))])
        refine GoH.st (fun _ => XS.iadd X17.here hx rfl (hb hby (dq dz12 49 102 rfl)) rfl) ?_
        show GoH _ _ _ _ _ _ _ _ _ _  T17 (mkF m 103 #[vR a1, vR a2, vI (Int32.ofNat (bt + own_u8 (own_cpa r2 i))), vI (Int32.ofNat i), vI (own_cpa r2 i)] [(.int ((Int32.ofNat i) + (Int32.ofNat (own_cc (own_cpa r2 i)))))])
        rw [own_oadd]
        refine GoH.st (fun _ => XS.istoreN X17.here hx rfl (hb hby (dq dz12 50 103 rfl)) rfl (l' := #[vR a1, vR a2, vI (Int32.ofNat (bt + own_u8 (own_cpa r2 i))), vI (Int32.ofNat (i + own_cc (own_cpa r2 i))), vI (own_cpa r2 i)]) rfl) ?_
        refine GoH.st (fun _ => XS.goto X17.here hx rfl (pc0 := 104) (pc' := 25) rfl (hb hby (dq dz12 51 104 rfl)) (by decide) (by decide)) ?_
        show GoH _ _ _ _ _ _ _ _ _ _  T17 (mkF m 25 #[vR a1, vR a2, vI (Int32.ofNat (bt + own_u8 (own_cpa r2 i))), vI (Int32.ofNat (i + own_cc (own_cpa r2 i))), vI (own_cpa r2 i)] [])
        exact ih T17 _ (bt + own_u8 (own_cpa r2 i)) (i + own_cc (own_cpa r2 i)) (vI (own_cpa r2 i)) k9 (by omega) X17 e17q N17 (Or.inr ⟨_, rfl⟩) hat' (by omega)
      · refine GoH.st (fun _ => XS.icmpNo X14.here hx rfl (hb hby (dq dz12 40 51 rfl)) rfl (flt c51_15).1) ?_
        show GoH _ _ _ _ _ _ _ _ _ _  T14 (mkF m 54 #[vR a1, vR a2, vI (Int32.ofNat bt), vI (Int32.ofNat i), vI (own_cpa r2 i)] [])
        refine GoH.st (fun _ => XS.iload X14.here hx rfl (hb hby (dq dz12 52 54 rfl)) rfl) ?_
        show GoH _ _ _ _ _ _ _ _ _ _  T14 (mkF m 56 #[vR a1, vR a2, vI (Int32.ofNat bt), vI (Int32.ofNat i), vI (own_cpa r2 i)] [(.int (own_cpa r2 i))])
        refine GoH.st (X14.ldcInt hx hown (mvT hZ (hwi hw 261 rfl)) (g := (mkF m 56 #[vR a1, vR a2, vI (Int32.ofNat bt), vI (Int32.ofNat i), vI (own_cpa r2 i)] [(.int (own_cpa r2 i))])) rfl (hb hby (dq dz12 53 56 rfl))) ?_
        show GoH _ _ _ _ _ _ _ _ _ _  T14 (mkF m 58 #[vR a1, vR a2, vI (Int32.ofNat bt), vI (Int32.ofNat i), vI (own_cpa r2 i)] [(.int (57343 : Int32)), (.int (own_cpa r2 i))])
        refine GoH.st (fun _ => XS.icmpYes X14.here hx rfl (pc0 := 58) (pc' := 88) rfl (hb hby (dq dz12 54 58 rfl)) rfl (tlt (hcp.resolve_left c51_15 : (57343 : Int32) < (own_cpa r2 i))).2.2.1 (by decide) (by decide)) ?_
        show GoH _ _ _ _ _ _ _ _ _ _  T14 (mkF m 88 #[vR a1, vR a2, vI (Int32.ofNat bt), vI (Int32.ofNat i), vI (own_cpa r2 i)] [])
        refine GoH.st (fun _ => XS.iloadN X14.here hx rfl (hb hby (dq dz12 41 88 rfl)) rfl) ?_
        refine GoH.st (fun _ => XS.iload X14.here hx rfl (hb hby (dq dz12 42 89 rfl)) rfl) ?_
        show GoH _ _ _ _ _ _ _ _ _ _  T14 (mkF m 91 #[vR a1, vR a2, vI (Int32.ofNat bt), vI (Int32.ofNat i), vI (own_cpa r2 i)] [(.int (own_cpa r2 i)), (.int (Int32.ofNat bt))])
        refine GoH.pureS (w := (some (.int (Int32.ofNat (own_u8 (own_cpa r2 i)))))) (rest := [(.int (Int32.ofNat bt))]) (pc' := 94) (Jvm.LawKit.callS X14 hx (y := mY55) hown (mvT hZ (hwi hw 86 rfl)) (mvT hZ (hwi hw 87 rfl)) (mvT hZ (hwi hw 50 rfl)) (mvT hZ (hwi hw 88 rfl)) (by decide) (backOf (W := 1) (rmU8 l Z a0 hw [] (own_cpa r2 i) h0 n0 O) hZ (hwi hw 88 rfl) (hwi hw 50 rfl) (by decide) (by decide)) (g := (mkF m 91 #[vR a1, vR a2, vI (Int32.ofNat bt), vI (Int32.ofNat i), vI (own_cpa r2 i)] [(.int (own_cpa r2 i)), (.int (Int32.ofNat bt))])) rfl (by rw [hml]; rfl) (argsL := [(.int (own_cpa r2 i))]) (rest := [(.int (Int32.ofNat bt))]) (lenOf pd__I_I rfl) rfl (by show 2 * 0 + _ ≤ _; exact Nat.le_of_eq rfl) (hb hby (dq dz12 43 91 rfl)) (fun _ _ => ⟨rfl, e14q, (by decide : 0 + 0 ≤ _), (by decide : 0 + 0 ≤ _)⟩)) (fun _ _ _ q => q) N14 (fun T18 L18 X18 e18q N18 => ?_)
        show GoH _ _ _ _ _ _ _ _ _ _  T18 (mkF m 94 #[vR a1, vR a2, vI (Int32.ofNat bt), vI (Int32.ofNat i), vI (own_cpa r2 i)] [(.int (Int32.ofNat (own_u8 (own_cpa r2 i)))), (.int (Int32.ofNat bt))])
        refine GoH.st (fun _ => XS.iadd X18.here hx rfl (hb hby (dq dz12 44 94 rfl)) rfl) ?_
        show GoH _ _ _ _ _ _ _ _ _ _  T18 (mkF m 95 #[vR a1, vR a2, vI (Int32.ofNat bt), vI (Int32.ofNat i), vI (own_cpa r2 i)] [(.int ((Int32.ofNat bt) + (Int32.ofNat (own_u8 (own_cpa r2 i)))))])
        rw [own_oadd]
        refine GoH.st (fun _ => XS.istoreN X18.here hx rfl (hb hby (dq dz12 45 95 rfl)) rfl (l' := #[vR a1, vR a2, vI (Int32.ofNat (bt + own_u8 (own_cpa r2 i))), vI (Int32.ofNat i), vI (own_cpa r2 i)]) rfl) ?_
        refine GoH.st (fun _ => XS.iloadN X18.here hx rfl (hb hby (dq dz12 46 96 rfl)) rfl) ?_
        refine GoH.st (fun _ => XS.iload X18.here hx rfl (hb hby (dq dz12 47 97 rfl)) rfl) ?_
        show GoH _ _ _ _ _ _ _ _ _ _  T18 (mkF m 99 #[vR a1, vR a2, vI (Int32.ofNat (bt + own_u8 (own_cpa r2 i))), vI (Int32.ofNat i), vI (own_cpa r2 i)] [(.int (own_cpa r2 i)), (.int (Int32.ofNat i))])
        refine GoH.pureS (w := (some (.int (Int32.ofNat (own_cc (own_cpa r2 i)))))) (rest := [(.int (Int32.ofNat i))]) (pc' := 102) (Jvm.LawKit.callS X18 hx (y := mY56) hown (mvT hZ (hwi hw 89 rfl)) (mvT hZ (hwi hw 90 rfl)) (mvT hZ (hwi hw 91 rfl)) (mvT hZ (hwi hw 92 rfl)) (by decide) (backOf (W := 1) (rmCC l Z a0 hw [] (own_cpa r2 i) h0 n0 O) hZ (hwi hw 92 rfl) (hwi hw 91 rfl) (by decide) (by decide)) (g := (mkF m 99 #[vR a1, vR a2, vI (Int32.ofNat (bt + own_u8 (own_cpa r2 i))), vI (Int32.ofNat i), vI (own_cpa r2 i)] [(.int (own_cpa r2 i)), (.int (Int32.ofNat i))])) rfl (by rw [hml]; rfl) (argsL := [(.int (own_cpa r2 i))]) (rest := [(.int (Int32.ofNat i))]) (lenOf pd__I_I rfl) rfl (by show 2 * 0 + _ ≤ _; exact Nat.le_of_eq rfl) (hb hby (dq dz12 48 99 rfl)) (fun _ _ => ⟨rfl, e18q, (by decide : 0 + 0 ≤ _), (by decide : 0 + 0 ≤ _)⟩)) (fun _ _ _ q => q) N18 (fun T19 L19 X19 e19q N19 => ?_)
        show GoH _ _ _ _ _ _ _ _ _ _  T19 (mkF m 102 #[vR a1, vR a2, vI (Int32.ofNat (bt + own_u8 (own_cpa r2 i))), vI (Int32.ofNat i), vI (own_cpa r2 i)] [(.int (Int32.ofNat (own_cc (own_cpa r2 i)))), (.int (Int32.ofNat i))])
        refine GoH.st (fun _ => XS.iadd X19.here hx rfl (hb hby (dq dz12 49 102 rfl)) rfl) ?_
        show GoH _ _ _ _ _ _ _ _ _ _  T19 (mkF m 103 #[vR a1, vR a2, vI (Int32.ofNat (bt + own_u8 (own_cpa r2 i))), vI (Int32.ofNat i), vI (own_cpa r2 i)] [(.int ((Int32.ofNat i) + (Int32.ofNat (own_cc (own_cpa r2 i)))))])
        rw [own_oadd]
        refine GoH.st (fun _ => XS.istoreN X19.here hx rfl (hb hby (dq dz12 50 103 rfl)) rfl (l' := #[vR a1, vR a2, vI (Int32.ofNat (bt + own_u8 (own_cpa r2 i))), vI (Int32.ofNat (i + own_cc (own_cpa r2 i))), vI (own_cpa r2 i)]) rfl) ?_
        refine GoH.st (fun _ => XS.goto X19.here hx rfl (pc0 := 104) (pc' := 25) rfl (hb hby (dq dz12 51 104 rfl)) (by decide) (by decide)) ?_
        show GoH _ _ _ _ _ _ _ _ _ _  T19 (mkF m 25 #[vR a1, vR a2, vI (Int32.ofNat (bt + own_u8 (own_cpa r2 i))), vI (Int32.ofNat (i + own_cc (own_cpa r2 i))), vI (own_cpa r2 i)] [])
        exact ih T19 _ (bt + own_u8 (own_cpa r2 i)) (i + own_cc (own_cpa r2 i)) (vI (own_cpa r2 i)) k9 (by omega) X19 e19q N19 (Or.inr ⟨_, rfl⟩) hat' (by omega)
  show GoH _ _ _ _ _ _ _ _ _ _  T1 (mkF m 25 #[vR a1, vR a2, vI (0 : Int32), vI (0 : Int32), uS] [])
  exact loop _ T1 _ 0 0 uS kq rfl X1 e1q N1 (Or.inl rfl) hat0 (by omega)
theorem own_eqi {args : Array Value} {Z : State} {t : Term} {k : Int32} (h : (Cond.eq t (Term.int k)).value args Z none Z [] = some true) : t.eval args Z none [] Z = some (.int k) := by
  cases ht : t.eval args Z none [] Z with
  | none => simp [Cond.value, Term.eval, ht] at h
  | some v => cases v <;> simp [Cond.value, Term.eval, ht] at h <;> (try rw [h])

def Q_rm0 (Z : State) (p1 : Int32) (p2 : Int32) (p3 : Int32) (p4 : Int32) (p5 : Int32) (zc : Int32) (fm : Value) (h0 : Heap) (n0 : Nat) (v : Option Value) (h : Heap) (L : List Loc) : Prop := v = some (.int (1 : Int32)) ∧ Fr n0 L
theorem rm0 (l : Launch) (Z : State) (a0 : Array Value) (hw : HWt a0 Z) (ws : List Jvm.Cond) (p1 : Int32) (p2 : Int32) (p3 : Int32) (p4 : Int32) (p5 : Int32) (zc : Int32) (fm : Value) (h0 : Heap) (n0 : Nat) (O : Old Z n0 h0) (hEL : EW Z a0 EL) (wS : ∀ a ∈ Bundle.stringAtoms, a.before a0 Z = true) (S_COMPACT : Sta Z Z.heap "java/lang/String" "COMPACT_STRINGS" "Z" (.int zc)) (hcs : ¬ zc = 0) (S_SIO : Sta Z Z.heap "jdk/internal/util/Preconditions" "SIOOBE_FORMATTER" "Ljava/util/function/BiFunction;" fm) (ref_fm : fm.isRef = true) (S_ad : Sta Z Z.heap "java/lang/StringUTF16" "$assertionsDisabled" "Z" (.int 1)) (S_hi : Sta Z Z.heap "java/lang/StringUTF16" "HI_BYTE_SHIFT" "I" (.int 0)) (S_lo : Sta Z Z.heap "java/lang/StringUTF16" "LO_BYTE_SHIFT" "I" (.int 8)) :
    MetFree l x (head1 (Jvm.Cond.code x code maxLocals ret :: ws) room_1) (fun a U => a = #[(.int p1), (.int p2), (.int p3), (.int p4), (.int p5)] ∧ Z.Warmed39 U.vm ∧ U.heap = h0 ∧ CHv Z EL U.vm h0 ∧ ∀ x ∈ ([] : List Addr), Safe Z EL U.vm h0 x) (fun _ _ _ _ _ => True) (fun _ U o U' => ∃ v L, o = .returned v ∧ Q_rm0 Z p1 p2 p3 p4 p5 zc fm h0 n0 v U'.heap L ∧ CHr Z EL U.vm U.heap U'.vm U'.heap ∧ ReturnedEndW U o U' L room_1.cells room_1.slots) := by
  refine MetFree.of_bodySF (plainFor_of_name pn_0) hisR ?_
  intro p e s m args below meth c s₁ Bd hml0 hP hK
  obtain ⟨rfl, hZ, hh, HH, hSF⟩ := hP
  have hx := Bd.exec
  have hby := Bd.bytes
  have hml : c.maxLocals = 16 := hml0
  have hown : s.vm.findClass "com/example/oplim/oplim/KeysPrefixPinLaw" = some m.cls := findClass_of_methodNamed Bd.named
  have hlk : meth.locks = false := BodyLoose.notSynchronized Bd
  have X0 : Stand p l e room_1 (s.setVm s.vm) m #[(.int p1), (.int p2), (.int p3), (.int p4), (.int p5)] below meth c s₁ [] 0 0 := Stand.of_body Bd
  have e0 : s₁.heap = h0 := by rw [← hh, Bd.state]; rfl
  have N0 := Fr.nil n0
  have KK : Keep h0 h0 [] := Keep.refl h0 _
  have hS : s.Since s.vm h0.size := own_since s _
  have hk : h0.size ≤ h0.size := Nat.le_refl _
  have RR : CHr Z EL s.vm h0 s.vm h0 := CHr.refl HH
  suffices hgo : GoH p e below s room_1.cells room_1.slots Z h0 EL (Q_rm0 Z p1 p2 p3 p4 p5 zc fm h0 n0) s₁ (entryFrame m #[(.int p1), (.int p2), (.int p3), (.int p4), (.int p5)] maxLocals) by
    obtain ⟨s₂, o, q1, q2, q3, v, L, q4, q5, q6, q7⟩ := hgo; exact ⟨s₂, o, q1, q2, q3, v, L, q4, q5, hh ▸ q6, q7⟩
  refine GoH.eq (ef_rm0 m p1 p2 p3 p4 p5) ?_
  show GoH _ _ _ _ _ _ _ _ _ _  s₁ (mkF m 0 #[vI p1, vI p2, vI p3, vI p4, vI p5, uS, uS, uS, uS, uS, uS, uS, uS, uS, uS, uS] [])
  refine GoH.st (fun _ => XS.iloadN X0.here hx rfl (hb hby at_0) rfl) ?_
  refine GoH.st (fun _ => XS.iconst X0.here hx rfl (hb hby at_1)) ?_
  refine GoH.st (fun _ => XS.iand X0.here hx rfl (hb hby at_2) rfl) ?_
  refine GoH.st (fun _ => XS.iconst X0.here hx rfl (hb hby at_3)) ?_
  refine GoH.st (fun _ => XS.iadd X0.here hx rfl (hb hby at_4) rfl) ?_
  obtain ⟨nn, hnn1, hnn2, en⟩ := own_nl2 p2
  show GoH _ _ _ _ _ _ _ _ _ _  s₁ (mkF m 5 #[vI p1, vI p2, vI p3, vI p4, vI p5, uS, uS, uS, uS, uS, uS, uS, uS, uS, uS, uS] [(.int ((p2 &&& (1 : Int32)) + (1 : Int32)))])
  rw [en]
  refine GoH.st (fun _ => XS.istore X0.here hx rfl (hb hby at_5) rfl (l' := #[vI p1, vI p2, vI p3, vI p4, vI p5, vI (Int32.ofNat nn), uS, uS, uS, uS, uS, uS, uS, uS, uS, uS]) rfl) ?_
  show GoH _ _ _ _ _ _ _ _ _ _  s₁ (mkF m 7 #[vI p1, vI p2, vI p3, vI p4, vI p5, vI (Int32.ofNat nn), uS, uS, uS, uS, uS, uS, uS, uS, uS, uS] [])
  refine GoH.st (fun _ => XS.iloadN X0.here hx rfl (hb hby at_7) rfl) ?_
  refine GoH.st (fun _ => XS.iconst X0.here hx rfl (hb hby at_8)) ?_
  refine GoH.st (fun _ => XS.iushr X0.here hx rfl (hb hby at_9) rfl) ?_
  refine GoH.st (fun _ => XS.iconst X0.here hx rfl (hb hby at_10)) ?_
  show GoH _ _ _ _ _ _ _ _ _ _  s₁ (mkF m 11 #[vI p1, vI p2, vI p3, vI p4, vI p5, vI (Int32.ofNat nn), uS, uS, uS, uS, uS, uS, uS, uS, uS, uS] [(.int (3 : Int32)), (.int ((p2.toUInt32 >>> ((1 : Int32) &&& 31).toUInt32).toInt32))])
  refine GoH.st (fun _ => Jvm.RoadKit.iremM X0 hx rfl (hb hby at_11) rfl (by decide)) ?_
  show GoH _ _ _ _ _ _ _ _ _ _  s₁ (mkF m 12 #[vI p1, vI p2, vI p3, vI p4, vI p5, vI (Int32.ofNat nn), uS, uS, uS, uS, uS, uS, uS, uS, uS, uS] [(.int (((p2.toUInt32 >>> ((1 : Int32) &&& 31).toUInt32).toInt32) % (3 : Int32)))])
  refine GoH.st (fun _ => XS.iconst X0.here hx rfl (hb hby at_12)) ?_
  refine GoH.st (fun _ => XS.iadd X0.here hx rfl (hb hby at_13) rfl) ?_
  obtain ⟨kk, hkk1, hkk2, ek⟩ := own_mod3 p2
  show GoH _ _ _ _ _ _ _ _ _ _  s₁ (mkF m 14 #[vI p1, vI p2, vI p3, vI p4, vI p5, vI (Int32.ofNat nn), uS, uS, uS, uS, uS, uS, uS, uS, uS, uS] [(.int ((((p2.toUInt32 >>> ((1 : Int32) &&& 31).toUInt32).toInt32) % (3 : Int32)) + (1 : Int32)))])
  rw [ek]
  refine GoH.st (fun _ => XS.istore X0.here hx rfl (hb hby at_14) rfl (l' := #[vI p1, vI p2, vI p3, vI p4, vI p5, vI (Int32.ofNat nn), vI (Int32.ofNat kk), uS, uS, uS, uS, uS, uS, uS, uS, uS]) rfl) ?_
  show GoH _ _ _ _ _ _ _ _ _ _  s₁ (mkF m 16 #[vI p1, vI p2, vI p3, vI p4, vI p5, vI (Int32.ofNat nn), vI (Int32.ofNat kk), uS, uS, uS, uS, uS, uS, uS, uS, uS] [])
  have t47 : ∀ (T9 V9 : State) (k9 : Nat) (h9 : Heap) (Lz : List Loc) (na : Addr) (kna : ClassId) (NA : List Int32), Stand p l e room_1 (s.setVm V9.vm) m #[(.int p1), (.int p2), (.int p3), (.int p4), (.int p5)] below meth c T9 Lz 1 2 → s.Since V9.vm k9 → k9 ≤ h9.size → T9.heap = h9 → Z.Warmed39 V9.vm → V9.vm.findClass "com/example/oplim/oplim/KeysPrefixPinLaw" = some m.cls → CHv Z EL V9.vm h9 → CHr Z EL s.vm h0 V9.vm h9 → Old Z n0 h9 → Fr n0 Lz → Keep h0 h9 [] → (Arv Z h9 na kna .char (Int32.ofNat NA.length) (NA.map Value.int) (.int 0)) → (1 ≤ NA.length) → (NA.length ≤ 2) → (∀ j, j < NA.length → nar .char (NA.getD j 0) = NA.getD j 0) → (own_l1 NA = true) → GoH p e below s room_1.cells room_1.slots Z h0 EL (Q_rm0 Z p1 p2 p3 p4 p5 zc fm h0 n0) T9 (mkF m 47 #[vI p1, vI p2, vI p3, vI p4, vI p5, vI (Int32.ofNat NA.length), vI (Int32.ofNat kk), vR na, uS, uS, uS, uS, uS, uS, uS, uS] []) := by
    intro T9 V9 k9 h9 Lz na kna NA X9 hS hk e9 hZ hown HH RR O N9 KK V_na hl1 hl2 hrN l1N
    show GoH _ _ _ _ _ _ _ _ _ _  T9 (mkF m 47 #[vI p1, vI p2, vI p3, vI p4, vI p5, vI (Int32.ofNat NA.length), vI (Int32.ofNat kk), vR na, uS, uS, uS, uS, uS, uS, uS, uS] [])
    obtain ⟨T1, h1, X1, e1, E1, A1, D1, U1, st1⟩ := newO X9 hx hZ hown (hwi hw 5 rfl) (hwi hw 6 rfl) (hwi hw 7 rfl) e9 (g := (mkF m 47 #[vI p1, vI p2, vI p3, vI p4, vI p5, vI (Int32.ofNat NA.length), vI (Int32.ofNat kk), vR na, uS, uS, uS, uS, uS, uS, uS, uS] [])) rfl (hb hby at_47) (by decide) (by decide)
    obtain ⟨b1, g1⟩ : ∃ z, z = h9.size := ⟨_, rfl⟩
    rw [← g1] at A1 D1 U1 st1
    refine GoH.st st1 ?_
    have g_b1 : n0 ≤ b1 := by rw [g1]; exact own_le O
    have Sf_b1 : Safe Z EL V9.vm h9 b1 := Safe.new (Nat.le_of_eq g1.symm)
    have sz_b1 : h0.size ≤ b1 := by rw [g1]; exact KK.1
    have ne_na_b1 : na ≠ b1 := Nat.ne_of_lt (by rw [g1]; exact V_na.lt)
    have V_na := V_na.ext E1
    have Sf_b1 := Safe.ext E1 HH Sf_b1
    have RR := RR.trans (CHr.ext E1 HH)
    have HH := HH.ext E1
    have hk := Nat.le_trans hk E1.1
    have O := O.ext E1
    have KK := KK.ext E1
    have E_b1 := A1
    have F_coder_b1 : Fld Z h1 b1 "java/lang/String" "coder" "B" (.int (0 : Int32)) := D1 (Or.inr (hwi hw 31 rfl)) (ty := .byte) (by decide)
    have F_value_b1 : Fld Z h1 b1 "java/lang/String" "value" "[B" .null := D1 (Or.inr (hwi hw 33 rfl)) (ty := (.array .byte)) (by decide)
    show GoH _ _ _ _ _ _ _ _ _ _  T1 (mkF m 50 #[vI p1, vI p2, vI p3, vI p4, vI p5, vI (Int32.ofNat NA.length), vI (Int32.ofNat kk), vR na, uS, uS, uS, uS, uS, uS, uS, uS] [(.ref b1)])
    refine GoH.st (fun _ => XS.dup X1.here hx rfl (hb hby at_50) rfl rfl) ?_
    refine GoH.st (fun _ => XS.aload X1.here hx rfl (hb hby at_51) rfl rfl) ?_
    show GoH _ _ _ _ _ _ _ _ _ _  T1 (mkF m 53 #[vI p1, vI p2, vI p3, vI p4, vI p5, vI (Int32.ofNat NA.length), vI (Int32.ofNat kk), vR na, uS, uS, uS, uS, uS, uS, uS, uS] [(.ref na), (.ref b1), (.ref b1)])
    obtain ⟨_, _, ⟨T2, L2, k2, n2⟩, -, X2, ⟨Lc2, hQ2, l2, y2, z2⟩, st2⟩ := X1.specialBack hx (y := mY36) rfl hown (mvT hZ (hwi hw 8 rfl)) (mvT hZ (hwi hw 9 rfl)) (mvT hZ (hwi hw 10 rfl)) (by decide) (backOf (W := 1) (rmI5 l Z a0 hw [] b1 na .null (.int (0 : Int32)) zc kna NA h1 n0 O S_COMPACT hcs S_ad S_hi S_lo E_b1 F_value_b1 F_coder_b1 g_b1 V_na (by omega) hl1 hrN) hZ (hwi hw 10 rfl) (hwi hw 7 rfl) (by decide) (by decide)) (g := (mkF m 53 #[vI p1, vI p2, vI p3, vI p4, vI p5, vI (Int32.ofNat NA.length), vI (Int32.ofNat kk), vR na, uS, uS, uS, uS, uS, uS, uS, uS] [(.ref na), (.ref b1), (.ref b1)])) rfl (by rw [hml]; rfl) (Steps.refl _) (a := b1) (argsL := [(.ref na)]) (rest := [(.ref b1)]) (lenOf pd___C_V rfl) rfl (by show 2 * 0 + _ ≤ _; exact Nat.le_of_eq rfl) (hb hby at_53) (fun _ _ => ⟨rfl, e1, (by decide : 2 + 2 ≤ _), (by decide : 6 + 102 ≤ _)⟩)
    dsimp only [Pt.U, Pt.locs, Pt.cells, Pt.slots] at X2 l2 y2 z2 st2 hQ2
    rw [l2, y2, z2] at X2
    have X2 : Stand p l e _ _ m _ below meth c T2 _ 4 108 := X2
    obtain ⟨rfl, N2q, K2q, Eq2, Cq2, t2, kt2, lt2, Vq2, Aq2⟩ := hQ2
    have N2 := Fr.app N9 N2q
    refine GoH.tr st2 ?_
    have g_t2 : n0 ≤ t2 := Nat.le_trans (own_le O) lt2
    have Sf_t2 : Safe Z EL V9.vm h1 t2 := Safe.new lt2
    have sz_t2 : h0.size ≤ t2 := Nat.le_trans KK.1 lt2
    have ne_na_t2 : na ≠ t2 := Nat.ne_of_lt (Nat.lt_of_lt_of_le V_na.lt lt2)
    have ne_b1_t2 : b1 ≠ t2 := Nat.ne_of_lt (Nat.lt_of_lt_of_le E_b1.lt lt2)
    have V_na := V_na.keep K2q (ninS ne_na_b1 nin0)
    have E_b1 := E_b1.keep K2q
    have sfw2 := (sfS Sf_b1 sf0)
    have Sf_b1 := Safe.keep K2q sfw2 HH Sf_b1
    have Sf_t2 := Safe.keep K2q sfw2 HH Sf_t2
    have RR := RR.trans (CHr.keep K2q sfw2 HH)
    have HH := HH.keep K2q sfw2
    have hk := Nat.le_trans hk K2q.1
    have O := O.keep K2q (allS g_b1 all0)
    have KK := KK.trans K2q (allS (Or.inr sz_b1) all0)
    have E_b1 := Eq2
    have C_b1 := Cq2
    have V_b1 := Vq2
    have A_t2 := Aq2
    show GoH _ _ _ _ _ _ _ _ _ _  T2 (mkF m 56 #[vI p1, vI p2, vI p3, vI p4, vI p5, vI (Int32.ofNat NA.length), vI (Int32.ofNat kk), vR na, uS, uS, uS, uS, uS, uS, uS, uS] [(.ref b1)])
    refine GoH.st (fun _ => XS.astore X2.here hx rfl (hb hby at_56) rfl rfl (l' := #[vI p1, vI p2, vI p3, vI p4, vI p5, vI (Int32.ofNat NA.length), vI (Int32.ofNat kk), vR na, vR b1, uS, uS, uS, uS, uS, uS, uS]) rfl) ?_
    refine GoH.st (fun _ => XS.iloadN X2.here hx rfl (hb hby at_58) rfl) ?_
    show GoH _ _ _ _ _ _ _ _ _ _  T2 (mkF m 59 #[vI p1, vI p2, vI p3, vI p4, vI p5, vI (Int32.ofNat NA.length), vI (Int32.ofNat kk), vR na, vR b1, uS, uS, uS, uS, uS, uS, uS] [(.int p3)])
    refine GoH.pureS (w := (some (.int (Int32.ofNat (own_uc p3).length)))) (rest := []) (pc' := 62) (Jvm.LawKit.callS X2 hx (y := mY50) hown (mvT hZ (hwi hw 34 rfl)) (mvT hZ (hwi hw 35 rfl)) (mvT hZ (hwi hw 3 rfl)) (mvT hZ (hwi hw 36 rfl)) (by decide) (backOf (W := 0) (rmW l Z a0 hw [] p3 T2.heap n0 O) hZ (hwi hw 36 rfl) (hwi hw 3 rfl) (by decide) (by decide)) (g := (mkF m 59 #[vI p1, vI p2, vI p3, vI p4, vI p5, vI (Int32.ofNat NA.length), vI (Int32.ofNat kk), vR na, vR b1, uS, uS, uS, uS, uS, uS, uS] [(.int p3)])) rfl (by rw [hml]; rfl) (argsL := [(.int p3)]) (rest := []) (lenOf pd__I_I rfl) rfl (by show 2 * 0 + _ ≤ _; exact Nat.le_of_eq rfl) (hb hby at_59) (fun _ _ => ⟨rfl, rfl, (by decide : 4 + 0 ≤ _), (by decide : 108 + 0 ≤ _)⟩)) (fun _ _ _ q => q) N2 (fun T3 L3 X3 e3q N3 => ?_)
    have t95 : ∀ (T9 V9 : State) (k9 : Nat) (h9 : Heap) (Lz : List Loc) (kl : Nat), Stand p l e room_1 (s.setVm V9.vm) m #[(.int p1), (.int p2), (.int p3), (.int p4), (.int p5)] below meth c T9 Lz 4 108 → s.Since V9.vm k9 → k9 ≤ h9.size → T9.heap = h9 → Z.Warmed39 V9.vm → V9.vm.findClass "com/example/oplim/oplim/KeysPrefixPinLaw" = some m.cls → CHv Z EL V9.vm h9 → CHr Z EL s.vm h0 V9.vm h9 → Old Z n0 h9 → Fr n0 Lz → Keep h0 h9 [] → (Exa Z h9 b1 "java/lang/String") → (Fld Z h9 b1 "java/lang/String" "coder" "B" (.int (own_cd NA))) → (Fld Z h9 b1 "java/lang/String" "value" "[B" (.ref t2)) → (Arv Z h9 t2 kt2 .byte (Int32.ofNat (own_by NA).length) ((own_by NA).map Value.int) (.int 0)) → (Arv Z h9 na kna .char (Int32.ofNat NA.length) (NA.map Value.int) (.int 0)) → (kl = (own_key kk p3 p4 p5).length) → GoH p e below s room_1.cells room_1.slots Z h0 EL (Q_rm0 Z p1 p2 p3 p4 p5 zc fm h0 n0) T9 (mkF m 95 #[vI p1, vI p2, vI p3, vI p4, vI p5, vI (Int32.ofNat NA.length), vI (Int32.ofNat kk), vR na, vR b1, vI (Int32.ofNat kl), uS, uS, uS, uS, uS, uS] []) := by
      intro T9 V9 k9 h9 Lz kl X9 hS hk e9 hZ hown HH RR O N9 KK E_b1 C_b1 V_b1 A_t2 V_na hkl
      have klb := own_keyl kk p3 p4 p5
      rw [← hkl] at klb
      show GoH _ _ _ _ _ _ _ _ _ _  T9 (mkF m 95 #[vI p1, vI p2, vI p3, vI p4, vI p5, vI (Int32.ofNat NA.length), vI (Int32.ofNat kk), vR na, vR b1, vI (Int32.ofNat kl), uS, uS, uS, uS, uS, uS] [])
      refine GoH.st (fun _ => XS.iload X9.here hx rfl (hb hby at_95) rfl) ?_
      show GoH _ _ _ _ _ _ _ _ _ _  T9 (mkF m 97 #[vI p1, vI p2, vI p3, vI p4, vI p5, vI (Int32.ofNat NA.length), vI (Int32.ofNat kk), vR na, vR b1, vI (Int32.ofNat kl), uS, uS, uS, uS, uS, uS] [(.int (Int32.ofNat kl))])
      obtain ⟨T4, h4, k4, X4, e4, E4, A4, st4⟩ := newP X9 hx hZ (hwi hw 0 rfl) e9 (g := (mkF m 97 #[vI p1, vI p2, vI p3, vI p4, vI p5, vI (Int32.ofNat NA.length), vI (Int32.ofNat kk), vR na, vR b1, vI (Int32.ofNat kl), uS, uS, uS, uS, uS, uS] [(.int (Int32.ofNat kl))])) rfl (hb hby at_97) rfl (own_onn (by omega)) (cap := 6) (by rw [own_ocl (by omega)]; omega) (by decide) (by decide) (by decide)
      obtain ⟨b4, g4⟩ : ∃ z, z = h9.size := ⟨_, rfl⟩
      rw [← g4] at A4 st4
      refine GoH.st st4 ?_
      have g_b4 : n0 ≤ b4 := by rw [g4]; exact own_le O
      have Sf_b4 : Safe Z EL V9.vm h9 b4 := Safe.new (Nat.le_of_eq g4.symm)
      have sz_b4 : h0.size ≤ b4 := by rw [g4]; exact KK.1
      have ne_b1_b4 : b1 ≠ b4 := Nat.ne_of_lt (by rw [g4]; exact E_b1.lt)
      have ne_t2_b4 : t2 ≠ b4 := Nat.ne_of_lt (by rw [g4]; exact A_t2.lt)
      have ne_na_b4 : na ≠ b4 := Nat.ne_of_lt (by rw [g4]; exact V_na.lt)
      have E_b1 := E_b1.ext E4
      have A_t2 := A_t2.ext E4
      have C_b1 := C_b1.ext E4
      have V_b1 := V_b1.ext E4
      have V_na := V_na.ext E4
      have Sf_b4 := Safe.ext E4 HH Sf_b4
      have RR := RR.trans (CHr.ext E4 HH)
      have HH := HH.ext E4
      have hk := Nat.le_trans hk E4.1
      have O := O.ext E4
      have KK := KK.ext E4
      have V_b4 := Arv.new A4 (own_onn (by omega))
      show GoH _ _ _ _ _ _ _ _ _ _  T4 (mkF m 99 #[vI p1, vI p2, vI p3, vI p4, vI p5, vI (Int32.ofNat NA.length), vI (Int32.ofNat kk), vR na, vR b1, vI (Int32.ofNat kl), uS, uS, uS, uS, uS, uS] [(.ref b4)])
      refine GoH.st (fun _ => XS.astore X4.here hx rfl (hb hby at_99) rfl rfl (l' := #[vI p1, vI p2, vI p3, vI p4, vI p5, vI (Int32.ofNat NA.length), vI (Int32.ofNat kk), vR na, vR b1, vI (Int32.ofNat kl), vR b4, uS, uS, uS, uS, uS]) rfl) ?_
      refine GoH.st (fun _ => XS.aload X4.here hx rfl (hb hby at_101) rfl rfl) ?_
      refine GoH.st (fun _ => XS.iconst X4.here hx rfl (hb hby at_103)) ?_
      refine GoH.st (fun _ => XS.iloadN X4.here hx rfl (hb hby at_104) rfl) ?_
      show GoH _ _ _ _ _ _ _ _ _ _  T4 (mkF m 105 #[vI p1, vI p2, vI p3, vI p4, vI p5, vI (Int32.ofNat NA.length), vI (Int32.ofNat kk), vR na, vR b1, vI (Int32.ofNat kl), vR b4, uS, uS, uS, uS, uS] [(.int p3), (.int (0 : Int32)), (.ref b4)])
      obtain ⟨_, _, ⟨T5, L5, k5, n5⟩, -, X5, ⟨Lc5, hQ5, l5, y5, z5⟩, st5⟩ := Jvm.LawKit.callS X4 hx (y := mY53) hown (mvT hZ (hwi hw 40 rfl)) (mvT hZ (hwi hw 41 rfl)) (mvT hZ (hwi hw 3 rfl)) (mvT hZ (hwi hw 42 rfl)) (by decide) (backOf (W := 0) (rmPt l Z a0 hw [] b4 p3 k4 kl ([] : List Int32) h4 n0 O V_b4 (by have q := own_kl1 kk p3 p4 p5; rw [← hkl] at q; (try simp only [List.length_append, List.length_nil] at q ⊢); omega) (by omega) g_b4) hZ (hwi hw 42 rfl) (hwi hw 3 rfl) (by decide) (by decide)) (g := (mkF m 105 #[vI p1, vI p2, vI p3, vI p4, vI p5, vI (Int32.ofNat NA.length), vI (Int32.ofNat kk), vR na, vR b1, vI (Int32.ofNat kl), vR b4, uS, uS, uS, uS, uS] [(.int p3), (.int (0 : Int32)), (.ref b4)])) rfl (by rw [hml]; rfl) (argsL := [(.ref b4), (.int (0 : Int32)), (.int p3)]) (rest := []) (lenOf pd___CII_I rfl) rfl (by show 2 * 0 + _ ≤ _; exact Nat.le_of_eq rfl) (hb hby at_105) (fun _ _ => ⟨rfl, e4, (by decide : 5 + 0 ≤ _), (by decide : 114 + 0 ≤ _)⟩)
      dsimp only [Pt.U, Pt.locs, Pt.cells, Pt.slots] at X5 l5 y5 z5 st5 hQ5
      rw [l5, y5, z5] at X5
      have X5 : Stand p l e _ _ m _ below meth c T5 _ 5 114 := X5
      obtain ⟨rfl, N5q, K5q, Aq5⟩ := hQ5
      have N5 := Fr.app N9 N5q
      refine GoH.st st5 ?_
      have E_b1 := E_b1.keep K5q
      have A_t2 := A_t2.keep K5q (ninS ne_t2_b4 nin0)
      have C_b1 := C_b1.keep K5q (ninS ne_b1_b4 nin0)
      have V_b1 := V_b1.keep K5q (ninS ne_b1_b4 nin0)
      have V_na := V_na.keep K5q (ninS ne_na_b4 nin0)
      have sfw5 := (sfS Sf_b4 sf0)
      have Sf_b4 := Safe.keep K5q sfw5 HH Sf_b4
      have RR := RR.trans (CHr.keep K5q sfw5 HH)
      have HH := HH.keep K5q sfw5
      have hk := Nat.le_trans hk K5q.1
      have O := O.keep K5q (allS g_b4 all0)
      have KK := KK.trans K5q (allS (Or.inr sz_b4) all0)
      show GoH _ _ _ _ _ _ _ _ _ _  T5 (mkF m 108 #[vI p1, vI p2, vI p3, vI p4, vI p5, vI (Int32.ofNat NA.length), vI (Int32.ofNat kk), vR na, vR b1, vI (Int32.ofNat kl), vR b4, uS, uS, uS, uS, uS] [(.int (Int32.ofNat (([] : List Int32).length + (own_uc p3).length)))])
      rw [show ([] : List Int32).length + (own_uc p3).length = (own_uc p3).length from Nat.zero_add _]
      rw [List.nil_append] at Aq5
      show GoH _ _ _ _ _ _ _ _ _ _  T5 (mkF m 108 #[vI p1, vI p2, vI p3, vI p4, vI p5, vI (Int32.ofNat NA.length), vI (Int32.ofNat kk), vR na, vR b1, vI (Int32.ofNat kl), vR b4, uS, uS, uS, uS, uS] [(.int (Int32.ofNat (own_uc p3).length))])
      refine GoH.st (fun _ => XS.istore X5.here hx rfl (hb hby at_108) rfl (l' := #[vI p1, vI p2, vI p3, vI p4, vI p5, vI (Int32.ofNat NA.length), vI (Int32.ofNat kk), vR na, vR b1, vI (Int32.ofNat kl), vR b4, vI (Int32.ofNat (own_uc p3).length), uS, uS, uS, uS]) rfl) ?_
      have t143 : ∀ (T9 V9 : State) (k9 : Nat) (h9 : Heap) (Lz : List Loc) (pp : Int32), Stand p l e room_1 (s.setVm V9.vm) m #[(.int p1), (.int p2), (.int p3), (.int p4), (.int p5)] below meth c T9 Lz 5 114 → s.Since V9.vm k9 → k9 ≤ h9.size → T9.heap = h9 → Z.Warmed39 V9.vm → V9.vm.findClass "com/example/oplim/oplim/KeysPrefixPinLaw" = some m.cls → CHv Z EL V9.vm h9 → CHr Z EL s.vm h0 V9.vm h9 → Old Z n0 h9 → Fr n0 Lz → Keep h0 h9 [] → (Exa Z h9 b1 "java/lang/String") → (Fld Z h9 b1 "java/lang/String" "coder" "B" (.int (own_cd NA))) → (Fld Z h9 b1 "java/lang/String" "value" "[B" (.ref t2)) → (Arv Z h9 t2 kt2 .byte (Int32.ofNat (own_by NA).length) ((own_by NA).map Value.int) (.int 0)) → (Arv Z h9 na kna .char (Int32.ofNat NA.length) (NA.map Value.int) (.int 0)) → (Arv Z h9 b4 k4 .char (Int32.ofNat kl) ((own_key kk p3 p4 p5).map Value.int) (.int 0)) → GoH p e below s room_1.cells room_1.slots Z h0 EL (Q_rm0 Z p1 p2 p3 p4 p5 zc fm h0 n0) T9 (mkF m 143 #[vI p1, vI p2, vI p3, vI p4, vI p5, vI (Int32.ofNat NA.length), vI (Int32.ofNat kk), vR na, vR b1, vI (Int32.ofNat kl), vR b4, vI pp, uS, uS, uS, uS] []) := by
        intro T9 V9 k9 h9 Lz pp X9 hS hk e9 hZ hown HH RR O N9 KK E_b1 C_b1 V_b1 A_t2 V_na V_ka
        obtain ⟨KC, eKC⟩ : ∃ z, z = own_key kk p3 p4 p5 := ⟨_, rfl⟩
        have hKl : kl = KC.length := by rw [eKC]; exact hkl
        have hrK : ∀ j, j < KC.length → nar .char (KC.getD j 0) = KC.getD j 0 := by rw [eKC]; exact own_keyr _ _ _ _
        rw [← eKC, hKl] at V_ka
        show GoH _ _ _ _ _ _ _ _ _ _  T9 (mkF m 143 #[vI p1, vI p2, vI p3, vI p4, vI p5, vI (Int32.ofNat NA.length), vI (Int32.ofNat kk), vR na, vR b1, vI (Int32.ofNat kl), vR b4, vI pp, uS, uS, uS, uS] [])
        obtain ⟨T6, h6, X6, e6, E6, A6, D6, U6, st6⟩ := newO X9 hx hZ hown (hwi hw 5 rfl) (hwi hw 6 rfl) (hwi hw 7 rfl) e9 (g := (mkF m 143 #[vI p1, vI p2, vI p3, vI p4, vI p5, vI (Int32.ofNat NA.length), vI (Int32.ofNat kk), vR na, vR b1, vI (Int32.ofNat kl), vR b4, vI pp, uS, uS, uS, uS] [])) rfl (hb hby at_143) (by decide) (by decide)
        obtain ⟨b6, g6⟩ : ∃ z, z = h9.size := ⟨_, rfl⟩
        rw [← g6] at A6 D6 U6 st6
        refine GoH.st st6 ?_
        have g_b6 : n0 ≤ b6 := by rw [g6]; exact own_le O
        have Sf_b6 : Safe Z EL V9.vm h9 b6 := Safe.new (Nat.le_of_eq g6.symm)
        have sz_b6 : h0.size ≤ b6 := by rw [g6]; exact KK.1
        have ne_b1_b6 : b1 ≠ b6 := Nat.ne_of_lt (by rw [g6]; exact E_b1.lt)
        have ne_t2_b6 : t2 ≠ b6 := Nat.ne_of_lt (by rw [g6]; exact A_t2.lt)
        have ne_na_b6 : na ≠ b6 := Nat.ne_of_lt (by rw [g6]; exact V_na.lt)
        have ne_b4_b6 : b4 ≠ b6 := Nat.ne_of_lt (by rw [g6]; exact V_ka.lt)
        have E_b1 := E_b1.ext E6
        have A_t2 := A_t2.ext E6
        have C_b1 := C_b1.ext E6
        have V_b1 := V_b1.ext E6
        have V_na := V_na.ext E6
        have V_ka := V_ka.ext E6
        have Sf_b6 := Safe.ext E6 HH Sf_b6
        have RR := RR.trans (CHr.ext E6 HH)
        have HH := HH.ext E6
        have hk := Nat.le_trans hk E6.1
        have O := O.ext E6
        have KK := KK.ext E6
        have E_b6 := A6
        have F_coder_b6 : Fld Z h6 b6 "java/lang/String" "coder" "B" (.int (0 : Int32)) := D6 (Or.inr (hwi hw 31 rfl)) (ty := .byte) (by decide)
        have F_value_b6 : Fld Z h6 b6 "java/lang/String" "value" "[B" .null := D6 (Or.inr (hwi hw 33 rfl)) (ty := (.array .byte)) (by decide)
        show GoH _ _ _ _ _ _ _ _ _ _  T6 (mkF m 146 #[vI p1, vI p2, vI p3, vI p4, vI p5, vI (Int32.ofNat NA.length), vI (Int32.ofNat kk), vR na, vR b1, vI (Int32.ofNat kl), vR b4, vI pp, uS, uS, uS, uS] [(.ref b6)])
        refine GoH.st (fun _ => XS.dup X6.here hx rfl (hb hby at_146) rfl rfl) ?_
        refine GoH.st (fun _ => XS.aload X6.here hx rfl (hb hby at_147) rfl rfl) ?_
        show GoH _ _ _ _ _ _ _ _ _ _  T6 (mkF m 149 #[vI p1, vI p2, vI p3, vI p4, vI p5, vI (Int32.ofNat NA.length), vI (Int32.ofNat kk), vR na, vR b1, vI (Int32.ofNat kl), vR b4, vI pp, uS, uS, uS, uS] [(.ref b4), (.ref b6), (.ref b6)])
        obtain ⟨_, _, ⟨T7, L7, k7, n7⟩, -, X7, ⟨Lc7, hQ7, l7, y7, z7⟩, st7⟩ := X6.specialBack hx (y := mY36) rfl hown (mvT hZ (hwi hw 8 rfl)) (mvT hZ (hwi hw 9 rfl)) (mvT hZ (hwi hw 10 rfl)) (by decide) (backOf (W := 1) (rmI5 l Z a0 hw [] b6 b4 .null (.int (0 : Int32)) zc k4 KC h6 n0 O S_COMPACT hcs S_ad S_hi S_lo E_b6 F_value_b6 F_coder_b6 g_b6 V_ka (by omega) (by omega) hrK) hZ (hwi hw 10 rfl) (hwi hw 7 rfl) (by decide) (by decide)) (g := (mkF m 149 #[vI p1, vI p2, vI p3, vI p4, vI p5, vI (Int32.ofNat NA.length), vI (Int32.ofNat kk), vR na, vR b1, vI (Int32.ofNat kl), vR b4, vI pp, uS, uS, uS, uS] [(.ref b4), (.ref b6), (.ref b6)])) rfl (by rw [hml]; rfl) (Steps.refl _) (a := b6) (argsL := [(.ref b4)]) (rest := [(.ref b6)]) (lenOf pd___C_V rfl) rfl (by show 2 * 0 + _ ≤ _; exact Nat.le_of_eq rfl) (hb hby at_149) (fun _ _ => ⟨rfl, e6, (by decide : 6 + 2 ≤ _), (by decide : 118 + 102 ≤ _)⟩)
        dsimp only [Pt.U, Pt.locs, Pt.cells, Pt.slots] at X7 l7 y7 z7 st7 hQ7
        rw [l7, y7, z7] at X7
        have X7 : Stand p l e _ _ m _ below meth c T7 _ 8 220 := X7
        obtain ⟨rfl, N7q, K7q, Eq7, Cq7, t7, kt7, lt7, Vq7, Aq7⟩ := hQ7
        have N7 := Fr.app N9 N7q
        refine GoH.tr st7 ?_
        have g_t7 : n0 ≤ t7 := Nat.le_trans (own_le O) lt7
        have Sf_t7 : Safe Z EL V9.vm h6 t7 := Safe.new lt7
        have sz_t7 : h0.size ≤ t7 := Nat.le_trans KK.1 lt7
        have ne_b1_t7 : b1 ≠ t7 := Nat.ne_of_lt (Nat.lt_of_lt_of_le E_b1.lt lt7)
        have ne_t2_t7 : t2 ≠ t7 := Nat.ne_of_lt (Nat.lt_of_lt_of_le A_t2.lt lt7)
        have ne_na_t7 : na ≠ t7 := Nat.ne_of_lt (Nat.lt_of_lt_of_le V_na.lt lt7)
        have ne_b4_t7 : b4 ≠ t7 := Nat.ne_of_lt (Nat.lt_of_lt_of_le V_ka.lt lt7)
        have ne_b6_t7 : b6 ≠ t7 := Nat.ne_of_lt (Nat.lt_of_lt_of_le E_b6.lt lt7)
        have E_b1 := E_b1.keep K7q
        have A_t2 := A_t2.keep K7q (ninS ne_t2_b6 nin0)
        have C_b1 := C_b1.keep K7q (ninS ne_b1_b6 nin0)
        have V_b1 := V_b1.keep K7q (ninS ne_b1_b6 nin0)
        have V_na := V_na.keep K7q (ninS ne_na_b6 nin0)
        have V_ka := V_ka.keep K7q (ninS ne_b4_b6 nin0)
        have E_b6 := E_b6.keep K7q
        have sfw7 := (sfS Sf_b6 sf0)
        have Sf_b6 := Safe.keep K7q sfw7 HH Sf_b6
        have Sf_t7 := Safe.keep K7q sfw7 HH Sf_t7
        have RR := RR.trans (CHr.keep K7q sfw7 HH)
        have HH := HH.keep K7q sfw7
        have hk := Nat.le_trans hk K7q.1
        have O := O.keep K7q (allS g_b6 all0)
        have KK := KK.trans K7q (allS (Or.inr sz_b6) all0)
        have E_b6 := Eq7
        have C_b6 := Cq7
        have V_b6 := Vq7
        have A_t7 := Aq7
        show GoH _ _ _ _ _ _ _ _ _ _  T7 (mkF m 152 #[vI p1, vI p2, vI p3, vI p4, vI p5, vI (Int32.ofNat NA.length), vI (Int32.ofNat kk), vR na, vR b1, vI (Int32.ofNat kl), vR b4, vI pp, uS, uS, uS, uS] [(.ref b6)])
        refine GoH.st (fun _ => XS.astore X7.here hx rfl (hb hby at_152) rfl rfl (l' := #[vI p1, vI p2, vI p3, vI p4, vI p5, vI (Int32.ofNat NA.length), vI (Int32.ofNat kk), vR na, vR b1, vI (Int32.ofNat kl), vR b4, vI pp, vR b6, uS, uS, uS]) rfl) ?_
        refine GoH.st (fun _ => XS.bipush X7.here hx rfl (hb hby at_154)) ?_
        refine GoH.st (fun _ => XS.iload X7.here hx rfl (hb hby at_156) rfl) ?_
        refine GoH.st (fun _ => XS.iadd X7.here hx rfl (hb hby at_158) rfl) ?_
        show GoH _ _ _ _ _ _ _ _ _ _  T7 (mkF m 159 #[vI p1, vI p2, vI p3, vI p4, vI p5, vI (Int32.ofNat NA.length), vI (Int32.ofNat kk), vR na, vR b1, vI (Int32.ofNat kl), vR b4, vI pp, vR b6, uS, uS, uS] [(.int ((7 : Int32) + (Int32.ofNat NA.length)))])
        rw [show (7 : Int32) + Int32.ofNat NA.length = Int32.ofNat (7 + NA.length) from own_oadd 7 _]
        refine GoH.st (fun _ => XS.iconst X7.here hx rfl (hb hby at_159)) ?_
        refine GoH.st (fun _ => XS.iadd X7.here hx rfl (hb hby at_160) rfl) ?_
        show GoH _ _ _ _ _ _ _ _ _ _  T7 (mkF m 161 #[vI p1, vI p2, vI p3, vI p4, vI p5, vI (Int32.ofNat NA.length), vI (Int32.ofNat kk), vR na, vR b1, vI (Int32.ofNat kl), vR b4, vI pp, vR b6, uS, uS, uS] [(.int ((Int32.ofNat (7 + NA.length)) + (1 : Int32)))])
        rw [own_1inc]
        show GoH _ _ _ _ _ _ _ _ _ _  T7 (mkF m 161 #[vI p1, vI p2, vI p3, vI p4, vI p5, vI (Int32.ofNat NA.length), vI (Int32.ofNat kk), vR na, vR b1, vI (Int32.ofNat kl), vR b4, vI pp, vR b6, uS, uS, uS] [(.int (Int32.ofNat (7 + NA.length + 1)))])
        refine GoH.st (fun _ => XS.iload X7.here hx rfl (hb hby at_161) rfl) ?_
        refine GoH.st (fun _ => XS.iadd X7.here hx rfl (hb hby at_163) rfl) ?_
        show GoH _ _ _ _ _ _ _ _ _ _  T7 (mkF m 164 #[vI p1, vI p2, vI p3, vI p4, vI p5, vI (Int32.ofNat NA.length), vI (Int32.ofNat kk), vR na, vR b1, vI (Int32.ofNat kl), vR b4, vI pp, vR b6, uS, uS, uS] [(.int ((Int32.ofNat (7 + NA.length + 1)) + (Int32.ofNat kl)))])
        rw [own_oadd]
        refine GoH.st (fun _ => XS.iconst X7.here hx rfl (hb hby at_164)) ?_
        refine GoH.st (fun _ => XS.iadd X7.here hx rfl (hb hby at_165) rfl) ?_
        show GoH _ _ _ _ _ _ _ _ _ _  T7 (mkF m 166 #[vI p1, vI p2, vI p3, vI p4, vI p5, vI (Int32.ofNat NA.length), vI (Int32.ofNat kk), vR na, vR b1, vI (Int32.ofNat kl), vR b4, vI pp, vR b6, uS, uS, uS] [(.int ((Int32.ofNat (7 + NA.length + 1 + kl)) + (1 : Int32)))])
        rw [own_1inc]
        show GoH _ _ _ _ _ _ _ _ _ _  T7 (mkF m 166 #[vI p1, vI p2, vI p3, vI p4, vI p5, vI (Int32.ofNat NA.length), vI (Int32.ofNat kk), vR na, vR b1, vI (Int32.ofNat kl), vR b4, vI pp, vR b6, uS, uS, uS] [(.int (Int32.ofNat (7 + NA.length + 1 + kl + 1)))])
        obtain ⟨T8, h8, k8, X8, e8, E8, A8, st8⟩ := newP X7 hx hZ (hwi hw 0 rfl) rfl (g := (mkF m 166 #[vI p1, vI p2, vI p3, vI p4, vI p5, vI (Int32.ofNat NA.length), vI (Int32.ofNat kk), vR na, vR b1, vI (Int32.ofNat kl), vR b4, vI pp, vR b6, uS, uS, uS] [(.int (Int32.ofNat (7 + NA.length + 1 + kl + 1)))])) rfl (hb hby at_166) rfl (own_onn (by omega)) (cap := 17) (by rw [own_ocl (by omega)]; omega) (by decide) (by decide) (by decide)
        obtain ⟨b8, g8⟩ : ∃ z, z = T7.heap.size := ⟨_, rfl⟩
        rw [← g8] at A8 st8
        refine GoH.st st8 ?_
        have g_b8 : n0 ≤ b8 := by rw [g8]; exact own_le O
        have Sf_b8 : Safe Z EL V9.vm T7.heap b8 := Safe.new (Nat.le_of_eq g8.symm)
        have sz_b8 : h0.size ≤ b8 := by rw [g8]; exact KK.1
        have ne_b1_b8 : b1 ≠ b8 := Nat.ne_of_lt (by rw [g8]; exact E_b1.lt)
        have ne_t2_b8 : t2 ≠ b8 := Nat.ne_of_lt (by rw [g8]; exact A_t2.lt)
        have ne_na_b8 : na ≠ b8 := Nat.ne_of_lt (by rw [g8]; exact V_na.lt)
        have ne_b4_b8 : b4 ≠ b8 := Nat.ne_of_lt (by rw [g8]; exact V_ka.lt)
        have ne_b6_b8 : b6 ≠ b8 := Nat.ne_of_lt (by rw [g8]; exact E_b6.lt)
        have ne_t7_b8 : t7 ≠ b8 := Nat.ne_of_lt (by rw [g8]; exact A_t7.lt)
        have E_b1 := E_b1.ext E8
        have A_t2 := A_t2.ext E8
        have C_b1 := C_b1.ext E8
        have V_b1 := V_b1.ext E8
        have V_na := V_na.ext E8
        have V_ka := V_ka.ext E8
        have E_b6 := E_b6.ext E8
        have A_t7 := A_t7.ext E8
        have C_b6 := C_b6.ext E8
        have V_b6 := V_b6.ext E8
        have Sf_b6 := Safe.ext E8 HH Sf_b6
        have Sf_t7 := Safe.ext E8 HH Sf_t7
        have Sf_b8 := Safe.ext E8 HH Sf_b8
        have RR := RR.trans (CHr.ext E8 HH)
        have HH := HH.ext E8
        have hk := Nat.le_trans hk E8.1
        have O := O.ext E8
        have KK := KK.ext E8
        have V_b8 := Arv.new A8 (own_onn (by omega))
        show GoH _ _ _ _ _ _ _ _ _ _  T8 (mkF m 168 #[vI p1, vI p2, vI p3, vI p4, vI p5, vI (Int32.ofNat NA.length), vI (Int32.ofNat kk), vR na, vR b1, vI (Int32.ofNat kl), vR b4, vI pp, vR b6, uS, uS, uS] [(.ref b8)])
        refine GoH.st (fun _ => XS.astore X8.here hx rfl (hb hby at_168) rfl rfl (l' := #[vI p1, vI p2, vI p3, vI p4, vI p5, vI (Int32.ofNat NA.length), vI (Int32.ofNat kk), vR na, vR b1, vI (Int32.ofNat kl), vR b4, vI pp, vR b6, vR b8, uS, uS]) rfl) ?_
        refine GoH.st (fun _ => XS.aload X8.here hx rfl (hb hby at_170) rfl rfl) ?_
        refine GoH.st (fun _ => XS.iconst X8.here hx rfl (hb hby at_172)) ?_
        refine GoH.st (fun _ => XS.bipush X8.here hx rfl (hb hby at_173)) ?_
        show GoH _ _ _ _ _ _ _ _ _ _  T8 (mkF m 175 #[vI p1, vI p2, vI p3, vI p4, vI p5, vI (Int32.ofNat NA.length), vI (Int32.ofNat kk), vR na, vR b1, vI (Int32.ofNat kl), vR b4, vI pp, vR b6, vR b8, uS, uS] [(.int (111 : Int32)), (.int (0 : Int32)), (.ref b8)])
        obtain ⟨cl9, Ar9, q9, S9, M9, Hh9, G9⟩ := V_b8
        obtain ⟨T10, h10, X10, e10, W10, st10⟩ := stC X8 hx hZ e8 Ar9 (j := (0 : Int32)) (inb_of S9 ⟨by decide, (own_olt (a := 0) (by omega) (by omega)).mpr (by omega)⟩) (g := (mkF m 175 #[vI p1, vI p2, vI p3, vI p4, vI p5, vI (Int32.ofNat NA.length), vI (Int32.ofNat kk), vR na, vR b1, vI (Int32.ofNat kl), vR b4, vI pp, vR b6, vR b8, uS, uS] [(.int (111 : Int32)), (.int (0 : Int32)), (.ref b8)])) rfl rfl (hb hby at_175)
        refine GoH.st st10 ?_
        have V_b8 : Arv Z h10 b8 k8 .char (Int32.ofNat (7 + NA.length + 1 + kl + 1)) ((([] : List Int32).map Value.int) ++ [Value.int (nar .char (111 : Int32))]) (.int 0) := own_push Ar9 q9 S9 M9 Hh9 G9 (fits_nar_char _) W10 rfl
        rw [show nar .char (111 : Int32) = 111 from rfl] at V_b8
        have N10 := Fr.snoc X10 N7 g_b8
        have E_b1 := E_b1.wr W10
        have A_t2 := A_t2.other W10 ne_t2_b8
        have C_b1 := C_b1.other W10 (Or.inl ne_b1_b8)
        have V_b1 := V_b1.other W10 (Or.inl ne_b1_b8)
        have V_na := V_na.other W10 ne_na_b8
        have V_ka := V_ka.other W10 ne_b4_b8
        have E_b6 := E_b6.wr W10
        have A_t7 := A_t7.other W10 ne_t7_b8
        have C_b6 := C_b6.other W10 (Or.inl ne_b6_b8)
        have V_b6 := V_b6.other W10 (Or.inl ne_b6_b8)
        have Sf_b6 := Safe.wr W10 Sf_b8 HH Sf_b6
        have Sf_t7 := Safe.wr W10 Sf_b8 HH Sf_t7
        have Sf'_b8 := Safe.wr W10 Sf_b8 HH Sf_b8
        have RR := RR.trans (CHr.wr W10 Sf_b8 HH)
        have HH := HH.wr W10 Sf_b8
        have Sf_b8 := Sf'_b8
        have hk := Nat.le_trans hk (Nat.le_of_eq W10.size.symm)
        have O := O.wr W10 g_b8
        have KK := KK.wr W10 (Or.inr sz_b8)
        have V_b8 : Arv Z h10 b8 k8 .char (Int32.ofNat (7 + NA.length + 1 + kl + 1)) (([111] : List Int32).map Value.int) (.int 0) := V_b8
        show GoH _ _ _ _ _ _ _ _ _ _  T10 (mkF m 176 #[vI p1, vI p2, vI p3, vI p4, vI p5, vI (Int32.ofNat NA.length), vI (Int32.ofNat kk), vR na, vR b1, vI (Int32.ofNat kl), vR b4, vI pp, vR b6, vR b8, uS, uS] [])
        refine GoH.st (fun _ => XS.aload X10.here hx rfl (hb hby at_176) rfl rfl) ?_
        refine GoH.st (fun _ => XS.iconst X10.here hx rfl (hb hby at_178)) ?_
        refine GoH.st (fun _ => XS.bipush X10.here hx rfl (hb hby at_179)) ?_
        show GoH _ _ _ _ _ _ _ _ _ _  T10 (mkF m 181 #[vI p1, vI p2, vI p3, vI p4, vI p5, vI (Int32.ofNat NA.length), vI (Int32.ofNat kk), vR na, vR b1, vI (Int32.ofNat kl), vR b4, vI pp, vR b6, vR b8, uS, uS] [(.int (112 : Int32)), (.int (1 : Int32)), (.ref b8)])
        obtain ⟨cl11, Ar11, q11, S11, M11, Hh11, G11⟩ := V_b8
        obtain ⟨T12, h12, X12, e12, W12, st12⟩ := stC X10 hx hZ e10 Ar11 (j := (1 : Int32)) (inb_of S11 ⟨by decide, (own_olt (a := 1) (by omega) (by omega)).mpr (by omega)⟩) (g := (mkF m 181 #[vI p1, vI p2, vI p3, vI p4, vI p5, vI (Int32.ofNat NA.length), vI (Int32.ofNat kk), vR na, vR b1, vI (Int32.ofNat kl), vR b4, vI pp, vR b6, vR b8, uS, uS] [(.int (112 : Int32)), (.int (1 : Int32)), (.ref b8)])) rfl rfl (hb hby at_181)
        refine GoH.st st12 ?_
        have V_b8 : Arv Z h12 b8 k8 .char (Int32.ofNat (7 + NA.length + 1 + kl + 1)) ((([111] : List Int32).map Value.int) ++ [Value.int (nar .char (112 : Int32))]) (.int 0) := own_push Ar11 q11 S11 M11 Hh11 G11 (fits_nar_char _) W12 rfl
        rw [show nar .char (112 : Int32) = 112 from rfl] at V_b8
        have N12 := Fr.snoc X12 N10 g_b8
        have E_b1 := E_b1.wr W12
        have A_t2 := A_t2.other W12 ne_t2_b8
        have C_b1 := C_b1.other W12 (Or.inl ne_b1_b8)
        have V_b1 := V_b1.other W12 (Or.inl ne_b1_b8)
        have V_na := V_na.other W12 ne_na_b8
        have V_ka := V_ka.other W12 ne_b4_b8
        have E_b6 := E_b6.wr W12
        have A_t7 := A_t7.other W12 ne_t7_b8
        have C_b6 := C_b6.other W12 (Or.inl ne_b6_b8)
        have V_b6 := V_b6.other W12 (Or.inl ne_b6_b8)
        have Sf_b6 := Safe.wr W12 Sf_b8 HH Sf_b6
        have Sf_t7 := Safe.wr W12 Sf_b8 HH Sf_t7
        have Sf'_b8 := Safe.wr W12 Sf_b8 HH Sf_b8
        have RR := RR.trans (CHr.wr W12 Sf_b8 HH)
        have HH := HH.wr W12 Sf_b8
        have Sf_b8 := Sf'_b8
        have hk := Nat.le_trans hk (Nat.le_of_eq W12.size.symm)
        have O := O.wr W12 g_b8
        have KK := KK.wr W12 (Or.inr sz_b8)
        have V_b8 : Arv Z h12 b8 k8 .char (Int32.ofNat (7 + NA.length + 1 + kl + 1)) (([111, 112] : List Int32).map Value.int) (.int 0) := V_b8
        show GoH _ _ _ _ _ _ _ _ _ _  T12 (mkF m 182 #[vI p1, vI p2, vI p3, vI p4, vI p5, vI (Int32.ofNat NA.length), vI (Int32.ofNat kk), vR na, vR b1, vI (Int32.ofNat kl), vR b4, vI pp, vR b6, vR b8, uS, uS] [])
        refine GoH.st (fun _ => XS.aload X12.here hx rfl (hb hby at_182) rfl rfl) ?_
        refine GoH.st (fun _ => XS.iconst X12.here hx rfl (hb hby at_184)) ?_
        refine GoH.st (fun _ => XS.bipush X12.here hx rfl (hb hby at_185)) ?_
        show GoH _ _ _ _ _ _ _ _ _ _  T12 (mkF m 187 #[vI p1, vI p2, vI p3, vI p4, vI p5, vI (Int32.ofNat NA.length), vI (Int32.ofNat kk), vR na, vR b1, vI (Int32.ofNat kl), vR b4, vI pp, vR b6, vR b8, uS, uS] [(.int (108 : Int32)), (.int (2 : Int32)), (.ref b8)])
        obtain ⟨cl13, Ar13, q13, S13, M13, Hh13, G13⟩ := V_b8
        obtain ⟨T14, h14, X14, e14, W14, st14⟩ := stC X12 hx hZ e12 Ar13 (j := (2 : Int32)) (inb_of S13 ⟨by decide, (own_olt (a := 2) (by omega) (by omega)).mpr (by omega)⟩) (g := (mkF m 187 #[vI p1, vI p2, vI p3, vI p4, vI p5, vI (Int32.ofNat NA.length), vI (Int32.ofNat kk), vR na, vR b1, vI (Int32.ofNat kl), vR b4, vI pp, vR b6, vR b8, uS, uS] [(.int (108 : Int32)), (.int (2 : Int32)), (.ref b8)])) rfl rfl (hb hby at_187)
        refine GoH.st st14 ?_
        have V_b8 : Arv Z h14 b8 k8 .char (Int32.ofNat (7 + NA.length + 1 + kl + 1)) ((([111, 112] : List Int32).map Value.int) ++ [Value.int (nar .char (108 : Int32))]) (.int 0) := own_push Ar13 q13 S13 M13 Hh13 G13 (fits_nar_char _) W14 rfl
        rw [show nar .char (108 : Int32) = 108 from rfl] at V_b8
        have N14 := Fr.snoc X14 N12 g_b8
        have E_b1 := E_b1.wr W14
        have A_t2 := A_t2.other W14 ne_t2_b8
        have C_b1 := C_b1.other W14 (Or.inl ne_b1_b8)
        have V_b1 := V_b1.other W14 (Or.inl ne_b1_b8)
        have V_na := V_na.other W14 ne_na_b8
        have V_ka := V_ka.other W14 ne_b4_b8
        have E_b6 := E_b6.wr W14
        have A_t7 := A_t7.other W14 ne_t7_b8
        have C_b6 := C_b6.other W14 (Or.inl ne_b6_b8)
        have V_b6 := V_b6.other W14 (Or.inl ne_b6_b8)
        have Sf_b6 := Safe.wr W14 Sf_b8 HH Sf_b6
        have Sf_t7 := Safe.wr W14 Sf_b8 HH Sf_t7
        have Sf'_b8 := Safe.wr W14 Sf_b8 HH Sf_b8
        have RR := RR.trans (CHr.wr W14 Sf_b8 HH)
        have HH := HH.wr W14 Sf_b8
        have Sf_b8 := Sf'_b8
        have hk := Nat.le_trans hk (Nat.le_of_eq W14.size.symm)
        have O := O.wr W14 g_b8
        have KK := KK.wr W14 (Or.inr sz_b8)
        have V_b8 : Arv Z h14 b8 k8 .char (Int32.ofNat (7 + NA.length + 1 + kl + 1)) (([111, 112, 108] : List Int32).map Value.int) (.int 0) := V_b8
        show GoH _ _ _ _ _ _ _ _ _ _  T14 (mkF m 188 #[vI p1, vI p2, vI p3, vI p4, vI p5, vI (Int32.ofNat NA.length), vI (Int32.ofNat kk), vR na, vR b1, vI (Int32.ofNat kl), vR b4, vI pp, vR b6, vR b8, uS, uS] [])
        refine GoH.st (fun _ => XS.aload X14.here hx rfl (hb hby at_188) rfl rfl) ?_
        refine GoH.st (fun _ => XS.iconst X14.here hx rfl (hb hby at_190)) ?_
        refine GoH.st (fun _ => XS.bipush X14.here hx rfl (hb hby at_191)) ?_
        show GoH _ _ _ _ _ _ _ _ _ _  T14 (mkF m 193 #[vI p1, vI p2, vI p3, vI p4, vI p5, vI (Int32.ofNat NA.length), vI (Int32.ofNat kk), vR na, vR b1, vI (Int32.ofNat kl), vR b4, vI pp, vR b6, vR b8, uS, uS] [(.int (105 : Int32)), (.int (3 : Int32)), (.ref b8)])
        obtain ⟨cl15, Ar15, q15, S15, M15, Hh15, G15⟩ := V_b8
        obtain ⟨T16, h16, X16, e16, W16, st16⟩ := stC X14 hx hZ e14 Ar15 (j := (3 : Int32)) (inb_of S15 ⟨by decide, (own_olt (a := 3) (by omega) (by omega)).mpr (by omega)⟩) (g := (mkF m 193 #[vI p1, vI p2, vI p3, vI p4, vI p5, vI (Int32.ofNat NA.length), vI (Int32.ofNat kk), vR na, vR b1, vI (Int32.ofNat kl), vR b4, vI pp, vR b6, vR b8, uS, uS] [(.int (105 : Int32)), (.int (3 : Int32)), (.ref b8)])) rfl rfl (hb hby at_193)
        refine GoH.st st16 ?_
        have V_b8 : Arv Z h16 b8 k8 .char (Int32.ofNat (7 + NA.length + 1 + kl + 1)) ((([111, 112, 108] : List Int32).map Value.int) ++ [Value.int (nar .char (105 : Int32))]) (.int 0) := own_push Ar15 q15 S15 M15 Hh15 G15 (fits_nar_char _) W16 rfl
        rw [show nar .char (105 : Int32) = 105 from rfl] at V_b8
        have N16 := Fr.snoc X16 N14 g_b8
        have E_b1 := E_b1.wr W16
        have A_t2 := A_t2.other W16 ne_t2_b8
        have C_b1 := C_b1.other W16 (Or.inl ne_b1_b8)
        have V_b1 := V_b1.other W16 (Or.inl ne_b1_b8)
        have V_na := V_na.other W16 ne_na_b8
        have V_ka := V_ka.other W16 ne_b4_b8
        have E_b6 := E_b6.wr W16
        have A_t7 := A_t7.other W16 ne_t7_b8
        have C_b6 := C_b6.other W16 (Or.inl ne_b6_b8)
        have V_b6 := V_b6.other W16 (Or.inl ne_b6_b8)
        have Sf_b6 := Safe.wr W16 Sf_b8 HH Sf_b6
        have Sf_t7 := Safe.wr W16 Sf_b8 HH Sf_t7
        have Sf'_b8 := Safe.wr W16 Sf_b8 HH Sf_b8
        have RR := RR.trans (CHr.wr W16 Sf_b8 HH)
        have HH := HH.wr W16 Sf_b8
        have Sf_b8 := Sf'_b8
        have hk := Nat.le_trans hk (Nat.le_of_eq W16.size.symm)
        have O := O.wr W16 g_b8
        have KK := KK.wr W16 (Or.inr sz_b8)
        have V_b8 : Arv Z h16 b8 k8 .char (Int32.ofNat (7 + NA.length + 1 + kl + 1)) (([111, 112, 108, 105] : List Int32).map Value.int) (.int 0) := V_b8
        show GoH _ _ _ _ _ _ _ _ _ _  T16 (mkF m 194 #[vI p1, vI p2, vI p3, vI p4, vI p5, vI (Int32.ofNat NA.length), vI (Int32.ofNat kk), vR na, vR b1, vI (Int32.ofNat kl), vR b4, vI pp, vR b6, vR b8, uS, uS] [])
        refine GoH.st (fun _ => XS.aload X16.here hx rfl (hb hby at_194) rfl rfl) ?_
        refine GoH.st (fun _ => XS.iconst X16.here hx rfl (hb hby at_196)) ?_
        refine GoH.st (fun _ => XS.bipush X16.here hx rfl (hb hby at_197)) ?_
        show GoH _ _ _ _ _ _ _ _ _ _  T16 (mkF m 199 #[vI p1, vI p2, vI p3, vI p4, vI p5, vI (Int32.ofNat NA.length), vI (Int32.ofNat kk), vR na, vR b1, vI (Int32.ofNat kl), vR b4, vI pp, vR b6, vR b8, uS, uS] [(.int (109 : Int32)), (.int (4 : Int32)), (.ref b8)])
        obtain ⟨cl17, Ar17, q17, S17, M17, Hh17, G17⟩ := V_b8
        obtain ⟨T18, h18, X18, e18, W18, st18⟩ := stC X16 hx hZ e16 Ar17 (j := (4 : Int32)) (inb_of S17 ⟨by decide, (own_olt (a := 4) (by omega) (by omega)).mpr (by omega)⟩) (g := (mkF m 199 #[vI p1, vI p2, vI p3, vI p4, vI p5, vI (Int32.ofNat NA.length), vI (Int32.ofNat kk), vR na, vR b1, vI (Int32.ofNat kl), vR b4, vI pp, vR b6, vR b8, uS, uS] [(.int (109 : Int32)), (.int (4 : Int32)), (.ref b8)])) rfl rfl (hb hby at_199)
        refine GoH.st st18 ?_
        have V_b8 : Arv Z h18 b8 k8 .char (Int32.ofNat (7 + NA.length + 1 + kl + 1)) ((([111, 112, 108, 105] : List Int32).map Value.int) ++ [Value.int (nar .char (109 : Int32))]) (.int 0) := own_push Ar17 q17 S17 M17 Hh17 G17 (fits_nar_char _) W18 rfl
        rw [show nar .char (109 : Int32) = 109 from rfl] at V_b8
        have N18 := Fr.snoc X18 N16 g_b8
        have E_b1 := E_b1.wr W18
        have A_t2 := A_t2.other W18 ne_t2_b8
        have C_b1 := C_b1.other W18 (Or.inl ne_b1_b8)
        have V_b1 := V_b1.other W18 (Or.inl ne_b1_b8)
        have V_na := V_na.other W18 ne_na_b8
        have V_ka := V_ka.other W18 ne_b4_b8
        have E_b6 := E_b6.wr W18
        have A_t7 := A_t7.other W18 ne_t7_b8
        have C_b6 := C_b6.other W18 (Or.inl ne_b6_b8)
        have V_b6 := V_b6.other W18 (Or.inl ne_b6_b8)
        have Sf_b6 := Safe.wr W18 Sf_b8 HH Sf_b6
        have Sf_t7 := Safe.wr W18 Sf_b8 HH Sf_t7
        have Sf'_b8 := Safe.wr W18 Sf_b8 HH Sf_b8
        have RR := RR.trans (CHr.wr W18 Sf_b8 HH)
        have HH := HH.wr W18 Sf_b8
        have Sf_b8 := Sf'_b8
        have hk := Nat.le_trans hk (Nat.le_of_eq W18.size.symm)
        have O := O.wr W18 g_b8
        have KK := KK.wr W18 (Or.inr sz_b8)
        have V_b8 : Arv Z h18 b8 k8 .char (Int32.ofNat (7 + NA.length + 1 + kl + 1)) (([111, 112, 108, 105, 109] : List Int32).map Value.int) (.int 0) := V_b8
        show GoH _ _ _ _ _ _ _ _ _ _  T18 (mkF m 200 #[vI p1, vI p2, vI p3, vI p4, vI p5, vI (Int32.ofNat NA.length), vI (Int32.ofNat kk), vR na, vR b1, vI (Int32.ofNat kl), vR b4, vI pp, vR b6, vR b8, uS, uS] [])
        refine GoH.st (fun _ => XS.aload X18.here hx rfl (hb hby at_200) rfl rfl) ?_
        refine GoH.st (fun _ => XS.iconst X18.here hx rfl (hb hby at_202)) ?_
        refine GoH.st (fun _ => XS.bipush X18.here hx rfl (hb hby at_203)) ?_
        show GoH _ _ _ _ _ _ _ _ _ _  T18 (mkF m 205 #[vI p1, vI p2, vI p3, vI p4, vI p5, vI (Int32.ofNat NA.length), vI (Int32.ofNat kk), vR na, vR b1, vI (Int32.ofNat kl), vR b4, vI pp, vR b6, vR b8, uS, uS] [(.int (58 : Int32)), (.int (5 : Int32)), (.ref b8)])
        obtain ⟨cl19, Ar19, q19, S19, M19, Hh19, G19⟩ := V_b8
        obtain ⟨T20, h20, X20, e20, W20, st20⟩ := stC X18 hx hZ e18 Ar19 (j := (5 : Int32)) (inb_of S19 ⟨by decide, (own_olt (a := 5) (by omega) (by omega)).mpr (by omega)⟩) (g := (mkF m 205 #[vI p1, vI p2, vI p3, vI p4, vI p5, vI (Int32.ofNat NA.length), vI (Int32.ofNat kk), vR na, vR b1, vI (Int32.ofNat kl), vR b4, vI pp, vR b6, vR b8, uS, uS] [(.int (58 : Int32)), (.int (5 : Int32)), (.ref b8)])) rfl rfl (hb hby at_205)
        refine GoH.st st20 ?_
        have V_b8 : Arv Z h20 b8 k8 .char (Int32.ofNat (7 + NA.length + 1 + kl + 1)) ((([111, 112, 108, 105, 109] : List Int32).map Value.int) ++ [Value.int (nar .char (58 : Int32))]) (.int 0) := own_push Ar19 q19 S19 M19 Hh19 G19 (fits_nar_char _) W20 rfl
        rw [show nar .char (58 : Int32) = 58 from rfl] at V_b8
        have N20 := Fr.snoc X20 N18 g_b8
        have E_b1 := E_b1.wr W20
        have A_t2 := A_t2.other W20 ne_t2_b8
        have C_b1 := C_b1.other W20 (Or.inl ne_b1_b8)
        have V_b1 := V_b1.other W20 (Or.inl ne_b1_b8)
        have V_na := V_na.other W20 ne_na_b8
        have V_ka := V_ka.other W20 ne_b4_b8
        have E_b6 := E_b6.wr W20
        have A_t7 := A_t7.other W20 ne_t7_b8
        have C_b6 := C_b6.other W20 (Or.inl ne_b6_b8)
        have V_b6 := V_b6.other W20 (Or.inl ne_b6_b8)
        have Sf_b6 := Safe.wr W20 Sf_b8 HH Sf_b6
        have Sf_t7 := Safe.wr W20 Sf_b8 HH Sf_t7
        have Sf'_b8 := Safe.wr W20 Sf_b8 HH Sf_b8
        have RR := RR.trans (CHr.wr W20 Sf_b8 HH)
        have HH := HH.wr W20 Sf_b8
        have Sf_b8 := Sf'_b8
        have hk := Nat.le_trans hk (Nat.le_of_eq W20.size.symm)
        have O := O.wr W20 g_b8
        have KK := KK.wr W20 (Or.inr sz_b8)
        have V_b8 : Arv Z h20 b8 k8 .char (Int32.ofNat (7 + NA.length + 1 + kl + 1)) (([111, 112, 108, 105, 109, 58] : List Int32).map Value.int) (.int 0) := V_b8
        show GoH _ _ _ _ _ _ _ _ _ _  T20 (mkF m 206 #[vI p1, vI p2, vI p3, vI p4, vI p5, vI (Int32.ofNat NA.length), vI (Int32.ofNat kk), vR na, vR b1, vI (Int32.ofNat kl), vR b4, vI pp, vR b6, vR b8, uS, uS] [])
        refine GoH.st (fun _ => XS.aload X20.here hx rfl (hb hby at_206) rfl rfl) ?_
        refine GoH.st (fun _ => XS.bipush X20.here hx rfl (hb hby at_208)) ?_
        refine GoH.st (fun _ => XS.bipush X20.here hx rfl (hb hby at_210)) ?_
        show GoH _ _ _ _ _ _ _ _ _ _  T20 (mkF m 212 #[vI p1, vI p2, vI p3, vI p4, vI p5, vI (Int32.ofNat NA.length), vI (Int32.ofNat kk), vR na, vR b1, vI (Int32.ofNat kl), vR b4, vI pp, vR b6, vR b8, uS, uS] [(.int (123 : Int32)), (.int (6 : Int32)), (.ref b8)])
        obtain ⟨cl21, Ar21, q21, S21, M21, Hh21, G21⟩ := V_b8
        obtain ⟨T22, h22, X22, e22, W22, st22⟩ := stC X20 hx hZ e20 Ar21 (j := (6 : Int32)) (inb_of S21 ⟨by decide, (own_olt (a := 6) (by omega) (by omega)).mpr (by omega)⟩) (g := (mkF m 212 #[vI p1, vI p2, vI p3, vI p4, vI p5, vI (Int32.ofNat NA.length), vI (Int32.ofNat kk), vR na, vR b1, vI (Int32.ofNat kl), vR b4, vI pp, vR b6, vR b8, uS, uS] [(.int (123 : Int32)), (.int (6 : Int32)), (.ref b8)])) rfl rfl (hb hby at_212)
        refine GoH.st st22 ?_
        have V_b8 : Arv Z h22 b8 k8 .char (Int32.ofNat (7 + NA.length + 1 + kl + 1)) ((([111, 112, 108, 105, 109, 58] : List Int32).map Value.int) ++ [Value.int (nar .char (123 : Int32))]) (.int 0) := own_push Ar21 q21 S21 M21 Hh21 G21 (fits_nar_char _) W22 rfl
        rw [show nar .char (123 : Int32) = 123 from rfl] at V_b8
        have N22 := Fr.snoc X22 N20 g_b8
        have E_b1 := E_b1.wr W22
        have A_t2 := A_t2.other W22 ne_t2_b8
        have C_b1 := C_b1.other W22 (Or.inl ne_b1_b8)
        have V_b1 := V_b1.other W22 (Or.inl ne_b1_b8)
        have V_na := V_na.other W22 ne_na_b8
        have V_ka := V_ka.other W22 ne_b4_b8
        have E_b6 := E_b6.wr W22
        have A_t7 := A_t7.other W22 ne_t7_b8
        have C_b6 := C_b6.other W22 (Or.inl ne_b6_b8)
        have V_b6 := V_b6.other W22 (Or.inl ne_b6_b8)
        have Sf_b6 := Safe.wr W22 Sf_b8 HH Sf_b6
        have Sf_t7 := Safe.wr W22 Sf_b8 HH Sf_t7
        have Sf'_b8 := Safe.wr W22 Sf_b8 HH Sf_b8
        have RR := RR.trans (CHr.wr W22 Sf_b8 HH)
        have HH := HH.wr W22 Sf_b8
        have Sf_b8 := Sf'_b8
        have hk := Nat.le_trans hk (Nat.le_of_eq W22.size.symm)
        have O := O.wr W22 g_b8
        have KK := KK.wr W22 (Or.inr sz_b8)
        have V_b8 : Arv Z h22 b8 k8 .char (Int32.ofNat (7 + NA.length + 1 + kl + 1)) (own_L0.map Value.int) (.int 0) := V_b8
        show GoH _ _ _ _ _ _ _ _ _ _  T22 (mkF m 213 #[vI p1, vI p2, vI p3, vI p4, vI p5, vI (Int32.ofNat NA.length), vI (Int32.ofNat kk), vR na, vR b1, vI (Int32.ofNat kl), vR b4, vI pp, vR b6, vR b8, uS, uS] [])
        refine GoH.st (fun _ => XS.aload X22.here hx rfl (hb hby at_213) rfl rfl) ?_
        refine GoH.st (fun _ => XS.bipush X22.here hx rfl (hb hby at_215)) ?_
        refine GoH.st (fun _ => XS.aload X22.here hx rfl (hb hby at_217) rfl rfl) ?_
        refine GoH.st (fun _ => XS.iconst X22.here hx rfl (hb hby at_219)) ?_
        show GoH _ _ _ _ _ _ _ _ _ _  T22 (mkF m 220 #[vI p1, vI p2, vI p3, vI p4, vI p5, vI (Int32.ofNat NA.length), vI (Int32.ofNat kk), vR na, vR b1, vI (Int32.ofNat kl), vR b4, vI pp, vR b6, vR b8, uS, uS] [(.int (0 : Int32)), (.ref na), (.int (7 : Int32)), (.ref b8)])
        obtain ⟨cl23, Ar23, q23, S23, M23, Hh23, G23⟩ := id V_na
        refine GoH.st (X22.caload hx (j := (0 : Int32)) (v := (.int (NA.getD 0 0))) (by rw [e22]; exact Ar23.1) (State.isArrayOf_alike hZ.alike Ar23.2.1) Ar23.2.2 (inb_of S23 ⟨by decide, (own_olt (a := 0) (by omega) (by omega)).mpr (by omega)⟩) (Hh23.at (inb_of S23 ⟨by decide, (own_olt (a := 0) (by omega) (by omega)).mpr (by omega)⟩) (own_gm NA 0)) (g := (mkF m 220 #[vI p1, vI p2, vI p3, vI p4, vI p5, vI (Int32.ofNat NA.length), vI (Int32.ofNat kk), vR na, vR b1, vI (Int32.ofNat kl), vR b4, vI pp, vR b6, vR b8, uS, uS] [(.int (0 : Int32)), (.ref na), (.int (7 : Int32)), (.ref b8)])) rfl rfl (hb hby at_220)) ?_
        show GoH _ _ _ _ _ _ _ _ _ _  T22 (mkF m 221 #[vI p1, vI p2, vI p3, vI p4, vI p5, vI (Int32.ofNat NA.length), vI (Int32.ofNat kk), vR na, vR b1, vI (Int32.ofNat kl), vR b4, vI pp, vR b6, vR b8, uS, uS] [(.int (NA.getD 0 0)), (.int (7 : Int32)), (.ref b8)])
        obtain ⟨cl24, Ar24, q24, S24, M24, Hh24, G24⟩ := V_b8
        obtain ⟨T25, h25, X25, e25, W25, st25⟩ := stC X22 hx hZ e22 Ar24 (j := (7 : Int32)) (inb_of S24 ⟨by decide, (own_olt (a := 7) (by omega) (by omega)).mpr (by omega)⟩) (g := (mkF m 221 #[vI p1, vI p2, vI p3, vI p4, vI p5, vI (Int32.ofNat NA.length), vI (Int32.ofNat kk), vR na, vR b1, vI (Int32.ofNat kl), vR b4, vI pp, vR b6, vR b8, uS, uS] [(.int (NA.getD 0 0)), (.int (7 : Int32)), (.ref b8)])) rfl rfl (hb hby at_221)
        refine GoH.st st25 ?_
        have V_b8 : Arv Z h25 b8 k8 .char (Int32.ofNat (7 + NA.length + 1 + kl + 1)) ((own_L0.map Value.int) ++ [Value.int (nar .char (NA.getD 0 0))]) (.int 0) := own_push Ar24 q24 S24 M24 Hh24 G24 (fits_nar_char _) W25 rfl
        rw [hrN 0 (by omega)] at V_b8
        have N25 := Fr.snoc X25 N22 g_b8
        have E_b1 := E_b1.wr W25
        have A_t2 := A_t2.other W25 ne_t2_b8
        have C_b1 := C_b1.other W25 (Or.inl ne_b1_b8)
        have V_b1 := V_b1.other W25 (Or.inl ne_b1_b8)
        have V_na := V_na.other W25 ne_na_b8
        have V_ka := V_ka.other W25 ne_b4_b8
        have E_b6 := E_b6.wr W25
        have A_t7 := A_t7.other W25 ne_t7_b8
        have C_b6 := C_b6.other W25 (Or.inl ne_b6_b8)
        have V_b6 := V_b6.other W25 (Or.inl ne_b6_b8)
        have Sf_b6 := Safe.wr W25 Sf_b8 HH Sf_b6
        have Sf_t7 := Safe.wr W25 Sf_b8 HH Sf_t7
        have Sf'_b8 := Safe.wr W25 Sf_b8 HH Sf_b8
        have RR := RR.trans (CHr.wr W25 Sf_b8 HH)
        have HH := HH.wr W25 Sf_b8
        have Sf_b8 := Sf'_b8
        have hk := Nat.le_trans hk (Nat.le_of_eq W25.size.symm)
        have O := O.wr W25 g_b8
        have KK := KK.wr W25 (Or.inr sz_b8)
        have V_b8 : Arv Z h25 b8 k8 .char (Int32.ofNat (7 + NA.length + 1 + kl + 1)) ((own_L0 ++ [NA.getD 0 0]).map Value.int) (.int 0) := by rw [← own_mv]; exact V_b8
        show GoH _ _ _ _ _ _ _ _ _ _  T25 (mkF m 222 #[vI p1, vI p2, vI p3, vI p4, vI p5, vI (Int32.ofNat NA.length), vI (Int32.ofNat kk), vR na, vR b1, vI (Int32.ofNat kl), vR b4, vI pp, vR b6, vR b8, uS, uS] [])
        refine GoH.st (fun _ => XS.bipush X25.here hx rfl (hb hby at_222)) ?_
        refine GoH.st (fun _ => XS.istore X25.here hx rfl (hb hby at_224) rfl (l' := #[vI p1, vI p2, vI p3, vI p4, vI p5, vI (Int32.ofNat NA.length), vI (Int32.ofNat kk), vR na, vR b1, vI (Int32.ofNat kl), vR b4, vI pp, vR b6, vR b8, vI (8 : Int32), uS]) rfl) ?_
        show GoH _ _ _ _ _ _ _ _ _ _  T25 (mkF m 226 #[vI p1, vI p2, vI p3, vI p4, vI p5, vI (Int32.ofNat NA.length), vI (Int32.ofNat kk), vR na, vR b1, vI (Int32.ofNat kl), vR b4, vI pp, vR b6, vR b8, vI (8 : Int32), uS] [])
        have t245 : ∀ (T9 V9 : State) (k9 : Nat) (h9 : Heap) (Lz : List Loc), Stand p l e room_1 (s.setVm V9.vm) m #[(.int p1), (.int p2), (.int p3), (.int p4), (.int p5)] below meth c T9 Lz 9 237 → s.Since V9.vm k9 → k9 ≤ h9.size → T9.heap = h9 → Z.Warmed39 V9.vm → V9.vm.findClass "com/example/oplim/oplim/KeysPrefixPinLaw" = some m.cls → CHv Z EL V9.vm h9 → CHr Z EL s.vm h0 V9.vm h9 → Old Z n0 h9 → Fr n0 Lz → Keep h0 h9 [] → (Exa Z h9 b1 "java/lang/String") → (Fld Z h9 b1 "java/lang/String" "coder" "B" (.int (own_cd NA))) → (Fld Z h9 b1 "java/lang/String" "value" "[B" (.ref t2)) → (Arv Z h9 t2 kt2 .byte (Int32.ofNat (own_by NA).length) ((own_by NA).map Value.int) (.int 0)) → (Exa Z h9 b6 "java/lang/String") → (Fld Z h9 b6 "java/lang/String" "coder" "B" (.int (own_cd KC))) → (Fld Z h9 b6 "java/lang/String" "value" "[B" (.ref t7)) → (Arv Z h9 t7 kt7 .byte (Int32.ofNat (own_by KC).length) ((own_by KC).map Value.int) (.int 0)) → (Arv Z h9 b8 k8 .char (Int32.ofNat (7 + NA.length + 1 + kl + 1)) ((own_L0 ++ NA).map Value.int) (.int 0)) → (Safe Z EL V9.vm h9 b8) → GoH p e below s room_1.cells room_1.slots Z h0 EL (Q_rm0 Z p1 p2 p3 p4 p5 zc fm h0 n0) T9 (mkF m 245 #[vI p1, vI p2, vI p3, vI p4, vI p5, vI (Int32.ofNat NA.length), vI (Int32.ofNat kk), vR na, vR b1, vI (Int32.ofNat kl), vR b4, vI pp, vR b6, vR b8, vI (Int32.ofNat (7 + NA.length)), uS] []) := by
          intro T9 V9 k9 h9 Lz  X9 hS hk e9 hZ hown HH RR O N9 KK E_b1 C_b1 V_b1 A_t2 E_b6 C_b6 V_b6 A_t7 V_ea Sf_b8
          refine GoH.st (fun _ => XS.aload X9.here hx rfl (hb hby at_245) rfl rfl) ?_
          refine GoH.st (fun _ => XS.iload X9.here hx rfl (hb hby at_247) rfl) ?_
          refine GoH.st (fun _ => XS.bipush X9.here hx rfl (hb hby at_249)) ?_
          show GoH _ _ _ _ _ _ _ _ _ _  T9 (mkF m 251 #[vI p1, vI p2, vI p3, vI p4, vI p5, vI (Int32.ofNat NA.length), vI (Int32.ofNat kk), vR na, vR b1, vI (Int32.ofNat kl), vR b4, vI pp, vR b6, vR b8, vI (Int32.ofNat (7 + NA.length)), uS] [(.int (58 : Int32)), (.int (Int32.ofNat (7 + NA.length))), (.ref b8)])
          obtain ⟨cl26, Ar26, q26, S26, M26, Hh26, G26⟩ := V_ea
          obtain ⟨T27, h27, X27, e27, W27, st27⟩ := stC X9 hx hZ e9 Ar26 (j := (Int32.ofNat (7 + NA.length))) (inb_of S26 ⟨own_onn (by omega), (own_olt (by omega) (by omega)).mpr (by omega)⟩) (g := (mkF m 251 #[vI p1, vI p2, vI p3, vI p4, vI p5, vI (Int32.ofNat NA.length), vI (Int32.ofNat kk), vR na, vR b1, vI (Int32.ofNat kl), vR b4, vI pp, vR b6, vR b8, vI (Int32.ofNat (7 + NA.length)), uS] [(.int (58 : Int32)), (.int (Int32.ofNat (7 + NA.length))), (.ref b8)])) rfl rfl (hb hby at_251)
          refine GoH.st st27 ?_
          have V_ea : Arv Z h27 b8 k8 .char (Int32.ofNat (7 + NA.length + 1 + kl + 1)) (((own_L0 ++ NA).map Value.int) ++ [Value.int (nar .char (58 : Int32))]) (.int 0) := own_push Ar26 q26 S26 M26 Hh26 G26 (fits_nar_char _) W27 (by rw [own_ocl (by omega), List.length_map, List.length_append, own_l0_])
          rw [show nar .char (58 : Int32) = 58 from rfl] at V_ea
          have N27 := Fr.snoc X27 N9 g_b8
          have E_b1 := E_b1.wr W27
          have A_t2 := A_t2.other W27 ne_t2_b8
          have C_b1 := C_b1.other W27 (Or.inl ne_b1_b8)
          have V_b1 := V_b1.other W27 (Or.inl ne_b1_b8)
          have E_b6 := E_b6.wr W27
          have A_t7 := A_t7.other W27 ne_t7_b8
          have C_b6 := C_b6.other W27 (Or.inl ne_b6_b8)
          have V_b6 := V_b6.other W27 (Or.inl ne_b6_b8)
          have Sf'_b8 := Safe.wr W27 Sf_b8 HH Sf_b8
          have RR := RR.trans (CHr.wr W27 Sf_b8 HH)
          have HH := HH.wr W27 Sf_b8
          have Sf_b8 := Sf'_b8
          have hk := Nat.le_trans hk (Nat.le_of_eq W27.size.symm)
          have O := O.wr W27 g_b8
          have KK := KK.wr W27 (Or.inr sz_b8)
          obtain ⟨EA, eEA⟩ : ∃ z, z = own_L0 ++ NA ++ [58] := ⟨_, rfl⟩
          have lEA : EA.length = 8 + NA.length := by rw [eEA]; simp only [List.length_append, own_l0_, List.length_cons, List.length_nil]; omega
          rw [own_mv, ← eEA] at V_ea
          show GoH _ _ _ _ _ _ _ _ _ _  T27 (mkF m 252 #[vI p1, vI p2, vI p3, vI p4, vI p5, vI (Int32.ofNat NA.length), vI (Int32.ofNat kk), vR na, vR b1, vI (Int32.ofNat kl), vR b4, vI pp, vR b6, vR b8, vI (Int32.ofNat (7 + NA.length)), uS] [])
          refine GoH.st (fun _ => XS.iload X27.here hx rfl (hb hby at_252) rfl) ?_
          refine GoH.st (fun _ => XS.iconst X27.here hx rfl (hb hby at_254)) ?_
          refine GoH.st (fun _ => XS.iadd X27.here hx rfl (hb hby at_255) rfl) ?_
          show GoH _ _ _ _ _ _ _ _ _ _  T27 (mkF m 256 #[vI p1, vI p2, vI p3, vI p4, vI p5, vI (Int32.ofNat NA.length), vI (Int32.ofNat kk), vR na, vR b1, vI (Int32.ofNat kl), vR b4, vI pp, vR b6, vR b8, vI (Int32.ofNat (7 + NA.length)), uS] [(.int ((Int32.ofNat (7 + NA.length)) + (1 : Int32)))])
          rw [show Int32.ofNat (7 + NA.length) + (1 : Int32) = Int32.ofNat EA.length from eEA ▸ own_ix NA]
          refine GoH.st (fun _ => XS.istore X27.here hx rfl (hb hby at_256) rfl (l' := #[vI p1, vI p2, vI p3, vI p4, vI p5, vI (Int32.ofNat NA.length), vI (Int32.ofNat kk), vR na, vR b1, vI (Int32.ofNat kl), vR b4, vI pp, vR b6, vR b8, vI (Int32.ofNat EA.length), uS]) rfl) ?_
          refine GoH.st (fun _ => XS.aload X27.here hx rfl (hb hby at_258) rfl rfl) ?_
          refine GoH.st (fun _ => XS.iload X27.here hx rfl (hb hby at_260) rfl) ?_
          show GoH _ _ _ _ _ _ _ _ _ _  T27 (mkF m 262 #[vI p1, vI p2, vI p3, vI p4, vI p5, vI (Int32.ofNat NA.length), vI (Int32.ofNat kk), vR na, vR b1, vI (Int32.ofNat kl), vR b4, vI pp, vR b6, vR b8, vI (Int32.ofNat EA.length), uS] [(.int (Int32.ofNat EA.length)), (.ref b8)])
          refine GoH.st (fun _ => XS.iloadN X27.here hx rfl (hb hby at_262) rfl) ?_
          show GoH _ _ _ _ _ _ _ _ _ _  T27 (mkF m 263 #[vI p1, vI p2, vI p3, vI p4, vI p5, vI (Int32.ofNat NA.length), vI (Int32.ofNat kk), vR na, vR b1, vI (Int32.ofNat kl), vR b4, vI pp, vR b6, vR b8, vI (Int32.ofNat EA.length), uS] [(.int p3), (.int (Int32.ofNat EA.length)), (.ref b8)])
          obtain ⟨_, _, ⟨T28, L28, k28, n28⟩, -, X28, ⟨Lc28, hQ28, l28, y28, z28⟩, st28⟩ := Jvm.LawKit.callS X27 hx (y := mY53) hown (mvT hZ (hwi hw 40 rfl)) (mvT hZ (hwi hw 41 rfl)) (mvT hZ (hwi hw 3 rfl)) (mvT hZ (hwi hw 42 rfl)) (by decide) (backOf (W := 0) (rmPt l Z a0 hw [] b8 p3 k8 (7 + NA.length + 1 + kl + 1) EA h27 n0 O V_ea (by have q := own_kl1 kk p3 p4 p5; rw [← hkl] at q; (try simp only [List.length_append, List.length_nil] at q ⊢); omega) (by omega) g_b8) hZ (hwi hw 42 rfl) (hwi hw 3 rfl) (by decide) (by decide)) (g := (mkF m 263 #[vI p1, vI p2, vI p3, vI p4, vI p5, vI (Int32.ofNat NA.length), vI (Int32.ofNat kk), vR na, vR b1, vI (Int32.ofNat kl), vR b4, vI pp, vR b6, vR b8, vI (Int32.ofNat EA.length), uS] [(.int p3), (.int (Int32.ofNat EA.length)), (.ref b8)])) rfl (by rw [hml]; rfl) (argsL := [(.ref b8), (.int (Int32.ofNat EA.length)), (.int p3)]) (rest := []) (lenOf pd___CII_I rfl) rfl (by show 2 * 0 + _ ≤ _; exact Nat.le_of_eq rfl) (hb hby at_263) (fun _ _ => ⟨rfl, e27, (by decide : 9 + 0 ≤ _), (by decide : 237 + 0 ≤ _)⟩)
          dsimp only [Pt.U, Pt.locs, Pt.cells, Pt.slots] at X28 l28 y28 z28 st28 hQ28
          rw [l28, y28, z28] at X28
          have X28 : Stand p l e _ _ m _ below meth c T28 _ 9 237 := X28
          obtain ⟨rfl, N28q, K28q, Aq28⟩ := hQ28
          have N28 := Fr.app N27 N28q
          refine GoH.st st28 ?_
          have E_b1 := E_b1.keep K28q
          have A_t2 := A_t2.keep K28q (ninS ne_t2_b8 nin0)
          have C_b1 := C_b1.keep K28q (ninS ne_b1_b8 nin0)
          have V_b1 := V_b1.keep K28q (ninS ne_b1_b8 nin0)
          have E_b6 := E_b6.keep K28q
          have A_t7 := A_t7.keep K28q (ninS ne_t7_b8 nin0)
          have C_b6 := C_b6.keep K28q (ninS ne_b6_b8 nin0)
          have V_b6 := V_b6.keep K28q (ninS ne_b6_b8 nin0)
          have sfw28 := (sfS Sf_b8 sf0)
          have Sf_b8 := Safe.keep K28q sfw28 HH Sf_b8
          have RR := RR.trans (CHr.keep K28q sfw28 HH)
          have HH := HH.keep K28q sfw28
          have hk := Nat.le_trans hk K28q.1
          have O := O.keep K28q (allS g_b8 all0)
          have KK := KK.trans K28q (allS (Or.inr sz_b8) all0)
          show GoH _ _ _ _ _ _ _ _ _ _  T28 (mkF m 266 #[vI p1, vI p2, vI p3, vI p4, vI p5, vI (Int32.ofNat NA.length), vI (Int32.ofNat kk), vR na, vR b1, vI (Int32.ofNat kl), vR b4, vI pp, vR b6, vR b8, vI (Int32.ofNat EA.length), uS] [(.int (Int32.ofNat (EA.length + (own_uc p3).length)))])
          rw [← List.length_append]
          show GoH _ _ _ _ _ _ _ _ _ _  T28 (mkF m 266 #[vI p1, vI p2, vI p3, vI p4, vI p5, vI (Int32.ofNat NA.length), vI (Int32.ofNat kk), vR na, vR b1, vI (Int32.ofNat kl), vR b4, vI pp, vR b6, vR b8, vI (Int32.ofNat EA.length), uS] [(.int (Int32.ofNat (EA ++ own_uc p3).length))])
          refine GoH.st (fun _ => XS.istore X28.here hx rfl (hb hby at_266) rfl (l' := #[vI p1, vI p2, vI p3, vI p4, vI p5, vI (Int32.ofNat NA.length), vI (Int32.ofNat kk), vR na, vR b1, vI (Int32.ofNat kl), vR b4, vI pp, vR b6, vR b8, vI (Int32.ofNat (EA ++ own_uc p3).length), uS]) rfl) ?_
          show GoH _ _ _ _ _ _ _ _ _ _  T28 (mkF m 268 #[vI p1, vI p2, vI p3, vI p4, vI p5, vI (Int32.ofNat NA.length), vI (Int32.ofNat kk), vR na, vR b1, vI (Int32.ofNat kl), vR b4, vI pp, vR b6, vR b8, vI (Int32.ofNat (EA ++ own_uc p3).length), uS] [])
          have t301 : ∀ (T9 V9 : State) (k9 : Nat) (h9 : Heap) (Lz : List Loc), Stand p l e room_1 (s.setVm V9.vm) m #[(.int p1), (.int p2), (.int p3), (.int p4), (.int p5)] below meth c T9 Lz 9 237 → s.Since V9.vm k9 → k9 ≤ h9.size → T9.heap = h9 → Z.Warmed39 V9.vm → V9.vm.findClass "com/example/oplim/oplim/KeysPrefixPinLaw" = some m.cls → CHv Z EL V9.vm h9 → CHr Z EL s.vm h0 V9.vm h9 → Old Z n0 h9 → Fr n0 Lz → Keep h0 h9 [] → (Exa Z h9 b1 "java/lang/String") → (Fld Z h9 b1 "java/lang/String" "coder" "B" (.int (own_cd NA))) → (Fld Z h9 b1 "java/lang/String" "value" "[B" (.ref t2)) → (Arv Z h9 t2 kt2 .byte (Int32.ofNat (own_by NA).length) ((own_by NA).map Value.int) (.int 0)) → (Exa Z h9 b6 "java/lang/String") → (Fld Z h9 b6 "java/lang/String" "coder" "B" (.int (own_cd KC))) → (Fld Z h9 b6 "java/lang/String" "value" "[B" (.ref t7)) → (Arv Z h9 t7 kt7 .byte (Int32.ofNat (own_by KC).length) ((own_by KC).map Value.int) (.int 0)) → (Arv Z h9 b8 k8 .char (Int32.ofNat (7 + NA.length + 1 + kl + 1)) ((EA ++ KC).map Value.int) (.int 0)) → (Safe Z EL V9.vm h9 b8) → GoH p e below s room_1.cells room_1.slots Z h0 EL (Q_rm0 Z p1 p2 p3 p4 p5 zc fm h0 n0) T9 (mkF m 301 #[vI p1, vI p2, vI p3, vI p4, vI p5, vI (Int32.ofNat NA.length), vI (Int32.ofNat kk), vR na, vR b1, vI (Int32.ofNat kl), vR b4, vI pp, vR b6, vR b8, vI (Int32.ofNat (EA ++ KC).length), uS] []) := by
            intro T9 V9 k9 h9 Lz  X9 hS hk e9 hZ hown HH RR O N9 KK E_b1 C_b1 V_b1 A_t2 E_b6 C_b6 V_b6 A_t7 V_ea Sf_b8
            refine GoH.st (fun _ => XS.aload X9.here hx rfl (hb hby at_301) rfl rfl) ?_
            refine GoH.st (fun _ => XS.iload X9.here hx rfl (hb hby at_303) rfl) ?_
            refine GoH.st (fun _ => XS.bipush X9.here hx rfl (hb hby at_305)) ?_
            show GoH _ _ _ _ _ _ _ _ _ _  T9 (mkF m 307 #[vI p1, vI p2, vI p3, vI p4, vI p5, vI (Int32.ofNat NA.length), vI (Int32.ofNat kk), vR na, vR b1, vI (Int32.ofNat kl), vR b4, vI pp, vR b6, vR b8, vI (Int32.ofNat (EA ++ KC).length), uS] [(.int (125 : Int32)), (.int (Int32.ofNat (EA ++ KC).length)), (.ref b8)])
            obtain ⟨cl29, Ar29, q29, S29, M29, Hh29, G29⟩ := V_ea
            obtain ⟨T30, h30, X30, e30, W30, st30⟩ := stC X9 hx hZ e9 Ar29 (j := (Int32.ofNat (EA ++ KC).length)) (inb_of S29 ⟨own_onn (by rw [List.length_append]; omega), (own_olt (by rw [List.length_append]; omega) (by omega)).mpr (by rw [List.length_append]; omega)⟩) (g := (mkF m 307 #[vI p1, vI p2, vI p3, vI p4, vI p5, vI (Int32.ofNat NA.length), vI (Int32.ofNat kk), vR na, vR b1, vI (Int32.ofNat kl), vR b4, vI pp, vR b6, vR b8, vI (Int32.ofNat (EA ++ KC).length), uS] [(.int (125 : Int32)), (.int (Int32.ofNat (EA ++ KC).length)), (.ref b8)])) rfl rfl (hb hby at_307)
            refine GoH.st st30 ?_
            have V_ea : Arv Z h30 b8 k8 .char (Int32.ofNat (7 + NA.length + 1 + kl + 1)) (((EA ++ KC).map Value.int) ++ [Value.int (nar .char (125 : Int32))]) (.int 0) := own_push Ar29 q29 S29 M29 Hh29 G29 (fits_nar_char _) W30 (by rw [own_ocl (by rw [List.length_append]; omega), List.length_map])
            rw [show nar .char (125 : Int32) = 125 from rfl] at V_ea
            have N30 := Fr.snoc X30 N9 g_b8
            have E_b1 := E_b1.wr W30
            have A_t2 := A_t2.other W30 ne_t2_b8
            have C_b1 := C_b1.other W30 (Or.inl ne_b1_b8)
            have V_b1 := V_b1.other W30 (Or.inl ne_b1_b8)
            have E_b6 := E_b6.wr W30
            have A_t7 := A_t7.other W30 ne_t7_b8
            have C_b6 := C_b6.other W30 (Or.inl ne_b6_b8)
            have V_b6 := V_b6.other W30 (Or.inl ne_b6_b8)
            have Sf'_b8 := Safe.wr W30 Sf_b8 HH Sf_b8
            have RR := RR.trans (CHr.wr W30 Sf_b8 HH)
            have HH := HH.wr W30 Sf_b8
            have Sf_b8 := Sf'_b8
            have hk := Nat.le_trans hk (Nat.le_of_eq W30.size.symm)
            have O := O.wr W30 g_b8
            have KK := KK.wr W30 (Or.inr sz_b8)
            obtain ⟨M, eM⟩ : ∃ z, z = own_M NA KC := ⟨_, rfl⟩
            have lM : M.length = 9 + NA.length + KC.length := by rw [eM]; exact own_Ml _ _
            have hrM : ∀ j, j < M.length → nar .char (M.getD j 0) = M.getD j 0 := by rw [eM]; exact own_hrM hrN hrK
            rw [own_mv, show EA ++ KC ++ [125] = M from by rw [eM, eEA]; rfl, show (7 + NA.length + 1 + kl + 1) = M.length from by omega] at V_ea
            show GoH _ _ _ _ _ _ _ _ _ _  T30 (mkF m 308 #[vI p1, vI p2, vI p3, vI p4, vI p5, vI (Int32.ofNat NA.length), vI (Int32.ofNat kk), vR na, vR b1, vI (Int32.ofNat kl), vR b4, vI pp, vR b6, vR b8, vI (Int32.ofNat (EA ++ KC).length), uS] [])
            refine GoH.st (fun _ => XS.aload X30.here hx rfl (hb hby at_308) rfl rfl) ?_
            refine GoH.st (fun _ => XS.aload X30.here hx rfl (hb hby at_310) rfl rfl) ?_
            show GoH _ _ _ _ _ _ _ _ _ _  T30 (mkF m 312 #[vI p1, vI p2, vI p3, vI p4, vI p5, vI (Int32.ofNat NA.length), vI (Int32.ofNat kk), vR na, vR b1, vI (Int32.ofNat kl), vR b4, vI pp, vR b6, vR b8, vI (Int32.ofNat (EA ++ KC).length), uS] [(.ref b6), (.ref b1)])
            obtain ⟨_, _, ⟨T31, L31, k31, n31⟩, -, X31, hSn31, hgn31, ⟨Lc31, hQ31, l31, y31, z31, CR31⟩, st31⟩ := callSS X30 hx (y := mY66) hown (mvT hZ (hwi hw 48 rfl)) (mvT hZ (hwi hw 49 rfl)) (mvT hZ (hwi hw 50 rfl)) (mvT hZ (hwi hw 51 rfl)) (by decide) (own_backSH (sf := []) (W := 0) (rmPx l Z a0 hw [] b1 b6 zc fm t2 kt2 NA t7 kt7 KC kk h30 n0 O hEL wS S_COMPACT hcs S_SIO ref_fm S_ad S_hi S_lo E_b1 C_b1 V_b1 A_t2 E_b6 C_b6 V_b6 A_t7 hl2 (by omega) (by omega) hrN hrK l1N (eKC ▸ own_keya hkk1 hkk2) hkk2) hZ (hwi hw 51 rfl) (hwi hw 50 rfl) (by decide) (by decide) hEL HH all0) (g := (mkF m 312 #[vI p1, vI p2, vI p3, vI p4, vI p5, vI (Int32.ofNat NA.length), vI (Int32.ofNat kk), vR na, vR b1, vI (Int32.ofNat kl), vR b4, vI pp, vR b6, vR b8, vI (Int32.ofNat (EA ++ KC).length), uS] [(.ref b6), (.ref b1)])) rfl (by rw [hml]; rfl) (argsL := [(.ref b1), (.ref b6)]) (rest := []) (lenOf pd__Ljava_lang_String_Ljava_lang_String__Ljava_lang_String_ rfl) rfl (by show 2 * 0 + _ ≤ _; exact Nat.le_of_eq rfl) (hb hby at_312) (fun _ _ => ⟨rfl, e30, (by decide : 9 + 16 ≤ _), (by decide : 237 + 700 ≤ _)⟩)
            dsimp only [Pt.U, Pt.locs, Pt.cells, Pt.slots] at X31 l31 y31 z31 st31 hQ31 hSn31 hgn31 CR31
            rw [l31, y31, z31] at X31
            have X31 : Stand p l e _ _ m _ below meth c T31 _ 25 937 := X31
            obtain ⟨y31, t31, kt31, rfl, N31q, E31q, E_y31, C_y31, V_y31, A_t31⟩ := hQ31
            have X31 : Stand p l e _ (s.setVm T31.vm) m _ below meth c T31 _ _ _ := X31
            have N31 := Fr.app N30 N31q
            refine GoH.tr st31 ?_
            have hS31 := Jvm.RoadKit.foldS hS (by rw [e30]; exact hk) hSn31 hgn31
            have hZ31 := State.Warmed39.trans (t := s.setVm V9.vm) hZ hSn31.1
            have hk31 := Nat.le_refl T31.heap.size
            have hown31 := own_fc hSn31.1 hown
            have E31 := E31q
            have Sf_b8 := CHr.safe CR31 V_ea.lt Sf_b8
            have E_b1 := E_b1.ext E31
            have A_t2 := A_t2.ext E31
            have C_b1 := C_b1.ext E31
            have V_b1 := V_b1.ext E31
            have E_b6 := E_b6.ext E31
            have A_t7 := A_t7.ext E31
            have C_b6 := C_b6.ext E31
            have V_b6 := V_b6.ext E31
            have V_ea := V_ea.ext E31
            have O := O.ext E31
            have KK := KK.ext E31
            have RR := RR.trans CR31
            have HH := CR31.1
            have hS := hS31
            have hk := hk31
            have hZ := hZ31
            have hown := hown31
            rw [← eM] at C_y31 A_t31
            show GoH _ _ _ _ _ _ _ _ _ _  T31 (mkF m 315 #[vI p1, vI p2, vI p3, vI p4, vI p5, vI (Int32.ofNat NA.length), vI (Int32.ofNat kk), vR na, vR b1, vI (Int32.ofNat kl), vR b4, vI pp, vR b6, vR b8, vI (Int32.ofNat (EA ++ KC).length), uS] [(.ref y31)])
            refine GoH.st (fun _ => XS.astore X31.here hx rfl (hb hby at_315) rfl rfl (l' := #[vI p1, vI p2, vI p3, vI p4, vI p5, vI (Int32.ofNat NA.length), vI (Int32.ofNat kk), vR na, vR b1, vI (Int32.ofNat kl), vR b4, vI pp, vR b6, vR b8, vI (Int32.ofNat (EA ++ KC).length), vR y31]) rfl) ?_
            refine GoH.st (fun _ => XS.aload X31.here hx rfl (hb hby at_317) rfl rfl) ?_
            show GoH _ _ _ _ _ _ _ _ _ _  T31 (mkF m 319 #[vI p1, vI p2, vI p3, vI p4, vI p5, vI (Int32.ofNat NA.length), vI (Int32.ofNat kk), vR na, vR b1, vI (Int32.ofNat kl), vR b4, vI pp, vR b6, vR b8, vI (Int32.ofNat (EA ++ KC).length), vR y31] [(.ref y31)])
            refine GoH.st (fun _ => XS.ifnullNo X31.here hx rfl (hb hby at_319) rfl) ?_
            show GoH _ _ _ _ _ _ _ _ _ _  T31 (mkF m 322 #[vI p1, vI p2, vI p3, vI p4, vI p5, vI (Int32.ofNat NA.length), vI (Int32.ofNat kk), vR na, vR b1, vI (Int32.ofNat kl), vR b4, vI pp, vR b6, vR b8, vI (Int32.ofNat (EA ++ KC).length), vR y31] [])
            refine GoH.st (fun _ => XS.aload X31.here hx rfl (hb hby at_322) rfl rfl) ?_
            show GoH _ _ _ _ _ _ _ _ _ _  T31 (mkF m 324 #[vI p1, vI p2, vI p3, vI p4, vI p5, vI (Int32.ofNat NA.length), vI (Int32.ofNat kk), vR na, vR b1, vI (Int32.ofNat kl), vR b4, vI pp, vR b6, vR b8, vI (Int32.ofNat (EA ++ KC).length), vR y31] [(.ref y31)])
            obtain ⟨T32, h32, X32, e32, E32, A32, D32, U32, st32⟩ := newO X31 hx hZ hown (hwi hw 5 rfl) (hwi hw 6 rfl) (hwi hw 7 rfl) rfl (g := (mkF m 324 #[vI p1, vI p2, vI p3, vI p4, vI p5, vI (Int32.ofNat NA.length), vI (Int32.ofNat kk), vR na, vR b1, vI (Int32.ofNat kl), vR b4, vI pp, vR b6, vR b8, vI (Int32.ofNat (EA ++ KC).length), vR y31] [(.ref y31)])) rfl (hb hby at_324) (by decide) (by decide)
            obtain ⟨b32, g32⟩ : ∃ z, z = T31.heap.size := ⟨_, rfl⟩
            rw [← g32] at A32 D32 U32 st32
            refine GoH.st st32 ?_
            have g_b32 : n0 ≤ b32 := by rw [g32]; exact own_le O
            have Sf_b32 : Safe Z EL T31.vm T31.heap b32 := Safe.new (Nat.le_of_eq g32.symm)
            have sz_b32 : h0.size ≤ b32 := by rw [g32]; exact KK.1
            have ne_b1_b32 : b1 ≠ b32 := Nat.ne_of_lt (by rw [g32]; exact E_b1.lt)
            have ne_t2_b32 : t2 ≠ b32 := Nat.ne_of_lt (by rw [g32]; exact A_t2.lt)
            have ne_b6_b32 : b6 ≠ b32 := Nat.ne_of_lt (by rw [g32]; exact E_b6.lt)
            have ne_t7_b32 : t7 ≠ b32 := Nat.ne_of_lt (by rw [g32]; exact A_t7.lt)
            have ne_b8_b32 : b8 ≠ b32 := Nat.ne_of_lt (by rw [g32]; exact V_ea.lt)
            have ne_y31_b32 : y31 ≠ b32 := Nat.ne_of_lt (by rw [g32]; exact E_y31.lt)
            have ne_t31_b32 : t31 ≠ b32 := Nat.ne_of_lt (by rw [g32]; exact A_t31.lt)
            have E_b1 := E_b1.ext E32
            have A_t2 := A_t2.ext E32
            have C_b1 := C_b1.ext E32
            have V_b1 := V_b1.ext E32
            have E_b6 := E_b6.ext E32
            have A_t7 := A_t7.ext E32
            have C_b6 := C_b6.ext E32
            have V_b6 := V_b6.ext E32
            have V_ea := V_ea.ext E32
            have E_y31 := E_y31.ext E32
            have A_t31 := A_t31.ext E32
            have C_y31 := C_y31.ext E32
            have V_y31 := V_y31.ext E32
            have Sf_b8 := Safe.ext E32 HH Sf_b8
            have Sf_b32 := Safe.ext E32 HH Sf_b32
            have RR := RR.trans (CHr.ext E32 HH)
            have HH := HH.ext E32
            have hk := Nat.le_trans hk E32.1
            have O := O.ext E32
            have KK := KK.ext E32
            have E_b32 := A32
            have F_coder_b32 : Fld Z h32 b32 "java/lang/String" "coder" "B" (.int (0 : Int32)) := D32 (Or.inr (hwi hw 31 rfl)) (ty := .byte) (by decide)
            have F_value_b32 : Fld Z h32 b32 "java/lang/String" "value" "[B" .null := D32 (Or.inr (hwi hw 33 rfl)) (ty := (.array .byte)) (by decide)
            show GoH _ _ _ _ _ _ _ _ _ _  T32 (mkF m 327 #[vI p1, vI p2, vI p3, vI p4, vI p5, vI (Int32.ofNat NA.length), vI (Int32.ofNat kk), vR na, vR b1, vI (Int32.ofNat kl), vR b4, vI pp, vR b6, vR b8, vI (Int32.ofNat (EA ++ KC).length), vR y31] [(.ref b32), (.ref y31)])
            refine GoH.st (fun _ => XS.dup X32.here hx rfl (hb hby at_327) rfl rfl) ?_
            refine GoH.st (fun _ => XS.aload X32.here hx rfl (hb hby at_328) rfl rfl) ?_
            show GoH _ _ _ _ _ _ _ _ _ _  T32 (mkF m 330 #[vI p1, vI p2, vI p3, vI p4, vI p5, vI (Int32.ofNat NA.length), vI (Int32.ofNat kk), vR na, vR b1, vI (Int32.ofNat kl), vR b4, vI pp, vR b6, vR b8, vI (Int32.ofNat (EA ++ KC).length), vR y31] [(.ref b8), (.ref b32), (.ref b32), (.ref y31)])
            obtain ⟨_, _, ⟨T33, L33, k33, n33⟩, -, X33, ⟨Lc33, hQ33, l33, y33, z33⟩, st33⟩ := X32.specialBack hx (y := mY36) rfl hown (mvT hZ (hwi hw 8 rfl)) (mvT hZ (hwi hw 9 rfl)) (mvT hZ (hwi hw 10 rfl)) (by decide) (backOf (W := 2) (rmI5 l Z a0 hw [] b32 b8 .null (.int (0 : Int32)) zc k8 M h32 n0 O S_COMPACT hcs S_ad S_hi S_lo E_b32 F_value_b32 F_coder_b32 g_b32 V_ea (by omega) (by omega) hrM) hZ (hwi hw 10 rfl) (hwi hw 7 rfl) (by decide) (by decide)) (g := (mkF m 330 #[vI p1, vI p2, vI p3, vI p4, vI p5, vI (Int32.ofNat NA.length), vI (Int32.ofNat kk), vR na, vR b1, vI (Int32.ofNat kl), vR b4, vI pp, vR b6, vR b8, vI (Int32.ofNat (EA ++ KC).length), vR y31] [(.ref b8), (.ref b32), (.ref b32), (.ref y31)])) rfl (by rw [hml]; rfl) (Steps.refl _) (a := b32) (argsL := [(.ref b8)]) (rest := [(.ref b32), (.ref y31)]) (lenOf pd___C_V rfl) rfl (by show 2 * 0 + _ ≤ _; exact Nat.le_of_eq rfl) (hb hby at_330) (fun _ _ => ⟨rfl, e32, (by decide : 26 + 2 ≤ _), (by decide : 941 + 102 ≤ _)⟩)
            dsimp only [Pt.U, Pt.locs, Pt.cells, Pt.slots] at X33 l33 y33 z33 st33 hQ33
            rw [l33, y33, z33] at X33
            have X33 : Stand p l e _ _ m _ below meth c T33 _ 28 1043 := X33
            obtain ⟨rfl, N33q, K33q, Eq33, Cq33, t33, kt33, lt33, Vq33, Aq33⟩ := hQ33
            have N33 := Fr.app N31 N33q
            refine GoH.tr st33 ?_
            have g_t33 : n0 ≤ t33 := Nat.le_trans (own_le O) lt33
            have Sf_t33 : Safe Z EL T31.vm h32 t33 := Safe.new lt33
            have sz_t33 : h0.size ≤ t33 := Nat.le_trans KK.1 lt33
            have ne_b1_t33 : b1 ≠ t33 := Nat.ne_of_lt (Nat.lt_of_lt_of_le E_b1.lt lt33)
            have ne_t2_t33 : t2 ≠ t33 := Nat.ne_of_lt (Nat.lt_of_lt_of_le A_t2.lt lt33)
            have ne_b6_t33 : b6 ≠ t33 := Nat.ne_of_lt (Nat.lt_of_lt_of_le E_b6.lt lt33)
            have ne_t7_t33 : t7 ≠ t33 := Nat.ne_of_lt (Nat.lt_of_lt_of_le A_t7.lt lt33)
            have ne_b8_t33 : b8 ≠ t33 := Nat.ne_of_lt (Nat.lt_of_lt_of_le V_ea.lt lt33)
            have ne_y31_t33 : y31 ≠ t33 := Nat.ne_of_lt (Nat.lt_of_lt_of_le E_y31.lt lt33)
            have ne_t31_t33 : t31 ≠ t33 := Nat.ne_of_lt (Nat.lt_of_lt_of_le A_t31.lt lt33)
            have ne_b32_t33 : b32 ≠ t33 := Nat.ne_of_lt (Nat.lt_of_lt_of_le E_b32.lt lt33)
            have E_b1 := E_b1.keep K33q
            have A_t2 := A_t2.keep K33q (ninS ne_t2_b32 nin0)
            have C_b1 := C_b1.keep K33q (ninS ne_b1_b32 nin0)
            have V_b1 := V_b1.keep K33q (ninS ne_b1_b32 nin0)
            have E_b6 := E_b6.keep K33q
            have A_t7 := A_t7.keep K33q (ninS ne_t7_b32 nin0)
            have C_b6 := C_b6.keep K33q (ninS ne_b6_b32 nin0)
            have V_b6 := V_b6.keep K33q (ninS ne_b6_b32 nin0)
            have V_ea := V_ea.keep K33q (ninS ne_b8_b32 nin0)
            have E_y31 := E_y31.keep K33q
            have A_t31 := A_t31.keep K33q (ninS ne_t31_b32 nin0)
            have C_y31 := C_y31.keep K33q (ninS ne_y31_b32 nin0)
            have V_y31 := V_y31.keep K33q (ninS ne_y31_b32 nin0)
            have E_b32 := E_b32.keep K33q
            have sfw33 := (sfS Sf_b32 sf0)
            have Sf_b8 := Safe.keep K33q sfw33 HH Sf_b8
            have Sf_b32 := Safe.keep K33q sfw33 HH Sf_b32
            have Sf_t33 := Safe.keep K33q sfw33 HH Sf_t33
            have RR := RR.trans (CHr.keep K33q sfw33 HH)
            have HH := HH.keep K33q sfw33
            have hk := Nat.le_trans hk K33q.1
            have O := O.keep K33q (allS g_b32 all0)
            have KK := KK.trans K33q (allS (Or.inr sz_b32) all0)
            have E_b32 := Eq33
            have C_b32 := Cq33
            have V_b32 := Vq33
            have A_t33 := Aq33
            show GoH _ _ _ _ _ _ _ _ _ _  T33 (mkF m 333 #[vI p1, vI p2, vI p3, vI p4, vI p5, vI (Int32.ofNat NA.length), vI (Int32.ofNat kk), vR na, vR b1, vI (Int32.ofNat kl), vR b4, vI pp, vR b6, vR b8, vI (Int32.ofNat (EA ++ KC).length), vR y31] [(.ref b32), (.ref y31)])
            obtain ⟨cq34, kq34, q34a, q34b, q34c⟩ := isOf hZ rfl E_y31
            refine GoH.pure (w := (some (.int (1 : Int32)))) (rest := []) (pc' := 336) (X33.virtualBack hx (y := mY41) (z := mY41) hown (mvT hZ (hwi hw 212 rfl)) (mvT hZ (hwi hw 213 rfl)) (notFace_of_selects (args := #[]) (mvT hZ (hwi hw 215 rfl))) (mvT hZ (hwi hw 215 rfl)) (mvT hZ (hwi hw 214 rfl)) (by decide) (backOf (W := 0) (rmEq l Z a0 hw [] y31 b32 zc t31 kt31 t33 kt33 (own_by M) (own_cd M) T33.heap n0 O S_COMPACT hcs E_y31 C_y31 V_y31 A_t31 E_b32 C_b32 V_b32 A_t33 (by rw [own_bycl]; have := own_clb M M.length; omega)) hZ (hwi hw 216 rfl) (hwi hw 7 rfl) (by decide) (by decide)) q34a q34c (g := (mkF m 333 #[vI p1, vI p2, vI p3, vI p4, vI p5, vI (Int32.ofNat NA.length), vI (Int32.ofNat kk), vR na, vR b1, vI (Int32.ofNat kl), vR b4, vI pp, vR b6, vR b8, vI (Int32.ofNat (EA ++ KC).length), vR y31] [(.ref b32), (.ref y31)])) rfl (by rw [hml]; rfl) (Steps.refl _) (argsL := [(.ref b32)]) (rest := []) (lenOf pd__Ljava_lang_Object__Z rfl) rfl (by show 2 * 0 + _ ≤ _; exact Nat.le_of_eq rfl) (hb hby at_333) (fun _ _ => ⟨rfl, rfl, (by decide : 28 + 0 ≤ _), (by decide : 1043 + 0 ≤ _)⟩)) (fun _ _ _ q => q) N33 (fun T34 L34 X34 e34q N34 => ?_)
            show GoH _ _ _ _ _ _ _ _ _ _  T34 (mkF m 336 #[vI p1, vI p2, vI p3, vI p4, vI p5, vI (Int32.ofNat NA.length), vI (Int32.ofNat kk), vR na, vR b1, vI (Int32.ofNat kl), vR b4, vI pp, vR b6, vR b8, vI (Int32.ofNat (EA ++ KC).length), vR y31] [(.int (1 : Int32))])
            refine GoH.st (fun _ => XS.ifNo X34.here hx rfl (hb hby at_336) rfl ((if0 _ _).trans (feq (by decide : ¬ ((1 : Int32) = (0 : Int32)))).1)) ?_
            show GoH _ _ _ _ _ _ _ _ _ _  T34 (mkF m 339 #[vI p1, vI p2, vI p3, vI p4, vI p5, vI (Int32.ofNat NA.length), vI (Int32.ofNat kk), vR na, vR b1, vI (Int32.ofNat kl), vR b4, vI pp, vR b6, vR b8, vI (Int32.ofNat (EA ++ KC).length), vR y31] [])
            refine GoH.st (fun _ => XS.iconst X34.here hx rfl (hb hby at_339)) ?_
            refine GoH.st (fun _ => XS.goto X34.here hx rfl (pc0 := 340) (pc' := 344) rfl (hb hby at_340) (by decide) (by decide)) ?_
            show GoH _ _ _ _ _ _ _ _ _ _  T34 (mkF m 344 #[vI p1, vI p2, vI p3, vI p4, vI p5, vI (Int32.ofNat NA.length), vI (Int32.ofNat kk), vR na, vR b1, vI (Int32.ofNat kl), vR b4, vI pp, vR b6, vR b8, vI (Int32.ofNat (EA ++ KC).length), vR y31] [(.int (1 : Int32))])
            refine GoH.retN X34 hS hk e34q hZ hEL HH RR hlk hx (t := .boolean) (z' := (1 : Int32)) Bd.returns (by simp) (hb hby at_344) (by decide) (by decide) rfl ?_
            show Q_rm0 Z _ _ _ _ _ _ _ h0 n0 _ T34.heap _
            rw [e34q]
            exact ⟨rfl, N34⟩
          refine GoH.st (fun _ => XS.iload X28.here hx rfl (hb hby at_268) rfl) ?_
          refine GoH.st (fun _ => XS.iconst X28.here hx rfl (hb hby at_270)) ?_
          show GoH _ _ _ _ _ _ _ _ _ _  T28 (mkF m 271 #[vI p1, vI p2, vI p3, vI p4, vI p5, vI (Int32.ofNat NA.length), vI (Int32.ofNat kk), vR na, vR b1, vI (Int32.ofNat kl), vR b4, vI pp, vR b6, vR b8, vI (Int32.ofNat (EA ++ own_uc p3).length), uS] [(.int (2 : Int32)), (.int (Int32.ofNat kk))])
          by_cases c271_35 : (Int32.ofNat kk) < (2 : Int32)
          · refine GoH.st (fun _ => XS.icmpYes X28.here hx rfl (pc0 := 271) (pc' := 284) rfl (hb hby at_271) rfl (tlt c271_35).1 (by decide) (by decide)) ?_
            have k2n : ¬ 2 ≤ kk := Nat.not_le_of_lt ((own_olt (b := 2) (by omega) (by omega)).mp c271_35)
            show GoH _ _ _ _ _ _ _ _ _ _  T28 (mkF m 284 #[vI p1, vI p2, vI p3, vI p4, vI p5, vI (Int32.ofNat NA.length), vI (Int32.ofNat kk), vR na, vR b1, vI (Int32.ofNat kl), vR b4, vI pp, vR b6, vR b8, vI (Int32.ofNat (EA ++ own_uc p3).length), uS] [])
            refine GoH.st (fun _ => XS.iload X28.here hx rfl (hb hby at_284) rfl) ?_
            refine GoH.st (fun _ => XS.iconst X28.here hx rfl (hb hby at_286)) ?_
            show GoH _ _ _ _ _ _ _ _ _ _  T28 (mkF m 287 #[vI p1, vI p2, vI p3, vI p4, vI p5, vI (Int32.ofNat NA.length), vI (Int32.ofNat kk), vR na, vR b1, vI (Int32.ofNat kl), vR b4, vI pp, vR b6, vR b8, vI (Int32.ofNat (EA ++ own_uc p3).length), uS] [(.int (3 : Int32)), (.int (Int32.ofNat kk))])
            refine GoH.st (fun _ => XS.icmpYes X28.here hx rfl (pc0 := 287) (pc' := 301) rfl (hb hby at_287) rfl (tlt ((own_olt (b := 3) (by omega) (by omega)).mpr (by omega) : (Int32.ofNat kk) < (3 : Int32))).1 (by decide) (by decide)) ?_
            show GoH _ _ _ _ _ _ _ _ _ _  T28 (mkF m 301 #[vI p1, vI p2, vI p3, vI p4, vI p5, vI (Int32.ofNat NA.length), vI (Int32.ofNat kk), vR na, vR b1, vI (Int32.ofNat kl), vR b4, vI pp, vR b6, vR b8, vI (Int32.ofNat (EA ++ own_uc p3).length), uS] [])
            have eL : (EA ++ own_uc p3) = EA ++ KC := by rw [eKC, own_key1 k2n]
            rw [eL] at Aq28 ⊢
            show GoH _ _ _ _ _ _ _ _ _ _  T28 (mkF m 301 #[vI p1, vI p2, vI p3, vI p4, vI p5, vI (Int32.ofNat NA.length), vI (Int32.ofNat kk), vR na, vR b1, vI (Int32.ofNat kl), vR b4, vI pp, vR b6, vR b8, vI (Int32.ofNat (EA ++ KC).length), uS] [])
            exact t301 T28 V9 _ T28.heap _  (X28.more (by decide) (by decide)) hS hk rfl hZ hown HH RR O N28 KK E_b1 C_b1 V_b1 A_t2 E_b6 C_b6 V_b6 A_t7 Aq28 Sf_b8
          · refine GoH.st (fun _ => XS.icmpNo X28.here hx rfl (hb hby at_271) rfl (flt c271_35).1) ?_
            have k2 : 2 ≤ kk := Nat.le_of_not_lt (fun q => c271_35 ((own_olt (b := 2) (by omega) (by omega)).mpr q))
            show GoH _ _ _ _ _ _ _ _ _ _  T28 (mkF m 274 #[vI p1, vI p2, vI p3, vI p4, vI p5, vI (Int32.ofNat NA.length), vI (Int32.ofNat kk), vR na, vR b1, vI (Int32.ofNat kl), vR b4, vI pp, vR b6, vR b8, vI (Int32.ofNat (EA ++ own_uc p3).length), uS] [])
            refine GoH.st (fun _ => XS.aload X28.here hx rfl (hb hby at_274) rfl rfl) ?_
            refine GoH.st (fun _ => XS.iload X28.here hx rfl (hb hby at_276) rfl) ?_
            refine GoH.st (fun _ => XS.iloadN X28.here hx rfl (hb hby at_278) rfl) ?_
            show GoH _ _ _ _ _ _ _ _ _ _  T28 (mkF m 279 #[vI p1, vI p2, vI p3, vI p4, vI p5, vI (Int32.ofNat NA.length), vI (Int32.ofNat kk), vR na, vR b1, vI (Int32.ofNat kl), vR b4, vI pp, vR b6, vR b8, vI (Int32.ofNat (EA ++ own_uc p3).length), uS] [(.int p4), (.int (Int32.ofNat (EA ++ own_uc p3).length)), (.ref b8)])
            obtain ⟨_, _, ⟨T36, L36, k36, n36⟩, -, X36, ⟨Lc36, hQ36, l36, y36, z36⟩, st36⟩ := Jvm.LawKit.callS X28 hx (y := mY53) hown (mvT hZ (hwi hw 40 rfl)) (mvT hZ (hwi hw 41 rfl)) (mvT hZ (hwi hw 3 rfl)) (mvT hZ (hwi hw 42 rfl)) (by decide) (backOf (W := 0) (rmPt l Z a0 hw [] b8 p4 k8 (7 + NA.length + 1 + kl + 1) (EA ++ own_uc p3) T28.heap n0 O Aq28 (by have q := own_kl2 (u := p3) (v := p4) (w := p5) k2; rw [← hkl] at q; (try simp only [List.length_append, List.length_nil] at q ⊢); omega) (by omega) g_b8) hZ (hwi hw 42 rfl) (hwi hw 3 rfl) (by decide) (by decide)) (g := (mkF m 279 #[vI p1, vI p2, vI p3, vI p4, vI p5, vI (Int32.ofNat NA.length), vI (Int32.ofNat kk), vR na, vR b1, vI (Int32.ofNat kl), vR b4, vI pp, vR b6, vR b8, vI (Int32.ofNat (EA ++ own_uc p3).length), uS] [(.int p4), (.int (Int32.ofNat (EA ++ own_uc p3).length)), (.ref b8)])) rfl (by rw [hml]; rfl) (argsL := [(.ref b8), (.int (Int32.ofNat (EA ++ own_uc p3).length)), (.int p4)]) (rest := []) (lenOf pd___CII_I rfl) rfl (by show 2 * 0 + _ ≤ _; exact Nat.le_of_eq rfl) (hb hby at_279) (fun _ _ => ⟨rfl, rfl, (by decide : 9 + 0 ≤ _), (by decide : 237 + 0 ≤ _)⟩)
            dsimp only [Pt.U, Pt.locs, Pt.cells, Pt.slots] at X36 l36 y36 z36 st36 hQ36
            rw [l36, y36, z36] at X36
            have X36 : Stand p l e _ _ m _ below meth c T36 _ 9 237 := X36
            obtain ⟨rfl, N36q, K36q, Aq36⟩ := hQ36
            have N36 := Fr.app N28 N36q
            refine GoH.st st36 ?_
            have E_b1 := E_b1.keep K36q
            have A_t2 := A_t2.keep K36q (ninS ne_t2_b8 nin0)
            have C_b1 := C_b1.keep K36q (ninS ne_b1_b8 nin0)
            have V_b1 := V_b1.keep K36q (ninS ne_b1_b8 nin0)
            have E_b6 := E_b6.keep K36q
            have A_t7 := A_t7.keep K36q (ninS ne_t7_b8 nin0)
            have C_b6 := C_b6.keep K36q (ninS ne_b6_b8 nin0)
            have V_b6 := V_b6.keep K36q (ninS ne_b6_b8 nin0)
            have sfw36 := (sfS Sf_b8 sf0)
            have Sf_b8 := Safe.keep K36q sfw36 HH Sf_b8
            have RR := RR.trans (CHr.keep K36q sfw36 HH)
            have HH := HH.keep K36q sfw36
            have hk := Nat.le_trans hk K36q.1
            have O := O.keep K36q (allS g_b8 all0)
            have KK := KK.trans K36q (allS (Or.inr sz_b8) all0)
            show GoH _ _ _ _ _ _ _ _ _ _  T36 (mkF m 282 #[vI p1, vI p2, vI p3, vI p4, vI p5, vI (Int32.ofNat NA.length), vI (Int32.ofNat kk), vR na, vR b1, vI (Int32.ofNat kl), vR b4, vI pp, vR b6, vR b8, vI (Int32.ofNat (EA ++ own_uc p3).length), uS] [(.int (Int32.ofNat ((EA ++ own_uc p3).length + (own_uc p4).length)))])
            rw [← List.length_append]
            show GoH _ _ _ _ _ _ _ _ _ _  T36 (mkF m 282 #[vI p1, vI p2, vI p3, vI p4, vI p5, vI (Int32.ofNat NA.length), vI (Int32.ofNat kk), vR na, vR b1, vI (Int32.ofNat kl), vR b4, vI pp, vR b6, vR b8, vI (Int32.ofNat (EA ++ own_uc p3).length), uS] [(.int (Int32.ofNat ((EA ++ own_uc p3) ++ own_uc p4).length))])
            refine GoH.st (fun _ => XS.istore X36.here hx rfl (hb hby at_282) rfl (l' := #[vI p1, vI p2, vI p3, vI p4, vI p5, vI (Int32.ofNat NA.length), vI (Int32.ofNat kk), vR na, vR b1, vI (Int32.ofNat kl), vR b4, vI pp, vR b6, vR b8, vI (Int32.ofNat ((EA ++ own_uc p3) ++ own_uc p4).length), uS]) rfl) ?_
            refine GoH.st (fun _ => XS.iload X36.here hx rfl (hb hby at_284) rfl) ?_
            refine GoH.st (fun _ => XS.iconst X36.here hx rfl (hb hby at_286)) ?_
            show GoH _ _ _ _ _ _ _ _ _ _  T36 (mkF m 287 #[vI p1, vI p2, vI p3, vI p4, vI p5, vI (Int32.ofNat NA.length), vI (Int32.ofNat kk), vR na, vR b1, vI (Int32.ofNat kl), vR b4, vI pp, vR b6, vR b8, vI (Int32.ofNat ((EA ++ own_uc p3) ++ own_uc p4).length), uS] [(.int (3 : Int32)), (.int (Int32.ofNat kk))])
            by_cases c287_37 : (Int32.ofNat kk) < (3 : Int32)
            · refine GoH.st (fun _ => XS.icmpYes X36.here hx rfl (pc0 := 287) (pc' := 301) rfl (hb hby at_287) rfl (tlt c287_37).1 (by decide) (by decide)) ?_
              have k3n : ¬ 3 ≤ kk := Nat.not_le_of_lt ((own_olt (b := 3) (by omega) (by omega)).mp c287_37)
              show GoH _ _ _ _ _ _ _ _ _ _  T36 (mkF m 301 #[vI p1, vI p2, vI p3, vI p4, vI p5, vI (Int32.ofNat NA.length), vI (Int32.ofNat kk), vR na, vR b1, vI (Int32.ofNat kl), vR b4, vI pp, vR b6, vR b8, vI (Int32.ofNat ((EA ++ own_uc p3) ++ own_uc p4).length), uS] [])
              have eL : ((EA ++ own_uc p3) ++ own_uc p4) = EA ++ KC := by rw [eKC, own_key2 k2 k3n]; simp only [List.append_assoc]
              rw [eL] at Aq36 ⊢
              show GoH _ _ _ _ _ _ _ _ _ _  T36 (mkF m 301 #[vI p1, vI p2, vI p3, vI p4, vI p5, vI (Int32.ofNat NA.length), vI (Int32.ofNat kk), vR na, vR b1, vI (Int32.ofNat kl), vR b4, vI pp, vR b6, vR b8, vI (Int32.ofNat (EA ++ KC).length), uS] [])
              exact t301 T36 V9 _ T36.heap _  (X36.more (by decide) (by decide)) hS hk rfl hZ hown HH RR O N36 KK E_b1 C_b1 V_b1 A_t2 E_b6 C_b6 V_b6 A_t7 Aq36 Sf_b8
            · refine GoH.st (fun _ => XS.icmpNo X36.here hx rfl (hb hby at_287) rfl (flt c287_37).1) ?_
              have k3 : 3 ≤ kk := Nat.le_of_not_lt (fun q => c287_37 ((own_olt (b := 3) (by omega) (by omega)).mpr q))
              show GoH _ _ _ _ _ _ _ _ _ _  T36 (mkF m 290 #[vI p1, vI p2, vI p3, vI p4, vI p5, vI (Int32.ofNat NA.length), vI (Int32.ofNat kk), vR na, vR b1, vI (Int32.ofNat kl), vR b4, vI pp, vR b6, vR b8, vI (Int32.ofNat ((EA ++ own_uc p3) ++ own_uc p4).length), uS] [])
              refine GoH.st (fun _ => XS.aload X36.here hx rfl (hb hby at_290) rfl rfl) ?_
              refine GoH.st (fun _ => XS.iload X36.here hx rfl (hb hby at_292) rfl) ?_
              refine GoH.st (fun _ => XS.iload X36.here hx rfl (hb hby at_294) rfl) ?_
              show GoH _ _ _ _ _ _ _ _ _ _  T36 (mkF m 296 #[vI p1, vI p2, vI p3, vI p4, vI p5, vI (Int32.ofNat NA.length), vI (Int32.ofNat kk), vR na, vR b1, vI (Int32.ofNat kl), vR b4, vI pp, vR b6, vR b8, vI (Int32.ofNat ((EA ++ own_uc p3) ++ own_uc p4).length), uS] [(.int p5), (.int (Int32.ofNat ((EA ++ own_uc p3) ++ own_uc p4).length)), (.ref b8)])
              obtain ⟨_, _, ⟨T38, L38, k38, n38⟩, -, X38, ⟨Lc38, hQ38, l38, y38, z38⟩, st38⟩ := Jvm.LawKit.callS X36 hx (y := mY53) hown (mvT hZ (hwi hw 40 rfl)) (mvT hZ (hwi hw 41 rfl)) (mvT hZ (hwi hw 3 rfl)) (mvT hZ (hwi hw 42 rfl)) (by decide) (backOf (W := 0) (rmPt l Z a0 hw [] b8 p5 k8 (7 + NA.length + 1 + kl + 1) ((EA ++ own_uc p3) ++ own_uc p4) T36.heap n0 O Aq36 (by have q := own_kl3 (u := p3) (v := p4) (w := p5) k3; rw [← hkl] at q; (try simp only [List.length_append, List.length_nil] at q ⊢); omega) (by omega) g_b8) hZ (hwi hw 42 rfl) (hwi hw 3 rfl) (by decide) (by decide)) (g := (mkF m 296 #[vI p1, vI p2, vI p3, vI p4, vI p5, vI (Int32.ofNat NA.length), vI (Int32.ofNat kk), vR na, vR b1, vI (Int32.ofNat kl), vR b4, vI pp, vR b6, vR b8, vI (Int32.ofNat ((EA ++ own_uc p3) ++ own_uc p4).length), uS] [(.int p5), (.int (Int32.ofNat ((EA ++ own_uc p3) ++ own_uc p4).length)), (.ref b8)])) rfl (by rw [hml]; rfl) (argsL := [(.ref b8), (.int (Int32.ofNat ((EA ++ own_uc p3) ++ own_uc p4).length)), (.int p5)]) (rest := []) (lenOf pd___CII_I rfl) rfl (by show 2 * 0 + _ ≤ _; exact Nat.le_of_eq rfl) (hb hby at_296) (fun _ _ => ⟨rfl, rfl, (by decide : 9 + 0 ≤ _), (by decide : 237 + 0 ≤ _)⟩)
              dsimp only [Pt.U, Pt.locs, Pt.cells, Pt.slots] at X38 l38 y38 z38 st38 hQ38
              rw [l38, y38, z38] at X38
              have X38 : Stand p l e _ _ m _ below meth c T38 _ 9 237 := X38
              obtain ⟨rfl, N38q, K38q, Aq38⟩ := hQ38
              have N38 := Fr.app N36 N38q
              refine GoH.st st38 ?_
              have E_b1 := E_b1.keep K38q
              have A_t2 := A_t2.keep K38q (ninS ne_t2_b8 nin0)
              have C_b1 := C_b1.keep K38q (ninS ne_b1_b8 nin0)
              have V_b1 := V_b1.keep K38q (ninS ne_b1_b8 nin0)
              have E_b6 := E_b6.keep K38q
              have A_t7 := A_t7.keep K38q (ninS ne_t7_b8 nin0)
              have C_b6 := C_b6.keep K38q (ninS ne_b6_b8 nin0)
              have V_b6 := V_b6.keep K38q (ninS ne_b6_b8 nin0)
              have sfw38 := (sfS Sf_b8 sf0)
              have Sf_b8 := Safe.keep K38q sfw38 HH Sf_b8
              have RR := RR.trans (CHr.keep K38q sfw38 HH)
              have HH := HH.keep K38q sfw38
              have hk := Nat.le_trans hk K38q.1
              have O := O.keep K38q (allS g_b8 all0)
              have KK := KK.trans K38q (allS (Or.inr sz_b8) all0)
              show GoH _ _ _ _ _ _ _ _ _ _  T38 (mkF m 299 #[vI p1, vI p2, vI p3, vI p4, vI p5, vI (Int32.ofNat NA.length), vI (Int32.ofNat kk), vR na, vR b1, vI (Int32.ofNat kl), vR b4, vI pp, vR b6, vR b8, vI (Int32.ofNat ((EA ++ own_uc p3) ++ own_uc p4).length), uS] [(.int (Int32.ofNat (((EA ++ own_uc p3) ++ own_uc p4).length + (own_uc p5).length)))])
              rw [← List.length_append]
              show GoH _ _ _ _ _ _ _ _ _ _  T38 (mkF m 299 #[vI p1, vI p2, vI p3, vI p4, vI p5, vI (Int32.ofNat NA.length), vI (Int32.ofNat kk), vR na, vR b1, vI (Int32.ofNat kl), vR b4, vI pp, vR b6, vR b8, vI (Int32.ofNat ((EA ++ own_uc p3) ++ own_uc p4).length), uS] [(.int (Int32.ofNat (((EA ++ own_uc p3) ++ own_uc p4) ++ own_uc p5).length))])
              refine GoH.st (fun _ => XS.istore X38.here hx rfl (hb hby at_299) rfl (l' := #[vI p1, vI p2, vI p3, vI p4, vI p5, vI (Int32.ofNat NA.length), vI (Int32.ofNat kk), vR na, vR b1, vI (Int32.ofNat kl), vR b4, vI pp, vR b6, vR b8, vI (Int32.ofNat (((EA ++ own_uc p3) ++ own_uc p4) ++ own_uc p5).length), uS]) rfl) ?_
              show GoH _ _ _ _ _ _ _ _ _ _  T38 (mkF m 301 #[vI p1, vI p2, vI p3, vI p4, vI p5, vI (Int32.ofNat NA.length), vI (Int32.ofNat kk), vR na, vR b1, vI (Int32.ofNat kl), vR b4, vI pp, vR b6, vR b8, vI (Int32.ofNat (((EA ++ own_uc p3) ++ own_uc p4) ++ own_uc p5).length), uS] [])
              have eL : (((EA ++ own_uc p3) ++ own_uc p4) ++ own_uc p5) = EA ++ KC := by rw [eKC, own_key3 k3]; simp only [List.append_assoc]
              rw [eL] at Aq38 ⊢
              show GoH _ _ _ _ _ _ _ _ _ _  T38 (mkF m 301 #[vI p1, vI p2, vI p3, vI p4, vI p5, vI (Int32.ofNat NA.length), vI (Int32.ofNat kk), vR na, vR b1, vI (Int32.ofNat kl), vR b4, vI pp, vR b6, vR b8, vI (Int32.ofNat (EA ++ KC).length), uS] [])
              exact t301 T38 V9 _ T38.heap _  (X38.more (by decide) (by decide)) hS hk rfl hZ hown HH RR O N38 KK E_b1 C_b1 V_b1 A_t2 E_b6 C_b6 V_b6 A_t7 Aq38 Sf_b8
        refine GoH.st (fun _ => XS.iload X25.here hx rfl (hb hby at_226) rfl) ?_
        refine GoH.st (fun _ => XS.iconst X25.here hx rfl (hb hby at_228)) ?_
        show GoH _ _ _ _ _ _ _ _ _ _  T25 (mkF m 229 #[vI p1, vI p2, vI p3, vI p4, vI p5, vI (Int32.ofNat NA.length), vI (Int32.ofNat kk), vR na, vR b1, vI (Int32.ofNat kl), vR b4, vI pp, vR b6, vR b8, vI (8 : Int32), uS] [(.int (2 : Int32)), (.int (Int32.ofNat NA.length))])
        by_cases c229_39 : (Int32.ofNat NA.length) = (2 : Int32)
        · refine GoH.st (fun _ => XS.icmpNo X25.here hx rfl (hb hby at_229) rfl (teq c229_39).2) ?_
          have eN2 : NA.length = 2 := (own_oeq (b := 2) (by omega) (by omega)).mp c229_39
          show GoH _ _ _ _ _ _ _ _ _ _  T25 (mkF m 232 #[vI p1, vI p2, vI p3, vI p4, vI p5, vI (Int32.ofNat NA.length), vI (Int32.ofNat kk), vR na, vR b1, vI (Int32.ofNat kl), vR b4, vI pp, vR b6, vR b8, vI (8 : Int32), uS] [])
          refine GoH.st (fun _ => XS.aload X25.here hx rfl (hb hby at_232) rfl rfl) ?_
          refine GoH.st (fun _ => XS.bipush X25.here hx rfl (hb hby at_234)) ?_
          refine GoH.st (fun _ => XS.aload X25.here hx rfl (hb hby at_236) rfl rfl) ?_
          refine GoH.st (fun _ => XS.iconst X25.here hx rfl (hb hby at_238)) ?_
          show GoH _ _ _ _ _ _ _ _ _ _  T25 (mkF m 239 #[vI p1, vI p2, vI p3, vI p4, vI p5, vI (Int32.ofNat NA.length), vI (Int32.ofNat kk), vR na, vR b1, vI (Int32.ofNat kl), vR b4, vI pp, vR b6, vR b8, vI (8 : Int32), uS] [(.int (1 : Int32)), (.ref na), (.int (8 : Int32)), (.ref b8)])
          obtain ⟨cl40, Ar40, q40, S40, M40, Hh40, G40⟩ := id V_na
          refine GoH.st (X25.caload hx (j := (1 : Int32)) (v := (.int (NA.getD 1 0))) (by rw [e25]; exact Ar40.1) (State.isArrayOf_alike hZ.alike Ar40.2.1) Ar40.2.2 (inb_of S40 ⟨by decide, (own_olt (a := 1) (by omega) (by omega)).mpr (by omega)⟩) (Hh40.at (inb_of S40 ⟨by decide, (own_olt (a := 1) (by omega) (by omega)).mpr (by omega)⟩) (own_gm NA 1)) (g := (mkF m 239 #[vI p1, vI p2, vI p3, vI p4, vI p5, vI (Int32.ofNat NA.length), vI (Int32.ofNat kk), vR na, vR b1, vI (Int32.ofNat kl), vR b4, vI pp, vR b6, vR b8, vI (8 : Int32), uS] [(.int (1 : Int32)), (.ref na), (.int (8 : Int32)), (.ref b8)])) rfl rfl (hb hby at_239)) ?_
          show GoH _ _ _ _ _ _ _ _ _ _  T25 (mkF m 240 #[vI p1, vI p2, vI p3, vI p4, vI p5, vI (Int32.ofNat NA.length), vI (Int32.ofNat kk), vR na, vR b1, vI (Int32.ofNat kl), vR b4, vI pp, vR b6, vR b8, vI (8 : Int32), uS] [(.int (NA.getD 1 0)), (.int (8 : Int32)), (.ref b8)])
          obtain ⟨cl41, Ar41, q41, S41, M41, Hh41, G41⟩ := V_b8
          obtain ⟨T42, h42, X42, e42, W42, st42⟩ := stC X25 hx hZ e25 Ar41 (j := (8 : Int32)) (inb_of S41 ⟨by decide, (own_olt (a := 8) (by omega) (by omega)).mpr (by omega)⟩) (g := (mkF m 240 #[vI p1, vI p2, vI p3, vI p4, vI p5, vI (Int32.ofNat NA.length), vI (Int32.ofNat kk), vR na, vR b1, vI (Int32.ofNat kl), vR b4, vI pp, vR b6, vR b8, vI (8 : Int32), uS] [(.int (NA.getD 1 0)), (.int (8 : Int32)), (.ref b8)])) rfl rfl (hb hby at_240)
          refine GoH.st st42 ?_
          have V_b8 : Arv Z h42 b8 k8 .char (Int32.ofNat (7 + NA.length + 1 + kl + 1)) (((own_L0 ++ [NA.getD 0 0]).map Value.int) ++ [Value.int (nar .char (NA.getD 1 0))]) (.int 0) := own_push Ar41 q41 S41 M41 Hh41 G41 (fits_nar_char _) W42 rfl
          rw [hrN 1 (by omega)] at V_b8
          have N42 := Fr.snoc X42 N25 g_b8
          have E_b1 := E_b1.wr W42
          have A_t2 := A_t2.other W42 ne_t2_b8
          have C_b1 := C_b1.other W42 (Or.inl ne_b1_b8)
          have V_b1 := V_b1.other W42 (Or.inl ne_b1_b8)
          have V_na := V_na.other W42 ne_na_b8
          have V_ka := V_ka.other W42 ne_b4_b8
          have E_b6 := E_b6.wr W42
          have A_t7 := A_t7.other W42 ne_t7_b8
          have C_b6 := C_b6.other W42 (Or.inl ne_b6_b8)
          have V_b6 := V_b6.other W42 (Or.inl ne_b6_b8)
          have Sf_b6 := Safe.wr W42 Sf_b8 HH Sf_b6
          have Sf_t7 := Safe.wr W42 Sf_b8 HH Sf_t7
          have Sf'_b8 := Safe.wr W42 Sf_b8 HH Sf_b8
          have RR := RR.trans (CHr.wr W42 Sf_b8 HH)
          have HH := HH.wr W42 Sf_b8
          have Sf_b8 := Sf'_b8
          have hk := Nat.le_trans hk (Nat.le_of_eq W42.size.symm)
          have O := O.wr W42 g_b8
          have KK := KK.wr W42 (Or.inr sz_b8)
          have V_b8 : Arv Z h42 b8 k8 .char (Int32.ofNat (7 + NA.length + 1 + kl + 1)) (((own_L0 ++ [NA.getD 0 0]) ++ [NA.getD 1 0]).map Value.int) (.int 0) := by rw [← own_mv]; exact V_b8
          show GoH _ _ _ _ _ _ _ _ _ _  T42 (mkF m 241 #[vI p1, vI p2, vI p3, vI p4, vI p5, vI (Int32.ofNat NA.length), vI (Int32.ofNat kk), vR na, vR b1, vI (Int32.ofNat kl), vR b4, vI pp, vR b6, vR b8, vI (8 : Int32), uS] [])
          refine GoH.st (fun _ => XS.bipush X42.here hx rfl (hb hby at_241)) ?_
          refine GoH.st (fun _ => XS.istore X42.here hx rfl (hb hby at_243) rfl (l' := #[vI p1, vI p2, vI p3, vI p4, vI p5, vI (Int32.ofNat NA.length), vI (Int32.ofNat kk), vR na, vR b1, vI (Int32.ofNat kl), vR b4, vI pp, vR b6, vR b8, vI (9 : Int32), uS]) rfl) ?_
          show GoH _ _ _ _ _ _ _ _ _ _  T42 (mkF m 245 #[vI p1, vI p2, vI p3, vI p4, vI p5, vI (Int32.ofNat NA.length), vI (Int32.ofNat kk), vR na, vR b1, vI (Int32.ofNat kl), vR b4, vI pp, vR b6, vR b8, vI (9 : Int32), uS] [])
          have eN2 : NA.length = 2 := (own_oeq (b := 2) (by omega) (by omega)).mp c229_39
          rw [own_two eN2] at V_b8
          rw [show (9 : Int32) = Int32.ofNat (7 + NA.length) from by rw [eN2]; rfl]
          show GoH _ _ _ _ _ _ _ _ _ _  T42 (mkF m 245 #[vI p1, vI p2, vI p3, vI p4, vI p5, vI (Int32.ofNat NA.length), vI (Int32.ofNat kk), vR na, vR b1, vI (Int32.ofNat kl), vR b4, vI pp, vR b6, vR b8, vI (Int32.ofNat (7 + NA.length)), uS] [])
          exact t245 T42 V9 _ h42 _  (X42.more (by decide) (by decide)) hS hk e42 hZ hown HH RR O N42 KK E_b1 C_b1 V_b1 A_t2 E_b6 C_b6 V_b6 A_t7 V_b8 Sf_b8
        · refine GoH.st (fun _ => XS.icmpYes X25.here hx rfl (pc0 := 229) (pc' := 245) rfl (hb hby at_229) rfl (feq c229_39).2 (by decide) (by decide)) ?_
          show GoH _ _ _ _ _ _ _ _ _ _  T25 (mkF m 245 #[vI p1, vI p2, vI p3, vI p4, vI p5, vI (Int32.ofNat NA.length), vI (Int32.ofNat kk), vR na, vR b1, vI (Int32.ofNat kl), vR b4, vI pp, vR b6, vR b8, vI (8 : Int32), uS] [])
          have eN1 : NA.length = 1 := by have q := mt (own_oeq (a := NA.length) (b := 2) (by omega) (by omega)).mpr c229_39; omega
          rw [own_one eN1] at V_b8
          rw [show (8 : Int32) = Int32.ofNat (7 + NA.length) from by rw [eN1]; rfl]
          show GoH _ _ _ _ _ _ _ _ _ _  T25 (mkF m 245 #[vI p1, vI p2, vI p3, vI p4, vI p5, vI (Int32.ofNat NA.length), vI (Int32.ofNat kk), vR na, vR b1, vI (Int32.ofNat kl), vR b4, vI pp, vR b6, vR b8, vI (Int32.ofNat (7 + NA.length)), uS] [])
          exact t245 T25 V9 _ h25 _  (X25.more (by decide) (by decide)) hS hk e25 hZ hown HH RR O N25 KK E_b1 C_b1 V_b1 A_t2 E_b6 C_b6 V_b6 A_t7 V_b8 Sf_b8
      refine GoH.st (fun _ => XS.iload X5.here hx rfl (hb hby at_110) rfl) ?_
      refine GoH.st (fun _ => XS.iconst X5.here hx rfl (hb hby at_112)) ?_
      show GoH _ _ _ _ _ _ _ _ _ _  T5 (mkF m 113 #[vI p1, vI p2, vI p3, vI p4, vI p5, vI (Int32.ofNat NA.length), vI (Int32.ofNat kk), vR na, vR b1, vI (Int32.ofNat kl), vR b4, vI (Int32.ofNat (own_uc p3).length), uS, uS, uS, uS] [(.int (2 : Int32)), (.int (Int32.ofNat kk))])
      by_cases c113_43 : (Int32.ofNat kk) < (2 : Int32)
      · refine GoH.st (fun _ => XS.icmpYes X5.here hx rfl (pc0 := 113) (pc' := 126) rfl (hb hby at_113) rfl (tlt c113_43).1 (by decide) (by decide)) ?_
        have k2n : ¬ 2 ≤ kk := Nat.not_le_of_lt ((own_olt (b := 2) (by omega) (by omega)).mp c113_43)
        show GoH _ _ _ _ _ _ _ _ _ _  T5 (mkF m 126 #[vI p1, vI p2, vI p3, vI p4, vI p5, vI (Int32.ofNat NA.length), vI (Int32.ofNat kk), vR na, vR b1, vI (Int32.ofNat kl), vR b4, vI (Int32.ofNat (own_uc p3).length), uS, uS, uS, uS] [])
        refine GoH.st (fun _ => XS.iload X5.here hx rfl (hb hby at_126) rfl) ?_
        refine GoH.st (fun _ => XS.iconst X5.here hx rfl (hb hby at_128)) ?_
        show GoH _ _ _ _ _ _ _ _ _ _  T5 (mkF m 129 #[vI p1, vI p2, vI p3, vI p4, vI p5, vI (Int32.ofNat NA.length), vI (Int32.ofNat kk), vR na, vR b1, vI (Int32.ofNat kl), vR b4, vI (Int32.ofNat (own_uc p3).length), uS, uS, uS, uS] [(.int (3 : Int32)), (.int (Int32.ofNat kk))])
        refine GoH.st (fun _ => XS.icmpYes X5.here hx rfl (pc0 := 129) (pc' := 143) rfl (hb hby at_129) rfl (tlt ((own_olt (b := 3) (by omega) (by omega)).mpr (by omega) : (Int32.ofNat kk) < (3 : Int32))).1 (by decide) (by decide)) ?_
        rw [← own_key1 k2n (u := p3) (v := p4) (w := p5)] at Aq5
        show GoH _ _ _ _ _ _ _ _ _ _  T5 (mkF m 143 #[vI p1, vI p2, vI p3, vI p4, vI p5, vI (Int32.ofNat NA.length), vI (Int32.ofNat kk), vR na, vR b1, vI (Int32.ofNat kl), vR b4, vI (Int32.ofNat (own_uc p3).length), uS, uS, uS, uS] [])
        exact t143 T5 V9 _ T5.heap _ (Int32.ofNat (own_uc p3).length) (X5.more (by decide) (by decide)) hS hk rfl hZ hown HH RR O N5 KK E_b1 C_b1 V_b1 A_t2 V_na Aq5
      · refine GoH.st (fun _ => XS.icmpNo X5.here hx rfl (hb hby at_113) rfl (flt c113_43).1) ?_
        have k2 : 2 ≤ kk := Nat.le_of_not_lt (fun q => c113_43 ((own_olt (b := 2) (by omega) (by omega)).mpr q))
        show GoH _ _ _ _ _ _ _ _ _ _  T5 (mkF m 116 #[vI p1, vI p2, vI p3, vI p4, vI p5, vI (Int32.ofNat NA.length), vI (Int32.ofNat kk), vR na, vR b1, vI (Int32.ofNat kl), vR b4, vI (Int32.ofNat (own_uc p3).length), uS, uS, uS, uS] [])
        refine GoH.st (fun _ => XS.aload X5.here hx rfl (hb hby at_116) rfl rfl) ?_
        refine GoH.st (fun _ => XS.iload X5.here hx rfl (hb hby at_118) rfl) ?_
        refine GoH.st (fun _ => XS.iloadN X5.here hx rfl (hb hby at_120) rfl) ?_
        show GoH _ _ _ _ _ _ _ _ _ _  T5 (mkF m 121 #[vI p1, vI p2, vI p3, vI p4, vI p5, vI (Int32.ofNat NA.length), vI (Int32.ofNat kk), vR na, vR b1, vI (Int32.ofNat kl), vR b4, vI (Int32.ofNat (own_uc p3).length), uS, uS, uS, uS] [(.int p4), (.int (Int32.ofNat (own_uc p3).length)), (.ref b4)])
        obtain ⟨_, _, ⟨T44, L44, k44, n44⟩, -, X44, ⟨Lc44, hQ44, l44, y44, z44⟩, st44⟩ := Jvm.LawKit.callS X5 hx (y := mY53) hown (mvT hZ (hwi hw 40 rfl)) (mvT hZ (hwi hw 41 rfl)) (mvT hZ (hwi hw 3 rfl)) (mvT hZ (hwi hw 42 rfl)) (by decide) (backOf (W := 0) (rmPt l Z a0 hw [] b4 p4 k4 kl (own_uc p3) T5.heap n0 O Aq5 (by have q := own_kl2 (u := p3) (v := p4) (w := p5) k2; rw [← hkl] at q; (try simp only [List.length_append, List.length_nil] at q ⊢); omega) (by omega) g_b4) hZ (hwi hw 42 rfl) (hwi hw 3 rfl) (by decide) (by decide)) (g := (mkF m 121 #[vI p1, vI p2, vI p3, vI p4, vI p5, vI (Int32.ofNat NA.length), vI (Int32.ofNat kk), vR na, vR b1, vI (Int32.ofNat kl), vR b4, vI (Int32.ofNat (own_uc p3).length), uS, uS, uS, uS] [(.int p4), (.int (Int32.ofNat (own_uc p3).length)), (.ref b4)])) rfl (by rw [hml]; rfl) (argsL := [(.ref b4), (.int (Int32.ofNat (own_uc p3).length)), (.int p4)]) (rest := []) (lenOf pd___CII_I rfl) rfl (by show 2 * 0 + _ ≤ _; exact Nat.le_of_eq rfl) (hb hby at_121) (fun _ _ => ⟨rfl, rfl, (by decide : 5 + 0 ≤ _), (by decide : 114 + 0 ≤ _)⟩)
        dsimp only [Pt.U, Pt.locs, Pt.cells, Pt.slots] at X44 l44 y44 z44 st44 hQ44
        rw [l44, y44, z44] at X44
        have X44 : Stand p l e _ _ m _ below meth c T44 _ 5 114 := X44
        obtain ⟨rfl, N44q, K44q, Aq44⟩ := hQ44
        have N44 := Fr.app N5 N44q
        refine GoH.st st44 ?_
        have E_b1 := E_b1.keep K44q
        have A_t2 := A_t2.keep K44q (ninS ne_t2_b4 nin0)
        have C_b1 := C_b1.keep K44q (ninS ne_b1_b4 nin0)
        have V_b1 := V_b1.keep K44q (ninS ne_b1_b4 nin0)
        have V_na := V_na.keep K44q (ninS ne_na_b4 nin0)
        have sfw44 := (sfS Sf_b4 sf0)
        have Sf_b4 := Safe.keep K44q sfw44 HH Sf_b4
        have RR := RR.trans (CHr.keep K44q sfw44 HH)
        have HH := HH.keep K44q sfw44
        have hk := Nat.le_trans hk K44q.1
        have O := O.keep K44q (allS g_b4 all0)
        have KK := KK.trans K44q (allS (Or.inr sz_b4) all0)
        show GoH _ _ _ _ _ _ _ _ _ _  T44 (mkF m 124 #[vI p1, vI p2, vI p3, vI p4, vI p5, vI (Int32.ofNat NA.length), vI (Int32.ofNat kk), vR na, vR b1, vI (Int32.ofNat kl), vR b4, vI (Int32.ofNat (own_uc p3).length), uS, uS, uS, uS] [(.int (Int32.ofNat ((own_uc p3).length + (own_uc p4).length)))])
        rw [← List.length_append]
        show GoH _ _ _ _ _ _ _ _ _ _  T44 (mkF m 124 #[vI p1, vI p2, vI p3, vI p4, vI p5, vI (Int32.ofNat NA.length), vI (Int32.ofNat kk), vR na, vR b1, vI (Int32.ofNat kl), vR b4, vI (Int32.ofNat (own_uc p3).length), uS, uS, uS, uS] [(.int (Int32.ofNat ((own_uc p3) ++ own_uc p4).length))])
        refine GoH.st (fun _ => XS.istore X44.here hx rfl (hb hby at_124) rfl (l' := #[vI p1, vI p2, vI p3, vI p4, vI p5, vI (Int32.ofNat NA.length), vI (Int32.ofNat kk), vR na, vR b1, vI (Int32.ofNat kl), vR b4, vI (Int32.ofNat ((own_uc p3) ++ own_uc p4).length), uS, uS, uS, uS]) rfl) ?_
        refine GoH.st (fun _ => XS.iload X44.here hx rfl (hb hby at_126) rfl) ?_
        refine GoH.st (fun _ => XS.iconst X44.here hx rfl (hb hby at_128)) ?_
        show GoH _ _ _ _ _ _ _ _ _ _  T44 (mkF m 129 #[vI p1, vI p2, vI p3, vI p4, vI p5, vI (Int32.ofNat NA.length), vI (Int32.ofNat kk), vR na, vR b1, vI (Int32.ofNat kl), vR b4, vI (Int32.ofNat ((own_uc p3) ++ own_uc p4).length), uS, uS, uS, uS] [(.int (3 : Int32)), (.int (Int32.ofNat kk))])
        by_cases c129_45 : (Int32.ofNat kk) < (3 : Int32)
        · refine GoH.st (fun _ => XS.icmpYes X44.here hx rfl (pc0 := 129) (pc' := 143) rfl (hb hby at_129) rfl (tlt c129_45).1 (by decide) (by decide)) ?_
          have k3n : ¬ 3 ≤ kk := Nat.not_le_of_lt ((own_olt (b := 3) (by omega) (by omega)).mp c129_45)
          rw [← own_key2 k2 k3n (u := p3) (v := p4) (w := p5)] at Aq44
          show GoH _ _ _ _ _ _ _ _ _ _  T44 (mkF m 143 #[vI p1, vI p2, vI p3, vI p4, vI p5, vI (Int32.ofNat NA.length), vI (Int32.ofNat kk), vR na, vR b1, vI (Int32.ofNat kl), vR b4, vI (Int32.ofNat ((own_uc p3) ++ own_uc p4).length), uS, uS, uS, uS] [])
          exact t143 T44 V9 _ T44.heap _ (Int32.ofNat ((own_uc p3) ++ own_uc p4).length) (X44.more (by decide) (by decide)) hS hk rfl hZ hown HH RR O N44 KK E_b1 C_b1 V_b1 A_t2 V_na Aq44
        · refine GoH.st (fun _ => XS.icmpNo X44.here hx rfl (hb hby at_129) rfl (flt c129_45).1) ?_
          have k3 : 3 ≤ kk := Nat.le_of_not_lt (fun q => c129_45 ((own_olt (b := 3) (by omega) (by omega)).mpr q))
          show GoH _ _ _ _ _ _ _ _ _ _  T44 (mkF m 132 #[vI p1, vI p2, vI p3, vI p4, vI p5, vI (Int32.ofNat NA.length), vI (Int32.ofNat kk), vR na, vR b1, vI (Int32.ofNat kl), vR b4, vI (Int32.ofNat ((own_uc p3) ++ own_uc p4).length), uS, uS, uS, uS] [])
          refine GoH.st (fun _ => XS.aload X44.here hx rfl (hb hby at_132) rfl rfl) ?_
          refine GoH.st (fun _ => XS.iload X44.here hx rfl (hb hby at_134) rfl) ?_
          refine GoH.st (fun _ => XS.iload X44.here hx rfl (hb hby at_136) rfl) ?_
          show GoH _ _ _ _ _ _ _ _ _ _  T44 (mkF m 138 #[vI p1, vI p2, vI p3, vI p4, vI p5, vI (Int32.ofNat NA.length), vI (Int32.ofNat kk), vR na, vR b1, vI (Int32.ofNat kl), vR b4, vI (Int32.ofNat ((own_uc p3) ++ own_uc p4).length), uS, uS, uS, uS] [(.int p5), (.int (Int32.ofNat ((own_uc p3) ++ own_uc p4).length)), (.ref b4)])
          obtain ⟨_, _, ⟨T46, L46, k46, n46⟩, -, X46, ⟨Lc46, hQ46, l46, y46, z46⟩, st46⟩ := Jvm.LawKit.callS X44 hx (y := mY53) hown (mvT hZ (hwi hw 40 rfl)) (mvT hZ (hwi hw 41 rfl)) (mvT hZ (hwi hw 3 rfl)) (mvT hZ (hwi hw 42 rfl)) (by decide) (backOf (W := 0) (rmPt l Z a0 hw [] b4 p5 k4 kl ((own_uc p3) ++ own_uc p4) T44.heap n0 O Aq44 (by have q := own_kl3 (u := p3) (v := p4) (w := p5) k3; rw [← hkl] at q; (try simp only [List.length_append, List.length_nil] at q ⊢); omega) (by omega) g_b4) hZ (hwi hw 42 rfl) (hwi hw 3 rfl) (by decide) (by decide)) (g := (mkF m 138 #[vI p1, vI p2, vI p3, vI p4, vI p5, vI (Int32.ofNat NA.length), vI (Int32.ofNat kk), vR na, vR b1, vI (Int32.ofNat kl), vR b4, vI (Int32.ofNat ((own_uc p3) ++ own_uc p4).length), uS, uS, uS, uS] [(.int p5), (.int (Int32.ofNat ((own_uc p3) ++ own_uc p4).length)), (.ref b4)])) rfl (by rw [hml]; rfl) (argsL := [(.ref b4), (.int (Int32.ofNat ((own_uc p3) ++ own_uc p4).length)), (.int p5)]) (rest := []) (lenOf pd___CII_I rfl) rfl (by show 2 * 0 + _ ≤ _; exact Nat.le_of_eq rfl) (hb hby at_138) (fun _ _ => ⟨rfl, rfl, (by decide : 5 + 0 ≤ _), (by decide : 114 + 0 ≤ _)⟩)
          dsimp only [Pt.U, Pt.locs, Pt.cells, Pt.slots] at X46 l46 y46 z46 st46 hQ46
          rw [l46, y46, z46] at X46
          have X46 : Stand p l e _ _ m _ below meth c T46 _ 5 114 := X46
          obtain ⟨rfl, N46q, K46q, Aq46⟩ := hQ46
          have N46 := Fr.app N44 N46q
          refine GoH.st st46 ?_
          have E_b1 := E_b1.keep K46q
          have A_t2 := A_t2.keep K46q (ninS ne_t2_b4 nin0)
          have C_b1 := C_b1.keep K46q (ninS ne_b1_b4 nin0)
          have V_b1 := V_b1.keep K46q (ninS ne_b1_b4 nin0)
          have V_na := V_na.keep K46q (ninS ne_na_b4 nin0)
          have sfw46 := (sfS Sf_b4 sf0)
          have Sf_b4 := Safe.keep K46q sfw46 HH Sf_b4
          have RR := RR.trans (CHr.keep K46q sfw46 HH)
          have HH := HH.keep K46q sfw46
          have hk := Nat.le_trans hk K46q.1
          have O := O.keep K46q (allS g_b4 all0)
          have KK := KK.trans K46q (allS (Or.inr sz_b4) all0)
          show GoH _ _ _ _ _ _ _ _ _ _  T46 (mkF m 141 #[vI p1, vI p2, vI p3, vI p4, vI p5, vI (Int32.ofNat NA.length), vI (Int32.ofNat kk), vR na, vR b1, vI (Int32.ofNat kl), vR b4, vI (Int32.ofNat ((own_uc p3) ++ own_uc p4).length), uS, uS, uS, uS] [(.int (Int32.ofNat (((own_uc p3) ++ own_uc p4).length + (own_uc p5).length)))])
          rw [← List.length_append]
          show GoH _ _ _ _ _ _ _ _ _ _  T46 (mkF m 141 #[vI p1, vI p2, vI p3, vI p4, vI p5, vI (Int32.ofNat NA.length), vI (Int32.ofNat kk), vR na, vR b1, vI (Int32.ofNat kl), vR b4, vI (Int32.ofNat ((own_uc p3) ++ own_uc p4).length), uS, uS, uS, uS] [(.int (Int32.ofNat (((own_uc p3) ++ own_uc p4) ++ own_uc p5).length))])
          refine GoH.st (fun _ => XS.istore X46.here hx rfl (hb hby at_141) rfl (l' := #[vI p1, vI p2, vI p3, vI p4, vI p5, vI (Int32.ofNat NA.length), vI (Int32.ofNat kk), vR na, vR b1, vI (Int32.ofNat kl), vR b4, vI (Int32.ofNat (((own_uc p3) ++ own_uc p4) ++ own_uc p5).length), uS, uS, uS, uS]) rfl) ?_
          rw [← own_key3 k3 (u := p3) (v := p4) (w := p5)] at Aq46
          show GoH _ _ _ _ _ _ _ _ _ _  T46 (mkF m 143 #[vI p1, vI p2, vI p3, vI p4, vI p5, vI (Int32.ofNat NA.length), vI (Int32.ofNat kk), vR na, vR b1, vI (Int32.ofNat kl), vR b4, vI (Int32.ofNat (((own_uc p3) ++ own_uc p4) ++ own_uc p5).length), uS, uS, uS, uS] [])
          exact t143 T46 V9 _ T46.heap _ (Int32.ofNat (((own_uc p3) ++ own_uc p4) ++ own_uc p5).length) (X46.more (by decide) (by decide)) hS hk rfl hZ hown HH RR O N46 KK E_b1 C_b1 V_b1 A_t2 V_na Aq46
    show GoH _ _ _ _ _ _ _ _ _ _  T3 (mkF m 62 #[vI p1, vI p2, vI p3, vI p4, vI p5, vI (Int32.ofNat NA.length), vI (Int32.ofNat kk), vR na, vR b1, uS, uS, uS, uS, uS, uS, uS] [(.int (Int32.ofNat (own_uc p3).length))])
    refine GoH.st (fun _ => XS.iload X3.here hx rfl (hb hby at_62) rfl) ?_
    refine GoH.st (fun _ => XS.iconst X3.here hx rfl (hb hby at_64)) ?_
    show GoH _ _ _ _ _ _ _ _ _ _  T3 (mkF m 65 #[vI p1, vI p2, vI p3, vI p4, vI p5, vI (Int32.ofNat NA.length), vI (Int32.ofNat kk), vR na, vR b1, uS, uS, uS, uS, uS, uS, uS] [(.int (2 : Int32)), (.int (Int32.ofNat kk)), (.int (Int32.ofNat (own_uc p3).length))])
    by_cases c65_47 : (Int32.ofNat kk) < (2 : Int32)
    · refine GoH.st (fun _ => XS.icmpYes X3.here hx rfl (pc0 := 65) (pc' := 75) rfl (hb hby at_65) rfl (tlt c65_47).1 (by decide) (by decide)) ?_
      have k2n : ¬ 2 ≤ kk := Nat.not_le_of_lt ((own_olt (b := 2) (by omega) (by omega)).mp c65_47)
      show GoH _ _ _ _ _ _ _ _ _ _  T3 (mkF m 75 #[vI p1, vI p2, vI p3, vI p4, vI p5, vI (Int32.ofNat NA.length), vI (Int32.ofNat kk), vR na, vR b1, uS, uS, uS, uS, uS, uS, uS] [(.int (Int32.ofNat (own_uc p3).length))])
      refine GoH.st (fun _ => XS.iconst X3.here hx rfl (hb hby at_75)) ?_
      refine GoH.st (fun _ => XS.iadd X3.here hx rfl (hb hby at_76) rfl) ?_
      show GoH _ _ _ _ _ _ _ _ _ _  T3 (mkF m 77 #[vI p1, vI p2, vI p3, vI p4, vI p5, vI (Int32.ofNat NA.length), vI (Int32.ofNat kk), vR na, vR b1, uS, uS, uS, uS, uS, uS, uS] [(.int ((Int32.ofNat (own_uc p3).length) + (0 : Int32)))])
      rw [Int32.add_zero]
      refine GoH.st (fun _ => XS.iload X3.here hx rfl (hb hby at_77) rfl) ?_
      refine GoH.st (fun _ => XS.iconst X3.here hx rfl (hb hby at_79)) ?_
      show GoH _ _ _ _ _ _ _ _ _ _  T3 (mkF m 80 #[vI p1, vI p2, vI p3, vI p4, vI p5, vI (Int32.ofNat NA.length), vI (Int32.ofNat kk), vR na, vR b1, uS, uS, uS, uS, uS, uS, uS] [(.int (3 : Int32)), (.int (Int32.ofNat kk)), (.int (Int32.ofNat (own_uc p3).length))])
      refine GoH.st (fun _ => XS.icmpYes X3.here hx rfl (pc0 := 80) (pc' := 91) rfl (hb hby at_80) rfl (tlt ((own_olt (b := 3) (by omega) (by omega)).mpr (by omega) : (Int32.ofNat kk) < (3 : Int32))).1 (by decide) (by decide)) ?_
      show GoH _ _ _ _ _ _ _ _ _ _  T3 (mkF m 91 #[vI p1, vI p2, vI p3, vI p4, vI p5, vI (Int32.ofNat NA.length), vI (Int32.ofNat kk), vR na, vR b1, uS, uS, uS, uS, uS, uS, uS] [(.int (Int32.ofNat (own_uc p3).length))])
      refine GoH.st (fun _ => XS.iconst X3.here hx rfl (hb hby at_91)) ?_
      refine GoH.st (fun _ => XS.iadd X3.here hx rfl (hb hby at_92) rfl) ?_
      show GoH _ _ _ _ _ _ _ _ _ _  T3 (mkF m 93 #[vI p1, vI p2, vI p3, vI p4, vI p5, vI (Int32.ofNat NA.length), vI (Int32.ofNat kk), vR na, vR b1, uS, uS, uS, uS, uS, uS, uS] [(.int ((Int32.ofNat (own_uc p3).length) + (0 : Int32)))])
      rw [Int32.add_zero]
      refine GoH.st (fun _ => XS.istore X3.here hx rfl (hb hby at_93) rfl (l' := #[vI p1, vI p2, vI p3, vI p4, vI p5, vI (Int32.ofNat NA.length), vI (Int32.ofNat kk), vR na, vR b1, vI (Int32.ofNat (own_uc p3).length), uS, uS, uS, uS, uS, uS]) rfl) ?_
      show GoH _ _ _ _ _ _ _ _ _ _  T3 (mkF m 95 #[vI p1, vI p2, vI p3, vI p4, vI p5, vI (Int32.ofNat NA.length), vI (Int32.ofNat kk), vR na, vR b1, vI (Int32.ofNat (own_uc p3).length), uS, uS, uS, uS, uS, uS] [])
      exact t95 T3 V9 _ T2.heap _ (own_uc p3).length (X3.more (by decide) (by decide)) hS hk e3q hZ hown HH RR O N3 KK E_b1 C_b1 V_b1 A_t2 V_na (by rw [own_key1 k2n])
    · refine GoH.st (fun _ => XS.icmpNo X3.here hx rfl (hb hby at_65) rfl (flt c65_47).1) ?_
      have k2 : 2 ≤ kk := Nat.le_of_not_lt (fun q => c65_47 ((own_olt (b := 2) (by omega) (by omega)).mpr q))
      show GoH _ _ _ _ _ _ _ _ _ _  T3 (mkF m 68 #[vI p1, vI p2, vI p3, vI p4, vI p5, vI (Int32.ofNat NA.length), vI (Int32.ofNat kk), vR na, vR b1, uS, uS, uS, uS, uS, uS, uS] [(.int (Int32.ofNat (own_uc p3).length))])
      refine GoH.st (fun _ => XS.iloadN X3.here hx rfl (hb hby at_68) rfl) ?_
      show GoH _ _ _ _ _ _ _ _ _ _  T3 (mkF m 69 #[vI p1, vI p2, vI p3, vI p4, vI p5, vI (Int32.ofNat NA.length), vI (Int32.ofNat kk), vR na, vR b1, uS, uS, uS, uS, uS, uS, uS] [(.int p4), (.int (Int32.ofNat (own_uc p3).length))])
      refine GoH.pureS (w := (some (.int (Int32.ofNat (own_uc p4).length)))) (rest := [(.int (Int32.ofNat (own_uc p3).length))]) (pc' := 72) (Jvm.LawKit.callS X3 hx (y := mY50) hown (mvT hZ (hwi hw 34 rfl)) (mvT hZ (hwi hw 35 rfl)) (mvT hZ (hwi hw 3 rfl)) (mvT hZ (hwi hw 36 rfl)) (by decide) (backOf (W := 1) (rmW l Z a0 hw [] p4 T2.heap n0 O) hZ (hwi hw 36 rfl) (hwi hw 3 rfl) (by decide) (by decide)) (g := (mkF m 69 #[vI p1, vI p2, vI p3, vI p4, vI p5, vI (Int32.ofNat NA.length), vI (Int32.ofNat kk), vR na, vR b1, uS, uS, uS, uS, uS, uS, uS] [(.int p4), (.int (Int32.ofNat (own_uc p3).length))])) rfl (by rw [hml]; rfl) (argsL := [(.int p4)]) (rest := [(.int (Int32.ofNat (own_uc p3).length))]) (lenOf pd__I_I rfl) rfl (by show 2 * 0 + _ ≤ _; exact Nat.le_of_eq rfl) (hb hby at_69) (fun _ _ => ⟨rfl, e3q, (by decide : 4 + 0 ≤ _), (by decide : 108 + 0 ≤ _)⟩)) (fun _ _ _ q => q) N3 (fun T48 L48 X48 e48q N48 => ?_)
      show GoH _ _ _ _ _ _ _ _ _ _  T48 (mkF m 72 #[vI p1, vI p2, vI p3, vI p4, vI p5, vI (Int32.ofNat NA.length), vI (Int32.ofNat kk), vR na, vR b1, uS, uS, uS, uS, uS, uS, uS] [(.int (Int32.ofNat (own_uc p4).length)), (.int (Int32.ofNat (own_uc p3).length))])
      refine GoH.st (fun _ => XS.goto X48.here hx rfl (pc0 := 72) (pc' := 76) rfl (hb hby at_72) (by decide) (by decide)) ?_
      refine GoH.st (fun _ => XS.iadd X48.here hx rfl (hb hby at_76) rfl) ?_
      show GoH _ _ _ _ _ _ _ _ _ _  T48 (mkF m 77 #[vI p1, vI p2, vI p3, vI p4, vI p5, vI (Int32.ofNat NA.length), vI (Int32.ofNat kk), vR na, vR b1, uS, uS, uS, uS, uS, uS, uS] [(.int ((Int32.ofNat (own_uc p3).length) + (Int32.ofNat (own_uc p4).length)))])
      rw [own_oadd]
      refine GoH.st (fun _ => XS.iload X48.here hx rfl (hb hby at_77) rfl) ?_
      refine GoH.st (fun _ => XS.iconst X48.here hx rfl (hb hby at_79)) ?_
      show GoH _ _ _ _ _ _ _ _ _ _  T48 (mkF m 80 #[vI p1, vI p2, vI p3, vI p4, vI p5, vI (Int32.ofNat NA.length), vI (Int32.ofNat kk), vR na, vR b1, uS, uS, uS, uS, uS, uS, uS] [(.int (3 : Int32)), (.int (Int32.ofNat kk)), (.int (Int32.ofNat ((own_uc p3).length + (own_uc p4).length)))])
      by_cases c80_49 : (Int32.ofNat kk) < (3 : Int32)
      · refine GoH.st (fun _ => XS.icmpYes X48.here hx rfl (pc0 := 80) (pc' := 91) rfl (hb hby at_80) rfl (tlt c80_49).1 (by decide) (by decide)) ?_
        have k3n : ¬ 3 ≤ kk := Nat.not_le_of_lt ((own_olt (b := 3) (by omega) (by omega)).mp c80_49)
        show GoH _ _ _ _ _ _ _ _ _ _  T48 (mkF m 91 #[vI p1, vI p2, vI p3, vI p4, vI p5, vI (Int32.ofNat NA.length), vI (Int32.ofNat kk), vR na, vR b1, uS, uS, uS, uS, uS, uS, uS] [(.int (Int32.ofNat ((own_uc p3).length + (own_uc p4).length)))])
        refine GoH.st (fun _ => XS.iconst X48.here hx rfl (hb hby at_91)) ?_
        refine GoH.st (fun _ => XS.iadd X48.here hx rfl (hb hby at_92) rfl) ?_
        show GoH _ _ _ _ _ _ _ _ _ _  T48 (mkF m 93 #[vI p1, vI p2, vI p3, vI p4, vI p5, vI (Int32.ofNat NA.length), vI (Int32.ofNat kk), vR na, vR b1, uS, uS, uS, uS, uS, uS, uS] [(.int ((Int32.ofNat ((own_uc p3).length + (own_uc p4).length)) + (0 : Int32)))])
        rw [Int32.add_zero]
        refine GoH.st (fun _ => XS.istore X48.here hx rfl (hb hby at_93) rfl (l' := #[vI p1, vI p2, vI p3, vI p4, vI p5, vI (Int32.ofNat NA.length), vI (Int32.ofNat kk), vR na, vR b1, vI (Int32.ofNat ((own_uc p3).length + (own_uc p4).length)), uS, uS, uS, uS, uS, uS]) rfl) ?_
        show GoH _ _ _ _ _ _ _ _ _ _  T48 (mkF m 95 #[vI p1, vI p2, vI p3, vI p4, vI p5, vI (Int32.ofNat NA.length), vI (Int32.ofNat kk), vR na, vR b1, vI (Int32.ofNat ((own_uc p3).length + (own_uc p4).length)), uS, uS, uS, uS, uS, uS] [])
        exact t95 T48 V9 _ T2.heap _ ((own_uc p3).length + (own_uc p4).length) (X48.more (by decide) (by decide)) hS hk e48q hZ hown HH RR O N48 KK E_b1 C_b1 V_b1 A_t2 V_na (by rw [own_key2 k2 k3n, List.length_append])
      · refine GoH.st (fun _ => XS.icmpNo X48.here hx rfl (hb hby at_80) rfl (flt c80_49).1) ?_
        have k3 : 3 ≤ kk := Nat.le_of_not_lt (fun q => c80_49 ((own_olt (b := 3) (by omega) (by omega)).mpr q))
        show GoH _ _ _ _ _ _ _ _ _ _  T48 (mkF m 83 #[vI p1, vI p2, vI p3, vI p4, vI p5, vI (Int32.ofNat NA.length), vI (Int32.ofNat kk), vR na, vR b1, uS, uS, uS, uS, uS, uS, uS] [(.int (Int32.ofNat ((own_uc p3).length + (own_uc p4).length)))])
        refine GoH.st (fun _ => XS.iload X48.here hx rfl (hb hby at_83) rfl) ?_
        show GoH _ _ _ _ _ _ _ _ _ _  T48 (mkF m 85 #[vI p1, vI p2, vI p3, vI p4, vI p5, vI (Int32.ofNat NA.length), vI (Int32.ofNat kk), vR na, vR b1, uS, uS, uS, uS, uS, uS, uS] [(.int p5), (.int (Int32.ofNat ((own_uc p3).length + (own_uc p4).length)))])
        refine GoH.pureS (w := (some (.int (Int32.ofNat (own_uc p5).length)))) (rest := [(.int (Int32.ofNat ((own_uc p3).length + (own_uc p4).length)))]) (pc' := 88) (Jvm.LawKit.callS X48 hx (y := mY50) hown (mvT hZ (hwi hw 34 rfl)) (mvT hZ (hwi hw 35 rfl)) (mvT hZ (hwi hw 3 rfl)) (mvT hZ (hwi hw 36 rfl)) (by decide) (backOf (W := 1) (rmW l Z a0 hw [] p5 T2.heap n0 O) hZ (hwi hw 36 rfl) (hwi hw 3 rfl) (by decide) (by decide)) (g := (mkF m 85 #[vI p1, vI p2, vI p3, vI p4, vI p5, vI (Int32.ofNat NA.length), vI (Int32.ofNat kk), vR na, vR b1, uS, uS, uS, uS, uS, uS, uS] [(.int p5), (.int (Int32.ofNat ((own_uc p3).length + (own_uc p4).length)))])) rfl (by rw [hml]; rfl) (argsL := [(.int p5)]) (rest := [(.int (Int32.ofNat ((own_uc p3).length + (own_uc p4).length)))]) (lenOf pd__I_I rfl) rfl (by show 2 * 0 + _ ≤ _; exact Nat.le_of_eq rfl) (hb hby at_85) (fun _ _ => ⟨rfl, e48q, (by decide : 4 + 0 ≤ _), (by decide : 108 + 0 ≤ _)⟩)) (fun _ _ _ q => q) N48 (fun T50 L50 X50 e50q N50 => ?_)
        show GoH _ _ _ _ _ _ _ _ _ _  T50 (mkF m 88 #[vI p1, vI p2, vI p3, vI p4, vI p5, vI (Int32.ofNat NA.length), vI (Int32.ofNat kk), vR na, vR b1, uS, uS, uS, uS, uS, uS, uS] [(.int (Int32.ofNat (own_uc p5).length)), (.int (Int32.ofNat ((own_uc p3).length + (own_uc p4).length)))])
        refine GoH.st (fun _ => XS.goto X50.here hx rfl (pc0 := 88) (pc' := 92) rfl (hb hby at_88) (by decide) (by decide)) ?_
        refine GoH.st (fun _ => XS.iadd X50.here hx rfl (hb hby at_92) rfl) ?_
        show GoH _ _ _ _ _ _ _ _ _ _  T50 (mkF m 93 #[vI p1, vI p2, vI p3, vI p4, vI p5, vI (Int32.ofNat NA.length), vI (Int32.ofNat kk), vR na, vR b1, uS, uS, uS, uS, uS, uS, uS] [(.int ((Int32.ofNat ((own_uc p3).length + (own_uc p4).length)) + (Int32.ofNat (own_uc p5).length)))])
        rw [own_oadd]
        refine GoH.st (fun _ => XS.istore X50.here hx rfl (hb hby at_93) rfl (l' := #[vI p1, vI p2, vI p3, vI p4, vI p5, vI (Int32.ofNat NA.length), vI (Int32.ofNat kk), vR na, vR b1, vI (Int32.ofNat ((own_uc p3).length + (own_uc p4).length + (own_uc p5).length)), uS, uS, uS, uS, uS, uS]) rfl) ?_
        show GoH _ _ _ _ _ _ _ _ _ _  T50 (mkF m 95 #[vI p1, vI p2, vI p3, vI p4, vI p5, vI (Int32.ofNat NA.length), vI (Int32.ofNat kk), vR na, vR b1, vI (Int32.ofNat ((own_uc p3).length + (own_uc p4).length + (own_uc p5).length)), uS, uS, uS, uS, uS, uS] [])
        exact t95 T50 V9 _ T2.heap _ ((own_uc p3).length + (own_uc p4).length + (own_uc p5).length) (X50.more (by decide) (by decide)) hS hk e50q hZ hown HH RR O N50 KK E_b1 C_b1 V_b1 A_t2 V_na (by rw [own_key3 k3, List.length_append, List.length_append])
  by_cases c16_51 : nn = 1
  · rw [c16_51]
    refine GoH.st (fun _ => XS.iload X0.here hx rfl (hb hby at_16) rfl) ?_
    show GoH _ _ _ _ _ _ _ _ _ _  s₁ (mkF m 18 #[vI p1, vI p2, vI p3, vI p4, vI p5, vI (1 : Int32), vI (Int32.ofNat kk), uS, uS, uS, uS, uS, uS, uS, uS, uS] [(.int (1 : Int32))])
    obtain ⟨T52, h52, k52, X52, e52, E52, A52, st52⟩ := newP X0 hx hZ (hwi hw 0 rfl) e0 (g := (mkF m 18 #[vI p1, vI p2, vI p3, vI p4, vI p5, vI (1 : Int32), vI (Int32.ofNat kk), uS, uS, uS, uS, uS, uS, uS, uS, uS] [(.int (1 : Int32))])) rfl (hb hby at_18) rfl (by decide) (cap := 1) (by decide) (by decide) (by decide) (by decide)
    obtain ⟨b52, g52⟩ : ∃ z, z = h0.size := ⟨_, rfl⟩
    rw [← g52] at A52 st52
    refine GoH.st st52 ?_
    have g_b52 : n0 ≤ b52 := by rw [g52]; exact own_le O
    have Sf_b52 : Safe Z EL s.vm h0 b52 := Safe.new (Nat.le_of_eq g52.symm)
    have sz_b52 : h0.size ≤ b52 := by rw [g52]; exact KK.1
    have Sf_b52 := Safe.ext E52 HH Sf_b52
    have RR := RR.trans (CHr.ext E52 HH)
    have HH := HH.ext E52
    have hk := Nat.le_trans hk E52.1
    have O := O.ext E52
    have KK := KK.ext E52
    have V_b52 : Arv Z h52 b52 k52 .char (1 : Int32) [(.int (0 : Int32))] (.int (0 : Int32)) := (Arv.new A52 (by decide)).pad (pad_rep [] (.int (0 : Int32)) 1)
    show GoH _ _ _ _ _ _ _ _ _ _  T52 (mkF m 20 #[vI p1, vI p2, vI p3, vI p4, vI p5, vI (1 : Int32), vI (Int32.ofNat kk), uS, uS, uS, uS, uS, uS, uS, uS, uS] [(.ref b52)])
    refine GoH.st (fun _ => XS.astore X52.here hx rfl (hb hby at_20) rfl rfl (l' := #[vI p1, vI p2, vI p3, vI p4, vI p5, vI (1 : Int32), vI (Int32.ofNat kk), vR b52, uS, uS, uS, uS, uS, uS, uS, uS]) rfl) ?_
    refine GoH.st (fun _ => XS.aload X52.here hx rfl (hb hby at_22) rfl rfl) ?_
    refine GoH.st (fun _ => XS.iconst X52.here hx rfl (hb hby at_24)) ?_
    refine GoH.st (fun _ => XS.iloadN X52.here hx rfl (hb hby at_25) rfl) ?_
    show GoH _ _ _ _ _ _ _ _ _ _  T52 (mkF m 26 #[vI p1, vI p2, vI p3, vI p4, vI p5, vI (1 : Int32), vI (Int32.ofNat kk), vR b52, uS, uS, uS, uS, uS, uS, uS, uS] [(.int p1), (.int (0 : Int32)), (.ref b52)])
    refine GoH.pureS (w := (some (.int (own_nm p1)))) (rest := [(.int (0 : Int32)), (.ref b52)]) (pc' := 29) (Jvm.LawKit.callS X52 hx (y := mY52) hown (mvT hZ (hwi hw 1 rfl)) (mvT hZ (hwi hw 2 rfl)) (mvT hZ (hwi hw 3 rfl)) (mvT hZ (hwi hw 4 rfl)) (by decide) (backOf (W := 2) (rmNm l Z a0 hw [] p1 h52 n0 O) hZ (hwi hw 4 rfl) (hwi hw 3 rfl) (by decide) (by decide)) (g := (mkF m 26 #[vI p1, vI p2, vI p3, vI p4, vI p5, vI (1 : Int32), vI (Int32.ofNat kk), vR b52, uS, uS, uS, uS, uS, uS, uS, uS] [(.int p1), (.int (0 : Int32)), (.ref b52)])) rfl (by rw [hml]; rfl) (argsL := [(.int p1)]) (rest := [(.int (0 : Int32)), (.ref b52)]) (lenOf pd__I_C rfl) rfl (by show 2 * 0 + _ ≤ _; exact Nat.le_of_eq rfl) (hb hby at_26) (fun _ _ => ⟨rfl, e52, (by decide : 1 + 0 ≤ _), (by decide : 1 + 0 ≤ _)⟩)) (fun _ _ _ q => q) N0 (fun T53 L53 X53 e53q N53 => ?_)
    show GoH _ _ _ _ _ _ _ _ _ _  T53 (mkF m 29 #[vI p1, vI p2, vI p3, vI p4, vI p5, vI (1 : Int32), vI (Int32.ofNat kk), vR b52, uS, uS, uS, uS, uS, uS, uS, uS] [(.int (own_nm p1)), (.int (0 : Int32)), (.ref b52)])
    obtain ⟨cl54, Ar54, q54, S54, M54, Hh54, G54⟩ := V_b52
    obtain ⟨T55, h55, X55, e55, W55, st55⟩ := stC X53 hx hZ e53q Ar54 (j := (0 : Int32)) (inb_of S54 ⟨by decide, by decide⟩) (g := (mkF m 29 #[vI p1, vI p2, vI p3, vI p4, vI p5, vI (1 : Int32), vI (Int32.ofNat kk), vR b52, uS, uS, uS, uS, uS, uS, uS, uS] [(.int (own_nm p1)), (.int (0 : Int32)), (.ref b52)])) rfl rfl (hb hby at_29)
    refine GoH.st st55 ?_
    have V_b52 : Arv Z h55 b52 k52 .char (1 : Int32) [(.int (nar .char (own_nm p1)))] (.int (0 : Int32)) := Arv.set Ar54 q54 S54 M54 Hh54 G54 (fits_nar_char _) W55 0 rfl (Nat.le_of_ble_eq_true rfl)
    have N55 := Fr.snoc X55 N53 g_b52
    have Sf'_b52 := Safe.wr W55 Sf_b52 HH Sf_b52
    have RR := RR.trans (CHr.wr W55 Sf_b52 HH)
    have HH := HH.wr W55 Sf_b52
    have Sf_b52 := Sf'_b52
    have hk := Nat.le_trans hk (Nat.le_of_eq W55.size.symm)
    have O := O.wr W55 g_b52
    have KK := KK.wr W55 (Or.inr sz_b52)
    show GoH _ _ _ _ _ _ _ _ _ _  T55 (mkF m 30 #[vI p1, vI p2, vI p3, vI p4, vI p5, vI (1 : Int32), vI (Int32.ofNat kk), vR b52, uS, uS, uS, uS, uS, uS, uS, uS] [])
    refine GoH.st (fun _ => XS.iload X55.here hx rfl (hb hby at_30) rfl) ?_
    refine GoH.st (fun _ => XS.iconst X55.here hx rfl (hb hby at_32)) ?_
    show GoH _ _ _ _ _ _ _ _ _ _  T55 (mkF m 33 #[vI p1, vI p2, vI p3, vI p4, vI p5, vI (1 : Int32), vI (Int32.ofNat kk), vR b52, uS, uS, uS, uS, uS, uS, uS, uS] [(.int (2 : Int32)), (.int (1 : Int32))])
    refine GoH.st (fun _ => XS.icmpYes X55.here hx rfl (pc0 := 33) (pc' := 47) rfl (hb hby at_33) rfl (feq (by decide : ¬ ((1 : Int32) = (2 : Int32)))).2 (by decide) (by decide)) ?_
    rw [(own_nmf p1).2] at V_b52
    show GoH _ _ _ _ _ _ _ _ _ _  T55 (mkF m 47 #[vI p1, vI p2, vI p3, vI p4, vI p5, vI (1 : Int32), vI (Int32.ofNat kk), vR b52, uS, uS, uS, uS, uS, uS, uS, uS] [])
    exact t47 T55 s _ h55 _ b52 k52 ([own_nm p1] : List Int32) (X55.more (by decide) (by decide)) hS hk e55 hZ hown HH RR O N55 KK V_b52 (Nat.le_of_ble_eq_true rfl) (Nat.le_of_ble_eq_true rfl) (own_hrm (own_hrc (own_nmf _).2 own_hrn)) (own_l1c (own_nmf _).1 rfl)
  · have e2 : nn = 2 := by omega
    rw [e2]
    refine GoH.st (fun _ => XS.iload X0.here hx rfl (hb hby at_16) rfl) ?_
    show GoH _ _ _ _ _ _ _ _ _ _  s₁ (mkF m 18 #[vI p1, vI p2, vI p3, vI p4, vI p5, vI (2 : Int32), vI (Int32.ofNat kk), uS, uS, uS, uS, uS, uS, uS, uS, uS] [(.int (2 : Int32))])
    obtain ⟨T56, h56, k56, X56, e56, E56, A56, st56⟩ := newP X0 hx hZ (hwi hw 0 rfl) e0 (g := (mkF m 18 #[vI p1, vI p2, vI p3, vI p4, vI p5, vI (2 : Int32), vI (Int32.ofNat kk), uS, uS, uS, uS, uS, uS, uS, uS, uS] [(.int (2 : Int32))])) rfl (hb hby at_18) rfl (by decide) (cap := 2) (by decide) (by decide) (by decide) (by decide)
    obtain ⟨b56, g56⟩ : ∃ z, z = h0.size := ⟨_, rfl⟩
    rw [← g56] at A56 st56
    refine GoH.st st56 ?_
    have g_b56 : n0 ≤ b56 := by rw [g56]; exact own_le O
    have Sf_b56 : Safe Z EL s.vm h0 b56 := Safe.new (Nat.le_of_eq g56.symm)
    have sz_b56 : h0.size ≤ b56 := by rw [g56]; exact KK.1
    have Sf_b56 := Safe.ext E56 HH Sf_b56
    have RR := RR.trans (CHr.ext E56 HH)
    have HH := HH.ext E56
    have hk := Nat.le_trans hk E56.1
    have O := O.ext E56
    have KK := KK.ext E56
    have V_b56 : Arv Z h56 b56 k56 .char (2 : Int32) [(.int (0 : Int32)), (.int (0 : Int32))] (.int (0 : Int32)) := (Arv.new A56 (by decide)).pad (pad_rep [] (.int (0 : Int32)) 2)
    show GoH _ _ _ _ _ _ _ _ _ _  T56 (mkF m 20 #[vI p1, vI p2, vI p3, vI p4, vI p5, vI (2 : Int32), vI (Int32.ofNat kk), uS, uS, uS, uS, uS, uS, uS, uS, uS] [(.ref b56)])
    refine GoH.st (fun _ => XS.astore X56.here hx rfl (hb hby at_20) rfl rfl (l' := #[vI p1, vI p2, vI p3, vI p4, vI p5, vI (2 : Int32), vI (Int32.ofNat kk), vR b56, uS, uS, uS, uS, uS, uS, uS, uS]) rfl) ?_
    refine GoH.st (fun _ => XS.aload X56.here hx rfl (hb hby at_22) rfl rfl) ?_
    refine GoH.st (fun _ => XS.iconst X56.here hx rfl (hb hby at_24)) ?_
    refine GoH.st (fun _ => XS.iloadN X56.here hx rfl (hb hby at_25) rfl) ?_
    show GoH _ _ _ _ _ _ _ _ _ _  T56 (mkF m 26 #[vI p1, vI p2, vI p3, vI p4, vI p5, vI (2 : Int32), vI (Int32.ofNat kk), vR b56, uS, uS, uS, uS, uS, uS, uS, uS] [(.int p1), (.int (0 : Int32)), (.ref b56)])
    refine GoH.pureS (w := (some (.int (own_nm p1)))) (rest := [(.int (0 : Int32)), (.ref b56)]) (pc' := 29) (Jvm.LawKit.callS X56 hx (y := mY52) hown (mvT hZ (hwi hw 1 rfl)) (mvT hZ (hwi hw 2 rfl)) (mvT hZ (hwi hw 3 rfl)) (mvT hZ (hwi hw 4 rfl)) (by decide) (backOf (W := 2) (rmNm l Z a0 hw [] p1 h56 n0 O) hZ (hwi hw 4 rfl) (hwi hw 3 rfl) (by decide) (by decide)) (g := (mkF m 26 #[vI p1, vI p2, vI p3, vI p4, vI p5, vI (2 : Int32), vI (Int32.ofNat kk), vR b56, uS, uS, uS, uS, uS, uS, uS, uS] [(.int p1), (.int (0 : Int32)), (.ref b56)])) rfl (by rw [hml]; rfl) (argsL := [(.int p1)]) (rest := [(.int (0 : Int32)), (.ref b56)]) (lenOf pd__I_C rfl) rfl (by show 2 * 0 + _ ≤ _; exact Nat.le_of_eq rfl) (hb hby at_26) (fun _ _ => ⟨rfl, e56, (by decide : 1 + 0 ≤ _), (by decide : 2 + 0 ≤ _)⟩)) (fun _ _ _ q => q) N0 (fun T57 L57 X57 e57q N57 => ?_)
    show GoH _ _ _ _ _ _ _ _ _ _  T57 (mkF m 29 #[vI p1, vI p2, vI p3, vI p4, vI p5, vI (2 : Int32), vI (Int32.ofNat kk), vR b56, uS, uS, uS, uS, uS, uS, uS, uS] [(.int (own_nm p1)), (.int (0 : Int32)), (.ref b56)])
    obtain ⟨cl58, Ar58, q58, S58, M58, Hh58, G58⟩ := V_b56
    obtain ⟨T59, h59, X59, e59, W59, st59⟩ := stC X57 hx hZ e57q Ar58 (j := (0 : Int32)) (inb_of S58 ⟨by decide, by decide⟩) (g := (mkF m 29 #[vI p1, vI p2, vI p3, vI p4, vI p5, vI (2 : Int32), vI (Int32.ofNat kk), vR b56, uS, uS, uS, uS, uS, uS, uS, uS] [(.int (own_nm p1)), (.int (0 : Int32)), (.ref b56)])) rfl rfl (hb hby at_29)
    refine GoH.st st59 ?_
    have V_b56 : Arv Z h59 b56 k56 .char (2 : Int32) [(.int (nar .char (own_nm p1))), (.int (0 : Int32))] (.int (0 : Int32)) := Arv.set Ar58 q58 S58 M58 Hh58 G58 (fits_nar_char _) W59 0 rfl (Nat.le_of_ble_eq_true rfl)
    have N59 := Fr.snoc X59 N57 g_b56
    have Sf'_b56 := Safe.wr W59 Sf_b56 HH Sf_b56
    have RR := RR.trans (CHr.wr W59 Sf_b56 HH)
    have HH := HH.wr W59 Sf_b56
    have Sf_b56 := Sf'_b56
    have hk := Nat.le_trans hk (Nat.le_of_eq W59.size.symm)
    have O := O.wr W59 g_b56
    have KK := KK.wr W59 (Or.inr sz_b56)
    show GoH _ _ _ _ _ _ _ _ _ _  T59 (mkF m 30 #[vI p1, vI p2, vI p3, vI p4, vI p5, vI (2 : Int32), vI (Int32.ofNat kk), vR b56, uS, uS, uS, uS, uS, uS, uS, uS] [])
    refine GoH.st (fun _ => XS.iload X59.here hx rfl (hb hby at_30) rfl) ?_
    refine GoH.st (fun _ => XS.iconst X59.here hx rfl (hb hby at_32)) ?_
    show GoH _ _ _ _ _ _ _ _ _ _  T59 (mkF m 33 #[vI p1, vI p2, vI p3, vI p4, vI p5, vI (2 : Int32), vI (Int32.ofNat kk), vR b56, uS, uS, uS, uS, uS, uS, uS, uS] [(.int (2 : Int32)), (.int (2 : Int32))])
    refine GoH.st (fun _ => XS.icmpNo X59.here hx rfl (hb hby at_33) rfl (teq (rfl : (2 : Int32) = (2 : Int32))).2) ?_
    show GoH _ _ _ _ _ _ _ _ _ _  T59 (mkF m 36 #[vI p1, vI p2, vI p3, vI p4, vI p5, vI (2 : Int32), vI (Int32.ofNat kk), vR b56, uS, uS, uS, uS, uS, uS, uS, uS] [])
    refine GoH.st (fun _ => XS.aload X59.here hx rfl (hb hby at_36) rfl rfl) ?_
    refine GoH.st (fun _ => XS.iconst X59.here hx rfl (hb hby at_38)) ?_
    refine GoH.st (fun _ => XS.iloadN X59.here hx rfl (hb hby at_39) rfl) ?_
    refine GoH.st (fun _ => XS.bipush X59.here hx rfl (hb hby at_40)) ?_
    refine GoH.st (fun _ => XS.iushr X59.here hx rfl (hb hby at_42) rfl) ?_
    show GoH _ _ _ _ _ _ _ _ _ _  T59 (mkF m 43 #[vI p1, vI p2, vI p3, vI p4, vI p5, vI (2 : Int32), vI (Int32.ofNat kk), vR b56, uS, uS, uS, uS, uS, uS, uS, uS] [(.int ((p1.toUInt32 >>> ((6 : Int32) &&& 31).toUInt32).toInt32)), (.int (1 : Int32)), (.ref b56)])
    refine GoH.pureS (w := (some (.int (own_nm ((p1.toUInt32 >>> ((6 : Int32) &&& 31).toUInt32).toInt32))))) (rest := [(.int (1 : Int32)), (.ref b56)]) (pc' := 46) (Jvm.LawKit.callS X59 hx (y := mY52) hown (mvT hZ (hwi hw 1 rfl)) (mvT hZ (hwi hw 2 rfl)) (mvT hZ (hwi hw 3 rfl)) (mvT hZ (hwi hw 4 rfl)) (by decide) (backOf (W := 2) (rmNm l Z a0 hw [] ((p1.toUInt32 >>> ((6 : Int32) &&& 31).toUInt32).toInt32) h59 n0 O) hZ (hwi hw 4 rfl) (hwi hw 3 rfl) (by decide) (by decide)) (g := (mkF m 43 #[vI p1, vI p2, vI p3, vI p4, vI p5, vI (2 : Int32), vI (Int32.ofNat kk), vR b56, uS, uS, uS, uS, uS, uS, uS, uS] [(.int ((p1.toUInt32 >>> ((6 : Int32) &&& 31).toUInt32).toInt32)), (.int (1 : Int32)), (.ref b56)])) rfl (by rw [hml]; rfl) (argsL := [(.int ((p1.toUInt32 >>> ((6 : Int32) &&& 31).toUInt32).toInt32))]) (rest := [(.int (1 : Int32)), (.ref b56)]) (lenOf pd__I_C rfl) rfl (by show 2 * 0 + _ ≤ _; exact Nat.le_of_eq rfl) (hb hby at_43) (fun _ _ => ⟨rfl, e59, (by decide : 1 + 0 ≤ _), (by decide : 2 + 0 ≤ _)⟩)) (fun _ _ _ q => q) N59 (fun T60 L60 X60 e60q N60 => ?_)
    show GoH _ _ _ _ _ _ _ _ _ _  T60 (mkF m 46 #[vI p1, vI p2, vI p3, vI p4, vI p5, vI (2 : Int32), vI (Int32.ofNat kk), vR b56, uS, uS, uS, uS, uS, uS, uS, uS] [(.int (own_nm ((p1.toUInt32 >>> ((6 : Int32) &&& 31).toUInt32).toInt32))), (.int (1 : Int32)), (.ref b56)])
    obtain ⟨cl61, Ar61, q61, S61, M61, Hh61, G61⟩ := V_b56
    obtain ⟨T62, h62, X62, e62, W62, st62⟩ := stC X60 hx hZ e60q Ar61 (j := (1 : Int32)) (inb_of S61 ⟨by decide, by decide⟩) (g := (mkF m 46 #[vI p1, vI p2, vI p3, vI p4, vI p5, vI (2 : Int32), vI (Int32.ofNat kk), vR b56, uS, uS, uS, uS, uS, uS, uS, uS] [(.int (own_nm ((p1.toUInt32 >>> ((6 : Int32) &&& 31).toUInt32).toInt32))), (.int (1 : Int32)), (.ref b56)])) rfl rfl (hb hby at_46)
    refine GoH.st st62 ?_
    have V_b56 : Arv Z h62 b56 k56 .char (2 : Int32) [(.int (nar .char (own_nm p1))), (.int (nar .char (own_nm ((p1.toUInt32 >>> ((6 : Int32) &&& 31).toUInt32).toInt32))))] (.int (0 : Int32)) := Arv.set Ar61 q61 S61 M61 Hh61 G61 (fits_nar_char _) W62 1 rfl (Nat.le_of_ble_eq_true rfl)
    have N62 := Fr.snoc X62 N60 g_b56
    have Sf'_b56 := Safe.wr W62 Sf_b56 HH Sf_b56
    have RR := RR.trans (CHr.wr W62 Sf_b56 HH)
    have HH := HH.wr W62 Sf_b56
    have Sf_b56 := Sf'_b56
    have hk := Nat.le_trans hk (Nat.le_of_eq W62.size.symm)
    have O := O.wr W62 g_b56
    have KK := KK.wr W62 (Or.inr sz_b56)
    rw [(own_nmf p1).2] at V_b56
    rw [(own_nmf ((p1.toUInt32 >>> ((6 : Int32) &&& 31).toUInt32).toInt32)).2] at V_b56
    show GoH _ _ _ _ _ _ _ _ _ _  T62 (mkF m 47 #[vI p1, vI p2, vI p3, vI p4, vI p5, vI (2 : Int32), vI (Int32.ofNat kk), vR b56, uS, uS, uS, uS, uS, uS, uS, uS] [])
    exact t47 T62 s _ h62 _ b56 k56 ([own_nm p1, (own_nm ((p1.toUInt32 >>> ((6 : Int32) &&& 31).toUInt32).toInt32))] : List Int32) (X62.more (by decide) (by decide)) hS hk e62 hZ hown HH RR O N62 KK V_b56 (Nat.le_of_ble_eq_true rfl) (Nat.le_of_ble_eq_true rfl) (own_hrm (own_hrc (own_nmf _).2 (own_hrc (own_nmf _).2 own_hrn))) (own_l1c (own_nmf _).1 (own_l1c (own_nmf _).1 rfl))
theorem comes_1 {Post : Tables → Env → Array Value → State → Outcome → State → Prop} (hpost : ∀ tb e args s v u, (limb_1_1.after args s (.returned v) u = true ∧ limb_1_2.after args s (.returned v) u = true ∧ True) → ReturnedEndW s (.returned v) u (Jvm.fieldLocs frame_1_writes args s ++ Jvm.arrayLocs frame_1_arrays args s ++ Jvm.staticLocs frame_1_statics s) 48 1664 → Post tb e args s (.returned v) u) :
    ArmFor flags0 classFile x code maxLocals ret World_1 tables_1 room_1 Calls_1 rest_1 Pre_1 Post := by
  intro l hfl _ _ p e ha hc hk s m args below hf hA hF happ hP
  obtain ⟨hcalls, hrest, hpre⟩ := hP
  obtain ⟨-, -, -, hnamed, -, -, -, hat⟩ := (Spec.applies_iff hf).mp happ
  obtain ⟨hg, hn⟩ := and_e (Cond.before_iff.mp (show (Jvm.Cond.and given_1 narrow_1).before args s = true from hpre))
  obtain ⟨g1, g2⟩ := and_e hg
  obtain ⟨g3, g4⟩ := and_e g2
  obtain ⟨g5, g6⟩ := and_e g4
  obtain ⟨g7, g8⟩ := and_e g6
  obtain ⟨g9, g10⟩ := and_e g8
  obtain ⟨w0, w1, w2, w3, w4, rfl⟩ : ∃ w0 w1 w2 w3 w4 : Value, args = #[w0, w1, w2, w3, w4] := by
    have hs : args.size = 5 := by simpa [Cond.value, given_1] using g1
    obtain ⟨L⟩ := args
    match L, hs with
    | [w0, w1, w2, w3, w4], _ => exact ⟨w0, w1, w2, w3, w4, rfl⟩
  have hw := fun d (hd : d ∈ tables_1) => atoms_spec (ws := Jvm.Cond.code x code maxLocals ret :: tables_1) hat d (List.mem_cons_of_mem _ hd)
  have hfit : Fit s := fun {y c} hc i hi => by
    obtain ⟨ha, rfl⟩ := Array.getElem?_eq_some_iff.mp hc
    have q := List.all_eq_true.mp ((Array.all_eq_true_iff_forall_mem.mp hF) _ (Array.getElem_mem ha)) i (List.mem_range.mpr hi)
    simpa [Array.getElem?_eq_getElem hi] using q
  obtain ⟨hsets, hown0⟩ := atoms_of _ (rest_1_c_eq ▸ (show rest_1_c.before _ s = true from hrest))
  obtain ⟨i0, ei0⟩ := is_v g3
  obtain rfl : w0 = (.int i0) := Option.some.inj ei0
  obtain ⟨i1, ei1⟩ := is_v g5
  obtain rfl : w1 = (.int i1) := Option.some.inj ei1
  obtain ⟨i2, ei2⟩ := is_v g7
  obtain rfl : w2 = (.int i2) := Option.some.inj ei2
  obtain ⟨i3, ei3⟩ := is_v g9
  obtain rfl : w3 = (.int i3) := Option.some.inj ei3
  obtain ⟨i4, ei4⟩ := is_v g10
  obtain rfl : w4 = (.int i4) := Option.some.inj ei4
  obtain ⟨zc, ezc⟩ := is_v (Cond.before_iff.mp (hsets _ (List.mem_of_getElem? (i := 1) rfl)))
  have S_COMPACT : Sta s s.heap "java/lang/String" "COMPACT_STRINGS" "Z" (.int zc) := Sta.start ezc (Or.inl (hsets _ (List.mem_of_getElem? (i := 0) rfl)))
  have hcs : ¬ (zc = (0 : Int32)) := gotF (Cond.eq_ints ezc (Term.int_eval (0))) (not_v (Cond.before_iff.mp (hsets _ (List.mem_of_getElem? (i := 2) rfl))))
  obtain ⟨fm, efm, ref_fm⟩ := isR_v (Cond.before_iff.mp (hsets _ (List.mem_of_getElem? (i := 8) rfl)))
  have S_SIO : Sta s s.heap "jdk/internal/util/Preconditions" "SIOOBE_FORMATTER" "Ljava/util/function/BiFunction;" fm := Sta.start efm (Or.inl (hsets _ (List.mem_of_getElem? (i := 7) rfl)))
  have S_ad : Sta s s.heap "java/lang/StringUTF16" "$assertionsDisabled" "Z" (.int 1) := Sta.start (own_eqi (Cond.before_iff.mp (hsets _ (List.mem_of_getElem? (i := 12) rfl)))) (Or.inl (hsets _ (List.mem_of_getElem? (i := 11) rfl)))
  have S_hi : Sta s s.heap "java/lang/StringUTF16" "HI_BYTE_SHIFT" "I" (.int 0) := Sta.start (own_eqi (Cond.before_iff.mp (hsets _ (List.mem_of_getElem? (i := 15) rfl)))) (Or.inl (hsets _ (List.mem_of_getElem? (i := 14) rfl)))
  have S_lo : Sta s s.heap "java/lang/StringUTF16" "LO_BYTE_SHIFT" "I" (.int 8) := Sta.start (own_eqi (Cond.before_iff.mp (hsets _ (List.mem_of_getElem? (i := 18) rfl)))) (Or.inl (hsets _ (List.mem_of_getElem? (i := 17) rfl)))
  have hEL : EW s _ EL := (EW.cons (hwi hw 112 rfl) (by decide) EW.nil)
  have wS : ∀ a ∈ Bundle.stringAtoms, a.before _ s = true := fun d hd => hw d ((by decide +kernel : ∀ d ∈ Bundle.stringAtoms, d ∈ tables_1) d hd)
  have HH : CHv s EL s.vm s.heap := CHv.start hEL (fun q hq => hcalls.1 q hq) (hsets _ (List.mem_of_getElem? (i := 2) rfl)) (hwi hw 23 rfl) (hwi hw 6 rfl)
  obtain ⟨n, o, h1, h2, h3, _, L, rfl, ⟨rfl, N⟩, hcr, hq⟩ := rm0 l s _ hw tables_1 i0 i1 i2 i3 i4 zc fm s.heap s.heap.size (Old.start s) hEL wS S_COMPACT hcs S_SIO ref_fm S_ad S_hi S_lo p e ha hc hk s m _ below hf ((Spec.applies_iff_loose hf).mp happ).1 ⟨rfl, State.Warmed39.refl s, rfl, HH, fun _ q => nomatch q⟩ trivial
  refine ⟨n, _, h1, h2, h3, hpost _ _ _ _ _ _ ⟨Cond.after_iff.mpr rfl, Cond.after_iff.mpr (eq_i res_at (Term.int_eval (1)) rfl), trivial⟩ ⟨hq.1, hq.2.1, hq.2.2.1, (hq.2.2.2.sift fun y hy => Or.inr (N y hy)).mono (by decide) (by decide)⟩⟩
theorem main_1_1 : Claimed_1_1 := comes_1 fun _ _ _ _ _ _ h hF => ⟨h.1, hF⟩
theorem main_1_2 : Claimed_1_2 := comes_1 fun _ _ _ _ _ _ h hF => ⟨h.2.1, hF⟩
end Jvm.Pilot.@@N@@
namespace Jvm.Pilot.@@N@@
open Jvm Jvm.ClassFile Sem Op Lib Jvm.Free Jvm.Stand Jvm.Pilot.@@N@@.Jvm.D
/-! MADE BY PROGRAM (witnessworld.py) out of the Statement's table words and the real class files: 27 classes; the members and pool entries that the words name. The judged class is class 1, her method 6. -/
namespace start1
open Jvm.ClassFile
def u (s : String) : CpInfo := .utf8 (stringToUtf16 s)
/-- a pool by its gaps: so many unusable entries, then the entry; so many at the end -/
def gap : Nat → List CpInfo → List CpInfo
  | 0, r => r
  | n + 1, r => .unusable :: gap n r
def poolList (es : List (Nat × CpInfo)) (last : Nat) : List CpInfo := es.foldr (fun e r => gap e.1 (e.2 :: r)) (gap last [])
def pool (es : List (Nat × CpInfo)) (last : Nat) : Array CpInfo := ⟨poolList es last⟩
def fileOf (pool : Array CpInfo) (this : Nat) (attrs : Array Attribute := #[]) (ms : Array MethodInfo := #[]) (fl : Nat := 33) (sup : Nat := 0) (ifs : Array Nat := #[]) (fds : Array FieldInfo := #[]) : ClassFile where
  minorVersion := 0
  majorVersion := 65
  constantPool := pool
  accessFlags := fl
  thisClass := this
  superClass := sup
  interfaces := ifs
  fields := fds
  methods := ms
  attributes := attrs
def plain (name : String) (sup : Option ClassId) : Class where
  name := name
  kind := .ordinary
  loader := none
  accessFlags := 33
  super := sup
  interfaces := #[]
  cf := none
  fields := #[]
  methods := #[]
  instanceTypes := #[]
  staticTypes := #[]
  resolved := #[]
  callSites := []
  init := .initialized
  statics := none
  mirror := none

def pool0 : Array CpInfo := pool [(5, u "<init>"), (0, u "()V"), (1, .class_ 10), (1, u "java/lang/Object"), (85, u "clone"), (0, u "()Ljava/lang/Object;")] 26

def k0c0 : Code := { maxStack := 0, maxLocals := 1, code := object_method_1_code, exceptionTable := #[], attributes := #[] }
def k0m0 : Method := { name := "<init>", desc := "()V", sig := { parameters := [], returnType := none }, accessFlags := 1, code := some k0c0 }
def k0m1 : Method := { name := "clone", desc := "()Ljava/lang/Object;", sig := { parameters := [], returnType := some (.object "java/lang/Object") }, accessFlags := 260, code := none }
/-- java/lang/Object -/
def k0 : Class := { plain "java/lang/Object" none with
  accessFlags := 33
  interfaces := #[]
  cf := some (fileOf pool0 8 #[] #[{ accessFlags := 1, nameIndex := 5, descriptorIndex := 6, attributes := #[] }, { accessFlags := 260, nameIndex := 96, descriptorIndex := 97, attributes := #[] }] 33 0 #[] #[])
  fields := #[]
  methods := #[k0m0, k0m1]
  instanceTypes := #[]
  staticTypes := #[]
  resolved := Array.replicate 124 none
  statics := none }

def pool1 : Array CpInfo := pool [(2, .class_ 4), (1, u "java/lang/Object"), (0, u "<init>"), (0, u "()V"), (0, .methodref 8 9), (0, .class_ 10), (0, .nameAndType 11 12), (0, u "com/example/oplim/oplim/KeysPrefixPinLaw"), (0, u "isPair"), (0, u "(I)Z"), (0, .integer 65535), (0, .integer 55296), (0, .integer 57343), (0, .integer 56320), (0, .methodref 8 18), (0, .nameAndType 19 20), (0, u "bmp"), (0, u "(I)C"), (0, .methodref 8 22), (0, .nameAndType 23 20), (0, u "nameChar"), (0, .class_ 25), (0, u "java/lang/String"), (0, .methodref 24 27), (0, .nameAndType 5 28), (0, u "([C)V"), (0, .methodref 8 30), (0, .nameAndType 31 32), (0, u "width"), (0, u "(I)I"), (0, .methodref 8 34), (0, .nameAndType 35 36), (0, u "put"), (0, u "([CII)I"), (0, .methodref 38 39), (0, .class_ 40), (0, .nameAndType 41 42), (0, u "com/example/oplim/oplim/Keys"), (0, u "prefix"), (0, u "(Ljava/lang/String;Ljava/lang/String;)Ljava/lang/String;"), (0, .methodref 24 44), (0, .nameAndType 45 46), (0, u "equals"), (0, u "(Ljava/lang/Object;)Z"), (3, u "law"), (0, u "(IIIII)Z")] 4

def k1m0 : Method := { name := "<init>", desc := "()V", sig := { parameters := [], returnType := none }, accessFlags := 1, code := none }
def k1c1 : Code := { maxStack := 2, maxLocals := 1, code := method_2_code, exceptionTable := #[], attributes := #[] }
def k1m1 : Method := { name := "isPair", desc := "(I)Z", sig := { parameters := [.int], returnType := some .boolean }, accessFlags := 10, code := some k1c1 }
def k1c2 : Code := { maxStack := 1, maxLocals := 1, code := method_3_code, exceptionTable := #[], attributes := #[] }
def k1m2 : Method := { name := "width", desc := "(I)I", sig := { parameters := [.int], returnType := some .int }, accessFlags := 10, code := some k1c2 }
def k1c3 : Code := { maxStack := 2, maxLocals := 2, code := method_4_code, exceptionTable := #[], attributes := #[] }
def k1m3 : Method := { name := "bmp", desc := "(I)C", sig := { parameters := [.int], returnType := some .char }, accessFlags := 10, code := some k1c3 }
def k1c4 : Code := { maxStack := 5, maxLocals := 3, code := method_5_code, exceptionTable := #[], attributes := #[] }
def k1m4 : Method := { name := "put", desc := "([CII)I", sig := { parameters := [(.array .char), .int, .int], returnType := some .int }, accessFlags := 10, code := some k1c4 }
def k1c5 : Code := { maxStack := 3, maxLocals := 2, code := method_6_code, exceptionTable := #[], attributes := #[] }
def k1m5 : Method := { name := "nameChar", desc := "(I)C", sig := { parameters := [.int], returnType := some .char }, accessFlags := 10, code := some k1c5 }
def k1c6 : Code := { maxStack := 4, maxLocals := 16, code := code, exceptionTable := #[], attributes := #[] }
def k1m6 : Method := { name := "law", desc := "(IIIII)Z", sig := { parameters := [.int, .int, .int, .int, .int], returnType := some .boolean }, accessFlags := 9, code := some k1c6 }
/-- com/example/oplim/oplim/KeysPrefixPinLaw -/
def k1 : Class := { plain "com/example/oplim/oplim/KeysPrefixPinLaw" (some 0) with
  accessFlags := 49
  interfaces := #[]
  cf := some (fileOf pool1 8 #[] #[{ accessFlags := 1, nameIndex := 5, descriptorIndex := 6, attributes := #[] }, { accessFlags := 10, nameIndex := 11, descriptorIndex := 12, attributes := #[] }, { accessFlags := 10, nameIndex := 31, descriptorIndex := 32, attributes := #[] }, { accessFlags := 10, nameIndex := 19, descriptorIndex := 20, attributes := #[] }, { accessFlags := 10, nameIndex := 35, descriptorIndex := 36, attributes := #[] }, { accessFlags := 10, nameIndex := 23, descriptorIndex := 20, attributes := #[] }, { accessFlags := 9, nameIndex := 50, descriptorIndex := 51, attributes := #[] }] 49 2 #[] #[])
  fields := #[]
  methods := #[k1m0, k1m1, k1m2, k1m3, k1m4, k1m5, k1m6]
  instanceTypes := #[]
  staticTypes := #[]
  resolved := Array.replicate 56 none
  statics := none }

def pool2 : Array CpInfo := pool [(1, .class_ 2), (0, u "java/io/Serializable"), (0, .class_ 4), (0, u "java/lang/Object")] 2

/-- java/io/Serializable -/
def k2 : Class := { plain "java/io/Serializable" (some 0) with
  accessFlags := 1537
  interfaces := #[]
  cf := some (fileOf pool2 1 #[] #[] 1537 3 #[] #[])
  fields := #[]
  methods := #[]
  instanceTypes := #[]
  staticTypes := #[]
  resolved := Array.replicate 7 none
  statics := none }

def pool3 : Array CpInfo := pool [(1, .class_ 2), (0, u "java/lang/Comparable"), (0, .class_ 4), (0, u "java/lang/Object")] 7

/-- java/lang/Comparable -/
def k3 : Class := { plain "java/lang/Comparable" (some 0) with
  accessFlags := 1537
  interfaces := #[]
  cf := some (fileOf pool3 1 #[] #[] 1537 3 #[] #[])
  fields := #[]
  methods := #[]
  instanceTypes := #[]
  staticTypes := #[]
  resolved := Array.replicate 12 none
  statics := none }

def pool4 : Array CpInfo := pool [(2, .class_ 4), (1, u "java/lang/CharSequence"), (42, .class_ 48), (0, u "java/lang/CharSequence$1CodePointIterator"), (10, .class_ 60), (0, u "java/lang/CharSequence$1CharIterator"), (5, .class_ 67), (0, u "java/lang/Object")] 63

/-- java/lang/CharSequence -/
def k4 : Class := { plain "java/lang/CharSequence" (some 0) with
  accessFlags := 1537
  interfaces := #[]
  cf := some (fileOf pool4 2 #[.nestMembers #[47, 59]] #[] 1537 66 #[] #[])
  fields := #[]
  methods := #[]
  instanceTypes := #[]
  staticTypes := #[]
  resolved := Array.replicate 131 none
  statics := none }

def pool5 : Array CpInfo := pool [(1, .class_ 2), (0, u "java/lang/constant/Constable"), (0, .class_ 4), (0, u "java/lang/Object")] 6

/-- java/lang/constant/Constable -/
def k5 : Class := { plain "java/lang/constant/Constable" (some 0) with
  accessFlags := 1537
  interfaces := #[]
  cf := some (fileOf pool5 1 #[] #[] 1537 3 #[] #[])
  fields := #[]
  methods := #[]
  instanceTypes := #[]
  staticTypes := #[]
  resolved := Array.replicate 11 none
  statics := none }

def pool6 : Array CpInfo := pool [(1, .class_ 2), (0, u "java/lang/constant/ConstantDesc"), (0, .class_ 4), (0, u "java/lang/Object")] 32

/-- java/lang/constant/ConstantDesc -/
def k6 : Class := { plain "java/lang/constant/ConstantDesc" (some 0) with
  accessFlags := 1537
  interfaces := #[]
  cf := some (fileOf pool6 1 #[] #[] 1537 3 #[] #[])
  fields := #[]
  methods := #[]
  instanceTypes := #[]
  staticTypes := #[]
  resolved := Array.replicate 37 none
  statics := none }

def pool7 : Array CpInfo := pool [(1, .methodref 2 3), (0, .class_ 4), (0, .nameAndType 5 6), (0, u "java/lang/Object"), (0, u "<init>"), (0, u "()V"), (2, .fieldref 10 11), (0, .class_ 12), (0, .nameAndType 13 14), (0, u "java/lang/String"), (0, u "value"), (0, u "[B"), (0, .fieldref 10 16), (0, .nameAndType 17 18), (0, u "coder"), (0, u "B"), (2, u "hash"), (0, u "I"), (2, u "hashIsZero"), (0, u "Z"), (0, .methodref 10 28), (0, .nameAndType 5 29), (0, u "([CIILjava/lang/Void;)V"), (6, u "checkBoundsOffCount"), (0, u "(III)I"), (0, .fieldref 10 39), (0, .nameAndType 40 26), (0, u "COMPACT_STRINGS"), (1, .class_ 44), (1, u "java/lang/StringUTF16"), (0, u "compress"), (1, .methodref 42 48), (0, .nameAndType 49 50), (0, u "coderFromArrayLen"), (0, u "([BI)B"), (3, .methodref 55 56), (0, .class_ 57), (0, .nameAndType 58 59), (0, u "java/util/Arrays"), (0, u "copyOfRange"), (0, u "([BII)[B"), (37, u "([BII)I"), (9, .class_ 109), (1, u "java/lang/StringLatin1"), (32, u "()Z"), (34, .methodref 42 178), (0, .nameAndType 45 179), (0, u "([CII)[B"), (13, .class_ 195), (1, u "java/lang/System"), (16, .methodref 193 213), (0, .nameAndType 214 215), (0, u "arraycopy"), (0, u "(Ljava/lang/Object;ILjava/lang/Object;II)V"), (118, u "()I"), (0, .methodref 10 336), (0, .nameAndType 17 337), (0, u "()B"), (2, u "()[B"), (50, u "(II)V"), (97, .methodref 10 490), (0, .nameAndType 5 491), (0, u "(Ljava/lang/AbstractStringBuilder;Ljava/lang/Void;)V"), (0, .methodref 10 493), (0, .nameAndType 494 142), (0, u "isLatin1"), (4, .methodref 10 500), (0, .nameAndType 501 391), (0, u "checkIndex"), (0, .methodref 42 503), (0, .nameAndType 504 97), (0, u "codePointAt"), (1, .nameAndType 507 334), (0, u "length"), (24, u "getBytes"), (8, .methodref 107 542), (0, .nameAndType 543 544), (0, u "equals"), (0, u "([B[B)Z"), (4, .methodref 550 506), (0, .class_ 551), (0, u "java/lang/AbstractStringBuilder"), (0, .methodref 550 553), (0, .nameAndType 554 340), (0, u "getValue"), (18, u "(Ljava/lang/Object;)Z"), (1, .class_ 576), (0, u "java/lang/CharSequence"), (22, u "CASE_INSENSITIVE_ORDER"), (0, u "Ljava/util/Comparator;"), (91, u "isEmpty"), (72, u "(I)I"), (55, u "([BIB)V"), (188, u "([C)V"), (36, .methodref 550 493), (0, .fieldref 550 1049), (0, .nameAndType 1050 26), (0, u "maybeLatin1"), (2, .fieldref 1054 1055), (0, .class_ 1056), (0, .nameAndType 1057 1058), (0, u "jdk/internal/util/Preconditions"), (0, u "SIOOBE_FORMATTER"), (0, u "Ljava/util/function/BiFunction;"), (0, .methodref 1054 1060), (0, .nameAndType 501 1061), (0, u "(IILjava/util/function/BiFunction;)I"), (2, u "(IIILjava/util/function/BiFunction;)I"), (0, .methodref 1054 1066), (0, .nameAndType 1067 1064), (0, u "checkFromIndexSize"), (33, u "serialPersistentFields"), (0, u "[Ljava/io/ObjectStreamField;"), (0, .class_ 1104), (0, u "java/lang/String$CaseInsensitiveComparator"), (1, .class_ 1107), (0, u "java/io/Serializable"), (0, .class_ 1109), (0, u "java/lang/Comparable"), (0, .class_ 1111), (0, u "java/lang/constant/Constable"), (0, .class_ 1113), (0, u "java/lang/constant/ConstantDesc"), (2, u "serialVersionUID"), (0, u "J"), (3, u "REPL"), (0, u "C"), (2, u "LATIN1"), (1, u "UTF16"), (105, u "(Ljava/lang/StringBuilder;)V")] 217

def k7m0 : Method := { name := "<init>", desc := "()V", sig := { parameters := [], returnType := none }, accessFlags := 1, code := none }
def k7c1 : Code := { maxStack := 5, maxLocals := 2, code := jdk_42_method_3_code, exceptionTable := #[], attributes := #[] }
def k7m1 : Method := { name := "<init>", desc := "([C)V", sig := { parameters := [(.array .char)], returnType := none }, accessFlags := 1, code := some k7c1 }
def k7c2 : Code := { maxStack := 3, maxLocals := 2, code := jdk_42_method_53_code, exceptionTable := #[], attributes := #[] }
def k7m2 : Method := { name := "<init>", desc := "(Ljava/lang/StringBuilder;)V", sig := { parameters := [(.object "java/lang/StringBuilder")], returnType := none }, accessFlags := 1, code := some k7c2 }
def k7c3 : Code := { maxStack := 2, maxLocals := 1, code := jdk_42_method_54_code, exceptionTable := #[], attributes := #[] }
def k7m3 : Method := { name := "length", desc := "()I", sig := { parameters := [], returnType := some .int }, accessFlags := 1, code := some k7c3 }
def k7c4 : Code := { maxStack := 1, maxLocals := 1, code := jdk_42_method_55_code, exceptionTable := #[], attributes := #[] }
def k7m4 : Method := { name := "isEmpty", desc := "()Z", sig := { parameters := [], returnType := some .boolean }, accessFlags := 1, code := some k7c4 }
def k7c5 : Code := { maxStack := 3, maxLocals := 3, code := jdk_42_method_57_code, exceptionTable := #[], attributes := #[] }
def k7m5 : Method := { name := "codePointAt", desc := "(I)I", sig := { parameters := [.int], returnType := some .int }, accessFlags := 1, code := some k7c5 }
def k7c6 : Code := { maxStack := 2, maxLocals := 3, code := jdk_42_method_66_code, exceptionTable := #[], attributes := #[] }
def k7m6 : Method := { name := "equals", desc := "(Ljava/lang/Object;)Z", sig := { parameters := [(.object "java/lang/Object")], returnType := some .boolean }, accessFlags := 1, code := some k7c6 }
def k7c7 : Code := { maxStack := 5, maxLocals := 4, code := jdk_42_method_147_code, exceptionTable := #[], attributes := #[] }
def k7m7 : Method := { name := "getBytes", desc := "([BIB)V", sig := { parameters := [(.array .byte), .int, .byte], returnType := none }, accessFlags := 0, code := some k7c7 }
def k7c8 : Code := { maxStack := 4, maxLocals := 6, code := jdk_42_method_149_code, exceptionTable := #[], attributes := #[] }
def k7m8 : Method := { name := "<init>", desc := "([CIILjava/lang/Void;)V", sig := { parameters := [(.array .char), .int, .int, (.object "java/lang/Void")], returnType := none }, accessFlags := 2, code := some k7c8 }
def k7c9 : Code := { maxStack := 5, maxLocals := 5, code := jdk_42_method_150_code, exceptionTable := #[], attributes := #[] }
def k7m9 : Method := { name := "<init>", desc := "(Ljava/lang/AbstractStringBuilder;Ljava/lang/Void;)V", sig := { parameters := [(.object "java/lang/AbstractStringBuilder"), (.object "java/lang/Void")], returnType := none }, accessFlags := 0, code := some k7c9 }
def k7c10 : Code := { maxStack := 1, maxLocals := 1, code := jdk_42_method_152_code, exceptionTable := #[], attributes := #[] }
def k7m10 : Method := { name := "coder", desc := "()B", sig := { parameters := [], returnType := some .byte }, accessFlags := 0, code := some k7c10 }
def k7c11 : Code := { maxStack := 1, maxLocals := 1, code := jdk_42_method_154_code, exceptionTable := #[], attributes := #[] }
def k7m11 : Method := { name := "isLatin1", desc := "()Z", sig := { parameters := [], returnType := some .boolean }, accessFlags := 0, code := some k7c11 }
def k7c12 : Code := { maxStack := 3, maxLocals := 2, code := jdk_42_method_155_code, exceptionTable := #[], attributes := #[] }
def k7m12 : Method := { name := "checkIndex", desc := "(II)V", sig := { parameters := [.int, .int], returnType := none }, accessFlags := 8, code := some k7c12 }
def k7c13 : Code := { maxStack := 4, maxLocals := 3, code := jdk_42_method_157_code, exceptionTable := #[], attributes := #[] }
def k7m13 : Method := { name := "checkBoundsOffCount", desc := "(III)I", sig := { parameters := [.int, .int, .int], returnType := some .int }, accessFlags := 8, code := some k7c13 }
/-- java/lang/String -/
def k7 : Class := { plain "java/lang/String" (some 0) with
  accessFlags := 49
  interfaces := #[2, 3, 4, 5, 6]
  cf := some (fileOf pool7 10 #[.nestMembers #[1103]] #[{ accessFlags := 1, nameIndex := 5, descriptorIndex := 6, attributes := #[] }, { accessFlags := 1, nameIndex := 5, descriptorIndex := 1010, attributes := #[] }, { accessFlags := 1, nameIndex := 5, descriptorIndex := 1233, attributes := #[] }, { accessFlags := 1, nameIndex := 507, descriptorIndex := 334, attributes := #[] }, { accessFlags := 1, nameIndex := 692, descriptorIndex := 142, attributes := #[] }, { accessFlags := 1, nameIndex := 504, descriptorIndex := 765, attributes := #[] }, { accessFlags := 1, nameIndex := 543, descriptorIndex := 573, attributes := #[] }, { accessFlags := 0, nameIndex := 532, descriptorIndex := 821, attributes := #[] }, { accessFlags := 2, nameIndex := 5, descriptorIndex := 29, attributes := #[] }, { accessFlags := 0, nameIndex := 5, descriptorIndex := 491, attributes := #[] }, { accessFlags := 0, nameIndex := 17, descriptorIndex := 337, attributes := #[] }, { accessFlags := 0, nameIndex := 494, descriptorIndex := 142, attributes := #[] }, { accessFlags := 8, nameIndex := 501, descriptorIndex := 391, attributes := #[] }, { accessFlags := 8, nameIndex := 36, descriptorIndex := 37, attributes := #[] }] 49 2 #[1106, 1108, 575, 1110, 1112] #[{ accessFlags := 18, nameIndex := 13, descriptorIndex := 14, attributes := #[] }, { accessFlags := 18, nameIndex := 17, descriptorIndex := 18, attributes := #[] }, { accessFlags := 2, nameIndex := 21, descriptorIndex := 22, attributes := #[] }, { accessFlags := 2, nameIndex := 25, descriptorIndex := 26, attributes := #[] }, { accessFlags := 26, nameIndex := 1116, descriptorIndex := 1117, attributes := #[] }, { accessFlags := 24, nameIndex := 40, descriptorIndex := 26, attributes := #[] }, { accessFlags := 26, nameIndex := 1101, descriptorIndex := 1102, attributes := #[] }, { accessFlags := 26, nameIndex := 1121, descriptorIndex := 1122, attributes := #[] }, { accessFlags := 25, nameIndex := 599, descriptorIndex := 600, attributes := #[] }, { accessFlags := 24, nameIndex := 1125, descriptorIndex := 18, attributes := #[] }, { accessFlags := 24, nameIndex := 1127, descriptorIndex := 18, attributes := #[] }])
  fields := #[{ name := "value", type := (.array .byte), accessFlags := 18, slot := 0, constantValue := 0 }, { name := "coder", type := .byte, accessFlags := 18, slot := 1, constantValue := 0 }, { name := "hash", type := .int, accessFlags := 2, slot := 2, constantValue := 0 }, { name := "hashIsZero", type := .boolean, accessFlags := 2, slot := 3, constantValue := 0 }, { name := "serialVersionUID", type := .long, accessFlags := 26, slot := 0, constantValue := 0 }, { name := "COMPACT_STRINGS", type := .boolean, accessFlags := 24, slot := 1, constantValue := 0 }, { name := "serialPersistentFields", type := (.array (.object "java/io/ObjectStreamField")), accessFlags := 26, slot := 2, constantValue := 0 }, { name := "REPL", type := .char, accessFlags := 26, slot := 3, constantValue := 0 }, { name := "CASE_INSENSITIVE_ORDER", type := (.object "java/util/Comparator"), accessFlags := 25, slot := 4, constantValue := 0 }, { name := "LATIN1", type := .byte, accessFlags := 24, slot := 5, constantValue := 0 }, { name := "UTF16", type := .byte, accessFlags := 24, slot := 6, constantValue := 0 }]
  methods := #[k7m0, k7m1, k7m2, k7m3, k7m4, k7m5, k7m6, k7m7, k7m8, k7m9, k7m10, k7m11, k7m12, k7m13]
  instanceTypes := #[(.array .byte), .byte, .int, .boolean]
  staticTypes := #[.long, .boolean, (.array (.object "java/io/ObjectStreamField")), .char, (.object "java/util/Comparator"), .byte, .byte]
  resolved := Array.replicate 1451 none
  statics := some 0 }

def pool8 : Array CpInfo := pool [(3, .class_ 4), (0, u "java/lang/String"), (1, .class_ 8), (1, u "java/lang/Object"), (0, u "<init>"), (0, u "()V"), (0, .methodref 12 13), (0, .class_ 14), (0, .nameAndType 15 16), (0, u "java/lang/StringUTF16"), (0, u "newBytesLength"), (0, u "(I)I"), (3, .integer 1073741823), (23, .fieldref 12 45), (0, .nameAndType 46 47), (0, u "$assertionsDisabled"), (0, u "Z"), (0, .methodref 12 49), (0, .nameAndType 50 51), (0, u "length"), (0, u "([B)I"), (7, .fieldref 12 60), (0, .nameAndType 61 62), (0, u "HI_BYTE_SHIFT"), (0, u "I"), (0, .fieldref 12 64), (0, .nameAndType 65 62), (0, u "LO_BYTE_SHIFT"), (1, .methodref 12 68), (0, .nameAndType 69 70), (0, u "checkIndex"), (0, u "(I[B)V"), (0, .methodref 12 72), (0, .nameAndType 73 74), (0, u "getChar"), (0, u "([BI)C"), (0, .methodref 76 77), (0, .class_ 78), (0, .nameAndType 79 80), (0, u "java/lang/Character"), (0, u "isHighSurrogate"), (0, u "(C)Z"), (0, .methodref 76 82), (0, .nameAndType 83 80), (0, u "isLowSurrogate"), (0, .methodref 76 85), (0, .nameAndType 86 87), (0, u "toCodePoint"), (0, u "(CC)I"), (0, .methodref 12 89), (0, .nameAndType 90 91), (0, u "codePointAt"), (0, u "([BIIZ)I"), (7, u "(II[B)V"), (7, .methodref 12 108), (0, .nameAndType 109 110), (0, u "newBytesFor"), (0, u "(I)[B"), (0, .methodref 12 112), (0, .nameAndType 113 114), (0, u "putChar"), (0, u "([BII)V"), (0, .methodref 12 116), (0, .nameAndType 117 118), (0, u "compress"), (0, u "([CI[BII)I"), (0, .methodref 12 120), (0, .nameAndType 121 122), (0, u "toBytes"), (0, u "([CII)[B"), (17, u "inflate"), (0, u "([BI[BII)V"), (31, .methodref 12 174), (0, .nameAndType 175 99), (0, u "checkBoundsOffCount"), (74, u "([BII)I"), (10, u "coderFromArrayLen"), (0, u "([BI)B"), (18, u "(III)I"), (87, .class_ 371), (1, u "java/lang/StringUTF16$LinesSpliterator"), (42, .methodref 3 415), (0, .nameAndType 69 416), (0, u "(II)V"), (2, .methodref 3 420), (0, .nameAndType 175 281), (9, u "MAX_LENGTH"), (155, u "putCharSB"), (40, .class_ 628), (0, u "java/lang/StringUTF16$CodePointsSpliterator"), (0, .class_ 630), (0, u "java/lang/StringUTF16$CharsSpliterator")] 4

def k8m0 : Method := { name := "<init>", desc := "()V", sig := { parameters := [], returnType := none }, accessFlags := 0, code := none }
def k8c1 : Code := { maxStack := 1, maxLocals := 1, code := jdk_52_method_2_code, exceptionTable := #[], attributes := #[] }
def k8m1 : Method := { name := "newBytesFor", desc := "(I)[B", sig := { parameters := [.int], returnType := some (.array .byte) }, accessFlags := 9, code := some k8c1 }
def k8c2 : Code := { maxStack := 4, maxLocals := 1, code := jdk_52_method_3_code, exceptionTable := #[], attributes := #[] }
def k8m2 : Method := { name := "newBytesLength", desc := "(I)I", sig := { parameters := [.int], returnType := some .int }, accessFlags := 9, code := some k8c2 }
def k8c3 : Code := { maxStack := 4, maxLocals := 3, code := jdk_52_method_4_code, exceptionTable := #[], attributes := #[] }
def k8m3 : Method := { name := "putChar", desc := "([BII)V", sig := { parameters := [(.array .byte), .int, .int], returnType := none }, accessFlags := 8, code := some k8c3 }
def k8c4 : Code := { maxStack := 3, maxLocals := 2, code := jdk_52_method_5_code, exceptionTable := #[], attributes := #[] }
def k8m4 : Method := { name := "getChar", desc := "([BI)C", sig := { parameters := [(.array .byte), .int], returnType := some .char }, accessFlags := 8, code := some k8c4 }
def k8c5 : Code := { maxStack := 2, maxLocals := 1, code := jdk_52_method_6_code, exceptionTable := #[], attributes := #[] }
def k8m5 : Method := { name := "length", desc := "([B)I", sig := { parameters := [(.array .byte)], returnType := some .int }, accessFlags := 9, code := some k8c5 }
def k8c6 : Code := { maxStack := 2, maxLocals := 6, code := jdk_52_method_7_code, exceptionTable := #[], attributes := #[] }
def k8m6 : Method := { name := "codePointAt", desc := "([BIIZ)I", sig := { parameters := [(.array .byte), .int, .int, .boolean], returnType := some .int }, accessFlags := 10, code := some k8c6 }
def k8c7 : Code := { maxStack := 4, maxLocals := 3, code := jdk_52_method_8_code, exceptionTable := #[], attributes := #[] }
def k8m7 : Method := { name := "codePointAt", desc := "([BII)I", sig := { parameters := [(.array .byte), .int, .int], returnType := some .int }, accessFlags := 9, code := some k8c7 }
def k8c8 : Code := { maxStack := 4, maxLocals := 5, code := jdk_52_method_14_code, exceptionTable := #[], attributes := #[] }
def k8m8 : Method := { name := "toBytes", desc := "([CII)[B", sig := { parameters := [(.array .char), .int, .int], returnType := some (.array .byte) }, accessFlags := 9, code := some k8c8 }
def k8c9 : Code := { maxStack := 2, maxLocals := 2, code := jdk_52_method_15_code, exceptionTable := #[], attributes := #[] }
def k8m9 : Method := { name := "coderFromArrayLen", desc := "([BI)B", sig := { parameters := [(.array .byte), .int], returnType := some .byte }, accessFlags := 8, code := some k8c9 }
def k8c10 : Code := { maxStack := 5, maxLocals := 6, code := jdk_52_method_16_code, exceptionTable := #[], attributes := #[] }
def k8m10 : Method := { name := "compress", desc := "([CII)[B", sig := { parameters := [(.array .char), .int, .int], returnType := some (.array .byte) }, accessFlags := 9, code := some k8c10 }
def k8c11 : Code := { maxStack := 3, maxLocals := 7, code := jdk_52_method_21_code, exceptionTable := #[], attributes := #[] }
def k8m11 : Method := { name := "compress", desc := "([CI[BII)I", sig := { parameters := [(.array .char), .int, (.array .byte), .int, .int], returnType := some .int }, accessFlags := 9, code := some k8c11 }
def k8c12 : Code := { maxStack := 3, maxLocals := 3, code := jdk_52_method_71_code, exceptionTable := #[], attributes := #[] }
def k8m12 : Method := { name := "putCharSB", desc := "([BII)V", sig := { parameters := [(.array .byte), .int, .int], returnType := none }, accessFlags := 9, code := some k8c12 }
def k8c13 : Code := { maxStack := 4, maxLocals := 6, code := jdk_52_method_86_code, exceptionTable := #[], attributes := #[] }
def k8m13 : Method := { name := "inflate", desc := "([BI[BII)V", sig := { parameters := [(.array .byte), .int, (.array .byte), .int, .int], returnType := none }, accessFlags := 9, code := some k8c13 }
def k8c14 : Code := { maxStack := 2, maxLocals := 2, code := jdk_52_method_91_code, exceptionTable := #[], attributes := #[] }
def k8m14 : Method := { name := "checkIndex", desc := "(I[B)V", sig := { parameters := [.int, (.array .byte)], returnType := none }, accessFlags := 9, code := some k8c14 }
def k8c15 : Code := { maxStack := 3, maxLocals := 3, code := jdk_52_method_94_code, exceptionTable := #[], attributes := #[] }
def k8m15 : Method := { name := "checkBoundsOffCount", desc := "(II[B)V", sig := { parameters := [.int, .int, (.array .byte)], returnType := none }, accessFlags := 9, code := some k8c15 }
/-- java/lang/StringUTF16 -/
def k8 : Class := { plain "java/lang/StringUTF16" (some 0) with
  accessFlags := 48
  interfaces := #[]
  cf := some (fileOf pool8 12 #[.nestMembers #[627, 629, 369]] #[{ accessFlags := 0, nameIndex := 9, descriptorIndex := 10, attributes := #[] }, { accessFlags := 9, nameIndex := 109, descriptorIndex := 110, attributes := #[] }, { accessFlags := 9, nameIndex := 15, descriptorIndex := 16, attributes := #[] }, { accessFlags := 8, nameIndex := 113, descriptorIndex := 114, attributes := #[] }, { accessFlags := 8, nameIndex := 73, descriptorIndex := 74, attributes := #[] }, { accessFlags := 9, nameIndex := 50, descriptorIndex := 51, attributes := #[] }, { accessFlags := 10, nameIndex := 90, descriptorIndex := 91, attributes := #[] }, { accessFlags := 9, nameIndex := 90, descriptorIndex := 250, attributes := #[] }, { accessFlags := 9, nameIndex := 121, descriptorIndex := 122, attributes := #[] }, { accessFlags := 8, nameIndex := 261, descriptorIndex := 262, attributes := #[] }, { accessFlags := 9, nameIndex := 117, descriptorIndex := 122, attributes := #[] }, { accessFlags := 9, nameIndex := 117, descriptorIndex := 118, attributes := #[] }, { accessFlags := 9, nameIndex := 586, descriptorIndex := 114, attributes := #[] }, { accessFlags := 9, nameIndex := 140, descriptorIndex := 141, attributes := #[] }, { accessFlags := 9, nameIndex := 69, descriptorIndex := 70, attributes := #[] }, { accessFlags := 9, nameIndex := 175, descriptorIndex := 99, attributes := #[] }] 48 6 #[] #[{ accessFlags := 26, nameIndex := 61, descriptorIndex := 62, attributes := #[] }, { accessFlags := 26, nameIndex := 65, descriptorIndex := 62, attributes := #[] }, { accessFlags := 24, nameIndex := 430, descriptorIndex := 62, attributes := #[] }, { accessFlags := 4120, nameIndex := 46, descriptorIndex := 47, attributes := #[] }])
  fields := #[{ name := "HI_BYTE_SHIFT", type := .int, accessFlags := 26, slot := 0, constantValue := 0 }, { name := "LO_BYTE_SHIFT", type := .int, accessFlags := 26, slot := 1, constantValue := 0 }, { name := "MAX_LENGTH", type := .int, accessFlags := 24, slot := 2, constantValue := 0 }, { name := "$assertionsDisabled", type := .boolean, accessFlags := 4120, slot := 3, constantValue := 0 }]
  methods := #[k8m0, k8m1, k8m2, k8m3, k8m4, k8m5, k8m6, k8m7, k8m8, k8m9, k8m10, k8m11, k8m12, k8m13, k8m14, k8m15]
  instanceTypes := #[]
  staticTypes := #[.int, .int, .int, .boolean]
  resolved := Array.replicate 635 none
  statics := some 1 }

def pool9 : Array CpInfo := pool [(2, .class_ 4), (0, .nameAndType 5 6), (0, u "java/lang/Object"), (0, u "<init>"), (0, u "()V"), (1, .class_ 10), (1, u "com/example/oplim/oplim/Keys"), (0, u "NAME"), (0, u "Ljava/util/regex/Pattern;"), (11, u "()Z"), (2, .class_ 28), (0, u "java/lang/StringBuilder"), (0, .methodref 27 3), (2, .methodref 27 33), (0, .nameAndType 34 35), (0, u "append"), (0, u "(Ljava/lang/String;)Ljava/lang/StringBuilder;"), (0, .methodref 27 37), (0, .nameAndType 38 39), (0, u "toString"), (0, u "()Ljava/lang/String;"), (3, .methodref 44 45), (0, .class_ 46), (0, .nameAndType 47 24), (0, u "java/lang/String"), (0, u "isEmpty"), (2, .methodref 44 51), (0, .nameAndType 52 53), (0, u "length"), (0, u "()I"), (0, .methodref 44 55), (0, .nameAndType 56 57), (0, u "codePointAt"), (0, u "(I)I"), (0, .class_ 59), (0, u "java/lang/Character"), (0, .integer 55296), (0, .integer 57343), (5, .methodref 8 68), (0, .nameAndType 69 57), (0, u "utf8Length"), (0, .methodref 58 71), (0, .nameAndType 72 57), (0, u "charCount"), (2, .string 76), (0, u "oplim:{"), (0, .methodref 27 78), (0, .nameAndType 34 79), (0, u "(C)Ljava/lang/StringBuilder;"), (2, u "UNIT_MILLIS"), (0, u "[J"), (5, u "UNIT_NAMES"), (0, u "[Ljava/lang/String;"), (0, .integer 65536), (24, u "MAX_NAME_LENGTH"), (0, u "I"), (2, u "MAX_KEY_BYTES"), (6, u "prefix"), (0, u "(Ljava/lang/String;Ljava/lang/String;)Ljava/lang/String;")] 5

def k9m0 : Method := { name := "<init>", desc := "()V", sig := { parameters := [], returnType := none }, accessFlags := 2, code := none }
def k9c1 : Code := { maxStack := 4, maxLocals := 5, code := prog_4_method_3_code, exceptionTable := #[], attributes := #[] }
def k9m1 : Method := { name := "prefix", desc := "(Ljava/lang/String;Ljava/lang/String;)Ljava/lang/String;", sig := { parameters := [(.object "java/lang/String"), (.object "java/lang/String")], returnType := some (.object "java/lang/String") }, accessFlags := 8, code := some k9c1 }
def k9c2 : Code := { maxStack := 2, maxLocals := 2, code := prog_4_method_5_code, exceptionTable := #[], attributes := #[] }
def k9m2 : Method := { name := "utf8Length", desc := "(I)I", sig := { parameters := [.int], returnType := some .int }, accessFlags := 10, code := some k9c2 }
/-- com/example/oplim/oplim/Keys -/
def k9 : Class := { plain "com/example/oplim/oplim/Keys" (some 0) with
  accessFlags := 32
  interfaces := #[]
  cf := some (fileOf pool9 8 #[] #[{ accessFlags := 2, nameIndex := 5, descriptorIndex := 6, attributes := #[] }, { accessFlags := 8, nameIndex := 127, descriptorIndex := 128, attributes := #[] }, { accessFlags := 10, nameIndex := 69, descriptorIndex := 57, attributes := #[] }] 32 2 #[] #[{ accessFlags := 26, nameIndex := 116, descriptorIndex := 117, attributes := #[] }, { accessFlags := 26, nameIndex := 120, descriptorIndex := 117, attributes := #[] }, { accessFlags := 26, nameIndex := 11, descriptorIndex := 12, attributes := #[] }, { accessFlags := 26, nameIndex := 82, descriptorIndex := 83, attributes := #[] }, { accessFlags := 26, nameIndex := 89, descriptorIndex := 90, attributes := #[] }])
  fields := #[{ name := "MAX_NAME_LENGTH", type := .int, accessFlags := 26, slot := 0, constantValue := 0 }, { name := "MAX_KEY_BYTES", type := .int, accessFlags := 26, slot := 1, constantValue := 0 }, { name := "NAME", type := (.object "java/util/regex/Pattern"), accessFlags := 26, slot := 2, constantValue := 0 }, { name := "UNIT_MILLIS", type := (.array .long), accessFlags := 26, slot := 3, constantValue := 0 }, { name := "UNIT_NAMES", type := (.array (.object "java/lang/String")), accessFlags := 26, slot := 4, constantValue := 0 }]
  methods := #[k9m0, k9m1, k9m2]
  instanceTypes := #[]
  staticTypes := #[.int, .int, (.object "java/util/regex/Pattern"), (.array .long), (.array (.object "java/lang/String"))]
  resolved := Array.replicate 134 none
  statics := none }

def pool10 : Array CpInfo := pool [(2, .class_ 4), (1, u "java/lang/Object"), (0, u "<init>"), (0, u "()V"), (17, .class_ 26), (1, u "jdk/internal/util/Preconditions"), (6, u "checkIndex"), (15, u "checkFromIndexSize"), (5, .class_ 56), (0, u "jdk/internal/util/Preconditions$4"), (57, .class_ 115), (0, u "jdk/internal/util/Preconditions$1"), (7, u "SIOOBE_FORMATTER"), (0, u "Ljava/util/function/BiFunction;"), (0, .class_ 126), (0, u "jdk/internal/util/Preconditions$2"), (3, u "AIOOBE_FORMATTER"), (0, .class_ 132), (0, u "jdk/internal/util/Preconditions$3"), (3, u "IOOBE_FORMATTER"), (41, u "(IILjava/util/function/BiFunction;)I"), (4, u "(IIILjava/util/function/BiFunction;)I")] 10

def k10m0 : Method := { name := "<init>", desc := "()V", sig := { parameters := [], returnType := none }, accessFlags := 1, code := none }
def k10c1 : Code := { maxStack := 3, maxLocals := 3, code := jdk_41_method_11_code, exceptionTable := #[], attributes := #[] }
def k10m1 : Method := { name := "checkIndex", desc := "(IILjava/util/function/BiFunction;)I", sig := { parameters := [.int, .int, (.object "java/util/function/BiFunction")], returnType := some .int }, accessFlags := 9, code := some k10c1 }
def k10c2 : Code := { maxStack := 4, maxLocals := 4, code := jdk_41_method_13_code, exceptionTable := #[], attributes := #[] }
def k10m2 : Method := { name := "checkFromIndexSize", desc := "(IIILjava/util/function/BiFunction;)I", sig := { parameters := [.int, .int, .int, (.object "java/util/function/BiFunction")], returnType := some .int }, accessFlags := 9, code := some k10c2 }
/-- jdk/internal/util/Preconditions -/
def k10 : Class := { plain "jdk/internal/util/Preconditions" (some 0) with
  accessFlags := 33
  interfaces := #[]
  cf := some (fileOf pool10 24 #[.nestMembers #[55, 131, 125, 114]] #[{ accessFlags := 1, nameIndex := 5, descriptorIndex := 6, attributes := #[] }, { accessFlags := 9, nameIndex := 33, descriptorIndex := 178, attributes := #[] }, { accessFlags := 9, nameIndex := 49, descriptorIndex := 183, attributes := #[] }] 33 2 #[] #[{ accessFlags := 25, nameIndex := 123, descriptorIndex := 124, attributes := #[] }, { accessFlags := 25, nameIndex := 130, descriptorIndex := 124, attributes := #[] }, { accessFlags := 25, nameIndex := 136, descriptorIndex := 124, attributes := #[] }])
  fields := #[{ name := "SIOOBE_FORMATTER", type := (.object "java/util/function/BiFunction"), accessFlags := 25, slot := 0, constantValue := 0 }, { name := "AIOOBE_FORMATTER", type := (.object "java/util/function/BiFunction"), accessFlags := 25, slot := 1, constantValue := 0 }, { name := "IOOBE_FORMATTER", type := (.object "java/util/function/BiFunction"), accessFlags := 25, slot := 2, constantValue := 0 }]
  methods := #[k10m0, k10m1, k10m2]
  instanceTypes := #[]
  staticTypes := #[(.object "java/util/function/BiFunction"), (.object "java/util/function/BiFunction"), (.object "java/util/function/BiFunction")]
  resolved := Array.replicate 194 none
  statics := some 2 }

def pool11 : Array CpInfo := pool [(1, .class_ 2), (0, u "java/lang/Character"), (18, u "value"), (0, u "C"), (19, .class_ 44), (1, u "java/lang/Object"), (3, .class_ 50), (1, u "java/lang/Character$CharacterCache"), (22, .integer 65536), (1, .integer 55296), (0, .integer 56320), (0, .integer 57344), (2, u "isHighSurrogate"), (0, u "(C)Z"), (2, u "isLowSurrogate"), (0, .integer 4238353408), (12, u "toCodePoint"), (0, u "(CC)I"), (74, u "(I)I"), (109, u "$assertionsDisabled"), (0, u "Z"), (21, .class_ 309), (1, u "java/lang/Character$UnicodeBlock"), (73, u "TYPE"), (0, u "Ljava/lang/Class;"), (0, .class_ 386), (0, u "java/io/Serializable"), (0, .class_ 388), (0, u "java/lang/Comparable"), (0, .class_ 390), (0, u "java/lang/constant/Constable"), (0, u "MIN_RADIX"), (0, u "I"), (2, u "MAX_RADIX"), (1, u "MIN_VALUE"), (1, u "MAX_VALUE"), (3, u "UNASSIGNED"), (0, u "B"), (0, u "UPPERCASE_LETTER"), (1, u "LOWERCASE_LETTER"), (0, u "TITLECASE_LETTER"), (1, u "MODIFIER_LETTER"), (1, u "OTHER_LETTER"), (1, u "NON_SPACING_MARK"), (1, u "ENCLOSING_MARK"), (1, u "COMBINING_SPACING_MARK"), (1, u "DECIMAL_DIGIT_NUMBER"), (1, u "LETTER_NUMBER"), (1, u "OTHER_NUMBER"), (1, u "SPACE_SEPARATOR"), (1, u "LINE_SEPARATOR"), (1, u "PARAGRAPH_SEPARATOR"), (1, u "CONTROL"), (1, u "FORMAT"), (1, u "PRIVATE_USE"), (1, u "SURROGATE"), (1, u "DASH_PUNCTUATION"), (1, u "START_PUNCTUATION"), (1, u "END_PUNCTUATION"), (1, u "CONNECTOR_PUNCTUATION"), (1, u "OTHER_PUNCTUATION"), (1, u "MATH_SYMBOL"), (1, u "CURRENCY_SYMBOL"), (1, u "MODIFIER_SYMBOL"), (1, u "OTHER_SYMBOL"), (1, u "INITIAL_QUOTE_PUNCTUATION"), (1, u "FINAL_QUOTE_PUNCTUATION"), (1, u "ERROR"), (1, u "DIRECTIONALITY_UNDEFINED"), (0, u "DIRECTIONALITY_LEFT_TO_RIGHT"), (0, u "DIRECTIONALITY_RIGHT_TO_LEFT"), (0, u "DIRECTIONALITY_RIGHT_TO_LEFT_ARABIC"), (0, u "DIRECTIONALITY_EUROPEAN_NUMBER"), (0, u "DIRECTIONALITY_EUROPEAN_NUMBER_SEPARATOR"), (0, u "DIRECTIONALITY_EUROPEAN_NUMBER_TERMINATOR"), (0, u "DIRECTIONALITY_ARABIC_NUMBER"), (0, u "DIRECTIONALITY_COMMON_NUMBER_SEPARATOR"), (0, u "DIRECTIONALITY_NONSPACING_MARK"), (0, u "DIRECTIONALITY_BOUNDARY_NEUTRAL"), (0, u "DIRECTIONALITY_PARAGRAPH_SEPARATOR"), (0, u "DIRECTIONALITY_SEGMENT_SEPARATOR"), (0, u "DIRECTIONALITY_WHITESPACE"), (0, u "DIRECTIONALITY_OTHER_NEUTRALS"), (0, u "DIRECTIONALITY_LEFT_TO_RIGHT_EMBEDDING"), (0, u "DIRECTIONALITY_LEFT_TO_RIGHT_OVERRIDE"), (0, u "DIRECTIONALITY_RIGHT_TO_LEFT_EMBEDDING"), (0, u "DIRECTIONALITY_RIGHT_TO_LEFT_OVERRIDE"), (1, u "DIRECTIONALITY_POP_DIRECTIONAL_FORMAT"), (0, u "DIRECTIONALITY_LEFT_TO_RIGHT_ISOLATE"), (0, u "DIRECTIONALITY_RIGHT_TO_LEFT_ISOLATE"), (0, u "DIRECTIONALITY_FIRST_STRONG_ISOLATE"), (0, u "DIRECTIONALITY_POP_DIRECTIONAL_ISOLATE"), (0, u "MIN_HIGH_SURROGATE"), (0, u "MAX_HIGH_SURROGATE"), (1, u "MIN_LOW_SURROGATE"), (0, u "MAX_LOW_SURROGATE"), (1, u "MIN_SURROGATE"), (0, u "MAX_SURROGATE"), (0, u "MIN_SUPPLEMENTARY_CODE_POINT"), (0, u "MIN_CODE_POINT"), (0, u "MAX_CODE_POINT"), (1, u "serialVersionUID"), (0, u "J"), (2, u "SIZE"), (0, u "BYTES"), (29, u "charCount"), (58, .class_ 596), (0, u "java/lang/Character$UnicodeScript"), (0, .class_ 598), (0, u "java/lang/Character$Subset")] 5

def k11c0 : Code := { maxStack := 2, maxLocals := 1, code := jdk_89_method_14_code, exceptionTable := #[], attributes := #[] }
def k11m0 : Method := { name := "isHighSurrogate", desc := "(C)Z", sig := { parameters := [.char], returnType := some .boolean }, accessFlags := 9, code := some k11c0 }
def k11c1 : Code := { maxStack := 2, maxLocals := 1, code := jdk_89_method_15_code, exceptionTable := #[], attributes := #[] }
def k11m1 : Method := { name := "isLowSurrogate", desc := "(C)Z", sig := { parameters := [.char], returnType := some .boolean }, accessFlags := 9, code := some k11c1 }
def k11c2 : Code := { maxStack := 2, maxLocals := 1, code := jdk_89_method_18_code, exceptionTable := #[], attributes := #[] }
def k11m2 : Method := { name := "charCount", desc := "(I)I", sig := { parameters := [.int], returnType := some .int }, accessFlags := 9, code := some k11c2 }
def k11c3 : Code := { maxStack := 2, maxLocals := 2, code := jdk_89_method_19_code, exceptionTable := #[], attributes := #[] }
def k11m3 : Method := { name := "toCodePoint", desc := "(CC)I", sig := { parameters := [.char, .char], returnType := some .int }, accessFlags := 9, code := some k11c3 }
/-- java/lang/Character -/
def k11 : Class := { plain "java/lang/Character" (some 0) with
  accessFlags := 49
  interfaces := #[2, 3, 5]
  cf := some (fileOf pool11 1 #[.nestMembers #[48, 595, 307, 597]] #[{ accessFlags := 9, nameIndex := 80, descriptorIndex := 81, attributes := #[] }, { accessFlags := 9, nameIndex := 84, descriptorIndex := 81, attributes := #[] }, { accessFlags := 9, nameIndex := 536, descriptorIndex := 174, attributes := #[] }, { accessFlags := 9, nameIndex := 98, descriptorIndex := 99, attributes := #[] }] 49 42 #[385, 387, 389] #[{ accessFlags := 25, nameIndex := 391, descriptorIndex := 392, attributes := #[] }, { accessFlags := 25, nameIndex := 395, descriptorIndex := 392, attributes := #[] }, { accessFlags := 25, nameIndex := 397, descriptorIndex := 22, attributes := #[] }, { accessFlags := 25, nameIndex := 399, descriptorIndex := 22, attributes := #[] }, { accessFlags := 25, nameIndex := 383, descriptorIndex := 384, attributes := #[] }, { accessFlags := 25, nameIndex := 403, descriptorIndex := 404, attributes := #[] }, { accessFlags := 25, nameIndex := 405, descriptorIndex := 404, attributes := #[] }, { accessFlags := 25, nameIndex := 407, descriptorIndex := 404, attributes := #[] }, { accessFlags := 25, nameIndex := 408, descriptorIndex := 404, attributes := #[] }, { accessFlags := 25, nameIndex := 410, descriptorIndex := 404, attributes := #[] }, { accessFlags := 25, nameIndex := 412, descriptorIndex := 404, attributes := #[] }, { accessFlags := 25, nameIndex := 414, descriptorIndex := 404, attributes := #[] }, { accessFlags := 25, nameIndex := 416, descriptorIndex := 404, attributes := #[] }, { accessFlags := 25, nameIndex := 418, descriptorIndex := 404, attributes := #[] }, { accessFlags := 25, nameIndex := 420, descriptorIndex := 404, attributes := #[] }, { accessFlags := 25, nameIndex := 422, descriptorIndex := 404, attributes := #[] }, { accessFlags := 25, nameIndex := 424, descriptorIndex := 404, attributes := #[] }, { accessFlags := 25, nameIndex := 426, descriptorIndex := 404, attributes := #[] }, { accessFlags := 25, nameIndex := 428, descriptorIndex := 404, attributes := #[] }, { accessFlags := 25, nameIndex := 430, descriptorIndex := 404, attributes := #[] }, { accessFlags := 25, nameIndex := 432, descriptorIndex := 404, attributes := #[] }, { accessFlags := 25, nameIndex := 434, descriptorIndex := 404, attributes := #[] }, { accessFlags := 25, nameIndex := 436, descriptorIndex := 404, attributes := #[] }, { accessFlags := 25, nameIndex := 438, descriptorIndex := 404, attributes := #[] }, { accessFlags := 25, nameIndex := 440, descriptorIndex := 404, attributes := #[] }, { accessFlags := 25, nameIndex := 442, descriptorIndex := 404, attributes := #[] }, { accessFlags := 25, nameIndex := 444, descriptorIndex := 404, attributes := #[] }, { accessFlags := 25, nameIndex := 446, descriptorIndex := 404, attributes := #[] }, { accessFlags := 25, nameIndex := 448, descriptorIndex := 404, attributes := #[] }, { accessFlags := 25, nameIndex := 450, descriptorIndex := 404, attributes := #[] }, { accessFlags := 25, nameIndex := 452, descriptorIndex := 404, attributes := #[] }, { accessFlags := 25, nameIndex := 454, descriptorIndex := 404, attributes := #[] }, { accessFlags := 25, nameIndex := 456, descriptorIndex := 404, attributes := #[] }, { accessFlags := 25, nameIndex := 458, descriptorIndex := 404, attributes := #[] }, { accessFlags := 25, nameIndex := 460, descriptorIndex := 404, attributes := #[] }, { accessFlags := 24, nameIndex := 462, descriptorIndex := 392, attributes := #[] }, { accessFlags := 25, nameIndex := 464, descriptorIndex := 404, attributes := #[] }, { accessFlags := 25, nameIndex := 465, descriptorIndex := 404, attributes := #[] }, { accessFlags := 25, nameIndex := 466, descriptorIndex := 404, attributes := #[] }, { accessFlags := 25, nameIndex := 467, descriptorIndex := 404, attributes := #[] }, { accessFlags := 25, nameIndex := 468, descriptorIndex := 404, attributes := #[] }, { accessFlags := 25, nameIndex := 469, descriptorIndex := 404, attributes := #[] }, { accessFlags := 25, nameIndex := 470, descriptorIndex := 404, attributes := #[] }, { accessFlags := 25, nameIndex := 471, descriptorIndex := 404, attributes := #[] }, { accessFlags := 25, nameIndex := 472, descriptorIndex := 404, attributes := #[] }, { accessFlags := 25, nameIndex := 473, descriptorIndex := 404, attributes := #[] }, { accessFlags := 25, nameIndex := 474, descriptorIndex := 404, attributes := #[] }, { accessFlags := 25, nameIndex := 475, descriptorIndex := 404, attributes := #[] }, { accessFlags := 25, nameIndex := 476, descriptorIndex := 404, attributes := #[] }, { accessFlags := 25, nameIndex := 477, descriptorIndex := 404, attributes := #[] }, { accessFlags := 25, nameIndex := 478, descriptorIndex := 404, attributes := #[] }, { accessFlags := 25, nameIndex := 479, descriptorIndex := 404, attributes := #[] }, { accessFlags := 25, nameIndex := 480, descriptorIndex := 404, attributes := #[] }, { accessFlags := 25, nameIndex := 481, descriptorIndex := 404, attributes := #[] }, { accessFlags := 25, nameIndex := 482, descriptorIndex := 404, attributes := #[] }, { accessFlags := 25, nameIndex := 484, descriptorIndex := 404, attributes := #[] }, { accessFlags := 25, nameIndex := 485, descriptorIndex := 404, attributes := #[] }, { accessFlags := 25, nameIndex := 486, descriptorIndex := 404, attributes := #[] }, { accessFlags := 25, nameIndex := 487, descriptorIndex := 404, attributes := #[] }, { accessFlags := 25, nameIndex := 488, descriptorIndex := 404, attributes := #[] }, { accessFlags := 25, nameIndex := 489, descriptorIndex := 22, attributes := #[] }, { accessFlags := 25, nameIndex := 490, descriptorIndex := 22, attributes := #[] }, { accessFlags := 25, nameIndex := 492, descriptorIndex := 22, attributes := #[] }, { accessFlags := 25, nameIndex := 493, descriptorIndex := 22, attributes := #[] }, { accessFlags := 25, nameIndex := 495, descriptorIndex := 22, attributes := #[] }, { accessFlags := 25, nameIndex := 496, descriptorIndex := 22, attributes := #[] }, { accessFlags := 25, nameIndex := 497, descriptorIndex := 392, attributes := #[] }, { accessFlags := 25, nameIndex := 498, descriptorIndex := 392, attributes := #[] }, { accessFlags := 25, nameIndex := 499, descriptorIndex := 392, attributes := #[] }, { accessFlags := 18, nameIndex := 21, descriptorIndex := 22, attributes := #[] }, { accessFlags := 26, nameIndex := 501, descriptorIndex := 502, attributes := #[] }, { accessFlags := 25, nameIndex := 505, descriptorIndex := 392, attributes := #[] }, { accessFlags := 25, nameIndex := 506, descriptorIndex := 392, attributes := #[] }, { accessFlags := 4120, nameIndex := 284, descriptorIndex := 285, attributes := #[] }])
  fields := #[{ name := "MIN_RADIX", type := .int, accessFlags := 25, slot := 0, constantValue := 0 }, { name := "MAX_RADIX", type := .int, accessFlags := 25, slot := 1, constantValue := 0 }, { name := "MIN_VALUE", type := .char, accessFlags := 25, slot := 2, constantValue := 0 }, { name := "MAX_VALUE", type := .char, accessFlags := 25, slot := 3, constantValue := 0 }, { name := "TYPE", type := (.object "java/lang/Class"), accessFlags := 25, slot := 4, constantValue := 0 }, { name := "UNASSIGNED", type := .byte, accessFlags := 25, slot := 5, constantValue := 0 }, { name := "UPPERCASE_LETTER", type := .byte, accessFlags := 25, slot := 6, constantValue := 0 }, { name := "LOWERCASE_LETTER", type := .byte, accessFlags := 25, slot := 7, constantValue := 0 }, { name := "TITLECASE_LETTER", type := .byte, accessFlags := 25, slot := 8, constantValue := 0 }, { name := "MODIFIER_LETTER", type := .byte, accessFlags := 25, slot := 9, constantValue := 0 }, { name := "OTHER_LETTER", type := .byte, accessFlags := 25, slot := 10, constantValue := 0 }, { name := "NON_SPACING_MARK", type := .byte, accessFlags := 25, slot := 11, constantValue := 0 }, { name := "ENCLOSING_MARK", type := .byte, accessFlags := 25, slot := 12, constantValue := 0 }, { name := "COMBINING_SPACING_MARK", type := .byte, accessFlags := 25, slot := 13, constantValue := 0 }, { name := "DECIMAL_DIGIT_NUMBER", type := .byte, accessFlags := 25, slot := 14, constantValue := 0 }, { name := "LETTER_NUMBER", type := .byte, accessFlags := 25, slot := 15, constantValue := 0 }, { name := "OTHER_NUMBER", type := .byte, accessFlags := 25, slot := 16, constantValue := 0 }, { name := "SPACE_SEPARATOR", type := .byte, accessFlags := 25, slot := 17, constantValue := 0 }, { name := "LINE_SEPARATOR", type := .byte, accessFlags := 25, slot := 18, constantValue := 0 }, { name := "PARAGRAPH_SEPARATOR", type := .byte, accessFlags := 25, slot := 19, constantValue := 0 }, { name := "CONTROL", type := .byte, accessFlags := 25, slot := 20, constantValue := 0 }, { name := "FORMAT", type := .byte, accessFlags := 25, slot := 21, constantValue := 0 }, { name := "PRIVATE_USE", type := .byte, accessFlags := 25, slot := 22, constantValue := 0 }, { name := "SURROGATE", type := .byte, accessFlags := 25, slot := 23, constantValue := 0 }, { name := "DASH_PUNCTUATION", type := .byte, accessFlags := 25, slot := 24, constantValue := 0 }, { name := "START_PUNCTUATION", type := .byte, accessFlags := 25, slot := 25, constantValue := 0 }, { name := "END_PUNCTUATION", type := .byte, accessFlags := 25, slot := 26, constantValue := 0 }, { name := "CONNECTOR_PUNCTUATION", type := .byte, accessFlags := 25, slot := 27, constantValue := 0 }, { name := "OTHER_PUNCTUATION", type := .byte, accessFlags := 25, slot := 28, constantValue := 0 }, { name := "MATH_SYMBOL", type := .byte, accessFlags := 25, slot := 29, constantValue := 0 }, { name := "CURRENCY_SYMBOL", type := .byte, accessFlags := 25, slot := 30, constantValue := 0 }, { name := "MODIFIER_SYMBOL", type := .byte, accessFlags := 25, slot := 31, constantValue := 0 }, { name := "OTHER_SYMBOL", type := .byte, accessFlags := 25, slot := 32, constantValue := 0 }, { name := "INITIAL_QUOTE_PUNCTUATION", type := .byte, accessFlags := 25, slot := 33, constantValue := 0 }, { name := "FINAL_QUOTE_PUNCTUATION", type := .byte, accessFlags := 25, slot := 34, constantValue := 0 }, { name := "ERROR", type := .int, accessFlags := 24, slot := 35, constantValue := 0 }, { name := "DIRECTIONALITY_UNDEFINED", type := .byte, accessFlags := 25, slot := 36, constantValue := 0 }, { name := "DIRECTIONALITY_LEFT_TO_RIGHT", type := .byte, accessFlags := 25, slot := 37, constantValue := 0 }, { name := "DIRECTIONALITY_RIGHT_TO_LEFT", type := .byte, accessFlags := 25, slot := 38, constantValue := 0 }, { name := "DIRECTIONALITY_RIGHT_TO_LEFT_ARABIC", type := .byte, accessFlags := 25, slot := 39, constantValue := 0 }, { name := "DIRECTIONALITY_EUROPEAN_NUMBER", type := .byte, accessFlags := 25, slot := 40, constantValue := 0 }, { name := "DIRECTIONALITY_EUROPEAN_NUMBER_SEPARATOR", type := .byte, accessFlags := 25, slot := 41, constantValue := 0 }, { name := "DIRECTIONALITY_EUROPEAN_NUMBER_TERMINATOR", type := .byte, accessFlags := 25, slot := 42, constantValue := 0 }, { name := "DIRECTIONALITY_ARABIC_NUMBER", type := .byte, accessFlags := 25, slot := 43, constantValue := 0 }, { name := "DIRECTIONALITY_COMMON_NUMBER_SEPARATOR", type := .byte, accessFlags := 25, slot := 44, constantValue := 0 }, { name := "DIRECTIONALITY_NONSPACING_MARK", type := .byte, accessFlags := 25, slot := 45, constantValue := 0 }, { name := "DIRECTIONALITY_BOUNDARY_NEUTRAL", type := .byte, accessFlags := 25, slot := 46, constantValue := 0 }, { name := "DIRECTIONALITY_PARAGRAPH_SEPARATOR", type := .byte, accessFlags := 25, slot := 47, constantValue := 0 }, { name := "DIRECTIONALITY_SEGMENT_SEPARATOR", type := .byte, accessFlags := 25, slot := 48, constantValue := 0 }, { name := "DIRECTIONALITY_WHITESPACE", type := .byte, accessFlags := 25, slot := 49, constantValue := 0 }, { name := "DIRECTIONALITY_OTHER_NEUTRALS", type := .byte, accessFlags := 25, slot := 50, constantValue := 0 }, { name := "DIRECTIONALITY_LEFT_TO_RIGHT_EMBEDDING", type := .byte, accessFlags := 25, slot := 51, constantValue := 0 }, { name := "DIRECTIONALITY_LEFT_TO_RIGHT_OVERRIDE", type := .byte, accessFlags := 25, slot := 52, constantValue := 0 }, { name := "DIRECTIONALITY_RIGHT_TO_LEFT_EMBEDDING", type := .byte, accessFlags := 25, slot := 53, constantValue := 0 }, { name := "DIRECTIONALITY_RIGHT_TO_LEFT_OVERRIDE", type := .byte, accessFlags := 25, slot := 54, constantValue := 0 }, { name := "DIRECTIONALITY_POP_DIRECTIONAL_FORMAT", type := .byte, accessFlags := 25, slot := 55, constantValue := 0 }, { name := "DIRECTIONALITY_LEFT_TO_RIGHT_ISOLATE", type := .byte, accessFlags := 25, slot := 56, constantValue := 0 }, { name := "DIRECTIONALITY_RIGHT_TO_LEFT_ISOLATE", type := .byte, accessFlags := 25, slot := 57, constantValue := 0 }, { name := "DIRECTIONALITY_FIRST_STRONG_ISOLATE", type := .byte, accessFlags := 25, slot := 58, constantValue := 0 }, { name := "DIRECTIONALITY_POP_DIRECTIONAL_ISOLATE", type := .byte, accessFlags := 25, slot := 59, constantValue := 0 }, { name := "MIN_HIGH_SURROGATE", type := .char, accessFlags := 25, slot := 60, constantValue := 0 }, { name := "MAX_HIGH_SURROGATE", type := .char, accessFlags := 25, slot := 61, constantValue := 0 }, { name := "MIN_LOW_SURROGATE", type := .char, accessFlags := 25, slot := 62, constantValue := 0 }, { name := "MAX_LOW_SURROGATE", type := .char, accessFlags := 25, slot := 63, constantValue := 0 }, { name := "MIN_SURROGATE", type := .char, accessFlags := 25, slot := 64, constantValue := 0 }, { name := "MAX_SURROGATE", type := .char, accessFlags := 25, slot := 65, constantValue := 0 }, { name := "MIN_SUPPLEMENTARY_CODE_POINT", type := .int, accessFlags := 25, slot := 66, constantValue := 0 }, { name := "MIN_CODE_POINT", type := .int, accessFlags := 25, slot := 67, constantValue := 0 }, { name := "MAX_CODE_POINT", type := .int, accessFlags := 25, slot := 68, constantValue := 0 }, { name := "value", type := .char, accessFlags := 18, slot := 0, constantValue := 0 }, { name := "serialVersionUID", type := .long, accessFlags := 26, slot := 69, constantValue := 0 }, { name := "SIZE", type := .int, accessFlags := 25, slot := 70, constantValue := 0 }, { name := "BYTES", type := .int, accessFlags := 25, slot := 71, constantValue := 0 }, { name := "$assertionsDisabled", type := .boolean, accessFlags := 4120, slot := 72, constantValue := 0 }]
  methods := #[k11m0, k11m1, k11m2, k11m3]
  instanceTypes := #[.char]
  staticTypes := #[.int, .int, .char, .char, (.object "java/lang/Class"), .byte, .byte, .byte, .byte, .byte, .byte, .byte, .byte, .byte, .byte, .byte, .byte, .byte, .byte, .byte, .byte, .byte, .byte, .byte, .byte, .byte, .byte, .byte, .byte, .byte, .byte, .byte, .byte, .byte, .byte, .int, .byte, .byte, .byte, .byte, .byte, .byte, .byte, .byte, .byte, .byte, .byte, .byte, .byte, .byte, .byte, .byte, .byte, .byte, .byte, .byte, .byte, .byte, .byte, .byte, .char, .char, .char, .char, .char, .char, .int, .int, .int, .long, .int, .int, .boolean]
  resolved := Array.replicate 604 none
  statics := none }

def pool12 : Array CpInfo := pool [(1, .class_ 2), (0, u "java/lang/Appendable"), (0, .class_ 4), (0, u "java/lang/Object")] 9

/-- java/lang/Appendable -/
def k12 : Class := { plain "java/lang/Appendable" (some 0) with
  accessFlags := 1537
  interfaces := #[]
  cf := some (fileOf pool12 1 #[] #[] 1537 3 #[] #[])
  fields := #[]
  methods := #[]
  instanceTypes := #[]
  staticTypes := #[]
  resolved := Array.replicate 14 none
  statics := none }

def pool13 : Array CpInfo := pool [(1, .class_ 2), (0, u "java/lang/String"), (0, .methodref 4 5), (0, .class_ 6), (0, .nameAndType 7 8), (0, u "java/lang/Object"), (0, u "<init>"), (0, u "()V"), (1, .class_ 12), (1, u "java/lang/AbstractStringBuilder"), (0, u "EMPTYVALUE"), (0, u "[B"), (0, .fieldref 10 16), (0, .nameAndType 17 14), (0, u "value"), (0, .fieldref 1 19), (0, .nameAndType 20 21), (0, u "COMPACT_STRINGS"), (0, u "Z"), (0, .fieldref 10 23), (0, .nameAndType 24 25), (0, u "coder"), (0, u "B"), (0, .methodref 27 28), (0, .class_ 29), (0, .nameAndType 30 31), (0, u "java/lang/StringUTF16"), (0, u "newBytesFor"), (0, u "(I)[B"), (0, .methodref 1 33), (0, .nameAndType 34 35), (0, u "length"), (0, u "()I"), (3, .integer 2147483647), (0, .methodref 1 41), (0, .nameAndType 24 42), (0, u "()B"), (2, u "append"), (0, u "(Ljava/lang/String;)Ljava/lang/AbstractStringBuilder;"), (1, .class_ 49), (0, u "java/lang/CharSequence"), (19, u "(Ljava/lang/String;)V"), (5, u "maybeLatin1"), (3, .fieldref 10 80), (0, .nameAndType 81 82), (0, u "count"), (0, u "I"), (0, .methodref 10 84), (0, .nameAndType 85 86), (0, u "isLatin1"), (0, u "()Z"), (1, .class_ 90), (1, u "java/lang/StringLatin1"), (9, .methodref 10 101), (0, .nameAndType 102 103), (0, u "ensureCapacityInternal"), (0, u "(I)V"), (0, .methodref 10 105), (0, .nameAndType 106 107), (0, u "newCapacity"), (0, u "(I)I"), (0, .methodref 109 110), (0, .class_ 111), (0, .nameAndType 112 113), (0, u "java/util/Arrays"), (0, u "copyOf"), (0, u "([BI)[B"), (0, .methodref 115 116), (0, .class_ 117), (0, .nameAndType 118 119), (0, u "jdk/internal/util/ArraysSupport"), (0, u "newLength"), (0, u "(III)I"), (5, .methodref 88 126), (0, .nameAndType 127 128), (0, u "inflate"), (0, u "([BI[BII)V"), (7, u "([BII)V"), (54, .methodref 88 192), (0, .nameAndType 193 194), (0, u "canEncode"), (0, u "(C)Z"), (0, .methodref 10 196), (0, .nameAndType 127 8), (0, .methodref 27 198), (0, .nameAndType 199 136), (0, u "putCharSB"), (8, .methodref 10 209), (0, .nameAndType 210 211), (0, u "putStringAt"), (0, u "(ILjava/lang/String;)V"), (5, u "inflateIfNeededFor"), (2, .nameAndType 221 222), (0, u "getBytes"), (0, u "([BIB)V"), (69, u "(C)Ljava/lang/AbstractStringBuilder;"), (104, .methodref 10 398), (0, .nameAndType 217 69), (0, .methodref 1 220), (3, u "()[B"), (40, .class_ 445), (0, u "java/lang/Appendable"), (106, u "getValue")] 56

def k13m0 : Method := { name := "<init>", desc := "()V", sig := { parameters := [], returnType := none }, accessFlags := 0, code := none }
def k13c1 : Code := { maxStack := 2, maxLocals := 2, code := jdk_68_method_2_code, exceptionTable := #[], attributes := #[] }
def k13m1 : Method := { name := "<init>", desc := "(I)V", sig := { parameters := [.int], returnType := none }, accessFlags := 0, code := some k13c1 }
def k13c2 : Code := { maxStack := 1, maxLocals := 1, code := jdk_68_method_6_code, exceptionTable := #[], attributes := #[] }
def k13m2 : Method := { name := "length", desc := "()I", sig := { parameters := [], returnType := some .int }, accessFlags := 1, code := some k13c2 }
def k13c3 : Code := { maxStack := 4, maxLocals := 3, code := jdk_68_method_9_code, exceptionTable := #[], attributes := #[] }
def k13m3 : Method := { name := "ensureCapacityInternal", desc := "(I)V", sig := { parameters := [.int], returnType := none }, accessFlags := 2, code := some k13c3 }
def k13c4 : Code := { maxStack := 5, maxLocals := 6, code := jdk_68_method_10_code, exceptionTable := #[], attributes := #[] }
def k13m4 : Method := { name := "newCapacity", desc := "(I)I", sig := { parameters := [.int], returnType := some .int }, accessFlags := 2, code := some k13c4 }
def k13c5 : Code := { maxStack := 5, maxLocals := 2, code := jdk_68_method_11_code, exceptionTable := #[], attributes := #[] }
def k13m5 : Method := { name := "inflate", desc := "()V", sig := { parameters := [], returnType := none }, accessFlags := 2, code := some k13c5 }
def k13c6 : Code := { maxStack := 3, maxLocals := 3, code := jdk_68_method_22_code, exceptionTable := #[], attributes := #[] }
def k13m6 : Method := { name := "append", desc := "(Ljava/lang/String;)Ljava/lang/AbstractStringBuilder;", sig := { parameters := [(.object "java/lang/String")], returnType := some (.object "java/lang/AbstractStringBuilder") }, accessFlags := 1, code := some k13c6 }
def k13c7 : Code := { maxStack := 5, maxLocals := 2, code := jdk_68_method_31_code, exceptionTable := #[], attributes := #[] }
def k13m7 : Method := { name := "append", desc := "(C)Ljava/lang/AbstractStringBuilder;", sig := { parameters := [.char], returnType := some (.object "java/lang/AbstractStringBuilder") }, accessFlags := 1, code := some k13c7 }
def k13c8 : Code := { maxStack := 1, maxLocals := 1, code := jdk_68_method_64_code, exceptionTable := #[], attributes := #[] }
def k13m8 : Method := { name := "getValue", desc := "()[B", sig := { parameters := [], returnType := some (.array .byte) }, accessFlags := 16, code := some k13c8 }
def k13c9 : Code := { maxStack := 1, maxLocals := 1, code := jdk_68_method_68_code, exceptionTable := #[], attributes := #[] }
def k13m9 : Method := { name := "isLatin1", desc := "()Z", sig := { parameters := [], returnType := some .boolean }, accessFlags := 16, code := some k13c9 }
def k13c10 : Code := { maxStack := 2, maxLocals := 2, code := jdk_68_method_71_code, exceptionTable := #[], attributes := #[] }
def k13m10 : Method := { name := "inflateIfNeededFor", desc := "(Ljava/lang/String;)V", sig := { parameters := [(.object "java/lang/String")], returnType := none }, accessFlags := 2, code := some k13c10 }
def k13c11 : Code := { maxStack := 4, maxLocals := 3, code := jdk_68_method_73_code, exceptionTable := #[], attributes := #[] }
def k13m11 : Method := { name := "putStringAt", desc := "(ILjava/lang/String;)V", sig := { parameters := [.int, (.object "java/lang/String")], returnType := none }, accessFlags := 2, code := some k13c11 }
/-- java/lang/AbstractStringBuilder -/
def k13 : Class := { plain "java/lang/AbstractStringBuilder" (some 0) with
  accessFlags := 1056
  interfaces := #[12, 4]
  cf := some (fileOf pool13 10 #[] #[{ accessFlags := 0, nameIndex := 7, descriptorIndex := 8, attributes := #[] }, { accessFlags := 0, nameIndex := 7, descriptorIndex := 103, attributes := #[] }, { accessFlags := 1, nameIndex := 34, descriptorIndex := 35, attributes := #[] }, { accessFlags := 2, nameIndex := 102, descriptorIndex := 103, attributes := #[] }, { accessFlags := 2, nameIndex := 106, descriptorIndex := 107, attributes := #[] }, { accessFlags := 2, nameIndex := 127, descriptorIndex := 8, attributes := #[] }, { accessFlags := 1, nameIndex := 45, descriptorIndex := 46, attributes := #[] }, { accessFlags := 1, nameIndex := 45, descriptorIndex := 292, attributes := #[] }, { accessFlags := 16, nameIndex := 552, descriptorIndex := 403, attributes := #[] }, { accessFlags := 16, nameIndex := 85, descriptorIndex := 86, attributes := #[] }, { accessFlags := 2, nameIndex := 217, descriptorIndex := 69, attributes := #[] }, { accessFlags := 2, nameIndex := 210, descriptorIndex := 211, attributes := #[] }] 1056 4 #[444, 48] #[{ accessFlags := 0, nameIndex := 17, descriptorIndex := 14, attributes := #[] }, { accessFlags := 0, nameIndex := 24, descriptorIndex := 25, attributes := #[] }, { accessFlags := 0, nameIndex := 75, descriptorIndex := 21, attributes := #[] }, { accessFlags := 0, nameIndex := 81, descriptorIndex := 82, attributes := #[] }, { accessFlags := 26, nameIndex := 13, descriptorIndex := 14, attributes := #[] }])
  fields := #[{ name := "value", type := (.array .byte), accessFlags := 0, slot := 0, constantValue := 0 }, { name := "coder", type := .byte, accessFlags := 0, slot := 1, constantValue := 0 }, { name := "maybeLatin1", type := .boolean, accessFlags := 0, slot := 2, constantValue := 0 }, { name := "count", type := .int, accessFlags := 0, slot := 3, constantValue := 0 }, { name := "EMPTYVALUE", type := (.array .byte), accessFlags := 26, slot := 0, constantValue := 0 }]
  methods := #[k13m0, k13m1, k13m2, k13m3, k13m4, k13m5, k13m6, k13m7, k13m8, k13m9, k13m10, k13m11]
  instanceTypes := #[(.array .byte), .byte, .boolean, .int]
  staticTypes := #[(.array .byte)]
  resolved := Array.replicate 609 none
  statics := none }

def pool14 : Array CpInfo := pool [(1, .methodref 2 3), (0, .class_ 4), (0, .nameAndType 5 6), (0, u "java/lang/AbstractStringBuilder"), (0, u "<init>"), (0, u "(I)V"), (11, .class_ 20), (1, u "java/lang/String"), (3, .class_ 26), (1, u "java/lang/StringBuilder"), (0, u "append"), (0, u "(Ljava/lang/String;)Ljava/lang/StringBuilder;"), (0, .methodref 2 30), (0, .nameAndType 27 31), (0, u "(Ljava/lang/String;)Ljava/lang/AbstractStringBuilder;"), (18, .methodref 2 51), (0, .nameAndType 27 52), (0, u "(C)Ljava/lang/AbstractStringBuilder;"), (84, .methodref 18 138), (0, .nameAndType 5 139), (0, u "(Ljava/lang/StringBuilder;)V"), (5, u "()V"), (10, u "()I"), (129, u "(C)Ljava/lang/StringBuilder;"), (56, .methodref 2 344), (0, .nameAndType 345 156), (0, u "length"), (3, .class_ 350), (0, u "java/lang/Appendable"), (0, .class_ 352), (0, u "java/io/Serializable"), (0, .class_ 354), (0, u "java/lang/Comparable"), (0, .class_ 356), (0, u "java/lang/CharSequence"), (0, u "serialVersionUID"), (0, u "J"), (40, u "toString"), (0, u "()Ljava/lang/String;")] 21

def k14c0 : Code := { maxStack := 2, maxLocals := 1, code := jdk_67_method_1_code, exceptionTable := #[], attributes := #[] }
def k14m0 : Method := { name := "<init>", desc := "()V", sig := { parameters := [], returnType := none }, accessFlags := 1, code := some k14c0 }
def k14c1 : Code := { maxStack := 2, maxLocals := 2, code := jdk_67_method_7_code, exceptionTable := #[], attributes := #[] }
def k14m1 : Method := { name := "append", desc := "(Ljava/lang/String;)Ljava/lang/StringBuilder;", sig := { parameters := [(.object "java/lang/String")], returnType := some (.object "java/lang/StringBuilder") }, accessFlags := 1, code := some k14c1 }
def k14c2 : Code := { maxStack := 2, maxLocals := 2, code := jdk_67_method_14_code, exceptionTable := #[], attributes := #[] }
def k14m2 : Method := { name := "append", desc := "(C)Ljava/lang/StringBuilder;", sig := { parameters := [.char], returnType := some (.object "java/lang/StringBuilder") }, accessFlags := 1, code := some k14c2 }
def k14c3 : Code := { maxStack := 3, maxLocals := 1, code := jdk_67_method_42_code, exceptionTable := #[], attributes := #[] }
def k14m3 : Method := { name := "toString", desc := "()Ljava/lang/String;", sig := { parameters := [], returnType := some (.object "java/lang/String") }, accessFlags := 1, code := some k14c3 }
def k14c4 : Code := { maxStack := 1, maxLocals := 1, code := jdk_67_method_93_code, exceptionTable := #[], attributes := #[] }
def k14m4 : Method := { name := "length", desc := "()I", sig := { parameters := [], returnType := some .int }, accessFlags := 4161, code := some k14c4 }
/-- java/lang/StringBuilder -/
def k14 : Class := { plain "java/lang/StringBuilder" (some 13) with
  accessFlags := 49
  interfaces := #[12, 2, 3, 4]
  cf := some (fileOf pool14 24 #[] #[{ accessFlags := 1, nameIndex := 5, descriptorIndex := 145, attributes := #[] }, { accessFlags := 1, nameIndex := 27, descriptorIndex := 28, attributes := #[] }, { accessFlags := 1, nameIndex := 27, descriptorIndex := 286, attributes := #[] }, { accessFlags := 1, nameIndex := 399, descriptorIndex := 400, attributes := #[] }, { accessFlags := 4161, nameIndex := 345, descriptorIndex := 156, attributes := #[] }] 49 2 #[349, 351, 353, 355] #[{ accessFlags := 24, nameIndex := 357, descriptorIndex := 358, attributes := #[] }])
  fields := #[{ name := "serialVersionUID", type := .long, accessFlags := 24, slot := 0, constantValue := 0 }]
  methods := #[k14m0, k14m1, k14m2, k14m3, k14m4]
  instanceTypes := #[(.array .byte), .byte, .boolean, .int]
  staticTypes := #[.long]
  resolved := Array.replicate 422 none
  statics := none }

def pool15 : Array CpInfo := pool [(2, .class_ 4), (1, u "java/lang/Object"), (0, u "<init>"), (0, u "()V"), (1, .class_ 10), (1, u "java/lang/System"), (0, u "allowSecurityManager"), (0, u "I"), (16, u "cons"), (0, u "Ljava/io/Console;"), (77, .class_ 110), (1, u "java/lang/System$CallersHolder"), (43, u "initialErrStream"), (0, u "Ljava/io/PrintStream;"), (19, u "security"), (0, u "Ljava/lang/SecurityManager;"), (31, .class_ 209), (0, u "java/lang/System$1"), (7, u "props"), (0, u "Ljava/util/Properties;"), (2, u "lineSeparator"), (0, u "Ljava/lang/String;"), (96, .class_ 321), (1, u "java/lang/System$LoggerFinder"), (5, .class_ 328), (0, u "java/lang/System$Logger"), (67, u "err"), (2, u "out"), (91, u "notSupportedJnuEncoding"), (15, u "in"), (17, u "initialIn"), (0, u "Ljava/io/InputStream;"), (35, u "bootLayer"), (0, u "Ljava/lang/ModuleLayer;"), (99, .class_ 664), (0, u "java/lang/System$2"), (9, u "NEVER"), (2, u "MAYBE"), (49, u "arraycopy"), (0, u "(Ljava/lang/Object;ILjava/lang/Object;II)V"), (72, .class_ 802), (0, u "java/lang/System$Logger$Level")] 31

def k15m0 : Method := { name := "<init>", desc := "()V", sig := { parameters := [], returnType := none }, accessFlags := 2, code := none }
def k15m1 : Method := { name := "arraycopy", desc := "(Ljava/lang/Object;ILjava/lang/Object;II)V", sig := { parameters := [(.object "java/lang/Object"), .int, (.object "java/lang/Object"), .int, .int], returnType := none }, accessFlags := 265, code := none }
/-- java/lang/System -/
def k15 : Class := { plain "java/lang/System" (some 0) with
  accessFlags := 49
  interfaces := #[]
  cf := some (fileOf pool15 8 #[.nestMembers #[319, 327, 801, 108, 663, 208]] #[{ accessFlags := 2, nameIndex := 5, descriptorIndex := 6, attributes := #[] }, { accessFlags := 265, nameIndex := 727, descriptorIndex := 728, attributes := #[] }] 49 2 #[] #[{ accessFlags := 25, nameIndex := 507, descriptorIndex := 526, attributes := #[] }, { accessFlags := 25, nameIndex := 399, descriptorIndex := 155, attributes := #[] }, { accessFlags := 25, nameIndex := 396, descriptorIndex := 155, attributes := #[] }, { accessFlags := 10, nameIndex := 525, descriptorIndex := 526, attributes := #[] }, { accessFlags := 26, nameIndex := 674, descriptorIndex := 12, attributes := #[] }, { accessFlags := 26, nameIndex := 677, descriptorIndex := 12, attributes := #[] }, { accessFlags := 10, nameIndex := 11, descriptorIndex := 12, attributes := #[] }, { accessFlags := 74, nameIndex := 175, descriptorIndex := 176, attributes := #[] }, { accessFlags := 10, nameIndex := 491, descriptorIndex := 222, attributes := #[] }, { accessFlags := 74, nameIndex := 29, descriptorIndex := 30, attributes := #[] }, { accessFlags := 74, nameIndex := 154, descriptorIndex := 155, attributes := #[] }, { accessFlags := 10, nameIndex := 217, descriptorIndex := 218, attributes := #[] }, { accessFlags := 10, nameIndex := 221, descriptorIndex := 222, attributes := #[] }, { accessFlags := 8, nameIndex := 562, descriptorIndex := 563, attributes := #[] }])
  fields := #[{ name := "in", type := (.object "java/io/InputStream"), accessFlags := 25, slot := 0, constantValue := 0 }, { name := "out", type := (.object "java/io/PrintStream"), accessFlags := 25, slot := 1, constantValue := 0 }, { name := "err", type := (.object "java/io/PrintStream"), accessFlags := 25, slot := 2, constantValue := 0 }, { name := "initialIn", type := (.object "java/io/InputStream"), accessFlags := 10, slot := 3, constantValue := 0 }, { name := "NEVER", type := .int, accessFlags := 26, slot := 4, constantValue := 0 }, { name := "MAYBE", type := .int, accessFlags := 26, slot := 5, constantValue := 0 }, { name := "allowSecurityManager", type := .int, accessFlags := 10, slot := 6, constantValue := 0 }, { name := "security", type := (.object "java/lang/SecurityManager"), accessFlags := 74, slot := 7, constantValue := 0 }, { name := "notSupportedJnuEncoding", type := (.object "java/lang/String"), accessFlags := 10, slot := 8, constantValue := 0 }, { name := "cons", type := (.object "java/io/Console"), accessFlags := 74, slot := 9, constantValue := 0 }, { name := "initialErrStream", type := (.object "java/io/PrintStream"), accessFlags := 74, slot := 10, constantValue := 0 }, { name := "props", type := (.object "java/util/Properties"), accessFlags := 10, slot := 11, constantValue := 0 }, { name := "lineSeparator", type := (.object "java/lang/String"), accessFlags := 10, slot := 12, constantValue := 0 }, { name := "bootLayer", type := (.object "java/lang/ModuleLayer"), accessFlags := 8, slot := 13, constantValue := 0 }]
  methods := #[k15m0, k15m1]
  instanceTypes := #[]
  staticTypes := #[(.object "java/io/InputStream"), (.object "java/io/PrintStream"), (.object "java/io/PrintStream"), (.object "java/io/InputStream"), .int, .int, .int, (.object "java/lang/SecurityManager"), (.object "java/lang/String"), (.object "java/io/Console"), (.object "java/io/PrintStream"), (.object "java/util/Properties"), (.object "java/lang/String"), (.object "java/lang/ModuleLayer")]
  resolved := Array.replicate 834 none
  statics := none }

def pool16 : Array CpInfo := pool [(4, .class_ 6), (1, u "java/lang/Object"), (0, u "<init>"), (0, u "()V"), (5, .class_ 16), (1, u "java/lang/StringLatin1"), (0, u "inflate"), (2, .class_ 22), (1, u "java/lang/StringUTF16"), (3, .nameAndType 17 27), (0, u "([BI[BII)V"), (62, u "canEncode"), (14, u "(C)Z"), (15, u "$assertionsDisabled"), (0, u "Z"), (98, .class_ 223), (1, u "java/lang/StringLatin1$LinesSpliterator"), (16, .methodref 20 26), (40, u "equals"), (0, u "([B[B)Z"), (107, .class_ 391), (0, u "java/lang/StringLatin1$CharsSpliterator")] 3

def k16m0 : Method := { name := "<init>", desc := "()V", sig := { parameters := [], returnType := none }, accessFlags := 0, code := none }
def k16c1 : Code := { maxStack := 2, maxLocals := 1, code := jdk_43_method_3_code, exceptionTable := #[], attributes := #[] }
def k16m1 : Method := { name := "canEncode", desc := "(C)Z", sig := { parameters := [.char], returnType := some .boolean }, accessFlags := 9, code := some k16c1 }
def k16c2 : Code := { maxStack := 3, maxLocals := 3, code := jdk_43_method_13_code, exceptionTable := #[], attributes := #[] }
def k16m2 : Method := { name := "equals", desc := "([B[B)Z", sig := { parameters := [(.array .byte), (.array .byte)], returnType := some .boolean }, accessFlags := 9, code := some k16c2 }
def k16c3 : Code := { maxStack := 5, maxLocals := 5, code := jdk_43_method_50_code, exceptionTable := #[], attributes := #[] }
def k16m3 : Method := { name := "inflate", desc := "([BI[BII)V", sig := { parameters := [(.array .byte), .int, (.array .byte), .int, .int], returnType := none }, accessFlags := 9, code := some k16c3 }
/-- java/lang/StringLatin1 -/
def k16 : Class := { plain "java/lang/StringLatin1" (some 0) with
  accessFlags := 48
  interfaces := #[]
  cf := some (fileOf pool16 14 #[.nestMembers #[390, 221]] #[{ accessFlags := 0, nameIndex := 7, descriptorIndex := 8, attributes := #[] }, { accessFlags := 9, nameIndex := 90, descriptorIndex := 105, attributes := #[] }, { accessFlags := 9, nameIndex := 281, descriptorIndex := 282, attributes := #[] }, { accessFlags := 9, nameIndex := 17, descriptorIndex := 27, attributes := #[] }] 48 4 #[] #[{ accessFlags := 4120, nameIndex := 121, descriptorIndex := 122, attributes := #[] }])
  fields := #[{ name := "$assertionsDisabled", type := .boolean, accessFlags := 4120, slot := 0, constantValue := 0 }]
  methods := #[k16m0, k16m1, k16m2, k16m3]
  instanceTypes := #[]
  staticTypes := #[.boolean]
  resolved := Array.replicate 395 none
  statics := none }

def pool17 : Array CpInfo := pool [(2, .class_ 4), (1, u "java/lang/Object"), (0, u "<init>"), (0, u "()V"), (7, .class_ 16), (1, u "java/util/Arrays"), (57, .class_ 76), (1, u "java/util/Arrays$NaturalOrder"), (32, u "()Ljava/lang/Object;"), (3, .class_ 115), (1, u "java/util/Arrays$LegacyMergeSort"), (1, u "Z"), (10, .nameAndType 129 109), (0, u "clone"), (9, u "copyOfRange"), (10, .methodref 151 152), (0, .class_ 153), (0, .nameAndType 154 155), (0, u "java/lang/System"), (0, u "arraycopy"), (0, u "(Ljava/lang/Object;ILjava/lang/Object;II)V"), (146, u "copyOf"), (1, .methodref 305 306), (0, .class_ 307), (0, .nameAndType 308 309), (0, u "java/lang/Math"), (0, u "min"), (0, u "(II)I"), (0, .methodref 311 128), (0, .class_ 312), (0, u "[B"), (26, .methodref 14 340), (0, .nameAndType 341 342), (0, u "copyOfRangeByte"), (0, u "([BII)[B"), (0, .methodref 14 344), (0, .nameAndType 345 346), (0, u "checkLength"), (0, u "(II)V"), (28, .class_ 376), (0, u "java/util/Arrays$ArrayList"), (68, u "$assertionsDisabled"), (269, u "MIN_ARRAY_SORT_GRAN"), (0, u "I"), (2, u "INSERTIONSORT_THRESHOLD"), (149, u "([BI)[B"), (105, .class_ 976), (0, u "java/util/Arrays$ArrayItr")] 52

def k17m0 : Method := { name := "<init>", desc := "()V", sig := { parameters := [], returnType := none }, accessFlags := 2, code := none }
def k17c1 : Code := { maxStack := 6, maxLocals := 3, code := jdk_65_method_121_code, exceptionTable := #[], attributes := #[] }
def k17m1 : Method := { name := "copyOf", desc := "([BI)[B", sig := { parameters := [(.array .byte), .int], returnType := some (.array .byte) }, accessFlags := 9, code := some k17c1 }
def k17c2 : Code := { maxStack := 4, maxLocals := 2, code := jdk_65_method_131_code, exceptionTable := #[], attributes := #[] }
def k17m2 : Method := { name := "checkLength", desc := "(II)V", sig := { parameters := [.int, .int], returnType := none }, accessFlags := 10, code := some k17c2 }
def k17c3 : Code := { maxStack := 3, maxLocals := 3, code := jdk_65_method_132_code, exceptionTable := #[], attributes := #[] }
def k17m3 : Method := { name := "copyOfRange", desc := "([BII)[B", sig := { parameters := [(.array .byte), .int, .int], returnType := some (.array .byte) }, accessFlags := 9, code := some k17c3 }
def k17c4 : Code := { maxStack := 6, maxLocals := 5, code := jdk_65_method_133_code, exceptionTable := #[], attributes := #[] }
def k17m4 : Method := { name := "copyOfRangeByte", desc := "([BII)[B", sig := { parameters := [(.array .byte), .int, .int], returnType := some (.array .byte) }, accessFlags := 10, code := some k17c4 }
/-- java/util/Arrays -/
def k17 : Class := { plain "java/util/Arrays" (some 0) with
  accessFlags := 49
  interfaces := #[]
  cf := some (fileOf pool17 14 #[.nestMembers #[975, 375, 113, 74]] #[{ accessFlags := 2, nameIndex := 5, descriptorIndex := 6, attributes := #[] }, { accessFlags := 9, nameIndex := 302, descriptorIndex := 869, attributes := #[] }, { accessFlags := 10, nameIndex := 345, descriptorIndex := 346, attributes := #[] }, { accessFlags := 9, nameIndex := 139, descriptorIndex := 342, attributes := #[] }, { accessFlags := 10, nameIndex := 341, descriptorIndex := 342, attributes := #[] }] 49 2 #[] #[{ accessFlags := 26, nameIndex := 715, descriptorIndex := 716, attributes := #[] }, { accessFlags := 26, nameIndex := 719, descriptorIndex := 716, attributes := #[] }, { accessFlags := 4120, nameIndex := 445, descriptorIndex := 117, attributes := #[] }])
  fields := #[{ name := "MIN_ARRAY_SORT_GRAN", type := .int, accessFlags := 26, slot := 0, constantValue := 0 }, { name := "INSERTIONSORT_THRESHOLD", type := .int, accessFlags := 26, slot := 1, constantValue := 0 }, { name := "$assertionsDisabled", type := .boolean, accessFlags := 4120, slot := 2, constantValue := 0 }]
  methods := #[k17m0, k17m1, k17m2, k17m3, k17m4]
  instanceTypes := #[]
  staticTypes := #[.int, .int, .boolean]
  resolved := Array.replicate 1029 none
  statics := none }

def pool18 : Array CpInfo := pool [(1, .class_ 2), (0, u "java/lang/Math"), (1, .class_ 6), (1, u "java/lang/Object"), (0, u "<init>"), (0, u "()V"), (89, .class_ 100), (1, u "java/lang/Math$RandomNumberGeneratorHolder"), (71, u "negativeZeroFloatBits"), (0, u "J"), (2, u "negativeZeroDoubleBits"), (21, u "max"), (2, u "min"), (43, u "$assertionsDisabled"), (0, u "Z"), (88, u "(II)I"), (2, u "twoToTheDoubleScaleDown"), (0, u "D"), (4, u "twoToTheDoubleScaleUp"), (9, u "E"), (3, u "PI"), (2, u "TAU"), (2, u "DEGREES_TO_RADIANS"), (0, u "RADIANS_TO_DEGREES")] 94

def k18m0 : Method := { name := "<init>", desc := "()V", sig := { parameters := [], returnType := none }, accessFlags := 2, code := none }
def k18c1 : Code := { maxStack := 2, maxLocals := 2, code := jdk_29_method_65_code, exceptionTable := #[], attributes := #[] }
def k18m1 : Method := { name := "max", desc := "(II)I", sig := { parameters := [.int, .int], returnType := some .int }, accessFlags := 9, code := some k18c1 }
def k18c2 : Code := { maxStack := 2, maxLocals := 2, code := jdk_29_method_69_code, exceptionTable := #[], attributes := #[] }
def k18m2 : Method := { name := "min", desc := "(II)I", sig := { parameters := [.int, .int], returnType := some .int }, accessFlags := 9, code := some k18c2 }
/-- java/lang/Math -/
def k18 : Class := { plain "java/lang/Math" (some 0) with
  accessFlags := 49
  interfaces := #[]
  cf := some (fileOf pool18 1 #[.nestMembers #[98]] #[{ accessFlags := 2, nameIndex := 7, descriptorIndex := 8, attributes := #[] }, { accessFlags := 9, nameIndex := 198, descriptorIndex := 335, attributes := #[] }, { accessFlags := 9, nameIndex := 201, descriptorIndex := 335, attributes := #[] }] 49 4 #[] #[{ accessFlags := 25, nameIndex := 354, descriptorIndex := 339, attributes := #[] }, { accessFlags := 25, nameIndex := 358, descriptorIndex := 339, attributes := #[] }, { accessFlags := 25, nameIndex := 361, descriptorIndex := 339, attributes := #[] }, { accessFlags := 26, nameIndex := 364, descriptorIndex := 339, attributes := #[] }, { accessFlags := 26, nameIndex := 365, descriptorIndex := 339, attributes := #[] }, { accessFlags := 26, nameIndex := 172, descriptorIndex := 173, attributes := #[] }, { accessFlags := 26, nameIndex := 176, descriptorIndex := 173, attributes := #[] }, { accessFlags := 8, nameIndex := 344, descriptorIndex := 339, attributes := #[] }, { accessFlags := 8, nameIndex := 338, descriptorIndex := 339, attributes := #[] }, { accessFlags := 4120, nameIndex := 245, descriptorIndex := 246, attributes := #[] }])
  fields := #[{ name := "E", type := .double, accessFlags := 25, slot := 0, constantValue := 0 }, { name := "PI", type := .double, accessFlags := 25, slot := 1, constantValue := 0 }, { name := "TAU", type := .double, accessFlags := 25, slot := 2, constantValue := 0 }, { name := "DEGREES_TO_RADIANS", type := .double, accessFlags := 26, slot := 3, constantValue := 0 }, { name := "RADIANS_TO_DEGREES", type := .double, accessFlags := 26, slot := 4, constantValue := 0 }, { name := "negativeZeroFloatBits", type := .long, accessFlags := 26, slot := 5, constantValue := 0 }, { name := "negativeZeroDoubleBits", type := .long, accessFlags := 26, slot := 6, constantValue := 0 }, { name := "twoToTheDoubleScaleUp", type := .double, accessFlags := 8, slot := 7, constantValue := 0 }, { name := "twoToTheDoubleScaleDown", type := .double, accessFlags := 8, slot := 8, constantValue := 0 }, { name := "$assertionsDisabled", type := .boolean, accessFlags := 4120, slot := 9, constantValue := 0 }]
  methods := #[k18m0, k18m1, k18m2]
  instanceTypes := #[]
  staticTypes := #[.double, .double, .double, .double, .double, .long, .long, .double, .double, .boolean]
  resolved := Array.replicate 460 none
  statics := none }

def pool19 : Array CpInfo := pool [(1, .class_ 2), (0, u "java/lang/Cloneable"), (0, .class_ 4), (0, u "java/lang/Object")] 2

/-- java/lang/Cloneable -/
def k19 : Class := { plain "java/lang/Cloneable" (some 0) with
  accessFlags := 1537
  interfaces := #[]
  cf := some (fileOf pool19 1 #[] #[] 1537 3 #[] #[])
  fields := #[]
  methods := #[]
  instanceTypes := #[]
  staticTypes := #[]
  resolved := Array.replicate 7 none
  statics := none }

def pool20 : Array CpInfo := pool [(9, u "<init>"), (6, .class_ 18), (1, u "java/lang/Object"), (0, u "()V"), (1, .class_ 23), (1, u "jdk/internal/util/ArraysSupport"), (0, u "LOG2_ARRAY_LONG_INDEX_SCALE"), (0, u "I"), (2, u "U"), (0, u "Ljdk/internal/misc/Unsafe;"), (8, u "BIG_ENDIAN"), (0, u "Z"), (8, u "LOG2_BYTE_BIT_SIZE"), (4, u "LOG2_ARRAY_INT_INDEX_SCALE"), (54, u "JLA"), (0, u "Ljdk/internal/access/JavaLangAccess;"), (11, u "LOG2_ARRAY_BOOLEAN_INDEX_SCALE"), (9, u "LOG2_ARRAY_BYTE_INDEX_SCALE"), (5, u "LOG2_ARRAY_CHAR_INDEX_SCALE"), (5, u "LOG2_ARRAY_SHORT_INDEX_SCALE"), (18, u "LOG2_ARRAY_FLOAT_INDEX_SCALE"), (24, u "LOG2_ARRAY_DOUBLE_INDEX_SCALE"), (6, .methodref 195 196), (0, .class_ 197), (0, .nameAndType 198 199), (0, u "java/lang/Math"), (0, u "max"), (0, u "(II)I"), (0, .integer 2147483639), (76, u "T_BOOLEAN"), (2, u "T_CHAR"), (1, u "T_FLOAT"), (1, u "T_DOUBLE"), (1, u "T_BYTE"), (1, u "T_SHORT"), (1, u "T_INT"), (1, u "T_LONG"), (1, u "SOFT_MAX_ARRAY_LENGTH"), (56, u "newLength"), (0, u "(III)I")] 25

def k20m0 : Method := { name := "<init>", desc := "()V", sig := { parameters := [], returnType := none }, accessFlags := 2, code := none }
def k20c1 : Code := { maxStack := 3, maxLocals := 4, code := jdk_48_method_27_code, exceptionTable := #[], attributes := #[] }
def k20m1 : Method := { name := "newLength", desc := "(III)I", sig := { parameters := [.int, .int, .int], returnType := some .int }, accessFlags := 9, code := some k20c1 }
/-- jdk/internal/util/ArraysSupport -/
def k20 : Class := { plain "jdk/internal/util/ArraysSupport" (some 0) with
  accessFlags := 33
  interfaces := #[]
  cf := some (fileOf pool20 21 #[] #[{ accessFlags := 2, nameIndex := 9, descriptorIndex := 19, attributes := #[] }, { accessFlags := 9, nameIndex := 351, descriptorIndex := 352, attributes := #[] }] 33 16 #[] #[{ accessFlags := 24, nameIndex := 28, descriptorIndex := 29, attributes := #[] }, { accessFlags := 26, nameIndex := 38, descriptorIndex := 39, attributes := #[] }, { accessFlags := 25, nameIndex := 121, descriptorIndex := 25, attributes := #[] }, { accessFlags := 25, nameIndex := 131, descriptorIndex := 25, attributes := #[] }, { accessFlags := 25, nameIndex := 137, descriptorIndex := 25, attributes := #[] }, { accessFlags := 25, nameIndex := 143, descriptorIndex := 25, attributes := #[] }, { accessFlags := 25, nameIndex := 53, descriptorIndex := 25, attributes := #[] }, { accessFlags := 25, nameIndex := 24, descriptorIndex := 25, attributes := #[] }, { accessFlags := 25, nameIndex := 162, descriptorIndex := 25, attributes := #[] }, { accessFlags := 25, nameIndex := 187, descriptorIndex := 25, attributes := #[] }, { accessFlags := 26, nameIndex := 48, descriptorIndex := 25, attributes := #[] }, { accessFlags := 25, nameIndex := 277, descriptorIndex := 25, attributes := #[] }, { accessFlags := 25, nameIndex := 280, descriptorIndex := 25, attributes := #[] }, { accessFlags := 25, nameIndex := 282, descriptorIndex := 25, attributes := #[] }, { accessFlags := 25, nameIndex := 284, descriptorIndex := 25, attributes := #[] }, { accessFlags := 25, nameIndex := 286, descriptorIndex := 25, attributes := #[] }, { accessFlags := 25, nameIndex := 288, descriptorIndex := 25, attributes := #[] }, { accessFlags := 25, nameIndex := 290, descriptorIndex := 25, attributes := #[] }, { accessFlags := 25, nameIndex := 292, descriptorIndex := 25, attributes := #[] }, { accessFlags := 26, nameIndex := 108, descriptorIndex := 109, attributes := #[] }, { accessFlags := 25, nameIndex := 294, descriptorIndex := 25, attributes := #[] }])
  fields := #[{ name := "U", type := (.object "jdk/internal/misc/Unsafe"), accessFlags := 24, slot := 0, constantValue := 0 }, { name := "BIG_ENDIAN", type := .boolean, accessFlags := 26, slot := 1, constantValue := 0 }, { name := "LOG2_ARRAY_BOOLEAN_INDEX_SCALE", type := .int, accessFlags := 25, slot := 2, constantValue := 0 }, { name := "LOG2_ARRAY_BYTE_INDEX_SCALE", type := .int, accessFlags := 25, slot := 3, constantValue := 0 }, { name := "LOG2_ARRAY_CHAR_INDEX_SCALE", type := .int, accessFlags := 25, slot := 4, constantValue := 0 }, { name := "LOG2_ARRAY_SHORT_INDEX_SCALE", type := .int, accessFlags := 25, slot := 5, constantValue := 0 }, { name := "LOG2_ARRAY_INT_INDEX_SCALE", type := .int, accessFlags := 25, slot := 6, constantValue := 0 }, { name := "LOG2_ARRAY_LONG_INDEX_SCALE", type := .int, accessFlags := 25, slot := 7, constantValue := 0 }, { name := "LOG2_ARRAY_FLOAT_INDEX_SCALE", type := .int, accessFlags := 25, slot := 8, constantValue := 0 }, { name := "LOG2_ARRAY_DOUBLE_INDEX_SCALE", type := .int, accessFlags := 25, slot := 9, constantValue := 0 }, { name := "LOG2_BYTE_BIT_SIZE", type := .int, accessFlags := 26, slot := 10, constantValue := 0 }, { name := "T_BOOLEAN", type := .int, accessFlags := 25, slot := 11, constantValue := 0 }, { name := "T_CHAR", type := .int, accessFlags := 25, slot := 12, constantValue := 0 }, { name := "T_FLOAT", type := .int, accessFlags := 25, slot := 13, constantValue := 0 }, { name := "T_DOUBLE", type := .int, accessFlags := 25, slot := 14, constantValue := 0 }, { name := "T_BYTE", type := .int, accessFlags := 25, slot := 15, constantValue := 0 }, { name := "T_SHORT", type := .int, accessFlags := 25, slot := 16, constantValue := 0 }, { name := "T_INT", type := .int, accessFlags := 25, slot := 17, constantValue := 0 }, { name := "T_LONG", type := .int, accessFlags := 25, slot := 18, constantValue := 0 }, { name := "JLA", type := (.object "jdk/internal/access/JavaLangAccess"), accessFlags := 26, slot := 19, constantValue := 0 }, { name := "SOFT_MAX_ARRAY_LENGTH", type := .int, accessFlags := 25, slot := 20, constantValue := 0 }]
  methods := #[k20m0, k20m1]
  instanceTypes := #[]
  staticTypes := #[(.object "jdk/internal/misc/Unsafe"), .boolean, .int, .int, .int, .int, .int, .int, .int, .int, .int, .int, .int, .int, .int, .int, .int, .int, .int, (.object "jdk/internal/access/JavaLangAccess"), .int]
  resolved := Array.replicate 378 none
  statics := none }

/-- the primitive byte -/
def k21 : Class := { plain "byte" none with kind := .primitive 'B', accessFlags := 0x411 }
/-- [B -/
def k22 : Class := { plain "[B" (some 0) with kind := .array 21 .byte, interfaces := #[19, 2], accessFlags := 1041 }

/-- the primitive char -/
def k23 : Class := { plain "char" none with kind := .primitive 'C', accessFlags := 0x411 }
/-- [C -/
def k24 : Class := { plain "[C" (some 0) with kind := .array 23 .char, interfaces := #[19, 2], accessFlags := 1041 }

/-- the primitive int -/
def k25 : Class := { plain "int" none with kind := .primitive 'I', accessFlags := 0x411 }
/-- [I -/
def k26 : Class := { plain "[I" (some 0) with kind := .array 25 .int, interfaces := #[19, 2], accessFlags := 1041 }

def heap : Heap := #[{ cls := 7, slots := #[.long 0, .int 1, .null, .int 0, .null, .int 0, .int 0], vm := .statics 7 },
  { cls := 8, slots := #[.int 0, .int 8, .int 0, .int 1], vm := .statics 8 },
  { cls := 10, slots := #[.null, .null, .null], vm := .statics 10 }]
def classes : Array Class := #[k0, k1, k2, k3, k4, k5, k6, k7, k8, k9, k10, k11, k12, k13, k14, k15, k16, k17, k18, k19, k20, k21, k22, k23, k24, k25, k26]
def interned : List (Array UInt16 × Addr) := []
def slotsUsed : Nat := 14
def theMethod : MethodId := ⟨1, 6⟩
def args0 : Array Value := #[.int 5, .int 5, .int 97, .int 98, .int 66666]
def aboutOver (below : List Frame) : State where
  vm := { classes := classes, interned := interned.toArray }
  heap := heap
  slotsUsed := slotsUsed
  threads := #[{ frames := .invoking theMethod args0 :: below }]
def below0 : List Frame := [.native { method := ⟨0, 0⟩, args := #[] }]
def about1 : State := aboutOver below0
def p0 : Program := .bare "" "" ""
def e0 : Env := launch0.env 0 0 0
theorem w_frames : about1.frames = Frame.invoking theMethod args0 :: below0 := rfl
set_option maxRecDepth 65536 in
theorem w_args : argsFit about1.vm theMethod args0 = true := by decide +kernel
set_option maxRecDepth 65536 in
theorem w_heap : heapFits about1 = true := by decide +kernel
set_option maxRecDepth 65536 in
theorem w_runnable : about1.curStatus? = some .runnable := by decide +kernel
set_option maxRecDepth 65536 in
theorem w_alone : about1.alone = true := by decide +kernel
set_option maxRecDepth 65536 in
theorem w_named : about1.methodNamed? x = some theMethod := by decide +kernel
set_option maxRecDepth 65536 in
theorem w_hears : about1.hears theMethod below0 = true := by decide +kernel
set_option maxRecDepth 65536 in
theorem w_ripe : about1.ripe theMethod args0 below0 = true := by decide +kernel
theorem w_running : about1.status = .running := rfl
set_option maxRecDepth 65536 in
theorem w_room : about1.hasRoom e0.platform room_1 = true :=
  launch0.hasRoom_least _ room_1 (by decide +kernel) (by decide +kernel) (by decide +kernel) (by decide +kernel) (by decide +kernel) (by decide +kernel)
theorem allAtoms_all (ts : List Jvm.Cond) (a : Array Jvm.Value) (st : Jvm.State) : (allAtoms ts).before a st = ts.all (fun c => c.before a st) := by
  induction ts with
  | nil => rfl
  | cons c t ih =>
    show (Jvm.Cond.and c (allAtoms t)).before a st = _
    rw [Jvm.Cond.before_and, ih, List.all_cons]
def words1 : List Jvm.Cond := Jvm.Cond.code x code maxLocals ret :: tables_1
/-- a 'code' word, met by the world's own term for the bytes: nothing is compared byte by byte -/
theorem code_word {y : MethodName} {bytes : ByteArray} {mx : Nat} {rt : Option FieldType} {a : Array Value} {s : State} {m : MethodId} {meth : Method} {c : Code} (h1 : s.methodNamed? y = some m) (h2 : s.vm.method? m = some meth) (h3 : meth.code = some c) (h4 : c.code = bytes)
    (h5 : (c.maxLocals == mx && c.exceptionTable.isEmpty && decide (c.maxStack ≤ mostOperands) && decide (meth.sig.returnType = rt) && !meth.locks && decide (parseMethodDescriptor y.desc = some meth.sig)) = true) : (Jvm.Cond.code y bytes mx rt).before a s = true := by
  simp only [Bool.and_eq_true, beq_iff_eq, Bool.not_eq_true', decide_eq_true_eq] at h5
  obtain ⟨⟨⟨⟨⟨g1, g2⟩, g3⟩, g4⟩, g5⟩, g6⟩ := h5
  simp [Cond.before, Cond.holds, Cond.value, h1, h2, h3, h4, g1, g2, g3, g4, g5, g6]
def isCode : Jvm.Cond → Bool
  | .code _ _ _ _ => true
  | _ => false
theorem all_split {L : List Jvm.Cond} {P : Jvm.Cond → Bool} (h1 : L.all (fun c => isCode c || P c) = true) (h2 : ∀ c ∈ L.filter isCode, P c = true) : L.all P = true := by
  refine List.all_eq_true.mpr fun c hc => ?_
  have h := List.all_eq_true.mp h1 c hc
  rcases Bool.eq_false_or_eq_true (isCode c) with hi | hi
  · exact h2 c (List.mem_filter.mpr ⟨hc, hi⟩)
  · simpa [hi] using h
set_option maxRecDepth 65536 in
theorem w_c0 : (Jvm.Cond.code x code maxLocals ret).before args0 about1 = true := code_word (m := ⟨1, 6⟩) (meth := k1m6) (c := k1c6) (by decide +kernel) rfl rfl rfl (by decide +kernel)
set_option maxRecDepth 65536 in
theorem w_c1 : (Jvm.Cond.code ({ cls := "com/example/oplim/oplim/KeysPrefixPinLaw", name := "nameChar", desc := "(I)C" } : Jvm.MethodName) method_6_code (2 : Nat) (Option.some Jvm.ClassFile.FieldType.char)).before args0 about1 = true := code_word (m := ⟨1, 5⟩) (meth := k1m5) (c := k1c5) (by decide +kernel) rfl rfl rfl (by decide +kernel)
set_option maxRecDepth 65536 in
theorem w_c2 : (Jvm.Cond.code ({ cls := "java/lang/String", name := "<init>", desc := "([C)V" } : Jvm.MethodName) jdk_42_method_3_code (2 : Nat) (Option.none : Option Jvm.ClassFile.FieldType)).before args0 about1 = true := code_word (m := ⟨7, 1⟩) (meth := k7m1) (c := k7c1) (by decide +kernel) rfl rfl rfl (by decide +kernel)
set_option maxRecDepth 65536 in
theorem w_c3 : (Jvm.Cond.code ({ cls := "java/lang/String", name := "<init>", desc := "([CIILjava/lang/Void;)V" } : Jvm.MethodName) jdk_42_method_149_code (6 : Nat) (Option.none : Option Jvm.ClassFile.FieldType)).before args0 about1 = true := code_word (m := ⟨7, 8⟩) (meth := k7m8) (c := k7c8) (by decide +kernel) rfl rfl rfl (by decide +kernel)
set_option maxRecDepth 65536 in
theorem w_c4 : (Jvm.Cond.code ({ cls := "java/lang/Object", name := "<init>", desc := "()V" } : Jvm.MethodName) object_method_1_code (1 : Nat) (Option.none : Option Jvm.ClassFile.FieldType)).before args0 about1 = true := code_word (m := ⟨0, 0⟩) (meth := k0m0) (c := k0c0) (by decide +kernel) rfl rfl rfl (by decide +kernel)
set_option maxRecDepth 65536 in
theorem w_c5 : (Jvm.Cond.code ({ cls := "java/lang/StringUTF16", name := "compress", desc := "([CII)[B" } : Jvm.MethodName) jdk_52_method_16_code (6 : Nat) (Option.some (Jvm.ClassFile.FieldType.array Jvm.ClassFile.FieldType.byte))).before args0 about1 = true := code_word (m := ⟨8, 10⟩) (meth := k8m10) (c := k8c10) (by decide +kernel) rfl rfl rfl (by decide +kernel)
set_option maxRecDepth 65536 in
theorem w_c6 : (Jvm.Cond.code ({ cls := "java/lang/StringUTF16", name := "compress", desc := "([CI[BII)I" } : Jvm.MethodName) jdk_52_method_21_code (7 : Nat) (Option.some Jvm.ClassFile.FieldType.int)).before args0 about1 = true := code_word (m := ⟨8, 11⟩) (meth := k8m11) (c := k8c11) (by decide +kernel) rfl rfl rfl (by decide +kernel)
set_option maxRecDepth 65536 in
theorem w_c7 : (Jvm.Cond.code ({ cls := "java/lang/StringUTF16", name := "coderFromArrayLen", desc := "([BI)B" } : Jvm.MethodName) jdk_52_method_15_code (2 : Nat) (Option.some Jvm.ClassFile.FieldType.byte)).before args0 about1 = true := code_word (m := ⟨8, 9⟩) (meth := k8m9) (c := k8c9) (by decide +kernel) rfl rfl rfl (by decide +kernel)
set_option maxRecDepth 65536 in
theorem w_c8 : (Jvm.Cond.code ({ cls := "com/example/oplim/oplim/KeysPrefixPinLaw", name := "width", desc := "(I)I" } : Jvm.MethodName) method_3_code (1 : Nat) (Option.some Jvm.ClassFile.FieldType.int)).before args0 about1 = true := code_word (m := ⟨1, 2⟩) (meth := k1m2) (c := k1c2) (by decide +kernel) rfl rfl rfl (by decide +kernel)
set_option maxRecDepth 65536 in
theorem w_c9 : (Jvm.Cond.code ({ cls := "com/example/oplim/oplim/KeysPrefixPinLaw", name := "isPair", desc := "(I)Z" } : Jvm.MethodName) method_2_code (1 : Nat) (Option.some Jvm.ClassFile.FieldType.boolean)).before args0 about1 = true := code_word (m := ⟨1, 1⟩) (meth := k1m1) (c := k1c1) (by decide +kernel) rfl rfl rfl (by decide +kernel)
set_option maxRecDepth 65536 in
theorem w_c10 : (Jvm.Cond.code ({ cls := "com/example/oplim/oplim/KeysPrefixPinLaw", name := "put", desc := "([CII)I" } : Jvm.MethodName) method_5_code (3 : Nat) (Option.some Jvm.ClassFile.FieldType.int)).before args0 about1 = true := code_word (m := ⟨1, 4⟩) (meth := k1m4) (c := k1c4) (by decide +kernel) rfl rfl rfl (by decide +kernel)
set_option maxRecDepth 65536 in
theorem w_c11 : (Jvm.Cond.code ({ cls := "com/example/oplim/oplim/KeysPrefixPinLaw", name := "bmp", desc := "(I)C" } : Jvm.MethodName) method_4_code (2 : Nat) (Option.some Jvm.ClassFile.FieldType.char)).before args0 about1 = true := code_word (m := ⟨1, 3⟩) (meth := k1m3) (c := k1c3) (by decide +kernel) rfl rfl rfl (by decide +kernel)
set_option maxRecDepth 65536 in
theorem w_c12 : (Jvm.Cond.code ({ cls := "com/example/oplim/oplim/Keys", name := "prefix", desc := "(Ljava/lang/String;Ljava/lang/String;)Ljava/lang/String;" } : Jvm.MethodName) prog_4_method_3_code (5 : Nat) (Option.some (Jvm.ClassFile.FieldType.object "java/lang/String"))).before args0 about1 = true := code_word (m := ⟨9, 1⟩) (meth := k9m1) (c := k9c1) (by decide +kernel) rfl rfl rfl (by decide +kernel)
set_option maxRecDepth 65536 in
theorem w_c13 : (Jvm.Cond.code ({ cls := "java/lang/String", name := "isEmpty", desc := "()Z" } : Jvm.MethodName) jdk_42_method_55_code (1 : Nat) (Option.some Jvm.ClassFile.FieldType.boolean)).before args0 about1 = true := code_word (m := ⟨7, 4⟩) (meth := k7m4) (c := k7c4) (by decide +kernel) rfl rfl rfl (by decide +kernel)
set_option maxRecDepth 65536 in
theorem w_c14 : (Jvm.Cond.code ({ cls := "java/lang/String", name := "length", desc := "()I" } : Jvm.MethodName) jdk_42_method_54_code (1 : Nat) (Option.some Jvm.ClassFile.FieldType.int)).before args0 about1 = true := code_word (m := ⟨7, 3⟩) (meth := k7m3) (c := k7c3) (by decide +kernel) rfl rfl rfl (by decide +kernel)
set_option maxRecDepth 65536 in
theorem w_c15 : (Jvm.Cond.code ({ cls := "java/lang/String", name := "coder", desc := "()B" } : Jvm.MethodName) jdk_42_method_152_code (1 : Nat) (Option.some Jvm.ClassFile.FieldType.byte)).before args0 about1 = true := code_word (m := ⟨7, 10⟩) (meth := k7m10) (c := k7c10) (by decide +kernel) rfl rfl rfl (by decide +kernel)
set_option maxRecDepth 65536 in
theorem w_c16 : (Jvm.Cond.code ({ cls := "java/lang/String", name := "codePointAt", desc := "(I)I" } : Jvm.MethodName) jdk_42_method_57_code (3 : Nat) (Option.some Jvm.ClassFile.FieldType.int)).before args0 about1 = true := code_word (m := ⟨7, 5⟩) (meth := k7m5) (c := k7c5) (by decide +kernel) rfl rfl rfl (by decide +kernel)
set_option maxRecDepth 65536 in
theorem w_c17 : (Jvm.Cond.code ({ cls := "java/lang/String", name := "isLatin1", desc := "()Z" } : Jvm.MethodName) jdk_42_method_154_code (1 : Nat) (Option.some Jvm.ClassFile.FieldType.boolean)).before args0 about1 = true := code_word (m := ⟨7, 11⟩) (meth := k7m11) (c := k7c11) (by decide +kernel) rfl rfl rfl (by decide +kernel)
set_option maxRecDepth 65536 in
theorem w_c18 : (Jvm.Cond.code ({ cls := "java/lang/String", name := "checkIndex", desc := "(II)V" } : Jvm.MethodName) jdk_42_method_155_code (2 : Nat) (Option.none : Option Jvm.ClassFile.FieldType)).before args0 about1 = true := code_word (m := ⟨7, 12⟩) (meth := k7m12) (c := k7c12) (by decide +kernel) rfl rfl rfl (by decide +kernel)
set_option maxRecDepth 65536 in
theorem w_c19 : (Jvm.Cond.code ({ cls := "jdk/internal/util/Preconditions", name := "checkIndex", desc := "(IILjava/util/function/BiFunction;)I" } : Jvm.MethodName) jdk_41_method_11_code (3 : Nat) (Option.some Jvm.ClassFile.FieldType.int)).before args0 about1 = true := code_word (m := ⟨10, 1⟩) (meth := k10m1) (c := k10c1) (by decide +kernel) rfl rfl rfl (by decide +kernel)
set_option maxRecDepth 65536 in
theorem w_c20 : (Jvm.Cond.code ({ cls := "com/example/oplim/oplim/Keys", name := "utf8Length", desc := "(I)I" } : Jvm.MethodName) prog_4_method_5_code (2 : Nat) (Option.some Jvm.ClassFile.FieldType.int)).before args0 about1 = true := code_word (m := ⟨9, 2⟩) (meth := k9m2) (c := k9c2) (by decide +kernel) rfl rfl rfl (by decide +kernel)
set_option maxRecDepth 65536 in
theorem w_c21 : (Jvm.Cond.code ({ cls := "java/lang/Character", name := "charCount", desc := "(I)I" } : Jvm.MethodName) jdk_89_method_18_code (1 : Nat) (Option.some Jvm.ClassFile.FieldType.int)).before args0 about1 = true := code_word (m := ⟨11, 2⟩) (meth := k11m2) (c := k11c2) (by decide +kernel) rfl rfl rfl (by decide +kernel)
set_option maxRecDepth 65536 in
theorem w_c22 : (Jvm.Cond.code ({ cls := "java/lang/StringBuilder", name := "<init>", desc := "()V" } : Jvm.MethodName) jdk_67_method_1_code (1 : Nat) (Option.none : Option Jvm.ClassFile.FieldType)).before args0 about1 = true := code_word (m := ⟨14, 0⟩) (meth := k14m0) (c := k14c0) (by decide +kernel) rfl rfl rfl (by decide +kernel)
set_option maxRecDepth 65536 in
theorem w_c23 : (Jvm.Cond.code ({ cls := "java/lang/AbstractStringBuilder", name := "<init>", desc := "(I)V" } : Jvm.MethodName) jdk_68_method_2_code (2 : Nat) (Option.none : Option Jvm.ClassFile.FieldType)).before args0 about1 = true := code_word (m := ⟨13, 1⟩) (meth := k13m1) (c := k13c1) (by decide +kernel) rfl rfl rfl (by decide +kernel)
set_option maxRecDepth 65536 in
theorem w_c24 : (Jvm.Cond.code ({ cls := "java/lang/StringBuilder", name := "append", desc := "(Ljava/lang/String;)Ljava/lang/StringBuilder;" } : Jvm.MethodName) jdk_67_method_7_code (2 : Nat) (Option.some (Jvm.ClassFile.FieldType.object "java/lang/StringBuilder"))).before args0 about1 = true := code_word (m := ⟨14, 1⟩) (meth := k14m1) (c := k14c1) (by decide +kernel) rfl rfl rfl (by decide +kernel)
set_option maxRecDepth 65536 in
theorem w_c25 : (Jvm.Cond.code ({ cls := "java/lang/AbstractStringBuilder", name := "append", desc := "(Ljava/lang/String;)Ljava/lang/AbstractStringBuilder;" } : Jvm.MethodName) jdk_68_method_22_code (3 : Nat) (Option.some (Jvm.ClassFile.FieldType.object "java/lang/AbstractStringBuilder"))).before args0 about1 = true := code_word (m := ⟨13, 6⟩) (meth := k13m6) (c := k13c6) (by decide +kernel) rfl rfl rfl (by decide +kernel)
set_option maxRecDepth 65536 in
theorem w_c26 : (Jvm.Cond.code ({ cls := "java/lang/AbstractStringBuilder", name := "ensureCapacityInternal", desc := "(I)V" } : Jvm.MethodName) jdk_68_method_9_code (3 : Nat) (Option.none : Option Jvm.ClassFile.FieldType)).before args0 about1 = true := code_word (m := ⟨13, 3⟩) (meth := k13m3) (c := k13c3) (by decide +kernel) rfl rfl rfl (by decide +kernel)
set_option maxRecDepth 65536 in
theorem w_c27 : (Jvm.Cond.code ({ cls := "java/lang/AbstractStringBuilder", name := "putStringAt", desc := "(ILjava/lang/String;)V" } : Jvm.MethodName) jdk_68_method_73_code (3 : Nat) (Option.none : Option Jvm.ClassFile.FieldType)).before args0 about1 = true := code_word (m := ⟨13, 11⟩) (meth := k13m11) (c := k13c11) (by decide +kernel) rfl rfl rfl (by decide +kernel)
set_option maxRecDepth 65536 in
theorem w_c28 : (Jvm.Cond.code ({ cls := "java/lang/AbstractStringBuilder", name := "inflateIfNeededFor", desc := "(Ljava/lang/String;)V" } : Jvm.MethodName) jdk_68_method_71_code (2 : Nat) (Option.none : Option Jvm.ClassFile.FieldType)).before args0 about1 = true := code_word (m := ⟨13, 10⟩) (meth := k13m10) (c := k13c10) (by decide +kernel) rfl rfl rfl (by decide +kernel)
set_option maxRecDepth 65536 in
theorem w_c29 : (Jvm.Cond.code ({ cls := "java/lang/String", name := "getBytes", desc := "([BIB)V" } : Jvm.MethodName) jdk_42_method_147_code (4 : Nat) (Option.none : Option Jvm.ClassFile.FieldType)).before args0 about1 = true := code_word (m := ⟨7, 7⟩) (meth := k7m7) (c := k7c7) (by decide +kernel) rfl rfl rfl (by decide +kernel)
set_option maxRecDepth 65536 in
theorem w_c30 : (Jvm.Cond.code ({ cls := "java/lang/StringBuilder", name := "append", desc := "(C)Ljava/lang/StringBuilder;" } : Jvm.MethodName) jdk_67_method_14_code (2 : Nat) (Option.some (Jvm.ClassFile.FieldType.object "java/lang/StringBuilder"))).before args0 about1 = true := code_word (m := ⟨14, 2⟩) (meth := k14m2) (c := k14c2) (by decide +kernel) rfl rfl rfl (by decide +kernel)
set_option maxRecDepth 65536 in
theorem w_c31 : (Jvm.Cond.code ({ cls := "java/lang/AbstractStringBuilder", name := "append", desc := "(C)Ljava/lang/AbstractStringBuilder;" } : Jvm.MethodName) jdk_68_method_31_code (2 : Nat) (Option.some (Jvm.ClassFile.FieldType.object "java/lang/AbstractStringBuilder"))).before args0 about1 = true := code_word (m := ⟨13, 7⟩) (meth := k13m7) (c := k13c7) (by decide +kernel) rfl rfl rfl (by decide +kernel)
set_option maxRecDepth 65536 in
theorem w_c32 : (Jvm.Cond.code ({ cls := "java/lang/AbstractStringBuilder", name := "isLatin1", desc := "()Z" } : Jvm.MethodName) jdk_68_method_68_code (1 : Nat) (Option.some Jvm.ClassFile.FieldType.boolean)).before args0 about1 = true := code_word (m := ⟨13, 9⟩) (meth := k13m9) (c := k13c9) (by decide +kernel) rfl rfl rfl (by decide +kernel)
set_option maxRecDepth 65536 in
theorem w_c33 : (Jvm.Cond.code ({ cls := "java/lang/StringLatin1", name := "canEncode", desc := "(C)Z" } : Jvm.MethodName) jdk_43_method_3_code (1 : Nat) (Option.some Jvm.ClassFile.FieldType.boolean)).before args0 about1 = true := code_word (m := ⟨16, 1⟩) (meth := k16m1) (c := k16c1) (by decide +kernel) rfl rfl rfl (by decide +kernel)
set_option maxRecDepth 65536 in
theorem w_c34 : (Jvm.Cond.code ({ cls := "java/lang/StringBuilder", name := "toString", desc := "()Ljava/lang/String;" } : Jvm.MethodName) jdk_67_method_42_code (1 : Nat) (Option.some (Jvm.ClassFile.FieldType.object "java/lang/String"))).before args0 about1 = true := code_word (m := ⟨14, 3⟩) (meth := k14m3) (c := k14c3) (by decide +kernel) rfl rfl rfl (by decide +kernel)
set_option maxRecDepth 65536 in
theorem w_c35 : (Jvm.Cond.code ({ cls := "java/lang/String", name := "<init>", desc := "(Ljava/lang/StringBuilder;)V" } : Jvm.MethodName) jdk_42_method_53_code (2 : Nat) (Option.none : Option Jvm.ClassFile.FieldType)).before args0 about1 = true := code_word (m := ⟨7, 2⟩) (meth := k7m2) (c := k7c2) (by decide +kernel) rfl rfl rfl (by decide +kernel)
set_option maxRecDepth 65536 in
theorem w_c36 : (Jvm.Cond.code ({ cls := "java/lang/String", name := "<init>", desc := "(Ljava/lang/AbstractStringBuilder;Ljava/lang/Void;)V" } : Jvm.MethodName) jdk_42_method_150_code (5 : Nat) (Option.none : Option Jvm.ClassFile.FieldType)).before args0 about1 = true := code_word (m := ⟨7, 9⟩) (meth := k7m9) (c := k7c9) (by decide +kernel) rfl rfl rfl (by decide +kernel)
set_option maxRecDepth 65536 in
theorem w_c37 : (Jvm.Cond.code ({ cls := "java/lang/AbstractStringBuilder", name := "getValue", desc := "()[B" } : Jvm.MethodName) jdk_68_method_64_code (1 : Nat) (Option.some (Jvm.ClassFile.FieldType.array Jvm.ClassFile.FieldType.byte))).before args0 about1 = true := code_word (m := ⟨13, 8⟩) (meth := k13m8) (c := k13c8) (by decide +kernel) rfl rfl rfl (by decide +kernel)
set_option maxRecDepth 65536 in
theorem w_c38 : (Jvm.Cond.code ({ cls := "java/lang/StringBuilder", name := "length", desc := "()I" } : Jvm.MethodName) jdk_67_method_93_code (1 : Nat) (Option.some Jvm.ClassFile.FieldType.int)).before args0 about1 = true := code_word (m := ⟨14, 4⟩) (meth := k14m4) (c := k14c4) (by decide +kernel) rfl rfl rfl (by decide +kernel)
set_option maxRecDepth 65536 in
theorem w_c39 : (Jvm.Cond.code ({ cls := "java/lang/AbstractStringBuilder", name := "length", desc := "()I" } : Jvm.MethodName) jdk_68_method_6_code (1 : Nat) (Option.some Jvm.ClassFile.FieldType.int)).before args0 about1 = true := code_word (m := ⟨13, 2⟩) (meth := k13m2) (c := k13c2) (by decide +kernel) rfl rfl rfl (by decide +kernel)
set_option maxRecDepth 65536 in
theorem w_c40 : (Jvm.Cond.code ({ cls := "java/util/Arrays", name := "copyOfRange", desc := "([BII)[B" } : Jvm.MethodName) jdk_65_method_132_code (3 : Nat) (Option.some (Jvm.ClassFile.FieldType.array Jvm.ClassFile.FieldType.byte))).before args0 about1 = true := code_word (m := ⟨17, 3⟩) (meth := k17m3) (c := k17c3) (by decide +kernel) rfl rfl rfl (by decide +kernel)
set_option maxRecDepth 65536 in
theorem w_c41 : (Jvm.Cond.code ({ cls := "java/util/Arrays", name := "copyOfRangeByte", desc := "([BII)[B" } : Jvm.MethodName) jdk_65_method_133_code (5 : Nat) (Option.some (Jvm.ClassFile.FieldType.array Jvm.ClassFile.FieldType.byte))).before args0 about1 = true := code_word (m := ⟨17, 4⟩) (meth := k17m4) (c := k17c4) (by decide +kernel) rfl rfl rfl (by decide +kernel)
set_option maxRecDepth 65536 in
theorem w_c42 : (Jvm.Cond.code ({ cls := "java/util/Arrays", name := "checkLength", desc := "(II)V" } : Jvm.MethodName) jdk_65_method_131_code (2 : Nat) (Option.none : Option Jvm.ClassFile.FieldType)).before args0 about1 = true := code_word (m := ⟨17, 2⟩) (meth := k17m2) (c := k17c2) (by decide +kernel) rfl rfl rfl (by decide +kernel)
set_option maxRecDepth 65536 in
theorem w_c43 : (Jvm.Cond.code ({ cls := "java/lang/Math", name := "min", desc := "(II)I" } : Jvm.MethodName) jdk_29_method_69_code (2 : Nat) (Option.some Jvm.ClassFile.FieldType.int)).before args0 about1 = true := code_word (m := ⟨18, 2⟩) (meth := k18m2) (c := k18c2) (by decide +kernel) rfl rfl rfl (by decide +kernel)
set_option maxRecDepth 65536 in
theorem w_c44 : (Jvm.Cond.code ({ cls := "java/lang/String", name := "equals", desc := "(Ljava/lang/Object;)Z" } : Jvm.MethodName) jdk_42_method_66_code (3 : Nat) (Option.some Jvm.ClassFile.FieldType.boolean)).before args0 about1 = true := code_word (m := ⟨7, 6⟩) (meth := k7m6) (c := k7c6) (by decide +kernel) rfl rfl rfl (by decide +kernel)
set_option maxRecDepth 65536 in
theorem w_c45 : (Jvm.Cond.code ({ cls := "java/lang/StringLatin1", name := "equals", desc := "([B[B)Z" } : Jvm.MethodName) jdk_43_method_13_code (3 : Nat) (Option.some Jvm.ClassFile.FieldType.boolean)).before args0 about1 = true := code_word (m := ⟨16, 2⟩) (meth := k16m2) (c := k16c2) (by decide +kernel) rfl rfl rfl (by decide +kernel)
set_option maxRecDepth 65536 in
theorem w_c46 : (Jvm.Cond.code ({ cls := "java/lang/StringUTF16", name := "toBytes", desc := "([CII)[B" } : Jvm.MethodName) jdk_52_method_14_code (5 : Nat) (Option.some (Jvm.ClassFile.FieldType.array Jvm.ClassFile.FieldType.byte))).before args0 about1 = true := code_word (m := ⟨8, 8⟩) (meth := k8m8) (c := k8c8) (by decide +kernel) rfl rfl rfl (by decide +kernel)
set_option maxRecDepth 65536 in
theorem w_c47 : (Jvm.Cond.code ({ cls := "java/lang/StringUTF16", name := "newBytesFor", desc := "(I)[B" } : Jvm.MethodName) jdk_52_method_2_code (1 : Nat) (Option.some (Jvm.ClassFile.FieldType.array Jvm.ClassFile.FieldType.byte))).before args0 about1 = true := code_word (m := ⟨8, 1⟩) (meth := k8m1) (c := k8c1) (by decide +kernel) rfl rfl rfl (by decide +kernel)
set_option maxRecDepth 65536 in
theorem w_c48 : (Jvm.Cond.code ({ cls := "java/lang/StringUTF16", name := "newBytesLength", desc := "(I)I" } : Jvm.MethodName) jdk_52_method_3_code (1 : Nat) (Option.some Jvm.ClassFile.FieldType.int)).before args0 about1 = true := code_word (m := ⟨8, 2⟩) (meth := k8m2) (c := k8c2) (by decide +kernel) rfl rfl rfl (by decide +kernel)
set_option maxRecDepth 65536 in
theorem w_c49 : (Jvm.Cond.code ({ cls := "java/lang/StringUTF16", name := "putChar", desc := "([BII)V" } : Jvm.MethodName) jdk_52_method_4_code (3 : Nat) (Option.none : Option Jvm.ClassFile.FieldType)).before args0 about1 = true := code_word (m := ⟨8, 3⟩) (meth := k8m3) (c := k8c3) (by decide +kernel) rfl rfl rfl (by decide +kernel)
set_option maxRecDepth 65536 in
theorem w_c50 : (Jvm.Cond.code ({ cls := "java/lang/StringUTF16", name := "getChar", desc := "([BI)C" } : Jvm.MethodName) jdk_52_method_5_code (2 : Nat) (Option.some Jvm.ClassFile.FieldType.char)).before args0 about1 = true := code_word (m := ⟨8, 4⟩) (meth := k8m4) (c := k8c4) (by decide +kernel) rfl rfl rfl (by decide +kernel)
set_option maxRecDepth 65536 in
theorem w_c51 : (Jvm.Cond.code ({ cls := "java/lang/StringUTF16", name := "codePointAt", desc := "([BII)I" } : Jvm.MethodName) jdk_52_method_8_code (3 : Nat) (Option.some Jvm.ClassFile.FieldType.int)).before args0 about1 = true := code_word (m := ⟨8, 7⟩) (meth := k8m7) (c := k8c7) (by decide +kernel) rfl rfl rfl (by decide +kernel)
set_option maxRecDepth 65536 in
theorem w_c52 : (Jvm.Cond.code ({ cls := "java/lang/StringUTF16", name := "codePointAt", desc := "([BIIZ)I" } : Jvm.MethodName) jdk_52_method_7_code (6 : Nat) (Option.some Jvm.ClassFile.FieldType.int)).before args0 about1 = true := code_word (m := ⟨8, 6⟩) (meth := k8m6) (c := k8c6) (by decide +kernel) rfl rfl rfl (by decide +kernel)
set_option maxRecDepth 65536 in
theorem w_c53 : (Jvm.Cond.code ({ cls := "java/lang/Character", name := "isHighSurrogate", desc := "(C)Z" } : Jvm.MethodName) jdk_89_method_14_code (1 : Nat) (Option.some Jvm.ClassFile.FieldType.boolean)).before args0 about1 = true := code_word (m := ⟨11, 0⟩) (meth := k11m0) (c := k11c0) (by decide +kernel) rfl rfl rfl (by decide +kernel)
set_option maxRecDepth 65536 in
theorem w_c54 : (Jvm.Cond.code ({ cls := "java/lang/Character", name := "isLowSurrogate", desc := "(C)Z" } : Jvm.MethodName) jdk_89_method_15_code (1 : Nat) (Option.some Jvm.ClassFile.FieldType.boolean)).before args0 about1 = true := code_word (m := ⟨11, 1⟩) (meth := k11m1) (c := k11c1) (by decide +kernel) rfl rfl rfl (by decide +kernel)
set_option maxRecDepth 65536 in
theorem w_c55 : (Jvm.Cond.code ({ cls := "java/lang/Character", name := "toCodePoint", desc := "(CC)I" } : Jvm.MethodName) jdk_89_method_19_code (2 : Nat) (Option.some Jvm.ClassFile.FieldType.int)).before args0 about1 = true := code_word (m := ⟨11, 3⟩) (meth := k11m3) (c := k11c3) (by decide +kernel) rfl rfl rfl (by decide +kernel)
set_option maxRecDepth 65536 in
theorem w_c56 : (Jvm.Cond.code ({ cls := "java/lang/AbstractStringBuilder", name := "inflate", desc := "()V" } : Jvm.MethodName) jdk_68_method_11_code (2 : Nat) (Option.none : Option Jvm.ClassFile.FieldType)).before args0 about1 = true := code_word (m := ⟨13, 5⟩) (meth := k13m5) (c := k13c5) (by decide +kernel) rfl rfl rfl (by decide +kernel)
set_option maxRecDepth 65536 in
theorem w_c57 : (Jvm.Cond.code ({ cls := "java/lang/StringLatin1", name := "inflate", desc := "([BI[BII)V" } : Jvm.MethodName) jdk_43_method_50_code (5 : Nat) (Option.none : Option Jvm.ClassFile.FieldType)).before args0 about1 = true := code_word (m := ⟨16, 3⟩) (meth := k16m3) (c := k16c3) (by decide +kernel) rfl rfl rfl (by decide +kernel)
set_option maxRecDepth 65536 in
theorem w_c58 : (Jvm.Cond.code ({ cls := "java/lang/StringUTF16", name := "inflate", desc := "([BI[BII)V" } : Jvm.MethodName) jdk_52_method_86_code (6 : Nat) (Option.none : Option Jvm.ClassFile.FieldType)).before args0 about1 = true := code_word (m := ⟨8, 13⟩) (meth := k8m13) (c := k8c13) (by decide +kernel) rfl rfl rfl (by decide +kernel)
set_option maxRecDepth 65536 in
theorem w_c59 : (Jvm.Cond.code ({ cls := "java/lang/StringUTF16", name := "checkBoundsOffCount", desc := "(II[B)V" } : Jvm.MethodName) jdk_52_method_94_code (3 : Nat) (Option.none : Option Jvm.ClassFile.FieldType)).before args0 about1 = true := code_word (m := ⟨8, 15⟩) (meth := k8m15) (c := k8c15) (by decide +kernel) rfl rfl rfl (by decide +kernel)
set_option maxRecDepth 65536 in
theorem w_c60 : (Jvm.Cond.code ({ cls := "java/lang/StringUTF16", name := "length", desc := "([B)I" } : Jvm.MethodName) jdk_52_method_6_code (1 : Nat) (Option.some Jvm.ClassFile.FieldType.int)).before args0 about1 = true := code_word (m := ⟨8, 5⟩) (meth := k8m5) (c := k8c5) (by decide +kernel) rfl rfl rfl (by decide +kernel)
set_option maxRecDepth 65536 in
theorem w_c61 : (Jvm.Cond.code ({ cls := "java/lang/String", name := "checkBoundsOffCount", desc := "(III)I" } : Jvm.MethodName) jdk_42_method_157_code (3 : Nat) (Option.some Jvm.ClassFile.FieldType.int)).before args0 about1 = true := code_word (m := ⟨7, 13⟩) (meth := k7m13) (c := k7c13) (by decide +kernel) rfl rfl rfl (by decide +kernel)
set_option maxRecDepth 65536 in
theorem w_c62 : (Jvm.Cond.code ({ cls := "jdk/internal/util/Preconditions", name := "checkFromIndexSize", desc := "(IIILjava/util/function/BiFunction;)I" } : Jvm.MethodName) jdk_41_method_13_code (4 : Nat) (Option.some Jvm.ClassFile.FieldType.int)).before args0 about1 = true := code_word (m := ⟨10, 2⟩) (meth := k10m2) (c := k10c2) (by decide +kernel) rfl rfl rfl (by decide +kernel)
set_option maxRecDepth 65536 in
theorem w_c63 : (Jvm.Cond.code ({ cls := "java/lang/StringUTF16", name := "putCharSB", desc := "([BII)V" } : Jvm.MethodName) jdk_52_method_71_code (3 : Nat) (Option.none : Option Jvm.ClassFile.FieldType)).before args0 about1 = true := code_word (m := ⟨8, 12⟩) (meth := k8m12) (c := k8c12) (by decide +kernel) rfl rfl rfl (by decide +kernel)
set_option maxRecDepth 65536 in
theorem w_c64 : (Jvm.Cond.code ({ cls := "java/lang/StringUTF16", name := "checkIndex", desc := "(I[B)V" } : Jvm.MethodName) jdk_52_method_91_code (2 : Nat) (Option.none : Option Jvm.ClassFile.FieldType)).before args0 about1 = true := code_word (m := ⟨8, 14⟩) (meth := k8m14) (c := k8c14) (by decide +kernel) rfl rfl rfl (by decide +kernel)
set_option maxRecDepth 65536 in
theorem w_c65 : (Jvm.Cond.code ({ cls := "java/lang/AbstractStringBuilder", name := "newCapacity", desc := "(I)I" } : Jvm.MethodName) jdk_68_method_10_code (6 : Nat) (Option.some Jvm.ClassFile.FieldType.int)).before args0 about1 = true := code_word (m := ⟨13, 4⟩) (meth := k13m4) (c := k13c4) (by decide +kernel) rfl rfl rfl (by decide +kernel)
set_option maxRecDepth 65536 in
theorem w_c66 : (Jvm.Cond.code ({ cls := "jdk/internal/util/ArraysSupport", name := "newLength", desc := "(III)I" } : Jvm.MethodName) jdk_48_method_27_code (4 : Nat) (Option.some Jvm.ClassFile.FieldType.int)).before args0 about1 = true := code_word (m := ⟨20, 1⟩) (meth := k20m1) (c := k20c1) (by decide +kernel) rfl rfl rfl (by decide +kernel)
set_option maxRecDepth 65536 in
theorem w_c67 : (Jvm.Cond.code ({ cls := "java/lang/Math", name := "max", desc := "(II)I" } : Jvm.MethodName) jdk_29_method_65_code (2 : Nat) (Option.some Jvm.ClassFile.FieldType.int)).before args0 about1 = true := code_word (m := ⟨18, 1⟩) (meth := k18m1) (c := k18c1) (by decide +kernel) rfl rfl rfl (by decide +kernel)
set_option maxRecDepth 65536 in
theorem w_c68 : (Jvm.Cond.code ({ cls := "java/util/Arrays", name := "copyOf", desc := "([BI)[B" } : Jvm.MethodName) jdk_65_method_121_code (3 : Nat) (Option.some (Jvm.ClassFile.FieldType.array Jvm.ClassFile.FieldType.byte))).before args0 about1 = true := code_word (m := ⟨17, 1⟩) (meth := k17m1) (c := k17c1) (by decide +kernel) rfl rfl rfl (by decide +kernel)
def codes1 : List Jvm.Cond := [Jvm.Cond.code x code maxLocals ret, Jvm.Cond.code ({ cls := "com/example/oplim/oplim/KeysPrefixPinLaw", name := "nameChar", desc := "(I)C" } : Jvm.MethodName) method_6_code (2 : Nat) (Option.some Jvm.ClassFile.FieldType.char), Jvm.Cond.code ({ cls := "java/lang/String", name := "<init>", desc := "([C)V" } : Jvm.MethodName) jdk_42_method_3_code (2 : Nat) (Option.none : Option Jvm.ClassFile.FieldType), Jvm.Cond.code ({ cls := "java/lang/String", name := "<init>", desc := "([CIILjava/lang/Void;)V" } : Jvm.MethodName) jdk_42_method_149_code (6 : Nat) (Option.none : Option Jvm.ClassFile.FieldType), Jvm.Cond.code ({ cls := "java/lang/Object", name := "<init>", desc := "()V" } : Jvm.MethodName) object_method_1_code (1 : Nat) (Option.none : Option Jvm.ClassFile.FieldType), Jvm.Cond.code ({ cls := "java/lang/StringUTF16", name := "compress", desc := "([CII)[B" } : Jvm.MethodName) jdk_52_method_16_code (6 : Nat) (Option.some (Jvm.ClassFile.FieldType.array Jvm.ClassFile.FieldType.byte)), Jvm.Cond.code ({ cls := "java/lang/StringUTF16", name := "compress", desc := "([CI[BII)I" } : Jvm.MethodName) jdk_52_method_21_code (7 : Nat) (Option.some Jvm.ClassFile.FieldType.int), Jvm.Cond.code ({ cls := "java/lang/StringUTF16", name := "coderFromArrayLen", desc := "([BI)B" } : Jvm.MethodName) jdk_52_method_15_code (2 : Nat) (Option.some Jvm.ClassFile.FieldType.byte), Jvm.Cond.code ({ cls := "com/example/oplim/oplim/KeysPrefixPinLaw", name := "width", desc := "(I)I" } : Jvm.MethodName) method_3_code (1 : Nat) (Option.some Jvm.ClassFile.FieldType.int), Jvm.Cond.code ({ cls := "com/example/oplim/oplim/KeysPrefixPinLaw", name := "isPair", desc := "(I)Z" } : Jvm.MethodName) method_2_code (1 : Nat) (Option.some Jvm.ClassFile.FieldType.boolean), Jvm.Cond.code ({ cls := "com/example/oplim/oplim/KeysPrefixPinLaw", name := "put", desc := "([CII)I" } : Jvm.MethodName) method_5_code (3 : Nat) (Option.some Jvm.ClassFile.FieldType.int), Jvm.Cond.code ({ cls := "com/example/oplim/oplim/KeysPrefixPinLaw", name := "bmp", desc := "(I)C" } : Jvm.MethodName) method_4_code (2 : Nat) (Option.some Jvm.ClassFile.FieldType.char), Jvm.Cond.code ({ cls := "com/example/oplim/oplim/Keys", name := "prefix", desc := "(Ljava/lang/String;Ljava/lang/String;)Ljava/lang/String;" } : Jvm.MethodName) prog_4_method_3_code (5 : Nat) (Option.some (Jvm.ClassFile.FieldType.object "java/lang/String")), Jvm.Cond.code ({ cls := "java/lang/String", name := "isEmpty", desc := "()Z" } : Jvm.MethodName) jdk_42_method_55_code (1 : Nat) (Option.some Jvm.ClassFile.FieldType.boolean), Jvm.Cond.code ({ cls := "java/lang/String", name := "length", desc := "()I" } : Jvm.MethodName) jdk_42_method_54_code (1 : Nat) (Option.some Jvm.ClassFile.FieldType.int), Jvm.Cond.code ({ cls := "java/lang/String", name := "coder", desc := "()B" } : Jvm.MethodName) jdk_42_method_152_code (1 : Nat) (Option.some Jvm.ClassFile.FieldType.byte), Jvm.Cond.code ({ cls := "java/lang/String", name := "codePointAt", desc := "(I)I" } : Jvm.MethodName) jdk_42_method_57_code (3 : Nat) (Option.some Jvm.ClassFile.FieldType.int), Jvm.Cond.code ({ cls := "java/lang/String", name := "isLatin1", desc := "()Z" } : Jvm.MethodName) jdk_42_method_154_code (1 : Nat) (Option.some Jvm.ClassFile.FieldType.boolean), Jvm.Cond.code ({ cls := "java/lang/String", name := "checkIndex", desc := "(II)V" } : Jvm.MethodName) jdk_42_method_155_code (2 : Nat) (Option.none : Option Jvm.ClassFile.FieldType), Jvm.Cond.code ({ cls := "jdk/internal/util/Preconditions", name := "checkIndex", desc := "(IILjava/util/function/BiFunction;)I" } : Jvm.MethodName) jdk_41_method_11_code (3 : Nat) (Option.some Jvm.ClassFile.FieldType.int), Jvm.Cond.code ({ cls := "com/example/oplim/oplim/Keys", name := "utf8Length", desc := "(I)I" } : Jvm.MethodName) prog_4_method_5_code (2 : Nat) (Option.some Jvm.ClassFile.FieldType.int), Jvm.Cond.code ({ cls := "java/lang/Character", name := "charCount", desc := "(I)I" } : Jvm.MethodName) jdk_89_method_18_code (1 : Nat) (Option.some Jvm.ClassFile.FieldType.int), Jvm.Cond.code ({ cls := "java/lang/StringBuilder", name := "<init>", desc := "()V" } : Jvm.MethodName) jdk_67_method_1_code (1 : Nat) (Option.none : Option Jvm.ClassFile.FieldType), Jvm.Cond.code ({ cls := "java/lang/AbstractStringBuilder", name := "<init>", desc := "(I)V" } : Jvm.MethodName) jdk_68_method_2_code (2 : Nat) (Option.none : Option Jvm.ClassFile.FieldType), Jvm.Cond.code ({ cls := "java/lang/StringBuilder", name := "append", desc := "(Ljava/lang/String;)Ljava/lang/StringBuilder;" } : Jvm.MethodName) jdk_67_method_7_code (2 : Nat) (Option.some (Jvm.ClassFile.FieldType.object "java/lang/StringBuilder")), Jvm.Cond.code ({ cls := "java/lang/AbstractStringBuilder", name := "append", desc := "(Ljava/lang/String;)Ljava/lang/AbstractStringBuilder;" } : Jvm.MethodName) jdk_68_method_22_code (3 : Nat) (Option.some (Jvm.ClassFile.FieldType.object "java/lang/AbstractStringBuilder")), Jvm.Cond.code ({ cls := "java/lang/AbstractStringBuilder", name := "ensureCapacityInternal", desc := "(I)V" } : Jvm.MethodName) jdk_68_method_9_code (3 : Nat) (Option.none : Option Jvm.ClassFile.FieldType), Jvm.Cond.code ({ cls := "java/lang/AbstractStringBuilder", name := "putStringAt", desc := "(ILjava/lang/String;)V" } : Jvm.MethodName) jdk_68_method_73_code (3 : Nat) (Option.none : Option Jvm.ClassFile.FieldType), Jvm.Cond.code ({ cls := "java/lang/AbstractStringBuilder", name := "inflateIfNeededFor", desc := "(Ljava/lang/String;)V" } : Jvm.MethodName) jdk_68_method_71_code (2 : Nat) (Option.none : Option Jvm.ClassFile.FieldType), Jvm.Cond.code ({ cls := "java/lang/String", name := "getBytes", desc := "([BIB)V" } : Jvm.MethodName) jdk_42_method_147_code (4 : Nat) (Option.none : Option Jvm.ClassFile.FieldType), Jvm.Cond.code ({ cls := "java/lang/StringBuilder", name := "append", desc := "(C)Ljava/lang/StringBuilder;" } : Jvm.MethodName) jdk_67_method_14_code (2 : Nat) (Option.some (Jvm.ClassFile.FieldType.object "java/lang/StringBuilder")), Jvm.Cond.code ({ cls := "java/lang/AbstractStringBuilder", name := "append", desc := "(C)Ljava/lang/AbstractStringBuilder;" } : Jvm.MethodName) jdk_68_method_31_code (2 : Nat) (Option.some (Jvm.ClassFile.FieldType.object "java/lang/AbstractStringBuilder")), Jvm.Cond.code ({ cls := "java/lang/AbstractStringBuilder", name := "isLatin1", desc := "()Z" } : Jvm.MethodName) jdk_68_method_68_code (1 : Nat) (Option.some Jvm.ClassFile.FieldType.boolean), Jvm.Cond.code ({ cls := "java/lang/StringLatin1", name := "canEncode", desc := "(C)Z" } : Jvm.MethodName) jdk_43_method_3_code (1 : Nat) (Option.some Jvm.ClassFile.FieldType.boolean), Jvm.Cond.code ({ cls := "java/lang/StringBuilder", name := "toString", desc := "()Ljava/lang/String;" } : Jvm.MethodName) jdk_67_method_42_code (1 : Nat) (Option.some (Jvm.ClassFile.FieldType.object "java/lang/String")), Jvm.Cond.code ({ cls := "java/lang/String", name := "<init>", desc := "(Ljava/lang/StringBuilder;)V" } : Jvm.MethodName) jdk_42_method_53_code (2 : Nat) (Option.none : Option Jvm.ClassFile.FieldType), Jvm.Cond.code ({ cls := "java/lang/String", name := "<init>", desc := "(Ljava/lang/AbstractStringBuilder;Ljava/lang/Void;)V" } : Jvm.MethodName) jdk_42_method_150_code (5 : Nat) (Option.none : Option Jvm.ClassFile.FieldType), Jvm.Cond.code ({ cls := "java/lang/AbstractStringBuilder", name := "getValue", desc := "()[B" } : Jvm.MethodName) jdk_68_method_64_code (1 : Nat) (Option.some (Jvm.ClassFile.FieldType.array Jvm.ClassFile.FieldType.byte)), Jvm.Cond.code ({ cls := "java/lang/StringBuilder", name := "length", desc := "()I" } : Jvm.MethodName) jdk_67_method_93_code (1 : Nat) (Option.some Jvm.ClassFile.FieldType.int), Jvm.Cond.code ({ cls := "java/lang/AbstractStringBuilder", name := "length", desc := "()I" } : Jvm.MethodName) jdk_68_method_6_code (1 : Nat) (Option.some Jvm.ClassFile.FieldType.int), Jvm.Cond.code ({ cls := "java/util/Arrays", name := "copyOfRange", desc := "([BII)[B" } : Jvm.MethodName) jdk_65_method_132_code (3 : Nat) (Option.some (Jvm.ClassFile.FieldType.array Jvm.ClassFile.FieldType.byte)), Jvm.Cond.code ({ cls := "java/util/Arrays", name := "copyOfRangeByte", desc := "([BII)[B" } : Jvm.MethodName) jdk_65_method_133_code (5 : Nat) (Option.some (Jvm.ClassFile.FieldType.array Jvm.ClassFile.FieldType.byte)), Jvm.Cond.code ({ cls := "java/util/Arrays", name := "checkLength", desc := "(II)V" } : Jvm.MethodName) jdk_65_method_131_code (2 : Nat) (Option.none : Option Jvm.ClassFile.FieldType), Jvm.Cond.code ({ cls := "java/lang/Math", name := "min", desc := "(II)I" } : Jvm.MethodName) jdk_29_method_69_code (2 : Nat) (Option.some Jvm.ClassFile.FieldType.int), Jvm.Cond.code ({ cls := "java/lang/String", name := "equals", desc := "(Ljava/lang/Object;)Z" } : Jvm.MethodName) jdk_42_method_66_code (3 : Nat) (Option.some Jvm.ClassFile.FieldType.boolean), Jvm.Cond.code ({ cls := "java/lang/StringLatin1", name := "equals", desc := "([B[B)Z" } : Jvm.MethodName) jdk_43_method_13_code (3 : Nat) (Option.some Jvm.ClassFile.FieldType.boolean), Jvm.Cond.code ({ cls := "java/lang/StringUTF16", name := "toBytes", desc := "([CII)[B" } : Jvm.MethodName) jdk_52_method_14_code (5 : Nat) (Option.some (Jvm.ClassFile.FieldType.array Jvm.ClassFile.FieldType.byte)), Jvm.Cond.code ({ cls := "java/lang/StringUTF16", name := "newBytesFor", desc := "(I)[B" } : Jvm.MethodName) jdk_52_method_2_code (1 : Nat) (Option.some (Jvm.ClassFile.FieldType.array Jvm.ClassFile.FieldType.byte)), Jvm.Cond.code ({ cls := "java/lang/StringUTF16", name := "newBytesLength", desc := "(I)I" } : Jvm.MethodName) jdk_52_method_3_code (1 : Nat) (Option.some Jvm.ClassFile.FieldType.int), Jvm.Cond.code ({ cls := "java/lang/StringUTF16", name := "putChar", desc := "([BII)V" } : Jvm.MethodName) jdk_52_method_4_code (3 : Nat) (Option.none : Option Jvm.ClassFile.FieldType), Jvm.Cond.code ({ cls := "java/lang/StringUTF16", name := "getChar", desc := "([BI)C" } : Jvm.MethodName) jdk_52_method_5_code (2 : Nat) (Option.some Jvm.ClassFile.FieldType.char), Jvm.Cond.code ({ cls := "java/lang/StringUTF16", name := "codePointAt", desc := "([BII)I" } : Jvm.MethodName) jdk_52_method_8_code (3 : Nat) (Option.some Jvm.ClassFile.FieldType.int), Jvm.Cond.code ({ cls := "java/lang/StringUTF16", name := "codePointAt", desc := "([BIIZ)I" } : Jvm.MethodName) jdk_52_method_7_code (6 : Nat) (Option.some Jvm.ClassFile.FieldType.int), Jvm.Cond.code ({ cls := "java/lang/Character", name := "isHighSurrogate", desc := "(C)Z" } : Jvm.MethodName) jdk_89_method_14_code (1 : Nat) (Option.some Jvm.ClassFile.FieldType.boolean), Jvm.Cond.code ({ cls := "java/lang/Character", name := "isLowSurrogate", desc := "(C)Z" } : Jvm.MethodName) jdk_89_method_15_code (1 : Nat) (Option.some Jvm.ClassFile.FieldType.boolean), Jvm.Cond.code ({ cls := "java/lang/Character", name := "toCodePoint", desc := "(CC)I" } : Jvm.MethodName) jdk_89_method_19_code (2 : Nat) (Option.some Jvm.ClassFile.FieldType.int), Jvm.Cond.code ({ cls := "java/lang/AbstractStringBuilder", name := "inflate", desc := "()V" } : Jvm.MethodName) jdk_68_method_11_code (2 : Nat) (Option.none : Option Jvm.ClassFile.FieldType), Jvm.Cond.code ({ cls := "java/lang/StringLatin1", name := "inflate", desc := "([BI[BII)V" } : Jvm.MethodName) jdk_43_method_50_code (5 : Nat) (Option.none : Option Jvm.ClassFile.FieldType), Jvm.Cond.code ({ cls := "java/lang/StringUTF16", name := "inflate", desc := "([BI[BII)V" } : Jvm.MethodName) jdk_52_method_86_code (6 : Nat) (Option.none : Option Jvm.ClassFile.FieldType), Jvm.Cond.code ({ cls := "java/lang/StringUTF16", name := "checkBoundsOffCount", desc := "(II[B)V" } : Jvm.MethodName) jdk_52_method_94_code (3 : Nat) (Option.none : Option Jvm.ClassFile.FieldType), Jvm.Cond.code ({ cls := "java/lang/StringUTF16", name := "length", desc := "([B)I" } : Jvm.MethodName) jdk_52_method_6_code (1 : Nat) (Option.some Jvm.ClassFile.FieldType.int), Jvm.Cond.code ({ cls := "java/lang/String", name := "checkBoundsOffCount", desc := "(III)I" } : Jvm.MethodName) jdk_42_method_157_code (3 : Nat) (Option.some Jvm.ClassFile.FieldType.int), Jvm.Cond.code ({ cls := "jdk/internal/util/Preconditions", name := "checkFromIndexSize", desc := "(IIILjava/util/function/BiFunction;)I" } : Jvm.MethodName) jdk_41_method_13_code (4 : Nat) (Option.some Jvm.ClassFile.FieldType.int), Jvm.Cond.code ({ cls := "java/lang/StringUTF16", name := "putCharSB", desc := "([BII)V" } : Jvm.MethodName) jdk_52_method_71_code (3 : Nat) (Option.none : Option Jvm.ClassFile.FieldType), Jvm.Cond.code ({ cls := "java/lang/StringUTF16", name := "checkIndex", desc := "(I[B)V" } : Jvm.MethodName) jdk_52_method_91_code (2 : Nat) (Option.none : Option Jvm.ClassFile.FieldType), Jvm.Cond.code ({ cls := "java/lang/AbstractStringBuilder", name := "newCapacity", desc := "(I)I" } : Jvm.MethodName) jdk_68_method_10_code (6 : Nat) (Option.some Jvm.ClassFile.FieldType.int), Jvm.Cond.code ({ cls := "jdk/internal/util/ArraysSupport", name := "newLength", desc := "(III)I" } : Jvm.MethodName) jdk_48_method_27_code (4 : Nat) (Option.some Jvm.ClassFile.FieldType.int), Jvm.Cond.code ({ cls := "java/lang/Math", name := "max", desc := "(II)I" } : Jvm.MethodName) jdk_29_method_65_code (2 : Nat) (Option.some Jvm.ClassFile.FieldType.int), Jvm.Cond.code ({ cls := "java/util/Arrays", name := "copyOf", desc := "([BI)[B" } : Jvm.MethodName) jdk_65_method_121_code (3 : Nat) (Option.some (Jvm.ClassFile.FieldType.array Jvm.ClassFile.FieldType.byte))]
set_option maxRecDepth 65536 in
theorem codes_eq : words1.filter isCode = codes1 := rfl
theorem w_codes : ∀ c ∈ words1.filter isCode, c.before args0 about1 = true := by
  rw [codes_eq]
  intro c hc
  simp only [codes1, List.mem_cons, List.not_mem_nil, or_false] at hc
  rcases hc with rfl | rfl | rfl | rfl | rfl | rfl | rfl | rfl | rfl | rfl | rfl | rfl | rfl | rfl | rfl | rfl | rfl | rfl | rfl | rfl | rfl | rfl | rfl | rfl | rfl | rfl | rfl | rfl | rfl | rfl | rfl | rfl | rfl | rfl | rfl | rfl | rfl | rfl | rfl | rfl | rfl | rfl | rfl | rfl | rfl | rfl | rfl | rfl | rfl | rfl | rfl | rfl | rfl | rfl | rfl | rfl | rfl | rfl | rfl | rfl | rfl | rfl | rfl | rfl | rfl | rfl | rfl | rfl | rfl
  · exact w_c0
  · exact w_c1
  · exact w_c2
  · exact w_c3
  · exact w_c4
  · exact w_c5
  · exact w_c6
  · exact w_c7
  · exact w_c8
  · exact w_c9
  · exact w_c10
  · exact w_c11
  · exact w_c12
  · exact w_c13
  · exact w_c14
  · exact w_c15
  · exact w_c16
  · exact w_c17
  · exact w_c18
  · exact w_c19
  · exact w_c20
  · exact w_c21
  · exact w_c22
  · exact w_c23
  · exact w_c24
  · exact w_c25
  · exact w_c26
  · exact w_c27
  · exact w_c28
  · exact w_c29
  · exact w_c30
  · exact w_c31
  · exact w_c32
  · exact w_c33
  · exact w_c34
  · exact w_c35
  · exact w_c36
  · exact w_c37
  · exact w_c38
  · exact w_c39
  · exact w_c40
  · exact w_c41
  · exact w_c42
  · exact w_c43
  · exact w_c44
  · exact w_c45
  · exact w_c46
  · exact w_c47
  · exact w_c48
  · exact w_c49
  · exact w_c50
  · exact w_c51
  · exact w_c52
  · exact w_c53
  · exact w_c54
  · exact w_c55
  · exact w_c56
  · exact w_c57
  · exact w_c58
  · exact w_c59
  · exact w_c60
  · exact w_c61
  · exact w_c62
  · exact w_c63
  · exact w_c64
  · exact w_c65
  · exact w_c66
  · exact w_c67
  · exact w_c68
set_option maxRecDepth 65536 in
theorem w_t1 : (words1.take 24).all (fun c => isCode c || c.before args0 about1) = true := by decide +kernel
set_option maxRecDepth 65536 in
theorem w_t2 : ((words1.drop 24).take 24).all (fun c => isCode c || c.before args0 about1) = true := by decide +kernel
set_option maxRecDepth 65536 in
theorem w_t3 : (((words1.drop 24).drop 24).take 24).all (fun c => isCode c || c.before args0 about1) = true := by decide +kernel
set_option maxRecDepth 65536 in
theorem w_t4 : ((((words1.drop 24).drop 24).drop 24).take 24).all (fun c => isCode c || c.before args0 about1) = true := by decide +kernel
set_option maxRecDepth 65536 in
theorem w_t5 : (((((words1.drop 24).drop 24).drop 24).drop 24).take 24).all (fun c => isCode c || c.before args0 about1) = true := by decide +kernel
set_option maxRecDepth 65536 in
theorem w_t6 : ((((((words1.drop 24).drop 24).drop 24).drop 24).drop 24).take 24).all (fun c => isCode c || c.before args0 about1) = true := by decide +kernel
set_option maxRecDepth 65536 in
theorem w_t7 : (((((((words1.drop 24).drop 24).drop 24).drop 24).drop 24).drop 24).take 24).all (fun c => isCode c || c.before args0 about1) = true := by decide +kernel
set_option maxRecDepth 65536 in
theorem w_t8 : ((((((((words1.drop 24).drop 24).drop 24).drop 24).drop 24).drop 24).drop 24).take 24).all (fun c => isCode c || c.before args0 about1) = true := by decide +kernel
set_option maxRecDepth 65536 in
theorem w_t9 : (((((((((words1.drop 24).drop 24).drop 24).drop 24).drop 24).drop 24).drop 24).drop 24).take 24).all (fun c => isCode c || c.before args0 about1) = true := by decide +kernel
set_option maxRecDepth 65536 in
theorem w_t10 : ((((((((((words1.drop 24).drop 24).drop 24).drop 24).drop 24).drop 24).drop 24).drop 24).drop 24).take 24).all (fun c => isCode c || c.before args0 about1) = true := by decide +kernel
set_option maxRecDepth 65536 in
theorem w_t11 : (((((((((((words1.drop 24).drop 24).drop 24).drop 24).drop 24).drop 24).drop 24).drop 24).drop 24).drop 24).take 24).all (fun c => isCode c || c.before args0 about1) = true := by decide +kernel
set_option maxRecDepth 65536 in
theorem w_t12 : ((((((((((((words1.drop 24).drop 24).drop 24).drop 24).drop 24).drop 24).drop 24).drop 24).drop 24).drop 24).drop 24).take 24).all (fun c => isCode c || c.before args0 about1) = true := by decide +kernel
set_option maxRecDepth 65536 in
theorem w_t13 : (((((((((((((words1.drop 24).drop 24).drop 24).drop 24).drop 24).drop 24).drop 24).drop 24).drop 24).drop 24).drop 24).drop 24).take 24).all (fun c => isCode c || c.before args0 about1) = true := by decide +kernel
set_option maxRecDepth 65536 in
theorem w_t14 : (((((((((((((words1.drop 24).drop 24).drop 24).drop 24).drop 24).drop 24).drop 24).drop 24).drop 24).drop 24).drop 24).drop 24).drop 24).all (fun c => isCode c || c.before args0 about1) = true := by decide +kernel
theorem w_tables : (allAtoms (Jvm.Cond.code x code maxLocals ret :: tables_1)).before args0 about1 = true := by
  rw [allAtoms_all]
  show words1.all (fun c => c.before args0 about1) = true
  refine all_split ?_ w_codes
  rw [← List.take_append_drop 24 words1, List.all_append, w_t1, ← List.take_append_drop 24 (words1.drop 24), List.all_append, w_t2, ← List.take_append_drop 24 ((words1.drop 24).drop 24), List.all_append, w_t3, ← List.take_append_drop 24 (((words1.drop 24).drop 24).drop 24), List.all_append, w_t4, ← List.take_append_drop 24 ((((words1.drop 24).drop 24).drop 24).drop 24), List.all_append, w_t5, ← List.take_append_drop 24 (((((words1.drop 24).drop 24).drop 24).drop 24).drop 24), List.all_append, w_t6, ← List.take_append_drop 24 ((((((words1.drop 24).drop 24).drop 24).drop 24).drop 24).drop 24), List.all_append, w_t7, ← List.take_append_drop 24 (((((((words1.drop 24).drop 24).drop 24).drop 24).drop 24).drop 24).drop 24), List.all_append, w_t8, ← List.take_append_drop 24 ((((((((words1.drop 24).drop 24).drop 24).drop 24).drop 24).drop 24).drop 24).drop 24), List.all_append, w_t9, ← List.take_append_drop 24 (((((((((words1.drop 24).drop 24).drop 24).drop 24).drop 24).drop 24).drop 24).drop 24).drop 24), List.all_append, w_t10, ← List.take_append_drop 24 ((((((((((words1.drop 24).drop 24).drop 24).drop 24).drop 24).drop 24).drop 24).drop 24).drop 24).drop 24), List.all_append, w_t11, ← List.take_append_drop 24 (((((((((((words1.drop 24).drop 24).drop 24).drop 24).drop 24).drop 24).drop 24).drop 24).drop 24).drop 24).drop 24), List.all_append, w_t12, ← List.take_append_drop 24 ((((((((((((words1.drop 24).drop 24).drop 24).drop 24).drop 24).drop 24).drop 24).drop 24).drop 24).drop 24).drop 24).drop 24), List.all_append, w_t13, w_t14]
  rfl
set_option maxRecDepth 65536 in
theorem w_rest : rest_1_c.before args0 about1 = true := by decide +kernel
set_option maxRecDepth 65536 in
theorem w_case : (Jvm.Cond.and given_1 narrow_1).before args0 about1 = true := by decide +kernel
set_option maxRecDepth 65536 in
theorem w_consts : constsHeld consts_1 about1 := Jvm.Lit.constsHeldB_iff.mp (by decide +kernel)
theorem w_applies : (headSpec (Jvm.Cond.code x code maxLocals ret :: tables_1) room_1).applies x e0.platform about1 = true :=
  (Spec.applies_iff w_frames).mpr ⟨w_running, w_runnable, w_alone, w_named, w_hears, w_ripe, w_room, w_tables⟩
theorem atStart : AtStart classFile x code maxLocals ret World_1 tables_1 room_1 Calls_1 rest_1 Pre_1 launch0 p0 e0 about1 theMethod args0 below0 :=
  ⟨lists_1, trivial, launch0.admits_env _ _ _, launch0.least_env, fairChoices_fair.cas, fairChoices_fair.clock, w_frames, w_args, w_heap, w_applies, ⟨w_consts, trivial⟩, w_rest, w_case⟩
end start1
theorem witness_1 : WitnessClaimed_1 := ⟨start1.p0, start1.e0, start1.about1, start1.theMethod, start1.args0, start1.below0, start1.atStart⟩
end Jvm.Pilot.@@N@@
