import JvmDerived
import JvmDerived.Pilot.@@N@@Statement
import JvmDerived.Pilot.@@N@@Code
set_option linter.unusedVariables false
set_option linter.unusedSimpArgs false
@@BLOCK:NumsL.lean.txt@@
namespace Jvm.Pilot.@@N@@
open Jvm Jvm.ClassFile Sem Op Lib Jvm.Free Jvm.Stand Jvm.LawKit Jvm.RoadKit Bundle Jvm.Pilot.@@N@@.Jvm.D
set_option maxRecDepth 65536
set_option maxHeartbeats 40000000
abbrev HWt (a0 : Array Value) (Z : State) : Prop := ∀ d ∈ tables_1, d.before a0 Z = true
abbrev Met (l : Launch) (y : MethodName) (K : List Jvm.Cond) (r : Room) (A : Array Value) (Z : State) (h0 : Heap) (Q : Option Value → Heap → List Loc → Prop) : Prop := MetFree l y (head1 K r) (fun a U => a = A ∧ Z.Warmed39 U.vm ∧ U.heap = h0) (fun _ _ _ _ _ => True) (fun _ U o U' => ∃ v L, o = .returned v ∧ Q v U'.heap L ∧ FrameEnd U o U' L r.cells r.slots)
theorem own_fc {s : State} {v v' : Vm} {n : String} {c : ClassId} (h : (s.setVm v).Warmed39 v') (q : v.findClass n = some c) : v'.findClass n = some c := by rw [h.alike.findClass]; exact q
theorem hwi {a0 : Array Value} {Z : State} (hw : HWt a0 Z) (i : Nat) {d : Jvm.Cond} (h : tables_1[i]? = some d) : d.before a0 Z = true := hw _ (List.mem_of_getElem? h)
theorem dq {code : ByteArray} {L : List (Nat × Instr × Nat)} (h : ∀ x ∈ L, decode code x.1 = .ok (x.2.1, x.2.2)) (i pc : Nat) {op : Instr} {ln : Nat} (e : L[i]? = some (pc, op, ln)) : decode code pc = .ok (op, ln) := h (pc, op, ln) (List.mem_of_getElem? e)
/-! the walk in continuation form: from T with the frame g on top the run comes to an end that says Q -/
def Go (p : Program) (e : Env) (below : List Frame) (s : State) (C S : Nat) (Q : Option Value → Heap → List Loc → Prop) (T : State) (g : JFrame) : Prop :=
  ∃ s₂ o, Steps p.tables e below (T.setTop g) s₂ ∧ s₂.status = .running ∧ Ended s₂ below o ∧ ∃ v L, o = .returned v ∧ Q v s₂.heap L ∧ FrameEnd s o s₂ L C S
section GoKit
variable {p : Program} {l : Launch} {e : Env} {R : Room} {s : State} {m : MethodId} {args : Array Value} {below : List Frame} {meth : Method} {c : Code} {T T' : State} {g g' : JFrame} {locs : List Loc} {cells slots C S : Nat} {Q : Option Value → Heap → List Loc → Prop} {Z : State} {h h' : Heap} {n0 : Nat}
theorem Go.st (st : ∀ t, Steps p.tables e below (T'.setTop g') t → Steps p.tables e below (T.setTop g) t) (k : Go p e below s C S Q T' g') : Go p e below s C S Q T g := by
  obtain ⟨s₂, o, h1, h2⟩ := k; exact ⟨s₂, o, st _ h1, h2⟩
theorem Go.tr (st : Steps p.tables e below (T.setTop g) (T'.setTop g')) (k : Go p e below s C S Q T' g') : Go p e below s C S Q T g := by
  obtain ⟨s₂, o, h1, h2⟩ := k; exact ⟨s₂, o, st.trans h1, h2⟩
theorem Go.eq (q : g = g') (k : Go p e below s C S Q T g') : Go p e below s C S Q T g := q ▸ k
theorem Go.fin (X : Stand p l e R s m args below meth c T locs cells slots) (hlk : meth.locks = false) {v : Option Value} (hv : meth.sig.returnType = none → v = none) (hc : cells ≤ C) (hs : slots ≤ S) (q : Q v T.heap locs)
    (k : ∀ fs, (∀ (f : JFrame) (acts : List Action), f.method = m → f.locked = none → f.entered = [] → (doReturn e (T.setTop f) acts v).1 = T.setFrames fs) → Steps p.tables e below (T.setTop g) (T.setFrames fs)) : Go p e below s C S Q T g := by
  obtain ⟨fs, hr, hrun, hended, hW, hsame⟩ := X.leave (v := v) hv hlk
  exact ⟨_, _, k fs hr, hrun, hended, _, _, rfl, q, ⟨_, rfl⟩, hW, hsame.mono hc hs⟩
theorem Go.retN (X : Stand p l e R s m args below meth c T locs cells slots) (hlk : meth.locks = false) (hx : p.tables.exec = Jvm.exec) {pc : Nat} {Ls : Array Slot} {z z' : Int32} {t : FieldType} {rest : List Value} (hret : meth.sig.returnType = some t) (ht : t = .boolean ∨ t = .byte ∨ t = .char ∨ t = .short)
    (hd : decode c.code pc = .ok (.ireturn, 1)) (hc : cells ≤ C) (hs : slots ≤ S) (hz : nar t z = z') (q : Q (some (.int z')) T.heap locs) : Go p e below s C S Q T (mkF m pc Ls (.int z :: rest)) := by
  subst hz
  exact Go.fin X hlk (fun h => by rw [hret] at h; cases h) hc hs q fun fs hr => Jvm.RoadKit.retN X hx hret ht hd hr
theorem Go.retV (X : Stand p l e R s m args below meth c T locs cells slots) (hlk : meth.locks = false) (hx : p.tables.exec = Jvm.exec) {pc : Nat} {Ls : Array Slot} {w : Value} {t : FieldType} {i : Instr} {rest : List Value} (hret : meth.sig.returnType = some t) (hn : narrow t w = w)
    (hi : (i = .ireturn ∧ (t = .int ∨ t = .boolean ∨ t = .byte ∨ t = .char ∨ t = .short) ∧ ∃ z, w = .int z) ∨ (i = .lreturn ∧ t = .long ∧ ∃ z, w = .long z) ∨ (i = .dreturn ∧ t = .double ∧ ∃ z, w = .double z) ∨ (i = .freturn ∧ t = .float ∧ ∃ z, w = .float z) ∨ (i = .areturn ∧ t.isReference = true ∧ w.isRef = true))
    (hd : decode c.code pc = .ok (i, 1)) (hc : cells ≤ C) (hs : slots ≤ S) (q : Q (some w) T.heap locs) : Go p e below s C S Q T (mkF m pc Ls (w :: rest)) :=
  Go.fin X hlk (fun h => by rw [hret] at h; cases h) hc hs q fun fs hr => Jvm.RoadKit.retOut X hx hret hn hi hd hr
theorem Go.retR (X : Stand p l e R s m args below meth c T locs cells slots) (hlk : meth.locks = false) (hx : p.tables.exec = Jvm.exec) {pc : Nat} {Ls : Array Slot} {w : Value} {t : FieldType} {rest : List Value} (hret : meth.sig.returnType = some t) (ht : t.isReference = true) (hw : w.isRef = true) (hn : narrow t w = w)
    (hd : decode c.code pc = .ok (.areturn, 1)) (hc : cells ≤ C) (hs : slots ≤ S) (q : Q (some w) T.heap locs) : Go p e below s C S Q T (mkF m pc Ls (w :: rest)) :=
  Go.retV X hlk hx hret hn (Or.inr (Or.inr (Or.inr (Or.inr ⟨rfl, ht, hw⟩)))) hd hc hs q
theorem Go.retI (X : Stand p l e R s m args below meth c T locs cells slots) (hlk : meth.locks = false) (hx : p.tables.exec = Jvm.exec) {pc : Nat} {Ls : Array Slot} {z : Int32} {rest : List Value} (hret : meth.sig.returnType = some .int)
    (hd : decode c.code pc = .ok (.ireturn, 1)) (hc : cells ≤ C) (hs : slots ≤ S) (q : Q (some (.int z)) T.heap locs) : Go p e below s C S Q T (mkF m pc Ls (.int z :: rest)) :=
  Go.retV X hlk hx hret rfl (Or.inl ⟨rfl, Or.inl rfl, z, rfl⟩) hd hc hs q
theorem Go.ret0 (X : Stand p l e R s m args below meth c T locs cells slots) (hlk : meth.locks = false) (hx : p.tables.exec = Jvm.exec) {pc : Nat} {Ls : Array Slot} (hret : meth.sig.returnType = none)
    (hd : decode c.code pc = .ok (.return_, 1)) (hc : cells ≤ C) (hs : slots ≤ S) (q : Q none T.heap locs) : Go p e below s C S Q T (mkF m pc Ls []) :=
  Go.fin X hlk (fun _ => rfl) hc hs q fun fs hr => X.returnOut hx hret hd hr
theorem own_le (O : Old Z n0 h) : n0 ≤ h.size := O.1 ▸ O.2.1
theorem own_ext {ws : List Addr} (K : Keep h h' ws) (q : ∀ x ∈ ws, h.size ≤ x) : Ext h h' := ⟨K.1, fun x c r => K.2.1 x c r fun z => absurd (Array.getElem?_eq_some_iff.mp r).1 (Nat.not_lt.mpr (q x z))⟩
theorem own_ext0 (K : Keep h h' []) : Ext h h' := own_ext K all0
theorem Go.pure {w : Option Value} {Qc : Option Value → Heap → List Loc → Prop} {rest : List Value} {pc' : Nat} (H : ∃ (v : Option Value) (vm₁ : Vm) (B : Pt), s.WarmedH vm₁ ∧ Stand p l e R s m args below meth c B.U B.locs B.cells B.slots ∧ (∃ L, Qc v B.U.heap L ∧ B.locs = locs ++ L ∧ B.cells = cells + 0 ∧ B.slots = slots + 0) ∧ Steps p.tables e below (T.setTop g) (B.U.setTop { g with pc := pc', stack := v.toList ++ rest })) (hq : ∀ v h' L, Qc v h' L → v = w ∧ Fr n0 L ∧ h' = h) (N : Fr n0 locs)
    (k : ∀ T' L', Stand p l e R s m args below meth c T' L' cells slots → T'.heap = h → Fr n0 L' → Go p e below s C S Q T' { g with pc := pc', stack := w.toList ++ rest }) : Go p e below s C S Q T g := by
  obtain ⟨v, vm1, ⟨T', L', c', s'⟩, -, X, ⟨L, q, e1, e2, e3⟩, st⟩ := H
  obtain ⟨rfl, q2, q3⟩ := hq _ _ _ q
  dsimp only [Pt.U, Pt.locs, Pt.cells, Pt.slots] at X e1 e2 e3 st q3
  subst e1 e2 e3
  exact Go.tr st (k _ _ X q3 (Fr.app N q2))
theorem Go.pureS {w : Option Value} {Qc : Option Value → Heap → List Loc → Prop} {rest : List Value} {pc' : Nat} (H : ∃ (v : Option Value) (vm₁ : Vm) (B : Pt), s.WarmedH vm₁ ∧ Stand p l e R s m args below meth c B.U B.locs B.cells B.slots ∧ (∃ L, Qc v B.U.heap L ∧ B.locs = locs ++ L ∧ B.cells = cells + 0 ∧ B.slots = slots + 0) ∧ ∀ target, Steps p.tables e below (B.U.setTop { g with pc := pc', stack := v.toList ++ rest }) target → Steps p.tables e below (T.setTop g) target) (hq : ∀ v h' L, Qc v h' L → v = w ∧ Fr n0 L ∧ h' = h) (N : Fr n0 locs)
    (k : ∀ T' L', Stand p l e R s m args below meth c T' L' cells slots → T'.heap = h → Fr n0 L' → Go p e below s C S Q T' { g with pc := pc', stack := w.toList ++ rest }) : Go p e below s C S Q T g := by
  obtain ⟨v, vm1, ⟨T', L', c', s'⟩, -, X, ⟨L, q, e1, e2, e3⟩, st⟩ := H
  obtain ⟨rfl, q2, q3⟩ := hq _ _ _ q
  dsimp only [Pt.U, Pt.locs, Pt.cells, Pt.slots] at X e1 e2 e3 st q3
  subst e1 e2 e3
  exact Go.st st (k _ _ X q3 (Fr.app N q2))
end GoKit
abbrev mY0 : MethodName := ⟨"java/lang/String", "coder", "()B"⟩
abbrev mY1 : MethodName := ⟨"java/lang/String", "length", "()I"⟩
abbrev mY2 : MethodName := ⟨"java/lang/String", "getBytes", "([BIB)V"⟩
abbrev mY3 : MethodName := ⟨"java/lang/AbstractStringBuilder", "inflateIfNeededFor", "(Ljava/lang/String;)V"⟩
abbrev mY4 : MethodName := ⟨"java/lang/AbstractStringBuilder", "putStringAt", "(ILjava/lang/String;)V"⟩
abbrev mY5 : MethodName := ⟨"java/lang/Math", "max", "(II)I"⟩
abbrev mY6 : MethodName := ⟨"java/lang/Math", "min", "(II)I"⟩
abbrev mY7 : MethodName := ⟨"jdk/internal/util/ArraysSupport", "newLength", "(III)I"⟩
abbrev mY8 : MethodName := ⟨"java/lang/AbstractStringBuilder", "newCapacity", "(I)I"⟩
abbrev mY9 : MethodName := ⟨"java/util/Arrays", "copyOf", "([BI)[B"⟩
abbrev mY10 : MethodName := ⟨"java/lang/AbstractStringBuilder", "ensureCapacityInternal", "(I)V"⟩
abbrev mY11 : MethodName := ⟨"java/lang/AbstractStringBuilder", "append", "(Ljava/lang/String;)Ljava/lang/AbstractStringBuilder;"⟩
abbrev mY12 : MethodName := ⟨"java/lang/StringBuilder", "append", "(Ljava/lang/String;)Ljava/lang/StringBuilder;"⟩
abbrev mY13 : MethodName := ⟨"java/lang/AbstractStringBuilder", "<init>", "(I)V"⟩
abbrev mY14 : MethodName := ⟨"java/lang/StringBuilder", "<init>", "()V"⟩
abbrev mY15 : MethodName := ⟨"java/lang/AbstractStringBuilder", "getValue", "()[B"⟩
abbrev mY16 : MethodName := ⟨"java/lang/AbstractStringBuilder", "length", "()I"⟩
abbrev mY17 : MethodName := ⟨"java/lang/StringBuilder", "length", "()I"⟩
abbrev mY18 : MethodName := ⟨"java/lang/AbstractStringBuilder", "isLatin1", "()Z"⟩
abbrev mY19 : MethodName := ⟨"java/util/Arrays", "checkLength", "(II)V"⟩
abbrev mY20 : MethodName := ⟨"java/util/Arrays", "copyOfRangeByte", "([BII)[B"⟩
abbrev mY21 : MethodName := ⟨"java/util/Arrays", "copyOfRange", "([BII)[B"⟩
abbrev mY22 : MethodName := ⟨"java/lang/String", "<init>", "(Ljava/lang/AbstractStringBuilder;Ljava/lang/Void;)V"⟩
abbrev mY23 : MethodName := ⟨"java/lang/String", "<init>", "(Ljava/lang/StringBuilder;)V"⟩
abbrev mY24 : MethodName := ⟨"java/lang/StringBuilder", "toString", "()Ljava/lang/String;"⟩
abbrev mY25 : MethodName := ⟨"jdk/internal/util/Preconditions", "checkIndex", "(IILjava/util/function/BiFunction;)I"⟩
abbrev mY26 : MethodName := ⟨"java/lang/String", "checkIndex", "(II)V"⟩
abbrev mY27 : MethodName := ⟨"java/lang/StringLatin1", "charAt", "([BI)C"⟩
abbrev mY28 : MethodName := ⟨"java/lang/String", "isLatin1", "()Z"⟩
abbrev mY29 : MethodName := ⟨"java/lang/String", "charAt", "(I)C"⟩
abbrev mY30 : MethodName := ⟨"java/lang/StringUTF16", "compress", "([CI[BII)I"⟩
abbrev mY31 : MethodName := ⟨"java/lang/StringUTF16", "putChar", "([BII)V"⟩
abbrev mY32 : MethodName := ⟨"java/lang/StringUTF16", "newBytesLength", "(I)I"⟩
abbrev mY33 : MethodName := ⟨"java/lang/StringUTF16", "newBytesFor", "(I)[B"⟩
abbrev mY34 : MethodName := ⟨"java/lang/StringUTF16", "toBytes", "([CII)[B"⟩
abbrev mY35 : MethodName := ⟨"java/lang/StringUTF16", "getChar", "([BI)C"⟩
abbrev mY36 : MethodName := ⟨"java/lang/StringUTF16", "compress", "([CII)[B"⟩
abbrev mY37 : MethodName := ⟨"java/lang/StringUTF16", "coderFromArrayLen", "([BI)B"⟩
abbrev mY38 : MethodName := ⟨"java/lang/String", "<init>", "([CIILjava/lang/Void;)V"⟩
abbrev mY39 : MethodName := ⟨"java/lang/String", "<init>", "([C)V"⟩
abbrev mY40 : MethodName := ⟨"java/lang/StringUTF16", "length", "([B)I"⟩
abbrev mY41 : MethodName := ⟨"jdk/internal/util/Preconditions", "checkFromIndexSize", "(IIILjava/util/function/BiFunction;)I"⟩
abbrev mY42 : MethodName := ⟨"java/lang/String", "checkBoundsOffCount", "(III)I"⟩
abbrev mY43 : MethodName := ⟨"java/lang/StringUTF16", "checkBoundsOffCount", "(II[B)V"⟩
abbrev mY44 : MethodName := ⟨"java/lang/StringUTF16", "inflate", "([BI[BII)V"⟩
abbrev mY45 : MethodName := ⟨"java/lang/StringLatin1", "inflate", "([BI[BII)V"⟩
abbrev mY46 : MethodName := ⟨"java/lang/AbstractStringBuilder", "inflate", "()V"⟩
abbrev mY47 : MethodName := ⟨"java/lang/StringUTF16", "checkIndex", "(I[B)V"⟩
abbrev mY48 : MethodName := ⟨"java/lang/StringUTF16", "charAt", "([BI)C"⟩
abbrev mY49 : MethodName := ⟨"java/lang/Throwable", "<init>", "(Ljava/lang/String;)V"⟩
abbrev mY50 : MethodName := ⟨"java/lang/Exception", "<init>", "(Ljava/lang/String;)V"⟩
abbrev mY51 : MethodName := ⟨"java/lang/RuntimeException", "<init>", "(Ljava/lang/String;)V"⟩
abbrev mY52 : MethodName := ⟨"com/example/keyset/keyset/query/DeclarationException", "<init>", "(Ljava/lang/String;)V"⟩
abbrev mY53 : MethodName := ⟨"com/example/keyset/keyset/query/DeclarationExceptionForResourcePinLaw", "mk", "(II)Ljava/lang/String;"⟩
abbrev mY54 : MethodName := ⟨"com/example/keyset/keyset/query/DeclarationException", "forResource", "(Ljava/lang/String;Ljava/lang/String;)Lcom/example/keyset/keyset/query/DeclarationException;"⟩
abbrev mY55 : MethodName := ⟨"java/lang/Throwable", "getMessage", "()Ljava/lang/String;"⟩
abbrev mY56 : MethodName := ⟨"com/example/keyset/keyset/query/DeclarationExceptionForResourcePinLaw", "exp", "(ILjava/lang/String;Ljava/lang/String;)C"⟩
abbrev mY57 : MethodName := ⟨"com/example/keyset/keyset/query/DeclarationExceptionForResourcePinLaw", "ok", "(Ljava/lang/String;ILjava/lang/String;Ljava/lang/String;)Z"⟩
abbrev mY58 : MethodName := ⟨"com/example/keyset/keyset/query/DeclarationException", "getMessage", "()Ljava/lang/String;"⟩
abbrev rz0_0_0_0 : Room := { frames := 0, cells := 0, slots := 0, locals := 0 }
abbrev rz1_0_0_13 : Room := { frames := 1, cells := 0, slots := 0, locals := 13 }
abbrev rz1_0_0_18 : Room := { frames := 1, cells := 0, slots := 0, locals := 18 }
abbrev rz2_0_0_33 : Room := { frames := 2, cells := 0, slots := 0, locals := 33 }
abbrev rz1_0_0_14 : Room := { frames := 1, cells := 0, slots := 0, locals := 14 }
abbrev rz2_0_0_29 : Room := { frames := 2, cells := 0, slots := 0, locals := 29 }
abbrev rz1_1_176_18 : Room := { frames := 1, cells := 1, slots := 176, locals := 18 }
abbrev rz3_1_176_48 : Room := { frames := 3, cells := 1, slots := 176, locals := 48 }
abbrev rz1_1_16_12 : Room := { frames := 1, cells := 1, slots := 16, locals := 12 }
abbrev rz2_1_16_25 : Room := { frames := 2, cells := 1, slots := 16, locals := 25 }
abbrev rz1_0_0_12 : Room := { frames := 1, cells := 0, slots := 0, locals := 12 }
abbrev rz1_1_128_18 : Room := { frames := 1, cells := 1, slots := 128, locals := 18 }
abbrev rz2_1_128_34 : Room := { frames := 2, cells := 1, slots := 128, locals := 34 }
abbrev rz3_1_128_49 : Room := { frames := 3, cells := 1, slots := 128, locals := 49 }
abbrev rz4_1_128_65 : Room := { frames := 4, cells := 1, slots := 128, locals := 65 }
abbrev rz5_2_132_79 : Room := { frames := 5, cells := 2, slots := 132, locals := 79 }
abbrev rz2_0_0_27 : Room := { frames := 2, cells := 0, slots := 0, locals := 27 }
abbrev rz3_0_0_40 : Room := { frames := 3, cells := 0, slots := 0, locals := 40 }
abbrev rz1_1_128_12 : Room := { frames := 1, cells := 1, slots := 128, locals := 12 }
abbrev rz2_1_128_24 : Room := { frames := 2, cells := 1, slots := 128, locals := 24 }
abbrev rz3_2_192_40 : Room := { frames := 3, cells := 2, slots := 192, locals := 40 }
abbrev rz4_2_192_60 : Room := { frames := 4, cells := 2, slots := 192, locals := 60 }
abbrev rz5_2_192_77 : Room := { frames := 5, cells := 2, slots := 192, locals := 77 }
abbrev rz1_0_0_15 : Room := { frames := 1, cells := 0, slots := 0, locals := 15 }
abbrev rz3_0_0_43 : Room := { frames := 3, cells := 0, slots := 0, locals := 43 }
abbrev rz4_0_0_60 : Room := { frames := 4, cells := 0, slots := 0, locals := 60 }
abbrev rz5_1_128_76 : Room := { frames := 5, cells := 1, slots := 128, locals := 76 }
abbrev rz2_0_0_25 : Room := { frames := 2, cells := 0, slots := 0, locals := 25 }
abbrev rz6_1_128_90 : Room := { frames := 6, cells := 1, slots := 128, locals := 90 }
abbrev rz5_0_0_76 : Room := { frames := 5, cells := 0, slots := 0, locals := 76 }
abbrev rz6_0_0_91 : Room := { frames := 6, cells := 0, slots := 0, locals := 91 }
abbrev rz7_1_128_105 : Room := { frames := 7, cells := 1, slots := 128, locals := 105 }
abbrev rz8_2_304_120 : Room := { frames := 8, cells := 2, slots := 304, locals := 120 }
abbrev rz9_2_304_134 : Room := { frames := 9, cells := 2, slots := 304, locals := 134 }
abbrev rz4_0_0_53 : Room := { frames := 4, cells := 0, slots := 0, locals := 53 }
abbrev rz1_4_8_12 : Room := { frames := 1, cells := 4, slots := 8, locals := 12 }
abbrev rz2_4_8_29 : Room := { frames := 2, cells := 4, slots := 8, locals := 29 }
abbrev rz3_1_2752_42 : Room := { frames := 3, cells := 1, slots := 2752, locals := 42 }
abbrev rz4_1_2752_55 : Room := { frames := 4, cells := 1, slots := 2752, locals := 55 }
abbrev rz5_1_2752_68 : Room := { frames := 5, cells := 1, slots := 2752, locals := 68 }
abbrev rz6_1_2752_81 : Room := { frames := 6, cells := 1, slots := 2752, locals := 81 }
abbrev rz6_6_260_92 : Room := { frames := 6, cells := 6, slots := 260, locals := 92 }
abbrev rz10_20_4600_160 : Room := { frames := 10, cells := 20, slots := 4600, locals := 160 }
abbrev rz5_2_44_70 : Room := { frames := 5, cells := 2, slots := 44, locals := 70 }
abbrev rz5_2_16_70 : Room := { frames := 5, cells := 2, slots := 16, locals := 70 }
abbrev rz5_0_0_70 : Room := { frames := 5, cells := 0, slots := 0, locals := 70 }
abbrev rz6_2_44_90 : Room := { frames := 6, cells := 2, slots := 44, locals := 90 }
abbrev rz6_2_16_90 : Room := { frames := 6, cells := 2, slots := 16, locals := 90 }
abbrev rz6_0_0_90 : Room := { frames := 6, cells := 0, slots := 0, locals := 90 }
theorem dz1 : ∀ x ∈ ([(0, .iload_n 1, 1), (1, .ifCond .ne 14, 3), (4, .new 7, 3), (7, .dup, 1), (8, .iconst 0, 1), (9, .newarray .char, 2), (11, .invokespecial 9, 3), (14, .areturn, 1), (15, .iload_n 1, 1), (16, .iconst 1, 1), (17, .if_icmp .ne 19, 3), (20, .new 7, 3), (23, .dup, 1), (24, .iconst 1, 1), (25, .newarray .char, 2), (27, .dup, 1), (28, .iconst 0, 1), (29, .iload_n 0, 1), (30, .i2c, 1), (31, .castore, 1), (32, .invokespecial 9, 3), (35, .areturn, 1), (36, .new 7, 3), (39, .dup, 1), (40, .iconst 2, 1), (41, .newarray .char, 2), (43, .dup, 1), (44, .iconst 0, 1), (45, .iload_n 0, 1), (46, .i2c, 1), (47, .castore, 1), (48, .dup, 1), (49, .iconst 1, 1), (50, .iload_n 0, 1), (51, .bipush 16, 2), (53, .iushr, 1), (54, .i2c, 1), (55, .castore, 1), (56, .invokespecial 9, 3), (59, .areturn, 1)] : List (Nat × Instr × Nat)), decode method_2_code x.1 = .ok (x.2.1, x.2.2) := by decide +kernel
theorem dz2 : ∀ x ∈ ([(0, .aload_n 0, 1), (1, .aload_n 1, 1), (2, .iconst 0, 1), (3, .aload_n 1, 1), (4, .arraylength, 1), (5, .aconst_null, 1), (6, .invokespecial 27, 3), (9, .return_, 1)] : List (Nat × Instr × Nat)), decode jdk_42_method_3_code x.1 = .ok (x.2.1, x.2.2) := by decide +kernel
theorem dz3 : ∀ x ∈ ([(0, .aload_n 0, 1), (1, .invokespecial 1, 3), (4, .iload_n 3, 1), (5, .ifCond .ne 22, 3), (27, .getstatic 38, 3), (30, .ifCond .eq 28, 3), (33, .aload_n 1, 1), (34, .iload_n 2, 1), (35, .iload_n 3, 1), (36, .invokestatic 177, 3), (39, .astore 5, 2), (41, .aload_n 0, 1), (42, .aload 5, 2), (44, .iload_n 3, 1), (45, .invokestatic 47, 3), (48, .putfield 15, 3), (51, .aload_n 0, 1), (52, .aload 5, 2), (54, .putfield 9, 3), (57, .return_, 1), (8, .aload_n 0, 1), (9, .ldc 7, 2), (11, .getfield 9, 3), (14, .putfield 9, 3), (17, .aload_n 0, 1), (18, .ldc 7, 2), (20, .getfield 15, 3), (23, .putfield 15, 3), (26, .return_, 1)] : List (Nat × Instr × Nat)), decode jdk_42_method_149_code x.1 = .ok (x.2.1, x.2.2) := by decide +kernel
theorem dz5 : ∀ x ∈ ([(0, .iload_n 2, 1), (1, .newarray .byte, 2), (3, .astore_n 3, 1), (4, .aload_n 0, 1), (5, .iload_n 1, 1), (6, .aload_n 3, 1), (7, .iconst 0, 1), (8, .iload_n 2, 1), (9, .invokestatic 115, 3), (12, .istore 4, 2), (14, .iload 4, 2), (16, .iload_n 2, 1), (17, .if_icmp .eq 40, 3), (57, .aload_n 3, 1), (58, .areturn, 1), (20, .aload_n 0, 1), (21, .iload_n 1, 1), (22, .iload_n 2, 1), (23, .invokestatic 119, 3), (26, .astore 5, 2), (28, .aload 5, 2), (30, .iload 4, 2), (32, .invokestatic 71, 3), (35, .sipush 255, 3), (38, .if_icmp .gt 16, 3), (54, .aload 5, 2), (56, .areturn, 1)] : List (Nat × Instr × Nat)), decode jdk_52_method_16_code x.1 = .ok (x.2.1, x.2.2) := by decide +kernel
theorem dz6 : ∀ x ∈ ([(0, .iconst 0, 1), (1, .istore 5, 2), (3, .iload 5, 2), (5, .iload 4, 2), (7, .if_icmp .ge 37, 3), (44, .iload 4, 2), (46, .ireturn, 1), (10, .aload_n 0, 1), (11, .iload_n 1, 1), (12, .caload, 1), (13, .istore 6, 2), (15, .iload 6, 2), (17, .sipush 255, 3), (20, .if_icmp .le 6, 3), (23, .iload 5, 2), (25, .ireturn, 1), (26, .aload_n 2, 1), (27, .iload_n 3, 1), (28, .iload 6, 2), (30, .i2b, 1), (31, .bastore, 1), (32, .iinc 1 1, 3), (35, .iinc 3 1, 3), (38, .iinc 5 1, 3), (41, .goto (-38), 3)] : List (Nat × Instr × Nat)), decode jdk_52_method_21_code x.1 = .ok (x.2.1, x.2.2) := by decide +kernel
theorem dz7 : ∀ x ∈ ([(0, .iload_n 1, 1), (1, .aload_n 0, 1), (2, .arraylength, 1), (3, .isub, 1), (4, .bipush 31, 2), (6, .iushr, 1), (7, .i2b, 1), (8, .ireturn, 1)] : List (Nat × Instr × Nat)), decode jdk_52_method_15_code x.1 = .ok (x.2.1, x.2.2) := by decide +kernel
theorem dz8 : ∀ x ∈ ([(0, .new 7, 3), (3, .dup, 1), (4, .new 9, 3), (7, .dup, 1), (8, .invokespecial 11, 3), (11, .ldc 14, 2), (13, .invokevirtual 16, 3), (16, .aload_n 0, 1), (17, .invokevirtual 16, 3), (20, .ldc 20, 2), (22, .invokevirtual 16, 3), (25, .aload_n 1, 1), (26, .invokevirtual 16, 3), (29, .invokevirtual 22, 3), (32, .invokespecial 26, 3), (35, .areturn, 1)] : List (Nat × Instr × Nat)), decode prog_2_method_2_code x.1 = .ok (x.2.1, x.2.2) := by decide +kernel
theorem dz9 : ∀ x ∈ ([(0, .aload_n 0, 1), (1, .bipush 16, 2), (3, .invokespecial 1, 3), (6, .return_, 1)] : List (Nat × Instr × Nat)), decode jdk_67_method_1_code x.1 = .ok (x.2.1, x.2.2) := by decide +kernel
theorem dz10 : ∀ x ∈ ([(0, .aload_n 0, 1), (1, .invokespecial 3, 3), (4, .getstatic 18, 3), (7, .ifCond .eq 18, 3), (10, .aload_n 0, 1), (11, .iload_n 1, 1), (12, .newarray .byte, 2), (14, .putfield 15, 3), (17, .aload_n 0, 1), (18, .iconst 0, 1), (19, .putfield 22, 3), (22, .goto 16, 3), (38, .return_, 1)] : List (Nat × Instr × Nat)), decode jdk_68_method_2_code x.1 = .ok (x.2.1, x.2.2) := by decide +kernel
theorem dz11 : ∀ x ∈ ([(0, .aload_n 0, 1), (1, .aload_n 1, 1), (2, .invokespecial 29, 3), (5, .pop, 1), (6, .aload_n 0, 1), (7, .areturn, 1)] : List (Nat × Instr × Nat)), decode jdk_67_method_7_code x.1 = .ok (x.2.1, x.2.2) := by decide +kernel
theorem dz12 : ∀ x ∈ ([(0, .aload_n 1, 1), (1, .ifnonnull 8, 3), (9, .aload_n 1, 1), (10, .invokevirtual 32, 3), (13, .istore_n 2, 1), (14, .aload_n 0, 1), (15, .aload_n 0, 1), (16, .getfield 79, 3), (19, .iload_n 2, 1), (20, .iadd, 1), (21, .invokevirtual 100, 3), (24, .aload_n 0, 1), (25, .aload_n 0, 1), (26, .getfield 79, 3), (29, .aload_n 1, 1), (30, .invokevirtual 208, 3), (33, .aload_n 0, 1), (34, .dup, 1), (35, .getfield 79, 3), (38, .iload_n 2, 1), (39, .iadd, 1), (40, .putfield 79, 3), (43, .aload_n 0, 1), (44, .areturn, 1)] : List (Nat × Instr × Nat)), decode jdk_68_method_22_code x.1 = .ok (x.2.1, x.2.2) := by decide +kernel
theorem dz13 : ∀ x ∈ ([(0, .aload_n 0, 1), (1, .getfield 9, 3), (4, .arraylength, 1), (5, .aload_n 0, 1), (6, .invokevirtual 335, 3), (9, .ishr, 1), (10, .ireturn, 1)] : List (Nat × Instr × Nat)), decode jdk_42_method_54_code x.1 = .ok (x.2.1, x.2.2) := by decide +kernel
theorem dz14 : ∀ x ∈ ([(0, .getstatic 38, 3), (3, .ifCond .eq 10, 3), (6, .aload_n 0, 1), (7, .getfield 15, 3), (10, .goto 4, 3), (14, .ireturn, 1)] : List (Nat × Instr × Nat)), decode jdk_42_method_152_code x.1 = .ok (x.2.1, x.2.2) := by decide +kernel
theorem dz15 : ∀ x ∈ ([(0, .aload_n 0, 1), (1, .getfield 15, 3), (4, .arraylength, 1), (5, .aload_n 0, 1), (6, .getfield 22, 3), (9, .ishr, 1), (10, .istore_n 2, 1), (11, .iload_n 1, 1), (12, .iload_n 2, 1), (13, .isub, 1), (14, .ifCond .le 24, 3), (38, .return_, 1), (17, .aload_n 0, 1), (18, .aload_n 0, 1), (19, .getfield 15, 3), (22, .aload_n 0, 1), (23, .iload_n 1, 1), (24, .invokevirtual 104, 3), (27, .aload_n 0, 1), (28, .getfield 22, 3), (31, .ishl, 1), (32, .invokestatic 108, 3), (35, .putfield 15, 3)] : List (Nat × Instr × Nat)), decode jdk_68_method_9_code x.1 = .ok (x.2.1, x.2.2) := by decide +kernel
theorem dz16 : ∀ x ∈ ([(0, .aload_n 0, 1), (1, .aload_n 2, 1), (2, .invokevirtual 397, 3), (5, .aload_n 2, 1), (6, .aload_n 0, 1), (7, .getfield 15, 3), (10, .iload_n 1, 1), (11, .aload_n 0, 1), (12, .getfield 22, 3), (15, .invokevirtual 399, 3), (18, .return_, 1)] : List (Nat × Instr × Nat)), decode jdk_68_method_73_code x.1 = .ok (x.2.1, x.2.2) := by decide +kernel
theorem dz17 : ∀ x ∈ ([(0, .getstatic 18, 3), (3, .ifCond .eq 18, 3), (6, .aload_n 0, 1), (7, .getfield 22, 3), (10, .aload_n 1, 1), (11, .invokevirtual 40, 3), (14, .if_icmp .eq 7, 3), (21, .return_, 1), (17, .aload_n 0, 1), (18, .invokevirtual 195, 3)] : List (Nat × Instr × Nat)), decode jdk_68_method_71_code x.1 = .ok (x.2.1, x.2.2) := by decide +kernel
theorem dz18 : ∀ x ∈ ([(0, .aload_n 0, 1), (1, .invokevirtual 335, 3), (4, .iload_n 3, 1), (5, .if_icmp .ne 23, 3), (8, .aload_n 0, 1), (9, .getfield 9, 3), (12, .iconst 0, 1), (13, .aload_n 1, 1), (14, .iload_n 2, 1), (15, .iload_n 3, 1), (16, .ishl, 1), (17, .aload_n 0, 1), (18, .getfield 9, 3), (21, .arraylength, 1), (22, .invokestatic 212, 3), (25, .goto 18, 3), (43, .return_, 1), (28, .aload_n 0, 1), (29, .getfield 9, 3), (32, .iconst 0, 1), (33, .aload_n 1, 1), (34, .iload_n 2, 1), (35, .aload_n 0, 1), (36, .getfield 9, 3), (39, .arraylength, 1), (40, .invokestatic 106, 3)] : List (Nat × Instr × Nat)), decode jdk_42_method_147_code x.1 = .ok (x.2.1, x.2.2) := by decide +kernel
theorem dz19 : ∀ x ∈ ([(0, .new 18, 3), (3, .dup, 1), (4, .aload_n 0, 1), (5, .invokespecial 137, 3), (8, .areturn, 1)] : List (Nat × Instr × Nat)), decode jdk_67_method_42_code x.1 = .ok (x.2.1, x.2.2) := by decide +kernel
theorem dz20 : ∀ x ∈ ([(0, .aload_n 0, 1), (1, .aload_n 1, 1), (2, .aconst_null, 1), (3, .invokespecial 489, 3), (6, .return_, 1)] : List (Nat × Instr × Nat)), decode jdk_42_method_53_code x.1 = .ok (x.2.1, x.2.2) := by decide +kernel
theorem dz21 : ∀ x ∈ ([(0, .aload_n 0, 1), (1, .invokespecial 1, 3), (4, .aload_n 1, 1), (5, .invokevirtual 552, 3), (8, .astore_n 3, 1), (9, .aload_n 1, 1), (10, .invokevirtual 549, 3), (13, .istore 4, 2), (15, .aload_n 1, 1), (16, .invokevirtual 1047, 3), (19, .ifCond .eq 22, 3), (22, .aload_n 0, 1), (23, .iconst 0, 1), (24, .putfield 15, 3), (27, .aload_n 0, 1), (28, .aload_n 3, 1), (29, .iconst 0, 1), (30, .iload 4, 2), (32, .invokestatic 54, 3), (35, .putfield 9, 3), (38, .goto 59, 3), (97, .return_, 1), (41, .getstatic 38, 3), (44, .ifCond .eq 35, 3), (47, .aload_n 1, 1), (48, .getfield 1048, 3), (51, .ifCond .eq 28, 3), (79, .aload_n 0, 1), (80, .iconst 1, 1), (81, .putfield 15, 3), (84, .aload_n 0, 1), (85, .aload_n 3, 1), (86, .iconst 0, 1), (87, .iload 4, 2), (89, .iconst 1, 1), (90, .ishl, 1), (91, .invokestatic 54, 3), (94, .putfield 9, 3)] : List (Nat × Instr × Nat)), decode jdk_42_method_150_code x.1 = .ok (x.2.1, x.2.2) := by decide +kernel
theorem dz22 : ∀ x ∈ ([(0, .aload_n 0, 1), (1, .getfield 15, 3), (4, .areturn, 1)] : List (Nat × Instr × Nat)), decode jdk_68_method_64_code x.1 = .ok (x.2.1, x.2.2) := by decide +kernel
theorem dz23 : ∀ x ∈ ([(0, .aload_n 0, 1), (1, .invokespecial 343, 3), (4, .ireturn, 1)] : List (Nat × Instr × Nat)), decode jdk_67_method_93_code x.1 = .ok (x.2.1, x.2.2) := by decide +kernel
theorem dz24 : ∀ x ∈ ([(0, .aload_n 0, 1), (1, .getfield 79, 3), (4, .ireturn, 1)] : List (Nat × Instr × Nat)), decode jdk_68_method_6_code x.1 = .ok (x.2.1, x.2.2) := by decide +kernel
theorem dz25 : ∀ x ∈ ([(0, .getstatic 18, 3), (3, .ifCond .eq 14, 3), (6, .aload_n 0, 1), (7, .getfield 22, 3), (10, .ifCond .ne 7, 3), (13, .iconst 1, 1), (14, .goto 4, 3), (18, .ireturn, 1), (17, .iconst 0, 1)] : List (Nat × Instr × Nat)), decode jdk_68_method_68_code x.1 = .ok (x.2.1, x.2.2) := by decide +kernel
theorem dz26 : ∀ x ∈ ([(0, .iload_n 1, 1), (1, .ifCond .ne 9, 3), (4, .iload_n 2, 1), (5, .aload_n 0, 1), (6, .arraylength, 1), (7, .if_icmp .eq 10, 3), (10, .aload_n 0, 1), (11, .iload_n 1, 1), (12, .iload_n 2, 1), (13, .invokestatic 339, 3), (16, .areturn, 1), (17, .aload_n 0, 1), (18, .invokevirtual 310, 3), (21, .checkcast 311, 3), (24, .areturn, 1)] : List (Nat × Instr × Nat)), decode jdk_65_method_132_code x.1 = .ok (x.2.1, x.2.2) := by decide +kernel
theorem dz27 : ∀ x ∈ ([(0, .iload_n 1, 1), (1, .iload_n 2, 1), (2, .invokestatic 343, 3), (5, .iload_n 2, 1), (6, .iload_n 1, 1), (7, .isub, 1), (8, .istore_n 3, 1), (9, .iload_n 3, 1), (10, .newarray .byte, 2), (12, .astore 4, 2), (14, .aload_n 0, 1), (15, .iload_n 1, 1), (16, .aload 4, 2), (18, .iconst 0, 1), (19, .aload_n 0, 1), (20, .arraylength, 1), (21, .iload_n 1, 1), (22, .isub, 1), (23, .iload_n 3, 1), (24, .invokestatic 304, 3), (27, .invokestatic 150, 3), (30, .aload 4, 2), (32, .areturn, 1)] : List (Nat × Instr × Nat)), decode jdk_65_method_133_code x.1 = .ok (x.2.1, x.2.2) := by decide +kernel
theorem dz28 : ∀ x ∈ ([(0, .iload_n 1, 1), (1, .iload_n 0, 1), (2, .if_icmp .ge 35, 3), (37, .return_, 1)] : List (Nat × Instr × Nat)), decode jdk_65_method_131_code x.1 = .ok (x.2.1, x.2.2) := by decide +kernel
theorem dz29 : ∀ x ∈ ([(0, .iload_n 0, 1), (1, .iload_n 1, 1), (2, .if_icmp .gt 7, 3), (9, .iload_n 1, 1), (10, .ireturn, 1), (5, .iload_n 0, 1), (6, .goto 4, 3)] : List (Nat × Instr × Nat)), decode jdk_29_method_69_code x.1 = .ok (x.2.1, x.2.2) := by decide +kernel
theorem dz30 : ∀ x ∈ ([(0, .aload_n 0, 1), (1, .aload_n 1, 1), (2, .invokespecial 1, 3), (5, .return_, 1)] : List (Nat × Instr × Nat)), decode prog_2_method_1_code x.1 = .ok (x.2.1, x.2.2) := by decide +kernel
theorem dz31 : ∀ x ∈ ([(0, .aload_n 0, 1), (1, .aload_n 1, 1), (2, .invokespecial 7, 3), (5, .return_, 1)] : List (Nat × Instr × Nat)), decode jdk_58_method_2_code x.1 = .ok (x.2.1, x.2.2) := by decide +kernel
theorem dz32 : ∀ x ∈ ([(0, .aload_n 0, 1), (1, .aload_n 1, 1), (2, .invokespecial 7, 3), (5, .return_, 1)] : List (Nat × Instr × Nat)), decode jdk_59_method_2_code x.1 = .ok (x.2.1, x.2.2) := by decide +kernel
theorem dz33 : ∀ x ∈ ([(0, .aload_n 0, 1), (1, .invokespecial 1, 3), (4, .aload_n 0, 1), (5, .aload_n 0, 1), (6, .putfield 7, 3), (9, .aload_n 0, 1), (10, .getstatic 13, 3), (13, .putfield 17, 3), (16, .aload_n 0, 1), (17, .getstatic 20, 3), (20, .putfield 24, 3), (23, .aload_n 0, 1), (24, .invokevirtual 27, 3), (27, .pop, 1), (28, .aload_n 0, 1), (29, .aload_n 1, 1), (30, .putfield 31, 3), (33, .return_, 1)] : List (Nat × Instr × Nat)), decode jdk_78_method_2_code x.1 = .ok (x.2.1, x.2.2) := by decide +kernel
theorem dz36 : ∀ x ∈ ([(0, .aload_n 0, 1), (1, .getfield 31, 3), (4, .areturn, 1)] : List (Nat × Instr × Nat)), decode jdk_78_method_6_code x.1 = .ok (x.2.1, x.2.2) := by decide +kernel
theorem dz37 : ∀ x ∈ ([(0, .iload_n 1, 1), (1, .aload_n 0, 1), (2, .invokevirtual 18, 3), (5, .if_icmp .lt 5, 3), (10, .aload_n 0, 1), (11, .iload_n 1, 1), (12, .invokevirtual 14, 3), (15, .iload_n 1, 1), (16, .aload_n 2, 1), (17, .aload_n 3, 1), (18, .invokestatic 24, 3), (21, .if_icmp .ne 7, 3), (24, .iconst 1, 1), (25, .goto 4, 3), (29, .ireturn, 1), (8, .iconst 1, 1), (9, .ireturn, 1)] : List (Nat × Instr × Nat)), decode method_4_code x.1 = .ok (x.2.1, x.2.2) := by decide +kernel
theorem dz38 : ∀ x ∈ ([(0, .aload_n 0, 1), (1, .invokevirtual 492, 3), (4, .ifCond .eq 12, 3), (7, .aload_n 0, 1), (8, .getfield 9, 3), (11, .iload_n 1, 1), (12, .invokestatic 495, 3), (15, .ireturn, 1), (16, .aload_n 0, 1), (17, .getfield 9, 3), (20, .iload_n 1, 1), (21, .invokestatic 498, 3), (24, .ireturn, 1)] : List (Nat × Instr × Nat)), decode jdk_42_method_56_code x.1 = .ok (x.2.1, x.2.2) := by decide +kernel
theorem dz39 : ∀ x ∈ ([(0, .getstatic 38, 3), (3, .ifCond .eq 14, 3), (6, .aload_n 0, 1), (7, .getfield 15, 3), (10, .ifCond .ne 7, 3), (13, .iconst 1, 1), (14, .goto 4, 3), (18, .ireturn, 1), (17, .iconst 0, 1)] : List (Nat × Instr × Nat)), decode jdk_42_method_154_code x.1 = .ok (x.2.1, x.2.2) := by decide +kernel
theorem dz40 : ∀ x ∈ ([(0, .iload_n 1, 1), (1, .aload_n 0, 1), (2, .arraylength, 1), (3, .invokestatic 9, 3), (6, .aload_n 0, 1), (7, .iload_n 1, 1), (8, .baload, 1), (9, .sipush 255, 3), (12, .iand, 1), (13, .i2c, 1), (14, .ireturn, 1)] : List (Nat × Instr × Nat)), decode jdk_43_method_2_code x.1 = .ok (x.2.1, x.2.2) := by decide +kernel
theorem dz41 : ∀ x ∈ ([(0, .iload_n 0, 1), (1, .iload_n 1, 1), (2, .getstatic 1053, 3), (5, .invokestatic 1059, 3), (8, .pop, 1), (9, .return_, 1)] : List (Nat × Instr × Nat)), decode jdk_42_method_155_code x.1 = .ok (x.2.1, x.2.2) := by decide +kernel
theorem dz42 : ∀ x ∈ ([(0, .iload_n 0, 1), (1, .ifCond .lt 8, 3), (4, .iload_n 0, 1), (5, .iload_n 1, 1), (6, .if_icmp .lt 10, 3), (16, .iload_n 0, 1), (17, .ireturn, 1)] : List (Nat × Instr × Nat)), decode jdk_41_method_11_code x.1 = .ok (x.2.1, x.2.2) := by decide +kernel
theorem dz43 : ∀ x ∈ ([(0, .ldc 12, 2), (2, .astore_n 3, 1), (3, .iload_n 0, 1), (4, .bipush 10, 2), (6, .if_icmp .ge 9, 3), (9, .aload_n 3, 1), (10, .iload_n 0, 1), (11, .invokevirtual 14, 3), (14, .ireturn, 1), (15, .iload_n 0, 1), (16, .bipush 10, 2), (18, .isub, 1), (19, .istore 4, 2), (21, .iload 4, 2), (23, .aload_n 1, 1), (24, .invokevirtual 18, 3), (27, .if_icmp .ge 10, 3), (30, .aload_n 1, 1), (31, .iload 4, 2), (33, .invokevirtual 14, 3), (36, .ireturn, 1), (37, .iload 4, 2), (39, .aload_n 1, 1), (40, .invokevirtual 18, 3), (43, .isub, 1), (44, .istore 4, 2), (46, .ldc 22, 2), (48, .astore 5, 2), (50, .iload 4, 2), (52, .iconst 3, 1), (53, .if_icmp .ge 11, 3), (56, .aload 5, 2), (58, .iload 4, 2), (60, .invokevirtual 14, 3), (63, .ireturn, 1), (64, .iload 4, 2), (66, .iconst 3, 1), (67, .isub, 1), (68, .istore 4, 2), (70, .aload_n 2, 1), (71, .iload 4, 2), (73, .invokevirtual 14, 3), (76, .ireturn, 1)] : List (Nat × Instr × Nat)), decode method_3_code x.1 = .ok (x.2.1, x.2.2) := by decide +kernel
theorem dz44 : ∀ x ∈ ([(0, .iload_n 2, 1), (1, .invokestatic 107, 3), (4, .astore_n 3, 1), (5, .iconst 0, 1), (6, .istore 4, 2), (8, .iload 4, 2), (10, .iload_n 2, 1), (11, .if_icmp .ge 21, 3), (32, .aload_n 3, 1), (33, .areturn, 1), (14, .aload_n 3, 1), (15, .iload 4, 2), (17, .aload_n 0, 1), (18, .iload_n 1, 1), (19, .caload, 1), (20, .invokestatic 111, 3), (23, .iinc 1 1, 3), (26, .iinc 4 1, 3), (29, .goto (-21), 3)] : List (Nat × Instr × Nat)), decode jdk_52_method_14_code x.1 = .ok (x.2.1, x.2.2) := by decide +kernel
theorem dz45 : ∀ x ∈ ([(0, .iload_n 0, 1), (1, .invokestatic 11, 3), (4, .newarray .byte, 2), (6, .areturn, 1)] : List (Nat × Instr × Nat)), decode jdk_52_method_2_code x.1 = .ok (x.2.1, x.2.2) := by decide +kernel
theorem dz46 : ∀ x ∈ ([(0, .iload_n 0, 1), (1, .ifCond .ge 11, 3), (12, .iload_n 0, 1), (13, .ldc 20, 2), (15, .if_icmp .lt 40, 3), (55, .iload_n 0, 1), (56, .iconst 1, 1), (57, .ishl, 1), (58, .ireturn, 1)] : List (Nat × Instr × Nat)), decode jdk_52_method_3_code x.1 = .ok (x.2.1, x.2.2) := by decide +kernel
theorem dz47 : ∀ x ∈ ([(0, .getstatic 44, 3), (3, .ifCond .ne 25, 3), (28, .iload_n 1, 1), (29, .iconst 1, 1), (30, .ishl, 1), (31, .istore_n 1, 1), (32, .aload_n 0, 1), (33, .iload_n 1, 1), (34, .iinc 1 1, 3), (37, .iload_n 2, 1), (38, .getstatic 59, 3), (41, .ishr, 1), (42, .i2b, 1), (43, .bastore, 1), (44, .aload_n 0, 1), (45, .iload_n 1, 1), (46, .iload_n 2, 1), (47, .getstatic 63, 3), (50, .ishr, 1), (51, .i2b, 1), (52, .bastore, 1), (53, .return_, 1)] : List (Nat × Instr × Nat)), decode jdk_52_method_4_code x.1 = .ok (x.2.1, x.2.2) := by decide +kernel
theorem dz48 : ∀ x ∈ ([(0, .getstatic 44, 3), (3, .ifCond .ne 25, 3), (28, .iload_n 1, 1), (29, .iconst 1, 1), (30, .ishl, 1), (31, .istore_n 1, 1), (32, .aload_n 0, 1), (33, .iload_n 1, 1), (34, .iinc 1 1, 3), (37, .baload, 1), (38, .sipush 255, 3), (41, .iand, 1), (42, .getstatic 59, 3), (45, .ishl, 1), (46, .aload_n 0, 1), (47, .iload_n 1, 1), (48, .baload, 1), (49, .sipush 255, 3), (52, .iand, 1), (53, .getstatic 63, 3), (56, .ishl, 1), (57, .ior, 1), (58, .i2c, 1), (59, .ireturn, 1)] : List (Nat × Instr × Nat)), decode jdk_52_method_5_code x.1 = .ok (x.2.1, x.2.2) := by decide +kernel
theorem dz49 : ∀ x ∈ ([(0, .aload_n 0, 1), (1, .invokevirtual 83, 3), (4, .ifCond .ne 4, 3), (8, .aload_n 0, 1), (9, .getfield 15, 3), (12, .arraylength, 1), (13, .invokestatic 26, 3), (16, .astore_n 1, 1), (17, .aload_n 0, 1), (18, .getfield 15, 3), (21, .iconst 0, 1), (22, .aload_n 1, 1), (23, .iconst 0, 1), (24, .aload_n 0, 1), (25, .getfield 79, 3), (28, .invokestatic 125, 3), (31, .aload_n 0, 1), (32, .aload_n 1, 1), (33, .putfield 15, 3), (36, .aload_n 0, 1), (37, .iconst 1, 1), (38, .putfield 22, 3), (41, .return_, 1), (7, .return_, 1)] : List (Nat × Instr × Nat)), decode jdk_68_method_11_code x.1 = .ok (x.2.1, x.2.2) := by decide +kernel
theorem dz50 : ∀ x ∈ ([(0, .aload_n 0, 1), (1, .iload_n 1, 1), (2, .aload_n 2, 1), (3, .iload_n 3, 1), (4, .iload 4, 2), (6, .invokestatic 240, 3), (9, .return_, 1)] : List (Nat × Instr × Nat)), decode jdk_43_method_50_code x.1 = .ok (x.2.1, x.2.2) := by decide +kernel
theorem dz51 : ∀ x ∈ ([(0, .iload_n 3, 1), (1, .iload 4, 2), (3, .aload_n 2, 1), (4, .invokestatic 173, 3), (7, .iconst 0, 1), (8, .istore 5, 2), (10, .iload 5, 2), (12, .iload 4, 2), (14, .if_icmp .ge 27, 3), (41, .return_, 1), (17, .aload_n 2, 1), (18, .iload_n 3, 1), (19, .iinc 3 1, 3), (22, .aload_n 0, 1), (23, .iload_n 1, 1), (24, .iinc 1 1, 3), (27, .baload, 1), (28, .sipush 255, 3), (31, .iand, 1), (32, .invokestatic 111, 3), (35, .iinc 5 1, 3), (38, .goto (-28), 3)] : List (Nat × Instr × Nat)), decode jdk_52_method_86_code x.1 = .ok (x.2.1, x.2.2) := by decide +kernel
theorem dz52 : ∀ x ∈ ([(0, .iload_n 0, 1), (1, .iload_n 1, 1), (2, .aload_n 2, 1), (3, .invokestatic 48, 3), (6, .invokestatic 419, 3), (9, .pop, 1), (10, .return_, 1)] : List (Nat × Instr × Nat)), decode jdk_52_method_94_code x.1 = .ok (x.2.1, x.2.2) := by decide +kernel
theorem dz53 : ∀ x ∈ ([(0, .aload_n 0, 1), (1, .arraylength, 1), (2, .iconst 1, 1), (3, .ishr, 1), (4, .ireturn, 1)] : List (Nat × Instr × Nat)), decode jdk_52_method_6_code x.1 = .ok (x.2.1, x.2.2) := by decide +kernel
theorem dz54 : ∀ x ∈ ([(0, .iload_n 0, 1), (1, .iload_n 1, 1), (2, .iload_n 2, 1), (3, .getstatic 1053, 3), (6, .invokestatic 1065, 3), (9, .ireturn, 1)] : List (Nat × Instr × Nat)), decode jdk_42_method_157_code x.1 = .ok (x.2.1, x.2.2) := by decide +kernel
theorem dz55 : ∀ x ∈ ([(0, .iload_n 2, 1), (1, .iload_n 0, 1), (2, .ior, 1), (3, .iload_n 1, 1), (4, .ior, 1), (5, .ifCond .lt 10, 3), (8, .iload_n 1, 1), (9, .iload_n 2, 1), (10, .iload_n 0, 1), (11, .isub, 1), (12, .if_icmp .le 11, 3), (23, .iload_n 0, 1), (24, .ireturn, 1)] : List (Nat × Instr × Nat)), decode jdk_41_method_13_code x.1 = .ok (x.2.1, x.2.2) := by decide +kernel
theorem dz56 : ∀ x ∈ ([(0, .iload_n 1, 1), (1, .aload_n 0, 1), (2, .invokestatic 67, 3), (5, .aload_n 0, 1), (6, .iload_n 1, 1), (7, .invokestatic 71, 3), (10, .ireturn, 1)] : List (Nat × Instr × Nat)), decode jdk_52_method_83_code x.1 = .ok (x.2.1, x.2.2) := by decide +kernel
theorem dz57 : ∀ x ∈ ([(0, .iload_n 0, 1), (1, .aload_n 1, 1), (2, .invokestatic 48, 3), (5, .invokestatic 414, 3), (8, .return_, 1)] : List (Nat × Instr × Nat)), decode jdk_52_method_91_code x.1 = .ok (x.2.1, x.2.2) := by decide +kernel
theorem dz58 : ∀ x ∈ ([(0, .aload_n 0, 1), (1, .getfield 15, 3), (4, .arraylength, 1), (5, .istore_n 2, 1), (6, .iload_n 1, 1), (7, .aload_n 0, 1), (8, .getfield 22, 3), (11, .ishl, 1), (12, .istore_n 3, 1), (13, .iload_n 3, 1), (14, .iload_n 2, 1), (15, .isub, 1), (16, .istore 4, 2), (18, .iload_n 2, 1), (19, .iload 4, 2), (21, .iload_n 2, 1), (22, .iconst 2, 1), (23, .aload_n 0, 1), (24, .getfield 22, 3), (27, .ishl, 1), (28, .iadd, 1), (29, .invokestatic 114, 3), (32, .istore 5, 2), (34, .iload 5, 2), (36, .ldc 39, 2), (38, .if_icmp .ne 13, 3), (51, .iload 5, 2), (53, .aload_n 0, 1), (54, .getfield 22, 3), (57, .ishr, 1), (58, .ireturn, 1)] : List (Nat × Instr × Nat)), decode jdk_68_method_10_code x.1 = .ok (x.2.1, x.2.2) := by decide +kernel
theorem dz59 : ∀ x ∈ ([(0, .iload_n 0, 1), (1, .iload_n 1, 1), (2, .iload_n 2, 1), (3, .invokestatic 194, 3), (6, .iadd, 1), (7, .istore_n 3, 1), (8, .iconst 0, 1), (9, .iload_n 3, 1), (10, .if_icmp .ge 11, 3), (13, .iload_n 3, 1), (14, .ldc 200, 2), (16, .if_icmp .gt 5, 3), (19, .iload_n 3, 1), (20, .ireturn, 1)] : List (Nat × Instr × Nat)), decode jdk_48_method_27_code x.1 = .ok (x.2.1, x.2.2) := by decide +kernel
theorem dz60 : ∀ x ∈ ([(0, .iload_n 0, 1), (1, .iload_n 1, 1), (2, .if_icmp .lt 7, 3), (9, .iload_n 1, 1), (10, .ireturn, 1), (5, .iload_n 0, 1), (6, .goto 4, 3)] : List (Nat × Instr × Nat)), decode jdk_29_method_65_code x.1 = .ok (x.2.1, x.2.2) := by decide +kernel
theorem dz61 : ∀ x ∈ ([(0, .iload_n 1, 1), (1, .aload_n 0, 1), (2, .arraylength, 1), (3, .if_icmp .ne 11, 3), (14, .iload_n 1, 1), (15, .newarray .byte, 2), (17, .astore_n 2, 1), (18, .aload_n 0, 1), (19, .iconst 0, 1), (20, .aload_n 2, 1), (21, .iconst 0, 1), (22, .aload_n 0, 1), (23, .arraylength, 1), (24, .iload_n 1, 1), (25, .invokestatic 304, 3), (28, .invokestatic 150, 3), (31, .aload_n 2, 1), (32, .areturn, 1)] : List (Nat × Instr × Nat)), decode jdk_65_method_121_code x.1 = .ok (x.2.1, x.2.2) := by decide +kernel
theorem pn_14 : plainName "java/lang/String" = true := by first | (simp [plainName, overriddenIn]; done) | decide +kernel
theorem pn_13 : plainName "java/lang/String" = true := by first | (simp [plainName, overriddenIn]; done) | decide +kernel
theorem pd___B : parseMethodDescriptor "()B" = some ⟨[], some .byte⟩ := by decide +kernel
theorem pn_18 : plainName "java/lang/String" = true := by first | (simp [plainName, overriddenIn]; done) | decide +kernel
theorem pn_17 : plainName "java/lang/AbstractStringBuilder" = true := by first | (simp [plainName, overriddenIn]; done) | decide +kernel
theorem pn_16 : plainName "java/lang/AbstractStringBuilder" = true := by first | (simp [plainName, overriddenIn]; done) | decide +kernel
theorem pd__Ljava_lang_String__V : parseMethodDescriptor "(Ljava/lang/String;)V" = some ⟨[(.object "java/lang/String")], none⟩ := by decide +kernel
theorem pd___BIB_V : parseMethodDescriptor "([BIB)V" = some ⟨[(.array .byte), .int, .byte], none⟩ := by decide +kernel
theorem ef_rmMax (m : MethodId) (y_0 : Int32) (y_1 : Int32) : entryFrame m #[(.int y_0), (.int y_1)] 2 = mkF m 0 #[.val (.int y_0), .val (.int y_1)] [] := by first | (simp [entryFrame, mkF, argsToLocals, Value.category]; done) | rfl
theorem ef_rmMin (m : MethodId) (y_0 : Int32) (y_1 : Int32) : entryFrame m #[(.int y_0), (.int y_1)] 2 = mkF m 0 #[.val (.int y_0), .val (.int y_1)] [] := by first | (simp [entryFrame, mkF, argsToLocals, Value.category]; done) | rfl
theorem pn_59 : plainName "jdk/internal/util/ArraysSupport" = true := by first | (simp [plainName, overriddenIn]; done) | decide +kernel
theorem ef_rmNL (m : MethodId) (y_0 : Int32) (y_1 : Int32) (y_2 : Int32) : entryFrame m #[(.int y_0), (.int y_1), (.int y_2)] 4 = mkF m 0 #[.val (.int y_0), .val (.int y_1), .val (.int y_2), .unset] [] := by first | (simp [entryFrame, mkF, argsToLocals, Value.category]; done) | rfl
theorem pd__II_I : parseMethodDescriptor "(II)I" = some ⟨[.int, .int], some .int⟩ := by decide +kernel
theorem pn_58 : plainName "java/lang/AbstractStringBuilder" = true := by first | (simp [plainName, overriddenIn]; done) | decide +kernel
theorem pd__III_I : parseMethodDescriptor "(III)I" = some ⟨[.int, .int, .int], some .int⟩ := by decide +kernel
theorem pn_61 : plainName "java/util/Arrays" = true := by first | (simp [plainName, overriddenIn]; done) | decide +kernel
theorem ef_rmCO (m : MethodId) (a1 : Addr) (y_1 : Int32) : entryFrame m #[(.ref a1), (.int y_1)] 3 = mkF m 0 #[.val (.ref a1), .val (.int y_1), .unset] [] := by first | (simp [entryFrame, mkF, argsToLocals, Value.category]; done) | rfl
theorem pn_15 : plainName "java/lang/AbstractStringBuilder" = true := by first | (simp [plainName, overriddenIn]; done) | decide +kernel
theorem pd__I_I : parseMethodDescriptor "(I)I" = some ⟨[.int], some .int⟩ := by decide +kernel
theorem pd___BI__B : parseMethodDescriptor "([BI)[B" = some ⟨[(.array .byte), .int], some (.array .byte)⟩ := by decide +kernel
theorem pn_12 : plainName "java/lang/AbstractStringBuilder" = true := by first | (simp [plainName, overriddenIn]; done) | decide +kernel
theorem pd___I : parseMethodDescriptor "()I" = some ⟨[], some .int⟩ := by decide +kernel
theorem pd__I_V : parseMethodDescriptor "(I)V" = some ⟨[.int], none⟩ := by decide +kernel
theorem pd__ILjava_lang_String__V : parseMethodDescriptor "(ILjava/lang/String;)V" = some ⟨[.int, (.object "java/lang/String")], none⟩ := by decide +kernel
theorem pn_11 : plainName "java/lang/StringBuilder" = true := by first | (simp [plainName, overriddenIn]; done) | decide +kernel
theorem pd__Ljava_lang_String__Ljava_lang_AbstractStringBuilder_ : parseMethodDescriptor "(Ljava/lang/String;)Ljava/lang/AbstractStringBuilder;" = some ⟨[(.object "java/lang/String")], some (.object "java/lang/AbstractStringBuilder")⟩ := by decide +kernel
theorem pn_10 : plainName "java/lang/AbstractStringBuilder" = true := by first | (simp [plainName, overriddenIn]; done) | decide +kernel
theorem ef_rmI1 (m : MethodId) (a1 : Addr) : entryFrame m #[(.ref a1), (.int (16 : Int32))] 2 = mkF m 0 #[.val (.ref a1), .val (.int (16 : Int32))] [] := by first | (simp [entryFrame, mkF, argsToLocals, Value.category]; done) | rfl
theorem pn_9 : plainName "java/lang/StringBuilder" = true := by first | (simp [plainName, overriddenIn]; done) | decide +kernel
theorem ef_rmI0 (m : MethodId) (a1 : Addr) : entryFrame m #[(.ref a1)] 1 = mkF m 0 #[.val (.ref a1)] [] := by first | (simp [entryFrame, mkF, argsToLocals, Value.category]; done) | rfl
theorem pn_22 : plainName "java/lang/AbstractStringBuilder" = true := by first | (simp [plainName, overriddenIn]; done) | decide +kernel
theorem ef_rmGV (m : MethodId) (a1 : Addr) : entryFrame m #[(.ref a1)] 1 = mkF m 0 #[.val (.ref a1)] [] := by first | (simp [entryFrame, mkF, argsToLocals, Value.category]; done) | rfl
theorem pn_24 : plainName "java/lang/AbstractStringBuilder" = true := by first | (simp [plainName, overriddenIn]; done) | decide +kernel
theorem ef_rmAL (m : MethodId) (a1 : Addr) : entryFrame m #[(.ref a1)] 1 = mkF m 0 #[.val (.ref a1)] [] := by first | (simp [entryFrame, mkF, argsToLocals, Value.category]; done) | rfl
theorem pn_23 : plainName "java/lang/StringBuilder" = true := by first | (simp [plainName, overriddenIn]; done) | decide +kernel
theorem ef_rmSL (m : MethodId) (a1 : Addr) : entryFrame m #[(.ref a1)] 1 = mkF m 0 #[.val (.ref a1)] [] := by first | (simp [entryFrame, mkF, argsToLocals, Value.category]; done) | rfl
theorem pn_25 : plainName "java/lang/AbstractStringBuilder" = true := by first | (simp [plainName, overriddenIn]; done) | decide +kernel
theorem pn_28 : plainName "java/util/Arrays" = true := by first | (simp [plainName, overriddenIn]; done) | decide +kernel
theorem ef_rmCL (m : MethodId) (y_0 : Int32) (y_1 : Int32) : entryFrame m #[(.int y_0), (.int y_1)] 2 = mkF m 0 #[.val (.int y_0), .val (.int y_1)] [] := by first | (simp [entryFrame, mkF, argsToLocals, Value.category]; done) | rfl
theorem pn_27 : plainName "java/util/Arrays" = true := by first | (simp [plainName, overriddenIn]; done) | decide +kernel
theorem ef_rmCRB (m : MethodId) (a1 : Addr) (y_1 : Int32) (y_2 : Int32) : entryFrame m #[(.ref a1), (.int y_1), (.int y_2)] 5 = mkF m 0 #[.val (.ref a1), .val (.int y_1), .val (.int y_2), .unset, .unset] [] := by first | (simp [entryFrame, mkF, argsToLocals, Value.category]; done) | rfl
theorem pd__II_V : parseMethodDescriptor "(II)V" = some ⟨[.int, .int], none⟩ := by decide +kernel
theorem pn_26 : plainName "java/util/Arrays" = true := by first | (simp [plainName, overriddenIn]; done) | decide +kernel
theorem ef_rmCR (m : MethodId) (a1 : Addr) (y_1 : Int32) (y_2 : Int32) : entryFrame m #[(.ref a1), (.int y_1), (.int y_2)] 3 = mkF m 0 #[.val (.ref a1), .val (.int y_1), .val (.int y_2)] [] := by first | (simp [entryFrame, mkF, argsToLocals, Value.category]; done) | rfl
theorem pd___BII__B : parseMethodDescriptor "([BII)[B" = some ⟨[(.array .byte), .int, .int], some (.array .byte)⟩ := by decide +kernel
theorem ef_rmCRc (m : MethodId) (a1 : Addr) (y_1 : Int32) (y_2 : Int32) : entryFrame m #[(.ref a1), (.int y_1), (.int y_2)] 3 = mkF m 0 #[.val (.ref a1), .val (.int y_1), .val (.int y_2)] [] := by first | (simp [entryFrame, mkF, argsToLocals, Value.category]; done) | rfl
theorem pn_21 : plainName "java/lang/String" = true := by first | (simp [plainName, overriddenIn]; done) | decide +kernel
theorem pd____B : parseMethodDescriptor "()[B" = some ⟨[], some (.array .byte)⟩ := by decide +kernel
theorem pd___Z : parseMethodDescriptor "()Z" = some ⟨[], some .boolean⟩ := by decide +kernel
theorem pn_20 : plainName "java/lang/String" = true := by first | (simp [plainName, overriddenIn]; done) | decide +kernel
theorem pd__Ljava_lang_AbstractStringBuilder_Ljava_lang_Void__V : parseMethodDescriptor "(Ljava/lang/AbstractStringBuilder;Ljava/lang/Void;)V" = some ⟨[(.object "java/lang/AbstractStringBuilder"), (.object "java/lang/Void")], none⟩ := by decide +kernel
theorem pn_19 : plainName "java/lang/StringBuilder" = true := by first | (simp [plainName, overriddenIn]; done) | decide +kernel
theorem pd__Ljava_lang_StringBuilder__V : parseMethodDescriptor "(Ljava/lang/StringBuilder;)V" = some ⟨[(.object "java/lang/StringBuilder")], none⟩ := by decide +kernel
theorem pn_42 : plainName "jdk/internal/util/Preconditions" = true := by first | (simp [plainName, overriddenIn]; done) | decide +kernel
theorem ef_rmPC (m : MethodId) (y_0 : Int32) (y_1 : Int32) (fm : Value) (ref_fm : fm.isRef = true) : entryFrame m #[(.int y_0), (.int y_1), fm] 3 = mkF m 0 #[.val (.int y_0), .val (.int y_1), .val fm] [] := by rcases ref_cases ref_fm with rfl | ⟨_, rfl⟩ <;> first | (simp [entryFrame, mkF, argsToLocals, Value.category]; done) | rfl
theorem pn_41 : plainName "java/lang/String" = true := by first | (simp [plainName, overriddenIn]; done) | decide +kernel
theorem ef_rmCI (m : MethodId) (y_0 : Int32) (y_1 : Int32) : entryFrame m #[(.int y_0), (.int y_1)] 2 = mkF m 0 #[.val (.int y_0), .val (.int y_1)] [] := by first | (simp [entryFrame, mkF, argsToLocals, Value.category]; done) | rfl
theorem pd__IILjava_util_function_BiFunction__I : parseMethodDescriptor "(IILjava/util/function/BiFunction;)I" = some ⟨[.int, .int, (.object "java/util/function/BiFunction")], some .int⟩ := by decide +kernel
theorem pn_40 : plainName "java/lang/StringLatin1" = true := by first | (simp [plainName, overriddenIn]; done) | decide +kernel
theorem ef_rmLC (m : MethodId) (a1 : Addr) (y_1 : Int32) : entryFrame m #[(.ref a1), (.int y_1)] 2 = mkF m 0 #[.val (.ref a1), .val (.int y_1)] [] := by first | (simp [entryFrame, mkF, argsToLocals, Value.category]; done) | rfl
theorem pn_39 : plainName "java/lang/String" = true := by first | (simp [plainName, overriddenIn]; done) | decide +kernel
theorem pn_38 : plainName "java/lang/String" = true := by first | (simp [plainName, overriddenIn]; done) | decide +kernel
theorem pd___BI_C : parseMethodDescriptor "([BI)C" = some ⟨[(.array .byte), .int], some .char⟩ := by decide +kernel
theorem pn_6 : plainName "java/lang/StringUTF16" = true := by first | (simp [plainName, overriddenIn]; done) | decide +kernel
theorem ef_rmCmp (m : MethodId) (a1 : Addr) (y_1 : Int32) (a3 : Addr) (y_3 : Int32) (y_4 : Int32) : entryFrame m #[(.ref a1), (.int y_1), (.ref a3), (.int y_3), (.int y_4)] 7 = mkF m 0 #[.val (.ref a1), .val (.int y_1), .val (.ref a3), .val (.int y_3), .val (.int y_4), .unset, .unset] [] := by first | (simp [entryFrame, mkF, argsToLocals, Value.category]; done) | rfl
theorem pn_47 : plainName "java/lang/StringUTF16" = true := by first | (simp [plainName, overriddenIn]; done) | decide +kernel
theorem ef_rmPutC (m : MethodId) (a1 : Addr) (y_1 : Int32) (p3 : Int32) : entryFrame m #[(.ref a1), (.int y_1), (.int p3)] 3 = mkF m 0 #[.val (.ref a1), .val (.int y_1), .val (.int p3)] [] := by first | (simp [entryFrame, mkF, argsToLocals, Value.category]; done) | rfl
theorem pn_46 : plainName "java/lang/StringUTF16" = true := by first | (simp [plainName, overriddenIn]; done) | decide +kernel
theorem ef_rmNBL (m : MethodId) (y_0 : Int32) : entryFrame m #[(.int y_0)] 1 = mkF m 0 #[.val (.int y_0)] [] := by first | (simp [entryFrame, mkF, argsToLocals, Value.category]; done) | rfl
theorem pn_45 : plainName "java/lang/StringUTF16" = true := by first | (simp [plainName, overriddenIn]; done) | decide +kernel
theorem ef_rmNBF (m : MethodId) (y_0 : Int32) : entryFrame m #[(.int y_0)] 1 = mkF m 0 #[.val (.int y_0)] [] := by first | (simp [entryFrame, mkF, argsToLocals, Value.category]; done) | rfl
theorem pn_44 : plainName "java/lang/StringUTF16" = true := by first | (simp [plainName, overriddenIn]; done) | decide +kernel
theorem ef_rmTBs (m : MethodId) (a1 : Addr) (y_1 : Int32) (y_2 : Int32) : entryFrame m #[(.ref a1), (.int y_1), (.int y_2)] 5 = mkF m 0 #[.val (.ref a1), .val (.int y_1), .val (.int y_2), .unset, .unset] [] := by first | (simp [entryFrame, mkF, argsToLocals, Value.category]; done) | rfl
theorem pd__I__B : parseMethodDescriptor "(I)[B" = some ⟨[.int], some (.array .byte)⟩ := by decide +kernel
theorem pd___BII_V : parseMethodDescriptor "([BII)V" = some ⟨[(.array .byte), .int, .int], none⟩ := by decide +kernel
theorem pn_48 : plainName "java/lang/StringUTF16" = true := by first | (simp [plainName, overriddenIn]; done) | decide +kernel
theorem ef_rmGetC (m : MethodId) (a1 : Addr) (y_1 : Int32) : entryFrame m #[(.ref a1), (.int y_1)] 2 = mkF m 0 #[.val (.ref a1), .val (.int y_1)] [] := by first | (simp [entryFrame, mkF, argsToLocals, Value.category]; done) | rfl
theorem pn_5 : plainName "java/lang/StringUTF16" = true := by first | (simp [plainName, overriddenIn]; done) | decide +kernel
theorem ef_rmC2 (m : MethodId) (a1 : Addr) (y_1 : Int32) (y_2 : Int32) : entryFrame m #[(.ref a1), (.int y_1), (.int y_2)] 6 = mkF m 0 #[.val (.ref a1), .val (.int y_1), .val (.int y_2), .unset, .unset, .unset] [] := by first | (simp [entryFrame, mkF, argsToLocals, Value.category]; done) | rfl
theorem pd___CI_BII_I : parseMethodDescriptor "([CI[BII)I" = some ⟨[(.array .char), .int, (.array .byte), .int, .int], some .int⟩ := by decide +kernel
theorem pd___CII__B : parseMethodDescriptor "([CII)[B" = some ⟨[(.array .char), .int, .int], some (.array .byte)⟩ := by decide +kernel
theorem pn_7 : plainName "java/lang/StringUTF16" = true := by first | (simp [plainName, overriddenIn]; done) | decide +kernel
theorem ef_rmCFA (m : MethodId) (a1 : Addr) (y_1 : Int32) : entryFrame m #[(.ref a1), (.int y_1)] 2 = mkF m 0 #[.val (.ref a1), .val (.int y_1)] [] := by first | (simp [entryFrame, mkF, argsToLocals, Value.category]; done) | rfl
theorem pn_3 : plainName "java/lang/String" = true := by first | (simp [plainName, overriddenIn]; done) | decide +kernel
theorem ef_rmI4 (m : MethodId) (a1 : Addr) (a2 : Addr) (y_2 : Int32) (y_3 : Int32) : entryFrame m #[(.ref a1), (.ref a2), (.int y_2), (.int y_3), .null] 6 = mkF m 0 #[.val (.ref a1), .val (.ref a2), .val (.int y_2), .val (.int y_3), .val .null, .unset] [] := by first | (simp [entryFrame, mkF, argsToLocals, Value.category]; done) | rfl
theorem pd___BI_B : parseMethodDescriptor "([BI)B" = some ⟨[(.array .byte), .int], some .byte⟩ := by decide +kernel
theorem pn_2 : plainName "java/lang/String" = true := by first | (simp [plainName, overriddenIn]; done) | decide +kernel
theorem ef_rmI5 (m : MethodId) (a1 : Addr) (a2 : Addr) : entryFrame m #[(.ref a1), (.ref a2)] 2 = mkF m 0 #[.val (.ref a1), .val (.ref a2)] [] := by first | (simp [entryFrame, mkF, argsToLocals, Value.category]; done) | rfl
theorem pd___CIILjava_lang_Void__V : parseMethodDescriptor "([CIILjava/lang/Void;)V" = some ⟨[(.array .char), .int, .int, (.object "java/lang/Void")], none⟩ := by decide +kernel
theorem ef_rmCoderU (m : MethodId) (a1 : Addr) : entryFrame m #[(.ref a1)] 1 = mkF m 0 #[.val (.ref a1)] [] := by first | (simp [entryFrame, mkF, argsToLocals, Value.category]; done) | rfl
theorem ef_rmLenU (m : MethodId) (a1 : Addr) : entryFrame m #[(.ref a1)] 1 = mkF m 0 #[.val (.ref a1)] [] := by first | (simp [entryFrame, mkF, argsToLocals, Value.category]; done) | rfl
theorem ef_rmIsLU (m : MethodId) (a1 : Addr) : entryFrame m #[(.ref a1)] 1 = mkF m 0 #[.val (.ref a1)] [] := by first | (simp [entryFrame, mkF, argsToLocals, Value.category]; done) | rfl
theorem ef_rmE0U (m : MethodId) (a1 : Addr) (y_1 : Int32) : entryFrame m #[(.ref a1), (.int y_1)] 3 = mkF m 0 #[.val (.ref a1), .val (.int y_1), .unset] [] := by first | (simp [entryFrame, mkF, argsToLocals, Value.category]; done) | rfl
theorem ef_rmNCU (m : MethodId) (a1 : Addr) (y_1 : Int32) : entryFrame m #[(.ref a1), (.int y_1)] 6 = mkF m 0 #[.val (.ref a1), .val (.int y_1), .unset, .unset, .unset, .unset] [] := by first | (simp [entryFrame, mkF, argsToLocals, Value.category]; done) | rfl
theorem ef_rmE1U (m : MethodId) (a1 : Addr) (y_1 : Int32) : entryFrame m #[(.ref a1), (.int y_1)] 3 = mkF m 0 #[.val (.ref a1), .val (.int y_1), .unset] [] := by first | (simp [entryFrame, mkF, argsToLocals, Value.category]; done) | rfl
theorem pn_53 : plainName "java/lang/StringUTF16" = true := by first | (simp [plainName, overriddenIn]; done) | decide +kernel
theorem ef_rmU16L (m : MethodId) (a1 : Addr) : entryFrame m #[(.ref a1)] 1 = mkF m 0 #[.val (.ref a1)] [] := by first | (simp [entryFrame, mkF, argsToLocals, Value.category]; done) | rfl
theorem pn_55 : plainName "jdk/internal/util/Preconditions" = true := by first | (simp [plainName, overriddenIn]; done) | decide +kernel
theorem ef_rmPFS (m : MethodId) (y_0 : Int32) (y_1 : Int32) (y_2 : Int32) (fm : Value) (ref_fm : fm.isRef = true) : entryFrame m #[(.int y_0), (.int y_1), (.int y_2), fm] 4 = mkF m 0 #[.val (.int y_0), .val (.int y_1), .val (.int y_2), .val fm] [] := by rcases ref_cases ref_fm with rfl | ⟨_, rfl⟩ <;> first | (simp [entryFrame, mkF, argsToLocals, Value.category]; done) | rfl
theorem pn_54 : plainName "java/lang/String" = true := by first | (simp [plainName, overriddenIn]; done) | decide +kernel
theorem ef_rmSBO (m : MethodId) (y_0 : Int32) (y_1 : Int32) (y_2 : Int32) : entryFrame m #[(.int y_0), (.int y_1), (.int y_2)] 3 = mkF m 0 #[.val (.int y_0), .val (.int y_1), .val (.int y_2)] [] := by first | (simp [entryFrame, mkF, argsToLocals, Value.category]; done) | rfl
theorem pd__IIILjava_util_function_BiFunction__I : parseMethodDescriptor "(IIILjava/util/function/BiFunction;)I" = some ⟨[.int, .int, .int, (.object "java/util/function/BiFunction")], some .int⟩ := by decide +kernel
theorem pn_52 : plainName "java/lang/StringUTF16" = true := by first | (simp [plainName, overriddenIn]; done) | decide +kernel
theorem ef_rmUBO (m : MethodId) (y_0 : Int32) (y_1 : Int32) (a3 : Addr) : entryFrame m #[(.int y_0), (.int y_1), (.ref a3)] 3 = mkF m 0 #[.val (.int y_0), .val (.int y_1), .val (.ref a3)] [] := by first | (simp [entryFrame, mkF, argsToLocals, Value.category]; done) | rfl
theorem pd___B_I : parseMethodDescriptor "([B)I" = some ⟨[(.array .byte)], some .int⟩ := by decide +kernel
theorem pn_51 : plainName "java/lang/StringUTF16" = true := by first | (simp [plainName, overriddenIn]; done) | decide +kernel
theorem ef_rmUInf (m : MethodId) (a1 : Addr) (y_1 : Int32) (a3 : Addr) (y_3 : Int32) (y_4 : Int32) : entryFrame m #[(.ref a1), (.int y_1), (.ref a3), (.int y_3), (.int y_4)] 6 = mkF m 0 #[.val (.ref a1), .val (.int y_1), .val (.ref a3), .val (.int y_3), .val (.int y_4), .unset] [] := by first | (simp [entryFrame, mkF, argsToLocals, Value.category]; done) | rfl
theorem pd__II_B_V : parseMethodDescriptor "(II[B)V" = some ⟨[.int, .int, (.array .byte)], none⟩ := by decide +kernel
theorem pn_50 : plainName "java/lang/StringLatin1" = true := by first | (simp [plainName, overriddenIn]; done) | decide +kernel
theorem ef_rmLInf (m : MethodId) (a1 : Addr) (y_1 : Int32) (a3 : Addr) (y_3 : Int32) (y_4 : Int32) : entryFrame m #[(.ref a1), (.int y_1), (.ref a3), (.int y_3), (.int y_4)] 5 = mkF m 0 #[.val (.ref a1), .val (.int y_1), .val (.ref a3), .val (.int y_3), .val (.int y_4)] [] := by first | (simp [entryFrame, mkF, argsToLocals, Value.category]; done) | rfl
theorem pd___BI_BII_V : parseMethodDescriptor "([BI[BII)V" = some ⟨[(.array .byte), .int, (.array .byte), .int, .int], none⟩ := by decide +kernel
theorem ef_rmILc (m : MethodId) (a1 : Addr) : entryFrame m #[(.ref a1)] 1 = mkF m 0 #[.val (.ref a1)] [] := by first | (simp [entryFrame, mkF, argsToLocals, Value.category]; done) | rfl
theorem pn_49 : plainName "java/lang/AbstractStringBuilder" = true := by first | (simp [plainName, overriddenIn]; done) | decide +kernel
theorem ef_rmInfl (m : MethodId) (a1 : Addr) : entryFrame m #[(.ref a1)] 2 = mkF m 0 #[.val (.ref a1), .unset] [] := by first | (simp [entryFrame, mkF, argsToLocals, Value.category]; done) | rfl
theorem ef_rmInfl0 (m : MethodId) (a1 : Addr) : entryFrame m #[(.ref a1)] 2 = mkF m 0 #[.val (.ref a1), .unset] [] := by first | (simp [entryFrame, mkF, argsToLocals, Value.category]; done) | rfl
theorem ef_rmCoderV (m : MethodId) (a1 : Addr) : entryFrame m #[(.ref a1)] 1 = mkF m 0 #[.val (.ref a1)] [] := by first | (simp [entryFrame, mkF, argsToLocals, Value.category]; done) | rfl
theorem ef_rmIf0 (m : MethodId) (a1 : Addr) (a2 : Addr) : entryFrame m #[(.ref a1), (.ref a2)] 2 = mkF m 0 #[.val (.ref a1), .val (.ref a2)] [] := by first | (simp [entryFrame, mkF, argsToLocals, Value.category]; done) | rfl
theorem ef_rmIf1 (m : MethodId) (a1 : Addr) (a2 : Addr) : entryFrame m #[(.ref a1), (.ref a2)] 2 = mkF m 0 #[.val (.ref a1), .val (.ref a2)] [] := by first | (simp [entryFrame, mkF, argsToLocals, Value.category]; done) | rfl
theorem pd___V : parseMethodDescriptor "()V" = some ⟨[], none⟩ := by decide +kernel
theorem ef_rmIf2 (m : MethodId) (a1 : Addr) (a2 : Addr) : entryFrame m #[(.ref a1), (.ref a2)] 2 = mkF m 0 #[.val (.ref a1), .val (.ref a2)] [] := by first | (simp [entryFrame, mkF, argsToLocals, Value.category]; done) | rfl
theorem ef_rmGBg (m : MethodId) (a1 : Addr) (a2 : Addr) (y_2 : Int32) (p4 : Int32) : entryFrame m #[(.ref a1), (.ref a2), (.int y_2), (.int p4)] 4 = mkF m 0 #[.val (.ref a1), .val (.ref a2), .val (.int y_2), .val (.int p4)] [] := by first | (simp [entryFrame, mkF, argsToLocals, Value.category]; done) | rfl
theorem ef_rmGBi (m : MethodId) (a1 : Addr) (a2 : Addr) (y_2 : Int32) (y_3 : Int32) : entryFrame m #[(.ref a1), (.ref a2), (.int y_2), (.int y_3)] 4 = mkF m 0 #[.val (.ref a1), .val (.ref a2), .val (.int y_2), .val (.int y_3)] [] := by first | (simp [entryFrame, mkF, argsToLocals, Value.category]; done) | rfl
theorem ef_rmPeq (m : MethodId) (a1 : Addr) (y_1 : Int32) (a2 : Addr) : entryFrame m #[(.ref a1), (.int y_1), (.ref a2)] 3 = mkF m 0 #[.val (.ref a1), .val (.int y_1), .val (.ref a2)] [] := by first | (simp [entryFrame, mkF, argsToLocals, Value.category]; done) | rfl
theorem ef_rmP10 (m : MethodId) (a1 : Addr) (y_1 : Int32) (a2 : Addr) : entryFrame m #[(.ref a1), (.int y_1), (.ref a2)] 3 = mkF m 0 #[.val (.ref a1), .val (.int y_1), .val (.ref a2)] [] := by first | (simp [entryFrame, mkF, argsToLocals, Value.category]; done) | rfl
theorem ef_rmP01 (m : MethodId) (a1 : Addr) (y_1 : Int32) (a2 : Addr) : entryFrame m #[(.ref a1), (.int y_1), (.ref a2)] 3 = mkF m 0 #[.val (.ref a1), .val (.int y_1), .val (.ref a2)] [] := by first | (simp [entryFrame, mkF, argsToLocals, Value.category]; done) | rfl
theorem ef_rmAU (m : MethodId) (a1 : Addr) (a2 : Addr) : entryFrame m #[(.ref a1), (.ref a2)] 3 = mkF m 0 #[.val (.ref a1), .val (.ref a2), .unset] [] := by first | (simp [entryFrame, mkF, argsToLocals, Value.category]; done) | rfl
theorem ef_rmSU (m : MethodId) (a1 : Addr) (a2 : Addr) : entryFrame m #[(.ref a1), (.ref a2)] 2 = mkF m 0 #[.val (.ref a1), .val (.ref a2)] [] := by first | (simp [entryFrame, mkF, argsToLocals, Value.category]; done) | rfl
theorem ef_rmT2U (m : MethodId) (a1 : Addr) (a2 : Addr) : entryFrame m #[(.ref a1), (.ref a2), .null] 5 = mkF m 0 #[.val (.ref a1), .val (.ref a2), .val .null, .unset, .unset] [] := by first | (simp [entryFrame, mkF, argsToLocals, Value.category]; done) | rfl
theorem ef_rmT1U (m : MethodId) (a1 : Addr) (a2 : Addr) : entryFrame m #[(.ref a1), (.ref a2)] 2 = mkF m 0 #[.val (.ref a1), .val (.ref a2)] [] := by first | (simp [entryFrame, mkF, argsToLocals, Value.category]; done) | rfl
theorem ef_rmTSU (m : MethodId) (a1 : Addr) : entryFrame m #[(.ref a1)] 1 = mkF m 0 #[.val (.ref a1)] [] := by first | (simp [entryFrame, mkF, argsToLocals, Value.category]; done) | rfl
theorem pn_57 : plainName "java/lang/StringUTF16" = true := by first | (simp [plainName, overriddenIn]; done) | decide +kernel
theorem ef_rmUCI (m : MethodId) (y_0 : Int32) (a1 : Addr) : entryFrame m #[(.int y_0), (.ref a1)] 2 = mkF m 0 #[.val (.int y_0), .val (.ref a1)] [] := by first | (simp [entryFrame, mkF, argsToLocals, Value.category]; done) | rfl
theorem pn_56 : plainName "java/lang/StringUTF16" = true := by first | (simp [plainName, overriddenIn]; done) | decide +kernel
theorem ef_rmUCA (m : MethodId) (a1 : Addr) (y_1 : Int32) : entryFrame m #[(.ref a1), (.int y_1)] 2 = mkF m 0 #[.val (.ref a1), .val (.int y_1)] [] := by first | (simp [entryFrame, mkF, argsToLocals, Value.category]; done) | rfl
theorem pd__I_B_V : parseMethodDescriptor "(I[B)V" = some ⟨[.int, (.array .byte)], none⟩ := by decide +kernel
theorem ef_rmCAU (m : MethodId) (a1 : Addr) (y_1 : Int32) : entryFrame m #[(.ref a1), (.int y_1)] 2 = mkF m 0 #[.val (.ref a1), .val (.int y_1)] [] := by first | (simp [entryFrame, mkF, argsToLocals, Value.category]; done) | rfl
theorem ef_rmE4 (m : MethodId) (a1 : Addr) (a2 : Addr) : entryFrame m #[(.ref a1), (.ref a2), (.int (0 : Int32)), (.int (0 : Int32)), .null] 6 = mkF m 0 #[.val (.ref a1), .val (.ref a2), .val (.int (0 : Int32)), .val (.int (0 : Int32)), .val .null, .unset] [] := by first | (simp [entryFrame, mkF, argsToLocals, Value.category]; done) | rfl
theorem ef_rmE (m : MethodId) (a1 : Addr) (a2 : Addr) : entryFrame m #[(.ref a1), (.ref a2)] 2 = mkF m 0 #[.val (.ref a1), .val (.ref a2)] [] := by first | (simp [entryFrame, mkF, argsToLocals, Value.category]; done) | rfl
theorem pn_33 : plainName "java/lang/Throwable" = true := by first | (simp [plainName, overriddenIn]; done) | decide +kernel
theorem ef_rmTh (m : MethodId) (a1 : Addr) (msg : Value) (ref_msg : msg.isRef = true) : entryFrame m #[(.ref a1), msg] 2 = mkF m 0 #[.val (.ref a1), .val msg] [] := by
  rcases ref_cases ref_msg with rfl | ⟨_, rfl⟩ <;> rfl
theorem pn_32 : plainName "java/lang/Exception" = true := by first | (simp [plainName, overriddenIn]; done) | decide +kernel
theorem ef_rmEx (m : MethodId) (a1 : Addr) (msg : Value) (ref_msg : msg.isRef = true) : entryFrame m #[(.ref a1), msg] 2 = mkF m 0 #[.val (.ref a1), .val msg] [] := by
  rcases ref_cases ref_msg with rfl | ⟨_, rfl⟩ <;> rfl
theorem pn_31 : plainName "java/lang/RuntimeException" = true := by first | (simp [plainName, overriddenIn]; done) | decide +kernel
theorem ef_rmRt (m : MethodId) (a1 : Addr) (msg : Value) (ref_msg : msg.isRef = true) : entryFrame m #[(.ref a1), msg] 2 = mkF m 0 #[.val (.ref a1), .val msg] [] := by
  rcases ref_cases ref_msg with rfl | ⟨_, rfl⟩ <;> rfl
theorem pn_30 : plainName "com/example/keyset/keyset/query/DeclarationException" = true := by first | (simp [plainName, overriddenIn]; done) | decide +kernel
theorem ef_rmDc (m : MethodId) (a1 : Addr) (msg : Value) (ref_msg : msg.isRef = true) : entryFrame m #[(.ref a1), msg] 2 = mkF m 0 #[.val (.ref a1), .val msg] [] := by
  rcases ref_cases ref_msg with rfl | ⟨_, rfl⟩ <;> rfl
theorem pn_1 : plainName "com/example/keyset/keyset/query/DeclarationExceptionForResourcePinLaw" = true := by first | (simp [plainName, overriddenIn]; done) | decide +kernel
theorem ef_rmMk (m : MethodId) (p1 : Int32) (p2 : Int32) : entryFrame m #[(.int p1), (.int p2)] 2 = mkF m 0 #[.val (.int p1), .val (.int p2)] [] := by first | (simp [entryFrame, mkF, argsToLocals, Value.category]; done) | rfl
theorem pd___C_V : parseMethodDescriptor "([C)V" = some ⟨[(.array .char)], none⟩ := by decide +kernel
theorem pn_8 : plainName "com/example/keyset/keyset/query/DeclarationException" = true := by first | (simp [plainName, overriddenIn]; done) | decide +kernel
theorem ef_rmFR (m : MethodId) (a1 : Addr) (a2 : Addr) : entryFrame m #[(.ref a1), (.ref a2)] 2 = mkF m 0 #[.val (.ref a1), .val (.ref a2)] [] := by first | (simp [entryFrame, mkF, argsToLocals, Value.category]; done) | rfl
theorem pd__Ljava_lang_String__Ljava_lang_StringBuilder_ : parseMethodDescriptor "(Ljava/lang/String;)Ljava/lang/StringBuilder;" = some ⟨[(.object "java/lang/String")], some (.object "java/lang/StringBuilder")⟩ := by decide +kernel
theorem pd___Ljava_lang_String_ : parseMethodDescriptor "()Ljava/lang/String;" = some ⟨[], some (.object "java/lang/String")⟩ := by decide +kernel
theorem pn_36 : plainName "java/lang/Throwable" = true := by first | (simp [plainName, overriddenIn]; done) | decide +kernel
theorem ef_rmGM (m : MethodId) (a1 : Addr) : entryFrame m #[(.ref a1)] 1 = mkF m 0 #[.val (.ref a1)] [] := by first | (simp [entryFrame, mkF, argsToLocals, Value.category]; done) | rfl
theorem pn_43 : plainName "com/example/keyset/keyset/query/DeclarationExceptionForResourcePinLaw" = true := by first | (simp [plainName, overriddenIn]; done) | decide +kernel
theorem ef_rmX0 (m : MethodId) (a2 : Addr) (a3 : Addr) : entryFrame m #[(.int (0 : Int32)), (.ref a2), (.ref a3)] 6 = mkF m 0 #[.val (.int (0 : Int32)), .val (.ref a2), .val (.ref a3), .unset, .unset, .unset] [] := by first | (simp [entryFrame, mkF, argsToLocals, Value.category]; done) | rfl
theorem pd__I_C : parseMethodDescriptor "(I)C" = some ⟨[.int], some .char⟩ := by decide +kernel
theorem ef_rmX1 (m : MethodId) (y_0 : Int32) (a2 : Addr) (a3 : Addr) : entryFrame m #[(.int y_0), (.ref a2), (.ref a3)] 6 = mkF m 0 #[.val (.int y_0), .val (.ref a2), .val (.ref a3), .unset, .unset, .unset] [] := by first | (simp [entryFrame, mkF, argsToLocals, Value.category]; done) | rfl
theorem ef_rmX1a (m : MethodId) (y_0 : Int32) (a2 : Addr) (a3 : Addr) : entryFrame m #[(.int y_0), (.ref a2), (.ref a3)] 6 = mkF m 0 #[.val (.int y_0), .val (.ref a2), .val (.ref a3), .unset, .unset, .unset] [] := by first | (simp [entryFrame, mkF, argsToLocals, Value.category]; done) | rfl
theorem pn_37 : plainName "com/example/keyset/keyset/query/DeclarationExceptionForResourcePinLaw" = true := by first | (simp [plainName, overriddenIn]; done) | decide +kernel
theorem ef_rmO0 (m : MethodId) (a1 : Addr) (a3 : Addr) (a4 : Addr) : entryFrame m #[(.ref a1), (.int (0 : Int32)), (.ref a3), (.ref a4)] 4 = mkF m 0 #[.val (.ref a1), .val (.int (0 : Int32)), .val (.ref a3), .val (.ref a4)] [] := by first | (simp [entryFrame, mkF, argsToLocals, Value.category]; done) | rfl
theorem pd__ILjava_lang_String_Ljava_lang_String__C : parseMethodDescriptor "(ILjava/lang/String;Ljava/lang/String;)C" = some ⟨[.int, (.object "java/lang/String"), (.object "java/lang/String")], some .char⟩ := by decide +kernel
theorem ef_rmO1 (m : MethodId) (a1 : Addr) (y_1 : Int32) (a3 : Addr) (a4 : Addr) : entryFrame m #[(.ref a1), (.int y_1), (.ref a3), (.ref a4)] 4 = mkF m 0 #[.val (.ref a1), .val (.int y_1), .val (.ref a3), .val (.ref a4)] [] := by first | (simp [entryFrame, mkF, argsToLocals, Value.category]; done) | rfl
theorem ef_rmO1a (m : MethodId) (a1 : Addr) (y_1 : Int32) (a3 : Addr) (a4 : Addr) : entryFrame m #[(.ref a1), (.int y_1), (.ref a3), (.ref a4)] 4 = mkF m 0 #[.val (.ref a1), .val (.int y_1), .val (.ref a3), .val (.ref a4)] [] := by first | (simp [entryFrame, mkF, argsToLocals, Value.category]; done) | rfl
theorem pn_0 : plainName "com/example/keyset/keyset/query/DeclarationExceptionForResourcePinLaw" = true := by first | (simp [plainName, overriddenIn]; done) | decide +kernel
theorem ef_rm0 (m : MethodId) (p1 : Int32) (p2 : Int32) (p3 : Int32) : entryFrame m #[(.int p1), (.int p2), (.int p3)] maxLocals = mkF m 0 #[.val (.int p1), .val (.int p2), .val (.int p3), .unset, .unset, .unset, .unset, .unset, .unset] [] := by first | (simp [entryFrame, mkF, argsToLocals, Value.category, maxLocals]; done) | rfl
theorem pd__II_Ljava_lang_String_ : parseMethodDescriptor "(II)Ljava/lang/String;" = some ⟨[.int, .int], some (.object "java/lang/String")⟩ := by decide +kernel
theorem pd__Ljava_lang_String_Ljava_lang_String__Lcom_example_keyset_keyset_query_DeclarationException_ : parseMethodDescriptor "(Ljava/lang/String;Ljava/lang/String;)Lcom/example/keyset/keyset/query/DeclarationException;" = some ⟨[(.object "java/lang/String"), (.object "java/lang/String")], some (.object "com/example/keyset/keyset/query/DeclarationException")⟩ := by decide +kernel
theorem pd__Ljava_lang_String_ILjava_lang_String_Ljava_lang_String__Z : parseMethodDescriptor "(Ljava/lang/String;ILjava/lang/String;Ljava/lang/String;)Z" = some ⟨[(.object "java/lang/String"), .int, (.object "java/lang/String"), (.object "java/lang/String")], some .boolean⟩ := by decide +kernel
/-! the same, where String constants may be loaded on the way (the library's LawHeld: CHv, CHr, Safe) -/
def GoH (p : Program) (e : Env) (below : List Frame) (s : State) (C S : Nat) (Z : State) (h0 : Heap) (EL : List (String × Nat)) (Q : Option Value → Heap → List Loc → Prop) (T : State) (g : JFrame) : Prop :=
  ∃ s₂ o, Steps p.tables e below (T.setTop g) s₂ ∧ s₂.status = .running ∧ Ended s₂ below o ∧ ∃ v L, o = .returned v ∧ Q v s₂.heap L ∧ CHr Z EL s.vm h0 s₂.vm s₂.heap ∧ ReturnedEndW s o s₂ L C S
section GoHKit
variable {p : Program} {l : Launch} {e : Env} {R : Room} {s : State} {vm0 : Vm} {m : MethodId} {args : Array Value} {below : List Frame} {meth : Method} {c : Code} {T T' : State} {g g' : JFrame} {locs : List Loc} {cells slots C S k0 : Nat} {Q : Option Value → Heap → List Loc → Prop} {Z : State} {a0 : Array Value} {h h0 h' : Heap} {n0 : Nat} {EL : List (String × Nat)}
theorem GoH.st (st : ∀ t, Steps p.tables e below (T'.setTop g') t → Steps p.tables e below (T.setTop g) t) (k : GoH p e below s C S Z h0 EL Q T' g') : GoH p e below s C S Z h0 EL Q T g := by
  obtain ⟨s₂, o, h1, h2⟩ := k; exact ⟨s₂, o, st _ h1, h2⟩
theorem GoH.tr (st : Steps p.tables e below (T.setTop g) (T'.setTop g')) (k : GoH p e below s C S Z h0 EL Q T' g') : GoH p e below s C S Z h0 EL Q T g := by
  obtain ⟨s₂, o, h1, h2⟩ := k; exact ⟨s₂, o, st.trans h1, h2⟩
theorem GoH.eq (q : g = g') (k : GoH p e below s C S Z h0 EL Q T g') : GoH p e below s C S Z h0 EL Q T g := q ▸ k
theorem GoH.fin (X : Stand p l e R (s.setVm vm0) m args below meth c T locs cells slots) (hS : s.Since vm0 k0) (hk : k0 ≤ h.size) (eT : T.heap = h) (hZ : Z.Warmed39 vm0) (hEL : EW Z a0 EL) (H : CHv Z EL vm0 h) (RR : CHr Z EL s.vm h0 vm0 h) (hlk : meth.locks = false) {v : Option Value} (hv : meth.sig.returnType = none → v = none) (hc : cells ≤ C) (hs : slots ≤ S) (q : Q v T.heap locs)
    (k : ∀ fs, (∀ (f : JFrame) (acts : List Action), f.method = m → f.locked = none → f.entered = [] → (doReturn e (T.setTop f) acts v).1 = T.setFrames fs) → Steps p.tables e below (T.setTop g) (T.setFrames fs)) : GoH p e below s C S Z h0 EL Q T g := by
  obtain ⟨fs, hr, hrun, hended, hW⟩ := X.leaveW hS (eT ▸ hk) (v := v) hv hlk
  refine ⟨_, _, k fs hr, hrun, hended, _, _, rfl, q, ?_, hW.1, hW.2.1, hW.2.2.1, hW.2.2.2.mono hc hs⟩
  show CHr Z EL s.vm h0 T.vm T.heap
  rw [eT]; exact RR.trans (CHv.at X hZ hEL H)
theorem GoH.retN (X : Stand p l e R (s.setVm vm0) m args below meth c T locs cells slots) (hS : s.Since vm0 k0) (hk : k0 ≤ h.size) (eT : T.heap = h) (hZ : Z.Warmed39 vm0) (hEL : EW Z a0 EL) (H : CHv Z EL vm0 h) (RR : CHr Z EL s.vm h0 vm0 h) (hlk : meth.locks = false) (hx : p.tables.exec = Jvm.exec) {pc : Nat} {Ls : Array Slot} {z z' : Int32} {t : FieldType} {rest : List Value} (hret : meth.sig.returnType = some t) (ht : t = .boolean ∨ t = .byte ∨ t = .char ∨ t = .short)
    (hd : decode c.code pc = .ok (.ireturn, 1)) (hc : cells ≤ C) (hs : slots ≤ S) (hz : nar t z = z') (q : Q (some (.int z')) T.heap locs) : GoH p e below s C S Z h0 EL Q T (mkF m pc Ls (.int z :: rest)) := by
  subst hz
  exact GoH.fin X hS hk eT hZ hEL H RR hlk (fun h => by rw [hret] at h; cases h) hc hs q fun fs hr => Jvm.RoadKit.retN X hx hret ht hd hr
theorem GoH.retV (X : Stand p l e R (s.setVm vm0) m args below meth c T locs cells slots) (hS : s.Since vm0 k0) (hk : k0 ≤ h.size) (eT : T.heap = h) (hZ : Z.Warmed39 vm0) (hEL : EW Z a0 EL) (H : CHv Z EL vm0 h) (RR : CHr Z EL s.vm h0 vm0 h) (hlk : meth.locks = false) (hx : p.tables.exec = Jvm.exec) {pc : Nat} {Ls : Array Slot} {w : Value} {t : FieldType} {i : Instr} {rest : List Value} (hret : meth.sig.returnType = some t) (hn : narrow t w = w)
    (hi : (i = .ireturn ∧ (t = .int ∨ t = .boolean ∨ t = .byte ∨ t = .char ∨ t = .short) ∧ ∃ z, w = .int z) ∨ (i = .lreturn ∧ t = .long ∧ ∃ z, w = .long z) ∨ (i = .dreturn ∧ t = .double ∧ ∃ z, w = .double z) ∨ (i = .freturn ∧ t = .float ∧ ∃ z, w = .float z) ∨ (i = .areturn ∧ t.isReference = true ∧ w.isRef = true))
    (hd : decode c.code pc = .ok (i, 1)) (hc : cells ≤ C) (hs : slots ≤ S) (q : Q (some w) T.heap locs) : GoH p e below s C S Z h0 EL Q T (mkF m pc Ls (w :: rest)) :=
  GoH.fin X hS hk eT hZ hEL H RR hlk (fun h => by rw [hret] at h; cases h) hc hs q fun fs hr => Jvm.RoadKit.retOut X hx hret hn hi hd hr
theorem GoH.retR (X : Stand p l e R (s.setVm vm0) m args below meth c T locs cells slots) (hS : s.Since vm0 k0) (hk : k0 ≤ h.size) (eT : T.heap = h) (hZ : Z.Warmed39 vm0) (hEL : EW Z a0 EL) (H : CHv Z EL vm0 h) (RR : CHr Z EL s.vm h0 vm0 h) (hlk : meth.locks = false) (hx : p.tables.exec = Jvm.exec) {pc : Nat} {Ls : Array Slot} {w : Value} {t : FieldType} {rest : List Value} (hret : meth.sig.returnType = some t) (ht : t.isReference = true) (hw : w.isRef = true) (hn : narrow t w = w)
    (hd : decode c.code pc = .ok (.areturn, 1)) (hc : cells ≤ C) (hs : slots ≤ S) (q : Q (some w) T.heap locs) : GoH p e below s C S Z h0 EL Q T (mkF m pc Ls (w :: rest)) :=
  GoH.retV X hS hk eT hZ hEL H RR hlk hx hret hn (Or.inr (Or.inr (Or.inr (Or.inr ⟨rfl, ht, hw⟩)))) hd hc hs q
theorem GoH.retI (X : Stand p l e R (s.setVm vm0) m args below meth c T locs cells slots) (hS : s.Since vm0 k0) (hk : k0 ≤ h.size) (eT : T.heap = h) (hZ : Z.Warmed39 vm0) (hEL : EW Z a0 EL) (H : CHv Z EL vm0 h) (RR : CHr Z EL s.vm h0 vm0 h) (hlk : meth.locks = false) (hx : p.tables.exec = Jvm.exec) {pc : Nat} {Ls : Array Slot} {z : Int32} {rest : List Value} (hret : meth.sig.returnType = some .int)
    (hd : decode c.code pc = .ok (.ireturn, 1)) (hc : cells ≤ C) (hs : slots ≤ S) (q : Q (some (.int z)) T.heap locs) : GoH p e below s C S Z h0 EL Q T (mkF m pc Ls (.int z :: rest)) :=
  GoH.retV X hS hk eT hZ hEL H RR hlk hx hret rfl (Or.inl ⟨rfl, Or.inl rfl, z, rfl⟩) hd hc hs q
theorem GoH.ret0 (X : Stand p l e R (s.setVm vm0) m args below meth c T locs cells slots) (hS : s.Since vm0 k0) (hk : k0 ≤ h.size) (eT : T.heap = h) (hZ : Z.Warmed39 vm0) (hEL : EW Z a0 EL) (H : CHv Z EL vm0 h) (RR : CHr Z EL s.vm h0 vm0 h) (hlk : meth.locks = false) (hx : p.tables.exec = Jvm.exec) {pc : Nat} {Ls : Array Slot} (hret : meth.sig.returnType = none)
    (hd : decode c.code pc = .ok (.return_, 1)) (hc : cells ≤ C) (hs : slots ≤ S) (q : Q none T.heap locs) : GoH p e below s C S Z h0 EL Q T (mkF m pc Ls []) :=
  GoH.fin X hS hk eT hZ hEL H RR hlk (fun _ => rfl) hc hs q fun fs hr => X.returnOut hx hret hd hr
theorem own_backSH {y : MethodName} {bytes : ByteArray} {maxL : Nat} {ret : Option FieldType} {rm : Room} {len W : Nat} {as' : Array Value} {sf : List Addr}
    (hM : MetFree l y (head1 [Cond.code y bytes maxL ret] rm) (fun a U => a = as' ∧ Z.Warmed39 U.vm ∧ U.heap = h ∧ CHv Z EL U.vm h ∧ ∀ x ∈ sf, Safe Z EL U.vm h x) (fun _ _ _ _ _ => True) (fun _ U o U' => ∃ v L, o = .returned v ∧ Q v U'.heap L ∧ CHr Z EL U.vm U.heap U'.vm U'.heap ∧ ReturnedEndW U o U' L rm.cells rm.slots))
    (hZ : Z.Warmed39 vm0) (wc : (Cond.code y bytes maxL ret).before a0 Z = true) (wz : (Cond.initialized y.cls).before a0 Z = true) (hf : rm.frames + 1 ≤ R.frames) (hl : W + (maxL + 11) + rm.locals ≤ R.locals) (hEL : EW Z a0 EL) (H : CHv Z EL vm0 h) (hsf : ∀ x ∈ sf, Safe Z EL vm0 h x ∧ x < Array.size h) :
    BackS l R p e below (s.setVm vm0) args y len W (fun A a => a = as' ∧ A.U.heap = h ∧ A.cells + rm.cells ≤ R.cells ∧ A.slots + rm.slots ≤ R.slots)
      (fun A _ v B => ∃ L, Q v B.U.heap L ∧ B.locs = A.locs ++ L ∧ B.cells = A.cells + rm.cells ∧ B.slots = A.slots + rm.slots ∧ CHr Z EL vm0 h B.U.vm B.U.heap) := by
  have up : ∀ {m meth c} {A : Pt}, Stand p l e R (s.setVm vm0) m args below meth c A.U A.locs A.cells A.slots → Z.Warmed39 A.U.vm := fun Y => wtrans (s := s.setVm vm0) hZ Y.warmed
  refine BackS.of_freeW (bytes := bytes) (maxL := maxL) (ret := ret) (E := fun _ first o t L k n => (k = rm.cells ∧ n = rm.slots) ∧ (∃ v, o = .returned v ∧ Q v t.heap L) ∧ CHr Z EL first.vm first.heap t.vm t.heap) hM hf hl ?_ ?_ ?_ ?_ ?_
  · intro m meth c A a Y hp
    refine ⟨?_, mv (up Y) wc, mv (up Y) wz, hp.2.2.1, hp.2.2.2⟩
    show (Cond.and _ .tt).before a A.U = true
    rw [Cond.before_and, mv (up Y) wc]; rfl
  · intro m meth c A a g mk Y hp
    have q := CHv.at Y hZ hEL H
    exact ⟨hp.1, up Y, hp.2.1, q.1, fun x hx => q.safe (hsf x hx).2 (hsf x hx).1⟩
  · intro _ _ _ _ _ _ _ _ _; trivial
  · intro _ _ _ _ hq
    obtain ⟨v, L, h1, h2, h3, h4⟩ := hq
    exact ⟨L, _, _, h4, ⟨rfl, rfl⟩, ⟨v, h1, h2⟩, h3⟩
  · intro m meth c A a g mk v t L k n Y hp _ _ hq
    obtain ⟨⟨e1, e2⟩, ⟨v', e3, e4⟩, e5⟩ := hq
    cases e3; subst e1 e2
    refine ⟨L, e4, rfl, rfl, rfl, (CHv.at Y hZ hEL H).trans ?_⟩
    rw [← hp.2.1]; exact e5
theorem own_backSKH {y : MethodName} {bytes : ByteArray} {maxL : Nat} {ret : Option FieldType} {rm : Room} {len W : Nat} {as' : Array Value} {sf : List Addr}
    (hM : MetFree l y (head1 [Cond.code y bytes maxL ret] rm) (fun a U => a = as' ∧ Z.Warmed39 U.vm ∧ U.heap = h ∧ CHv Z EL U.vm h ∧ ∀ x ∈ sf, Safe Z EL U.vm h x) (fun _ _ bl s _ => s.vm.MethodsKnown ∧ s.vm.FramesKnown bl) (fun _ U o U' => ∃ v L, o = .returned v ∧ Q v U'.heap L ∧ CHr Z EL U.vm U.heap U'.vm U'.heap ∧ ReturnedEndW U o U' L rm.cells rm.slots))
    (hZ : Z.Warmed39 vm0) (wc : (Cond.code y bytes maxL ret).before a0 Z = true) (wz : (Cond.initialized y.cls).before a0 Z = true) (hf : rm.frames + 1 ≤ R.frames) (hl : W + (maxL + 11) + rm.locals ≤ R.locals) (hEL : EW Z a0 EL) (H : CHv Z EL vm0 h) (hsf : ∀ x ∈ sf, Safe Z EL vm0 h x ∧ x < Array.size h) (hTK : vm0.MethodsKnown) (hBelow : vm0.FramesKnown below) :
    BackS l R p e below (s.setVm vm0) args y len W (fun A a => a = as' ∧ A.U.heap = h ∧ A.cells + rm.cells ≤ R.cells ∧ A.slots + rm.slots ≤ R.slots)
      (fun A _ v B => ∃ L, Q v B.U.heap L ∧ B.locs = A.locs ++ L ∧ B.cells = A.cells + rm.cells ∧ B.slots = A.slots + rm.slots ∧ CHr Z EL vm0 h B.U.vm B.U.heap) := by
  have up : ∀ {m meth c} {A : Pt}, Stand p l e R (s.setVm vm0) m args below meth c A.U A.locs A.cells A.slots → Z.Warmed39 A.U.vm := fun Y => wtrans (s := s.setVm vm0) hZ Y.warmed
  refine BackS.of_freeWG (bytes := bytes) (maxL := maxL) (ret := ret) (E := fun _ first o t L k n => (k = rm.cells ∧ n = rm.slots) ∧ (∃ v, o = .returned v ∧ Q v t.heap L) ∧ CHr Z EL first.vm first.heap t.vm t.heap) hM hf hl ?_ ?_ ?_ ?_ ?_
  · intro m meth c A a Y hp
    refine ⟨?_, mv (up Y) wc, mv (up Y) wz, hp.2.2.1, hp.2.2.2⟩
    show (Cond.and _ .tt).before a A.U = true
    rw [Cond.before_and, mv (up Y) wc]; rfl
  · intro m meth c A a g mk Y hp
    have q := CHv.at Y hZ hEL H
    exact ⟨hp.1, up Y, hp.2.1, q.1, fun x hx => q.safe (hsf x hx).2 (hsf x hx).1⟩
  · intro m meth c A a g mk Y hp hg; exact known_frames Y hg hTK hBelow
  · intro _ _ _ _ hq
    obtain ⟨v, L, h1, h2, h3, h4⟩ := hq
    exact ⟨L, _, _, h4, ⟨rfl, rfl⟩, ⟨v, h1, h2⟩, h3⟩
  · intro m meth c A a g mk v t L k n Y hp _ _ hq
    obtain ⟨⟨e1, e2⟩, ⟨v', e3, e4⟩, e5⟩ := hq
    cases e3; subst e1 e2
    refine ⟨L, e4, rfl, rfl, rfl, (CHv.at Y hZ hEL H).trans ?_⟩
    rw [← hp.2.1]; exact e5
theorem own_since (s : State) (n : Nat) : s.Since s.vm n := (State.WarmedH.since (s := s) (vm₁ := s.vm) (State.WarmedH.refl s) n)
theorem GoH.pure {w : Option Value} {Qc : Option Value → Heap → List Loc → Prop} {rest : List Value} {pc' : Nat} (H : ∃ (v : Option Value) (vm₁ : Vm) (B : Pt), (s.setVm vm0).WarmedH vm₁ ∧ Stand p l e R (s.setVm vm0) m args below meth c B.U B.locs B.cells B.slots ∧ (∃ L, Qc v B.U.heap L ∧ B.locs = locs ++ L ∧ B.cells = cells + 0 ∧ B.slots = slots + 0) ∧ Steps p.tables e below (T.setTop g) (B.U.setTop { g with pc := pc', stack := v.toList ++ rest })) (hq : ∀ v h' L, Qc v h' L → v = w ∧ Fr n0 L ∧ h' = h) (N : Fr n0 locs)
    (k : ∀ T' L', Stand p l e R (s.setVm vm0) m args below meth c T' L' cells slots → T'.heap = h → Fr n0 L' → GoH p e below s C S Z h0 EL Q T' { g with pc := pc', stack := w.toList ++ rest }) : GoH p e below s C S Z h0 EL Q T g := by
  obtain ⟨v, vm1, ⟨T', L', c', s'⟩, -, X, ⟨L, q, e1, e2, e3⟩, st⟩ := H
  obtain ⟨rfl, q2, q3⟩ := hq _ _ _ q
  dsimp only [Pt.U, Pt.locs, Pt.cells, Pt.slots] at X e1 e2 e3 st q3
  subst e1 e2 e3
  exact GoH.tr st (k _ _ X q3 (Fr.app N q2))
theorem GoH.pureS {w : Option Value} {Qc : Option Value → Heap → List Loc → Prop} {rest : List Value} {pc' : Nat} (H : ∃ (v : Option Value) (vm₁ : Vm) (B : Pt), (s.setVm vm0).WarmedH vm₁ ∧ Stand p l e R (s.setVm vm0) m args below meth c B.U B.locs B.cells B.slots ∧ (∃ L, Qc v B.U.heap L ∧ B.locs = locs ++ L ∧ B.cells = cells + 0 ∧ B.slots = slots + 0) ∧ ∀ target, Steps p.tables e below (B.U.setTop { g with pc := pc', stack := v.toList ++ rest }) target → Steps p.tables e below (T.setTop g) target) (hq : ∀ v h' L, Qc v h' L → v = w ∧ Fr n0 L ∧ h' = h) (N : Fr n0 locs)
    (k : ∀ T' L', Stand p l e R (s.setVm vm0) m args below meth c T' L' cells slots → T'.heap = h → Fr n0 L' → GoH p e below s C S Z h0 EL Q T' { g with pc := pc', stack := w.toList ++ rest }) : GoH p e below s C S Z h0 EL Q T g := by
  obtain ⟨v, vm1, ⟨T', L', c', s'⟩, -, X, ⟨L, q, e1, e2, e3⟩, st⟩ := H
  obtain ⟨rfl, q2, q3⟩ := hq _ _ _ q
  dsimp only [Pt.U, Pt.locs, Pt.cells, Pt.slots] at X e1 e2 e3 st q3
  subst e1 e2 e3
  exact GoH.st st (k _ _ X q3 (Fr.app N q2))
end GoHKit

def GoHL (p : Program) (e : Env) (below : List Frame) (s : State) (C S : Nat) (Z : State) (h0 : Heap) (EL : List (String × Nat)) (Q : Option Value → Vm → Heap → List Loc → Prop) (T : State) (g : JFrame) : Prop :=
  ∃ s₂ o, Steps p.tables e below (T.setTop g) s₂ ∧ s₂.status = .running ∧ Ended s₂ below o ∧ ∃ v L, o = .returned v ∧ Q v s₂.vm s₂.heap L ∧ CHr Z EL s.vm h0 s₂.vm s₂.heap ∧ ReturnedEndW s o s₂ L C S
section GoHLKit
variable {p : Program} {l : Launch} {e : Env} {R : Room} {s : State} {vm0 : Vm} {m : MethodId} {args : Array Value} {below : List Frame} {meth : Method} {c : Code} {T T' : State} {g g' : JFrame} {locs : List Loc} {cells slots C S k0 : Nat} {Q : Option Value → Vm → Heap → List Loc → Prop} {Z : State} {a0 : Array Value} {h h0 h' : Heap} {n0 : Nat} {EL : List (String × Nat)}
theorem GoHL.st (st : ∀ t, Steps p.tables e below (T'.setTop g') t → Steps p.tables e below (T.setTop g) t) (k : GoHL p e below s C S Z h0 EL Q T' g') : GoHL p e below s C S Z h0 EL Q T g := by
  obtain ⟨s₂, o, h1, h2⟩ := k; exact ⟨s₂, o, st _ h1, h2⟩
theorem GoHL.tr (st : Steps p.tables e below (T.setTop g) (T'.setTop g')) (k : GoHL p e below s C S Z h0 EL Q T' g') : GoHL p e below s C S Z h0 EL Q T g := by
  obtain ⟨s₂, o, h1, h2⟩ := k; exact ⟨s₂, o, st.trans h1, h2⟩
theorem GoHL.eq (q : g = g') (k : GoHL p e below s C S Z h0 EL Q T g') : GoHL p e below s C S Z h0 EL Q T g := q ▸ k
theorem GoHL.fin (X : Stand p l e R (s.setVm vm0) m args below meth c T locs cells slots) (hS : s.Since vm0 k0) (hk : k0 ≤ h.size) (eT : T.heap = h) (hZ : Z.Warmed39 vm0) (hEL : EW Z a0 EL) (H : CHv Z EL vm0 h) (RR : CHr Z EL s.vm h0 vm0 h) (hlk : meth.locks = false) {v : Option Value} (hv : meth.sig.returnType = none → v = none) (hc : cells ≤ C) (hs : slots ≤ S) (q : Q v T.vm T.heap locs)
    (k : ∀ fs, (∀ (f : JFrame) (acts : List Action), f.method = m → f.locked = none → f.entered = [] → (doReturn e (T.setTop f) acts v).1 = T.setFrames fs) → Steps p.tables e below (T.setTop g) (T.setFrames fs)) : GoHL p e below s C S Z h0 EL Q T g := by
  obtain ⟨fs, hr, hrun, hended, hW⟩ := X.leaveW hS (eT ▸ hk) (v := v) hv hlk
  refine ⟨_, _, k fs hr, hrun, hended, _, _, rfl, q, ?_, hW.1, hW.2.1, hW.2.2.1, hW.2.2.2.mono hc hs⟩
  show CHr Z EL s.vm h0 T.vm T.heap
  rw [eT]; exact RR.trans (CHv.at X hZ hEL H)
theorem GoHL.retN (X : Stand p l e R (s.setVm vm0) m args below meth c T locs cells slots) (hS : s.Since vm0 k0) (hk : k0 ≤ h.size) (eT : T.heap = h) (hZ : Z.Warmed39 vm0) (hEL : EW Z a0 EL) (H : CHv Z EL vm0 h) (RR : CHr Z EL s.vm h0 vm0 h) (hlk : meth.locks = false) (hx : p.tables.exec = Jvm.exec) {pc : Nat} {Ls : Array Slot} {z z' : Int32} {t : FieldType} {rest : List Value} (hret : meth.sig.returnType = some t) (ht : t = .boolean ∨ t = .byte ∨ t = .char ∨ t = .short)
    (hd : decode c.code pc = .ok (.ireturn, 1)) (hc : cells ≤ C) (hs : slots ≤ S) (hz : nar t z = z') (q : Q (some (.int z')) T.vm T.heap locs) : GoHL p e below s C S Z h0 EL Q T (mkF m pc Ls (.int z :: rest)) := by
  subst hz
  exact GoHL.fin X hS hk eT hZ hEL H RR hlk (fun h => by rw [hret] at h; cases h) hc hs q fun fs hr => Jvm.RoadKit.retN X hx hret ht hd hr
theorem GoHL.retV (X : Stand p l e R (s.setVm vm0) m args below meth c T locs cells slots) (hS : s.Since vm0 k0) (hk : k0 ≤ h.size) (eT : T.heap = h) (hZ : Z.Warmed39 vm0) (hEL : EW Z a0 EL) (H : CHv Z EL vm0 h) (RR : CHr Z EL s.vm h0 vm0 h) (hlk : meth.locks = false) (hx : p.tables.exec = Jvm.exec) {pc : Nat} {Ls : Array Slot} {w : Value} {t : FieldType} {i : Instr} {rest : List Value} (hret : meth.sig.returnType = some t) (hn : narrow t w = w)
    (hi : (i = .ireturn ∧ (t = .int ∨ t = .boolean ∨ t = .byte ∨ t = .char ∨ t = .short) ∧ ∃ z, w = .int z) ∨ (i = .lreturn ∧ t = .long ∧ ∃ z, w = .long z) ∨ (i = .dreturn ∧ t = .double ∧ ∃ z, w = .double z) ∨ (i = .freturn ∧ t = .float ∧ ∃ z, w = .float z) ∨ (i = .areturn ∧ t.isReference = true ∧ w.isRef = true))
    (hd : decode c.code pc = .ok (i, 1)) (hc : cells ≤ C) (hs : slots ≤ S) (q : Q (some w) T.vm T.heap locs) : GoHL p e below s C S Z h0 EL Q T (mkF m pc Ls (w :: rest)) :=
  GoHL.fin X hS hk eT hZ hEL H RR hlk (fun h => by rw [hret] at h; cases h) hc hs q fun fs hr => Jvm.RoadKit.retOut X hx hret hn hi hd hr
theorem GoHL.retR (X : Stand p l e R (s.setVm vm0) m args below meth c T locs cells slots) (hS : s.Since vm0 k0) (hk : k0 ≤ h.size) (eT : T.heap = h) (hZ : Z.Warmed39 vm0) (hEL : EW Z a0 EL) (H : CHv Z EL vm0 h) (RR : CHr Z EL s.vm h0 vm0 h) (hlk : meth.locks = false) (hx : p.tables.exec = Jvm.exec) {pc : Nat} {Ls : Array Slot} {w : Value} {t : FieldType} {rest : List Value} (hret : meth.sig.returnType = some t) (ht : t.isReference = true) (hw : w.isRef = true) (hn : narrow t w = w)
    (hd : decode c.code pc = .ok (.areturn, 1)) (hc : cells ≤ C) (hs : slots ≤ S) (q : Q (some w) T.vm T.heap locs) : GoHL p e below s C S Z h0 EL Q T (mkF m pc Ls (w :: rest)) :=
  GoHL.retV X hS hk eT hZ hEL H RR hlk hx hret hn (Or.inr (Or.inr (Or.inr (Or.inr ⟨rfl, ht, hw⟩)))) hd hc hs q
theorem GoHL.retI (X : Stand p l e R (s.setVm vm0) m args below meth c T locs cells slots) (hS : s.Since vm0 k0) (hk : k0 ≤ h.size) (eT : T.heap = h) (hZ : Z.Warmed39 vm0) (hEL : EW Z a0 EL) (H : CHv Z EL vm0 h) (RR : CHr Z EL s.vm h0 vm0 h) (hlk : meth.locks = false) (hx : p.tables.exec = Jvm.exec) {pc : Nat} {Ls : Array Slot} {z : Int32} {rest : List Value} (hret : meth.sig.returnType = some .int)
    (hd : decode c.code pc = .ok (.ireturn, 1)) (hc : cells ≤ C) (hs : slots ≤ S) (q : Q (some (.int z)) T.vm T.heap locs) : GoHL p e below s C S Z h0 EL Q T (mkF m pc Ls (.int z :: rest)) :=
  GoHL.retV X hS hk eT hZ hEL H RR hlk hx hret rfl (Or.inl ⟨rfl, Or.inl rfl, z, rfl⟩) hd hc hs q
theorem GoHL.ret0 (X : Stand p l e R (s.setVm vm0) m args below meth c T locs cells slots) (hS : s.Since vm0 k0) (hk : k0 ≤ h.size) (eT : T.heap = h) (hZ : Z.Warmed39 vm0) (hEL : EW Z a0 EL) (H : CHv Z EL vm0 h) (RR : CHr Z EL s.vm h0 vm0 h) (hlk : meth.locks = false) (hx : p.tables.exec = Jvm.exec) {pc : Nat} {Ls : Array Slot} (hret : meth.sig.returnType = none)
    (hd : decode c.code pc = .ok (.return_, 1)) (hc : cells ≤ C) (hs : slots ≤ S) (q : Q none T.vm T.heap locs) : GoHL p e below s C S Z h0 EL Q T (mkF m pc Ls []) :=
  GoHL.fin X hS hk eT hZ hEL H RR hlk (fun _ => rfl) hc hs q fun fs hr => X.returnOut hx hret hd hr
theorem GoHL.pure {w : Option Value} {Qc : Option Value → Heap → List Loc → Prop} {rest : List Value} {pc' : Nat} (H : ∃ (v : Option Value) (vm₁ : Vm) (B : Pt), (s.setVm vm0).WarmedH vm₁ ∧ Stand p l e R (s.setVm vm0) m args below meth c B.U B.locs B.cells B.slots ∧ (∃ L, Qc v B.U.heap L ∧ B.locs = locs ++ L ∧ B.cells = cells + 0 ∧ B.slots = slots + 0) ∧ Steps p.tables e below (T.setTop g) (B.U.setTop { g with pc := pc', stack := v.toList ++ rest })) (hq : ∀ v h' L, Qc v h' L → v = w ∧ Fr n0 L ∧ h' = h) (N : Fr n0 locs)
    (k : ∀ T' L', Stand p l e R (s.setVm vm0) m args below meth c T' L' cells slots → T'.heap = h → Fr n0 L' → GoHL p e below s C S Z h0 EL Q T' { g with pc := pc', stack := w.toList ++ rest }) : GoHL p e below s C S Z h0 EL Q T g := by
  obtain ⟨v, vm1, ⟨T', L', c', s'⟩, -, X, ⟨L, q, e1, e2, e3⟩, st⟩ := H
  obtain ⟨rfl, q2, q3⟩ := hq _ _ _ q
  dsimp only [Pt.U, Pt.locs, Pt.cells, Pt.slots] at X e1 e2 e3 st q3
  subst e1 e2 e3
  exact GoHL.tr st (k _ _ X q3 (Fr.app N q2))
theorem GoHL.pureS {w : Option Value} {Qc : Option Value → Heap → List Loc → Prop} {rest : List Value} {pc' : Nat} (H : ∃ (v : Option Value) (vm₁ : Vm) (B : Pt), (s.setVm vm0).WarmedH vm₁ ∧ Stand p l e R (s.setVm vm0) m args below meth c B.U B.locs B.cells B.slots ∧ (∃ L, Qc v B.U.heap L ∧ B.locs = locs ++ L ∧ B.cells = cells + 0 ∧ B.slots = slots + 0) ∧ ∀ target, Steps p.tables e below (B.U.setTop { g with pc := pc', stack := v.toList ++ rest }) target → Steps p.tables e below (T.setTop g) target) (hq : ∀ v h' L, Qc v h' L → v = w ∧ Fr n0 L ∧ h' = h) (N : Fr n0 locs)
    (k : ∀ T' L', Stand p l e R (s.setVm vm0) m args below meth c T' L' cells slots → T'.heap = h → Fr n0 L' → GoHL p e below s C S Z h0 EL Q T' { g with pc := pc', stack := w.toList ++ rest }) : GoHL p e below s C S Z h0 EL Q T g := by
  obtain ⟨v, vm1, ⟨T', L', c', s'⟩, -, X, ⟨L, q, e1, e2, e3⟩, st⟩ := H
  obtain ⟨rfl, q2, q3⟩ := hq _ _ _ q
  dsimp only [Pt.U, Pt.locs, Pt.cells, Pt.slots] at X e1 e2 e3 st q3
  subst e1 e2 e3
  exact GoHL.st st (k _ _ X q3 (Fr.app N q2))
end GoHLKit
theorem own_backSHX {p : Program} {l : Launch} {e : Env} {R : Room} {s : State} {vm0 : Vm} {args : Array Value} {below : List Frame} {Z : State} {a0 : Array Value} {h : Heap} {EL : List (String × Nat)} {Q : Option Value → Vm → Heap → List Loc → Prop} {Pv : Vm → Prop} {y : MethodName} {bytes : ByteArray} {maxL : Nat} {ret : Option FieldType} {rm : Room} {len W : Nat} {as' : Array Value} {sf : List Addr}
    (hM : MetFree l y (head1 [Cond.code y bytes maxL ret] rm) (fun a U => a = as' ∧ Z.Warmed39 U.vm ∧ U.heap = h ∧ CHv Z EL U.vm h ∧ (∀ x ∈ sf, Safe Z EL U.vm h x) ∧ Pv U.vm) (fun _ _ _ _ _ => True) (fun _ U o U' => ∃ v L, o = .returned v ∧ Q v U'.vm U'.heap L ∧ CHr Z EL U.vm U.heap U'.vm U'.heap ∧ ReturnedEndW U o U' L rm.cells rm.slots))
    (hZ : Z.Warmed39 vm0) (wc : (Cond.code y bytes maxL ret).before a0 Z = true) (wz : (Cond.initialized y.cls).before a0 Z = true) (hf : rm.frames + 1 ≤ R.frames) (hl : W + (maxL + 11) + rm.locals ≤ R.locals) (hEL : EW Z a0 EL) (H : CHv Z EL vm0 h) (hsf : ∀ x ∈ sf, Safe Z EL vm0 h x ∧ x < Array.size h) (hPv : ∀ vm1, (s.setVm vm0).Warmed39 vm1 → Pv vm1) :
    BackS l R p e below (s.setVm vm0) args y len W (fun A a => a = as' ∧ A.U.heap = h ∧ A.cells + rm.cells ≤ R.cells ∧ A.slots + rm.slots ≤ R.slots)
      (fun A _ v B => ∃ L, Q v B.U.vm B.U.heap L ∧ B.locs = A.locs ++ L ∧ B.cells = A.cells + rm.cells ∧ B.slots = A.slots + rm.slots ∧ CHr Z EL vm0 h B.U.vm B.U.heap) := by
  have up : ∀ {m meth c} {A : Pt}, Stand p l e R (s.setVm vm0) m args below meth c A.U A.locs A.cells A.slots → Z.Warmed39 A.U.vm := fun Y => wtrans (s := s.setVm vm0) hZ Y.warmed
  refine BackS.of_freeW (bytes := bytes) (maxL := maxL) (ret := ret) (E := fun _ first o t L k n => (k = rm.cells ∧ n = rm.slots) ∧ (∃ v, o = .returned v ∧ Q v t.vm t.heap L) ∧ CHr Z EL first.vm first.heap t.vm t.heap) hM hf hl ?_ ?_ ?_ ?_ ?_
  · intro m meth c A a Y hp
    refine ⟨?_, mv (up Y) wc, mv (up Y) wz, hp.2.2.1, hp.2.2.2⟩
    show (Cond.and _ .tt).before a A.U = true
    rw [Cond.before_and, mv (up Y) wc]; rfl
  · intro m meth c A a g mk Y hp
    have q := CHv.at Y hZ hEL H
    exact ⟨hp.1, up Y, hp.2.1, q.1, fun x hx => q.safe (hsf x hx).2 (hsf x hx).1, hPv _ Y.warmed.wide⟩
  · intro _ _ _ _ _ _ _ _ _; trivial
  · intro _ _ _ _ hq
    obtain ⟨v, L, h1, h2, h3, h4⟩ := hq
    exact ⟨L, _, _, h4, ⟨rfl, rfl⟩, ⟨v, h1, h2⟩, h3⟩
  · intro m meth c A a g mk v t L k n Y hp _ _ hq
    obtain ⟨⟨e1, e2⟩, ⟨v', e3, e4⟩, e5⟩ := hq
    cases e3; subst e1 e2
    refine ⟨L, e4, rfl, rfl, rfl, (CHv.at Y hZ hEL H).trans ?_⟩
    rw [← hp.2.1]; exact e5

abbrev EL : List (String × Nat) := consts_1
theorem own_selfsel2 {C : String} {y : MethodName} {args : Array Value} {s : State} (hs : (Jvm.Cond.selects C y y).before args s = true) (hp : (Jvm.Cond.privateMethod y).before args s = true) (hi : (Jvm.Cond.instanceMethod y).before args s = true) (hy : y.cls ≠ "java/lang/invoke/MethodHandle" ∧ y.cls ≠ "java/lang/invoke/VarHandle") : (Jvm.Cond.selects y.cls y y).before args s = true := by
  obtain ⟨c2, r2, m2, -, -, q3, -, kP, hkP, hkPi⟩ := Cond.selects_spec hs
  exact selects_self_of_private (findClass_of_methodNamed q3) hkP hkPi (Cond.privateMethod_at hp) hi hy
theorem own_same {C : String} {y z : MethodName} {args : Array Value} {s : State} (hd : (Jvm.Cond.declares y).before args s = true) (hs : (Jvm.Cond.selects C z z).before args s = true) (e : z.cls = y.cls) (hy : y.cls ≠ "java/lang/invoke/MethodHandle" ∧ y.cls ≠ "java/lang/invoke/VarHandle") : (Jvm.Cond.sameMethod y.cls y.cls y.name y.desc).before args s = true := by
  obtain ⟨m, meth, hm, -, -, -⟩ := Cond.declares_spec hd
  obtain ⟨c2, r2, m2, -, -, q3, -, kP, hkP, hkPi⟩ := Cond.selects_spec hs
  have hf := State.methodFound?_of_named hm hy
  have hc : s.vm.findClass y.cls = some m2.cls := e ▸ findClass_of_methodNamed q3
  have hm' : s.methodNamed? ⟨y.cls, y.name, y.desc⟩ = some m := hm
  simp [Cond.before, Cond.holds, Cond.value, hc, hf, hm', hkP, hkPi]
theorem own_nf {C : String} {y z : MethodName} {args : Array Value} {s : State} (hs : (Jvm.Cond.selects C z z).before args s = true) (e : z.cls = y.cls) : NotFace s y := fun r0 h0 => by
  obtain ⟨c2, r2, m2, -, -, q3, -, kP, hkP, hkPi⟩ := Cond.selects_spec hs
  have h1 : s.vm.findClass y.cls = some m2.cls := e ▸ findClass_of_methodNamed q3
  have h2 : s.vm.findClass y.cls = some r0.cls := findClass_of_methodNamed h0
  have q := Option.some.inj (h1.symm.trans h2)
  exact ⟨kP, q ▸ hkP, hkPi⟩
theorem own_shr0 (x : Int32) : x >>> ((0 : Int32) &&& 31) = x := by
  have h := c_ishr x 0 0 (by decide)
  apply Int32.toInt_inj.mp; rw [h]; simp
theorem own_shl0 (x : Int32) : x <<< ((0 : Int32) &&& 31) = x := by
  have h := c_ishl x 0 0 (by decide); have h1 := Int32.le_toInt x; have h2 := Int32.toInt_lt x; have h3 := Int32.le_toInt (x <<< ((0 : Int32) &&& 31)); have h4 := Int32.toInt_lt (x <<< ((0 : Int32) &&& 31))
  apply Int32.toInt_inj.mp
  have e : ((2 ^ 0 : Nat) : Int) = 1 := rfl
  rw [e] at h; omega
theorem own_oi {a : Nat} (h : a < 2147483648) : (Int32.ofNat a).toInt = a := Int32.toInt_ofNat_of_lt h
theorem own_oadd (a b : Nat) : Int32.ofNat a + Int32.ofNat b = Int32.ofNat (a + b) := (Int32.ofNat_add a b).symm
theorem own_osub {a b : Nat} (h : b ≤ a) (ha : a < 1073741824) : Int32.ofNat a - Int32.ofNat b = Int32.ofNat (a - b) := by
  apply Int32.toInt_inj.mp
  have h2 := c_isub (Int32.ofNat a) (Int32.ofNat b); rw [own_oi (by omega), own_oi (by omega)] at h2; rw [own_oi (by omega)]
  have h3 := Int32.le_toInt (Int32.ofNat a - Int32.ofNat b); have h4 := Int32.toInt_lt (Int32.ofNat a - Int32.ofNat b); omega
theorem own_le0 {a b : Nat} (h : a ≤ b) (hb : b < 1073741824) : ¬ ((0 : Int32) < (Int32.ofNat a - Int32.ofNat b)) := by
  rw [Int32.lt_iff_toInt_lt]
  have h2 := c_isub (Int32.ofNat a) (Int32.ofNat b); rw [own_oi (by omega), own_oi (by omega)] at h2
  have h3 := Int32.le_toInt (Int32.ofNat a - Int32.ofNat b); have h4 := Int32.toInt_lt (Int32.ofNat a - Int32.ofNat b); have e : (0 : Int32).toInt = 0 := rfl; omega
theorem own_gt0 {a b : Nat} (h : b < a) (ha : a < 1073741824) : (0 : Int32) < (Int32.ofNat a - Int32.ofNat b) := by
  rw [own_osub (Nat.le_of_lt h) ha, Int32.lt_iff_toInt_lt, own_oi (by omega)]; have e : (0 : Int32).toInt = 0 := rfl; omega
theorem own_olt {a b : Nat} (ha : a < 2147483648) (hb : b < 2147483648) : Int32.ofNat a < Int32.ofNat b ↔ a < b := by
  rw [Int32.lt_iff_toInt_lt, own_oi ha, own_oi hb]; omega
theorem own_oeq {a b : Nat} (ha : a < 2147483648) (hb : b < 2147483648) : Int32.ofNat a = Int32.ofNat b ↔ a = b := by
  constructor
  · intro h; have := congrArg Int32.toInt h; rw [own_oi ha, own_oi hb] at this; omega
  · intro h; rw [h]
theorem own_ocl {a : Nat} (h : a < 2147483648) : (Int32.ofNat a).toNatClampNeg = a := by
  rw [Int32.toNatClampNeg, own_oi h]; rfl
theorem own_onn {a : Nat} (h : a < 2147483648) : ¬ (Int32.ofNat a < 0) := by
  rw [Int32.lt_iff_toInt_lt, own_oi h]; have e : (0 : Int32).toInt = 0 := rfl; omega
theorem own_rng {vs : List Value} {dv : Value} (m : Nat) (i : Nat) (h : vs.length ≤ m) : ((List.range m).map fun i => vs.getD (0 + i) dv).getD i dv = vs.getD i dv := by
  simp only [List.getD_eq_getElem?_getD, List.getElem?_map, Nat.zero_add]
  by_cases q : i < m
  · simp [List.getElem?_range q]
  · rw [List.getElem?_eq_none (by simpa using q)]; simp [List.getElem?_eq_none (by omega : vs.length ≤ i)]
theorem own_rep (r i : Nat) (dv : Value) : (List.replicate r dv).getD i dv = dv := by
  simp only [List.getD_eq_getElem?_getD, List.getElem?_replicate]; split <;> rfl
theorem own_cp {bs vs : List Value} {dv : Value} {d m r : Nat} (hb : bs.length = d) (hv : vs.length ≤ m) : ∀ i, (bs ++ vs).getD i dv = ((bs ++ List.replicate r dv).take d ++ ((List.range m).map fun i => vs.getD (0 + i) dv) ++ (bs ++ List.replicate r dv).drop (d + m)).getD i dv := by
  intro i
  subst hb
  rw [List.take_left]
  have e1 : (bs ++ List.replicate r dv).drop (bs.length + m) = List.replicate (r - m) dv := by
    rw [← List.drop_drop, List.drop_left, List.drop_replicate]
  rw [e1, List.append_assoc]
  simp only [List.getD_eq_getElem?_getD]
  by_cases q : i < bs.length
  · rw [List.getElem?_append_left q, List.getElem?_append_left q]
  · rw [List.getElem?_append_right (Nat.le_of_not_lt q), List.getElem?_append_right (Nat.le_of_not_lt q)]
    generalize i - bs.length = j
    have a1 := own_rng (vs := vs) (dv := dv) m j hv
    have a2 := own_rep (r - m) (j - m) dv
    simp only [List.getD_eq_getElem?_getD] at a1 a2
    by_cases w : j < m
    · rw [List.getElem?_append_left (by simpa using w)]; exact a1.symm
    · rw [List.getElem?_append_right (by simpa using w)]; simp only [List.length_map, List.length_range]
      rw [a2, List.getElem?_eq_none (by omega)]; rfl
theorem own_opos {a : Nat} (h : 0 < a) (h2 : a < 2147483648) : (0 : Int32) < Int32.ofNat a := by
  rw [Int32.lt_iff_toInt_lt, own_oi h2]; have e : (0 : Int32).toInt = 0 := rfl; omega
theorem own_onbig {a : Nat} (h : a < 2000000000) : ¬ ((2147483639 : Int32) < Int32.ofNat a) := by
  rw [Int32.lt_iff_toInt_lt, own_oi (by omega)]; have e : (2147483639 : Int32).toInt = 2147483639 := rfl; omega
theorem own_onmax {a : Nat} (h : a < 2000000000) : ¬ (Int32.ofNat a = (2147483647 : Int32)) := by
  intro q; have := congrArg Int32.toInt q; rw [own_oi (by omega)] at this; have e : (2147483647 : Int32).toInt = 2147483647 := rfl; omega
theorem own_nch (x : Int32) : nar .char ((x &&& (255 : Int32)).toUInt32.toUInt16.toUInt32.toInt32) = (x &&& (255 : Int32)).toUInt32.toUInt16.toUInt32.toInt32 := by
  generalize (x &&& (255 : Int32)).toUInt32.toUInt16 = u
  show (u.toUInt32.toInt32).toUInt32.toUInt16.toUInt32.toInt32 = u.toUInt32.toInt32
  simp
def own_chr (x : Int32) : Int32 := (x &&& (255 : Int32)).toUInt32.toUInt16.toUInt32.toInt32
theorem own_gm (cs : List Int32) (i : Nat) : (cs.map Value.int).getD i (.int 0) = .int (cs.getD i 0) := by
  simp only [List.getD_eq_getElem?_getD, List.getElem?_map]
  cases cs[i]? <;> rfl
theorem own_mid {M A B C : List Int32} {i k : Nat} (e : M = A ++ (B ++ C)) (hi : i = A.length + k) (hk : k < B.length) : M.getD i 0 = B.getD k 0 := by
  subst e hi
  simp only [List.getD_eq_getElem?_getD]
  rw [List.getElem?_append_right (Nat.le_add_right _ _), Nat.add_sub_cancel_left, List.getElem?_append_left hk]
theorem own_km {vm : Vm} {m : MethodId} (h : methodKnown vm m = true) : vm.knowsMethod m := by
  unfold methodKnown at h
  cases hk : vm.classes[m.cls]? with
  | none => rw [hk] at h; cases h
  | some k => exact ⟨k, hk, fun cf hcf => by simpa [hk, hcf] using h⟩
theorem own_tk {s : State} (h : tablesKnown s = true) : s.vm.MethodsKnown := by
  intro m x hm
  unfold Vm.method? at hm
  cases hk : s.vm.classes[m.cls]? with
  | none => simp [hk] at hm
  | some k =>
    simp only [hk, Option.bind_some] at hm
    refine ⟨k, hk, fun cf hcf => ?_⟩
    have q := (Array.all_eq_true_iff_forall_mem.mp h) k (Array.mem_of_getElem? hk)
    simp only [hcf, beq_iff_eq] at q
    have lt := (Array.getElem?_eq_some_iff.mp hm).1
    rw [q] at lt
    simp [lt]
theorem own_fk {s : State} {m : MethodId} {args : Array Value} {below : List Frame} (h : framesKnown s = true) (hf : s.frames = .invoking m args :: below) : s.vm.FramesKnown below := by
  intro y hy m' hm'
  unfold framesKnown at h
  rw [hf] at h
  have q := (List.all_eq_true.mp h) y (List.mem_cons_of_mem _ hy)
  cases y with
  | java g => cases hm'; exact own_km q
  | native n => cases hm'; exact own_km q
  | _ => cases hm'
theorem own_fe {s s' : State} {o : Outcome} {L : List Loc} {c k c' k' : Nat} (h : FrameEnd s o s' L c k) (hc : c ≤ c') (hk : k ≤ k') : FrameEnd s o s' L c' k' := ⟨h.1, h.2.1, h.2.2.mono hc hk⟩
theorem own_wide {l : Launch} {y : MethodName} {wl : List Jvm.Cond} {rm rm' : Room} {as' : Array Value} {Z : State} {h : Heap} {Q1 Q2 : Option Value → Heap → List Loc → Prop}
    (hM : MetFree l y (head1 wl rm) (fun a U => a = as' ∧ Z.Warmed39 U.vm ∧ U.heap = h) (fun _ _ _ _ _ => True) (fun _ U o U' => ∃ v L, o = .returned v ∧ Q1 v U'.heap L ∧ FrameEnd U o U' L rm.cells rm.slots))
    (hf : rm.frames ≤ rm'.frames) (hl : rm.locals ≤ rm'.locals) (hc : rm.cells ≤ rm'.cells) (hs : rm.slots ≤ rm'.slots) (hq : ∀ v h' L, Q1 v h' L → Q2 v h' L) :
    MetFree l y (head1 wl rm') (fun a U => a = as' ∧ Z.Warmed39 U.vm ∧ U.heap = h) (fun _ _ _ _ _ => True) (fun _ U o U' => ∃ v L, o = .returned v ∧ Q2 v U'.heap L ∧ FrameEnd U o U' L rm'.cells rm'.slots) := by
  intro p e ha hcs hk s m args below hfr happ hP' hK
  obtain ⟨a1, a2, a3, a4, a5, a6, a7, a8⟩ := (Spec.appliesLoose_iff hfr).mp happ
  obtain ⟨n, o, q1, q2, q3, v, L, q4, q5, q6⟩ := hM p e ha hcs hk s m args below hfr ((Spec.appliesLoose_iff hfr).mpr ⟨a1, a2, a3, a4, a5, a6, hasRoom_mono hf hl hc hs a7, a8⟩) hP' hK
  exact ⟨n, o, q1, q2, q3, v, L, q4, hq _ _ _ q5, own_fe q6 hc hs⟩
theorem own_kw {h h' : Heap} {a t : Addr} (K : Keep h h' [a]) : Keep h h' [a, t] := ⟨K.1, fun x c q r => K.2.1 x c q fun z => r (List.mem_cons.mpr (Or.inl (List.mem_singleton.mp z))), K.2.2⟩
def own_lo (c : Int32) : Int32 := c.toInt8.toInt32
def own_hi (c : Int32) : Int32 := (c >>> ((8 : Int32) &&& 31)).toInt8.toInt32
theorem own_un (c : Int32) : (((own_lo c &&& (255 : Int32)) <<< ((0 : Int32) &&& 31)) ||| ((own_hi c &&& (255 : Int32)) <<< ((8 : Int32) &&& 31))).toUInt32.toUInt16.toUInt32.toInt32 = c.toUInt32.toUInt16.toUInt32.toInt32 := by
  have : (((own_lo c &&& (255 : Int32)) <<< ((0 : Int32) &&& 31)) ||| ((own_hi c &&& (255 : Int32)) <<< ((8 : Int32) &&& 31))).toUInt32.toUInt16 = c.toUInt32.toUInt16 := by
    have e0 : ((0 : Int32) &&& 31) = 0 := by decide
    have e8 : ((8 : Int32) &&& 31) = 8 := by decide
    rw [own_hi, own_lo, e0, e8]
    apply UInt16.toBitVec_inj.mp
    simp only [UInt32.toBitVec_toUInt16, Int32.toBitVec_toUInt32, Int32.toBitVec_or, Int32.toBitVec_and, Int32.toBitVec_shiftLeft, Int32.toBitVec_shiftRight, Int32.toBitVec_toInt8, Int8.toBitVec_toInt32]
    apply BitVec.eq_of_getLsbD_eq
    intro i hi
    rw [show (Int32.toBitVec 0).smod 32 = 0#32 from by decide, show (Int32.toBitVec 8).smod 32 = 8#32 from by decide, show Int32.toBitVec 255 = 255#32 from rfl]
    generalize c.toBitVec = x
    have h : i = 0 ∨ i = 1 ∨ i = 2 ∨ i = 3 ∨ i = 4 ∨ i = 5 ∨ i = 6 ∨ i = 7 ∨ i = 8 ∨ i = 9 ∨ i = 10 ∨ i = 11 ∨ i = 12 ∨ i = 13 ∨ i = 14 ∨ i = 15 := by omega
    rcases h with rfl | rfl | rfl | rfl | rfl | rfl | rfl | rfl | rfl | rfl | rfl | rfl | rfl | rfl | rfl | rfl <;> simp [BitVec.getLsbD_signExtend, BitVec.getElem_signExtend, BitVec.getLsbD_sshiftRight, BitVec.getElem_sshiftRight]
  rw [this]
def own_ub : List Int32 → List Int32
  | [] => []
  | c :: r => own_lo c :: own_hi c :: own_ub r
theorem own_ubl : ∀ cs : List Int32, (own_ub cs).length = 2 * cs.length
  | [] => rfl
  | _ :: r => by simp only [own_ub, List.length_cons, own_ubl r]; omega
theorem own_uba : ∀ (a b : List Int32), own_ub (a ++ b) = own_ub a ++ own_ub b
  | [], _ => rfl
  | c :: r, b => by simp only [List.cons_append, own_ub, own_uba r b]
theorem own_ublo : ∀ (cs : List Int32) (i : Nat), i < cs.length → (own_ub cs).getD (2 * i) 0 = own_lo (cs.getD i 0)
  | [], _, h => absurd h (Nat.not_lt_zero _)
  | c :: r, 0, _ => rfl
  | c :: r, i + 1, h => by
    have := own_ublo r i (Nat.lt_of_succ_lt_succ h)
    rw [show 2 * (i + 1) = 2 * i + 1 + 1 by omega]; simpa [own_ub] using this
theorem own_ubhi : ∀ (cs : List Int32) (i : Nat), i < cs.length → (own_ub cs).getD (2 * i + 1) 0 = own_hi (cs.getD i 0)
  | [], _, h => absurd h (Nat.not_lt_zero _)
  | c :: r, 0, _ => rfl
  | c :: r, i + 1, h => by
    have := own_ubhi r i (Nat.lt_of_succ_lt_succ h)
    rw [show 2 * (i + 1) + 1 = 2 * i + 1 + 1 + 1 by omega]; simpa [own_ub] using this
theorem own_take1 {cs : List Int32} {i : Nat} (h : i < cs.length) : cs.take (i + 1) = cs.take i ++ [cs.getD i 0] := by
  rw [List.take_add_one, List.getD_eq_getElem?_getD, List.getElem?_eq_getElem h]; rfl
def own_l1 (cs : List Int32) : Bool := cs.all fun c => decide (¬ (255 : Int32) < c)
theorem own_l1t {cs : List Int32} (h : ∀ j, j < cs.length → ¬ (255 : Int32) < cs.getD j 0) : own_l1 cs = true := by
  refine List.all_eq_true.mpr fun c hc => decide_eq_true ?_
  obtain ⟨i, hi, rfl⟩ := List.getElem_of_mem hc
  have := h i hi; rwa [List.getD_eq_getElem?_getD, List.getElem?_eq_getElem hi] at this
theorem own_l1f {cs : List Int32} {i : Nat} (hi : i < cs.length) (h : (255 : Int32) < cs.getD i 0) : own_l1 cs = false := by
  refine Bool.eq_false_iff.mpr fun q => ?_
  have := of_decide_eq_true (List.all_eq_true.mp q _ (List.getElem_mem hi))
  rw [List.getD_eq_getElem?_getD, List.getElem?_eq_getElem hi] at h; exact this h
def own_cd (cs : List Int32) : Int32 := if own_l1 cs = true then 0 else 1
def own_by (cs : List Int32) : List Int32 := if own_l1 cs = true then cs.map own_lo else own_ub cs
theorem own_byl (cs : List Int32) : (own_by cs).length = if own_l1 cs = true then cs.length else 2 * cs.length := by
  unfold own_by; split <;> simp [own_ubl]
theorem own_shl1 {a : Nat} (h : a < 1073741824) : Int32.ofNat a <<< ((1 : Int32) &&& 31) = Int32.ofNat (2 * a) := by
  apply Int32.toBitVec_inj.mp
  rw [show ((1 : Int32) &&& 31) = 1 by decide, Int32.toBitVec_shiftLeft, show (Int32.toBitVec 1).smod 32 = 1#32 from by decide]
  apply BitVec.eq_of_toNat_eq
  show ((BitVec.ofNat 32 a) <<< (1#32)).toNat = (BitVec.ofNat 32 (2 * a)).toNat
  simp [Nat.shiftLeft_eq]; omega
theorem own_shr1 {a : Nat} (h : a < 1073741824) : Int32.ofNat (2 * a) >>> ((1 : Int32) &&& 31) = Int32.ofNat a := by
  rw [← own_shl1 h]
  apply Int32.toInt_inj.mp
  rw [own_shl1 h, show ((1 : Int32) &&& 31) = 1 by decide]
  show ((Int32.ofNat (2 * a)).toBitVec.sshiftRight' ((Int32.toBitVec 1).smod 32)).toInt = _
  rw [show (Int32.toBitVec 1).smod 32 = 1#32 from by decide, BitVec.sshiftRight_eq', BitVec.toInt_sshiftRight]
  show (Int32.ofNat (2 * a)).toInt >>> 1 = _
  rw [own_oi (by omega), own_oi (by omega), Int.shiftRight_eq_div_pow]; omega
theorem own_cfa0 (n : Int32) : (((n - n).toUInt32 >>> ((31 : Int32) &&& 31).toUInt32).toInt32).toInt8.toInt32 = 0 := by
  rw [Int32.sub_self]; decide
theorem own_cfa1 {n m : Nat} (h : n < m) (hm : m < 1000000) : (((Int32.ofNat n - Int32.ofNat m).toUInt32 >>> ((31 : Int32) &&& 31).toUInt32).toInt32).toInt8.toInt32 = 1 := by
  have e : ((Int32.ofNat n - Int32.ofNat m).toUInt32 >>> ((31 : Int32) &&& 31).toUInt32) = 1 := by
    apply UInt32.toNat_inj.mp
    rw [show ((31 : Int32) &&& 31).toUInt32 = 31 by decide, UInt32.toNat_shiftRight]
    have hb : (Int32.ofNat n - Int32.ofNat m).toUInt32.toNat = 4294967296 - (m - n) := by
      show (BitVec.ofNat 32 n - BitVec.ofNat 32 m).toNat = _
      rw [BitVec.toNat_sub, BitVec.toNat_ofNat, BitVec.toNat_ofNat, Nat.mod_eq_of_lt (by omega), Nat.mod_eq_of_lt (by omega)]; omega
    rw [hb, show (UInt32.toNat 31 % 32) = 31 from by decide, Nat.shiftRight_eq_div_pow, show (2 : Nat) ^ 31 = 2147483648 from rfl, show UInt32.toNat 1 = 1 from rfl]; omega
  rw [e]; decide
theorem own_push {Z : State} {h h' : Heap} {a : Addr} {c : Cell} {k : ClassId} {ty : FieldType} {z j : Int32} {vs : List Value} {dv v : Value} (A : Arr Z h a c ty) (q1 : c.cls = k) (S : c.slots.size = z.toNatClampNeg) (q3 : ¬ z < 0) (H : Has c vs dv) (G : ∀ i, i < c.slots.size → fits ty (vs.getD i dv) = true) (hv : fits ty v = true) (W : Wr h h' a j.toNatClampNeg v) (hj : j.toNatClampNeg = vs.length) : Arv Z h' a k ty z (vs ++ [v]) dv := by
  have pd := pad_rep vs dv 1
  have e : (vs ++ List.replicate 1 dv).set vs.length v = vs ++ [v] := by rw [List.set_append_right (h := Nat.le_refl _), Nat.sub_self]; rfl
  rw [← e]
  exact Arv.set A q1 S q3 (fun i hi => by rw [pd]; exact H i hi) (fun i hi => by rw [pd]; exact G i hi) hv W vs.length hj (by simp)
theorem own_nlo (c : Int32) : nar .byte (c.toInt8.toInt32) = own_lo c := by
  show (c.toInt8.toInt32).toInt8.toInt32 = c.toInt8.toInt32
  simp
theorem own_nhi (c : Int32) : nar .byte ((c >>> ((8 : Int32) &&& 31)).toInt8.toInt32) = own_hi c := own_nlo _
theorem own_tkv {cs : List Int32} {i : Nat} (h : i < cs.length) : ((cs.take i).map own_lo).map Value.int ++ [Value.int (own_lo (cs.getD i 0))] = ((cs.take (i + 1)).map own_lo).map Value.int := by
  rw [own_take1 h]; simp
theorem own_tku {cs : List Int32} {i : Nat} (h : i < cs.length) : ((own_ub (cs.take i)).map Value.int ++ [Value.int (own_lo (cs.getD i 0))]) ++ [Value.int (own_hi (cs.getD i 0))] = (own_ub (cs.take (i + 1))).map Value.int := by
  rw [own_take1 h, own_uba]; simp [own_ub]
theorem own_tkl {cs : List Int32} {i : Nat} (h : i ≤ cs.length) : ((own_ub (cs.take i)).map Value.int).length = 2 * i := by
  rw [List.length_map, own_ubl, List.length_take, Nat.min_eq_left h]
theorem own_1inc (i : Nat) : Int32.ofNat i + (1 : Int32) = Int32.ofNat (i + 1) := (Int32.ofNat_add i 1).symm
theorem own_byT {cs : List Int32} (h : own_l1 cs = true) : own_by cs = cs.map own_lo := if_pos h
theorem own_byF {cs : List Int32} (h : own_l1 cs = false) : own_by cs = own_ub cs := if_neg (by rw [h]; decide)
theorem own_cdT {cs : List Int32} (h : own_l1 cs = true) : own_cd cs = 0 := if_pos h
theorem own_cdF {cs : List Int32} (h : own_l1 cs = false) : own_cd cs = 1 := if_neg (by rw [h]; decide)
theorem own_cfa {cs : List Int32} (h1 : 1 ≤ cs.length) (h2 : cs.length < 100000) : (((Int32.ofNat cs.length - Int32.ofNat (own_by cs).length).toUInt32 >>> ((31 : Int32) &&& 31).toUInt32).toInt32).toInt8.toInt32 = own_cd cs := by
  rw [own_byl, own_cd]; by_cases h : own_l1 cs = true
  · rw [if_pos h, if_pos h]; exact own_cfa0 _
  · rw [if_neg h, if_neg h]; exact own_cfa1 (by omega) (by omega)
theorem own_ncd (cs : List Int32) : nar .byte (own_cd cs) = own_cd cs := by unfold own_cd; split <;> decide
theorem own_lencd {cs : List Int32} (h2 : cs.length < 100000) : Int32.ofNat (own_by cs).length >>> (own_cd cs &&& 31) = Int32.ofNat cs.length := by
  rw [own_byl, own_cd]; by_cases h : own_l1 cs = true
  · rw [if_pos h, if_pos h]; exact own_shr0 _
  · rw [if_neg h, if_neg h]; exact own_shr1 (by omega)
theorem own_l1of {cs : List Int32} (h : ¬ own_cd cs = 0) : own_l1 cs = false := Bool.eq_false_iff.mpr fun q => h (own_cdT q)
theorem own_bigl {a : Nat} (h : a < 100000) : Int32.ofNat a < (1073741823 : Int32) := (own_olt (b := 1073741823) (by omega) (by omega)).mpr (by omega)
theorem own_nch16 {x c : Int32} (h : x.toUInt32.toUInt16.toUInt32.toInt32 = c.toUInt32.toUInt16.toUInt32.toInt32) : nar .char (x.toUInt32.toUInt16.toUInt32.toInt32) = nar .char c := by
  rw [h]; show ((c.toUInt32.toUInt16.toUInt32.toInt32).toUInt32.toUInt16.toUInt32.toInt32) = c.toUInt32.toUInt16.toUInt32.toInt32
  generalize c.toUInt32.toUInt16 = u; simp
theorem own_fcd (cs : List Int32) : fits .byte (.int (own_cd cs)) = true := by unfold own_cd; split <;> rfl
def own_cl (cs : List Int32) (k : Nat) : Nat := if own_l1 cs = true then k else 2 * k
theorem own_clT {cs : List Int32} (h : own_l1 cs = true) (k : Nat) : own_cl cs k = k := if_pos h
theorem own_clF {cs : List Int32} (h : own_l1 cs = false) (k : Nat) : own_cl cs k = 2 * k := if_neg (by rw [h]; decide)
theorem own_shlcd (cs : List Int32) {k : Nat} (h : k < 1000000) : Int32.ofNat k <<< (own_cd cs &&& 31) = Int32.ofNat (own_cl cs k) := by
  unfold own_cd own_cl; split
  · exact own_shl0 _
  · exact own_shl1 (by omega)
theorem own_shl2cd (cs : List Int32) : (2 : Int32) <<< (own_cd cs &&& 31) = Int32.ofNat (own_cl cs 2) := own_shlcd cs (k := 2) (by decide)
theorem own_shrcd (cs : List Int32) {k : Nat} (h : k < 1000000) : Int32.ofNat (own_cl cs k) >>> (own_cd cs &&& 31) = Int32.ofNat k := by
  unfold own_cd own_cl; split
  · exact own_shr0 _
  · exact own_shr1 (by omega)
theorem own_clsub (cs : List Int32) (a b : Nat) : own_cl cs a - own_cl cs b = own_cl cs (a - b) := by unfold own_cl; split <;> omega
theorem own_cladd (cs : List Int32) (a b : Nat) : own_cl cs a + own_cl cs b = own_cl cs (a + b) := by unfold own_cl; split <;> omega
theorem own_clmax (cs : List Int32) (a b : Nat) : max (own_cl cs a) (own_cl cs b) = own_cl cs (max a b) := by unfold own_cl; split <;> omega
theorem own_clb (cs : List Int32) (a : Nat) : a ≤ own_cl cs a ∧ own_cl cs a ≤ 2 * a := by unfold own_cl; split <;> omega
theorem own_clle (cs : List Int32) {a b : Nat} (h : a ≤ b) : own_cl cs a ≤ own_cl cs b := by unfold own_cl; split <;> omega
theorem own_clinj (cs : List Int32) {a b : Nat} (h : own_cl cs a = own_cl cs b) : a = b := by unfold own_cl at h; split at h <;> omega
theorem own_bycl (cs : List Int32) : (own_by cs).length = own_cl cs cs.length := own_byl cs
theorem own_l1a (a b : List Int32) : own_l1 (a ++ b) = (own_l1 a && own_l1 b) := List.all_append
theorem own_Fl {a b : List Int32} (h : own_l1 a = false) : own_l1 (a ++ b) = false := by rw [own_l1a, h]; rfl
theorem own_Fr {a b : List Int32} (h : own_l1 b = false) : own_l1 (a ++ b) = false := by rw [own_l1a, h, Bool.and_false]
theorem own_TT {a b : List Int32} (h : own_l1 a = true) (g : own_l1 b = true) : own_l1 (a ++ b) = true := by rw [own_l1a, h, g]; rfl
theorem own_n16 {y : Int32} (h : nar .char y = y) : ∃ k, k < 65536 ∧ y = Int32.ofNat k := by
  refine ⟨y.toUInt32.toUInt16.toNat, UInt16.toNat_lt _, ?_⟩
  have e : y = y.toUInt32.toUInt16.toUInt32.toInt32 := h.symm
  refine e.trans ?_
  generalize y.toUInt32.toUInt16 = u
  apply Int32.toBitVec_inj.mp
  apply BitVec.eq_of_toNat_eq
  show u.toUInt32.toNat = (BitVec.ofNat 32 u.toNat).toNat
  rw [BitVec.toNat_ofNat, Nat.mod_eq_of_lt (Nat.lt_of_lt_of_le (UInt16.toNat_lt u) (by decide))]; simp
theorem own_loF : ∀ k : Fin 256, own_lo (Int32.ofNat k.val) &&& 255 = Int32.ofNat k.val := by decide +kernel
theorem own_lo255 {y : Int32} (h1 : ¬ (255 : Int32) < y) (h2 : nar .char y = y) : own_lo y &&& (255 : Int32) = y := by
  obtain ⟨k, hk, rfl⟩ := own_n16 h2
  rw [Int32.lt_iff_toInt_lt, own_oi (by omega)] at h1
  have e : (255 : Int32).toInt = 255 := rfl
  exact own_loF ⟨k, by omega⟩
theorem own_chlo {y : Int32} (h1 : ¬ (255 : Int32) < y) (h2 : nar .char y = y) : own_chr (own_lo y) = y := by
  unfold own_chr; rw [own_lo255 h1 h2]; exact h2
theorem own_l1g {cs : List Int32} (h : own_l1 cs = true) {j : Nat} (hj : j < cs.length) : ¬ (255 : Int32) < cs.getD j 0 := by
  have := of_decide_eq_true (List.all_eq_true.mp h _ (List.getElem_mem hj))
  rwa [List.getD_eq_getElem?_getD, List.getElem?_eq_getElem hj]
theorem own_ior3 {a b c : Nat} (ha : a < 100000) (hb : b < 100000) (hc : c < 100000) : ¬ ((Int32.ofNat a ||| Int32.ofNat b) ||| Int32.ofNat c) < 0 := by
  rw [Int32.lt_iff_toInt_lt]
  have e : (0 : Int32).toInt = 0 := rfl
  have q : ∀ k, k < 100000 → (Int32.ofNat k).toBitVec.toNat < 2 ^ 17 := fun k hk => by
    show (BitVec.ofNat 32 k).toNat < _
    rw [BitVec.toNat_ofNat, Nat.mod_eq_of_lt (by omega)]; omega
  have h : ((Int32.ofNat a ||| Int32.ofNat b) ||| Int32.ofNat c).toBitVec.toNat < 2 ^ 17 := by
    rw [Int32.toBitVec_or, Int32.toBitVec_or, BitVec.toNat_or, BitVec.toNat_or]
    exact Nat.or_lt_two_pow (Nat.or_lt_two_pow (q a ha) (q b hb)) (q c hc)
  have h2 : 0 ≤ ((Int32.ofNat a ||| Int32.ofNat b) ||| Int32.ofNat c).toInt := by
    show 0 ≤ ((Int32.ofNat a ||| Int32.ofNat b) ||| Int32.ofNat c).toBitVec.toInt
    rw [BitVec.toInt_eq_toNat_cond]; split <;> omega
  omega
theorem own_cdTF (cs : List Int32) : own_l1 cs = true ∧ own_cd cs = 0 ∨ own_l1 cs = false ∧ own_cd cs = 1 := by
  cases h : own_l1 cs with
  | true => exact Or.inl ⟨rfl, if_pos h⟩
  | false => exact Or.inr ⟨rfl, if_neg (by rw [h]; decide)⟩
theorem own_ubt {cs : List Int32} {ys : List Int32} {i : Nat} (h : i < ys.length) : own_ub (cs ++ ys.take i) ++ [own_lo (ys.getD i 0)] ++ [own_hi (ys.getD i 0)] = own_ub (cs ++ ys.take (i + 1)) := by
  rw [List.take_add_one, List.getD_eq_getElem?_getD, List.getElem?_eq_getElem h, ← List.append_assoc, own_uba (cs ++ List.take i ys)]; simp [own_ub]
theorem own_nc57 (cs : List Int32) {cap kk : Nat} (h1 : cap < 1000) (h2 : kk < 1000) : Int32.ofNat (own_cl cs cap + max (own_cl cs kk - own_cl cs cap) (own_cl cs cap + own_cl cs 2)) >>> (own_cd cs &&& 31) = Int32.ofNat (cap + max (kk - cap) (cap + 2)) := by
  rw [own_clsub, own_cladd, own_clmax, own_cladd, own_shrcd cs (by omega)]
theorem own_lo0 : own_lo 0 = 0 := by decide
theorem own_gml (ys : List Int32) (i : Nat) : ((ys.map own_lo).map Value.int).getD i (.int 0) = .int (own_lo (ys.getD i 0)) := by
  rw [own_gm]; congr 1
  simp only [List.getD_eq_getElem?_getD, List.getElem?_map]
  cases ys[i]? <;> simp [own_lo0]
theorem own_utl {cs ys : List Int32} {i : Nat} (h : i ≤ ys.length) : ((own_ub (cs ++ ys.take i)).map Value.int).length = 2 * (cs.length + i) := by
  rw [List.length_map, own_ubl, List.length_append, List.length_take, Nat.min_eq_left h]
theorem own_tku2 {cs ys : List Int32} {i : Nat} (h : i < ys.length) : ((own_ub (cs ++ ys.take i)).map Value.int ++ [Value.int (own_lo (ys.getD i 0))]) ++ [Value.int (own_hi (ys.getD i 0))] = (own_ub (cs ++ ys.take (i + 1))).map Value.int := by
  rw [← own_ubt h]; simp
theorem own_lapn {cs ys : List Int32} : ((own_by cs).map Value.int).length = own_cl cs cs.length := by rw [List.length_map, own_bycl]
theorem own_bt {b e t : Addr} {n n2 : Nat} (h1 : b = e ∨ n2 ≤ b) (h2 : e = t ∨ n ≤ e) (h : n ≤ n2) : b = t ∨ n ≤ b := h1.elim (fun q => q ▸ h2) (fun q => Or.inr (Nat.le_trans h q))
theorem own_mlo (ys : List Int32) (i : Nat) : (ys.map own_lo).getD i 0 = own_lo (ys.getD i 0) := by
  simp only [List.getD_eq_getElem?_getD, List.getElem?_map]
  cases ys[i]? <;> simp [own_lo0]
theorem own_l1ot {cs : List Int32} (h : own_cd cs = 0) : own_l1 cs = true := by
  rcases own_cdTF cs with ⟨q, -⟩ | ⟨-, q⟩
  · exact q
  · rw [q] at h; exact absurd h (by decide)
theorem own_kt {h h' : Heap} {a t : Addr} (K : Keep h h' [t]) : Keep h h' [a, t] := ⟨K.1, fun x c q r => K.2.1 x c q fun z => r (List.mem_cons.mpr (Or.inr z)), K.2.2⟩
theorem own_wi {a t b : Addr} {n : Nat} (h : b = t ∨ n ≤ b) : b ∈ [a, t] ∨ n ≤ b := h.imp (fun e => by rw [e]; exact List.mem_cons.mpr (Or.inr (List.mem_singleton.mpr rfl))) id
theorem own_nc16 (y : Int32) : nar .char (y.toUInt32.toUInt16.toUInt32.toInt32) = y.toUInt32.toUInt16.toUInt32.toInt32 := by
  generalize y.toUInt32.toUInt16 = u
  show (u.toUInt32.toInt32).toUInt32.toUInt16.toUInt32.toInt32 = u.toUInt32.toInt32; simp
theorem own_hrn : ∀ z ∈ ([] : List Int32), nar .char z = z := fun _ q => nomatch q
theorem own_hrc {c : Int32} {r : List Int32} (h : nar .char c = c) (g : ∀ z ∈ r, nar .char z = z) : ∀ z ∈ c :: r, nar .char z = z := fun z hz => (List.mem_cons.mp hz).elim (fun e => e ▸ h) (g z)
theorem own_hrm {cs : List Int32} (h : ∀ z ∈ cs, nar .char z = z) : ∀ j, j < cs.length → nar .char (cs.getD j 0) = cs.getD j 0 := fun j hj => by
  rw [List.getD_eq_getElem?_getD, List.getElem?_eq_getElem hj]; exact h _ (List.getElem_mem hj)
theorem own_hrj {a b : List Int32} (h : ∀ j, j < a.length → nar .char (a.getD j 0) = a.getD j 0) (g : ∀ j, j < b.length → nar .char (b.getD j 0) = b.getD j 0) : ∀ j, j < (a ++ b).length → nar .char ((a ++ b).getD j 0) = (a ++ b).getD j 0 := fun j hj => by
  rw [List.length_append] at hj
  simp only [List.getD_eq_getElem?_getD] at h g ⊢
  by_cases q : j < a.length
  · rw [List.getElem?_append_left q]; exact h j q
  · rw [List.getElem?_append_right (Nat.le_of_not_lt q)]; exact g _ (by omega)
def own_mk (p q : Int32) : List Int32 := if q = 0 then [] else if q = 1 then [p.toUInt32.toUInt16.toUInt32.toInt32] else [p.toUInt32.toUInt16.toUInt32.toInt32, ((p.toUInt32 >>> ((16 : Int32) &&& 31).toUInt32).toInt32).toUInt32.toUInt16.toUInt32.toInt32]
theorem own_mk0 {p q : Int32} (h : q = 0) : own_mk p q = [] := if_pos h
theorem own_mk1 {p q : Int32} (h : ¬ q = 0) (g : q = 1) : own_mk p q = [p.toUInt32.toUInt16.toUInt32.toInt32] := by rw [own_mk, if_neg h, if_pos g]
theorem own_mk2 {p q : Int32} (h : ¬ q = 0) (g : ¬ q = 1) : own_mk p q = [p.toUInt32.toUInt16.toUInt32.toInt32, ((p.toUInt32 >>> ((16 : Int32) &&& 31).toUInt32).toInt32).toUInt32.toUInt16.toUInt32.toInt32] := by rw [own_mk, if_neg h, if_neg g]
theorem own_mkl (p q : Int32) : (own_mk p q).length ≤ 2 := by
  unfold own_mk; repeat' split
  all_goals simp
theorem own_mkr (p q : Int32) : ∀ j, j < (own_mk p q).length → nar .char ((own_mk p q).getD j 0) = (own_mk p q).getD j 0 := by
  apply own_hrm
  unfold own_mk; split
  · exact own_hrn
  · split
    · exact own_hrc (own_nc16 _) own_hrn
    · exact own_hrc (own_nc16 _) (own_hrc (own_nc16 _) own_hrn)
theorem own_mkn {p q : Int32} (h : q = 0 ∨ q = 1 ∨ q = 2) : Int32.ofNat (own_mk p q).length = q := by
  rcases h with rfl | rfl | rfl <;> rfl
def own_L1 : List Int32 := [114, 101, 115, 111, 117, 114, 99, 101, 32, 34]
def own_L2 : List Int32 := [34, 58, 32]
theorem own_l1_ : own_L1.length = 10 := rfl
theorem own_l2_ : own_L2.length = 3 := rfl
theorem own_cdL1 : own_cd own_L1 = 0 := by decide +kernel
theorem own_cdL2 : own_cd own_L2 = 0 := by decide +kernel
theorem own_byL1 : own_by own_L1 = own_L1 := by decide +kernel
theorem own_byL2 : own_by own_L2 = own_L2 := by decide +kernel
theorem own_hrL1 : ∀ j, j < own_L1.length → nar .char (own_L1.getD j 0) = own_L1.getD j 0 := by decide +kernel
theorem own_hrL2 : ∀ j, j < own_L2.length → nar .char (own_L2.getD j 0) = own_L2.getD j 0 := by decide +kernel
def own_M (r p : List Int32) : List Int32 := own_L1 ++ r ++ own_L2 ++ p
theorem own_Mnil {r p : List Int32} : (((([] : List Int32) ++ own_L1) ++ r) ++ own_L2) ++ p = own_M r p := rfl
theorem own_Ml (r p : List Int32) : (own_M r p).length = 13 + r.length + p.length := by simp only [own_M, List.length_append, own_l1_, own_l2_]; omega
theorem own_x1 {r p : List Int32} {i : Nat} (h : i < 10) : nar .char (own_L1.getD i 0) = (own_M r p).getD i 0 := by
  rw [own_hrL1 i h]
  exact (own_mid (A := []) (B := own_L1) (C := r ++ (own_L2 ++ p)) (by simp only [own_M, List.append_assoc, List.nil_append]) (by simp) h).symm
theorem own_x2 {r p : List Int32} {i : Nat} (h : 10 ≤ i) (g : i - 10 < r.length) (e : nar .char (r.getD (i - 10) 0) = r.getD (i - 10) 0) : nar .char (r.getD (i - 10) 0) = (own_M r p).getD i 0 := by
  rw [e]
  exact (own_mid (A := own_L1) (B := r) (C := own_L2 ++ p) (by simp only [own_M, List.append_assoc]) (by rw [own_l1_]; omega) g).symm
theorem own_x3 {r p : List Int32} {i : Nat} (h : 10 ≤ i) (g : r.length ≤ i - 10) (k : i - 10 - r.length < 3) : nar .char (own_L2.getD (i - 10 - r.length) 0) = (own_M r p).getD i 0 := by
  rw [own_hrL2 _ k]
  exact (own_mid (A := own_L1 ++ r) (B := own_L2) (C := p) (by simp only [own_M, List.append_assoc]) (by rw [List.length_append, own_l1_]; omega) k).symm
theorem own_x4 {r p : List Int32} {i : Nat} (h : 10 ≤ i) (g : r.length ≤ i - 10) (k : 3 ≤ i - 10 - r.length) (e : nar .char (p.getD (i - 10 - r.length - 3) 0) = p.getD (i - 10 - r.length - 3) 0) : nar .char (p.getD (i - 10 - r.length - 3) 0) = (own_M r p).getD i 0 := by
  rw [e]
  by_cases q : i - 10 - r.length - 3 < p.length
  · exact (own_mid (A := own_L1 ++ r ++ own_L2) (B := p) (C := []) (by simp only [own_M, List.append_assoc, List.append_nil]) (by rw [List.length_append, List.length_append, own_l1_, own_l2_]; omega) q).symm
  · rw [List.getD_eq_getElem?_getD, List.getElem?_eq_none (by omega), List.getD_eq_getElem?_getD, List.getElem?_eq_none (by rw [own_Ml]; omega)]
theorem own_hrM {r p : List Int32} (h : ∀ j, j < r.length → nar .char (r.getD j 0) = r.getD j 0) (g : ∀ j, j < p.length → nar .char (p.getD j 0) = p.getD j 0) : ∀ j, j < (own_M r p).length → nar .char ((own_M r p).getD j 0) = (own_M r p).getD j 0 := own_hrj (own_hrj (own_hrj own_hrL1 h) own_hrL2) g
theorem own_72 {m a b : Nat} {x y : Int32} (e : m = 13 + a + b) (h1 : Int32.ofNat a = x) (h2 : Int32.ofNat b = y) : Int32.ofNat m = (13 : Int32) + x + y := by
  rw [e, Int32.ofNat_add, Int32.ofNat_add, h1, h2]; rfl
/-! Throwable's tables, said with the subclass's own word for suppressedExceptions (the word of Throwable itself isn't in this sheet) -/
open Jvm.Free.Exc in
def own_thrL (rc : String) : List Jvm.Cond := [.native tFill0, .initialized tN, .superclass tN "java/lang/Object", .instanceMethod tFill, .codeSync tFill LibCode.Throwable.Fill.code 1 (some (.object tN)), .instanceMethod tFill0, .instanceMethod oInit, .code oInit ⟨#[0xb1]⟩ 1 none, .methodLink tN 1 oInit, .methodLink tN 27 tFill, .methodLink tN 202 tFill0, .fieldLink tN 7 tN "cause" thD, .lays rc tN "cause" thD, .fieldLink tN 17 tN "stackTrace" steD, .lays rc tN "stackTrace" steD, .fieldLink tN 24 tN "suppressedExceptions" listD, .lays rc tN "suppressedExceptions" listD, .fieldLink tN 13 tN "UNASSIGNED_STACK" steD, .laysStatic tN "UNASSIGNED_STACK" steD, .fieldLink tN 20 tN "SUPPRESSED_SENTINEL" listD, .laysStatic tN "SUPPRESSED_SENTINEL" listD]
open Jvm.Free.Exc in
theorem own_thr {args : Array Value} {s : State} {pl : Platform} {rc : String} (o1 : pl.frameOwnsMonitors = true) (o2 : pl.finalization = false) (o3 : pl.magicAccessors = ({} : Platform).magicAccessors)
    (w : ∀ d ∈ own_thrL rc, d.before args s = true) :
    ∃ T : ThrowableC, T.Links pl s ∧ s.vm.findClass tN = some T.cT ∧ s.methodNamed? tFill = some T.fill ∧ s.methodNamed? tFill0 = some T.fill0 ∧ s.fieldFound? tN "stackTrace" steD = some (T.cT, T.kT, T.i17, T.fStack) ∧ T.fStack.type = .array (.object "java/lang/StackTraceElement") ∧ s.fieldFound? tN "UNASSIGNED_STACK" steD = some (T.cT, T.kT, T.i13, T.fUnassigned) := by
  have W : ∀ (i : Nat) (d : Jvm.Cond), (own_thrL rc)[i]? = some d → d.holds args s none s [] = true := fun i d h => w d (List.mem_of_getElem? h)
  -- the class, its two fill methods
  obtain ⟨⟨cT, j0⟩, f0, n0, p0, p1, p2, p3, p4⟩ := Cond.native_spec (W 0 _ rfl)
  have hT : s.vm.findClass tN = some cT := findClass_of_methodNamed n0
  obtain ⟨kT, hk, hname⟩ := Vm.findClass_spec hT
  obtain ⟨-, k1, -, -, hk1, -, -, -, -, hni⟩ := Cond.superclass_spec hT (W 2 _ rfl)
  obtain rfl := Option.some.inj (hk.symm.trans hk1)
  obtain ⟨j0', f0', n0', p0', q1, q2, q3, q4, q5⟩ := Cond.ownMethod (x := tFill0) hT hk (W 5 _ rfl)
  have ej : j0 = j0' := congrArg MethodId.idx (Option.some.inj (n0.symm.trans n0'))
  subst ej
  obtain rfl := Option.some.inj (p0.symm.trans p0')
  obtain ⟨jF, fF, nF, a1, a2, a3, a4, -, -⟩ := Cond.ownMethod (x := tFill) hT hk (W 3 _ rfl)
  obtain ⟨fF', cF, b1, b2, b3, b4, b5, b6, -, b7⟩ := Cond.codeSync_spec nF (W 4 _ rfl)
  obtain rfl := Option.some.inj (a1.symm.trans b1)
  -- Object's constructor
  obtain ⟨mO, fO, nO, d1, d2, d3⟩ := Cond.instanceMethod_spec (W 6 _ rfl)
  obtain ⟨fO', cO, g1, g2, g3, -, -, g4, -, g5⟩ := Cond.code_spec nO (W 7 _ rfl)
  obtain rfl := Option.some.inj (d1.symm.trans g1)
  obtain ⟨kO, hkO, hnO⟩ := Vm.findClass_spec (findClass_of_methodNamed nO)
  obtain ⟨nmO, dsO⟩ := name_of_methodNamed nO d1
  -- the links
  obtain ⟨u1, v1, cf, l1, r1, hcf, t1⟩ := Cond.linkedMethod hT hk nO (W 8 _ rfl) pl o3
  obtain ⟨u2, v2, cf2, l2, r2, hcf2, t2⟩ := Cond.linkedMethod hT hk nF (W 9 _ rfl) pl o3
  obtain ⟨u3, v3, cf3, l3, r3, hcf3, t3⟩ := Cond.linkedMethod hT hk n0 (W 10 _ rfl) pl o3
  obtain rfl := Option.some.inj (hcf.symm.trans hcf2)
  obtain rfl := Option.some.inj (hcf.symm.trans hcf3)
  obtain ⟨x7, i7, f7, A1, A2, A3, A4, A5, A6, A7, -⟩ := Cond.ownField (t := .object tN) hT hk (by decide +kernel) (W 11 _ rfl) (W 12 _ rfl) pl o3
  obtain ⟨x17, i17, f17, B1, B2, B3, B4, B5, B6, B7, B8⟩ := Cond.ownField (t := .array (.object "java/lang/StackTraceElement")) hT hk (by decide +kernel) (W 13 _ rfl) (W 14 _ rfl) pl o3
  obtain ⟨x24, i24, f24, C1, C2, C3, C4, C5, C6, C7, C8⟩ := Cond.ownField (t := .object "java/util/List") hT hk (by decide +kernel) (W 15 _ rfl) (W 16 _ rfl) pl o3
  obtain ⟨x13, i13, f13, aS, cS, D1, D2, D3, D4, -, -, D5, D6, D7, -, -, D8⟩ := Cond.ownStatic (t := .array (.object "java/lang/StackTraceElement")) hT hk (by decide +kernel) (W 17 _ rfl) (W 18 _ rfl) pl o3
  obtain ⟨x20, i20, f20, -, -, E1, E2, E3, E4, -, -, -, -, -, -, -, -⟩ := Cond.ownStatic (t := .object "java/util/List") hT hk (by decide +kernel) (W 19 _ rfl) (W 20 _ rfl) pl o3
  have apart : f17.slot ≠ f24.slot := by
    obtain ⟨cR, kR, -, -, -, -, y1, y2, -⟩ := Cond.lays_spec (W 14 _ rfl)
    obtain ⟨-, d17, y3, y4⟩ := Cond.laysAt y1 y2 B8 (W 14 _ rfl)
    obtain ⟨-, d24, y5, y6⟩ := Cond.laysAt y1 y2 C8 (W 16 _ rfl)
    exact Cond.laysApart y3 y5 y4 y6 (by rw [B6, C6]; decide)
  refine ⟨{ cT := cT, kT := kT, cO := cT, aS := aS, fillIdx := jF, fill0Idx := j0, initSIdx := jF, obj := mO, kObj := kO, methFill := fF, methFill0 := f0, methInitS := fF, methObj := fO, codeFill := cF, codeInitS := cF, codeObj := cO, fBack := f7, fDepth := f7, fStack := f17, fCause := f7, fSupp := f24, fMsg := f7, fUnassigned := f13, fSentinel := f20, cfT := cf, ci1 := u1, n1 := v1, ci27 := u2, n27 := v2, ci202 := u3, n202 := v3, ci7 := x7, i7 := i7, ci13 := x13, i13 := i13, ci17 := x17, i17 := i17, ci20 := x20, i20 := i20, ci24 := x24, i24 := i24 }, ?_, hT, nF, n0, B8, B7, D8⟩
  constructor
  case owns => exact o1
  case noFinalization => exact o2
  case cls => exact hk
  case name => exact hname
  case boot => exact Vm.findClass_boot hT hk
  case notInterface => exact hni
  case initialized => exact Cond.initialized_spec hT hk (W 1 _ rfl)
  case fillParams =>
    have q : (parseMethodDescriptor tFill.desc).map (·.parameters) = some [] := by decide +kernel
    rw [b7] at q; simpa using q
  case fill0Params =>
    have q : (parseMethodDescriptor tFill0.desc).map (·.parameters) = some [.int] := by decide +kernel
    rw [p4] at q; simpa using q
  case objParams =>
    have q : (parseMethodDescriptor oInit.desc).map (·.parameters) = some [] := by decide +kernel
    rw [g5] at q
    have q2 : fO.sig.parameters = [] := by simpa using q
    show fO.sig.parameters.length = 0
    rw [q2]; rfl
  case objFound => show lookupSpecial s.vm mO.cls "<init>" fO.desc = _; rw [dsO]; exact lookupSpecial_of_named nO d1 d2
  case stackApartSupp => exact apart
  all_goals first | assumption | exact b6
open Jvm.Free.Exc in
def own_filL (rc : String) : List Jvm.Cond := [.declares tFill, .selects rc tFill0 tFill0, .selects rc tFill tFill, .fieldLink tN 198 tN "backtrace" obD, .lays rc tN "backtrace" obD, .soleField tN "backtrace", .soleField tN "depth", .lays rc tN "depth" "I", .lays rc tN "detailMessage" msgD, .arrayOver (.object "java/lang/Object")]
theorem own_xok {rc : String} : (own_thrL rc ++ own_filL rc).all Jvm.RoadKit.xOk = true := rfl
open Jvm.Free.Exc in
/-- fillInStackTrace() on an object that the walk has made, whose stackTrace holds what UNASSIGNED_STACK holds -/
theorem own_fill {p : Program} {l : Launch} {e : Env} {R : Room} {s : State} {m : MethodId} {args : Array Value} {below : List Frame} {meth : Method} {c : Code} {T : State} {locs : List Loc} {cells slots : Nat} {Z : State} {a0 : Array Value} {h : Heap} (X : Stand p l e R s m args below meth c T locs cells slots) (hx : p.tables.exec = Jvm.exec) (hl : l.stackTraces = true) (hZ : Z.Warmed39 s.vm) (hown : s.vm.findClass tN = some m.cls) {rc : String} {kI : Nat} (wT : ∀ d ∈ own_thrL rc ++ own_filL rc, d.before a0 Z = true) (wi : (Cond.instantiable rc kI).before a0 Z = true)
    (hT0 : Jvm.RoadKit.ThS Z s.heap) (hTK : s.vm.MethodsKnown) (hBelow : s.vm.FramesKnown below) (eT : T.heap = h) {a : Addr} (hL : ∀ y ∈ locs, y.base = a) (E : Exa Z h a rc) (U : Unt h a) (B : Fld Z h a tN "backtrace" obD .null) {w u : Value} (M : Fld Z h a tN "detailMessage" msgD w) (hu : u.isRef = true) (S1 : Fld Z h a tN "stackTrace" steD u) (SU : Sta Z h tN "UNASSIGNED_STACK" steD u)
    {g : JFrame} (hg : g.method = m) (hsize : g.locals.size = c.maxLocals) {rest : List Value} (hs : g.stack = .ref a :: rest) (hd : decode c.code g.pc = .ok (.invokevirtual 27, 3)) {W : Nat} (hW : 2 * g.monitorRoom + (rest.map fun v => v.category).sum ≤ W)
    (hf : 2 < R.frames) (hlo : W + 42 ≤ R.locals) (hc : cells + 1 ≤ R.cells) (hsl : slots + 2752 ≤ R.slots) :
    ∃ (T' : State) (L' : List Loc), Stand p l e R s m args below meth c T' L' (cells + 1) (slots + 2752) ∧ (∀ y ∈ L', y.base = a) ∧ Keep s.heap T'.heap [a] ∧ Exa Z T'.heap a rc ∧ Fld Z T'.heap a tN "detailMessage" msgD w ∧
      Steps p.tables e below (T.setTop g) (T'.setTop { g with pc := g.pc + 3, stack := .ref a :: rest }) := by
  obtain ⟨cell, kc, h1, h2, h3, h4, h5⟩ := E
  obtain ⟨c2, u1, u2, u3⟩ := U
  cases h1.symm.trans u1
  obtain ⟨c3, cfB, kB, iB, fB, b1, b2, -, -, -, -, b7⟩ := B
  cases h1.symm.trans b1
  obtain ⟨c4, cfM, kM, iM, fM, m1, m2, m3, m4, m5, m6, m7⟩ := M
  cases h1.symm.trans m1
  obtain ⟨c5, cfS, kS, iS, fS, s1, s2, -, -, -, -, s7⟩ := S1
  cases h1.symm.trans s1
  obtain ⟨cfU, iU, kU, fU, st, cU, t1, -, -, t4, t5, t6, t7⟩ := SU
  obtain ⟨c6, k6, i1, i2, i3, -⟩ := Cond.instantiable_spec wi
  cases h2.symm.trans i1
  cases h3.symm.trans i2
  have ws : ∀ d ∈ own_thrL rc ++ own_filL rc, d.before args s = true := fun d hd => Jvm.RoadKit.mvX hT0 hZ (List.all_eq_true.mp own_xok d hd) (wT d hd)
  have Wf : ∀ (i : Nat) (d : Jvm.Cond), (own_filL rc)[i]? = some d → d.before args s = true := fun i d q => ws d (List.mem_append_right _ (List.mem_of_getElem? q))
  have Wt : ∀ (i : Nat) (d : Jvm.Cond), (own_thrL rc)[i]? = some d → d.before args s = true := fun i d q => ws d (List.mem_append_left _ (List.mem_of_getElem? q))
  have tr : e.platform.stackTraces = true := by rw [X.admits.platform]; exact hl
  have pl : e.platform.magicAccessors = ({} : Platform).magicAccessors := by rw [X.admits.platform]
  obtain ⟨TT, LK, y1, y2, y3, y4, y5, y6⟩ := own_thr (args := args) (s := s) (pl := e.platform) (rc := rc) (by rw [X.admits.platform]) (by rw [X.admits.platform]) pl (fun d hd => ws d (List.mem_append_left _ hd))
  have hfound : s.vm.findClass rc = some cell.cls := by rw [hZ.alike.findClass]; exact h2
  obtain ⟨kX, x1, x2⟩ := hZ.alike.2.2 _ _ h3
  have hord : kX.kind = .ordinary := by rw [x2]; exact i3
  have hsz : cell.slots.size = kX.instanceTypes.size := by rw [x2]; exact h5 i3
  -- the fields, at s
  obtain ⟨kS', z1, -⟩ := State.fieldFound?_setVm (s := Z) hZ.alike s2
  cases (show s.fieldFound? tN "stackTrace" steD = _ from z1).symm.trans y4
  obtain ⟨kU', z2, z2'⟩ := State.fieldFound?_setVm (s := Z) hZ.alike t1
  cases (show s.fieldFound? tN "UNASSIGNED_STACK" steD = _ from z2).symm.trans y6
  have est : st = TT.aS := by
    have q : TT.kT.statics = some st := by rw [z2']; exact t4
    exact Option.some.inj (q.symm.trans LK.statics)
  subst est
  obtain ⟨kB', z3, -⟩ := State.fieldFound?_setVm (s := Z) hZ.alike b2
  obtain ⟨kM', z4, -⟩ := State.fieldFound?_setVm (s := Z) hZ.alike m2
  obtain ⟨c198, i198, fB', A1, A2, A3, A4, -, A6, A7, A8⟩ := Cond.ownField (t := .object "java/lang/Object") y1 LK.cls (by decide +kernel) (Wf 3 _ rfl) (Wf 4 _ rfl) e.platform pl
  cases (show s.fieldFound? tN "backtrace" obD = _ from z3).symm.trans A8
  obtain ⟨-, -, cD, kD, iD, fD, -, -, D1, D2, -⟩ := Cond.lays_spec (Wf 7 _ rfl)
  cases Option.some.inj ((Cond.lays_declared (Wf 7 _ rfl) D1).symm.trans y1)
  obtain ⟨D3, D4⟩ := State.fieldFound?_spec D1
  cases Option.some.inj (D3.symm.trans LK.cls)
  obtain ⟨D5, D6⟩ := State.fieldFound?_type D1 (t := .int) (by decide +kernel)
  obtain ⟨nM, -⟩ := State.fieldFound?_type (show s.fieldFound? tN "detailMessage" msgD = _ from z4) (t := .object "java/lang/String") (by decide +kernel)
  obtain ⟨nS, -⟩ := State.fieldFound?_type y4 (t := .array (.object "java/lang/StackTraceElement")) (by decide +kernel)
  obtain ⟨v1, d1, e1, g1⟩ := Cond.laysAt hfound x1 y4 (Wt 14 _ rfl)
  obtain ⟨v2, d2, e2, g2⟩ := Cond.laysAt hfound x1 A8 (Wf 4 _ rfl)
  obtain ⟨v3, d3, e3, g3⟩ := Cond.laysAt hfound x1 D1 (Wf 7 _ rfl)
  obtain ⟨-, d4, e4, g4⟩ := Cond.laysAt hfound x1 (show s.fieldFound? tN "detailMessage" msgD = _ from z4) (Wf 8 _ rfl)
  have a1 := Cond.laysApart e4 e2 g4 g2 (by rw [nM, A6]; decide)
  have a2 := Cond.laysApart e4 e3 g4 g3 (by rw [nM, D5]; decide)
  have a3 := Cond.laysApart e4 e1 g4 g1 (by rw [nM, nS]; decide)
  have tk : ∀ {f : Field} {v : Value}, kX.instanceTypes[f.slot]? = some f.type → fits f.type v = true → Jvm.Takes s cell f v := fun {f v} q1 q2 => ⟨by rw [hsz]; exact (Array.getElem?_eq_some_iff.mp q1).1, by rw [u2]; exact (Takes.of_laid x1 hord q1 q2).2⟩
  have sel0 : selectMethod e.platform s.vm cell.cls TT.fill0 = .method TT.fill0 := by
    obtain ⟨c2, r2, m2, q1, q2, q3, q4, -⟩ := Cond.selects_spec (Wf 1 _ rfl)
    cases Option.some.inj (q1.symm.trans hfound)
    cases Option.some.inj (q2.symm.trans (State.methodFound?_of_named y3 (by decide)))
    cases Option.some.inj (q3.symm.trans y3)
    rw [Launch.admits_selectMethod X.admits]; exact q4
  obtain ⟨comp, cO, kO, -, -, o1, o2, o3⟩ := Cond.arrayOver_spec (Wf 9 _ rfl)
  have neS : TT.aS ≠ a := fun q => by
    rw [q, h1] at t5
    rw [← Option.some.inj t5, h4] at t6; cases t6
  obtain ⟨v6, vm6, ⟨T6, L6, k6, n6⟩, -, X6, ⟨f1, C, n, f2, f3, f4, f5, f6, f7, f8, f9, f10⟩, come⟩ := X.virtualBack hx (own := tN) (C := rc) (index := 27) (y := tFill) (z := tFill) hown (Wt 9 _ rfl) (Wf 0 _ rfl) (notFace_of_selects (Wf 2 _ rfl)) (Wf 2 _ rfl) (Wt 3 _ rfl) (by decide)
    (fillPaysAny (l := l) (W := W) hx tr TT LK y2 (u0 := ⟨u, hu⟩) (self := a) (cell := cell) (cellS := cU) (fun _ => by rw [u2]; simp) (by rw [u2]; simp) (by rw [u3]) (by rw [u3]) s7 sel0 neS (fun q => by rw [q] at t6; cases t6) t7 (tk v1 (by rw [y5]; exact fits_refV_array _ ⟨u, hu⟩))
      ⟨{ ci198 := c198, i198 := iB, fBack := fB }, ⟨A1, A2, A3, A4⟩, b7⟩ hTK hBelow y1 o3 o1 o2 (Cond.soleField_find y1 LK.cls (Wf 5 _ rfl) A3 A6 A4) (Cond.soleField_find y1 LK.cls (Wf 6 _ rfl) D4 D5 D2)
      (fun x => tk v2 (by rw [A7]; rfl)) (fun x => tk v3 (by rw [D6]; rfl)) hf hlo)
    hfound ⟨cell, by rw [eT]; exact h1, rfl, h4⟩ hg hsize (Steps.refl _) (argsL := []) (rest := rest) (fun sig q => by rw [show parseMethodDescriptor tFill.desc = some ⟨[], some (.object tN)⟩ from by decide +kernel] at q; rw [← Option.some.inj q]; rfl) hs hW hd
    (fun vmx _ => ⟨rfl, hc, hsl, by show T.heap[a]? = _; rw [eT]; exact h1, by show T.heap[TT.aS]? = _; rw [eT]; exact t5⟩)
  dsimp only [Pt.U, Pt.locs, Pt.cells, Pt.slots] at X6 f3 f8 f9 f10 come
  subst f1 f8 f9 f10
  have hL' : ∀ y ∈ locs ++ [⟨a, fB.slot⟩, ⟨a, fD.slot⟩, ⟨a, TT.fStack.slot⟩], y.base = a := fun y hy => by
    rcases List.mem_append.mp hy with q | q
    · exact hL y q
    · simp only [List.mem_cons, List.not_mem_nil, or_false] at q; rcases q with rfl | rfl | rfl <;> rfl
  obtain ⟨-, j1, -, -, -, j2⟩ := X6.same
  refine ⟨T6, _, X6.more (Nat.le_refl _) (Nat.add_le_add_left f2 _), hL', ⟨j1, fun x cx q ne => ?_, fun x cx q => ?_⟩, ⟨C, kc, f3, by rw [f4]; exact h2, by rw [f4]; exact h3, by rw [f5]; exact h4, fun q => by rw [f6]; exact h5 q⟩, ⟨C, cfM, kM, iM, fM, f3, m2, m3, by rw [f5]; exact m4, by rw [f5]; exact m5, by rw [f4]; exact m6, (f7 _ a1 a2 a3).trans m7⟩, come⟩
  · obtain ⟨c', q1, q2, -, q4⟩ := j2 x cx q
    have e5 : c'.slots = cx.slots := Array.ext_getElem? fun i => q4 i fun hm => ne (by rw [← hL' _ hm]; exact List.mem_singleton.mpr rfl)
    rw [show T6.heap[x]? = some c' from q1, q2, e5]
  · obtain ⟨c', q1, q2, q3, -⟩ := j2 x cx q
    exact ⟨c', q1, by rw [q2], by rw [q2], q3⟩

def Q_rmMax (Z : State) (na : Nat) (nb : Nat) (h0 : Heap) (n0 : Nat) (v : Option Value) (h : Heap) (L : List Loc) : Prop := v = some (.int (Int32.ofNat (max na nb))) ∧ Fr n0 L ∧ h = h0
theorem rmMax (l : Launch) (Z : State) (a0 : Array Value) (hw : HWt a0 Z) (ws : List Jvm.Cond) (na : Nat) (nb : Nat) (h0 : Heap) (n0 : Nat) (O : Old Z n0 h0) (ha : na < 1073741824) (hb_ : nb < 1073741824) :
    Met l mY5 (Jvm.Cond.code mY5 jdk_29_method_65_code 2 (some .int) :: ws) rz0_0_0_0 #[(.int (Int32.ofNat na)), (.int (Int32.ofNat nb))] Z h0 (Q_rmMax Z na nb h0 n0) := by
  refine MetFree.of_bodySF (Jvm.Free.JP.mathPlain rfl (by decide +kernel)) hisR ?_
  intro p e s m args below meth c s₁ Bd hml0 hP hK
  obtain ⟨rfl, hZ, hh⟩ := hP
  have hx := Bd.exec
  have hby := Bd.bytes
  have hml : c.maxLocals = 2 := hml0
  have hlk : meth.locks = false := BodyLoose.notSynchronized Bd
  have X0 : Stand p l e rz0_0_0_0 s m #[(.int (Int32.ofNat na)), (.int (Int32.ofNat nb))] below meth c s₁ [] 0 0 := Stand.of_body Bd
  have e0 : s₁.heap = h0 := by rw [← hh, Bd.state]; rfl
  have N0 := Fr.nil n0
  show Go p e below s rz0_0_0_0.cells rz0_0_0_0.slots (Q_rmMax Z na nb h0 n0) s₁ (entryFrame m #[(.int (Int32.ofNat na)), (.int (Int32.ofNat nb))] 2)
  refine Go.eq (ef_rmMax m (Int32.ofNat na) (Int32.ofNat nb)) ?_
  show Go _ _ _ _ _ _ _  s₁ (mkF m 0 #[.val (.int (Int32.ofNat na)), .val (.int (Int32.ofNat nb))] [])
  refine Go.st (fun _ => XS.iloadN X0.here hx rfl (hb hby (dq dz60 0 0 rfl)) rfl) ?_
  refine Go.st (fun _ => XS.iloadN X0.here hx rfl (hb hby (dq dz60 1 1 rfl)) rfl) ?_
  show Go _ _ _ _ _ _ _  s₁ (mkF m 2 #[.val (.int (Int32.ofNat na)), .val (.int (Int32.ofNat nb))] [(.int (Int32.ofNat nb)), (.int (Int32.ofNat na))])
  by_cases c2_1 : (Int32.ofNat na) < (Int32.ofNat nb)
  · refine Go.st (fun _ => XS.icmpYes X0.here hx rfl (pc0 := 2) (pc' := 9) rfl (hb hby (dq dz60 2 2 rfl)) rfl (tlt c2_1).1 (by decide) (by decide)) ?_
    show Go _ _ _ _ _ _ _  s₁ (mkF m 9 #[.val (.int (Int32.ofNat na)), .val (.int (Int32.ofNat nb))] [])
    refine Go.st (fun _ => XS.iloadN X0.here hx rfl (hb hby (dq dz60 3 9 rfl)) rfl) ?_
    show Go _ _ _ _ _ _ _  s₁ (mkF m 10 #[.val (.int (Int32.ofNat na)), .val (.int (Int32.ofNat nb))] [(.int (Int32.ofNat nb))])
    refine Go.retI X0 hlk hx Bd.returns (hb hby (dq dz60 4 10 rfl)) (by decide) (by decide) ?_
    show Q_rmMax Z _ _ h0 n0 _ s₁.heap _
    rw [e0]
    exact ⟨by have q := c2_1; rw [own_olt (by omega) (by omega)] at q; rw [show max na nb = nb by omega], N0, rfl⟩
  · refine Go.st (fun _ => XS.icmpNo X0.here hx rfl (hb hby (dq dz60 2 2 rfl)) rfl (flt c2_1).1) ?_
    show Go _ _ _ _ _ _ _  s₁ (mkF m 5 #[.val (.int (Int32.ofNat na)), .val (.int (Int32.ofNat nb))] [])
    refine Go.st (fun _ => XS.iloadN X0.here hx rfl (hb hby (dq dz60 5 5 rfl)) rfl) ?_
    refine Go.st (fun _ => XS.goto X0.here hx rfl (pc0 := 6) (pc' := 10) rfl (hb hby (dq dz60 6 6 rfl)) (by decide) (by decide)) ?_
    show Go _ _ _ _ _ _ _  s₁ (mkF m 10 #[.val (.int (Int32.ofNat na)), .val (.int (Int32.ofNat nb))] [(.int (Int32.ofNat na))])
    refine Go.retI X0 hlk hx Bd.returns (hb hby (dq dz60 4 10 rfl)) (by decide) (by decide) ?_
    show Q_rmMax Z _ _ h0 n0 _ s₁.heap _
    rw [e0]
    exact ⟨by have q := c2_1; rw [own_olt (by omega) (by omega)] at q; rw [show max na nb = na by omega], N0, rfl⟩
def Q_rmMin (Z : State) (na : Nat) (nb : Nat) (h0 : Heap) (n0 : Nat) (v : Option Value) (h : Heap) (L : List Loc) : Prop := v = some (.int (Int32.ofNat (min na nb))) ∧ Fr n0 L ∧ h = h0
theorem rmMin (l : Launch) (Z : State) (a0 : Array Value) (hw : HWt a0 Z) (ws : List Jvm.Cond) (na : Nat) (nb : Nat) (h0 : Heap) (n0 : Nat) (O : Old Z n0 h0) (ha : na < 1073741824) (hb_ : nb < 1073741824) :
    Met l mY6 (Jvm.Cond.code mY6 jdk_29_method_69_code 2 (some .int) :: ws) rz0_0_0_0 #[(.int (Int32.ofNat na)), (.int (Int32.ofNat nb))] Z h0 (Q_rmMin Z na nb h0 n0) := by
  refine MetFree.of_bodySF (Jvm.Free.JP.mathPlain rfl (by decide +kernel)) hisR ?_
  intro p e s m args below meth c s₁ Bd hml0 hP hK
  obtain ⟨rfl, hZ, hh⟩ := hP
  have hx := Bd.exec
  have hby := Bd.bytes
  have hml : c.maxLocals = 2 := hml0
  have hlk : meth.locks = false := BodyLoose.notSynchronized Bd
  have X0 : Stand p l e rz0_0_0_0 s m #[(.int (Int32.ofNat na)), (.int (Int32.ofNat nb))] below meth c s₁ [] 0 0 := Stand.of_body Bd
  have e0 : s₁.heap = h0 := by rw [← hh, Bd.state]; rfl
  have N0 := Fr.nil n0
  show Go p e below s rz0_0_0_0.cells rz0_0_0_0.slots (Q_rmMin Z na nb h0 n0) s₁ (entryFrame m #[(.int (Int32.ofNat na)), (.int (Int32.ofNat nb))] 2)
  refine Go.eq (ef_rmMin m (Int32.ofNat na) (Int32.ofNat nb)) ?_
  show Go _ _ _ _ _ _ _  s₁ (mkF m 0 #[.val (.int (Int32.ofNat na)), .val (.int (Int32.ofNat nb))] [])
  refine Go.st (fun _ => XS.iloadN X0.here hx rfl (hb hby (dq dz29 0 0 rfl)) rfl) ?_
  refine Go.st (fun _ => XS.iloadN X0.here hx rfl (hb hby (dq dz29 1 1 rfl)) rfl) ?_
  show Go _ _ _ _ _ _ _  s₁ (mkF m 2 #[.val (.int (Int32.ofNat na)), .val (.int (Int32.ofNat nb))] [(.int (Int32.ofNat nb)), (.int (Int32.ofNat na))])
  by_cases c2_1 : (Int32.ofNat nb) < (Int32.ofNat na)
  · refine Go.st (fun _ => XS.icmpYes X0.here hx rfl (pc0 := 2) (pc' := 9) rfl (hb hby (dq dz29 2 2 rfl)) rfl (tlt c2_1).2.2.1 (by decide) (by decide)) ?_
    show Go _ _ _ _ _ _ _  s₁ (mkF m 9 #[.val (.int (Int32.ofNat na)), .val (.int (Int32.ofNat nb))] [])
    refine Go.st (fun _ => XS.iloadN X0.here hx rfl (hb hby (dq dz29 3 9 rfl)) rfl) ?_
    show Go _ _ _ _ _ _ _  s₁ (mkF m 10 #[.val (.int (Int32.ofNat na)), .val (.int (Int32.ofNat nb))] [(.int (Int32.ofNat nb))])
    refine Go.retI X0 hlk hx Bd.returns (hb hby (dq dz29 4 10 rfl)) (by decide) (by decide) ?_
    show Q_rmMin Z _ _ h0 n0 _ s₁.heap _
    rw [e0]
    exact ⟨by have q := c2_1; rw [own_olt (by omega) (by omega)] at q; rw [show min na nb = nb by omega], N0, rfl⟩
  · refine Go.st (fun _ => XS.icmpNo X0.here hx rfl (hb hby (dq dz29 2 2 rfl)) rfl (flt c2_1).2.2.1) ?_
    show Go _ _ _ _ _ _ _  s₁ (mkF m 5 #[.val (.int (Int32.ofNat na)), .val (.int (Int32.ofNat nb))] [])
    refine Go.st (fun _ => XS.iloadN X0.here hx rfl (hb hby (dq dz29 5 5 rfl)) rfl) ?_
    refine Go.st (fun _ => XS.goto X0.here hx rfl (pc0 := 6) (pc' := 10) rfl (hb hby (dq dz29 6 6 rfl)) (by decide) (by decide)) ?_
    show Go _ _ _ _ _ _ _  s₁ (mkF m 10 #[.val (.int (Int32.ofNat na)), .val (.int (Int32.ofNat nb))] [(.int (Int32.ofNat na))])
    refine Go.retI X0 hlk hx Bd.returns (hb hby (dq dz29 4 10 rfl)) (by decide) (by decide) ?_
    show Q_rmMin Z _ _ h0 n0 _ s₁.heap _
    rw [e0]
    exact ⟨by have q := c2_1; rw [own_olt (by omega) (by omega)] at q; rw [show min na nb = na by omega], N0, rfl⟩
def Q_rmNL (Z : State) (c0 : Nat) (na : Nat) (nb : Nat) (h0 : Heap) (n0 : Nat) (v : Option Value) (h : Heap) (L : List Loc) : Prop := v = some (.int (Int32.ofNat (c0 + max na nb))) ∧ Fr n0 L ∧ h = h0
theorem rmNL (l : Launch) (Z : State) (a0 : Array Value) (hw : HWt a0 Z) (ws : List Jvm.Cond) (c0 : Nat) (na : Nat) (nb : Nat) (h0 : Heap) (n0 : Nat) (O : Old Z n0 h0) (hc : c0 < 500000000) (ha : na < 500000000) (hb_ : nb < 500000000) (hpos : 0 < nb) :
    Met l mY7 (Jvm.Cond.code mY7 jdk_48_method_27_code 4 (some .int) :: ws) rz1_0_0_14 #[(.int (Int32.ofNat c0)), (.int (Int32.ofNat na)), (.int (Int32.ofNat nb))] Z h0 (Q_rmNL Z c0 na nb h0 n0) := by
  refine MetFree.of_bodySF (plainFor_of_name pn_59) hisR ?_
  intro p e s m args below meth c s₁ Bd hml0 hP hK
  obtain ⟨rfl, hZ, hh⟩ := hP
  have hx := Bd.exec
  have hby := Bd.bytes
  have hml : c.maxLocals = 4 := hml0
  have hown : s.vm.findClass "jdk/internal/util/ArraysSupport" = some m.cls := findClass_of_methodNamed Bd.named
  have hlk : meth.locks = false := BodyLoose.notSynchronized Bd
  have X0 : Stand p l e rz1_0_0_14 s m #[(.int (Int32.ofNat c0)), (.int (Int32.ofNat na)), (.int (Int32.ofNat nb))] below meth c s₁ [] 0 0 := Stand.of_body Bd
  have e0 : s₁.heap = h0 := by rw [← hh, Bd.state]; rfl
  have N0 := Fr.nil n0
  show Go p e below s rz1_0_0_14.cells rz1_0_0_14.slots (Q_rmNL Z c0 na nb h0 n0) s₁ (entryFrame m #[(.int (Int32.ofNat c0)), (.int (Int32.ofNat na)), (.int (Int32.ofNat nb))] 4)
  refine Go.eq (ef_rmNL m (Int32.ofNat c0) (Int32.ofNat na) (Int32.ofNat nb)) ?_
  show Go _ _ _ _ _ _ _  s₁ (mkF m 0 #[.val (.int (Int32.ofNat c0)), .val (.int (Int32.ofNat na)), .val (.int (Int32.ofNat nb)), .unset] [])
  refine Go.st (fun _ => XS.iloadN X0.here hx rfl (hb hby (dq dz59 0 0 rfl)) rfl) ?_
  refine Go.st (fun _ => XS.iloadN X0.here hx rfl (hb hby (dq dz59 1 1 rfl)) rfl) ?_
  refine Go.st (fun _ => XS.iloadN X0.here hx rfl (hb hby (dq dz59 2 2 rfl)) rfl) ?_
  show Go _ _ _ _ _ _ _  s₁ (mkF m 3 #[.val (.int (Int32.ofNat c0)), .val (.int (Int32.ofNat na)), .val (.int (Int32.ofNat nb)), .unset] [(.int (Int32.ofNat nb)), (.int (Int32.ofNat na)), (.int (Int32.ofNat c0))])
  refine Go.pureS (w := (some (.int (Int32.ofNat (max na nb))))) (rest := [(.int (Int32.ofNat c0))]) (pc' := 6) (Jvm.LawKit.callS X0 hx (y := mY5) hown (mvT hZ (hwi hw 321 rfl)) (mvT hZ (hwi hw 322 rfl)) (mvT hZ (hwi hw 152 rfl)) (mvT hZ (hwi hw 323 rfl)) (by decide) (backOf (W := 1) (rmMax l Z a0 hw [] na nb h0 n0 O (by omega) (by omega)) hZ (hwi hw 323 rfl) (hwi hw 152 rfl) (by decide) (by decide)) (g := (mkF m 3 #[.val (.int (Int32.ofNat c0)), .val (.int (Int32.ofNat na)), .val (.int (Int32.ofNat nb)), .unset] [(.int (Int32.ofNat nb)), (.int (Int32.ofNat na)), (.int (Int32.ofNat c0))])) rfl (by rw [hml]; rfl) (argsL := [(.int (Int32.ofNat na)), (.int (Int32.ofNat nb))]) (rest := [(.int (Int32.ofNat c0))]) (lenOf pd__II_I rfl) rfl (by show 2 * 0 + _ ≤ _; exact Nat.le_of_eq rfl) (hb hby (dq dz59 3 3 rfl)) (fun _ _ => ⟨rfl, e0, (by decide : 0 + 0 ≤ _), (by decide : 0 + 0 ≤ _)⟩)) (fun _ _ _ q => q) N0 (fun T1 L1 X1 e1q N1 => ?_)
  show Go _ _ _ _ _ _ _  T1 (mkF m 6 #[.val (.int (Int32.ofNat c0)), .val (.int (Int32.ofNat na)), .val (.int (Int32.ofNat nb)), .unset] [(.int (Int32.ofNat (max na nb))), (.int (Int32.ofNat c0))])
  refine Go.st (fun _ => XS.iadd X1.here hx rfl (hb hby (dq dz59 4 6 rfl)) rfl) ?_
  show Go _ _ _ _ _ _ _  T1 (mkF m 7 #[.val (.int (Int32.ofNat c0)), .val (.int (Int32.ofNat na)), .val (.int (Int32.ofNat nb)), .unset] [(.int ((Int32.ofNat c0) + (Int32.ofNat (max na nb))))])
  rw [own_oadd]
  refine Go.st (fun _ => XS.istoreN X1.here hx rfl (hb hby (dq dz59 5 7 rfl)) rfl (l' := #[.val (.int (Int32.ofNat c0)), .val (.int (Int32.ofNat na)), .val (.int (Int32.ofNat nb)), .val (.int (Int32.ofNat (c0 + max na nb)))]) rfl) ?_
  refine Go.st (fun _ => XS.iconst X1.here hx rfl (hb hby (dq dz59 6 8 rfl))) ?_
  refine Go.st (fun _ => XS.iloadN X1.here hx rfl (hb hby (dq dz59 7 9 rfl)) rfl) ?_
  show Go _ _ _ _ _ _ _  T1 (mkF m 10 #[.val (.int (Int32.ofNat c0)), .val (.int (Int32.ofNat na)), .val (.int (Int32.ofNat nb)), .val (.int (Int32.ofNat (c0 + max na nb)))] [(.int (Int32.ofNat (c0 + max na nb))), (.int (0 : Int32))])
  refine Go.st (fun _ => XS.icmpNo X1.here hx rfl (hb hby (dq dz59 8 10 rfl)) rfl (tlt (own_opos (by omega) (by omega) : (0 : Int32) < (Int32.ofNat (c0 + max na nb)))).2.1) ?_
  show Go _ _ _ _ _ _ _  T1 (mkF m 13 #[.val (.int (Int32.ofNat c0)), .val (.int (Int32.ofNat na)), .val (.int (Int32.ofNat nb)), .val (.int (Int32.ofNat (c0 + max na nb)))] [])
  refine Go.st (fun _ => XS.iloadN X1.here hx rfl (hb hby (dq dz59 9 13 rfl)) rfl) ?_
  show Go _ _ _ _ _ _ _  T1 (mkF m 14 #[.val (.int (Int32.ofNat c0)), .val (.int (Int32.ofNat na)), .val (.int (Int32.ofNat nb)), .val (.int (Int32.ofNat (c0 + max na nb)))] [(.int (Int32.ofNat (c0 + max na nb)))])
  refine Go.st (X1.ldcInt hx hown (mvT hZ (hwi hw 324 rfl)) (g := (mkF m 14 #[.val (.int (Int32.ofNat c0)), .val (.int (Int32.ofNat na)), .val (.int (Int32.ofNat nb)), .val (.int (Int32.ofNat (c0 + max na nb)))] [(.int (Int32.ofNat (c0 + max na nb)))])) rfl (hb hby (dq dz59 10 14 rfl))) ?_
  show Go _ _ _ _ _ _ _  T1 (mkF m 16 #[.val (.int (Int32.ofNat c0)), .val (.int (Int32.ofNat na)), .val (.int (Int32.ofNat nb)), .val (.int (Int32.ofNat (c0 + max na nb)))] [(.int (2147483639 : Int32)), (.int (Int32.ofNat (c0 + max na nb)))])
  refine Go.st (fun _ => XS.icmpNo X1.here hx rfl (hb hby (dq dz59 11 16 rfl)) rfl (flt (own_onbig (by omega) : ¬ ((2147483639 : Int32) < (Int32.ofNat (c0 + max na nb))))).2.2.1) ?_
  show Go _ _ _ _ _ _ _  T1 (mkF m 19 #[.val (.int (Int32.ofNat c0)), .val (.int (Int32.ofNat na)), .val (.int (Int32.ofNat nb)), .val (.int (Int32.ofNat (c0 + max na nb)))] [])
  refine Go.st (fun _ => XS.iloadN X1.here hx rfl (hb hby (dq dz59 12 19 rfl)) rfl) ?_
  show Go _ _ _ _ _ _ _  T1 (mkF m 20 #[.val (.int (Int32.ofNat c0)), .val (.int (Int32.ofNat na)), .val (.int (Int32.ofNat nb)), .val (.int (Int32.ofNat (c0 + max na nb)))] [(.int (Int32.ofNat (c0 + max na nb)))])
  refine Go.retI X1 hlk hx Bd.returns (hb hby (dq dz59 13 20 rfl)) (by decide) (by decide) ?_
  show Q_rmNL Z _ _ _ h0 n0 _ T1.heap _
  rw [e1q]
  exact ⟨rfl, N1, rfl⟩
def Q_rmCO (Z : State) (a1 : Addr) (N : Nat) (kd : ClassId) (cap : Nat) (bs : List Value) (h0 : Heap) (n0 : Nat) (v : Option Value) (h : Heap) (L : List Loc) : Prop := ∃ (b : Addr) (kb : ClassId), v = some (.ref b) ∧ Fr n0 L ∧ Ext h0 h ∧ h0.size ≤ b ∧ Arv Z h b kb .byte (Int32.ofNat N) bs (.int 0)
theorem rmCO (l : Launch) (Z : State) (a0 : Array Value) (hw : HWt a0 Z) (ws : List Jvm.Cond) (a1 : Addr) (N : Nat) (kd : ClassId) (cap : Nat) (bs : List Value) (h0 : Heap) (n0 : Nat) (O : Old Z n0 h0) (A_a1 : Arv Z h0 a1 kd .byte (Int32.ofNat cap) bs (.int 0)) (hbs : bs.length ≤ cap) (hN1 : cap ≤ N) (hN2 : N ≠ cap) (hN3 : N ≤ 176) :
    Met l mY9 (Jvm.Cond.code mY9 jdk_65_method_121_code 3 (some (.array .byte)) :: ws) rz1_1_176_18 #[(.ref a1), (.int (Int32.ofNat N))] Z h0 (Q_rmCO Z a1 N kd cap bs h0 n0) := by
  refine MetFree.of_bodySF (plainFor_of_name pn_61) hisR ?_
  intro p e s m args below meth c s₁ Bd hml0 hP hK
  obtain ⟨rfl, hZ, hh⟩ := hP
  have hx := Bd.exec
  have hby := Bd.bytes
  have hml : c.maxLocals = 3 := hml0
  have hown : s.vm.findClass "java/util/Arrays" = some m.cls := findClass_of_methodNamed Bd.named
  have hlk : meth.locks = false := BodyLoose.notSynchronized Bd
  have X0 : Stand p l e rz1_1_176_18 s m #[(.ref a1), (.int (Int32.ofNat N))] below meth c s₁ [] 0 0 := Stand.of_body Bd
  have e0 : s₁.heap = h0 := by rw [← hh, Bd.state]; rfl
  have N0 := Fr.nil n0
  have KK : Keep h0 h0 [] := Keep.refl h0 _
  show Go p e below s rz1_1_176_18.cells rz1_1_176_18.slots (Q_rmCO Z a1 N kd cap bs h0 n0) s₁ (entryFrame m #[(.ref a1), (.int (Int32.ofNat N))] 3)
  refine Go.eq (ef_rmCO m a1 (Int32.ofNat N)) ?_
  show Go _ _ _ _ _ _ _  s₁ (mkF m 0 #[.val (.ref a1), .val (.int (Int32.ofNat N)), .unset] [])
  refine Go.st (fun _ => XS.iloadN X0.here hx rfl (hb hby (dq dz61 0 0 rfl)) rfl) ?_
  refine Go.st (fun _ => XS.aloadN X0.here hx rfl (hb hby (dq dz61 1 1 rfl)) rfl rfl) ?_
  show Go _ _ _ _ _ _ _  s₁ (mkF m 2 #[.val (.ref a1), .val (.int (Int32.ofNat N)), .unset] [(.ref a1), (.int (Int32.ofNat N))])
  obtain ⟨cl1, Ar1, q1, S1, M1, Hh1, G1⟩ := id A_a1
  refine Go.st (X0.arraylength hx (by rw [e0]; exact Ar1.1) (State.isArrayOf_alike hZ.alike Ar1.2.1) (g := (mkF m 2 #[.val (.ref a1), .val (.int (Int32.ofNat N)), .unset] [(.ref a1), (.int (Int32.ofNat N))])) rfl rfl (hb hby (dq dz61 2 2 rfl))) ?_
  rw [len_of S1 M1]
  show Go _ _ _ _ _ _ _  s₁ (mkF m 3 #[.val (.ref a1), .val (.int (Int32.ofNat N)), .unset] [(.int (Int32.ofNat cap)), (.int (Int32.ofNat N))])
  refine Go.st (fun _ => XS.icmpYes X0.here hx rfl (pc0 := 3) (pc' := 14) rfl (hb hby (dq dz61 3 3 rfl)) rfl (feq (fun q => hN2 ((own_oeq (by omega) (by omega)).mp q) : ¬ ((Int32.ofNat N) = (Int32.ofNat cap)))).2 (by decide) (by decide)) ?_
  show Go _ _ _ _ _ _ _  s₁ (mkF m 14 #[.val (.ref a1), .val (.int (Int32.ofNat N)), .unset] [])
  refine Go.st (fun _ => XS.iloadN X0.here hx rfl (hb hby (dq dz61 4 14 rfl)) rfl) ?_
  show Go _ _ _ _ _ _ _  s₁ (mkF m 15 #[.val (.ref a1), .val (.int (Int32.ofNat N)), .unset] [(.int (Int32.ofNat N))])
  obtain ⟨T2, h2, k2, X2, e2, E2, A2, st2⟩ := newP X0 hx hZ (hwi hw 23 rfl) e0 (g := (mkF m 15 #[.val (.ref a1), .val (.int (Int32.ofNat N)), .unset] [(.int (Int32.ofNat N))])) rfl (hb hby (dq dz61 5 15 rfl)) rfl (own_onn (by omega)) (cap := 176) (by rw [own_ocl (by omega)]; omega) (by decide) (by decide) (by decide)
  obtain ⟨b2, g2⟩ : ∃ z, z = h0.size := ⟨_, rfl⟩
  rw [← g2] at A2 st2
  refine Go.st st2 ?_
  have g_b2 : n0 ≤ b2 := by rw [g2]; exact own_le O
  have sz_b2 : h0.size ≤ b2 := by rw [g2]; exact KK.1
  have ne_a1_b2 : a1 ≠ b2 := Nat.ne_of_lt (by rw [g2]; exact A_a1.lt)
  have A_a1 := A_a1.ext E2
  have O := O.ext E2
  have KK := KK.ext E2
  have V_b2 := Arv.new A2 (own_onn (by omega))
  show Go _ _ _ _ _ _ _  T2 (mkF m 17 #[.val (.ref a1), .val (.int (Int32.ofNat N)), .unset] [(.ref b2)])
  refine Go.st (fun _ => XS.astoreN X2.here hx rfl (hb hby (dq dz61 6 17 rfl)) rfl rfl (l' := #[.val (.ref a1), .val (.int (Int32.ofNat N)), .val (.ref b2)]) rfl) ?_
  refine Go.st (fun _ => XS.aloadN X2.here hx rfl (hb hby (dq dz61 7 18 rfl)) rfl rfl) ?_
  refine Go.st (fun _ => XS.iconst X2.here hx rfl (hb hby (dq dz61 8 19 rfl))) ?_
  refine Go.st (fun _ => XS.aloadN X2.here hx rfl (hb hby (dq dz61 9 20 rfl)) rfl rfl) ?_
  refine Go.st (fun _ => XS.iconst X2.here hx rfl (hb hby (dq dz61 10 21 rfl))) ?_
  refine Go.st (fun _ => XS.aloadN X2.here hx rfl (hb hby (dq dz61 11 22 rfl)) rfl rfl) ?_
  show Go _ _ _ _ _ _ _  T2 (mkF m 23 #[.val (.ref a1), .val (.int (Int32.ofNat N)), .val (.ref b2)] [(.ref a1), (.int (0 : Int32)), (.ref b2), (.int (0 : Int32)), (.ref a1)])
  obtain ⟨cl3, Ar3, q3, S3, M3, Hh3, G3⟩ := id A_a1
  refine Go.st (X2.arraylength hx (by rw [e2]; exact Ar3.1) (State.isArrayOf_alike hZ.alike Ar3.2.1) (g := (mkF m 23 #[.val (.ref a1), .val (.int (Int32.ofNat N)), .val (.ref b2)] [(.ref a1), (.int (0 : Int32)), (.ref b2), (.int (0 : Int32)), (.ref a1)])) rfl rfl (hb hby (dq dz61 12 23 rfl))) ?_
  rw [len_of S3 M3]
  show Go _ _ _ _ _ _ _  T2 (mkF m 24 #[.val (.ref a1), .val (.int (Int32.ofNat N)), .val (.ref b2)] [(.int (Int32.ofNat cap)), (.int (0 : Int32)), (.ref b2), (.int (0 : Int32)), (.ref a1)])
  refine Go.st (fun _ => XS.iloadN X2.here hx rfl (hb hby (dq dz61 13 24 rfl)) rfl) ?_
  show Go _ _ _ _ _ _ _  T2 (mkF m 25 #[.val (.ref a1), .val (.int (Int32.ofNat N)), .val (.ref b2)] [(.int (Int32.ofNat N)), (.int (Int32.ofNat cap)), (.int (0 : Int32)), (.ref b2), (.int (0 : Int32)), (.ref a1)])
  refine Go.pureS (w := (some (.int (Int32.ofNat (min cap N))))) (rest := [(.int (0 : Int32)), (.ref b2), (.int (0 : Int32)), (.ref a1)]) (pc' := 28) (Jvm.LawKit.callS X2 hx (y := mY6) hown (mvT hZ (hwi hw 150 rfl)) (mvT hZ (hwi hw 151 rfl)) (mvT hZ (hwi hw 152 rfl)) (mvT hZ (hwi hw 153 rfl)) (by decide) (backOf (W := 4) (rmMin l Z a0 hw [] cap N h2 n0 O (by omega) (by omega)) hZ (hwi hw 153 rfl) (hwi hw 152 rfl) (by decide) (by decide)) (g := (mkF m 25 #[.val (.ref a1), .val (.int (Int32.ofNat N)), .val (.ref b2)] [(.int (Int32.ofNat N)), (.int (Int32.ofNat cap)), (.int (0 : Int32)), (.ref b2), (.int (0 : Int32)), (.ref a1)])) rfl (by rw [hml]; rfl) (argsL := [(.int (Int32.ofNat cap)), (.int (Int32.ofNat N))]) (rest := [(.int (0 : Int32)), (.ref b2), (.int (0 : Int32)), (.ref a1)]) (lenOf pd__II_I rfl) rfl (by show 2 * 0 + _ ≤ _; exact Nat.le_of_eq rfl) (hb hby (dq dz61 14 25 rfl)) (fun _ _ => ⟨rfl, e2, (by decide : 1 + 0 ≤ _), (by decide : 176 + 0 ≤ _)⟩)) (fun _ _ _ q => q) N0 (fun T4 L4 X4 e4q N4 => ?_)
  rw [Nat.min_eq_left hN1]
  show Go _ _ _ _ _ _ _  T4 (mkF m 28 #[.val (.ref a1), .val (.int (Int32.ofNat N)), .val (.ref b2)] [(.int (Int32.ofNat cap)), (.int (0 : Int32)), (.ref b2), (.int (0 : Int32)), (.ref a1)])
  obtain ⟨T5, h5, L5, X5, e5, N5, K5, V5, st5⟩ := cpA X4 hx hZ hown (hwi hw 154 rfl) (hwi hw 108 rfl) (hwi hw 106 rfl) (hwi hw 107 rfl) e4q A_a1 (V_b2.pad (pad_rep [] (.int 0) cap)) (Or.inl ⟨rfl, rfl⟩) (by decide) (by decide) (own_onn (by omega)) (by rw [own_ocl (by omega)]; exact Nat.le_of_eq (Nat.zero_add _)) (by rw [own_ocl (by omega), own_ocl (by omega)]; exact Nat.le_trans (Nat.le_of_eq (Nat.zero_add _)) hN1) (us := (List.range cap).map fun i => bs.getD (0 + i) (.int 0)) (by rw [own_ocl (by omega)]; rfl) (by rw [own_ocl (by omega)]; simp) N4 g_b2 (g := (mkF m 28 #[.val (.ref a1), .val (.int (Int32.ofNat N)), .val (.ref b2)] [(.int (Int32.ofNat cap)), (.int (0 : Int32)), (.ref b2), (.int (0 : Int32)), (.ref a1)])) rfl (by rw [hml]; rfl) rfl (hb hby (dq dz61 15 28 rfl)) (by decide) (W := 0) (by show 2 * 0 + _ ≤ _; exact Nat.le_of_eq rfl) (by decide)
  refine Go.st st5 ?_
  have V5 := V5.pad (by rw [own_ocl (by omega)]; exact own_cp (bs := []) (d := 0) rfl hbs)
  have A_a1 := A_a1.keep K5 (ninS ne_a1_b2 nin0)
  have O := O.keep K5 (allS g_b2 all0)
  have KK := KK.trans K5 (allS (Or.inr sz_b2) all0)
  have V_b2 := V5
  show Go _ _ _ _ _ _ _  T5 (mkF m 31 #[.val (.ref a1), .val (.int (Int32.ofNat N)), .val (.ref b2)] [])
  refine Go.st (fun _ => XS.aloadN X5.here hx rfl (hb hby (dq dz61 16 31 rfl)) rfl rfl) ?_
  show Go _ _ _ _ _ _ _  T5 (mkF m 32 #[.val (.ref a1), .val (.int (Int32.ofNat N)), .val (.ref b2)] [(.ref b2)])
  refine Go.retR X5 hlk hx Bd.returns rfl rfl rfl (hb hby (dq dz61 17 32 rfl)) (by decide) (by decide) ?_
  show Q_rmCO Z _ _ _ _ _ h0 n0 _ T5.heap _
  rw [e5]
  exact ⟨_, _, rfl, N5, own_ext0 KK, sz_b2, V_b2⟩
def Q_rmI1 (Z : State) (a1 : Addr) (zc : Int32) (h0 : Heap) (n0 : Nat) (v : Option Value) (h : Heap) (L : List Loc) : Prop := v = none ∧ Fr n0 L ∧ Keep h0 h [a1] ∧ Exa Z h a1 "java/lang/StringBuilder" ∧ Fld Z h a1 "java/lang/AbstractStringBuilder" "coder" "B" (.int 0) ∧ Fld Z h a1 "java/lang/AbstractStringBuilder" "count" "I" (.int (Int32.ofNat 0)) ∧ Fld Z h a1 "java/lang/AbstractStringBuilder" "maybeLatin1" "Z" (.int 0) ∧ ∃ (b : Addr) (kb : ClassId), h0.size ≤ b ∧ Fld Z h a1 "java/lang/AbstractStringBuilder" "value" "[B" (.ref b) ∧ Arv Z h b kb .byte (Int32.ofNat 16) [] (.int 0) ∧ Exa Z h b "[B"
theorem rmI1 (l : Launch) (Z : State) (a0 : Array Value) (hw : HWt a0 Z) (ws : List Jvm.Cond) (a1 : Addr) (zc : Int32) (h0 : Heap) (n0 : Nat) (O : Old Z n0 h0) (S_COMPACT : Sta Z Z.heap "java/lang/String" "COMPACT_STRINGS" "Z" (.int zc)) (hcs : ¬ zc = 0) (E_a1 : Exa Z h0 a1 "java/lang/StringBuilder") (F_value_a1 : Fld Z h0 a1 "java/lang/AbstractStringBuilder" "value" "[B" .null) (F_coder_a1 : Fld Z h0 a1 "java/lang/AbstractStringBuilder" "coder" "B" (.int (0 : Int32))) (F_count_a1 : Fld Z h0 a1 "java/lang/AbstractStringBuilder" "count" "I" (.int (0 : Int32))) (F_maybeLatin1_a1 : Fld Z h0 a1 "java/lang/AbstractStringBuilder" "maybeLatin1" "Z" (.int (0 : Int32))) (g_a1 : n0 ≤ a1) :
    Met l mY13 (Jvm.Cond.code mY13 jdk_68_method_2_code 2 none :: ws) rz1_1_16_12 #[(.ref a1), (.int (16 : Int32))] Z h0 (Q_rmI1 Z a1 zc h0 n0) := by
  refine MetFree.of_bodySF (plainFor_of_name pn_10) hisR ?_
  intro p e s m args below meth c s₁ Bd hml0 hP hK
  obtain ⟨rfl, hZ, hh⟩ := hP
  have hx := Bd.exec
  have hby := Bd.bytes
  have hml : c.maxLocals = 2 := hml0
  have hown : s.vm.findClass "java/lang/AbstractStringBuilder" = some m.cls := findClass_of_methodNamed Bd.named
  have hlk : meth.locks = false := BodyLoose.notSynchronized Bd
  have X0 : Stand p l e rz1_1_16_12 s m #[(.ref a1), (.int (16 : Int32))] below meth c s₁ [] 0 0 := Stand.of_body Bd
  have e0 : s₁.heap = h0 := by rw [← hh, Bd.state]; rfl
  have N0 := Fr.nil n0
  have KK : Keep h0 h0 [a1] := Keep.refl h0 _
  show Go p e below s rz1_1_16_12.cells rz1_1_16_12.slots (Q_rmI1 Z a1 zc h0 n0) s₁ (entryFrame m #[(.ref a1), (.int (16 : Int32))] 2)
  refine Go.eq (ef_rmI1 m a1) ?_
  show Go _ _ _ _ _ _ _  s₁ (mkF m 0 #[.val (.ref a1), .val (.int (16 : Int32))] [])
  refine Go.st (fun _ => XS.aloadN X0.here hx rfl (hb hby (dq dz10 0 0 rfl)) rfl rfl) ?_
  show Go _ _ _ _ _ _ _  s₁ (mkF m 1 #[.val (.ref a1), .val (.int (16 : Int32))] [(.ref a1)])
  obtain ⟨T1, X1, e1, st1⟩ := initO X0 hx hZ hown (hwi hw 55 rfl) (hwi hw 16 rfl) (hwi hw 17 rfl) e0 (g := (mkF m 1 #[.val (.ref a1), .val (.int (16 : Int32))] [(.ref a1)])) rfl (by rw [hml]; rfl) rfl (hb hby (dq dz10 1 1 rfl)) (by decide) (W := 0) (by show 2 * 0 + _ ≤ _; exact Nat.le_of_eq rfl) (by decide)
  refine Go.st st1 ?_
  show Go _ _ _ _ _ _ _  T1 (mkF m 4 #[.val (.ref a1), .val (.int (16 : Int32))] [])
  obtain ⟨T2, X2, e2, st2⟩ := getS2 X1 hx hZ hown (host := "") (Or.inl (hwi hw 56 rfl)) Via.refl e1 (S_COMPACT.ext O.2) (g := (mkF m 4 #[.val (.ref a1), .val (.int (16 : Int32))] [])) rfl (hb hby (dq dz10 2 4 rfl))
  refine Go.st st2 ?_
  show Go _ _ _ _ _ _ _  T2 (mkF m 7 #[.val (.ref a1), .val (.int (16 : Int32))] [(.int zc)])
  refine Go.st (fun _ => XS.ifNo X2.here hx rfl (hb hby (dq dz10 3 7 rfl)) rfl ((if0 _ _).trans (feq (hcs : ¬ (zc = (0 : Int32)))).1)) ?_
  show Go _ _ _ _ _ _ _  T2 (mkF m 10 #[.val (.ref a1), .val (.int (16 : Int32))] [])
  refine Go.st (fun _ => XS.aloadN X2.here hx rfl (hb hby (dq dz10 4 10 rfl)) rfl rfl) ?_
  refine Go.st (fun _ => XS.iloadN X2.here hx rfl (hb hby (dq dz10 5 11 rfl)) rfl) ?_
  show Go _ _ _ _ _ _ _  T2 (mkF m 12 #[.val (.ref a1), .val (.int (16 : Int32))] [(.int (16 : Int32)), (.ref a1)])
  obtain ⟨T3, h3, k3, X3, e3, E3, A3, B3, st3⟩ := newPE X2 hx hZ (hwi hw 23 rfl) e2 (g := (mkF m 12 #[.val (.ref a1), .val (.int (16 : Int32))] [(.int (16 : Int32)), (.ref a1)])) rfl (hb hby (dq dz10 6 12 rfl)) rfl (by decide) (cap := 16) (by decide) (by decide) (by decide) (by decide) (ad := "[B") (by decide +kernel)
  obtain ⟨b3, g3⟩ : ∃ z, z = h0.size := ⟨_, rfl⟩
  rw [← g3] at A3 B3 st3
  refine Go.st st3 ?_
  have g_b3 : n0 ≤ b3 := by rw [g3]; exact own_le O
  have sz_b3 : h0.size ≤ b3 := by rw [g3]; exact KK.1
  have ne_a1_b3 : a1 ≠ b3 := Nat.ne_of_lt (by rw [g3]; exact E_a1.lt)
  have E_a1 := E_a1.ext E3
  have F_value_a1 := F_value_a1.ext E3
  have F_coder_a1 := F_coder_a1.ext E3
  have F_count_a1 := F_count_a1.ext E3
  have F_maybeLatin1_a1 := F_maybeLatin1_a1.ext E3
  have O := O.ext E3
  have KK := KK.ext E3
  have E_b3 := B3
  have V_b3 : Arv Z h3 b3 k3 .byte (16 : Int32) [(.int (0 : Int32)), (.int (0 : Int32)), (.int (0 : Int32)), (.int (0 : Int32)), (.int (0 : Int32)), (.int (0 : Int32)), (.int (0 : Int32)), (.int (0 : Int32)), (.int (0 : Int32)), (.int (0 : Int32)), (.int (0 : Int32)), (.int (0 : Int32)), (.int (0 : Int32)), (.int (0 : Int32)), (.int (0 : Int32)), (.int (0 : Int32))] (.int (0 : Int32)) := (Arv.new A3 (by decide)).pad (pad_rep [] (.int (0 : Int32)) 16)
  show Go _ _ _ _ _ _ _  T3 (mkF m 14 #[.val (.ref a1), .val (.int (16 : Int32))] [(.ref b3), (.ref a1)])
  obtain ⟨T4, h4, X4, e4, W4, st4⟩ := putF X3 hx hZ hown (host := "") (Or.inl (hwi hw 57 rfl)) Via.refl e3 F_value_a1 E_a1 (Or.inl (hwi hw 58 rfl)) (hwi hw 44 rfl) (ty := (.array .byte)) (by decide) rfl rfl (g := (mkF m 14 #[.val (.ref a1), .val (.int (16 : Int32))] [(.ref b3), (.ref a1)])) rfl rfl (hb hby (dq dz10 7 14 rfl))
  refine Go.st st4 ?_
  have F_value_a1 : Fld Z h4 a1 "java/lang/AbstractStringBuilder" "value" "[B" (.ref b3) := F_value_a1.same W4
  have N4 := Fr.snoc X4 N0 g_a1
  have E_a1 := E_a1.wr W4
  have F_coder_a1 := F_coder_a1.other W4 (Or.inr (slot_ne (Or.inl (hwi hw 60 rfl)) (Or.inl (hwi hw 58 rfl)) (by decide) (t := .byte) (t' := (.array .byte)) (by decide) (by decide)))
  have F_count_a1 := F_count_a1.other W4 (Or.inr (slot_ne (Or.inl (hwi hw 83 rfl)) (Or.inl (hwi hw 58 rfl)) (by decide) (t := .int) (t' := (.array .byte)) (by decide) (by decide)))
  have F_maybeLatin1_a1 := F_maybeLatin1_a1.other W4 (Or.inr (slot_ne (Or.inl (hwi hw 295 rfl)) (Or.inl (hwi hw 58 rfl)) (by decide) (t := .boolean) (t' := (.array .byte)) (by decide) (by decide)))
  have E_b3 := E_b3.wr W4
  have V_b3 := V_b3.other W4 (Ne.symm ne_a1_b3)
  have O := O.wr W4 g_a1
  have KK := KK.wr W4 (Or.inl (List.mem_of_getElem? (i := 0) rfl))
  show Go _ _ _ _ _ _ _  T4 (mkF m 17 #[.val (.ref a1), .val (.int (16 : Int32))] [])
  refine Go.st (fun _ => XS.aloadN X4.here hx rfl (hb hby (dq dz10 8 17 rfl)) rfl rfl) ?_
  refine Go.st (fun _ => XS.iconst X4.here hx rfl (hb hby (dq dz10 9 18 rfl))) ?_
  show Go _ _ _ _ _ _ _  T4 (mkF m 19 #[.val (.ref a1), .val (.int (16 : Int32))] [(.int (0 : Int32)), (.ref a1)])
  obtain ⟨T5, h5, X5, e5, W5, st5⟩ := putFN X4 hx hZ hown (hwi hw 59 rfl) Via.refl e4 F_coder_a1 E_a1 (Or.inl (hwi hw 60 rfl)) (hwi hw 44 rfl) (ty := .byte) (v' := .int (0 : Int32)) (by decide) rfl rfl (g := (mkF m 19 #[.val (.ref a1), .val (.int (16 : Int32))] [(.int (0 : Int32)), (.ref a1)])) rfl rfl (hb hby (dq dz10 10 19 rfl))
  refine Go.st st5 ?_
  have F_coder_a1 : Fld Z h5 a1 "java/lang/AbstractStringBuilder" "coder" "B" (.int (0 : Int32)) := F_coder_a1.same W5
  have N5 := Fr.snoc X5 N4 g_a1
  have E_a1 := E_a1.wr W5
  have F_value_a1 := F_value_a1.other W5 (Or.inr (slot_ne (Or.inl (hwi hw 58 rfl)) (Or.inl (hwi hw 60 rfl)) (by decide) (t := (.array .byte)) (t' := .byte) (by decide) (by decide)))
  have F_count_a1 := F_count_a1.other W5 (Or.inr (slot_ne (Or.inl (hwi hw 83 rfl)) (Or.inl (hwi hw 60 rfl)) (by decide) (t := .int) (t' := .byte) (by decide) (by decide)))
  have F_maybeLatin1_a1 := F_maybeLatin1_a1.other W5 (Or.inr (slot_ne (Or.inl (hwi hw 295 rfl)) (Or.inl (hwi hw 60 rfl)) (by decide) (t := .boolean) (t' := .byte) (by decide) (by decide)))
  have E_b3 := E_b3.wr W5
  have V_b3 := V_b3.other W5 (Ne.symm ne_a1_b3)
  have O := O.wr W5 g_a1
  have KK := KK.wr W5 (Or.inl (List.mem_of_getElem? (i := 0) rfl))
  show Go _ _ _ _ _ _ _  T5 (mkF m 22 #[.val (.ref a1), .val (.int (16 : Int32))] [])
  refine Go.st (fun _ => XS.goto X5.here hx rfl (pc0 := 22) (pc' := 38) rfl (hb hby (dq dz10 11 22 rfl)) (by decide) (by decide)) ?_
  show Go _ _ _ _ _ _ _  T5 (mkF m 38 #[.val (.ref a1), .val (.int (16 : Int32))] [])
  refine Go.ret0 X5 hlk hx Bd.returns (hb hby (dq dz10 12 38 rfl)) (by decide) (by decide) ?_
  show Q_rmI1 Z _ _ h0 n0 _ T5.heap _
  rw [e5]
  exact ⟨rfl, N5, KK, E_a1, F_coder_a1, F_count_a1, F_maybeLatin1_a1, b3, _, sz_b3, F_value_a1, V_b3.pad (fun i => (pad_rep [] (.int 0) 16 i).symm), E_b3⟩
def Q_rmI0 (Z : State) (a1 : Addr) (zc : Int32) (h0 : Heap) (n0 : Nat) (v : Option Value) (h : Heap) (L : List Loc) : Prop := v = none ∧ Fr n0 L ∧ Keep h0 h [a1] ∧ Exa Z h a1 "java/lang/StringBuilder" ∧ Fld Z h a1 "java/lang/AbstractStringBuilder" "coder" "B" (.int 0) ∧ Fld Z h a1 "java/lang/AbstractStringBuilder" "count" "I" (.int (Int32.ofNat 0)) ∧ Fld Z h a1 "java/lang/AbstractStringBuilder" "maybeLatin1" "Z" (.int 0) ∧ ∃ (b : Addr) (kb : ClassId), h0.size ≤ b ∧ Fld Z h a1 "java/lang/AbstractStringBuilder" "value" "[B" (.ref b) ∧ Arv Z h b kb .byte (Int32.ofNat 16) [] (.int 0) ∧ Exa Z h b "[B"
theorem rmI0 (l : Launch) (Z : State) (a0 : Array Value) (hw : HWt a0 Z) (ws : List Jvm.Cond) (a1 : Addr) (zc : Int32) (h0 : Heap) (n0 : Nat) (O : Old Z n0 h0) (S_COMPACT : Sta Z Z.heap "java/lang/String" "COMPACT_STRINGS" "Z" (.int zc)) (hcs : ¬ zc = 0) (E_a1 : Exa Z h0 a1 "java/lang/StringBuilder") (F_value_a1 : Fld Z h0 a1 "java/lang/AbstractStringBuilder" "value" "[B" .null) (F_coder_a1 : Fld Z h0 a1 "java/lang/AbstractStringBuilder" "coder" "B" (.int (0 : Int32))) (F_count_a1 : Fld Z h0 a1 "java/lang/AbstractStringBuilder" "count" "I" (.int (0 : Int32))) (F_maybeLatin1_a1 : Fld Z h0 a1 "java/lang/AbstractStringBuilder" "maybeLatin1" "Z" (.int (0 : Int32))) (g_a1 : n0 ≤ a1) :
    Met l mY14 (Jvm.Cond.code mY14 jdk_67_method_1_code 1 none :: ws) rz2_1_16_25 #[(.ref a1)] Z h0 (Q_rmI0 Z a1 zc h0 n0) := by
  refine MetFree.of_bodySF (plainFor_of_name pn_9) hisR ?_
  intro p e s m args below meth c s₁ Bd hml0 hP hK
  obtain ⟨rfl, hZ, hh⟩ := hP
  have hx := Bd.exec
  have hby := Bd.bytes
  have hml : c.maxLocals = 1 := hml0
  have hown : s.vm.findClass "java/lang/StringBuilder" = some m.cls := findClass_of_methodNamed Bd.named
  have hlk : meth.locks = false := BodyLoose.notSynchronized Bd
  have X0 : Stand p l e rz2_1_16_25 s m #[(.ref a1)] below meth c s₁ [] 0 0 := Stand.of_body Bd
  have e0 : s₁.heap = h0 := by rw [← hh, Bd.state]; rfl
  have N0 := Fr.nil n0
  have KK : Keep h0 h0 [a1] := Keep.refl h0 _
  show Go p e below s rz2_1_16_25.cells rz2_1_16_25.slots (Q_rmI0 Z a1 zc h0 n0) s₁ (entryFrame m #[(.ref a1)] 1)
  refine Go.eq (ef_rmI0 m a1) ?_
  show Go _ _ _ _ _ _ _  s₁ (mkF m 0 #[.val (.ref a1)] [])
  refine Go.st (fun _ => XS.aloadN X0.here hx rfl (hb hby (dq dz9 0 0 rfl)) rfl rfl) ?_
  refine Go.st (fun _ => XS.bipush X0.here hx rfl (hb hby (dq dz9 1 1 rfl))) ?_
  show Go _ _ _ _ _ _ _  s₁ (mkF m 3 #[.val (.ref a1)] [(.int (16 : Int32)), (.ref a1)])
  obtain ⟨_, _, ⟨T1, L1, k1, n1⟩, -, X1, ⟨Lc1, hQ1, l1, y1, z1⟩, st1⟩ := X0.specialBack hx (y := mY13) rfl hown (mvT hZ (hwi hw 49 rfl)) (mvT hZ (hwi hw 50 rfl)) (mvT hZ (hwi hw 54 rfl)) (by decide) (backOf (W := 0) (rmI1 l Z a0 hw [] a1 zc h0 n0 O S_COMPACT hcs E_a1 F_value_a1 F_coder_a1 F_count_a1 F_maybeLatin1_a1 g_a1) hZ (hwi hw 54 rfl) (hwi hw 53 rfl) (by decide) (by decide)) (g := (mkF m 3 #[.val (.ref a1)] [(.int (16 : Int32)), (.ref a1)])) rfl (by rw [hml]; rfl) (Steps.refl _) (a := a1) (argsL := [(.int (16 : Int32))]) (rest := []) (lenOf pd__I_V rfl) rfl (by show 2 * 0 + _ ≤ _; exact Nat.le_of_eq rfl) (hb hby (dq dz9 2 3 rfl)) (fun _ _ => ⟨rfl, e0, (by decide : 0 + 1 ≤ _), (by decide : 0 + 16 ≤ _)⟩)
  dsimp only [Pt.U, Pt.locs, Pt.cells, Pt.slots] at X1 l1 y1 z1 st1 hQ1
  rw [l1, y1, z1] at X1
  have X1 : Stand p l e _ _ m _ below meth c T1 _ 1 16 := X1
  obtain ⟨rfl, N1q, K1q, Q1⟩ := hQ1
  have N1 := Fr.app N0 N1q
  refine Go.tr st1 ?_
  have E_a1 := E_a1.keep K1q
  have O := O.keep K1q (allS g_a1 all0)
  have KK := KK.trans K1q (allS (Or.inl (List.mem_of_getElem? (i := 0) rfl)) all0)
  show Go _ _ _ _ _ _ _  T1 (mkF m 6 #[.val (.ref a1)] [])
  refine Go.ret0 X1 hlk hx Bd.returns (hb hby (dq dz9 3 6 rfl)) (by decide) (by decide) ?_
  show Q_rmI0 Z _ _ h0 n0 _ T1.heap _
  exact ⟨rfl, N1, KK, Q1⟩
def Q_rmGV (Z : State) (a1 : Addr) (t : Addr) (h0 : Heap) (n0 : Nat) (v : Option Value) (h : Heap) (L : List Loc) : Prop := v = some (.ref t) ∧ Fr n0 L ∧ h = h0
theorem rmGV (l : Launch) (Z : State) (a0 : Array Value) (hw : HWt a0 Z) (ws : List Jvm.Cond) (a1 : Addr) (t : Addr) (h0 : Heap) (n0 : Nat) (O : Old Z n0 h0) (V_a1 : Fld Z h0 a1 "java/lang/AbstractStringBuilder" "value" "[B" (.ref t)) :
    Met l mY15 (Jvm.Cond.code mY15 jdk_68_method_64_code 1 (some (.array .byte)) :: ws) rz0_0_0_0 #[(.ref a1)] Z h0 (Q_rmGV Z a1 t h0 n0) := by
  refine MetFree.of_bodySF (plainFor_of_name pn_22) hisR ?_
  intro p e s m args below meth c s₁ Bd hml0 hP hK
  obtain ⟨rfl, hZ, hh⟩ := hP
  have hx := Bd.exec
  have hby := Bd.bytes
  have hml : c.maxLocals = 1 := hml0
  have hown : s.vm.findClass "java/lang/AbstractStringBuilder" = some m.cls := findClass_of_methodNamed Bd.named
  have hlk : meth.locks = false := BodyLoose.notSynchronized Bd
  have X0 : Stand p l e rz0_0_0_0 s m #[(.ref a1)] below meth c s₁ [] 0 0 := Stand.of_body Bd
  have e0 : s₁.heap = h0 := by rw [← hh, Bd.state]; rfl
  have N0 := Fr.nil n0
  show Go p e below s rz0_0_0_0.cells rz0_0_0_0.slots (Q_rmGV Z a1 t h0 n0) s₁ (entryFrame m #[(.ref a1)] 1)
  refine Go.eq (ef_rmGV m a1) ?_
  show Go _ _ _ _ _ _ _  s₁ (mkF m 0 #[.val (.ref a1)] [])
  refine Go.st (fun _ => XS.aloadN X0.here hx rfl (hb hby (dq dz22 0 0 rfl)) rfl rfl) ?_
  show Go _ _ _ _ _ _ _  s₁ (mkF m 1 #[.val (.ref a1)] [(.ref a1)])
  obtain ⟨T1, X1, e1, st1⟩ := getF X0 hx hZ hown (host := "") (Or.inl (hwi hw 57 rfl)) Via.refl e0 V_a1 (g := (mkF m 1 #[.val (.ref a1)] [(.ref a1)])) rfl rfl (hb hby (dq dz22 1 1 rfl))
  refine Go.st st1 ?_
  show Go _ _ _ _ _ _ _  T1 (mkF m 4 #[.val (.ref a1)] [(.ref t)])
  refine Go.retR X1 hlk hx Bd.returns rfl rfl rfl (hb hby (dq dz22 2 4 rfl)) (by decide) (by decide) ?_
  show Q_rmGV Z _ _ h0 n0 _ T1.heap _
  rw [e1]
  exact ⟨rfl, N0, rfl⟩
def Q_rmAL (Z : State) (a1 : Addr) (z : Int32) (h0 : Heap) (n0 : Nat) (v : Option Value) (h : Heap) (L : List Loc) : Prop := v = some (.int z) ∧ Fr n0 L ∧ h = h0
theorem rmAL (l : Launch) (Z : State) (a0 : Array Value) (hw : HWt a0 Z) (ws : List Jvm.Cond) (a1 : Addr) (z : Int32) (h0 : Heap) (n0 : Nat) (O : Old Z n0 h0) (N_a1 : Fld Z h0 a1 "java/lang/AbstractStringBuilder" "count" "I" (.int z)) :
    Met l mY16 (Jvm.Cond.code mY16 jdk_68_method_6_code 1 (some .int) :: ws) rz0_0_0_0 #[(.ref a1)] Z h0 (Q_rmAL Z a1 z h0 n0) := by
  refine MetFree.of_bodySF (plainFor_of_name pn_24) hisR ?_
  intro p e s m args below meth c s₁ Bd hml0 hP hK
  obtain ⟨rfl, hZ, hh⟩ := hP
  have hx := Bd.exec
  have hby := Bd.bytes
  have hml : c.maxLocals = 1 := hml0
  have hown : s.vm.findClass "java/lang/AbstractStringBuilder" = some m.cls := findClass_of_methodNamed Bd.named
  have hlk : meth.locks = false := BodyLoose.notSynchronized Bd
  have X0 : Stand p l e rz0_0_0_0 s m #[(.ref a1)] below meth c s₁ [] 0 0 := Stand.of_body Bd
  have e0 : s₁.heap = h0 := by rw [← hh, Bd.state]; rfl
  have N0 := Fr.nil n0
  show Go p e below s rz0_0_0_0.cells rz0_0_0_0.slots (Q_rmAL Z a1 z h0 n0) s₁ (entryFrame m #[(.ref a1)] 1)
  refine Go.eq (ef_rmAL m a1) ?_
  show Go _ _ _ _ _ _ _  s₁ (mkF m 0 #[.val (.ref a1)] [])
  refine Go.st (fun _ => XS.aloadN X0.here hx rfl (hb hby (dq dz24 0 0 rfl)) rfl rfl) ?_
  show Go _ _ _ _ _ _ _  s₁ (mkF m 1 #[.val (.ref a1)] [(.ref a1)])
  obtain ⟨T1, X1, e1, st1⟩ := getF X0 hx hZ hown (host := "") (Or.inl (hwi hw 82 rfl)) Via.refl e0 N_a1 (g := (mkF m 1 #[.val (.ref a1)] [(.ref a1)])) rfl rfl (hb hby (dq dz24 1 1 rfl))
  refine Go.st st1 ?_
  show Go _ _ _ _ _ _ _  T1 (mkF m 4 #[.val (.ref a1)] [(.int z)])
  refine Go.retI X1 hlk hx Bd.returns (hb hby (dq dz24 2 4 rfl)) (by decide) (by decide) ?_
  show Q_rmAL Z _ _ h0 n0 _ T1.heap _
  rw [e1]
  exact ⟨rfl, N0, rfl⟩
def Q_rmSL (Z : State) (a1 : Addr) (z : Int32) (h0 : Heap) (n0 : Nat) (v : Option Value) (h : Heap) (L : List Loc) : Prop := v = some (.int z) ∧ Fr n0 L ∧ h = h0
theorem rmSL (l : Launch) (Z : State) (a0 : Array Value) (hw : HWt a0 Z) (ws : List Jvm.Cond) (a1 : Addr) (z : Int32) (h0 : Heap) (n0 : Nat) (O : Old Z n0 h0) (E_a1 : Exa Z h0 a1 "java/lang/StringBuilder") (N_a1 : Fld Z h0 a1 "java/lang/AbstractStringBuilder" "count" "I" (.int z)) :
    Met l mY17 (Jvm.Cond.code mY17 jdk_67_method_93_code 1 (some .int) :: ws) rz1_0_0_12 #[(.ref a1)] Z h0 (Q_rmSL Z a1 z h0 n0) := by
  refine MetFree.of_bodySF (plainFor_of_name pn_23) hisR ?_
  intro p e s m args below meth c s₁ Bd hml0 hP hK
  obtain ⟨rfl, hZ, hh⟩ := hP
  have hx := Bd.exec
  have hby := Bd.bytes
  have hml : c.maxLocals = 1 := hml0
  have hown : s.vm.findClass "java/lang/StringBuilder" = some m.cls := findClass_of_methodNamed Bd.named
  have hlk : meth.locks = false := BodyLoose.notSynchronized Bd
  have X0 : Stand p l e rz1_0_0_12 s m #[(.ref a1)] below meth c s₁ [] 0 0 := Stand.of_body Bd
  have e0 : s₁.heap = h0 := by rw [← hh, Bd.state]; rfl
  have N0 := Fr.nil n0
  show Go p e below s rz1_0_0_12.cells rz1_0_0_12.slots (Q_rmSL Z a1 z h0 n0) s₁ (entryFrame m #[(.ref a1)] 1)
  refine Go.eq (ef_rmSL m a1) ?_
  show Go _ _ _ _ _ _ _  s₁ (mkF m 0 #[.val (.ref a1)] [])
  refine Go.st (fun _ => XS.aloadN X0.here hx rfl (hb hby (dq dz23 0 0 rfl)) rfl rfl) ?_
  show Go _ _ _ _ _ _ _  s₁ (mkF m 1 #[.val (.ref a1)] [(.ref a1)])
  refine Go.pure (w := (some (.int z))) (rest := []) (pc' := 4) (superBack X0 hx hZ (y := mY16) hown (hwi hw 133 rfl) (own_same (hwi hw 128 rfl) (hwi hw 87 rfl) rfl (by decide)) (hwi hw 129 rfl) (hwi hw 69 rfl) (by decide) (backOf (W := 0) (rmAL l Z a0 hw [] a1 z h0 n0 O N_a1) hZ (hwi hw 134 rfl) (hwi hw 53 rfl) (by decide) (by decide)) e0 (Ins.self E_a1) (g := (mkF m 1 #[.val (.ref a1)] [(.ref a1)])) rfl (by rw [hml]; rfl) (hwi hw 134 rfl) (argsL := []) (rest := []) (lenOf pd___I rfl) rfl (by show 2 * 0 + _ ≤ _; exact Nat.le_of_eq rfl) (hb hby (dq dz23 1 1 rfl)) (fun _ _ => ⟨rfl, e0, (by decide : 0 + 0 ≤ _), (by decide : 0 + 0 ≤ _)⟩)) (fun _ _ _ q => q) N0 (fun T1 L1 X1 e1q N1 => ?_)
  show Go _ _ _ _ _ _ _  T1 (mkF m 4 #[.val (.ref a1)] [(.int z)])
  refine Go.retI X1 hlk hx Bd.returns (hb hby (dq dz23 2 4 rfl)) (by decide) (by decide) ?_
  show Q_rmSL Z _ _ h0 n0 _ T1.heap _
  rw [e1q]
  exact ⟨rfl, N1, rfl⟩
def Q_rmCL (Z : State) (n : Nat) (h0 : Heap) (n0 : Nat) (v : Option Value) (h : Heap) (L : List Loc) : Prop := v = none ∧ Fr n0 L ∧ h = h0
theorem rmCL (l : Launch) (Z : State) (a0 : Array Value) (hw : HWt a0 Z) (ws : List Jvm.Cond) (n : Nat) (h0 : Heap) (n0 : Nat) (O : Old Z n0 h0) (hn : n < 100000) :
    Met l mY19 (Jvm.Cond.code mY19 jdk_65_method_131_code 2 none :: ws) rz0_0_0_0 #[(.int (0 : Int32)), (.int (Int32.ofNat n))] Z h0 (Q_rmCL Z n h0 n0) := by
  refine MetFree.of_bodySF (plainFor_of_name pn_28) hisR ?_
  intro p e s m args below meth c s₁ Bd hml0 hP hK
  obtain ⟨rfl, hZ, hh⟩ := hP
  have hx := Bd.exec
  have hby := Bd.bytes
  have hml : c.maxLocals = 2 := hml0
  have hlk : meth.locks = false := BodyLoose.notSynchronized Bd
  have X0 : Stand p l e rz0_0_0_0 s m #[(.int (0 : Int32)), (.int (Int32.ofNat n))] below meth c s₁ [] 0 0 := Stand.of_body Bd
  have e0 : s₁.heap = h0 := by rw [← hh, Bd.state]; rfl
  have N0 := Fr.nil n0
  show Go p e below s rz0_0_0_0.cells rz0_0_0_0.slots (Q_rmCL Z n h0 n0) s₁ (entryFrame m #[(.int (0 : Int32)), (.int (Int32.ofNat n))] 2)
  refine Go.eq (ef_rmCL m (0 : Int32) (Int32.ofNat n)) ?_
  show Go _ _ _ _ _ _ _  s₁ (mkF m 0 #[.val (.int (0 : Int32)), .val (.int (Int32.ofNat n))] [])
  refine Go.st (fun _ => XS.iloadN X0.here hx rfl (hb hby (dq dz28 0 0 rfl)) rfl) ?_
  refine Go.st (fun _ => XS.iloadN X0.here hx rfl (hb hby (dq dz28 1 1 rfl)) rfl) ?_
  show Go _ _ _ _ _ _ _  s₁ (mkF m 2 #[.val (.int (0 : Int32)), .val (.int (Int32.ofNat n))] [(.int (0 : Int32)), (.int (Int32.ofNat n))])
  refine Go.st (fun _ => XS.icmpYes X0.here hx rfl (pc0 := 2) (pc' := 37) rfl (hb hby (dq dz28 2 2 rfl)) rfl (flt (own_onn (by omega) : ¬ ((Int32.ofNat n) < (0 : Int32)))).2.1 (by decide) (by decide)) ?_
  show Go _ _ _ _ _ _ _  s₁ (mkF m 37 #[.val (.int (0 : Int32)), .val (.int (Int32.ofNat n))] [])
  refine Go.ret0 X0 hlk hx Bd.returns (hb hby (dq dz28 3 37 rfl)) (by decide) (by decide) ?_
  show Q_rmCL Z _ h0 n0 _ s₁.heap _
  rw [e0]
  exact ⟨rfl, N0, rfl⟩
def Q_rmCRB (Z : State) (a1 : Addr) (n : Nat) (kd : ClassId) (cap : Nat) (bs : List Value) (h0 : Heap) (n0 : Nat) (v : Option Value) (h : Heap) (L : List Loc) : Prop := ∃ (b : Addr) (kb : ClassId), v = some (.ref b) ∧ Fr n0 L ∧ Ext h0 h ∧ h0.size ≤ b ∧ Arv Z h b kb .byte (Int32.ofNat n) bs (.int 0)
theorem rmCRB (l : Launch) (Z : State) (a0 : Array Value) (hw : HWt a0 Z) (ws : List Jvm.Cond) (a1 : Addr) (n : Nat) (kd : ClassId) (cap : Nat) (bs : List Value) (h0 : Heap) (n0 : Nat) (O : Old Z n0 h0) (A_a1 : Arv Z h0 a1 kd .byte (Int32.ofNat cap) bs (.int 0)) (hbs : bs.length = n) (hN1 : n < cap) (hN2 : cap < 100000) (hN3 : n ≤ 128) :
    Met l mY20 (Jvm.Cond.code mY20 jdk_65_method_133_code 5 (some (.array .byte)) :: ws) rz1_1_128_18 #[(.ref a1), (.int (0 : Int32)), (.int (Int32.ofNat n))] Z h0 (Q_rmCRB Z a1 n kd cap bs h0 n0) := by
  refine MetFree.of_bodySF (plainFor_of_name pn_27) hisR ?_
  intro p e s m args below meth c s₁ Bd hml0 hP hK
  obtain ⟨rfl, hZ, hh⟩ := hP
  have hx := Bd.exec
  have hby := Bd.bytes
  have hml : c.maxLocals = 5 := hml0
  have hown : s.vm.findClass "java/util/Arrays" = some m.cls := findClass_of_methodNamed Bd.named
  have hlk : meth.locks = false := BodyLoose.notSynchronized Bd
  have X0 : Stand p l e rz1_1_128_18 s m #[(.ref a1), (.int (0 : Int32)), (.int (Int32.ofNat n))] below meth c s₁ [] 0 0 := Stand.of_body Bd
  have e0 : s₁.heap = h0 := by rw [← hh, Bd.state]; rfl
  have N0 := Fr.nil n0
  have KK : Keep h0 h0 [] := Keep.refl h0 _
  show Go p e below s rz1_1_128_18.cells rz1_1_128_18.slots (Q_rmCRB Z a1 n kd cap bs h0 n0) s₁ (entryFrame m #[(.ref a1), (.int (0 : Int32)), (.int (Int32.ofNat n))] 5)
  refine Go.eq (ef_rmCRB m a1 (0 : Int32) (Int32.ofNat n)) ?_
  show Go _ _ _ _ _ _ _  s₁ (mkF m 0 #[.val (.ref a1), .val (.int (0 : Int32)), .val (.int (Int32.ofNat n)), .unset, .unset] [])
  refine Go.st (fun _ => XS.iloadN X0.here hx rfl (hb hby (dq dz27 0 0 rfl)) rfl) ?_
  refine Go.st (fun _ => XS.iloadN X0.here hx rfl (hb hby (dq dz27 1 1 rfl)) rfl) ?_
  show Go _ _ _ _ _ _ _  s₁ (mkF m 2 #[.val (.ref a1), .val (.int (0 : Int32)), .val (.int (Int32.ofNat n)), .unset, .unset] [(.int (Int32.ofNat n)), (.int (0 : Int32))])
  refine Go.pureS (w := none) (rest := []) (pc' := 5) (Jvm.LawKit.callS X0 hx (y := mY19) hown (mvT hZ (hwi hw 147 rfl)) (mvT hZ (hwi hw 148 rfl)) (mvT hZ (hwi hw 142 rfl)) (mvT hZ (hwi hw 149 rfl)) (by decide) (backOf (W := 0) (rmCL l Z a0 hw [] n h0 n0 O (by omega)) hZ (hwi hw 149 rfl) (hwi hw 142 rfl) (by decide) (by decide)) (g := (mkF m 2 #[.val (.ref a1), .val (.int (0 : Int32)), .val (.int (Int32.ofNat n)), .unset, .unset] [(.int (Int32.ofNat n)), (.int (0 : Int32))])) rfl (by rw [hml]; rfl) (argsL := [(.int (0 : Int32)), (.int (Int32.ofNat n))]) (rest := []) (lenOf pd__II_V rfl) rfl (by show 2 * 0 + _ ≤ _; exact Nat.le_of_eq rfl) (hb hby (dq dz27 2 2 rfl)) (fun _ _ => ⟨rfl, e0, (by decide : 0 + 0 ≤ _), (by decide : 0 + 0 ≤ _)⟩)) (fun _ _ _ q => q) N0 (fun T1 L1 X1 e1q N1 => ?_)
  show Go _ _ _ _ _ _ _  T1 (mkF m 5 #[.val (.ref a1), .val (.int (0 : Int32)), .val (.int (Int32.ofNat n)), .unset, .unset] [])
  refine Go.st (fun _ => XS.iloadN X1.here hx rfl (hb hby (dq dz27 3 5 rfl)) rfl) ?_
  refine Go.st (fun _ => XS.iloadN X1.here hx rfl (hb hby (dq dz27 4 6 rfl)) rfl) ?_
  refine Go.st (fun _ => XS.isub X1.here hx rfl (hb hby (dq dz27 5 7 rfl)) rfl) ?_
  show Go _ _ _ _ _ _ _  T1 (mkF m 8 #[.val (.ref a1), .val (.int (0 : Int32)), .val (.int (Int32.ofNat n)), .unset, .unset] [(.int ((Int32.ofNat n) - (0 : Int32)))])
  rw [Int32.sub_zero]
  refine Go.st (fun _ => XS.istoreN X1.here hx rfl (hb hby (dq dz27 6 8 rfl)) rfl (l' := #[.val (.ref a1), .val (.int (0 : Int32)), .val (.int (Int32.ofNat n)), .val (.int (Int32.ofNat n)), .unset]) rfl) ?_
  refine Go.st (fun _ => XS.iloadN X1.here hx rfl (hb hby (dq dz27 7 9 rfl)) rfl) ?_
  show Go _ _ _ _ _ _ _  T1 (mkF m 10 #[.val (.ref a1), .val (.int (0 : Int32)), .val (.int (Int32.ofNat n)), .val (.int (Int32.ofNat n)), .unset] [(.int (Int32.ofNat n))])
  obtain ⟨T2, h2, k2, X2, e2, E2, A2, st2⟩ := newP X1 hx hZ (hwi hw 23 rfl) e1q (g := (mkF m 10 #[.val (.ref a1), .val (.int (0 : Int32)), .val (.int (Int32.ofNat n)), .val (.int (Int32.ofNat n)), .unset] [(.int (Int32.ofNat n))])) rfl (hb hby (dq dz27 8 10 rfl)) rfl (own_onn (by omega)) (cap := 128) (by rw [own_ocl (by omega)]; omega) (by decide) (by decide) (by decide)
  obtain ⟨b2, g2⟩ : ∃ z, z = h0.size := ⟨_, rfl⟩
  rw [← g2] at A2 st2
  refine Go.st st2 ?_
  have g_b2 : n0 ≤ b2 := by rw [g2]; exact own_le O
  have sz_b2 : h0.size ≤ b2 := by rw [g2]; exact KK.1
  have ne_a1_b2 : a1 ≠ b2 := Nat.ne_of_lt (by rw [g2]; exact A_a1.lt)
  have A_a1 := A_a1.ext E2
  have O := O.ext E2
  have KK := KK.ext E2
  have V_b2 := Arv.new A2 (own_onn (by omega))
  show Go _ _ _ _ _ _ _  T2 (mkF m 12 #[.val (.ref a1), .val (.int (0 : Int32)), .val (.int (Int32.ofNat n)), .val (.int (Int32.ofNat n)), .unset] [(.ref b2)])
  refine Go.st (fun _ => XS.astore X2.here hx rfl (hb hby (dq dz27 9 12 rfl)) rfl rfl (l' := #[.val (.ref a1), .val (.int (0 : Int32)), .val (.int (Int32.ofNat n)), .val (.int (Int32.ofNat n)), .val (.ref b2)]) rfl) ?_
  refine Go.st (fun _ => XS.aloadN X2.here hx rfl (hb hby (dq dz27 10 14 rfl)) rfl rfl) ?_
  refine Go.st (fun _ => XS.iloadN X2.here hx rfl (hb hby (dq dz27 11 15 rfl)) rfl) ?_
  refine Go.st (fun _ => XS.aload X2.here hx rfl (hb hby (dq dz27 12 16 rfl)) rfl rfl) ?_
  refine Go.st (fun _ => XS.iconst X2.here hx rfl (hb hby (dq dz27 13 18 rfl))) ?_
  refine Go.st (fun _ => XS.aloadN X2.here hx rfl (hb hby (dq dz27 14 19 rfl)) rfl rfl) ?_
  show Go _ _ _ _ _ _ _  T2 (mkF m 20 #[.val (.ref a1), .val (.int (0 : Int32)), .val (.int (Int32.ofNat n)), .val (.int (Int32.ofNat n)), .val (.ref b2)] [(.ref a1), (.int (0 : Int32)), (.ref b2), (.int (0 : Int32)), (.ref a1)])
  obtain ⟨cl3, Ar3, q3, S3, M3, Hh3, G3⟩ := id A_a1
  refine Go.st (X2.arraylength hx (by rw [e2]; exact Ar3.1) (State.isArrayOf_alike hZ.alike Ar3.2.1) (g := (mkF m 20 #[.val (.ref a1), .val (.int (0 : Int32)), .val (.int (Int32.ofNat n)), .val (.int (Int32.ofNat n)), .val (.ref b2)] [(.ref a1), (.int (0 : Int32)), (.ref b2), (.int (0 : Int32)), (.ref a1)])) rfl rfl (hb hby (dq dz27 15 20 rfl))) ?_
  rw [len_of S3 M3]
  show Go _ _ _ _ _ _ _  T2 (mkF m 21 #[.val (.ref a1), .val (.int (0 : Int32)), .val (.int (Int32.ofNat n)), .val (.int (Int32.ofNat n)), .val (.ref b2)] [(.int (Int32.ofNat cap)), (.int (0 : Int32)), (.ref b2), (.int (0 : Int32)), (.ref a1)])
  refine Go.st (fun _ => XS.iloadN X2.here hx rfl (hb hby (dq dz27 16 21 rfl)) rfl) ?_
  refine Go.st (fun _ => XS.isub X2.here hx rfl (hb hby (dq dz27 17 22 rfl)) rfl) ?_
  show Go _ _ _ _ _ _ _  T2 (mkF m 23 #[.val (.ref a1), .val (.int (0 : Int32)), .val (.int (Int32.ofNat n)), .val (.int (Int32.ofNat n)), .val (.ref b2)] [(.int ((Int32.ofNat cap) - (0 : Int32))), (.int (0 : Int32)), (.ref b2), (.int (0 : Int32)), (.ref a1)])
  rw [Int32.sub_zero]
  refine Go.st (fun _ => XS.iloadN X2.here hx rfl (hb hby (dq dz27 18 23 rfl)) rfl) ?_
  show Go _ _ _ _ _ _ _  T2 (mkF m 24 #[.val (.ref a1), .val (.int (0 : Int32)), .val (.int (Int32.ofNat n)), .val (.int (Int32.ofNat n)), .val (.ref b2)] [(.int (Int32.ofNat n)), (.int (Int32.ofNat cap)), (.int (0 : Int32)), (.ref b2), (.int (0 : Int32)), (.ref a1)])
  refine Go.pureS (w := (some (.int (Int32.ofNat (min cap n))))) (rest := [(.int (0 : Int32)), (.ref b2), (.int (0 : Int32)), (.ref a1)]) (pc' := 27) (Jvm.LawKit.callS X2 hx (y := mY6) hown (mvT hZ (hwi hw 150 rfl)) (mvT hZ (hwi hw 151 rfl)) (mvT hZ (hwi hw 152 rfl)) (mvT hZ (hwi hw 153 rfl)) (by decide) (backOf (W := 4) (rmMin l Z a0 hw [] cap n h2 n0 O (by omega) (by omega)) hZ (hwi hw 153 rfl) (hwi hw 152 rfl) (by decide) (by decide)) (g := (mkF m 24 #[.val (.ref a1), .val (.int (0 : Int32)), .val (.int (Int32.ofNat n)), .val (.int (Int32.ofNat n)), .val (.ref b2)] [(.int (Int32.ofNat n)), (.int (Int32.ofNat cap)), (.int (0 : Int32)), (.ref b2), (.int (0 : Int32)), (.ref a1)])) rfl (by rw [hml]; rfl) (argsL := [(.int (Int32.ofNat cap)), (.int (Int32.ofNat n))]) (rest := [(.int (0 : Int32)), (.ref b2), (.int (0 : Int32)), (.ref a1)]) (lenOf pd__II_I rfl) rfl (by show 2 * 0 + _ ≤ _; exact Nat.le_of_eq rfl) (hb hby (dq dz27 19 24 rfl)) (fun _ _ => ⟨rfl, e2, (by decide : 1 + 0 ≤ _), (by decide : 128 + 0 ≤ _)⟩)) (fun _ _ _ q => q) N1 (fun T4 L4 X4 e4q N4 => ?_)
  rw [Nat.min_eq_right (Nat.le_of_lt hN1)]
  show Go _ _ _ _ _ _ _  T4 (mkF m 27 #[.val (.ref a1), .val (.int (0 : Int32)), .val (.int (Int32.ofNat n)), .val (.int (Int32.ofNat n)), .val (.ref b2)] [(.int (Int32.ofNat n)), (.int (0 : Int32)), (.ref b2), (.int (0 : Int32)), (.ref a1)])
  obtain ⟨T5, h5, L5, X5, e5, N5, K5, V5, st5⟩ := cpA X4 hx hZ hown (hwi hw 154 rfl) (hwi hw 108 rfl) (hwi hw 106 rfl) (hwi hw 107 rfl) e4q A_a1 (V_b2.pad (pad_rep [] (.int 0) n)) (Or.inl ⟨rfl, rfl⟩) (by decide) (by decide) (own_onn (by omega)) (by rw [own_ocl (by omega), own_ocl (by omega)]; show 0 + n ≤ cap; omega) (by rw [own_ocl (by omega)]; exact Nat.le_of_eq (Nat.zero_add _)) (us := (List.range n).map fun i => bs.getD (0 + i) (.int 0)) (by rw [own_ocl (by omega)]; rfl) (by rw [own_ocl (by omega)]; simp) N4 g_b2 (g := (mkF m 27 #[.val (.ref a1), .val (.int (0 : Int32)), .val (.int (Int32.ofNat n)), .val (.int (Int32.ofNat n)), .val (.ref b2)] [(.int (Int32.ofNat n)), (.int (0 : Int32)), (.ref b2), (.int (0 : Int32)), (.ref a1)])) rfl (by rw [hml]; rfl) rfl (hb hby (dq dz27 20 27 rfl)) (by decide) (W := 0) (by show 2 * 0 + _ ≤ _; exact Nat.le_of_eq rfl) (by decide)
  refine Go.st st5 ?_
  have V5 := V5.pad (by rw [own_ocl (by omega)]; exact own_cp (bs := []) (d := 0) rfl (Nat.le_of_eq hbs))
  have A_a1 := A_a1.keep K5 (ninS ne_a1_b2 nin0)
  have O := O.keep K5 (allS g_b2 all0)
  have KK := KK.trans K5 (allS (Or.inr sz_b2) all0)
  have V_b2 := V5
  show Go _ _ _ _ _ _ _  T5 (mkF m 30 #[.val (.ref a1), .val (.int (0 : Int32)), .val (.int (Int32.ofNat n)), .val (.int (Int32.ofNat n)), .val (.ref b2)] [])
  refine Go.st (fun _ => XS.aload X5.here hx rfl (hb hby (dq dz27 21 30 rfl)) rfl rfl) ?_
  show Go _ _ _ _ _ _ _  T5 (mkF m 32 #[.val (.ref a1), .val (.int (0 : Int32)), .val (.int (Int32.ofNat n)), .val (.int (Int32.ofNat n)), .val (.ref b2)] [(.ref b2)])
  refine Go.retR X5 hlk hx Bd.returns rfl rfl rfl (hb hby (dq dz27 22 32 rfl)) (by decide) (by decide) ?_
  show Q_rmCRB Z _ _ _ _ _ h0 n0 _ T5.heap _
  rw [e5]
  exact ⟨_, _, rfl, N5, own_ext0 KK, sz_b2, V_b2⟩
def Q_rmCR (Z : State) (a1 : Addr) (n : Nat) (kd : ClassId) (cap : Nat) (bs : List Value) (h0 : Heap) (n0 : Nat) (v : Option Value) (h : Heap) (L : List Loc) : Prop := ∃ (b : Addr) (kb : ClassId), v = some (.ref b) ∧ Fr n0 L ∧ Ext h0 h ∧ h0.size ≤ b ∧ Arv Z h b kb .byte (Int32.ofNat n) bs (.int 0)
theorem rmCR (l : Launch) (Z : State) (a0 : Array Value) (hw : HWt a0 Z) (ws : List Jvm.Cond) (a1 : Addr) (n : Nat) (kd : ClassId) (cap : Nat) (bs : List Value) (h0 : Heap) (n0 : Nat) (O : Old Z n0 h0) (A_a1 : Arv Z h0 a1 kd .byte (Int32.ofNat cap) bs (.int 0)) (hbs : bs.length = n) (hN1 : n < cap) (hN2 : cap < 100000) (hN3 : n ≤ 128) :
    Met l mY21 (Jvm.Cond.code mY21 jdk_65_method_132_code 3 (some (.array .byte)) :: ws) rz2_1_128_34 #[(.ref a1), (.int (0 : Int32)), (.int (Int32.ofNat n))] Z h0 (Q_rmCR Z a1 n kd cap bs h0 n0) := by
  refine MetFree.of_bodySF (plainFor_of_name pn_26) hisR ?_
  intro p e s m args below meth c s₁ Bd hml0 hP hK
  obtain ⟨rfl, hZ, hh⟩ := hP
  have hx := Bd.exec
  have hby := Bd.bytes
  have hml : c.maxLocals = 3 := hml0
  have hown : s.vm.findClass "java/util/Arrays" = some m.cls := findClass_of_methodNamed Bd.named
  have hlk : meth.locks = false := BodyLoose.notSynchronized Bd
  have X0 : Stand p l e rz2_1_128_34 s m #[(.ref a1), (.int (0 : Int32)), (.int (Int32.ofNat n))] below meth c s₁ [] 0 0 := Stand.of_body Bd
  have e0 : s₁.heap = h0 := by rw [← hh, Bd.state]; rfl
  have N0 := Fr.nil n0
  have KK : Keep h0 h0 [] := Keep.refl h0 _
  show Go p e below s rz2_1_128_34.cells rz2_1_128_34.slots (Q_rmCR Z a1 n kd cap bs h0 n0) s₁ (entryFrame m #[(.ref a1), (.int (0 : Int32)), (.int (Int32.ofNat n))] 3)
  refine Go.eq (ef_rmCR m a1 (0 : Int32) (Int32.ofNat n)) ?_
  show Go _ _ _ _ _ _ _  s₁ (mkF m 0 #[.val (.ref a1), .val (.int (0 : Int32)), .val (.int (Int32.ofNat n))] [])
  refine Go.st (fun _ => XS.iloadN X0.here hx rfl (hb hby (dq dz26 0 0 rfl)) rfl) ?_
  show Go _ _ _ _ _ _ _  s₁ (mkF m 1 #[.val (.ref a1), .val (.int (0 : Int32)), .val (.int (Int32.ofNat n))] [(.int (0 : Int32))])
  refine Go.st (fun _ => XS.ifNo X0.here hx rfl (hb hby (dq dz26 1 1 rfl)) rfl ((if0 _ _).trans (teq (rfl : (0 : Int32) = (0 : Int32))).2)) ?_
  show Go _ _ _ _ _ _ _  s₁ (mkF m 4 #[.val (.ref a1), .val (.int (0 : Int32)), .val (.int (Int32.ofNat n))] [])
  refine Go.st (fun _ => XS.iloadN X0.here hx rfl (hb hby (dq dz26 2 4 rfl)) rfl) ?_
  refine Go.st (fun _ => XS.aloadN X0.here hx rfl (hb hby (dq dz26 3 5 rfl)) rfl rfl) ?_
  show Go _ _ _ _ _ _ _  s₁ (mkF m 6 #[.val (.ref a1), .val (.int (0 : Int32)), .val (.int (Int32.ofNat n))] [(.ref a1), (.int (Int32.ofNat n))])
  obtain ⟨cl1, Ar1, q1, S1, M1, Hh1, G1⟩ := id A_a1
  refine Go.st (X0.arraylength hx (by rw [e0]; exact Ar1.1) (State.isArrayOf_alike hZ.alike Ar1.2.1) (g := (mkF m 6 #[.val (.ref a1), .val (.int (0 : Int32)), .val (.int (Int32.ofNat n))] [(.ref a1), (.int (Int32.ofNat n))])) rfl rfl (hb hby (dq dz26 4 6 rfl))) ?_
  rw [len_of S1 M1]
  show Go _ _ _ _ _ _ _  s₁ (mkF m 7 #[.val (.ref a1), .val (.int (0 : Int32)), .val (.int (Int32.ofNat n))] [(.int (Int32.ofNat cap)), (.int (Int32.ofNat n))])
  refine Go.st (fun _ => XS.icmpNo X0.here hx rfl (hb hby (dq dz26 5 7 rfl)) rfl (feq (fun q => absurd ((own_oeq (by omega) (by omega)).mp q) (by omega) : ¬ ((Int32.ofNat n) = (Int32.ofNat cap)))).1) ?_
  show Go _ _ _ _ _ _ _  s₁ (mkF m 10 #[.val (.ref a1), .val (.int (0 : Int32)), .val (.int (Int32.ofNat n))] [])
  refine Go.st (fun _ => XS.aloadN X0.here hx rfl (hb hby (dq dz26 6 10 rfl)) rfl rfl) ?_
  refine Go.st (fun _ => XS.iloadN X0.here hx rfl (hb hby (dq dz26 7 11 rfl)) rfl) ?_
  refine Go.st (fun _ => XS.iloadN X0.here hx rfl (hb hby (dq dz26 8 12 rfl)) rfl) ?_
  show Go _ _ _ _ _ _ _  s₁ (mkF m 13 #[.val (.ref a1), .val (.int (0 : Int32)), .val (.int (Int32.ofNat n))] [(.int (Int32.ofNat n)), (.int (0 : Int32)), (.ref a1)])
  obtain ⟨_, _, ⟨T2, L2, k2, n2⟩, -, X2, ⟨Lc2, hQ2, l2, y2, z2⟩, st2⟩ := Jvm.LawKit.callS X0 hx (y := mY20) hown (mvT hZ (hwi hw 144 rfl)) (mvT hZ (hwi hw 145 rfl)) (mvT hZ (hwi hw 142 rfl)) (mvT hZ (hwi hw 146 rfl)) (by decide) (backOf (W := 0) (rmCRB l Z a0 hw [] a1 n kd cap bs h0 n0 O A_a1 hbs hN1 hN2 hN3) hZ (hwi hw 146 rfl) (hwi hw 142 rfl) (by decide) (by decide)) (g := (mkF m 13 #[.val (.ref a1), .val (.int (0 : Int32)), .val (.int (Int32.ofNat n))] [(.int (Int32.ofNat n)), (.int (0 : Int32)), (.ref a1)])) rfl (by rw [hml]; rfl) (argsL := [(.ref a1), (.int (0 : Int32)), (.int (Int32.ofNat n))]) (rest := []) (lenOf pd___BII__B rfl) rfl (by show 2 * 0 + _ ≤ _; exact Nat.le_of_eq rfl) (hb hby (dq dz26 9 13 rfl)) (fun _ _ => ⟨rfl, e0, (by decide : 0 + 1 ≤ _), (by decide : 0 + 128 ≤ _)⟩)
  dsimp only [Pt.U, Pt.locs, Pt.cells, Pt.slots] at X2 l2 y2 z2 st2 hQ2
  rw [l2, y2, z2] at X2
  have X2 : Stand p l e _ _ m _ below meth c T2 _ 1 128 := X2
  obtain ⟨t2, kt2, rfl, N2q, E2q, lt2, Vq2⟩ := hQ2
  have N2 := Fr.app N0 N2q
  refine Go.st st2 ?_
  have g_t2 : n0 ≤ t2 := Nat.le_trans (own_le O) lt2
  have sz_t2 : h0.size ≤ t2 := Nat.le_trans KK.1 lt2
  have ne_a1_t2 : a1 ≠ t2 := Nat.ne_of_lt (Nat.lt_of_lt_of_le A_a1.lt lt2)
  have E2 := E2q
  have A_a1 := A_a1.ext E2
  have O := O.ext E2
  have KK := KK.ext E2
  show Go _ _ _ _ _ _ _  T2 (mkF m 16 #[.val (.ref a1), .val (.int (0 : Int32)), .val (.int (Int32.ofNat n))] [(.ref t2)])
  refine Go.retR X2 hlk hx Bd.returns rfl rfl rfl (hb hby (dq dz26 10 16 rfl)) (by decide) (by decide) ?_
  show Q_rmCR Z _ _ _ _ _ h0 n0 _ T2.heap _
  exact ⟨_, _, rfl, N2, own_ext0 KK, sz_t2, Vq2⟩
def Q_rmCRc (Z : State) (a1 : Addr) (n : Nat) (kd : ClassId) (bs : List Value) (h0 : Heap) (n0 : Nat) (v : Option Value) (h : Heap) (L : List Loc) : Prop := ∃ (b : Addr) (kb : ClassId), v = some (.ref b) ∧ Fr n0 L ∧ Ext h0 h ∧ h0.size ≤ b ∧ Arv Z h b kb .byte (Int32.ofNat n) bs (.int 0)
theorem rmCRc (l : Launch) (Z : State) (a0 : Array Value) (hw : HWt a0 Z) (ws : List Jvm.Cond) (a1 : Addr) (n : Nat) (kd : ClassId) (bs : List Value) (h0 : Heap) (n0 : Nat) (O : Old Z n0 h0) (A_a1 : Arv Z h0 a1 kd .byte (Int32.ofNat n) bs (.int 0)) (E_a1 : Exa Z h0 a1 "[B") (hN3 : n ≤ 128) :
    Met l mY21 (Jvm.Cond.code mY21 jdk_65_method_132_code 3 (some (.array .byte)) :: ws) rz2_1_128_34 #[(.ref a1), (.int (0 : Int32)), (.int (Int32.ofNat n))] Z h0 (Q_rmCRc Z a1 n kd bs h0 n0) := by
  refine MetFree.of_bodySF (plainFor_of_name pn_26) hisR ?_
  intro p e s m args below meth c s₁ Bd hml0 hP hK
  obtain ⟨rfl, hZ, hh⟩ := hP
  have hx := Bd.exec
  have hby := Bd.bytes
  have hml : c.maxLocals = 3 := hml0
  have hown : s.vm.findClass "java/util/Arrays" = some m.cls := findClass_of_methodNamed Bd.named
  have hlk : meth.locks = false := BodyLoose.notSynchronized Bd
  have X0 : Stand p l e rz2_1_128_34 s m #[(.ref a1), (.int (0 : Int32)), (.int (Int32.ofNat n))] below meth c s₁ [] 0 0 := Stand.of_body Bd
  have e0 : s₁.heap = h0 := by rw [← hh, Bd.state]; rfl
  have N0 := Fr.nil n0
  have KK : Keep h0 h0 [] := Keep.refl h0 _
  show Go p e below s rz2_1_128_34.cells rz2_1_128_34.slots (Q_rmCRc Z a1 n kd bs h0 n0) s₁ (entryFrame m #[(.ref a1), (.int (0 : Int32)), (.int (Int32.ofNat n))] 3)
  refine Go.eq (ef_rmCRc m a1 (0 : Int32) (Int32.ofNat n)) ?_
  show Go _ _ _ _ _ _ _  s₁ (mkF m 0 #[.val (.ref a1), .val (.int (0 : Int32)), .val (.int (Int32.ofNat n))] [])
  refine Go.st (fun _ => XS.iloadN X0.here hx rfl (hb hby (dq dz26 0 0 rfl)) rfl) ?_
  show Go _ _ _ _ _ _ _  s₁ (mkF m 1 #[.val (.ref a1), .val (.int (0 : Int32)), .val (.int (Int32.ofNat n))] [(.int (0 : Int32))])
  refine Go.st (fun _ => XS.ifNo X0.here hx rfl (hb hby (dq dz26 1 1 rfl)) rfl ((if0 _ _).trans (teq (rfl : (0 : Int32) = (0 : Int32))).2)) ?_
  show Go _ _ _ _ _ _ _  s₁ (mkF m 4 #[.val (.ref a1), .val (.int (0 : Int32)), .val (.int (Int32.ofNat n))] [])
  refine Go.st (fun _ => XS.iloadN X0.here hx rfl (hb hby (dq dz26 2 4 rfl)) rfl) ?_
  refine Go.st (fun _ => XS.aloadN X0.here hx rfl (hb hby (dq dz26 3 5 rfl)) rfl rfl) ?_
  show Go _ _ _ _ _ _ _  s₁ (mkF m 6 #[.val (.ref a1), .val (.int (0 : Int32)), .val (.int (Int32.ofNat n))] [(.ref a1), (.int (Int32.ofNat n))])
  obtain ⟨cl1, Ar1, q1, S1, M1, Hh1, G1⟩ := id A_a1
  refine Go.st (X0.arraylength hx (by rw [e0]; exact Ar1.1) (State.isArrayOf_alike hZ.alike Ar1.2.1) (g := (mkF m 6 #[.val (.ref a1), .val (.int (0 : Int32)), .val (.int (Int32.ofNat n))] [(.ref a1), (.int (Int32.ofNat n))])) rfl rfl (hb hby (dq dz26 4 6 rfl))) ?_
  rw [len_of S1 M1]
  show Go _ _ _ _ _ _ _  s₁ (mkF m 7 #[.val (.ref a1), .val (.int (0 : Int32)), .val (.int (Int32.ofNat n))] [(.int (Int32.ofNat n)), (.int (Int32.ofNat n))])
  refine Go.st (fun _ => XS.icmpYes X0.here hx rfl (pc0 := 7) (pc' := 17) rfl (hb hby (dq dz26 5 7 rfl)) rfl (teq (rfl : (Int32.ofNat n) = (Int32.ofNat n))).1 (by decide) (by decide)) ?_
  show Go _ _ _ _ _ _ _  s₁ (mkF m 17 #[.val (.ref a1), .val (.int (0 : Int32)), .val (.int (Int32.ofNat n))] [])
  refine Go.st (fun _ => XS.aloadN X0.here hx rfl (hb hby (dq dz26 11 17 rfl)) rfl rfl) ?_
  show Go _ _ _ _ _ _ _  s₁ (mkF m 18 #[.val (.ref a1), .val (.int (0 : Int32)), .val (.int (Int32.ofNat n))] [(.ref a1)])
  obtain ⟨T2, h2, X2, e2, E2, A2, B2, st2⟩ := cloneH X0 hx hZ hown (hwi hw 303 rfl) (hwi hw 304 rfl) (hwi hw 308 rfl) (hwi hw 306 rfl) (hwi hw 307 rfl) (hwi hw 309 rfl) e0 (Arv.arh A_a1) E_a1 (g := (mkF m 18 #[.val (.ref a1), .val (.int (0 : Int32)), .val (.int (Int32.ofNat n))] [(.ref a1)])) rfl (by rw [hml]; rfl) rfl (hb hby (dq dz26 12 18 rfl)) (by decide) (W := 0) (by show 2 * 0 + _ ≤ _; exact Nat.le_of_eq rfl) (by decide) (cap := 128) (by rw [own_ocl (by omega)]; exact hN3) (by decide) (by decide)
  obtain ⟨b2, g2⟩ : ∃ z, z = h0.size := ⟨_, rfl⟩
  rw [← g2] at A2 B2 st2
  refine Go.st st2 ?_
  have g_b2 : n0 ≤ b2 := by rw [g2]; exact own_le O
  have sz_b2 : h0.size ≤ b2 := by rw [g2]; exact KK.1
  have ne_a1_b2 : a1 ≠ b2 := Nat.ne_of_lt (by rw [g2]; exact A_a1.lt)
  have A_a1 := A_a1.ext E2
  have E_a1 := E_a1.ext E2
  have O := O.ext E2
  have KK := KK.ext E2
  have V_b2 : Arv Z h2 b2 kd .byte (Int32.ofNat n) bs (.int 0) := A2
  have E_b2 := B2
  show Go _ _ _ _ _ _ _  T2 (mkF m 21 #[.val (.ref a1), .val (.int (0 : Int32)), .val (.int (Int32.ofNat n))] [(.ref b2)])
  obtain ⟨T3, X3, e3, st3⟩ := castY X2 hx hZ hown (hwi hw 310 rfl) e2 (Ins.self E_b2) (g := (mkF m 21 #[.val (.ref a1), .val (.int (0 : Int32)), .val (.int (Int32.ofNat n))] [(.ref b2)])) rfl rfl (hb hby (dq dz26 13 21 rfl))
  refine Go.st st3 ?_
  show Go _ _ _ _ _ _ _  T3 (mkF m 24 #[.val (.ref a1), .val (.int (0 : Int32)), .val (.int (Int32.ofNat n))] [(.ref b2)])
  refine Go.retR X3 hlk hx Bd.returns rfl rfl rfl (hb hby (dq dz26 14 24 rfl)) (by decide) (by decide) ?_
  show Q_rmCRc Z _ _ _ _ h0 n0 _ T3.heap _
  rw [e3]
  exact ⟨_, _, rfl, N0, own_ext0 KK, sz_b2, V_b2⟩
def Q_rmPC (Z : State) (fm : Value) (i : Nat) (n : Nat) (h0 : Heap) (n0 : Nat) (v : Option Value) (h : Heap) (L : List Loc) : Prop := v = some (.int (Int32.ofNat i)) ∧ Fr n0 L ∧ h = h0
theorem rmPC (l : Launch) (Z : State) (a0 : Array Value) (hw : HWt a0 Z) (ws : List Jvm.Cond) (fm : Value) (i : Nat) (n : Nat) (h0 : Heap) (n0 : Nat) (O : Old Z n0 h0) (ref_fm : fm.isRef = true) (hi : i < n) (hn : n < 100000) :
    Met l mY25 (Jvm.Cond.code mY25 jdk_41_method_11_code 3 (some .int) :: ws) rz0_0_0_0 #[(.int (Int32.ofNat i)), (.int (Int32.ofNat n)), fm] Z h0 (Q_rmPC Z fm i n h0 n0) := by
  refine MetFree.of_bodySF (plainFor_of_name pn_42) hisR ?_
  intro p e s m args below meth c s₁ Bd hml0 hP hK
  obtain ⟨rfl, hZ, hh⟩ := hP
  have hx := Bd.exec
  have hby := Bd.bytes
  have hml : c.maxLocals = 3 := hml0
  have hlk : meth.locks = false := BodyLoose.notSynchronized Bd
  have X0 : Stand p l e rz0_0_0_0 s m #[(.int (Int32.ofNat i)), (.int (Int32.ofNat n)), fm] below meth c s₁ [] 0 0 := Stand.of_body Bd
  have e0 : s₁.heap = h0 := by rw [← hh, Bd.state]; rfl
  have N0 := Fr.nil n0
  show Go p e below s rz0_0_0_0.cells rz0_0_0_0.slots (Q_rmPC Z fm i n h0 n0) s₁ (entryFrame m #[(.int (Int32.ofNat i)), (.int (Int32.ofNat n)), fm] 3)
  refine Go.eq (ef_rmPC m (Int32.ofNat i) (Int32.ofNat n) fm ref_fm) ?_
  show Go _ _ _ _ _ _ _  s₁ (mkF m 0 #[.val (.int (Int32.ofNat i)), .val (.int (Int32.ofNat n)), .val fm] [])
  refine Go.st (fun _ => XS.iloadN X0.here hx rfl (hb hby (dq dz42 0 0 rfl)) rfl) ?_
  show Go _ _ _ _ _ _ _  s₁ (mkF m 1 #[.val (.int (Int32.ofNat i)), .val (.int (Int32.ofNat n)), .val fm] [(.int (Int32.ofNat i))])
  refine Go.st (fun _ => XS.ifNo X0.here hx rfl (hb hby (dq dz42 1 1 rfl)) rfl ((if0 _ _).trans (flt (own_onn (by omega) : ¬ ((Int32.ofNat i) < (0 : Int32)))).1)) ?_
  show Go _ _ _ _ _ _ _  s₁ (mkF m 4 #[.val (.int (Int32.ofNat i)), .val (.int (Int32.ofNat n)), .val fm] [])
  refine Go.st (fun _ => XS.iloadN X0.here hx rfl (hb hby (dq dz42 2 4 rfl)) rfl) ?_
  refine Go.st (fun _ => XS.iloadN X0.here hx rfl (hb hby (dq dz42 3 5 rfl)) rfl) ?_
  show Go _ _ _ _ _ _ _  s₁ (mkF m 6 #[.val (.int (Int32.ofNat i)), .val (.int (Int32.ofNat n)), .val fm] [(.int (Int32.ofNat n)), (.int (Int32.ofNat i))])
  refine Go.st (fun _ => XS.icmpYes X0.here hx rfl (pc0 := 6) (pc' := 16) rfl (hb hby (dq dz42 4 6 rfl)) rfl (tlt ((own_olt (by omega) (by omega)).mpr hi : (Int32.ofNat i) < (Int32.ofNat n))).1 (by decide) (by decide)) ?_
  show Go _ _ _ _ _ _ _  s₁ (mkF m 16 #[.val (.int (Int32.ofNat i)), .val (.int (Int32.ofNat n)), .val fm] [])
  refine Go.st (fun _ => XS.iloadN X0.here hx rfl (hb hby (dq dz42 5 16 rfl)) rfl) ?_
  show Go _ _ _ _ _ _ _  s₁ (mkF m 17 #[.val (.int (Int32.ofNat i)), .val (.int (Int32.ofNat n)), .val fm] [(.int (Int32.ofNat i))])
  refine Go.retI X0 hlk hx Bd.returns (hb hby (dq dz42 6 17 rfl)) (by decide) (by decide) ?_
  show Q_rmPC Z _ _ _ h0 n0 _ s₁.heap _
  rw [e0]
  exact ⟨rfl, N0, rfl⟩
def Q_rmCI (Z : State) (fm : Value) (i : Nat) (n : Nat) (h0 : Heap) (n0 : Nat) (v : Option Value) (h : Heap) (L : List Loc) : Prop := v = none ∧ Fr n0 L ∧ h = h0
theorem rmCI (l : Launch) (Z : State) (a0 : Array Value) (hw : HWt a0 Z) (ws : List Jvm.Cond) (fm : Value) (i : Nat) (n : Nat) (h0 : Heap) (n0 : Nat) (O : Old Z n0 h0) (S_SIO : Sta Z Z.heap "jdk/internal/util/Preconditions" "SIOOBE_FORMATTER" "Ljava/util/function/BiFunction;" fm) (ref_fm : fm.isRef = true) (hi : i < n) (hn : n < 100000) :
    Met l mY26 (Jvm.Cond.code mY26 jdk_42_method_155_code 2 none :: ws) rz1_0_0_14 #[(.int (Int32.ofNat i)), (.int (Int32.ofNat n))] Z h0 (Q_rmCI Z fm i n h0 n0) := by
  refine MetFree.of_bodySF (plainFor_of_name pn_41) hisR ?_
  intro p e s m args below meth c s₁ Bd hml0 hP hK
  obtain ⟨rfl, hZ, hh⟩ := hP
  have hx := Bd.exec
  have hby := Bd.bytes
  have hml : c.maxLocals = 2 := hml0
  have hown : s.vm.findClass "java/lang/String" = some m.cls := findClass_of_methodNamed Bd.named
  have hlk : meth.locks = false := BodyLoose.notSynchronized Bd
  have X0 : Stand p l e rz1_0_0_14 s m #[(.int (Int32.ofNat i)), (.int (Int32.ofNat n))] below meth c s₁ [] 0 0 := Stand.of_body Bd
  have e0 : s₁.heap = h0 := by rw [← hh, Bd.state]; rfl
  have N0 := Fr.nil n0
  show Go p e below s rz1_0_0_14.cells rz1_0_0_14.slots (Q_rmCI Z fm i n h0 n0) s₁ (entryFrame m #[(.int (Int32.ofNat i)), (.int (Int32.ofNat n))] 2)
  refine Go.eq (ef_rmCI m (Int32.ofNat i) (Int32.ofNat n)) ?_
  show Go _ _ _ _ _ _ _  s₁ (mkF m 0 #[.val (.int (Int32.ofNat i)), .val (.int (Int32.ofNat n))] [])
  refine Go.st (fun _ => XS.iloadN X0.here hx rfl (hb hby (dq dz41 0 0 rfl)) rfl) ?_
  refine Go.st (fun _ => XS.iloadN X0.here hx rfl (hb hby (dq dz41 1 1 rfl)) rfl) ?_
  show Go _ _ _ _ _ _ _  s₁ (mkF m 2 #[.val (.int (Int32.ofNat i)), .val (.int (Int32.ofNat n))] [(.int (Int32.ofNat n)), (.int (Int32.ofNat i))])
  obtain ⟨T1, X1, e1, st1⟩ := getS2 X0 hx hZ hown (host := "") (Or.inl (hwi hw 239 rfl)) Via.refl e0 (S_SIO.ext O.2) (g := (mkF m 2 #[.val (.int (Int32.ofNat i)), .val (.int (Int32.ofNat n))] [(.int (Int32.ofNat n)), (.int (Int32.ofNat i))])) rfl (hb hby (dq dz41 2 2 rfl))
  refine Go.st st1 ?_
  show Go _ _ _ _ _ _ _  T1 (mkF m 5 #[.val (.int (Int32.ofNat i)), .val (.int (Int32.ofNat n))] [fm, (.int (Int32.ofNat n)), (.int (Int32.ofNat i))])
  refine Go.pureS (w := (some (.int (Int32.ofNat i)))) (rest := []) (pc' := 8) (Jvm.LawKit.callS X1 hx (y := mY25) hown (mvT hZ (hwi hw 241 rfl)) (mvT hZ (hwi hw 242 rfl)) (mvT hZ (hwi hw 240 rfl)) (mvT hZ (hwi hw 243 rfl)) (by decide) (backOf (W := 0) (rmPC l Z a0 hw [] fm i n h0 n0 O ref_fm hi hn) hZ (hwi hw 243 rfl) (hwi hw 240 rfl) (by decide) (by decide)) (g := (mkF m 5 #[.val (.int (Int32.ofNat i)), .val (.int (Int32.ofNat n))] [fm, (.int (Int32.ofNat n)), (.int (Int32.ofNat i))])) rfl (by rw [hml]; rfl) (argsL := [(.int (Int32.ofNat i)), (.int (Int32.ofNat n)), fm]) (rest := []) (lenOf pd__IILjava_util_function_BiFunction__I rfl) rfl (by show 2 * 0 + _ ≤ _; exact Nat.le_of_eq rfl) (hb hby (dq dz41 3 5 rfl)) (fun _ _ => ⟨rfl, e1, (by decide : 0 + 0 ≤ _), (by decide : 0 + 0 ≤ _)⟩)) (fun _ _ _ q => q) N0 (fun T2 L2 X2 e2q N2 => ?_)
  show Go _ _ _ _ _ _ _  T2 (mkF m 8 #[.val (.int (Int32.ofNat i)), .val (.int (Int32.ofNat n))] [(.int (Int32.ofNat i))])
  refine Go.st (fun _ => XS.pop X2.here hx rfl (hb hby (dq dz41 4 8 rfl)) rfl rfl) ?_
  show Go _ _ _ _ _ _ _  T2 (mkF m 9 #[.val (.int (Int32.ofNat i)), .val (.int (Int32.ofNat n))] [])
  refine Go.ret0 X2 hlk hx Bd.returns (hb hby (dq dz41 5 9 rfl)) (by decide) (by decide) ?_
  show Q_rmCI Z _ _ _ h0 n0 _ T2.heap _
  rw [e2q]
  exact ⟨rfl, N2, rfl⟩
def Q_rmLC (Z : State) (a1 : Addr) (fm : Value) (kb : ClassId) (cs : List Int32) (i : Nat) (h0 : Heap) (n0 : Nat) (v : Option Value) (h : Heap) (L : List Loc) : Prop := v = some (.int (own_chr (cs.getD i 0))) ∧ Fr n0 L ∧ h = h0
theorem rmLC (l : Launch) (Z : State) (a0 : Array Value) (hw : HWt a0 Z) (ws : List Jvm.Cond) (a1 : Addr) (fm : Value) (kb : ClassId) (cs : List Int32) (i : Nat) (h0 : Heap) (n0 : Nat) (O : Old Z n0 h0) (S_SIO : Sta Z Z.heap "jdk/internal/util/Preconditions" "SIOOBE_FORMATTER" "Ljava/util/function/BiFunction;" fm) (ref_fm : fm.isRef = true) (A_a1 : Arv Z h0 a1 kb .byte (Int32.ofNat cs.length) (cs.map Value.int) (.int 0)) (hi : i < cs.length) (hn : cs.length < 100000) :
    Met l mY27 (Jvm.Cond.code mY27 jdk_43_method_2_code 2 (some .char) :: ws) rz2_0_0_27 #[(.ref a1), (.int (Int32.ofNat i))] Z h0 (Q_rmLC Z a1 fm kb cs i h0 n0) := by
  refine MetFree.of_bodySF (plainFor_of_name pn_40) hisR ?_
  intro p e s m args below meth c s₁ Bd hml0 hP hK
  obtain ⟨rfl, hZ, hh⟩ := hP
  have hx := Bd.exec
  have hby := Bd.bytes
  have hml : c.maxLocals = 2 := hml0
  have hown : s.vm.findClass "java/lang/StringLatin1" = some m.cls := findClass_of_methodNamed Bd.named
  have hlk : meth.locks = false := BodyLoose.notSynchronized Bd
  have X0 : Stand p l e rz2_0_0_27 s m #[(.ref a1), (.int (Int32.ofNat i))] below meth c s₁ [] 0 0 := Stand.of_body Bd
  have e0 : s₁.heap = h0 := by rw [← hh, Bd.state]; rfl
  have N0 := Fr.nil n0
  show Go p e below s rz2_0_0_27.cells rz2_0_0_27.slots (Q_rmLC Z a1 fm kb cs i h0 n0) s₁ (entryFrame m #[(.ref a1), (.int (Int32.ofNat i))] 2)
  refine Go.eq (ef_rmLC m a1 (Int32.ofNat i)) ?_
  show Go _ _ _ _ _ _ _  s₁ (mkF m 0 #[.val (.ref a1), .val (.int (Int32.ofNat i))] [])
  refine Go.st (fun _ => XS.iloadN X0.here hx rfl (hb hby (dq dz40 0 0 rfl)) rfl) ?_
  refine Go.st (fun _ => XS.aloadN X0.here hx rfl (hb hby (dq dz40 1 1 rfl)) rfl rfl) ?_
  show Go _ _ _ _ _ _ _  s₁ (mkF m 2 #[.val (.ref a1), .val (.int (Int32.ofNat i))] [(.ref a1), (.int (Int32.ofNat i))])
  obtain ⟨cl1, Ar1, q1, S1, M1, Hh1, G1⟩ := id A_a1
  refine Go.st (X0.arraylength hx (by rw [e0]; exact Ar1.1) (State.isArrayOf_alike hZ.alike Ar1.2.1) (g := (mkF m 2 #[.val (.ref a1), .val (.int (Int32.ofNat i))] [(.ref a1), (.int (Int32.ofNat i))])) rfl rfl (hb hby (dq dz40 2 2 rfl))) ?_
  rw [len_of S1 M1]
  show Go _ _ _ _ _ _ _  s₁ (mkF m 3 #[.val (.ref a1), .val (.int (Int32.ofNat i))] [(.int (Int32.ofNat cs.length)), (.int (Int32.ofNat i))])
  refine Go.pureS (w := none) (rest := []) (pc' := 6) (Jvm.LawKit.callS X0 hx (y := mY26) hown (mvT hZ (hwi hw 236 rfl)) (mvT hZ (hwi hw 237 rfl)) (mvT hZ (hwi hw 6 rfl)) (mvT hZ (hwi hw 238 rfl)) (by decide) (backOf (W := 0) (rmCI l Z a0 hw [] fm i cs.length h0 n0 O S_SIO ref_fm hi hn) hZ (hwi hw 238 rfl) (hwi hw 6 rfl) (by decide) (by decide)) (g := (mkF m 3 #[.val (.ref a1), .val (.int (Int32.ofNat i))] [(.int (Int32.ofNat cs.length)), (.int (Int32.ofNat i))])) rfl (by rw [hml]; rfl) (argsL := [(.int (Int32.ofNat i)), (.int (Int32.ofNat cs.length))]) (rest := []) (lenOf pd__II_V rfl) rfl (by show 2 * 0 + _ ≤ _; exact Nat.le_of_eq rfl) (hb hby (dq dz40 3 3 rfl)) (fun _ _ => ⟨rfl, e0, (by decide : 0 + 0 ≤ _), (by decide : 0 + 0 ≤ _)⟩)) (fun _ _ _ q => q) N0 (fun T2 L2 X2 e2q N2 => ?_)
  show Go _ _ _ _ _ _ _  T2 (mkF m 6 #[.val (.ref a1), .val (.int (Int32.ofNat i))] [])
  refine Go.st (fun _ => XS.aloadN X2.here hx rfl (hb hby (dq dz40 4 6 rfl)) rfl rfl) ?_
  refine Go.st (fun _ => XS.iloadN X2.here hx rfl (hb hby (dq dz40 5 7 rfl)) rfl) ?_
  show Go _ _ _ _ _ _ _  T2 (mkF m 8 #[.val (.ref a1), .val (.int (Int32.ofNat i))] [(.int (Int32.ofNat i)), (.ref a1)])
  obtain ⟨cl3, Ar3, q3, S3, M3, Hh3, G3⟩ := id A_a1
  refine Go.st (X2.baloadBytes hx (j := (Int32.ofNat i)) (v := (.int (cs.getD i 0))) (by rw [e2q]; exact Ar3.1) (State.isArrayOf_alike hZ.alike Ar3.2.1) Ar3.2.2 (inb_of S3 ⟨own_onn (by omega), (own_olt (by omega) (by omega)).mpr hi⟩) (Hh3.at (inb_of S3 ⟨own_onn (by omega), (own_olt (by omega) (by omega)).mpr hi⟩) (by rw [own_ocl (by omega)]; exact own_gm cs i)) (g := (mkF m 8 #[.val (.ref a1), .val (.int (Int32.ofNat i))] [(.int (Int32.ofNat i)), (.ref a1)])) rfl rfl (hb hby (dq dz40 6 8 rfl))) ?_
  show Go _ _ _ _ _ _ _  T2 (mkF m 9 #[.val (.ref a1), .val (.int (Int32.ofNat i))] [(.int (cs.getD i 0))])
  refine Go.st (fun _ => XS.sipush X2.here hx rfl (hb hby (dq dz40 7 9 rfl))) ?_
  refine Go.st (fun _ => XS.iand X2.here hx rfl (hb hby (dq dz40 8 12 rfl)) rfl) ?_
  refine Go.st (fun _ => XS.i2c X2.here hx rfl (hb hby (dq dz40 9 13 rfl)) rfl) ?_
  show Go _ _ _ _ _ _ _  T2 (mkF m 14 #[.val (.ref a1), .val (.int (Int32.ofNat i))] [(.int (((cs.getD i 0) &&& (255 : Int32)).toUInt32.toUInt16.toUInt32.toInt32))])
  refine Go.retN X2 hlk hx (t := .char) (z' := (((cs.getD i 0) &&& (255 : Int32)).toUInt32.toUInt16.toUInt32.toInt32)) Bd.returns (by simp) (hb hby (dq dz40 10 14 rfl)) (by decide) (by decide) (own_nch _) ?_
  show Q_rmLC Z _ _ _ _ _ h0 n0 _ T2.heap _
  rw [e2q]
  exact ⟨rfl, N2, rfl⟩
def Q_rmCmp (Z : State) (a1 : Addr) (a3 : Addr) (kc : ClassId) (cs : List Int32) (k3 : ClassId) (h0 : Heap) (n0 : Nat) (v : Option Value) (h : Heap) (L : List Loc) : Prop := ∃ i, v = some (.int (Int32.ofNat i)) ∧ Fr n0 L ∧ Keep h0 h [a3] ∧ (i < cs.length ∧ (255 : Int32) < cs.getD i 0 ∨ i = cs.length ∧ Arv Z h a3 k3 .byte (Int32.ofNat cs.length) ((cs.map own_lo).map Value.int) (.int 0) ∧ ∀ j, j < cs.length → ¬ (255 : Int32) < cs.getD j 0)
theorem rmCmp (l : Launch) (Z : State) (a0 : Array Value) (hw : HWt a0 Z) (ws : List Jvm.Cond) (a1 : Addr) (a3 : Addr) (kc : ClassId) (cs : List Int32) (k3 : ClassId) (h0 : Heap) (n0 : Nat) (O : Old Z n0 h0) (A_a1 : Arv Z h0 a1 kc .char (Int32.ofNat cs.length) (cs.map Value.int) (.int 0)) (hn : cs.length ≤ 64) (A_a3 : Arv Z h0 a3 k3 .byte (Int32.ofNat cs.length) [] (.int 0)) (g_a3 : n0 ≤ a3) (ne_a1_a3 : a1 ≠ a3) :
    Met l mY30 (Jvm.Cond.code mY30 jdk_52_method_21_code 7 (some .int) :: ws) rz0_0_0_0 #[(.ref a1), (.int (0 : Int32)), (.ref a3), (.int (0 : Int32)), (.int (Int32.ofNat cs.length))] Z h0 (Q_rmCmp Z a1 a3 kc cs k3 h0 n0) := by
  refine MetFree.of_bodySF (plainFor_of_name pn_6) hisR ?_
  intro p e s m args below meth c s₁ Bd hml0 hP hK
  obtain ⟨rfl, hZ, hh⟩ := hP
  have hx := Bd.exec
  have hby := Bd.bytes
  have hml : c.maxLocals = 7 := hml0
  have hlk : meth.locks = false := BodyLoose.notSynchronized Bd
  have X0 : Stand p l e rz0_0_0_0 s m #[(.ref a1), (.int (0 : Int32)), (.ref a3), (.int (0 : Int32)), (.int (Int32.ofNat cs.length))] below meth c s₁ [] 0 0 := Stand.of_body Bd
  have e0 : s₁.heap = h0 := by rw [← hh, Bd.state]; rfl
  have N0 := Fr.nil n0
  have KK : Keep h0 h0 [a3] := Keep.refl h0 _
  show Go p e below s rz0_0_0_0.cells rz0_0_0_0.slots (Q_rmCmp Z a1 a3 kc cs k3 h0 n0) s₁ (entryFrame m #[(.ref a1), (.int (0 : Int32)), (.ref a3), (.int (0 : Int32)), (.int (Int32.ofNat cs.length))] 7)
  refine Go.eq (ef_rmCmp m a1 (0 : Int32) a3 (0 : Int32) (Int32.ofNat cs.length)) ?_
  show Go _ _ _ _ _ _ _  s₁ (mkF m 0 #[.val (.ref a1), .val (.int (0 : Int32)), .val (.ref a3), .val (.int (0 : Int32)), .val (.int (Int32.ofNat cs.length)), .unset, .unset] [])
  refine Go.st (fun _ => XS.iconst X0.here hx rfl (hb hby (dq dz6 0 0 rfl))) ?_
  refine Go.st (fun _ => XS.istore X0.here hx rfl (hb hby (dq dz6 1 1 rfl)) rfl (l' := #[.val (.ref a1), .val (.int (0 : Int32)), .val (.ref a3), .val (.int (0 : Int32)), .val (.int (Int32.ofNat cs.length)), .val (.int (0 : Int32)), .unset]) rfl) ?_
  have loop : ∀ (k9 : Nat) (T9 : State) (h9 : Heap) (Lz : List Loc) (i : Nat) (s6 : Slot), cs.length - i = k9 → Stand p l e rz0_0_0_0 s m #[(.ref a1), (.int (0 : Int32)), (.ref a3), (.int (0 : Int32)), (.int (Int32.ofNat cs.length))] below meth c T9 Lz 0 0 → T9.heap = h9 → Old Z n0 h9 → Fr n0 Lz → Keep h0 h9 [a3] → (Arv Z h9 a1 kc .char (Int32.ofNat cs.length) (cs.map Value.int) (.int 0)) → (Arv Z h9 a3 k3 .byte (Int32.ofNat cs.length) (((cs.take i).map own_lo).map Value.int) (.int 0)) → (s6 = .unset ∨ ∃ z, s6 = .val (.int z)) → (i ≤ cs.length) → (∀ j, j < i → ¬ (255 : Int32) < cs.getD j 0) → Go p e below s rz0_0_0_0.cells rz0_0_0_0.slots (Q_rmCmp Z a1 a3 kc cs k3 h0 n0) T9 (mkF m 3 #[.val (.ref a1), .val (.int (Int32.ofNat i)), .val (.ref a3), .val (.int (Int32.ofNat i)), .val (.int (Int32.ofNat cs.length)), .val (.int (Int32.ofNat i)), s6] []) := by
    intro k9
    induction k9 with
    | zero =>
      intro T9 h9 Lz i s6 hk9 X9 e9 O N9 KK A_a1 A_a3 hs6 hi hsm
      refine Go.st (fun _ => XS.iload X9.here hx rfl (hb hby (dq dz6 2 3 rfl)) rfl) ?_
      refine Go.st (fun _ => XS.iload X9.here hx rfl (hb hby (dq dz6 3 5 rfl)) rfl) ?_
      show Go _ _ _ _ _ _ _  T9 (mkF m 7 #[.val (.ref a1), .val (.int (Int32.ofNat i)), .val (.ref a3), .val (.int (Int32.ofNat i)), .val (.int (Int32.ofNat cs.length)), .val (.int (Int32.ofNat i)), s6] [(.int (Int32.ofNat cs.length)), (.int (Int32.ofNat i))])
      refine Go.st (fun _ => XS.icmpYes X9.here hx rfl (pc0 := 7) (pc' := 44) rfl (hb hby (dq dz6 4 7 rfl)) rfl (flt (fun q => absurd ((own_olt (by omega) (by omega)).mp q) (by omega) : ¬ ((Int32.ofNat i) < (Int32.ofNat cs.length)))).2.1 (by decide) (by decide)) ?_
      show Go _ _ _ _ _ _ _  T9 (mkF m 44 #[.val (.ref a1), .val (.int (Int32.ofNat i)), .val (.ref a3), .val (.int (Int32.ofNat i)), .val (.int (Int32.ofNat cs.length)), .val (.int (Int32.ofNat i)), s6] [])
      refine Go.st (fun _ => XS.iload X9.here hx rfl (hb hby (dq dz6 5 44 rfl)) rfl) ?_
      show Go _ _ _ _ _ _ _  T9 (mkF m 46 #[.val (.ref a1), .val (.int (Int32.ofNat i)), .val (.ref a3), .val (.int (Int32.ofNat i)), .val (.int (Int32.ofNat cs.length)), .val (.int (Int32.ofNat i)), s6] [(.int (Int32.ofNat cs.length))])
      refine Go.retI X9 hlk hx Bd.returns (hb hby (dq dz6 6 46 rfl)) (by decide) (by decide) ?_
      show Q_rmCmp Z _ _ _ _ _ h0 n0 _ T9.heap _
      rw [e9]
      have q : i = cs.length := by omega
      rw [q, List.take_length] at A_a3
      exact ⟨cs.length, rfl, N9, KK, Or.inr ⟨rfl, A_a3, fun j hj => hsm j (by omega)⟩⟩
    | succ k9 ih =>
      intro T9 h9 Lz i s6 hk9 X9 e9 O N9 KK A_a1 A_a3 hs6 hi hsm
      refine Go.st (fun _ => XS.iload X9.here hx rfl (hb hby (dq dz6 2 3 rfl)) rfl) ?_
      refine Go.st (fun _ => XS.iload X9.here hx rfl (hb hby (dq dz6 3 5 rfl)) rfl) ?_
      show Go _ _ _ _ _ _ _  T9 (mkF m 7 #[.val (.ref a1), .val (.int (Int32.ofNat i)), .val (.ref a3), .val (.int (Int32.ofNat i)), .val (.int (Int32.ofNat cs.length)), .val (.int (Int32.ofNat i)), s6] [(.int (Int32.ofNat cs.length)), (.int (Int32.ofNat i))])
      refine Go.st (fun _ => XS.icmpNo X9.here hx rfl (hb hby (dq dz6 4 7 rfl)) rfl (tlt ((own_olt (by omega) (by omega)).mpr (by omega) : (Int32.ofNat i) < (Int32.ofNat cs.length))).2.1) ?_
      show Go _ _ _ _ _ _ _  T9 (mkF m 10 #[.val (.ref a1), .val (.int (Int32.ofNat i)), .val (.ref a3), .val (.int (Int32.ofNat i)), .val (.int (Int32.ofNat cs.length)), .val (.int (Int32.ofNat i)), s6] [])
      refine Go.st (fun _ => XS.aloadN X9.here hx rfl (hb hby (dq dz6 7 10 rfl)) rfl rfl) ?_
      refine Go.st (fun _ => XS.iloadN X9.here hx rfl (hb hby (dq dz6 8 11 rfl)) rfl) ?_
      show Go _ _ _ _ _ _ _  T9 (mkF m 12 #[.val (.ref a1), .val (.int (Int32.ofNat i)), .val (.ref a3), .val (.int (Int32.ofNat i)), .val (.int (Int32.ofNat cs.length)), .val (.int (Int32.ofNat i)), s6] [(.int (Int32.ofNat i)), (.ref a1)])
      obtain ⟨cl1, Ar1, q1, S1, M1, Hh1, G1⟩ := id A_a1
      refine Go.st (X9.caload hx (j := (Int32.ofNat i)) (v := (.int (cs.getD i 0))) (by rw [e9]; exact Ar1.1) (State.isArrayOf_alike hZ.alike Ar1.2.1) Ar1.2.2 (inb_of S1 ⟨own_onn (by omega), (own_olt (by omega) (by omega)).mpr (by omega)⟩) (Hh1.at (inb_of S1 ⟨own_onn (by omega), (own_olt (by omega) (by omega)).mpr (by omega)⟩) (by rw [own_ocl (by omega)]; exact own_gm cs i)) (g := (mkF m 12 #[.val (.ref a1), .val (.int (Int32.ofNat i)), .val (.ref a3), .val (.int (Int32.ofNat i)), .val (.int (Int32.ofNat cs.length)), .val (.int (Int32.ofNat i)), s6] [(.int (Int32.ofNat i)), (.ref a1)])) rfl rfl (hb hby (dq dz6 9 12 rfl))) ?_
      show Go _ _ _ _ _ _ _  T9 (mkF m 13 #[.val (.ref a1), .val (.int (Int32.ofNat i)), .val (.ref a3), .val (.int (Int32.ofNat i)), .val (.int (Int32.ofNat cs.length)), .val (.int (Int32.ofNat i)), s6] [(.int (cs.getD i 0))])
      refine Go.st (fun _ => XS.istore X9.here hx rfl (hb hby (dq dz6 10 13 rfl)) rfl (l' := #[.val (.ref a1), .val (.int (Int32.ofNat i)), .val (.ref a3), .val (.int (Int32.ofNat i)), .val (.int (Int32.ofNat cs.length)), .val (.int (Int32.ofNat i)), .val (.int (cs.getD i 0))]) (by rcases hs6 with rfl | ⟨_, rfl⟩ <;> rfl)) ?_
      refine Go.st (fun _ => XS.iload X9.here hx rfl (hb hby (dq dz6 11 15 rfl)) rfl) ?_
      refine Go.st (fun _ => XS.sipush X9.here hx rfl (hb hby (dq dz6 12 17 rfl))) ?_
      show Go _ _ _ _ _ _ _  T9 (mkF m 20 #[.val (.ref a1), .val (.int (Int32.ofNat i)), .val (.ref a3), .val (.int (Int32.ofNat i)), .val (.int (Int32.ofNat cs.length)), .val (.int (Int32.ofNat i)), .val (.int (cs.getD i 0))] [(.int (255 : Int32)), (.int (cs.getD i 0))])
      by_cases c20_2 : (255 : Int32) < (cs.getD i 0)
      · refine Go.st (fun _ => XS.icmpNo X9.here hx rfl (hb hby (dq dz6 13 20 rfl)) rfl (tlt c20_2).2.2.2) ?_
        show Go _ _ _ _ _ _ _  T9 (mkF m 23 #[.val (.ref a1), .val (.int (Int32.ofNat i)), .val (.ref a3), .val (.int (Int32.ofNat i)), .val (.int (Int32.ofNat cs.length)), .val (.int (Int32.ofNat i)), .val (.int (cs.getD i 0))] [])
        refine Go.st (fun _ => XS.iload X9.here hx rfl (hb hby (dq dz6 14 23 rfl)) rfl) ?_
        show Go _ _ _ _ _ _ _  T9 (mkF m 25 #[.val (.ref a1), .val (.int (Int32.ofNat i)), .val (.ref a3), .val (.int (Int32.ofNat i)), .val (.int (Int32.ofNat cs.length)), .val (.int (Int32.ofNat i)), .val (.int (cs.getD i 0))] [(.int (Int32.ofNat i))])
        refine Go.retI X9 hlk hx Bd.returns (hb hby (dq dz6 15 25 rfl)) (by decide) (by decide) ?_
        show Q_rmCmp Z _ _ _ _ _ h0 n0 _ T9.heap _
        rw [e9]
        exact ⟨i, rfl, N9, KK, Or.inl ⟨by omega, c20_2⟩⟩
      · refine Go.st (fun _ => XS.icmpYes X9.here hx rfl (pc0 := 20) (pc' := 26) rfl (hb hby (dq dz6 13 20 rfl)) rfl (flt c20_2).2.2.2 (by decide) (by decide)) ?_
        show Go _ _ _ _ _ _ _  T9 (mkF m 26 #[.val (.ref a1), .val (.int (Int32.ofNat i)), .val (.ref a3), .val (.int (Int32.ofNat i)), .val (.int (Int32.ofNat cs.length)), .val (.int (Int32.ofNat i)), .val (.int (cs.getD i 0))] [])
        refine Go.st (fun _ => XS.aloadN X9.here hx rfl (hb hby (dq dz6 16 26 rfl)) rfl rfl) ?_
        refine Go.st (fun _ => XS.iloadN X9.here hx rfl (hb hby (dq dz6 17 27 rfl)) rfl) ?_
        refine Go.st (fun _ => XS.iload X9.here hx rfl (hb hby (dq dz6 18 28 rfl)) rfl) ?_
        refine Go.st (fun _ => XS.i2b X9.here hx rfl (hb hby (dq dz6 19 30 rfl)) rfl) ?_
        show Go _ _ _ _ _ _ _  T9 (mkF m 31 #[.val (.ref a1), .val (.int (Int32.ofNat i)), .val (.ref a3), .val (.int (Int32.ofNat i)), .val (.int (Int32.ofNat cs.length)), .val (.int (Int32.ofNat i)), .val (.int (cs.getD i 0))] [(.int ((cs.getD i 0).toInt8.toInt32)), (.int (Int32.ofNat i)), (.ref a3)])
        obtain ⟨cl3, Ar3, q3, S3, M3, Hh3, G3⟩ := A_a3
        obtain ⟨T4, h4, X4, e4, W4, st4⟩ := stB X9 hx hZ e9 Ar3 (j := (Int32.ofNat i)) (inb_of S3 ⟨own_onn (by omega), (own_olt (by omega) (by omega)).mpr (by omega)⟩) (g := (mkF m 31 #[.val (.ref a1), .val (.int (Int32.ofNat i)), .val (.ref a3), .val (.int (Int32.ofNat i)), .val (.int (Int32.ofNat cs.length)), .val (.int (Int32.ofNat i)), .val (.int (cs.getD i 0))] [(.int ((cs.getD i 0).toInt8.toInt32)), (.int (Int32.ofNat i)), (.ref a3)])) rfl rfl (hb hby (dq dz6 20 31 rfl))
        refine Go.st st4 ?_
        have A_a3 : Arv Z h4 a3 k3 .byte (Int32.ofNat cs.length) ((((cs.take i).map own_lo).map Value.int) ++ [Value.int (nar .byte ((cs.getD i 0).toInt8.toInt32))]) (.int 0) := own_push Ar3 q3 S3 M3 Hh3 G3 (fits_nar_byte _) W4 (by rw [own_ocl (by omega), List.length_map, List.length_map, List.length_take, Nat.min_eq_left (by omega)])
        rw [own_nlo] at A_a3
        have N4 := Fr.snoc X4 N9 g_a3
        have A_a1 := A_a1.other W4 ne_a1_a3
        have O := O.wr W4 g_a3
        have KK := KK.wr W4 (Or.inl (List.mem_of_getElem? (i := 0) rfl))
        rw [own_tkv (by omega)] at A_a3
        show Go _ _ _ _ _ _ _  T4 (mkF m 32 #[.val (.ref a1), .val (.int (Int32.ofNat i)), .val (.ref a3), .val (.int (Int32.ofNat i)), .val (.int (Int32.ofNat cs.length)), .val (.int (Int32.ofNat i)), .val (.int (cs.getD i 0))] [])
        refine Go.st (fun _ => XS.iinc X4.here hx rfl (hb hby (dq dz6 21 32 rfl)) rfl (l' := #[.val (.ref a1), .val (.int ((Int32.ofNat i) + (1 : Int32))), .val (.ref a3), .val (.int (Int32.ofNat i)), .val (.int (Int32.ofNat cs.length)), .val (.int (Int32.ofNat i)), .val (.int (cs.getD i 0))]) rfl) ?_
        show Go _ _ _ _ _ _ _  T4 (mkF m 35 #[.val (.ref a1), .val (.int ((Int32.ofNat i) + (1 : Int32))), .val (.ref a3), .val (.int (Int32.ofNat i)), .val (.int (Int32.ofNat cs.length)), .val (.int (Int32.ofNat i)), .val (.int (cs.getD i 0))] [])
        rw [own_1inc]
        show Go _ _ _ _ _ _ _  T4 (mkF m 35 #[.val (.ref a1), .val (.int (Int32.ofNat (i + 1))), .val (.ref a3), .val (.int (Int32.ofNat i)), .val (.int (Int32.ofNat cs.length)), .val (.int (Int32.ofNat i)), .val (.int (cs.getD i 0))] [])
        refine Go.st (fun _ => XS.iinc X4.here hx rfl (hb hby (dq dz6 22 35 rfl)) rfl (l' := #[.val (.ref a1), .val (.int (Int32.ofNat (i + 1))), .val (.ref a3), .val (.int ((Int32.ofNat i) + (1 : Int32))), .val (.int (Int32.ofNat cs.length)), .val (.int (Int32.ofNat i)), .val (.int (cs.getD i 0))]) rfl) ?_
        show Go _ _ _ _ _ _ _  T4 (mkF m 38 #[.val (.ref a1), .val (.int (Int32.ofNat (i + 1))), .val (.ref a3), .val (.int ((Int32.ofNat i) + (1 : Int32))), .val (.int (Int32.ofNat cs.length)), .val (.int (Int32.ofNat i)), .val (.int (cs.getD i 0))] [])
        rw [own_1inc]
        show Go _ _ _ _ _ _ _  T4 (mkF m 38 #[.val (.ref a1), .val (.int (Int32.ofNat (i + 1))), .val (.ref a3), .val (.int (Int32.ofNat (i + 1))), .val (.int (Int32.ofNat cs.length)), .val (.int (Int32.ofNat i)), .val (.int (cs.getD i 0))] [])
        refine Go.st (fun _ => XS.iinc X4.here hx rfl (hb hby (dq dz6 23 38 rfl)) rfl (l' := #[.val (.ref a1), .val (.int (Int32.ofNat (i + 1))), .val (.ref a3), .val (.int (Int32.ofNat (i + 1))), .val (.int (Int32.ofNat cs.length)), .val (.int ((Int32.ofNat i) + (1 : Int32))), .val (.int (cs.getD i 0))]) rfl) ?_
        show Go _ _ _ _ _ _ _  T4 (mkF m 41 #[.val (.ref a1), .val (.int (Int32.ofNat (i + 1))), .val (.ref a3), .val (.int (Int32.ofNat (i + 1))), .val (.int (Int32.ofNat cs.length)), .val (.int ((Int32.ofNat i) + (1 : Int32))), .val (.int (cs.getD i 0))] [])
        rw [own_1inc]
        show Go _ _ _ _ _ _ _  T4 (mkF m 41 #[.val (.ref a1), .val (.int (Int32.ofNat (i + 1))), .val (.ref a3), .val (.int (Int32.ofNat (i + 1))), .val (.int (Int32.ofNat cs.length)), .val (.int (Int32.ofNat (i + 1))), .val (.int (cs.getD i 0))] [])
        refine Go.st (fun _ => XS.goto X4.here hx rfl (pc0 := 41) (pc' := 3) rfl (hb hby (dq dz6 24 41 rfl)) (by decide) (by decide)) ?_
        show Go _ _ _ _ _ _ _  T4 (mkF m 3 #[.val (.ref a1), .val (.int (Int32.ofNat (i + 1))), .val (.ref a3), .val (.int (Int32.ofNat (i + 1))), .val (.int (Int32.ofNat cs.length)), .val (.int (Int32.ofNat (i + 1))), .val (.int (cs.getD i 0))] [])
        exact ih T4 h4 _ (i + 1) (.val (.int (cs.getD i 0))) (by omega) X4 e4 O N4 KK A_a1 A_a3 (Or.inr ⟨_, rfl⟩) (by omega) (fun j hj => by rcases Nat.lt_or_eq_of_le (Nat.le_of_lt_succ hj) with q | q; exact hsm j q; rw [q]; exact c20_2)
  show Go _ _ _ _ _ _ _  s₁ (mkF m 3 #[.val (.ref a1), .val (.int (0 : Int32)), .val (.ref a3), .val (.int (0 : Int32)), .val (.int (Int32.ofNat cs.length)), .val (.int (0 : Int32)), .unset] [])
  exact loop _ s₁ h0 _ 0 .unset rfl X0 e0 O N0 KK A_a1 A_a3 (Or.inl rfl) (Nat.zero_le _) (fun j hj => absurd hj (Nat.not_lt_zero _))
def Q_rmPutC (Z : State) (a1 : Addr) (p3 : Int32) (i : Nat) (k1 : ClassId) (cap : Nat) (bs : List Value) (h0 : Heap) (n0 : Nat) (v : Option Value) (h : Heap) (L : List Loc) : Prop := v = none ∧ Fr n0 L ∧ Keep h0 h [a1] ∧ Arv Z h a1 k1 .byte (Int32.ofNat cap) ((bs ++ [Value.int (own_lo p3)]) ++ [Value.int (own_hi p3)]) (.int 0)
theorem rmPutC (l : Launch) (Z : State) (a0 : Array Value) (hw : HWt a0 Z) (ws : List Jvm.Cond) (a1 : Addr) (p3 : Int32) (i : Nat) (k1 : ClassId) (cap : Nat) (bs : List Value) (h0 : Heap) (n0 : Nat) (O : Old Z n0 h0) (S_ad : Sta Z Z.heap "java/lang/StringUTF16" "$assertionsDisabled" "Z" (.int 1)) (S_hi : Sta Z Z.heap "java/lang/StringUTF16" "HI_BYTE_SHIFT" "I" (.int 0)) (S_lo : Sta Z Z.heap "java/lang/StringUTF16" "LO_BYTE_SHIFT" "I" (.int 8)) (A_a1 : Arv Z h0 a1 k1 .byte (Int32.ofNat cap) bs (.int 0)) (hb_ : bs.length = 2 * i) (hc : 2 * i + 2 ≤ cap) (hcb : cap < 100000) (g_a1 : n0 ≤ a1) :
    Met l mY31 (Jvm.Cond.code mY31 jdk_52_method_4_code 3 none :: ws) rz0_0_0_0 #[(.ref a1), (.int (Int32.ofNat i)), (.int p3)] Z h0 (Q_rmPutC Z a1 p3 i k1 cap bs h0 n0) := by
  refine MetFree.of_bodySF (plainFor_of_name pn_47) hisR ?_
  intro p e s m args below meth c s₁ Bd hml0 hP hK
  obtain ⟨rfl, hZ, hh⟩ := hP
  have hx := Bd.exec
  have hby := Bd.bytes
  have hml : c.maxLocals = 3 := hml0
  have hown : s.vm.findClass "java/lang/StringUTF16" = some m.cls := findClass_of_methodNamed Bd.named
  have hlk : meth.locks = false := BodyLoose.notSynchronized Bd
  have X0 : Stand p l e rz0_0_0_0 s m #[(.ref a1), (.int (Int32.ofNat i)), (.int p3)] below meth c s₁ [] 0 0 := Stand.of_body Bd
  have e0 : s₁.heap = h0 := by rw [← hh, Bd.state]; rfl
  have N0 := Fr.nil n0
  have KK : Keep h0 h0 [a1] := Keep.refl h0 _
  show Go p e below s rz0_0_0_0.cells rz0_0_0_0.slots (Q_rmPutC Z a1 p3 i k1 cap bs h0 n0) s₁ (entryFrame m #[(.ref a1), (.int (Int32.ofNat i)), (.int p3)] 3)
  refine Go.eq (ef_rmPutC m a1 (Int32.ofNat i) p3) ?_
  show Go _ _ _ _ _ _ _  s₁ (mkF m 0 #[.val (.ref a1), .val (.int (Int32.ofNat i)), .val (.int p3)] [])
  obtain ⟨T1, X1, e1, st1⟩ := getS2 X0 hx hZ hown (host := "") (Or.inl (hwi hw 262 rfl)) Via.refl e0 (S_ad.ext O.2) (g := (mkF m 0 #[.val (.ref a1), .val (.int (Int32.ofNat i)), .val (.int p3)] [])) rfl (hb hby (dq dz47 0 0 rfl))
  refine Go.st st1 ?_
  show Go _ _ _ _ _ _ _  T1 (mkF m 3 #[.val (.ref a1), .val (.int (Int32.ofNat i)), .val (.int p3)] [(.int (1 : Int32))])
  refine Go.st (fun _ => XS.ifYes X1.here hx rfl (pc0 := 3) (pc' := 28) rfl (hb hby (dq dz47 1 3 rfl)) rfl ((if0 _ _).trans (feq (by decide : ¬ ((1 : Int32) = (0 : Int32)))).2) (by decide) (by decide)) ?_
  show Go _ _ _ _ _ _ _  T1 (mkF m 28 #[.val (.ref a1), .val (.int (Int32.ofNat i)), .val (.int p3)] [])
  refine Go.st (fun _ => XS.iloadN X1.here hx rfl (hb hby (dq dz47 2 28 rfl)) rfl) ?_
  refine Go.st (fun _ => XS.iconst X1.here hx rfl (hb hby (dq dz47 3 29 rfl))) ?_
  refine Go.st (fun _ => XS.ishl X1.here hx rfl (hb hby (dq dz47 4 30 rfl)) rfl) ?_
  show Go _ _ _ _ _ _ _  T1 (mkF m 31 #[.val (.ref a1), .val (.int (Int32.ofNat i)), .val (.int p3)] [(.int ((Int32.ofNat i) <<< ((1 : Int32) &&& 31)))])
  rw [own_shl1 (by omega)]
  refine Go.st (fun _ => XS.istoreN X1.here hx rfl (hb hby (dq dz47 5 31 rfl)) rfl (l' := #[.val (.ref a1), .val (.int (Int32.ofNat (2 * i))), .val (.int p3)]) rfl) ?_
  refine Go.st (fun _ => XS.aloadN X1.here hx rfl (hb hby (dq dz47 6 32 rfl)) rfl rfl) ?_
  refine Go.st (fun _ => XS.iloadN X1.here hx rfl (hb hby (dq dz47 7 33 rfl)) rfl) ?_
  show Go _ _ _ _ _ _ _  T1 (mkF m 34 #[.val (.ref a1), .val (.int (Int32.ofNat (2 * i))), .val (.int p3)] [(.int (Int32.ofNat (2 * i))), (.ref a1)])
  refine Go.st (fun _ => XS.iinc X1.here hx rfl (hb hby (dq dz47 8 34 rfl)) rfl (l' := #[.val (.ref a1), .val (.int ((Int32.ofNat (2 * i)) + (1 : Int32))), .val (.int p3)]) rfl) ?_
  show Go _ _ _ _ _ _ _  T1 (mkF m 37 #[.val (.ref a1), .val (.int ((Int32.ofNat (2 * i)) + (1 : Int32))), .val (.int p3)] [(.int (Int32.ofNat (2 * i))), (.ref a1)])
  rw [own_1inc]
  show Go _ _ _ _ _ _ _  T1 (mkF m 37 #[.val (.ref a1), .val (.int (Int32.ofNat ((2 * i) + 1))), .val (.int p3)] [(.int (Int32.ofNat (2 * i))), (.ref a1)])
  refine Go.st (fun _ => XS.iloadN X1.here hx rfl (hb hby (dq dz47 9 37 rfl)) rfl) ?_
  show Go _ _ _ _ _ _ _  T1 (mkF m 38 #[.val (.ref a1), .val (.int (Int32.ofNat ((2 * i) + 1))), .val (.int p3)] [(.int p3), (.int (Int32.ofNat (2 * i))), (.ref a1)])
  obtain ⟨T2, X2, e2, st2⟩ := getS2 X1 hx hZ hown (host := "") (Or.inl (hwi hw 263 rfl)) Via.refl e1 (S_hi.ext O.2) (g := (mkF m 38 #[.val (.ref a1), .val (.int (Int32.ofNat ((2 * i) + 1))), .val (.int p3)] [(.int p3), (.int (Int32.ofNat (2 * i))), (.ref a1)])) rfl (hb hby (dq dz47 10 38 rfl))
  refine Go.st st2 ?_
  show Go _ _ _ _ _ _ _  T2 (mkF m 41 #[.val (.ref a1), .val (.int (Int32.ofNat ((2 * i) + 1))), .val (.int p3)] [(.int (0 : Int32)), (.int p3), (.int (Int32.ofNat (2 * i))), (.ref a1)])
  refine Go.st (fun _ => XS.ishr X2.here hx rfl (hb hby (dq dz47 11 41 rfl)) rfl) ?_
  show Go _ _ _ _ _ _ _  T2 (mkF m 42 #[.val (.ref a1), .val (.int (Int32.ofNat ((2 * i) + 1))), .val (.int p3)] [(.int (p3 >>> ((0 : Int32) &&& 31))), (.int (Int32.ofNat (2 * i))), (.ref a1)])
  rw [own_shr0]
  refine Go.st (fun _ => XS.i2b X2.here hx rfl (hb hby (dq dz47 12 42 rfl)) rfl) ?_
  show Go _ _ _ _ _ _ _  T2 (mkF m 43 #[.val (.ref a1), .val (.int (Int32.ofNat ((2 * i) + 1))), .val (.int p3)] [(.int (p3.toInt8.toInt32)), (.int (Int32.ofNat (2 * i))), (.ref a1)])
  obtain ⟨cl3, Ar3, q3, S3, M3, Hh3, G3⟩ := A_a1
  obtain ⟨T4, h4, X4, e4, W4, st4⟩ := stB X2 hx hZ e2 Ar3 (j := (Int32.ofNat (2 * i))) (inb_of S3 ⟨own_onn (by omega), (own_olt (by omega) (by omega)).mpr (by omega)⟩) (g := (mkF m 43 #[.val (.ref a1), .val (.int (Int32.ofNat ((2 * i) + 1))), .val (.int p3)] [(.int (p3.toInt8.toInt32)), (.int (Int32.ofNat (2 * i))), (.ref a1)])) rfl rfl (hb hby (dq dz47 13 43 rfl))
  refine Go.st st4 ?_
  have A_a1 : Arv Z h4 a1 k1 .byte (Int32.ofNat cap) (bs ++ [Value.int (nar .byte (p3.toInt8.toInt32))]) (.int 0) := own_push Ar3 q3 S3 M3 Hh3 G3 (fits_nar_byte _) W4 (by rw [own_ocl (by omega)]; omega)
  rw [own_nlo] at A_a1
  have N4 := Fr.snoc X4 N0 g_a1
  have O := O.wr W4 g_a1
  have KK := KK.wr W4 (Or.inl (List.mem_of_getElem? (i := 0) rfl))
  show Go _ _ _ _ _ _ _  T4 (mkF m 44 #[.val (.ref a1), .val (.int (Int32.ofNat ((2 * i) + 1))), .val (.int p3)] [])
  refine Go.st (fun _ => XS.aloadN X4.here hx rfl (hb hby (dq dz47 14 44 rfl)) rfl rfl) ?_
  refine Go.st (fun _ => XS.iloadN X4.here hx rfl (hb hby (dq dz47 15 45 rfl)) rfl) ?_
  refine Go.st (fun _ => XS.iloadN X4.here hx rfl (hb hby (dq dz47 16 46 rfl)) rfl) ?_
  show Go _ _ _ _ _ _ _  T4 (mkF m 47 #[.val (.ref a1), .val (.int (Int32.ofNat ((2 * i) + 1))), .val (.int p3)] [(.int p3), (.int (Int32.ofNat ((2 * i) + 1))), (.ref a1)])
  obtain ⟨T5, X5, e5, st5⟩ := getS2 X4 hx hZ hown (host := "") (Or.inl (hwi hw 264 rfl)) Via.refl e4 (S_lo.ext O.2) (g := (mkF m 47 #[.val (.ref a1), .val (.int (Int32.ofNat ((2 * i) + 1))), .val (.int p3)] [(.int p3), (.int (Int32.ofNat ((2 * i) + 1))), (.ref a1)])) rfl (hb hby (dq dz47 17 47 rfl))
  refine Go.st st5 ?_
  show Go _ _ _ _ _ _ _  T5 (mkF m 50 #[.val (.ref a1), .val (.int (Int32.ofNat ((2 * i) + 1))), .val (.int p3)] [(.int (8 : Int32)), (.int p3), (.int (Int32.ofNat ((2 * i) + 1))), (.ref a1)])
  refine Go.st (fun _ => XS.ishr X5.here hx rfl (hb hby (dq dz47 18 50 rfl)) rfl) ?_
  refine Go.st (fun _ => XS.i2b X5.here hx rfl (hb hby (dq dz47 19 51 rfl)) rfl) ?_
  show Go _ _ _ _ _ _ _  T5 (mkF m 52 #[.val (.ref a1), .val (.int (Int32.ofNat ((2 * i) + 1))), .val (.int p3)] [(.int ((p3 >>> ((8 : Int32) &&& 31)).toInt8.toInt32)), (.int (Int32.ofNat ((2 * i) + 1))), (.ref a1)])
  obtain ⟨cl6, Ar6, q6, S6, M6, Hh6, G6⟩ := A_a1
  obtain ⟨T7, h7, X7, e7, W7, st7⟩ := stB X5 hx hZ e5 Ar6 (j := (Int32.ofNat ((2 * i) + 1))) (inb_of S6 ⟨own_onn (by omega), (own_olt (by omega) (by omega)).mpr (by omega)⟩) (g := (mkF m 52 #[.val (.ref a1), .val (.int (Int32.ofNat ((2 * i) + 1))), .val (.int p3)] [(.int ((p3 >>> ((8 : Int32) &&& 31)).toInt8.toInt32)), (.int (Int32.ofNat ((2 * i) + 1))), (.ref a1)])) rfl rfl (hb hby (dq dz47 20 52 rfl))
  refine Go.st st7 ?_
  have A_a1 : Arv Z h7 a1 k1 .byte (Int32.ofNat cap) ((bs ++ [Value.int (own_lo p3)]) ++ [Value.int (nar .byte ((p3 >>> ((8 : Int32) &&& 31)).toInt8.toInt32))]) (.int 0) := own_push Ar6 q6 S6 M6 Hh6 G6 (fits_nar_byte _) W7 (by rw [own_ocl (by omega), List.length_append, show ([Value.int (own_lo p3)] : List Value).length = 1 from rfl]; omega)
  rw [own_nhi] at A_a1
  have N7 := Fr.snoc X7 N4 g_a1
  have O := O.wr W7 g_a1
  have KK := KK.wr W7 (Or.inl (List.mem_of_getElem? (i := 0) rfl))
  show Go _ _ _ _ _ _ _  T7 (mkF m 53 #[.val (.ref a1), .val (.int (Int32.ofNat ((2 * i) + 1))), .val (.int p3)] [])
  refine Go.ret0 X7 hlk hx Bd.returns (hb hby (dq dz47 21 53 rfl)) (by decide) (by decide) ?_
  show Q_rmPutC Z _ _ _ _ _ _ h0 n0 _ T7.heap _
  rw [e7]
  exact ⟨rfl, N7, KK, A_a1⟩
def Q_rmNBL (Z : State) (n : Nat) (h0 : Heap) (n0 : Nat) (v : Option Value) (h : Heap) (L : List Loc) : Prop := v = some (.int (Int32.ofNat (2 * n))) ∧ Fr n0 L ∧ h = h0
theorem rmNBL (l : Launch) (Z : State) (a0 : Array Value) (hw : HWt a0 Z) (ws : List Jvm.Cond) (n : Nat) (h0 : Heap) (n0 : Nat) (O : Old Z n0 h0) (hn : n < 100000) :
    Met l mY32 (Jvm.Cond.code mY32 jdk_52_method_3_code 1 (some .int) :: ws) rz0_0_0_0 #[(.int (Int32.ofNat n))] Z h0 (Q_rmNBL Z n h0 n0) := by
  refine MetFree.of_bodySF (plainFor_of_name pn_46) hisR ?_
  intro p e s m args below meth c s₁ Bd hml0 hP hK
  obtain ⟨rfl, hZ, hh⟩ := hP
  have hx := Bd.exec
  have hby := Bd.bytes
  have hml : c.maxLocals = 1 := hml0
  have hown : s.vm.findClass "java/lang/StringUTF16" = some m.cls := findClass_of_methodNamed Bd.named
  have hlk : meth.locks = false := BodyLoose.notSynchronized Bd
  have X0 : Stand p l e rz0_0_0_0 s m #[(.int (Int32.ofNat n))] below meth c s₁ [] 0 0 := Stand.of_body Bd
  have e0 : s₁.heap = h0 := by rw [← hh, Bd.state]; rfl
  have N0 := Fr.nil n0
  show Go p e below s rz0_0_0_0.cells rz0_0_0_0.slots (Q_rmNBL Z n h0 n0) s₁ (entryFrame m #[(.int (Int32.ofNat n))] 1)
  refine Go.eq (ef_rmNBL m (Int32.ofNat n)) ?_
  show Go _ _ _ _ _ _ _  s₁ (mkF m 0 #[.val (.int (Int32.ofNat n))] [])
  refine Go.st (fun _ => XS.iloadN X0.here hx rfl (hb hby (dq dz46 0 0 rfl)) rfl) ?_
  show Go _ _ _ _ _ _ _  s₁ (mkF m 1 #[.val (.int (Int32.ofNat n))] [(.int (Int32.ofNat n))])
  refine Go.st (fun _ => XS.ifYes X0.here hx rfl (pc0 := 1) (pc' := 12) rfl (hb hby (dq dz46 1 1 rfl)) rfl ((if0 _ _).trans (flt (own_onn (by omega) : ¬ ((Int32.ofNat n) < (0 : Int32)))).2.1) (by decide) (by decide)) ?_
  show Go _ _ _ _ _ _ _  s₁ (mkF m 12 #[.val (.int (Int32.ofNat n))] [])
  refine Go.st (fun _ => XS.iloadN X0.here hx rfl (hb hby (dq dz46 2 12 rfl)) rfl) ?_
  show Go _ _ _ _ _ _ _  s₁ (mkF m 13 #[.val (.int (Int32.ofNat n))] [(.int (Int32.ofNat n))])
  refine Go.st (X0.ldcInt hx hown (mvT hZ (hwi hw 258 rfl)) (g := (mkF m 13 #[.val (.int (Int32.ofNat n))] [(.int (Int32.ofNat n))])) rfl (hb hby (dq dz46 3 13 rfl))) ?_
  show Go _ _ _ _ _ _ _  s₁ (mkF m 15 #[.val (.int (Int32.ofNat n))] [(.int (1073741823 : Int32)), (.int (Int32.ofNat n))])
  refine Go.st (fun _ => XS.icmpYes X0.here hx rfl (pc0 := 15) (pc' := 55) rfl (hb hby (dq dz46 4 15 rfl)) rfl (tlt (own_bigl (by omega) : (Int32.ofNat n) < (1073741823 : Int32))).1 (by decide) (by decide)) ?_
  show Go _ _ _ _ _ _ _  s₁ (mkF m 55 #[.val (.int (Int32.ofNat n))] [])
  refine Go.st (fun _ => XS.iloadN X0.here hx rfl (hb hby (dq dz46 5 55 rfl)) rfl) ?_
  refine Go.st (fun _ => XS.iconst X0.here hx rfl (hb hby (dq dz46 6 56 rfl))) ?_
  refine Go.st (fun _ => XS.ishl X0.here hx rfl (hb hby (dq dz46 7 57 rfl)) rfl) ?_
  show Go _ _ _ _ _ _ _  s₁ (mkF m 58 #[.val (.int (Int32.ofNat n))] [(.int ((Int32.ofNat n) <<< ((1 : Int32) &&& 31)))])
  rw [own_shl1 (by omega)]
  show Go _ _ _ _ _ _ _  s₁ (mkF m 58 #[.val (.int (Int32.ofNat n))] [(.int (Int32.ofNat (2 * n)))])
  refine Go.retI X0 hlk hx Bd.returns (hb hby (dq dz46 8 58 rfl)) (by decide) (by decide) ?_
  show Q_rmNBL Z _ h0 n0 _ s₁.heap _
  rw [e0]
  exact ⟨rfl, N0, rfl⟩
def Q_rmNBF (Z : State) (n : Nat) (h0 : Heap) (n0 : Nat) (v : Option Value) (h : Heap) (L : List Loc) : Prop := ∃ (b : Addr) (kb : ClassId), v = some (.ref b) ∧ Fr n0 L ∧ Ext h0 h ∧ h0.size ≤ b ∧ Arv Z h b kb .byte (Int32.ofNat (2 * n)) [] (.int 0) ∧ Exa Z h b "[B"
theorem rmNBF (l : Launch) (Z : State) (a0 : Array Value) (hw : HWt a0 Z) (ws : List Jvm.Cond) (n : Nat) (h0 : Heap) (n0 : Nat) (O : Old Z n0 h0) (hn : n ≤ 64) :
    Met l mY33 (Jvm.Cond.code mY33 jdk_52_method_2_code 1 (some (.array .byte)) :: ws) rz1_1_128_12 #[(.int (Int32.ofNat n))] Z h0 (Q_rmNBF Z n h0 n0) := by
  refine MetFree.of_bodySF (plainFor_of_name pn_45) hisR ?_
  intro p e s m args below meth c s₁ Bd hml0 hP hK
  obtain ⟨rfl, hZ, hh⟩ := hP
  have hx := Bd.exec
  have hby := Bd.bytes
  have hml : c.maxLocals = 1 := hml0
  have hown : s.vm.findClass "java/lang/StringUTF16" = some m.cls := findClass_of_methodNamed Bd.named
  have hlk : meth.locks = false := BodyLoose.notSynchronized Bd
  have X0 : Stand p l e rz1_1_128_12 s m #[(.int (Int32.ofNat n))] below meth c s₁ [] 0 0 := Stand.of_body Bd
  have e0 : s₁.heap = h0 := by rw [← hh, Bd.state]; rfl
  have N0 := Fr.nil n0
  have KK : Keep h0 h0 [] := Keep.refl h0 _
  show Go p e below s rz1_1_128_12.cells rz1_1_128_12.slots (Q_rmNBF Z n h0 n0) s₁ (entryFrame m #[(.int (Int32.ofNat n))] 1)
  refine Go.eq (ef_rmNBF m (Int32.ofNat n)) ?_
  show Go _ _ _ _ _ _ _  s₁ (mkF m 0 #[.val (.int (Int32.ofNat n))] [])
  refine Go.st (fun _ => XS.iloadN X0.here hx rfl (hb hby (dq dz45 0 0 rfl)) rfl) ?_
  show Go _ _ _ _ _ _ _  s₁ (mkF m 1 #[.val (.int (Int32.ofNat n))] [(.int (Int32.ofNat n))])
  refine Go.pureS (w := (some (.int (Int32.ofNat (2 * n))))) (rest := []) (pc' := 4) (Jvm.LawKit.callS X0 hx (y := mY32) hown (mvT hZ (hwi hw 255 rfl)) (mvT hZ (hwi hw 256 rfl)) (mvT hZ (hwi hw 21 rfl)) (mvT hZ (hwi hw 257 rfl)) (by decide) (backOf (W := 0) (rmNBL l Z a0 hw [] n h0 n0 O (by omega)) hZ (hwi hw 257 rfl) (hwi hw 21 rfl) (by decide) (by decide)) (g := (mkF m 1 #[.val (.int (Int32.ofNat n))] [(.int (Int32.ofNat n))])) rfl (by rw [hml]; rfl) (argsL := [(.int (Int32.ofNat n))]) (rest := []) (lenOf pd__I_I rfl) rfl (by show 2 * 0 + _ ≤ _; exact Nat.le_of_eq rfl) (hb hby (dq dz45 1 1 rfl)) (fun _ _ => ⟨rfl, e0, (by decide : 0 + 0 ≤ _), (by decide : 0 + 0 ≤ _)⟩)) (fun _ _ _ q => q) N0 (fun T1 L1 X1 e1q N1 => ?_)
  show Go _ _ _ _ _ _ _  T1 (mkF m 4 #[.val (.int (Int32.ofNat n))] [(.int (Int32.ofNat (2 * n)))])
  obtain ⟨T2, h2, k2, X2, e2, E2, A2, B2, st2⟩ := newPE X1 hx hZ (hwi hw 23 rfl) e1q (g := (mkF m 4 #[.val (.int (Int32.ofNat n))] [(.int (Int32.ofNat (2 * n)))])) rfl (hb hby (dq dz45 2 4 rfl)) rfl (own_onn (by omega)) (cap := 128) (by rw [own_ocl (by omega)]; omega) (by decide) (by decide) (by decide) (ad := "[B") (by decide +kernel)
  obtain ⟨b2, g2⟩ : ∃ z, z = h0.size := ⟨_, rfl⟩
  rw [← g2] at A2 B2 st2
  refine Go.st st2 ?_
  have g_b2 : n0 ≤ b2 := by rw [g2]; exact own_le O
  have sz_b2 : h0.size ≤ b2 := by rw [g2]; exact KK.1
  have O := O.ext E2
  have KK := KK.ext E2
  have E_b2 := B2
  have V_b2 := Arv.new A2 (own_onn (by omega))
  show Go _ _ _ _ _ _ _  T2 (mkF m 6 #[.val (.int (Int32.ofNat n))] [(.ref b2)])
  refine Go.retR X2 hlk hx Bd.returns rfl rfl rfl (hb hby (dq dz45 3 6 rfl)) (by decide) (by decide) ?_
  show Q_rmNBF Z _ h0 n0 _ T2.heap _
  rw [e2]
  exact ⟨_, _, rfl, N1, own_ext0 KK, sz_b2, V_b2, E_b2⟩
def Q_rmTBs (Z : State) (a1 : Addr) (kc : ClassId) (cs : List Int32) (h0 : Heap) (n0 : Nat) (v : Option Value) (h : Heap) (L : List Loc) : Prop := ∃ (b : Addr) (kb : ClassId), v = some (.ref b) ∧ Fr n0 L ∧ Ext h0 h ∧ h0.size ≤ b ∧ Arv Z h b kb .byte (Int32.ofNat (2 * cs.length)) ((own_ub cs).map Value.int) (.int 0)
theorem rmTBs (l : Launch) (Z : State) (a0 : Array Value) (hw : HWt a0 Z) (ws : List Jvm.Cond) (a1 : Addr) (kc : ClassId) (cs : List Int32) (h0 : Heap) (n0 : Nat) (O : Old Z n0 h0) (S_ad : Sta Z Z.heap "java/lang/StringUTF16" "$assertionsDisabled" "Z" (.int 1)) (S_hi : Sta Z Z.heap "java/lang/StringUTF16" "HI_BYTE_SHIFT" "I" (.int 0)) (S_lo : Sta Z Z.heap "java/lang/StringUTF16" "LO_BYTE_SHIFT" "I" (.int 8)) (A_a1 : Arv Z h0 a1 kc .char (Int32.ofNat cs.length) (cs.map Value.int) (.int 0)) (hn : cs.length ≤ 64) :
    Met l mY34 (Jvm.Cond.code mY34 jdk_52_method_14_code 5 (some (.array .byte)) :: ws) rz2_1_128_24 #[(.ref a1), (.int (0 : Int32)), (.int (Int32.ofNat cs.length))] Z h0 (Q_rmTBs Z a1 kc cs h0 n0) := by
  refine MetFree.of_bodySF (plainFor_of_name pn_44) hisR ?_
  intro p e s m args below meth c s₁ Bd hml0 hP hK
  obtain ⟨rfl, hZ, hh⟩ := hP
  have hx := Bd.exec
  have hby := Bd.bytes
  have hml : c.maxLocals = 5 := hml0
  have hown : s.vm.findClass "java/lang/StringUTF16" = some m.cls := findClass_of_methodNamed Bd.named
  have hlk : meth.locks = false := BodyLoose.notSynchronized Bd
  have X0 : Stand p l e rz2_1_128_24 s m #[(.ref a1), (.int (0 : Int32)), (.int (Int32.ofNat cs.length))] below meth c s₁ [] 0 0 := Stand.of_body Bd
  have e0 : s₁.heap = h0 := by rw [← hh, Bd.state]; rfl
  have N0 := Fr.nil n0
  have KK : Keep h0 h0 [] := Keep.refl h0 _
  show Go p e below s rz2_1_128_24.cells rz2_1_128_24.slots (Q_rmTBs Z a1 kc cs h0 n0) s₁ (entryFrame m #[(.ref a1), (.int (0 : Int32)), (.int (Int32.ofNat cs.length))] 5)
  refine Go.eq (ef_rmTBs m a1 (0 : Int32) (Int32.ofNat cs.length)) ?_
  show Go _ _ _ _ _ _ _  s₁ (mkF m 0 #[.val (.ref a1), .val (.int (0 : Int32)), .val (.int (Int32.ofNat cs.length)), .unset, .unset] [])
  refine Go.st (fun _ => XS.iloadN X0.here hx rfl (hb hby (dq dz44 0 0 rfl)) rfl) ?_
  show Go _ _ _ _ _ _ _  s₁ (mkF m 1 #[.val (.ref a1), .val (.int (0 : Int32)), .val (.int (Int32.ofNat cs.length)), .unset, .unset] [(.int (Int32.ofNat cs.length))])
  obtain ⟨_, _, ⟨T1, L1, k1, n1⟩, -, X1, ⟨Lc1, hQ1, l1, y1, z1⟩, st1⟩ := Jvm.LawKit.callS X0 hx (y := mY33) hown (mvT hZ (hwi hw 252 rfl)) (mvT hZ (hwi hw 253 rfl)) (mvT hZ (hwi hw 21 rfl)) (mvT hZ (hwi hw 254 rfl)) (by decide) (backOf (W := 0) (rmNBF l Z a0 hw [] cs.length h0 n0 O hn) hZ (hwi hw 254 rfl) (hwi hw 21 rfl) (by decide) (by decide)) (g := (mkF m 1 #[.val (.ref a1), .val (.int (0 : Int32)), .val (.int (Int32.ofNat cs.length)), .unset, .unset] [(.int (Int32.ofNat cs.length))])) rfl (by rw [hml]; rfl) (argsL := [(.int (Int32.ofNat cs.length))]) (rest := []) (lenOf pd__I__B rfl) rfl (by show 2 * 0 + _ ≤ _; exact Nat.le_of_eq rfl) (hb hby (dq dz44 1 1 rfl)) (fun _ _ => ⟨rfl, e0, (by decide : 0 + 1 ≤ _), (by decide : 0 + 128 ≤ _)⟩)
  dsimp only [Pt.U, Pt.locs, Pt.cells, Pt.slots] at X1 l1 y1 z1 st1 hQ1
  rw [l1, y1, z1] at X1
  have X1 : Stand p l e _ _ m _ below meth c T1 _ 1 128 := X1
  obtain ⟨t1, kt1, rfl, N1q, E1q, lt1, Vt1, Xt1⟩ := hQ1
  have N1 := Fr.app N0 N1q
  refine Go.st st1 ?_
  have g_t1 : n0 ≤ t1 := Nat.le_trans (own_le O) lt1
  have sz_t1 : h0.size ≤ t1 := Nat.le_trans KK.1 lt1
  have ne_a1_t1 : a1 ≠ t1 := Nat.ne_of_lt (Nat.lt_of_lt_of_le A_a1.lt lt1)
  have E1 := E1q
  have A_a1 := A_a1.ext E1
  have O := O.ext E1
  have KK := KK.ext E1
  show Go _ _ _ _ _ _ _  T1 (mkF m 4 #[.val (.ref a1), .val (.int (0 : Int32)), .val (.int (Int32.ofNat cs.length)), .unset, .unset] [(.ref t1)])
  refine Go.st (fun _ => XS.astoreN X1.here hx rfl (hb hby (dq dz44 2 4 rfl)) rfl rfl (l' := #[.val (.ref a1), .val (.int (0 : Int32)), .val (.int (Int32.ofNat cs.length)), .val (.ref t1), .unset]) rfl) ?_
  refine Go.st (fun _ => XS.iconst X1.here hx rfl (hb hby (dq dz44 3 5 rfl))) ?_
  refine Go.st (fun _ => XS.istore X1.here hx rfl (hb hby (dq dz44 4 6 rfl)) rfl (l' := #[.val (.ref a1), .val (.int (0 : Int32)), .val (.int (Int32.ofNat cs.length)), .val (.ref t1), .val (.int (0 : Int32))]) rfl) ?_
  have loop : ∀ (k9 : Nat) (T9 : State) (h9 : Heap) (Lz : List Loc) (i : Nat), cs.length - i = k9 → Stand p l e rz2_1_128_24 s m #[(.ref a1), (.int (0 : Int32)), (.int (Int32.ofNat cs.length))] below meth c T9 Lz 1 128 → T9.heap = h9 → Old Z n0 h9 → Fr n0 Lz → Keep h0 h9 [] → (Arv Z h9 a1 kc .char (Int32.ofNat cs.length) (cs.map Value.int) (.int 0)) → (Arv Z h9 t1 kt1 .byte (Int32.ofNat (2 * cs.length)) ((own_ub (cs.take i)).map Value.int) (.int 0)) → (i ≤ cs.length) → Go p e below s rz2_1_128_24.cells rz2_1_128_24.slots (Q_rmTBs Z a1 kc cs h0 n0) T9 (mkF m 8 #[.val (.ref a1), .val (.int (Int32.ofNat i)), .val (.int (Int32.ofNat cs.length)), .val (.ref t1), .val (.int (Int32.ofNat i))] []) := by
    intro k9
    induction k9 with
    | zero =>
      intro T9 h9 Lz i hk9 X9 e9 O N9 KK A_a1 A_b hi
      refine Go.st (fun _ => XS.iload X9.here hx rfl (hb hby (dq dz44 5 8 rfl)) rfl) ?_
      refine Go.st (fun _ => XS.iloadN X9.here hx rfl (hb hby (dq dz44 6 10 rfl)) rfl) ?_
      show Go _ _ _ _ _ _ _  T9 (mkF m 11 #[.val (.ref a1), .val (.int (Int32.ofNat i)), .val (.int (Int32.ofNat cs.length)), .val (.ref t1), .val (.int (Int32.ofNat i))] [(.int (Int32.ofNat cs.length)), (.int (Int32.ofNat i))])
      refine Go.st (fun _ => XS.icmpYes X9.here hx rfl (pc0 := 11) (pc' := 32) rfl (hb hby (dq dz44 7 11 rfl)) rfl (flt (fun q => absurd ((own_olt (by omega) (by omega)).mp q) (by omega) : ¬ ((Int32.ofNat i) < (Int32.ofNat cs.length)))).2.1 (by decide) (by decide)) ?_
      show Go _ _ _ _ _ _ _  T9 (mkF m 32 #[.val (.ref a1), .val (.int (Int32.ofNat i)), .val (.int (Int32.ofNat cs.length)), .val (.ref t1), .val (.int (Int32.ofNat i))] [])
      refine Go.st (fun _ => XS.aloadN X9.here hx rfl (hb hby (dq dz44 8 32 rfl)) rfl rfl) ?_
      show Go _ _ _ _ _ _ _  T9 (mkF m 33 #[.val (.ref a1), .val (.int (Int32.ofNat i)), .val (.int (Int32.ofNat cs.length)), .val (.ref t1), .val (.int (Int32.ofNat i))] [(.ref t1)])
      refine Go.retR X9 hlk hx Bd.returns rfl rfl rfl (hb hby (dq dz44 9 33 rfl)) (by decide) (by decide) ?_
      show Q_rmTBs Z _ _ _ h0 n0 _ T9.heap _
      rw [e9]
      have q : i = cs.length := by omega
      rw [q, List.take_length] at A_b
      exact ⟨_, _, rfl, N9, own_ext0 KK, sz_t1, A_b⟩
    | succ k9 ih =>
      intro T9 h9 Lz i hk9 X9 e9 O N9 KK A_a1 A_b hi
      refine Go.st (fun _ => XS.iload X9.here hx rfl (hb hby (dq dz44 5 8 rfl)) rfl) ?_
      refine Go.st (fun _ => XS.iloadN X9.here hx rfl (hb hby (dq dz44 6 10 rfl)) rfl) ?_
      show Go _ _ _ _ _ _ _  T9 (mkF m 11 #[.val (.ref a1), .val (.int (Int32.ofNat i)), .val (.int (Int32.ofNat cs.length)), .val (.ref t1), .val (.int (Int32.ofNat i))] [(.int (Int32.ofNat cs.length)), (.int (Int32.ofNat i))])
      refine Go.st (fun _ => XS.icmpNo X9.here hx rfl (hb hby (dq dz44 7 11 rfl)) rfl (tlt ((own_olt (by omega) (by omega)).mpr (by omega) : (Int32.ofNat i) < (Int32.ofNat cs.length))).2.1) ?_
      show Go _ _ _ _ _ _ _  T9 (mkF m 14 #[.val (.ref a1), .val (.int (Int32.ofNat i)), .val (.int (Int32.ofNat cs.length)), .val (.ref t1), .val (.int (Int32.ofNat i))] [])
      refine Go.st (fun _ => XS.aloadN X9.here hx rfl (hb hby (dq dz44 10 14 rfl)) rfl rfl) ?_
      refine Go.st (fun _ => XS.iload X9.here hx rfl (hb hby (dq dz44 11 15 rfl)) rfl) ?_
      refine Go.st (fun _ => XS.aloadN X9.here hx rfl (hb hby (dq dz44 12 17 rfl)) rfl rfl) ?_
      refine Go.st (fun _ => XS.iloadN X9.here hx rfl (hb hby (dq dz44 13 18 rfl)) rfl) ?_
      show Go _ _ _ _ _ _ _  T9 (mkF m 19 #[.val (.ref a1), .val (.int (Int32.ofNat i)), .val (.int (Int32.ofNat cs.length)), .val (.ref t1), .val (.int (Int32.ofNat i))] [(.int (Int32.ofNat i)), (.ref a1), (.int (Int32.ofNat i)), (.ref t1)])
      obtain ⟨cl2, Ar2, q2, S2, M2, Hh2, G2⟩ := id A_a1
      refine Go.st (X9.caload hx (j := (Int32.ofNat i)) (v := (.int (cs.getD i 0))) (by rw [e9]; exact Ar2.1) (State.isArrayOf_alike hZ.alike Ar2.2.1) Ar2.2.2 (inb_of S2 ⟨own_onn (by omega), (own_olt (by omega) (by omega)).mpr (by omega)⟩) (Hh2.at (inb_of S2 ⟨own_onn (by omega), (own_olt (by omega) (by omega)).mpr (by omega)⟩) (by rw [own_ocl (by omega)]; exact own_gm cs i)) (g := (mkF m 19 #[.val (.ref a1), .val (.int (Int32.ofNat i)), .val (.int (Int32.ofNat cs.length)), .val (.ref t1), .val (.int (Int32.ofNat i))] [(.int (Int32.ofNat i)), (.ref a1), (.int (Int32.ofNat i)), (.ref t1)])) rfl rfl (hb hby (dq dz44 14 19 rfl))) ?_
      show Go _ _ _ _ _ _ _  T9 (mkF m 20 #[.val (.ref a1), .val (.int (Int32.ofNat i)), .val (.int (Int32.ofNat cs.length)), .val (.ref t1), .val (.int (Int32.ofNat i))] [(.int (cs.getD i 0)), (.int (Int32.ofNat i)), (.ref t1)])
      obtain ⟨_, _, ⟨T3, L3, k3, n3⟩, -, X3, ⟨Lc3, hQ3, l3, y3, z3⟩, st3⟩ := Jvm.LawKit.callS X9 hx (y := mY31) hown (mvT hZ (hwi hw 259 rfl)) (mvT hZ (hwi hw 260 rfl)) (mvT hZ (hwi hw 21 rfl)) (mvT hZ (hwi hw 261 rfl)) (by decide) (backOf (W := 0) (rmPutC l Z a0 hw [] t1 (cs.getD i 0) i kt1 (2 * cs.length) ((own_ub (cs.take i)).map Value.int) h9 n0 O S_ad S_hi S_lo A_b (own_tkl (by omega)) (by omega) (by omega) g_t1) hZ (hwi hw 261 rfl) (hwi hw 21 rfl) (by decide) (by decide)) (g := (mkF m 20 #[.val (.ref a1), .val (.int (Int32.ofNat i)), .val (.int (Int32.ofNat cs.length)), .val (.ref t1), .val (.int (Int32.ofNat i))] [(.int (cs.getD i 0)), (.int (Int32.ofNat i)), (.ref t1)])) rfl (by rw [hml]; rfl) (argsL := [(.ref t1), (.int (Int32.ofNat i)), (.int (cs.getD i 0))]) (rest := []) (lenOf pd___BII_V rfl) rfl (by show 2 * 0 + _ ≤ _; exact Nat.le_of_eq rfl) (hb hby (dq dz44 15 20 rfl)) (fun _ _ => ⟨rfl, e9, (by decide : 1 + 0 ≤ _), (by decide : 128 + 0 ≤ _)⟩)
      dsimp only [Pt.U, Pt.locs, Pt.cells, Pt.slots] at X3 l3 y3 z3 st3 hQ3
      rw [l3, y3, z3] at X3
      have X3 : Stand p l e _ _ m _ below meth c T3 _ 1 128 := X3
      obtain ⟨rfl, N3q, K3q, Pq3⟩ := hQ3
      have N3 := Fr.app N9 N3q
      refine Go.st st3 ?_
      have A_a1 := A_a1.keep K3q (ninS ne_a1_t1 nin0)
      have O := O.keep K3q (allS g_t1 all0)
      have KK := KK.trans K3q (allS (Or.inr sz_t1) all0)
      rw [own_tku (by omega)] at Pq3
      show Go _ _ _ _ _ _ _  T3 (mkF m 23 #[.val (.ref a1), .val (.int (Int32.ofNat i)), .val (.int (Int32.ofNat cs.length)), .val (.ref t1), .val (.int (Int32.ofNat i))] [])
      refine Go.st (fun _ => XS.iinc X3.here hx rfl (hb hby (dq dz44 16 23 rfl)) rfl (l' := #[.val (.ref a1), .val (.int ((Int32.ofNat i) + (1 : Int32))), .val (.int (Int32.ofNat cs.length)), .val (.ref t1), .val (.int (Int32.ofNat i))]) rfl) ?_
      show Go _ _ _ _ _ _ _  T3 (mkF m 26 #[.val (.ref a1), .val (.int ((Int32.ofNat i) + (1 : Int32))), .val (.int (Int32.ofNat cs.length)), .val (.ref t1), .val (.int (Int32.ofNat i))] [])
      rw [own_1inc]
      show Go _ _ _ _ _ _ _  T3 (mkF m 26 #[.val (.ref a1), .val (.int (Int32.ofNat (i + 1))), .val (.int (Int32.ofNat cs.length)), .val (.ref t1), .val (.int (Int32.ofNat i))] [])
      refine Go.st (fun _ => XS.iinc X3.here hx rfl (hb hby (dq dz44 17 26 rfl)) rfl (l' := #[.val (.ref a1), .val (.int (Int32.ofNat (i + 1))), .val (.int (Int32.ofNat cs.length)), .val (.ref t1), .val (.int ((Int32.ofNat i) + (1 : Int32)))]) rfl) ?_
      show Go _ _ _ _ _ _ _  T3 (mkF m 29 #[.val (.ref a1), .val (.int (Int32.ofNat (i + 1))), .val (.int (Int32.ofNat cs.length)), .val (.ref t1), .val (.int ((Int32.ofNat i) + (1 : Int32)))] [])
      rw [own_1inc]
      show Go _ _ _ _ _ _ _  T3 (mkF m 29 #[.val (.ref a1), .val (.int (Int32.ofNat (i + 1))), .val (.int (Int32.ofNat cs.length)), .val (.ref t1), .val (.int (Int32.ofNat (i + 1)))] [])
      refine Go.st (fun _ => XS.goto X3.here hx rfl (pc0 := 29) (pc' := 8) rfl (hb hby (dq dz44 18 29 rfl)) (by decide) (by decide)) ?_
      show Go _ _ _ _ _ _ _  T3 (mkF m 8 #[.val (.ref a1), .val (.int (Int32.ofNat (i + 1))), .val (.int (Int32.ofNat cs.length)), .val (.ref t1), .val (.int (Int32.ofNat (i + 1)))] [])
      exact ih T3 T3.heap _ (i + 1) (by omega) X3 rfl O N3 KK A_a1 Pq3 (by omega)
  show Go _ _ _ _ _ _ _  T1 (mkF m 8 #[.val (.ref a1), .val (.int (0 : Int32)), .val (.int (Int32.ofNat cs.length)), .val (.ref t1), .val (.int (0 : Int32))] [])
  exact loop _ T1 T1.heap _ 0 rfl X1 rfl O N1 KK A_a1 Vt1 (Nat.zero_le _)
def Q_rmGetC (Z : State) (a1 : Addr) (kb : ClassId) (cs : List Int32) (i : Nat) (h0 : Heap) (n0 : Nat) (v : Option Value) (h : Heap) (L : List Loc) : Prop := v = some (.int (cs.getD i 0)) ∧ Fr n0 L ∧ h = h0
theorem rmGetC (l : Launch) (Z : State) (a0 : Array Value) (hw : HWt a0 Z) (ws : List Jvm.Cond) (a1 : Addr) (kb : ClassId) (cs : List Int32) (i : Nat) (h0 : Heap) (n0 : Nat) (O : Old Z n0 h0) (S_ad : Sta Z Z.heap "java/lang/StringUTF16" "$assertionsDisabled" "Z" (.int 1)) (S_hi : Sta Z Z.heap "java/lang/StringUTF16" "HI_BYTE_SHIFT" "I" (.int 0)) (S_lo : Sta Z Z.heap "java/lang/StringUTF16" "LO_BYTE_SHIFT" "I" (.int 8)) (A_a1 : Arv Z h0 a1 kb .byte (Int32.ofNat (2 * cs.length)) ((own_ub cs).map Value.int) (.int 0)) (hn : cs.length ≤ 64) (hi : i < cs.length) (hr : nar .char (cs.getD i 0) = cs.getD i 0) :
    Met l mY35 (Jvm.Cond.code mY35 jdk_52_method_5_code 2 (some .char) :: ws) rz0_0_0_0 #[(.ref a1), (.int (Int32.ofNat i))] Z h0 (Q_rmGetC Z a1 kb cs i h0 n0) := by
  refine MetFree.of_bodySF (plainFor_of_name pn_48) hisR ?_
  intro p e s m args below meth c s₁ Bd hml0 hP hK
  obtain ⟨rfl, hZ, hh⟩ := hP
  have hx := Bd.exec
  have hby := Bd.bytes
  have hml : c.maxLocals = 2 := hml0
  have hown : s.vm.findClass "java/lang/StringUTF16" = some m.cls := findClass_of_methodNamed Bd.named
  have hlk : meth.locks = false := BodyLoose.notSynchronized Bd
  have X0 : Stand p l e rz0_0_0_0 s m #[(.ref a1), (.int (Int32.ofNat i))] below meth c s₁ [] 0 0 := Stand.of_body Bd
  have e0 : s₁.heap = h0 := by rw [← hh, Bd.state]; rfl
  have N0 := Fr.nil n0
  show Go p e below s rz0_0_0_0.cells rz0_0_0_0.slots (Q_rmGetC Z a1 kb cs i h0 n0) s₁ (entryFrame m #[(.ref a1), (.int (Int32.ofNat i))] 2)
  refine Go.eq (ef_rmGetC m a1 (Int32.ofNat i)) ?_
  show Go _ _ _ _ _ _ _  s₁ (mkF m 0 #[.val (.ref a1), .val (.int (Int32.ofNat i))] [])
  obtain ⟨T1, X1, e1, st1⟩ := getS2 X0 hx hZ hown (host := "") (Or.inl (hwi hw 262 rfl)) Via.refl e0 (S_ad.ext O.2) (g := (mkF m 0 #[.val (.ref a1), .val (.int (Int32.ofNat i))] [])) rfl (hb hby (dq dz48 0 0 rfl))
  refine Go.st st1 ?_
  show Go _ _ _ _ _ _ _  T1 (mkF m 3 #[.val (.ref a1), .val (.int (Int32.ofNat i))] [(.int (1 : Int32))])
  refine Go.st (fun _ => XS.ifYes X1.here hx rfl (pc0 := 3) (pc' := 28) rfl (hb hby (dq dz48 1 3 rfl)) rfl ((if0 _ _).trans (feq (by decide : ¬ ((1 : Int32) = (0 : Int32)))).2) (by decide) (by decide)) ?_
  show Go _ _ _ _ _ _ _  T1 (mkF m 28 #[.val (.ref a1), .val (.int (Int32.ofNat i))] [])
  refine Go.st (fun _ => XS.iloadN X1.here hx rfl (hb hby (dq dz48 2 28 rfl)) rfl) ?_
  refine Go.st (fun _ => XS.iconst X1.here hx rfl (hb hby (dq dz48 3 29 rfl))) ?_
  refine Go.st (fun _ => XS.ishl X1.here hx rfl (hb hby (dq dz48 4 30 rfl)) rfl) ?_
  show Go _ _ _ _ _ _ _  T1 (mkF m 31 #[.val (.ref a1), .val (.int (Int32.ofNat i))] [(.int ((Int32.ofNat i) <<< ((1 : Int32) &&& 31)))])
  rw [own_shl1 (by omega)]
  refine Go.st (fun _ => XS.istoreN X1.here hx rfl (hb hby (dq dz48 5 31 rfl)) rfl (l' := #[.val (.ref a1), .val (.int (Int32.ofNat (2 * i)))]) rfl) ?_
  refine Go.st (fun _ => XS.aloadN X1.here hx rfl (hb hby (dq dz48 6 32 rfl)) rfl rfl) ?_
  refine Go.st (fun _ => XS.iloadN X1.here hx rfl (hb hby (dq dz48 7 33 rfl)) rfl) ?_
  show Go _ _ _ _ _ _ _  T1 (mkF m 34 #[.val (.ref a1), .val (.int (Int32.ofNat (2 * i)))] [(.int (Int32.ofNat (2 * i))), (.ref a1)])
  refine Go.st (fun _ => XS.iinc X1.here hx rfl (hb hby (dq dz48 8 34 rfl)) rfl (l' := #[.val (.ref a1), .val (.int ((Int32.ofNat (2 * i)) + (1 : Int32)))]) rfl) ?_
  show Go _ _ _ _ _ _ _  T1 (mkF m 37 #[.val (.ref a1), .val (.int ((Int32.ofNat (2 * i)) + (1 : Int32)))] [(.int (Int32.ofNat (2 * i))), (.ref a1)])
  rw [own_1inc]
  show Go _ _ _ _ _ _ _  T1 (mkF m 37 #[.val (.ref a1), .val (.int (Int32.ofNat ((2 * i) + 1)))] [(.int (Int32.ofNat (2 * i))), (.ref a1)])
  obtain ⟨cl2, Ar2, q2, S2, M2, Hh2, G2⟩ := id A_a1
  refine Go.st (X1.baloadBytes hx (j := (Int32.ofNat (2 * i))) (v := (.int (own_lo (cs.getD i 0)))) (by rw [e1]; exact Ar2.1) (State.isArrayOf_alike hZ.alike Ar2.2.1) Ar2.2.2 (inb_of S2 ⟨own_onn (by omega), (own_olt (by omega) (by omega)).mpr (by omega)⟩) (Hh2.at (inb_of S2 ⟨own_onn (by omega), (own_olt (by omega) (by omega)).mpr (by omega)⟩) (by rw [own_ocl (by omega), own_gm, own_ublo cs i hi])) (g := (mkF m 37 #[.val (.ref a1), .val (.int (Int32.ofNat ((2 * i) + 1)))] [(.int (Int32.ofNat (2 * i))), (.ref a1)])) rfl rfl (hb hby (dq dz48 9 37 rfl))) ?_
  show Go _ _ _ _ _ _ _  T1 (mkF m 38 #[.val (.ref a1), .val (.int (Int32.ofNat ((2 * i) + 1)))] [(.int (own_lo (cs.getD i 0)))])
  refine Go.st (fun _ => XS.sipush X1.here hx rfl (hb hby (dq dz48 10 38 rfl))) ?_
  refine Go.st (fun _ => XS.iand X1.here hx rfl (hb hby (dq dz48 11 41 rfl)) rfl) ?_
  show Go _ _ _ _ _ _ _  T1 (mkF m 42 #[.val (.ref a1), .val (.int (Int32.ofNat ((2 * i) + 1)))] [(.int ((own_lo (cs.getD i 0)) &&& (255 : Int32)))])
  obtain ⟨T3, X3, e3, st3⟩ := getS2 X1 hx hZ hown (host := "") (Or.inl (hwi hw 263 rfl)) Via.refl e1 (S_hi.ext O.2) (g := (mkF m 42 #[.val (.ref a1), .val (.int (Int32.ofNat ((2 * i) + 1)))] [(.int ((own_lo (cs.getD i 0)) &&& (255 : Int32)))])) rfl (hb hby (dq dz48 12 42 rfl))
  refine Go.st st3 ?_
  show Go _ _ _ _ _ _ _  T3 (mkF m 45 #[.val (.ref a1), .val (.int (Int32.ofNat ((2 * i) + 1)))] [(.int (0 : Int32)), (.int ((own_lo (cs.getD i 0)) &&& (255 : Int32)))])
  refine Go.st (fun _ => XS.ishl X3.here hx rfl (hb hby (dq dz48 13 45 rfl)) rfl) ?_
  refine Go.st (fun _ => XS.aloadN X3.here hx rfl (hb hby (dq dz48 14 46 rfl)) rfl rfl) ?_
  refine Go.st (fun _ => XS.iloadN X3.here hx rfl (hb hby (dq dz48 15 47 rfl)) rfl) ?_
  show Go _ _ _ _ _ _ _  T3 (mkF m 48 #[.val (.ref a1), .val (.int (Int32.ofNat ((2 * i) + 1)))] [(.int (Int32.ofNat ((2 * i) + 1))), (.ref a1), (.int (((own_lo (cs.getD i 0)) &&& (255 : Int32)) <<< ((0 : Int32) &&& 31)))])
  obtain ⟨cl4, Ar4, q4, S4, M4, Hh4, G4⟩ := id A_a1
  refine Go.st (X3.baloadBytes hx (j := (Int32.ofNat ((2 * i) + 1))) (v := (.int (own_hi (cs.getD i 0)))) (by rw [e3]; exact Ar4.1) (State.isArrayOf_alike hZ.alike Ar4.2.1) Ar4.2.2 (inb_of S4 ⟨own_onn (by omega), (own_olt (by omega) (by omega)).mpr (by omega)⟩) (Hh4.at (inb_of S4 ⟨own_onn (by omega), (own_olt (by omega) (by omega)).mpr (by omega)⟩) (by rw [own_ocl (by omega), own_gm, own_ubhi cs i hi])) (g := (mkF m 48 #[.val (.ref a1), .val (.int (Int32.ofNat ((2 * i) + 1)))] [(.int (Int32.ofNat ((2 * i) + 1))), (.ref a1), (.int (((own_lo (cs.getD i 0)) &&& (255 : Int32)) <<< ((0 : Int32) &&& 31)))])) rfl rfl (hb hby (dq dz48 16 48 rfl))) ?_
  show Go _ _ _ _ _ _ _  T3 (mkF m 49 #[.val (.ref a1), .val (.int (Int32.ofNat ((2 * i) + 1)))] [(.int (own_hi (cs.getD i 0))), (.int (((own_lo (cs.getD i 0)) &&& (255 : Int32)) <<< ((0 : Int32) &&& 31)))])
  refine Go.st (fun _ => XS.sipush X3.here hx rfl (hb hby (dq dz48 17 49 rfl))) ?_
  refine Go.st (fun _ => XS.iand X3.here hx rfl (hb hby (dq dz48 18 52 rfl)) rfl) ?_
  show Go _ _ _ _ _ _ _  T3 (mkF m 53 #[.val (.ref a1), .val (.int (Int32.ofNat ((2 * i) + 1)))] [(.int ((own_hi (cs.getD i 0)) &&& (255 : Int32))), (.int (((own_lo (cs.getD i 0)) &&& (255 : Int32)) <<< ((0 : Int32) &&& 31)))])
  obtain ⟨T5, X5, e5, st5⟩ := getS2 X3 hx hZ hown (host := "") (Or.inl (hwi hw 264 rfl)) Via.refl e3 (S_lo.ext O.2) (g := (mkF m 53 #[.val (.ref a1), .val (.int (Int32.ofNat ((2 * i) + 1)))] [(.int ((own_hi (cs.getD i 0)) &&& (255 : Int32))), (.int (((own_lo (cs.getD i 0)) &&& (255 : Int32)) <<< ((0 : Int32) &&& 31)))])) rfl (hb hby (dq dz48 19 53 rfl))
  refine Go.st st5 ?_
  show Go _ _ _ _ _ _ _  T5 (mkF m 56 #[.val (.ref a1), .val (.int (Int32.ofNat ((2 * i) + 1)))] [(.int (8 : Int32)), (.int ((own_hi (cs.getD i 0)) &&& (255 : Int32))), (.int (((own_lo (cs.getD i 0)) &&& (255 : Int32)) <<< ((0 : Int32) &&& 31)))])
  refine Go.st (fun _ => XS.ishl X5.here hx rfl (hb hby (dq dz48 20 56 rfl)) rfl) ?_
  refine Go.st (fun _ => XS.ior X5.here hx rfl (hb hby (dq dz48 21 57 rfl)) rfl) ?_
  refine Go.st (fun _ => XS.i2c X5.here hx rfl (hb hby (dq dz48 22 58 rfl)) rfl) ?_
  show Go _ _ _ _ _ _ _  T5 (mkF m 59 #[.val (.ref a1), .val (.int (Int32.ofNat ((2 * i) + 1)))] [(.int (((((own_lo (cs.getD i 0)) &&& (255 : Int32)) <<< ((0 : Int32) &&& 31)) ||| (((own_hi (cs.getD i 0)) &&& (255 : Int32)) <<< ((8 : Int32) &&& 31))).toUInt32.toUInt16.toUInt32.toInt32))])
  refine Go.retN X5 hlk hx (t := .char) (z' := (cs.getD i 0)) Bd.returns (by simp) (hb hby (dq dz48 23 59 rfl)) (by decide) (by decide) ((own_nch16 (own_un _)).trans hr) ?_
  show Q_rmGetC Z _ _ _ _ h0 n0 _ T5.heap _
  rw [e5]
  exact ⟨rfl, N0, rfl⟩
def Q_rmC2 (Z : State) (a1 : Addr) (kc : ClassId) (cs : List Int32) (h0 : Heap) (n0 : Nat) (v : Option Value) (h : Heap) (L : List Loc) : Prop := ∃ (b : Addr) (kb : ClassId), v = some (.ref b) ∧ Fr n0 L ∧ Ext h0 h ∧ h0.size ≤ b ∧ Arv Z h b kb .byte (Int32.ofNat (own_by cs).length) ((own_by cs).map Value.int) (.int 0)
theorem rmC2 (l : Launch) (Z : State) (a0 : Array Value) (hw : HWt a0 Z) (ws : List Jvm.Cond) (a1 : Addr) (kc : ClassId) (cs : List Int32) (h0 : Heap) (n0 : Nat) (O : Old Z n0 h0) (S_ad : Sta Z Z.heap "java/lang/StringUTF16" "$assertionsDisabled" "Z" (.int 1)) (S_hi : Sta Z Z.heap "java/lang/StringUTF16" "HI_BYTE_SHIFT" "I" (.int 0)) (S_lo : Sta Z Z.heap "java/lang/StringUTF16" "LO_BYTE_SHIFT" "I" (.int 8)) (A_a1 : Arv Z h0 a1 kc .char (Int32.ofNat cs.length) (cs.map Value.int) (.int 0)) (hn : cs.length ≤ 64) (hr : ∀ j, j < cs.length → nar .char (cs.getD j 0) = cs.getD j 0) :
    Met l mY36 (Jvm.Cond.code mY36 jdk_52_method_16_code 6 (some (.array .byte)) :: ws) rz3_2_192_40 #[(.ref a1), (.int (0 : Int32)), (.int (Int32.ofNat cs.length))] Z h0 (Q_rmC2 Z a1 kc cs h0 n0) := by
  refine MetFree.of_bodySF (plainFor_of_name pn_5) hisR ?_
  intro p e s m args below meth c s₁ Bd hml0 hP hK
  obtain ⟨rfl, hZ, hh⟩ := hP
  have hx := Bd.exec
  have hby := Bd.bytes
  have hml : c.maxLocals = 6 := hml0
  have hown : s.vm.findClass "java/lang/StringUTF16" = some m.cls := findClass_of_methodNamed Bd.named
  have hlk : meth.locks = false := BodyLoose.notSynchronized Bd
  have X0 : Stand p l e rz3_2_192_40 s m #[(.ref a1), (.int (0 : Int32)), (.int (Int32.ofNat cs.length))] below meth c s₁ [] 0 0 := Stand.of_body Bd
  have e0 : s₁.heap = h0 := by rw [← hh, Bd.state]; rfl
  have N0 := Fr.nil n0
  have KK : Keep h0 h0 [] := Keep.refl h0 _
  show Go p e below s rz3_2_192_40.cells rz3_2_192_40.slots (Q_rmC2 Z a1 kc cs h0 n0) s₁ (entryFrame m #[(.ref a1), (.int (0 : Int32)), (.int (Int32.ofNat cs.length))] 6)
  refine Go.eq (ef_rmC2 m a1 (0 : Int32) (Int32.ofNat cs.length)) ?_
  show Go _ _ _ _ _ _ _  s₁ (mkF m 0 #[.val (.ref a1), .val (.int (0 : Int32)), .val (.int (Int32.ofNat cs.length)), .unset, .unset, .unset] [])
  refine Go.st (fun _ => XS.iloadN X0.here hx rfl (hb hby (dq dz5 0 0 rfl)) rfl) ?_
  show Go _ _ _ _ _ _ _  s₁ (mkF m 1 #[.val (.ref a1), .val (.int (0 : Int32)), .val (.int (Int32.ofNat cs.length)), .unset, .unset, .unset] [(.int (Int32.ofNat cs.length))])
  obtain ⟨T1, h1, k1, X1, e1, E1, A1, st1⟩ := newP X0 hx hZ (hwi hw 23 rfl) e0 (g := (mkF m 1 #[.val (.ref a1), .val (.int (0 : Int32)), .val (.int (Int32.ofNat cs.length)), .unset, .unset, .unset] [(.int (Int32.ofNat cs.length))])) rfl (hb hby (dq dz5 1 1 rfl)) rfl (own_onn (by omega)) (cap := 64) (by rw [own_ocl (by omega)]; omega) (by decide) (by decide) (by decide)
  obtain ⟨b1, g1⟩ : ∃ z, z = h0.size := ⟨_, rfl⟩
  rw [← g1] at A1 st1
  refine Go.st st1 ?_
  have g_b1 : n0 ≤ b1 := by rw [g1]; exact own_le O
  have sz_b1 : h0.size ≤ b1 := by rw [g1]; exact KK.1
  have ne_a1_b1 : a1 ≠ b1 := Nat.ne_of_lt (by rw [g1]; exact A_a1.lt)
  have A_a1 := A_a1.ext E1
  have O := O.ext E1
  have KK := KK.ext E1
  have V_b1 := Arv.new A1 (own_onn (by omega))
  show Go _ _ _ _ _ _ _  T1 (mkF m 3 #[.val (.ref a1), .val (.int (0 : Int32)), .val (.int (Int32.ofNat cs.length)), .unset, .unset, .unset] [(.ref b1)])
  refine Go.st (fun _ => XS.astoreN X1.here hx rfl (hb hby (dq dz5 2 3 rfl)) rfl rfl (l' := #[.val (.ref a1), .val (.int (0 : Int32)), .val (.int (Int32.ofNat cs.length)), .val (.ref b1), .unset, .unset]) rfl) ?_
  refine Go.st (fun _ => XS.aloadN X1.here hx rfl (hb hby (dq dz5 3 4 rfl)) rfl rfl) ?_
  refine Go.st (fun _ => XS.iloadN X1.here hx rfl (hb hby (dq dz5 4 5 rfl)) rfl) ?_
  refine Go.st (fun _ => XS.aloadN X1.here hx rfl (hb hby (dq dz5 5 6 rfl)) rfl rfl) ?_
  refine Go.st (fun _ => XS.iconst X1.here hx rfl (hb hby (dq dz5 6 7 rfl))) ?_
  refine Go.st (fun _ => XS.iloadN X1.here hx rfl (hb hby (dq dz5 7 8 rfl)) rfl) ?_
  show Go _ _ _ _ _ _ _  T1 (mkF m 9 #[.val (.ref a1), .val (.int (0 : Int32)), .val (.int (Int32.ofNat cs.length)), .val (.ref b1), .unset, .unset] [(.int (Int32.ofNat cs.length)), (.int (0 : Int32)), (.ref b1), (.int (0 : Int32)), (.ref a1)])
  obtain ⟨_, _, ⟨T2, L2, k2, n2⟩, -, X2, ⟨Lc2, hQ2, l2, y2, z2⟩, st2⟩ := Jvm.LawKit.callS X1 hx (y := mY30) hown (mvT hZ (hwi hw 24 rfl)) (mvT hZ (hwi hw 25 rfl)) (mvT hZ (hwi hw 21 rfl)) (mvT hZ (hwi hw 26 rfl)) (by decide) (backOf (W := 0) (rmCmp l Z a0 hw [] a1 b1 kc cs k1 h1 n0 O A_a1 hn V_b1 g_b1 ne_a1_b1) hZ (hwi hw 26 rfl) (hwi hw 21 rfl) (by decide) (by decide)) (g := (mkF m 9 #[.val (.ref a1), .val (.int (0 : Int32)), .val (.int (Int32.ofNat cs.length)), .val (.ref b1), .unset, .unset] [(.int (Int32.ofNat cs.length)), (.int (0 : Int32)), (.ref b1), (.int (0 : Int32)), (.ref a1)])) rfl (by rw [hml]; rfl) (argsL := [(.ref a1), (.int (0 : Int32)), (.ref b1), (.int (0 : Int32)), (.int (Int32.ofNat cs.length))]) (rest := []) (lenOf pd___CI_BII_I rfl) rfl (by show 2 * 0 + _ ≤ _; exact Nat.le_of_eq rfl) (hb hby (dq dz5 8 9 rfl)) (fun _ _ => ⟨rfl, e1, (by decide : 1 + 0 ≤ _), (by decide : 64 + 0 ≤ _)⟩)
  dsimp only [Pt.U, Pt.locs, Pt.cells, Pt.slots] at X2 l2 y2 z2 st2 hQ2
  rw [l2, y2, z2] at X2
  have X2 : Stand p l e _ _ m _ below meth c T2 _ 1 64 := X2
  obtain ⟨i2, rfl, N2q, K2q, D2⟩ := hQ2
  have N2 := Fr.app N0 N2q
  refine Go.st st2 ?_
  have A_a1 := A_a1.keep K2q (ninS ne_a1_b1 nin0)
  have O := O.keep K2q (allS g_b1 all0)
  have KK := KK.trans K2q (allS (Or.inr sz_b1) all0)
  show Go _ _ _ _ _ _ _  T2 (mkF m 12 #[.val (.ref a1), .val (.int (0 : Int32)), .val (.int (Int32.ofNat cs.length)), .val (.ref b1), .unset, .unset] [(.int (Int32.ofNat i2))])
  refine Go.st (fun _ => XS.istore X2.here hx rfl (hb hby (dq dz5 9 12 rfl)) rfl (l' := #[.val (.ref a1), .val (.int (0 : Int32)), .val (.int (Int32.ofNat cs.length)), .val (.ref b1), .val (.int (Int32.ofNat i2)), .unset]) rfl) ?_
  refine Go.st (fun _ => XS.iload X2.here hx rfl (hb hby (dq dz5 10 14 rfl)) rfl) ?_
  refine Go.st (fun _ => XS.iloadN X2.here hx rfl (hb hby (dq dz5 11 16 rfl)) rfl) ?_
  have li2 : i2 ≤ cs.length := D2.elim (fun q => Nat.le_of_lt q.1) (fun q => Nat.le_of_eq q.1)
  show Go _ _ _ _ _ _ _  T2 (mkF m 17 #[.val (.ref a1), .val (.int (0 : Int32)), .val (.int (Int32.ofNat cs.length)), .val (.ref b1), .val (.int (Int32.ofNat i2)), .unset] [(.int (Int32.ofNat cs.length)), (.int (Int32.ofNat i2))])
  by_cases c17_3 : (Int32.ofNat i2) = (Int32.ofNat cs.length)
  · refine Go.st (fun _ => XS.icmpYes X2.here hx rfl (pc0 := 17) (pc' := 57) rfl (hb hby (dq dz5 12 17 rfl)) rfl (teq c17_3).1 (by decide) (by decide)) ?_
    show Go _ _ _ _ _ _ _  T2 (mkF m 57 #[.val (.ref a1), .val (.int (0 : Int32)), .val (.int (Int32.ofNat cs.length)), .val (.ref b1), .val (.int (Int32.ofNat i2)), .unset] [])
    refine Go.st (fun _ => XS.aloadN X2.here hx rfl (hb hby (dq dz5 13 57 rfl)) rfl rfl) ?_
    show Go _ _ _ _ _ _ _  T2 (mkF m 58 #[.val (.ref a1), .val (.int (0 : Int32)), .val (.int (Int32.ofNat cs.length)), .val (.ref b1), .val (.int (Int32.ofNat i2)), .unset] [(.ref b1)])
    refine Go.retR X2 hlk hx Bd.returns rfl rfl rfl (hb hby (dq dz5 14 58 rfl)) (by decide) (by decide) ?_
    show Q_rmC2 Z _ _ _ h0 n0 _ T2.heap _
    obtain ⟨d1, d2, d3⟩ := D2.resolve_left (fun q => absurd ((own_oeq (by omega) (by omega)).mp c17_3) (by omega))
    exact ⟨_, _, rfl, N2, own_ext0 KK, sz_b1, (by rw [own_byT (own_l1t d3), List.length_map]; exact d2)⟩
  · refine Go.st (fun _ => XS.icmpNo X2.here hx rfl (hb hby (dq dz5 12 17 rfl)) rfl (feq c17_3).1) ?_
    show Go _ _ _ _ _ _ _  T2 (mkF m 20 #[.val (.ref a1), .val (.int (0 : Int32)), .val (.int (Int32.ofNat cs.length)), .val (.ref b1), .val (.int (Int32.ofNat i2)), .unset] [])
    refine Go.st (fun _ => XS.aloadN X2.here hx rfl (hb hby (dq dz5 15 20 rfl)) rfl rfl) ?_
    refine Go.st (fun _ => XS.iloadN X2.here hx rfl (hb hby (dq dz5 16 21 rfl)) rfl) ?_
    refine Go.st (fun _ => XS.iloadN X2.here hx rfl (hb hby (dq dz5 17 22 rfl)) rfl) ?_
    show Go _ _ _ _ _ _ _  T2 (mkF m 23 #[.val (.ref a1), .val (.int (0 : Int32)), .val (.int (Int32.ofNat cs.length)), .val (.ref b1), .val (.int (Int32.ofNat i2)), .unset] [(.int (Int32.ofNat cs.length)), (.int (0 : Int32)), (.ref a1)])
    obtain ⟨_, _, ⟨T4, L4, k4, n4⟩, -, X4, ⟨Lc4, hQ4, l4, y4, z4⟩, st4⟩ := Jvm.LawKit.callS X2 hx (y := mY34) hown (mvT hZ (hwi hw 249 rfl)) (mvT hZ (hwi hw 250 rfl)) (mvT hZ (hwi hw 21 rfl)) (mvT hZ (hwi hw 251 rfl)) (by decide) (backOf (W := 0) (rmTBs l Z a0 hw [] a1 kc cs T2.heap n0 O S_ad S_hi S_lo A_a1 hn) hZ (hwi hw 251 rfl) (hwi hw 21 rfl) (by decide) (by decide)) (g := (mkF m 23 #[.val (.ref a1), .val (.int (0 : Int32)), .val (.int (Int32.ofNat cs.length)), .val (.ref b1), .val (.int (Int32.ofNat i2)), .unset] [(.int (Int32.ofNat cs.length)), (.int (0 : Int32)), (.ref a1)])) rfl (by rw [hml]; rfl) (argsL := [(.ref a1), (.int (0 : Int32)), (.int (Int32.ofNat cs.length))]) (rest := []) (lenOf pd___CII__B rfl) rfl (by show 2 * 0 + _ ≤ _; exact Nat.le_of_eq rfl) (hb hby (dq dz5 18 23 rfl)) (fun _ _ => ⟨rfl, rfl, (by decide : 1 + 1 ≤ _), (by decide : 64 + 128 ≤ _)⟩)
    dsimp only [Pt.U, Pt.locs, Pt.cells, Pt.slots] at X4 l4 y4 z4 st4 hQ4
    rw [l4, y4, z4] at X4
    have X4 : Stand p l e _ _ m _ below meth c T4 _ 2 192 := X4
    obtain ⟨t4, kt4, rfl, N4q, E4q, lt4, Vt4⟩ := hQ4
    have N4 := Fr.app N2 N4q
    refine Go.st st4 ?_
    have g_t4 : n0 ≤ t4 := Nat.le_trans (own_le O) lt4
    have sz_t4 : h0.size ≤ t4 := Nat.le_trans KK.1 lt4
    have ne_a1_t4 : a1 ≠ t4 := Nat.ne_of_lt (Nat.lt_of_lt_of_le A_a1.lt lt4)
    have E4 := E4q
    have A_a1 := A_a1.ext E4
    have O := O.ext E4
    have KK := KK.ext E4
    show Go _ _ _ _ _ _ _  T4 (mkF m 26 #[.val (.ref a1), .val (.int (0 : Int32)), .val (.int (Int32.ofNat cs.length)), .val (.ref b1), .val (.int (Int32.ofNat i2)), .unset] [(.ref t4)])
    refine Go.st (fun _ => XS.astore X4.here hx rfl (hb hby (dq dz5 19 26 rfl)) rfl rfl (l' := #[.val (.ref a1), .val (.int (0 : Int32)), .val (.int (Int32.ofNat cs.length)), .val (.ref b1), .val (.int (Int32.ofNat i2)), .val (.ref t4)]) rfl) ?_
    refine Go.st (fun _ => XS.aload X4.here hx rfl (hb hby (dq dz5 20 28 rfl)) rfl rfl) ?_
    refine Go.st (fun _ => XS.iload X4.here hx rfl (hb hby (dq dz5 21 30 rfl)) rfl) ?_
    show Go _ _ _ _ _ _ _  T4 (mkF m 32 #[.val (.ref a1), .val (.int (0 : Int32)), .val (.int (Int32.ofNat cs.length)), .val (.ref b1), .val (.int (Int32.ofNat i2)), .val (.ref t4)] [(.int (Int32.ofNat i2)), (.ref t4)])
    obtain ⟨ci1, ci2⟩ := D2.resolve_right (fun q => c17_3 (congrArg Int32.ofNat q.1))
    refine Go.pureS (w := (some (.int (cs.getD i2 0)))) (rest := []) (pc' := 35) (Jvm.LawKit.callS X4 hx (y := mY35) hown (mvT hZ (hwi hw 265 rfl)) (mvT hZ (hwi hw 266 rfl)) (mvT hZ (hwi hw 21 rfl)) (mvT hZ (hwi hw 267 rfl)) (by decide) (backOf (W := 0) (rmGetC l Z a0 hw [] t4 kt4 cs i2 T4.heap n0 O S_ad S_hi S_lo Vt4 hn ci1 (hr _ ci1)) hZ (hwi hw 267 rfl) (hwi hw 21 rfl) (by decide) (by decide)) (g := (mkF m 32 #[.val (.ref a1), .val (.int (0 : Int32)), .val (.int (Int32.ofNat cs.length)), .val (.ref b1), .val (.int (Int32.ofNat i2)), .val (.ref t4)] [(.int (Int32.ofNat i2)), (.ref t4)])) rfl (by rw [hml]; rfl) (argsL := [(.ref t4), (.int (Int32.ofNat i2))]) (rest := []) (lenOf pd___BI_C rfl) rfl (by show 2 * 0 + _ ≤ _; exact Nat.le_of_eq rfl) (hb hby (dq dz5 22 32 rfl)) (fun _ _ => ⟨rfl, rfl, (by decide : 2 + 0 ≤ _), (by decide : 192 + 0 ≤ _)⟩)) (fun _ _ _ q => q) N4 (fun T5 L5 X5 e5q N5 => ?_)
    show Go _ _ _ _ _ _ _  T5 (mkF m 35 #[.val (.ref a1), .val (.int (0 : Int32)), .val (.int (Int32.ofNat cs.length)), .val (.ref b1), .val (.int (Int32.ofNat i2)), .val (.ref t4)] [(.int (cs.getD i2 0))])
    refine Go.st (fun _ => XS.sipush X5.here hx rfl (hb hby (dq dz5 23 35 rfl))) ?_
    show Go _ _ _ _ _ _ _  T5 (mkF m 38 #[.val (.ref a1), .val (.int (0 : Int32)), .val (.int (Int32.ofNat cs.length)), .val (.ref b1), .val (.int (Int32.ofNat i2)), .val (.ref t4)] [(.int (255 : Int32)), (.int (cs.getD i2 0))])
    refine Go.st (fun _ => XS.icmpYes X5.here hx rfl (pc0 := 38) (pc' := 54) rfl (hb hby (dq dz5 24 38 rfl)) rfl (tlt (ci2 : (255 : Int32) < (cs.getD i2 0))).2.2.1 (by decide) (by decide)) ?_
    show Go _ _ _ _ _ _ _  T5 (mkF m 54 #[.val (.ref a1), .val (.int (0 : Int32)), .val (.int (Int32.ofNat cs.length)), .val (.ref b1), .val (.int (Int32.ofNat i2)), .val (.ref t4)] [])
    refine Go.st (fun _ => XS.aload X5.here hx rfl (hb hby (dq dz5 25 54 rfl)) rfl rfl) ?_
    show Go _ _ _ _ _ _ _  T5 (mkF m 56 #[.val (.ref a1), .val (.int (0 : Int32)), .val (.int (Int32.ofNat cs.length)), .val (.ref b1), .val (.int (Int32.ofNat i2)), .val (.ref t4)] [(.ref t4)])
    refine Go.retR X5 hlk hx Bd.returns rfl rfl rfl (hb hby (dq dz5 26 56 rfl)) (by decide) (by decide) ?_
    show Q_rmC2 Z _ _ _ h0 n0 _ T5.heap _
    rw [e5q]
    exact ⟨_, _, rfl, N5, own_ext0 KK, sz_t4, (by rw [own_byF (own_l1f ci1 ci2), own_ubl]; exact Vt4)⟩
def Q_rmCFA (Z : State) (a1 : Addr) (kb : ClassId) (cs : List Int32) (h0 : Heap) (n0 : Nat) (v : Option Value) (h : Heap) (L : List Loc) : Prop := v = some (.int (own_cd cs)) ∧ Fr n0 L ∧ h = h0
theorem rmCFA (l : Launch) (Z : State) (a0 : Array Value) (hw : HWt a0 Z) (ws : List Jvm.Cond) (a1 : Addr) (kb : ClassId) (cs : List Int32) (h0 : Heap) (n0 : Nat) (O : Old Z n0 h0) (A_a1 : Arv Z h0 a1 kb .byte (Int32.ofNat (own_by cs).length) ((own_by cs).map Value.int) (.int 0)) (h1 : 1 ≤ cs.length) (h2 : cs.length < 100000) :
    Met l mY37 (Jvm.Cond.code mY37 jdk_52_method_15_code 2 (some .byte) :: ws) rz0_0_0_0 #[(.ref a1), (.int (Int32.ofNat cs.length))] Z h0 (Q_rmCFA Z a1 kb cs h0 n0) := by
  refine MetFree.of_bodySF (plainFor_of_name pn_7) hisR ?_
  intro p e s m args below meth c s₁ Bd hml0 hP hK
  obtain ⟨rfl, hZ, hh⟩ := hP
  have hx := Bd.exec
  have hby := Bd.bytes
  have hml : c.maxLocals = 2 := hml0
  have hlk : meth.locks = false := BodyLoose.notSynchronized Bd
  have X0 : Stand p l e rz0_0_0_0 s m #[(.ref a1), (.int (Int32.ofNat cs.length))] below meth c s₁ [] 0 0 := Stand.of_body Bd
  have e0 : s₁.heap = h0 := by rw [← hh, Bd.state]; rfl
  have N0 := Fr.nil n0
  show Go p e below s rz0_0_0_0.cells rz0_0_0_0.slots (Q_rmCFA Z a1 kb cs h0 n0) s₁ (entryFrame m #[(.ref a1), (.int (Int32.ofNat cs.length))] 2)
  refine Go.eq (ef_rmCFA m a1 (Int32.ofNat cs.length)) ?_
  show Go _ _ _ _ _ _ _  s₁ (mkF m 0 #[.val (.ref a1), .val (.int (Int32.ofNat cs.length))] [])
  refine Go.st (fun _ => XS.iloadN X0.here hx rfl (hb hby (dq dz7 0 0 rfl)) rfl) ?_
  refine Go.st (fun _ => XS.aloadN X0.here hx rfl (hb hby (dq dz7 1 1 rfl)) rfl rfl) ?_
  show Go _ _ _ _ _ _ _  s₁ (mkF m 2 #[.val (.ref a1), .val (.int (Int32.ofNat cs.length))] [(.ref a1), (.int (Int32.ofNat cs.length))])
  obtain ⟨cl1, Ar1, q1, S1, M1, Hh1, G1⟩ := id A_a1
  refine Go.st (X0.arraylength hx (by rw [e0]; exact Ar1.1) (State.isArrayOf_alike hZ.alike Ar1.2.1) (g := (mkF m 2 #[.val (.ref a1), .val (.int (Int32.ofNat cs.length))] [(.ref a1), (.int (Int32.ofNat cs.length))])) rfl rfl (hb hby (dq dz7 2 2 rfl))) ?_
  rw [len_of S1 M1]
  show Go _ _ _ _ _ _ _  s₁ (mkF m 3 #[.val (.ref a1), .val (.int (Int32.ofNat cs.length))] [(.int (Int32.ofNat (own_by cs).length)), (.int (Int32.ofNat cs.length))])
  refine Go.st (fun _ => XS.isub X0.here hx rfl (hb hby (dq dz7 3 3 rfl)) rfl) ?_
  refine Go.st (fun _ => XS.bipush X0.here hx rfl (hb hby (dq dz7 4 4 rfl))) ?_
  refine Go.st (fun _ => XS.iushr X0.here hx rfl (hb hby (dq dz7 5 6 rfl)) rfl) ?_
  refine Go.st (fun _ => XS.i2b X0.here hx rfl (hb hby (dq dz7 6 7 rfl)) rfl) ?_
  show Go _ _ _ _ _ _ _  s₁ (mkF m 8 #[.val (.ref a1), .val (.int (Int32.ofNat cs.length))] [(.int (((((Int32.ofNat cs.length) - (Int32.ofNat (own_by cs).length)).toUInt32 >>> ((31 : Int32) &&& 31).toUInt32).toInt32).toInt8.toInt32))])
  refine Go.retN X0 hlk hx (t := .byte) (z' := (own_cd cs)) Bd.returns (by simp) (hb hby (dq dz7 7 8 rfl)) (by decide) (by decide) ((congrArg (nar .byte) (own_cfa h1 h2)).trans (own_ncd cs)) ?_
  show Q_rmCFA Z _ _ _ h0 n0 _ s₁.heap _
  rw [e0]
  exact ⟨rfl, N0, rfl⟩
def Q_rmI4 (Z : State) (a1 : Addr) (a2 : Addr) (u1 : Value) (u2 : Value) (zc : Int32) (kc : ClassId) (cs : List Int32) (h0 : Heap) (n0 : Nat) (v : Option Value) (h : Heap) (L : List Loc) : Prop := v = none ∧ Fr n0 L ∧ Keep h0 h [a1] ∧ Exa Z h a1 "java/lang/String" ∧ Fld Z h a1 "java/lang/String" "coder" "B" (.int (own_cd cs)) ∧ ∃ (b : Addr) (kb : ClassId), h0.size ≤ b ∧ Fld Z h a1 "java/lang/String" "value" "[B" (.ref b) ∧ Arv Z h b kb .byte (Int32.ofNat (own_by cs).length) ((own_by cs).map Value.int) (.int 0)
theorem rmI4 (l : Launch) (Z : State) (a0 : Array Value) (hw : HWt a0 Z) (ws : List Jvm.Cond) (a1 : Addr) (a2 : Addr) (u1 : Value) (u2 : Value) (zc : Int32) (kc : ClassId) (cs : List Int32) (h0 : Heap) (n0 : Nat) (O : Old Z n0 h0) (S_COMPACT : Sta Z Z.heap "java/lang/String" "COMPACT_STRINGS" "Z" (.int zc)) (hcs : ¬ zc = 0) (S_ad : Sta Z Z.heap "java/lang/StringUTF16" "$assertionsDisabled" "Z" (.int 1)) (S_hi : Sta Z Z.heap "java/lang/StringUTF16" "HI_BYTE_SHIFT" "I" (.int 0)) (S_lo : Sta Z Z.heap "java/lang/StringUTF16" "LO_BYTE_SHIFT" "I" (.int 8)) (E_a1 : Exa Z h0 a1 "java/lang/String") (F_value_a1 : Fld Z h0 a1 "java/lang/String" "value" "[B" u1) (F_coder_a1 : Fld Z h0 a1 "java/lang/String" "coder" "B" u2) (g_a1 : n0 ≤ a1) (A_a2 : Arv Z h0 a2 kc .char (Int32.ofNat cs.length) (cs.map Value.int) (.int 0)) (hn : cs.length ≤ 64) (h1 : 1 ≤ cs.length) (hr : ∀ j, j < cs.length → nar .char (cs.getD j 0) = cs.getD j 0) :
    Met l mY38 (Jvm.Cond.code mY38 jdk_42_method_149_code 6 none :: ws) rz4_2_192_60 #[(.ref a1), (.ref a2), (.int (0 : Int32)), (.int (Int32.ofNat cs.length)), .null] Z h0 (Q_rmI4 Z a1 a2 u1 u2 zc kc cs h0 n0) := by
  refine MetFree.of_bodySF (plainFor_of_name pn_3) hisR ?_
  intro p e s m args below meth c s₁ Bd hml0 hP hK
  obtain ⟨rfl, hZ, hh⟩ := hP
  have hx := Bd.exec
  have hby := Bd.bytes
  have hml : c.maxLocals = 6 := hml0
  have hown : s.vm.findClass "java/lang/String" = some m.cls := findClass_of_methodNamed Bd.named
  have hnm := (name_of_methodNamed Bd.named Bd.method).1
  have hlk : meth.locks = false := BodyLoose.notSynchronized Bd
  have X0 : Stand p l e rz4_2_192_60 s m #[(.ref a1), (.ref a2), (.int (0 : Int32)), (.int (Int32.ofNat cs.length)), .null] below meth c s₁ [] 0 0 := Stand.of_body Bd
  have e0 : s₁.heap = h0 := by rw [← hh, Bd.state]; rfl
  have N0 := Fr.nil n0
  have KK : Keep h0 h0 [a1] := Keep.refl h0 _
  show Go p e below s rz4_2_192_60.cells rz4_2_192_60.slots (Q_rmI4 Z a1 a2 u1 u2 zc kc cs h0 n0) s₁ (entryFrame m #[(.ref a1), (.ref a2), (.int (0 : Int32)), (.int (Int32.ofNat cs.length)), .null] 6)
  refine Go.eq (ef_rmI4 m a1 a2 (0 : Int32) (Int32.ofNat cs.length)) ?_
  show Go _ _ _ _ _ _ _  s₁ (mkF m 0 #[.val (.ref a1), .val (.ref a2), .val (.int (0 : Int32)), .val (.int (Int32.ofNat cs.length)), .val .null, .unset] [])
  refine Go.st (fun _ => XS.aloadN X0.here hx rfl (hb hby (dq dz3 0 0 rfl)) rfl rfl) ?_
  show Go _ _ _ _ _ _ _  s₁ (mkF m 1 #[.val (.ref a1), .val (.ref a2), .val (.int (0 : Int32)), .val (.int (Int32.ofNat cs.length)), .val .null, .unset] [(.ref a1)])
  obtain ⟨T1, X1, e1, st1⟩ := initO X0 hx hZ hown (hwi hw 15 rfl) (hwi hw 16 rfl) (hwi hw 17 rfl) e0 (g := (mkF m 1 #[.val (.ref a1), .val (.ref a2), .val (.int (0 : Int32)), .val (.int (Int32.ofNat cs.length)), .val .null, .unset] [(.ref a1)])) rfl (by rw [hml]; rfl) rfl (hb hby (dq dz3 1 1 rfl)) (by decide) (W := 0) (by show 2 * 0 + _ ≤ _; exact Nat.le_of_eq rfl) (by decide)
  refine Go.st st1 ?_
  show Go _ _ _ _ _ _ _  T1 (mkF m 4 #[.val (.ref a1), .val (.ref a2), .val (.int (0 : Int32)), .val (.int (Int32.ofNat cs.length)), .val .null, .unset] [])
  refine Go.st (fun _ => XS.iloadN X1.here hx rfl (hb hby (dq dz3 2 4 rfl)) rfl) ?_
  show Go _ _ _ _ _ _ _  T1 (mkF m 5 #[.val (.ref a1), .val (.ref a2), .val (.int (0 : Int32)), .val (.int (Int32.ofNat cs.length)), .val .null, .unset] [(.int (Int32.ofNat cs.length))])
  refine Go.st (fun _ => XS.ifYes X1.here hx rfl (pc0 := 5) (pc' := 27) rfl (hb hby (dq dz3 3 5 rfl)) rfl ((if0 _ _).trans (feq (fun q => absurd ((own_oeq (b := 0) (by omega) (by omega)).mp q) (by omega) : ¬ ((Int32.ofNat cs.length) = (0 : Int32)))).2) (by decide) (by decide)) ?_
  show Go _ _ _ _ _ _ _  T1 (mkF m 27 #[.val (.ref a1), .val (.ref a2), .val (.int (0 : Int32)), .val (.int (Int32.ofNat cs.length)), .val .null, .unset] [])
  obtain ⟨T2, X2, e2, st2⟩ := getS2 X1 hx hZ hown (host := "") (Or.inl (hwi hw 18 rfl)) Via.refl e1 (S_COMPACT.ext O.2) (g := (mkF m 27 #[.val (.ref a1), .val (.ref a2), .val (.int (0 : Int32)), .val (.int (Int32.ofNat cs.length)), .val .null, .unset] [])) rfl (hb hby (dq dz3 4 27 rfl))
  refine Go.st st2 ?_
  show Go _ _ _ _ _ _ _  T2 (mkF m 30 #[.val (.ref a1), .val (.ref a2), .val (.int (0 : Int32)), .val (.int (Int32.ofNat cs.length)), .val .null, .unset] [(.int zc)])
  refine Go.st (fun _ => XS.ifNo X2.here hx rfl (hb hby (dq dz3 5 30 rfl)) rfl ((if0 _ _).trans (feq (hcs : ¬ (zc = (0 : Int32)))).1)) ?_
  show Go _ _ _ _ _ _ _  T2 (mkF m 33 #[.val (.ref a1), .val (.ref a2), .val (.int (0 : Int32)), .val (.int (Int32.ofNat cs.length)), .val .null, .unset] [])
  refine Go.st (fun _ => XS.aloadN X2.here hx rfl (hb hby (dq dz3 6 33 rfl)) rfl rfl) ?_
  refine Go.st (fun _ => XS.iloadN X2.here hx rfl (hb hby (dq dz3 7 34 rfl)) rfl) ?_
  refine Go.st (fun _ => XS.iloadN X2.here hx rfl (hb hby (dq dz3 8 35 rfl)) rfl) ?_
  show Go _ _ _ _ _ _ _  T2 (mkF m 36 #[.val (.ref a1), .val (.ref a2), .val (.int (0 : Int32)), .val (.int (Int32.ofNat cs.length)), .val .null, .unset] [(.int (Int32.ofNat cs.length)), (.int (0 : Int32)), (.ref a2)])
  obtain ⟨_, _, ⟨T3, L3, k3, n3⟩, -, X3, ⟨Lc3, hQ3, l3, y3, z3⟩, st3⟩ := Jvm.LawKit.callS X2 hx (y := mY36) hown (mvT hZ (hwi hw 19 rfl)) (mvT hZ (hwi hw 20 rfl)) (mvT hZ (hwi hw 21 rfl)) (mvT hZ (hwi hw 22 rfl)) (by decide) (backOf (W := 0) (rmC2 l Z a0 hw [] a2 kc cs h0 n0 O S_ad S_hi S_lo A_a2 hn hr) hZ (hwi hw 22 rfl) (hwi hw 21 rfl) (by decide) (by decide)) (g := (mkF m 36 #[.val (.ref a1), .val (.ref a2), .val (.int (0 : Int32)), .val (.int (Int32.ofNat cs.length)), .val .null, .unset] [(.int (Int32.ofNat cs.length)), (.int (0 : Int32)), (.ref a2)])) rfl (by rw [hml]; rfl) (argsL := [(.ref a2), (.int (0 : Int32)), (.int (Int32.ofNat cs.length))]) (rest := []) (lenOf pd___CII__B rfl) rfl (by show 2 * 0 + _ ≤ _; exact Nat.le_of_eq rfl) (hb hby (dq dz3 9 36 rfl)) (fun _ _ => ⟨rfl, e2, (by decide : 0 + 2 ≤ _), (by decide : 0 + 192 ≤ _)⟩)
  dsimp only [Pt.U, Pt.locs, Pt.cells, Pt.slots] at X3 l3 y3 z3 st3 hQ3
  rw [l3, y3, z3] at X3
  have X3 : Stand p l e _ _ m _ below meth c T3 _ 2 192 := X3
  obtain ⟨t3, kt3, rfl, N3q, E3q, lt3, Vt3⟩ := hQ3
  have N3 := Fr.app N0 N3q
  refine Go.st st3 ?_
  have g_t3 : n0 ≤ t3 := Nat.le_trans (own_le O) lt3
  have sz_t3 : h0.size ≤ t3 := Nat.le_trans KK.1 lt3
  have ne_a1_t3 : a1 ≠ t3 := Nat.ne_of_lt (Nat.lt_of_lt_of_le E_a1.lt lt3)
  have ne_a2_t3 : a2 ≠ t3 := Nat.ne_of_lt (Nat.lt_of_lt_of_le A_a2.lt lt3)
  have E3 := E3q
  have E_a1 := E_a1.ext E3
  have A_a2 := A_a2.ext E3
  have F_value_a1 := F_value_a1.ext E3
  have F_coder_a1 := F_coder_a1.ext E3
  have O := O.ext E3
  have KK := KK.ext E3
  show Go _ _ _ _ _ _ _  T3 (mkF m 39 #[.val (.ref a1), .val (.ref a2), .val (.int (0 : Int32)), .val (.int (Int32.ofNat cs.length)), .val .null, .unset] [(.ref t3)])
  refine Go.st (fun _ => XS.astore X3.here hx rfl (hb hby (dq dz3 10 39 rfl)) rfl rfl (l' := #[.val (.ref a1), .val (.ref a2), .val (.int (0 : Int32)), .val (.int (Int32.ofNat cs.length)), .val .null, .val (.ref t3)]) rfl) ?_
  refine Go.st (fun _ => XS.aloadN X3.here hx rfl (hb hby (dq dz3 11 41 rfl)) rfl rfl) ?_
  refine Go.st (fun _ => XS.aload X3.here hx rfl (hb hby (dq dz3 12 42 rfl)) rfl rfl) ?_
  refine Go.st (fun _ => XS.iloadN X3.here hx rfl (hb hby (dq dz3 13 44 rfl)) rfl) ?_
  show Go _ _ _ _ _ _ _  T3 (mkF m 45 #[.val (.ref a1), .val (.ref a2), .val (.int (0 : Int32)), .val (.int (Int32.ofNat cs.length)), .val .null, .val (.ref t3)] [(.int (Int32.ofNat cs.length)), (.ref t3), (.ref a1)])
  refine Go.pureS (w := (some (.int (own_cd cs)))) (rest := [(.ref a1)]) (pc' := 48) (Jvm.LawKit.callS X3 hx (y := mY37) hown (mvT hZ (hwi hw 27 rfl)) (mvT hZ (hwi hw 28 rfl)) (mvT hZ (hwi hw 21 rfl)) (mvT hZ (hwi hw 29 rfl)) (by decide) (backOf (W := 1) (rmCFA l Z a0 hw [] t3 kt3 cs T3.heap n0 O Vt3 h1 (by omega)) hZ (hwi hw 29 rfl) (hwi hw 21 rfl) (by decide) (by decide)) (g := (mkF m 45 #[.val (.ref a1), .val (.ref a2), .val (.int (0 : Int32)), .val (.int (Int32.ofNat cs.length)), .val .null, .val (.ref t3)] [(.int (Int32.ofNat cs.length)), (.ref t3), (.ref a1)])) rfl (by rw [hml]; rfl) (argsL := [(.ref t3), (.int (Int32.ofNat cs.length))]) (rest := [(.ref a1)]) (lenOf pd___BI_B rfl) rfl (by show 2 * 0 + _ ≤ _; exact Nat.le_of_eq rfl) (hb hby (dq dz3 14 45 rfl)) (fun _ _ => ⟨rfl, rfl, (by decide : 2 + 0 ≤ _), (by decide : 192 + 0 ≤ _)⟩)) (fun _ _ _ q => q) N3 (fun T4 L4 X4 e4q N4 => ?_)
  show Go _ _ _ _ _ _ _  T4 (mkF m 48 #[.val (.ref a1), .val (.ref a2), .val (.int (0 : Int32)), .val (.int (Int32.ofNat cs.length)), .val .null, .val (.ref t3)] [(.int (own_cd cs)), (.ref a1)])
  obtain ⟨T5, h5, X5, e5, W5, st5⟩ := putFN X4 hx hZ hown (hwi hw 30 rfl) Via.refl e4q F_coder_a1 E_a1 (Or.inr ⟨(hwi hw 31 rfl), rfl, hnm⟩) (hwi hw 5 rfl) (ty := .byte) (v' := .int (own_cd cs)) (by decide) (show narrow .byte (.int (own_cd cs)) = .int (own_cd cs) from congrArg Value.int (own_ncd cs)) (own_fcd cs) (g := (mkF m 48 #[.val (.ref a1), .val (.ref a2), .val (.int (0 : Int32)), .val (.int (Int32.ofNat cs.length)), .val .null, .val (.ref t3)] [(.int (own_cd cs)), (.ref a1)])) rfl rfl (hb hby (dq dz3 15 48 rfl))
  refine Go.st st5 ?_
  have F_coder_a1 : Fld Z h5 a1 "java/lang/String" "coder" "B" (.int (own_cd cs)) := F_coder_a1.same W5
  have N5 := Fr.snoc X5 N4 g_a1
  have ne_a2_a1 : a2 ≠ a1 := (Ne.symm (Exa.neArv E_a1 A_a2 (hwi hw 5 rfl)))
  have E_a1 := E_a1.wr W5
  have A_a2 := A_a2.other W5 ne_a2_a1
  have F_value_a1 := F_value_a1.other W5 (Or.inr (slot_ne (Or.inr (hwi hw 33 rfl)) (Or.inr (hwi hw 31 rfl)) (by decide) (t := (.array .byte)) (t' := .byte) (by decide) (by decide)))
  have Vt3 := Vt3.other W5 (Ne.symm ne_a1_t3)
  have O := O.wr W5 g_a1
  have KK := KK.wr W5 (Or.inl (List.mem_of_getElem? (i := 0) rfl))
  show Go _ _ _ _ _ _ _  T5 (mkF m 51 #[.val (.ref a1), .val (.ref a2), .val (.int (0 : Int32)), .val (.int (Int32.ofNat cs.length)), .val .null, .val (.ref t3)] [])
  refine Go.st (fun _ => XS.aloadN X5.here hx rfl (hb hby (dq dz3 16 51 rfl)) rfl rfl) ?_
  refine Go.st (fun _ => XS.aload X5.here hx rfl (hb hby (dq dz3 17 52 rfl)) rfl rfl) ?_
  show Go _ _ _ _ _ _ _  T5 (mkF m 54 #[.val (.ref a1), .val (.ref a2), .val (.int (0 : Int32)), .val (.int (Int32.ofNat cs.length)), .val .null, .val (.ref t3)] [(.ref t3), (.ref a1)])
  obtain ⟨T6, h6, X6, e6, W6, st6⟩ := putF X5 hx hZ hown (host := "") (Or.inl (hwi hw 32 rfl)) Via.refl e5 F_value_a1 E_a1 (Or.inr ⟨(hwi hw 33 rfl), rfl, hnm⟩) (hwi hw 5 rfl) (ty := (.array .byte)) (by decide) rfl rfl (g := (mkF m 54 #[.val (.ref a1), .val (.ref a2), .val (.int (0 : Int32)), .val (.int (Int32.ofNat cs.length)), .val .null, .val (.ref t3)] [(.ref t3), (.ref a1)])) rfl rfl (hb hby (dq dz3 18 54 rfl))
  refine Go.st st6 ?_
  have F_value_a1 : Fld Z h6 a1 "java/lang/String" "value" "[B" (.ref t3) := F_value_a1.same W6
  have N6 := Fr.snoc X6 N5 g_a1
  have E_a1 := E_a1.wr W6
  have A_a2 := A_a2.other W6 ne_a2_a1
  have F_coder_a1 := F_coder_a1.other W6 (Or.inr (slot_ne (Or.inr (hwi hw 31 rfl)) (Or.inr (hwi hw 33 rfl)) (by decide) (t := .byte) (t' := (.array .byte)) (by decide) (by decide)))
  have Vt3 := Vt3.other W6 (Ne.symm ne_a1_t3)
  have O := O.wr W6 g_a1
  have KK := KK.wr W6 (Or.inl (List.mem_of_getElem? (i := 0) rfl))
  show Go _ _ _ _ _ _ _  T6 (mkF m 57 #[.val (.ref a1), .val (.ref a2), .val (.int (0 : Int32)), .val (.int (Int32.ofNat cs.length)), .val .null, .val (.ref t3)] [])
  refine Go.ret0 X6 hlk hx Bd.returns (hb hby (dq dz3 19 57 rfl)) (by decide) (by decide) ?_
  show Q_rmI4 Z _ _ _ _ _ _ _ h0 n0 _ T6.heap _
  rw [e6]
  exact ⟨rfl, N6, KK, E_a1, F_coder_a1, t3, kt3, sz_t3, F_value_a1, Vt3⟩
def Q_rmI5 (Z : State) (a1 : Addr) (a2 : Addr) (u1 : Value) (u2 : Value) (zc : Int32) (kc : ClassId) (cs : List Int32) (h0 : Heap) (n0 : Nat) (v : Option Value) (h : Heap) (L : List Loc) : Prop := v = none ∧ Fr n0 L ∧ Keep h0 h [a1] ∧ Exa Z h a1 "java/lang/String" ∧ Fld Z h a1 "java/lang/String" "coder" "B" (.int (own_cd cs)) ∧ ∃ (b : Addr) (kb : ClassId), h0.size ≤ b ∧ Fld Z h a1 "java/lang/String" "value" "[B" (.ref b) ∧ Arv Z h b kb .byte (Int32.ofNat (own_by cs).length) ((own_by cs).map Value.int) (.int 0)
theorem rmI5 (l : Launch) (Z : State) (a0 : Array Value) (hw : HWt a0 Z) (ws : List Jvm.Cond) (a1 : Addr) (a2 : Addr) (u1 : Value) (u2 : Value) (zc : Int32) (kc : ClassId) (cs : List Int32) (h0 : Heap) (n0 : Nat) (O : Old Z n0 h0) (S_COMPACT : Sta Z Z.heap "java/lang/String" "COMPACT_STRINGS" "Z" (.int zc)) (hcs : ¬ zc = 0) (S_ad : Sta Z Z.heap "java/lang/StringUTF16" "$assertionsDisabled" "Z" (.int 1)) (S_hi : Sta Z Z.heap "java/lang/StringUTF16" "HI_BYTE_SHIFT" "I" (.int 0)) (S_lo : Sta Z Z.heap "java/lang/StringUTF16" "LO_BYTE_SHIFT" "I" (.int 8)) (E_a1 : Exa Z h0 a1 "java/lang/String") (F_value_a1 : Fld Z h0 a1 "java/lang/String" "value" "[B" u1) (F_coder_a1 : Fld Z h0 a1 "java/lang/String" "coder" "B" u2) (g_a1 : n0 ≤ a1) (A_a2 : Arv Z h0 a2 kc .char (Int32.ofNat cs.length) (cs.map Value.int) (.int 0)) (hn : cs.length ≤ 64) (h1 : 1 ≤ cs.length) (hr : ∀ j, j < cs.length → nar .char (cs.getD j 0) = cs.getD j 0) :
    Met l mY39 (Jvm.Cond.code mY39 jdk_42_method_3_code 2 none :: ws) rz5_2_192_77 #[(.ref a1), (.ref a2)] Z h0 (Q_rmI5 Z a1 a2 u1 u2 zc kc cs h0 n0) := by
  refine MetFree.of_bodySF (plainFor_of_name pn_2) hisR ?_
  intro p e s m args below meth c s₁ Bd hml0 hP hK
  obtain ⟨rfl, hZ, hh⟩ := hP
  have hx := Bd.exec
  have hby := Bd.bytes
  have hml : c.maxLocals = 2 := hml0
  have hown : s.vm.findClass "java/lang/String" = some m.cls := findClass_of_methodNamed Bd.named
  have hlk : meth.locks = false := BodyLoose.notSynchronized Bd
  have X0 : Stand p l e rz5_2_192_77 s m #[(.ref a1), (.ref a2)] below meth c s₁ [] 0 0 := Stand.of_body Bd
  have e0 : s₁.heap = h0 := by rw [← hh, Bd.state]; rfl
  have N0 := Fr.nil n0
  have KK : Keep h0 h0 [a1] := Keep.refl h0 _
  show Go p e below s rz5_2_192_77.cells rz5_2_192_77.slots (Q_rmI5 Z a1 a2 u1 u2 zc kc cs h0 n0) s₁ (entryFrame m #[(.ref a1), (.ref a2)] 2)
  refine Go.eq (ef_rmI5 m a1 a2) ?_
  show Go _ _ _ _ _ _ _  s₁ (mkF m 0 #[.val (.ref a1), .val (.ref a2)] [])
  refine Go.st (fun _ => XS.aloadN X0.here hx rfl (hb hby (dq dz2 0 0 rfl)) rfl rfl) ?_
  refine Go.st (fun _ => XS.aloadN X0.here hx rfl (hb hby (dq dz2 1 1 rfl)) rfl rfl) ?_
  refine Go.st (fun _ => XS.iconst X0.here hx rfl (hb hby (dq dz2 2 2 rfl))) ?_
  refine Go.st (fun _ => XS.aloadN X0.here hx rfl (hb hby (dq dz2 3 3 rfl)) rfl rfl) ?_
  show Go _ _ _ _ _ _ _  s₁ (mkF m 4 #[.val (.ref a1), .val (.ref a2)] [(.ref a2), (.int (0 : Int32)), (.ref a2), (.ref a1)])
  obtain ⟨cl1, Ar1, q1, S1, M1, Hh1, G1⟩ := id A_a2
  refine Go.st (X0.arraylength hx (by rw [e0]; exact Ar1.1) (State.isArrayOf_alike hZ.alike Ar1.2.1) (g := (mkF m 4 #[.val (.ref a1), .val (.ref a2)] [(.ref a2), (.int (0 : Int32)), (.ref a2), (.ref a1)])) rfl rfl (hb hby (dq dz2 4 4 rfl))) ?_
  rw [len_of S1 M1]
  show Go _ _ _ _ _ _ _  s₁ (mkF m 5 #[.val (.ref a1), .val (.ref a2)] [(.int (Int32.ofNat cs.length)), (.int (0 : Int32)), (.ref a2), (.ref a1)])
  refine Go.st (fun _ => XS.aconstNull X0.here hx rfl (hb hby (dq dz2 5 5 rfl))) ?_
  show Go _ _ _ _ _ _ _  s₁ (mkF m 6 #[.val (.ref a1), .val (.ref a2)] [.null, (.int (Int32.ofNat cs.length)), (.int (0 : Int32)), (.ref a2), (.ref a1)])
  obtain ⟨_, _, ⟨T2, L2, k2, n2⟩, -, X2, ⟨Lc2, hQ2, l2, y2, z2⟩, st2⟩ := X0.specialBack hx (y := mY38) rfl hown (mvT hZ (hwi hw 11 rfl)) (mvT hZ (hwi hw 12 rfl)) (mvT hZ (hwi hw 14 rfl)) (by decide) (backOf (W := 0) (rmI4 l Z a0 hw [] a1 a2 u1 u2 zc kc cs h0 n0 O S_COMPACT hcs S_ad S_hi S_lo E_a1 F_value_a1 F_coder_a1 g_a1 A_a2 hn h1 hr) hZ (hwi hw 14 rfl) (hwi hw 6 rfl) (by decide) (by decide)) (g := (mkF m 6 #[.val (.ref a1), .val (.ref a2)] [.null, (.int (Int32.ofNat cs.length)), (.int (0 : Int32)), (.ref a2), (.ref a1)])) rfl (by rw [hml]; rfl) (Steps.refl _) (a := a1) (argsL := [(.ref a2), (.int (0 : Int32)), (.int (Int32.ofNat cs.length)), .null]) (rest := []) (lenOf pd___CIILjava_lang_Void__V rfl) rfl (by show 2 * 0 + _ ≤ _; exact Nat.le_of_eq rfl) (hb hby (dq dz2 6 6 rfl)) (fun _ _ => ⟨rfl, e0, (by decide : 0 + 2 ≤ _), (by decide : 0 + 192 ≤ _)⟩)
  dsimp only [Pt.U, Pt.locs, Pt.cells, Pt.slots] at X2 l2 y2 z2 st2 hQ2
  rw [l2, y2, z2] at X2
  have X2 : Stand p l e _ _ m _ below meth c T2 _ 2 192 := X2
  obtain ⟨rfl, N2q, K2q, Q2⟩ := hQ2
  have N2 := Fr.app N0 N2q
  refine Go.tr st2 ?_
  have ne_a2_a1 : a2 ≠ a1 := (Ne.symm (Exa.neArv E_a1 A_a2 (hwi hw 5 rfl)))
  have E_a1 := E_a1.keep K2q
  have A_a2 := A_a2.keep K2q (ninS ne_a2_a1 nin0)
  have O := O.keep K2q (allS g_a1 all0)
  have KK := KK.trans K2q (allS (Or.inl (List.mem_of_getElem? (i := 0) rfl)) all0)
  show Go _ _ _ _ _ _ _  T2 (mkF m 9 #[.val (.ref a1), .val (.ref a2)] [])
  refine Go.ret0 X2 hlk hx Bd.returns (hb hby (dq dz2 7 9 rfl)) (by decide) (by decide) ?_
  show Q_rmI5 Z _ _ _ _ _ _ _ h0 n0 _ T2.heap _
  exact ⟨rfl, N2, KK, Q2⟩
def Q_rmCoderU (Z : State) (a1 : Addr) (zc : Int32) (t : Addr) (kb : ClassId) (cs : List Int32) (h0 : Heap) (n0 : Nat) (v : Option Value) (h : Heap) (L : List Loc) : Prop := v = some (.int (own_cd cs)) ∧ Fr n0 L ∧ h = h0
theorem rmCoderU (l : Launch) (Z : State) (a0 : Array Value) (hw : HWt a0 Z) (ws : List Jvm.Cond) (a1 : Addr) (zc : Int32) (t : Addr) (kb : ClassId) (cs : List Int32) (h0 : Heap) (n0 : Nat) (O : Old Z n0 h0) (S_COMPACT : Sta Z Z.heap "java/lang/String" "COMPACT_STRINGS" "Z" (.int zc)) (hcs : ¬ zc = 0) (E_a1 : Exa Z h0 a1 "java/lang/String") (C_a1 : Fld Z h0 a1 "java/lang/String" "coder" "B" (.int (own_cd cs))) (V_a1 : Fld Z h0 a1 "java/lang/String" "value" "[B" (.ref t)) (A_t : Arv Z h0 t kb .byte (Int32.ofNat (own_by cs).length) ((own_by cs).map Value.int) (.int 0)) (hn : cs.length ≤ 64) :
    Met l mY0 (Jvm.Cond.code mY0 jdk_42_method_152_code 1 (some .byte) :: ws) rz0_0_0_0 #[(.ref a1)] Z h0 (Q_rmCoderU Z a1 zc t kb cs h0 n0) := by
  refine MetFree.of_bodySF (plainFor_of_name pn_14) hisR ?_
  intro p e s m args below meth c s₁ Bd hml0 hP hK
  obtain ⟨rfl, hZ, hh⟩ := hP
  have hx := Bd.exec
  have hby := Bd.bytes
  have hml : c.maxLocals = 1 := hml0
  have hown : s.vm.findClass "java/lang/String" = some m.cls := findClass_of_methodNamed Bd.named
  have hlk : meth.locks = false := BodyLoose.notSynchronized Bd
  have X0 : Stand p l e rz0_0_0_0 s m #[(.ref a1)] below meth c s₁ [] 0 0 := Stand.of_body Bd
  have e0 : s₁.heap = h0 := by rw [← hh, Bd.state]; rfl
  have N0 := Fr.nil n0
  show Go p e below s rz0_0_0_0.cells rz0_0_0_0.slots (Q_rmCoderU Z a1 zc t kb cs h0 n0) s₁ (entryFrame m #[(.ref a1)] 1)
  refine Go.eq (ef_rmCoderU m a1) ?_
  show Go _ _ _ _ _ _ _  s₁ (mkF m 0 #[.val (.ref a1)] [])
  obtain ⟨T1, X1, e1, st1⟩ := getS2 X0 hx hZ hown (host := "") (Or.inl (hwi hw 18 rfl)) Via.refl e0 (S_COMPACT.ext O.2) (g := (mkF m 0 #[.val (.ref a1)] [])) rfl (hb hby (dq dz14 0 0 rfl))
  refine Go.st st1 ?_
  show Go _ _ _ _ _ _ _  T1 (mkF m 3 #[.val (.ref a1)] [(.int zc)])
  refine Go.st (fun _ => XS.ifNo X1.here hx rfl (hb hby (dq dz14 1 3 rfl)) rfl ((if0 _ _).trans (feq (hcs : ¬ (zc = (0 : Int32)))).1)) ?_
  show Go _ _ _ _ _ _ _  T1 (mkF m 6 #[.val (.ref a1)] [])
  refine Go.st (fun _ => XS.aloadN X1.here hx rfl (hb hby (dq dz14 2 6 rfl)) rfl rfl) ?_
  show Go _ _ _ _ _ _ _  T1 (mkF m 7 #[.val (.ref a1)] [(.ref a1)])
  obtain ⟨T2, X2, e2, st2⟩ := getF X1 hx hZ hown (host := "") (Or.inl (hwi hw 30 rfl)) Via.refl e1 C_a1 (g := (mkF m 7 #[.val (.ref a1)] [(.ref a1)])) rfl rfl (hb hby (dq dz14 3 7 rfl))
  refine Go.st st2 ?_
  show Go _ _ _ _ _ _ _  T2 (mkF m 10 #[.val (.ref a1)] [(.int (own_cd cs))])
  refine Go.st (fun _ => XS.goto X2.here hx rfl (pc0 := 10) (pc' := 14) rfl (hb hby (dq dz14 4 10 rfl)) (by decide) (by decide)) ?_
  show Go _ _ _ _ _ _ _  T2 (mkF m 14 #[.val (.ref a1)] [(.int (own_cd cs))])
  refine Go.retN X2 hlk hx (t := .byte) (z' := (own_cd cs)) Bd.returns (by simp) (hb hby (dq dz14 5 14 rfl)) (by decide) (by decide) (own_ncd cs) ?_
  show Q_rmCoderU Z _ _ _ _ _ h0 n0 _ T2.heap _
  rw [e2]
  exact ⟨rfl, N0, rfl⟩
def Q_rmLenU (Z : State) (a1 : Addr) (zc : Int32) (t : Addr) (kb : ClassId) (cs : List Int32) (h0 : Heap) (n0 : Nat) (v : Option Value) (h : Heap) (L : List Loc) : Prop := v = some (.int (Int32.ofNat cs.length)) ∧ Fr n0 L ∧ h = h0
theorem rmLenU (l : Launch) (Z : State) (a0 : Array Value) (hw : HWt a0 Z) (ws : List Jvm.Cond) (a1 : Addr) (zc : Int32) (t : Addr) (kb : ClassId) (cs : List Int32) (h0 : Heap) (n0 : Nat) (O : Old Z n0 h0) (S_COMPACT : Sta Z Z.heap "java/lang/String" "COMPACT_STRINGS" "Z" (.int zc)) (hcs : ¬ zc = 0) (E_a1 : Exa Z h0 a1 "java/lang/String") (C_a1 : Fld Z h0 a1 "java/lang/String" "coder" "B" (.int (own_cd cs))) (V_a1 : Fld Z h0 a1 "java/lang/String" "value" "[B" (.ref t)) (A_t : Arv Z h0 t kb .byte (Int32.ofNat (own_by cs).length) ((own_by cs).map Value.int) (.int 0)) (hn : cs.length ≤ 64) :
    Met l mY1 (Jvm.Cond.code mY1 jdk_42_method_54_code 1 (some .int) :: ws) rz1_0_0_13 #[(.ref a1)] Z h0 (Q_rmLenU Z a1 zc t kb cs h0 n0) := by
  refine MetFree.of_bodySF (plainFor_of_name pn_13) hisR ?_
  intro p e s m args below meth c s₁ Bd hml0 hP hK
  obtain ⟨rfl, hZ, hh⟩ := hP
  have hx := Bd.exec
  have hby := Bd.bytes
  have hml : c.maxLocals = 1 := hml0
  have hown : s.vm.findClass "java/lang/String" = some m.cls := findClass_of_methodNamed Bd.named
  have hlk : meth.locks = false := BodyLoose.notSynchronized Bd
  have X0 : Stand p l e rz1_0_0_13 s m #[(.ref a1)] below meth c s₁ [] 0 0 := Stand.of_body Bd
  have e0 : s₁.heap = h0 := by rw [← hh, Bd.state]; rfl
  have N0 := Fr.nil n0
  show Go p e below s rz1_0_0_13.cells rz1_0_0_13.slots (Q_rmLenU Z a1 zc t kb cs h0 n0) s₁ (entryFrame m #[(.ref a1)] 1)
  refine Go.eq (ef_rmLenU m a1) ?_
  show Go _ _ _ _ _ _ _  s₁ (mkF m 0 #[.val (.ref a1)] [])
  refine Go.st (fun _ => XS.aloadN X0.here hx rfl (hb hby (dq dz13 0 0 rfl)) rfl rfl) ?_
  show Go _ _ _ _ _ _ _  s₁ (mkF m 1 #[.val (.ref a1)] [(.ref a1)])
  obtain ⟨T1, X1, e1, st1⟩ := getF X0 hx hZ hown (host := "") (Or.inl (hwi hw 32 rfl)) Via.refl e0 V_a1 (g := (mkF m 1 #[.val (.ref a1)] [(.ref a1)])) rfl rfl (hb hby (dq dz13 1 1 rfl))
  refine Go.st st1 ?_
  show Go _ _ _ _ _ _ _  T1 (mkF m 4 #[.val (.ref a1)] [(.ref t)])
  obtain ⟨cl2, Ar2, q2, S2, M2, Hh2, G2⟩ := id A_t
  refine Go.st (X1.arraylength hx (by rw [e1]; exact Ar2.1) (State.isArrayOf_alike hZ.alike Ar2.2.1) (g := (mkF m 4 #[.val (.ref a1)] [(.ref t)])) rfl rfl (hb hby (dq dz13 2 4 rfl))) ?_
  rw [len_of S2 M2]
  show Go _ _ _ _ _ _ _  T1 (mkF m 5 #[.val (.ref a1)] [(.int (Int32.ofNat (own_by cs).length))])
  refine Go.st (fun _ => XS.aloadN X1.here hx rfl (hb hby (dq dz13 3 5 rfl)) rfl rfl) ?_
  show Go _ _ _ _ _ _ _  T1 (mkF m 6 #[.val (.ref a1)] [(.ref a1), (.int (Int32.ofNat (own_by cs).length))])
  obtain ⟨cq3, kq3, q3a, q3b, q3c⟩ := isOf hZ e1 E_a1
  refine Go.pure (w := (some (.int (own_cd cs)))) (rest := [(.int (Int32.ofNat (own_by cs).length))]) (pc' := 9) (X1.virtualBack hx (y := mY0) (z := mY0) hown (mvT hZ (hwi hw 77 rfl)) (mvT hZ (hwi hw 78 rfl)) (notFace_of_selects (args := #[]) (mvT hZ (hwi hw 80 rfl))) (mvT hZ (hwi hw 80 rfl)) (mvT hZ (hwi hw 79 rfl)) (by decide) (backOf (W := 1) (rmCoderU l Z a0 hw [] a1 zc t kb cs h0 n0 O S_COMPACT hcs E_a1 C_a1 V_a1 A_t hn) hZ (hwi hw 81 rfl) (hwi hw 6 rfl) (by decide) (by decide)) q3a q3c (g := (mkF m 6 #[.val (.ref a1)] [(.ref a1), (.int (Int32.ofNat (own_by cs).length))])) rfl (by rw [hml]; rfl) (Steps.refl _) (argsL := []) (rest := [(.int (Int32.ofNat (own_by cs).length))]) (lenOf pd___B rfl) rfl (by show 2 * 0 + _ ≤ _; exact Nat.le_of_eq rfl) (hb hby (dq dz13 4 6 rfl)) (fun _ _ => ⟨rfl, e1, (by decide : 0 + 0 ≤ _), (by decide : 0 + 0 ≤ _)⟩)) (fun _ _ _ q => q) N0 (fun T3 L3 X3 e3q N3 => ?_)
  show Go _ _ _ _ _ _ _  T3 (mkF m 9 #[.val (.ref a1)] [(.int (own_cd cs)), (.int (Int32.ofNat (own_by cs).length))])
  refine Go.st (fun _ => XS.ishr X3.here hx rfl (hb hby (dq dz13 5 9 rfl)) rfl) ?_
  show Go _ _ _ _ _ _ _  T3 (mkF m 10 #[.val (.ref a1)] [(.int ((Int32.ofNat (own_by cs).length) >>> ((own_cd cs) &&& 31)))])
  rw [own_lencd (by omega)]
  show Go _ _ _ _ _ _ _  T3 (mkF m 10 #[.val (.ref a1)] [(.int (Int32.ofNat cs.length))])
  refine Go.retI X3 hlk hx Bd.returns (hb hby (dq dz13 6 10 rfl)) (by decide) (by decide) ?_
  show Q_rmLenU Z _ _ _ _ _ h0 n0 _ T3.heap _
  rw [e3q]
  exact ⟨rfl, N3, rfl⟩
def Q_rmIsLU (Z : State) (a1 : Addr) (zc : Int32) (t : Addr) (kb : ClassId) (cs : List Int32) (h0 : Heap) (n0 : Nat) (v : Option Value) (h : Heap) (L : List Loc) : Prop := v = some (.int (if own_cd cs = 0 then 1 else 0)) ∧ Fr n0 L ∧ h = h0
theorem rmIsLU (l : Launch) (Z : State) (a0 : Array Value) (hw : HWt a0 Z) (ws : List Jvm.Cond) (a1 : Addr) (zc : Int32) (t : Addr) (kb : ClassId) (cs : List Int32) (h0 : Heap) (n0 : Nat) (O : Old Z n0 h0) (S_COMPACT : Sta Z Z.heap "java/lang/String" "COMPACT_STRINGS" "Z" (.int zc)) (hcs : ¬ zc = 0) (E_a1 : Exa Z h0 a1 "java/lang/String") (C_a1 : Fld Z h0 a1 "java/lang/String" "coder" "B" (.int (own_cd cs))) (V_a1 : Fld Z h0 a1 "java/lang/String" "value" "[B" (.ref t)) (A_t : Arv Z h0 t kb .byte (Int32.ofNat (own_by cs).length) ((own_by cs).map Value.int) (.int 0)) (hn : cs.length ≤ 64) :
    Met l mY28 (Jvm.Cond.code mY28 jdk_42_method_154_code 1 (some .boolean) :: ws) rz0_0_0_0 #[(.ref a1)] Z h0 (Q_rmIsLU Z a1 zc t kb cs h0 n0) := by
  refine MetFree.of_bodySF (plainFor_of_name pn_39) hisR ?_
  intro p e s m args below meth c s₁ Bd hml0 hP hK
  obtain ⟨rfl, hZ, hh⟩ := hP
  have hx := Bd.exec
  have hby := Bd.bytes
  have hml : c.maxLocals = 1 := hml0
  have hown : s.vm.findClass "java/lang/String" = some m.cls := findClass_of_methodNamed Bd.named
  have hlk : meth.locks = false := BodyLoose.notSynchronized Bd
  have X0 : Stand p l e rz0_0_0_0 s m #[(.ref a1)] below meth c s₁ [] 0 0 := Stand.of_body Bd
  have e0 : s₁.heap = h0 := by rw [← hh, Bd.state]; rfl
  have N0 := Fr.nil n0
  show Go p e below s rz0_0_0_0.cells rz0_0_0_0.slots (Q_rmIsLU Z a1 zc t kb cs h0 n0) s₁ (entryFrame m #[(.ref a1)] 1)
  refine Go.eq (ef_rmIsLU m a1) ?_
  show Go _ _ _ _ _ _ _  s₁ (mkF m 0 #[.val (.ref a1)] [])
  obtain ⟨T1, X1, e1, st1⟩ := getS2 X0 hx hZ hown (host := "") (Or.inl (hwi hw 18 rfl)) Via.refl e0 (S_COMPACT.ext O.2) (g := (mkF m 0 #[.val (.ref a1)] [])) rfl (hb hby (dq dz39 0 0 rfl))
  refine Go.st st1 ?_
  show Go _ _ _ _ _ _ _  T1 (mkF m 3 #[.val (.ref a1)] [(.int zc)])
  refine Go.st (fun _ => XS.ifNo X1.here hx rfl (hb hby (dq dz39 1 3 rfl)) rfl ((if0 _ _).trans (feq (hcs : ¬ (zc = (0 : Int32)))).1)) ?_
  show Go _ _ _ _ _ _ _  T1 (mkF m 6 #[.val (.ref a1)] [])
  refine Go.st (fun _ => XS.aloadN X1.here hx rfl (hb hby (dq dz39 2 6 rfl)) rfl rfl) ?_
  show Go _ _ _ _ _ _ _  T1 (mkF m 7 #[.val (.ref a1)] [(.ref a1)])
  obtain ⟨T2, X2, e2, st2⟩ := getF X1 hx hZ hown (host := "") (Or.inl (hwi hw 30 rfl)) Via.refl e1 C_a1 (g := (mkF m 7 #[.val (.ref a1)] [(.ref a1)])) rfl rfl (hb hby (dq dz39 3 7 rfl))
  refine Go.st st2 ?_
  show Go _ _ _ _ _ _ _  T2 (mkF m 10 #[.val (.ref a1)] [(.int (own_cd cs))])
  by_cases c10_3 : (own_cd cs) = (0 : Int32)
  · refine Go.st (fun _ => XS.ifNo X2.here hx rfl (hb hby (dq dz39 4 10 rfl)) rfl ((if0 _ _).trans (teq c10_3).2)) ?_
    show Go _ _ _ _ _ _ _  T2 (mkF m 13 #[.val (.ref a1)] [])
    refine Go.st (fun _ => XS.iconst X2.here hx rfl (hb hby (dq dz39 5 13 rfl))) ?_
    refine Go.st (fun _ => XS.goto X2.here hx rfl (pc0 := 14) (pc' := 18) rfl (hb hby (dq dz39 6 14 rfl)) (by decide) (by decide)) ?_
    show Go _ _ _ _ _ _ _  T2 (mkF m 18 #[.val (.ref a1)] [(.int (1 : Int32))])
    refine Go.retN X2 hlk hx (t := .boolean) (z' := (1 : Int32)) Bd.returns (by simp) (hb hby (dq dz39 7 18 rfl)) (by decide) (by decide) rfl ?_
    show Q_rmIsLU Z _ _ _ _ _ h0 n0 _ T2.heap _
    rw [e2]
    exact ⟨by rw [if_pos c10_3], N0, rfl⟩
  · refine Go.st (fun _ => XS.ifYes X2.here hx rfl (pc0 := 10) (pc' := 17) rfl (hb hby (dq dz39 4 10 rfl)) rfl ((if0 _ _).trans (feq c10_3).2) (by decide) (by decide)) ?_
    show Go _ _ _ _ _ _ _  T2 (mkF m 17 #[.val (.ref a1)] [])
    refine Go.st (fun _ => XS.iconst X2.here hx rfl (hb hby (dq dz39 8 17 rfl))) ?_
    show Go _ _ _ _ _ _ _  T2 (mkF m 18 #[.val (.ref a1)] [(.int (0 : Int32))])
    refine Go.retN X2 hlk hx (t := .boolean) (z' := (0 : Int32)) Bd.returns (by simp) (hb hby (dq dz39 7 18 rfl)) (by decide) (by decide) rfl ?_
    show Q_rmIsLU Z _ _ _ _ _ h0 n0 _ T2.heap _
    rw [e2]
    exact ⟨by rw [if_neg c10_3], N0, rfl⟩
def Q_rmE0U (Z : State) (a1 : Addr) (kk : Nat) (t : Addr) (kd : ClassId) (cs : List Int32) (cap : Nat) (h0 : Heap) (n0 : Nat) (v : Option Value) (h : Heap) (L : List Loc) : Prop := v = none ∧ Fr n0 L ∧ h = h0
theorem rmE0U (l : Launch) (Z : State) (a0 : Array Value) (hw : HWt a0 Z) (ws : List Jvm.Cond) (a1 : Addr) (kk : Nat) (t : Addr) (kd : ClassId) (cs : List Int32) (cap : Nat) (h0 : Heap) (n0 : Nat) (O : Old Z n0 h0) (E_a1 : Exa Z h0 a1 "java/lang/StringBuilder") (C_a1 : Fld Z h0 a1 "java/lang/AbstractStringBuilder" "coder" "B" (.int (own_cd cs))) (V_a1 : Fld Z h0 a1 "java/lang/AbstractStringBuilder" "value" "[B" (.ref t)) (N_a1 : Fld Z h0 a1 "java/lang/AbstractStringBuilder" "count" "I" (.int (Int32.ofNat cs.length))) (M_a1 : Fld Z h0 a1 "java/lang/AbstractStringBuilder" "maybeLatin1" "Z" (.int 0)) (A_t : Arv Z h0 t kd .byte (Int32.ofNat (own_cl cs cap)) ((own_by cs).map Value.int) (.int 0)) (K_a1 : cs.length ≤ cap) (B_a1 : 16 ≤ cap) (D_a1 : cap ≤ 64) (g_a1 : n0 ≤ a1) (g_t : n0 ≤ t) (hk1 : kk ≤ cap) :
    Met l mY10 (Jvm.Cond.code mY10 jdk_68_method_9_code 3 none :: ws) rz0_0_0_0 #[(.ref a1), (.int (Int32.ofNat kk))] Z h0 (Q_rmE0U Z a1 kk t kd cs cap h0 n0) := by
  refine MetFree.of_bodySF (plainFor_of_name pn_15) hisR ?_
  intro p e s m args below meth c s₁ Bd hml0 hP hK
  obtain ⟨rfl, hZ, hh⟩ := hP
  have hx := Bd.exec
  have hby := Bd.bytes
  have hml : c.maxLocals = 3 := hml0
  have hown : s.vm.findClass "java/lang/AbstractStringBuilder" = some m.cls := findClass_of_methodNamed Bd.named
  have hlk : meth.locks = false := BodyLoose.notSynchronized Bd
  have X0 : Stand p l e rz0_0_0_0 s m #[(.ref a1), (.int (Int32.ofNat kk))] below meth c s₁ [] 0 0 := Stand.of_body Bd
  have e0 : s₁.heap = h0 := by rw [← hh, Bd.state]; rfl
  have N0 := Fr.nil n0
  show Go p e below s rz0_0_0_0.cells rz0_0_0_0.slots (Q_rmE0U Z a1 kk t kd cs cap h0 n0) s₁ (entryFrame m #[(.ref a1), (.int (Int32.ofNat kk))] 3)
  refine Go.eq (ef_rmE0U m a1 (Int32.ofNat kk)) ?_
  show Go _ _ _ _ _ _ _  s₁ (mkF m 0 #[.val (.ref a1), .val (.int (Int32.ofNat kk)), .unset] [])
  refine Go.st (fun _ => XS.aloadN X0.here hx rfl (hb hby (dq dz15 0 0 rfl)) rfl rfl) ?_
  show Go _ _ _ _ _ _ _  s₁ (mkF m 1 #[.val (.ref a1), .val (.int (Int32.ofNat kk)), .unset] [(.ref a1)])
  obtain ⟨T1, X1, e1, st1⟩ := getF X0 hx hZ hown (host := "") (Or.inl (hwi hw 57 rfl)) Via.refl e0 V_a1 (g := (mkF m 1 #[.val (.ref a1), .val (.int (Int32.ofNat kk)), .unset] [(.ref a1)])) rfl rfl (hb hby (dq dz15 1 1 rfl))
  refine Go.st st1 ?_
  show Go _ _ _ _ _ _ _  T1 (mkF m 4 #[.val (.ref a1), .val (.int (Int32.ofNat kk)), .unset] [(.ref t)])
  obtain ⟨cl2, Ar2, q2, S2, M2, Hh2, G2⟩ := id A_t
  refine Go.st (X1.arraylength hx (by rw [e1]; exact Ar2.1) (State.isArrayOf_alike hZ.alike Ar2.2.1) (g := (mkF m 4 #[.val (.ref a1), .val (.int (Int32.ofNat kk)), .unset] [(.ref t)])) rfl rfl (hb hby (dq dz15 2 4 rfl))) ?_
  rw [len_of S2 M2]
  show Go _ _ _ _ _ _ _  T1 (mkF m 5 #[.val (.ref a1), .val (.int (Int32.ofNat kk)), .unset] [(.int (Int32.ofNat (own_cl cs cap)))])
  refine Go.st (fun _ => XS.aloadN X1.here hx rfl (hb hby (dq dz15 3 5 rfl)) rfl rfl) ?_
  show Go _ _ _ _ _ _ _  T1 (mkF m 6 #[.val (.ref a1), .val (.int (Int32.ofNat kk)), .unset] [(.ref a1), (.int (Int32.ofNat (own_cl cs cap)))])
  obtain ⟨T3, X3, e3, st3⟩ := getF X1 hx hZ hown (host := "") (Or.inl (hwi hw 59 rfl)) Via.refl e1 C_a1 (g := (mkF m 6 #[.val (.ref a1), .val (.int (Int32.ofNat kk)), .unset] [(.ref a1), (.int (Int32.ofNat (own_cl cs cap)))])) rfl rfl (hb hby (dq dz15 4 6 rfl))
  refine Go.st st3 ?_
  show Go _ _ _ _ _ _ _  T3 (mkF m 9 #[.val (.ref a1), .val (.int (Int32.ofNat kk)), .unset] [(.int (own_cd cs)), (.int (Int32.ofNat (own_cl cs cap)))])
  refine Go.st (fun _ => XS.ishr X3.here hx rfl (hb hby (dq dz15 5 9 rfl)) rfl) ?_
  show Go _ _ _ _ _ _ _  T3 (mkF m 10 #[.val (.ref a1), .val (.int (Int32.ofNat kk)), .unset] [(.int ((Int32.ofNat (own_cl cs cap)) >>> ((own_cd cs) &&& 31)))])
  rw [own_shrcd cs (by omega)]
  refine Go.st (fun _ => XS.istoreN X3.here hx rfl (hb hby (dq dz15 6 10 rfl)) rfl (l' := #[.val (.ref a1), .val (.int (Int32.ofNat kk)), .val (.int (Int32.ofNat cap))]) rfl) ?_
  refine Go.st (fun _ => XS.iloadN X3.here hx rfl (hb hby (dq dz15 7 11 rfl)) rfl) ?_
  refine Go.st (fun _ => XS.iloadN X3.here hx rfl (hb hby (dq dz15 8 12 rfl)) rfl) ?_
  refine Go.st (fun _ => XS.isub X3.here hx rfl (hb hby (dq dz15 9 13 rfl)) rfl) ?_
  show Go _ _ _ _ _ _ _  T3 (mkF m 14 #[.val (.ref a1), .val (.int (Int32.ofNat kk)), .val (.int (Int32.ofNat cap))] [(.int ((Int32.ofNat kk) - (Int32.ofNat cap)))])
  refine Go.st (fun _ => XS.ifYes X3.here hx rfl (pc0 := 14) (pc' := 38) rfl (hb hby (dq dz15 10 14 rfl)) rfl ((if0 _ _).trans (flt (own_le0 hk1 (by omega) : ¬ ((0 : Int32) < ((Int32.ofNat kk) - (Int32.ofNat cap))))).2.2.2) (by decide) (by decide)) ?_
  show Go _ _ _ _ _ _ _  T3 (mkF m 38 #[.val (.ref a1), .val (.int (Int32.ofNat kk)), .val (.int (Int32.ofNat cap))] [])
  refine Go.ret0 X3 hlk hx Bd.returns (hb hby (dq dz15 11 38 rfl)) (by decide) (by decide) ?_
  show Q_rmE0U Z _ _ _ _ _ _ h0 n0 _ T3.heap _
  rw [e3]
  exact ⟨rfl, N0, rfl⟩
def Q_rmNCU (Z : State) (a1 : Addr) (kk : Nat) (t : Addr) (kd : ClassId) (cs : List Int32) (cap : Nat) (h0 : Heap) (n0 : Nat) (v : Option Value) (h : Heap) (L : List Loc) : Prop := v = some (.int (Int32.ofNat (cap + max (kk - cap) (cap + 2)))) ∧ Fr n0 L ∧ h = h0
theorem rmNCU (l : Launch) (Z : State) (a0 : Array Value) (hw : HWt a0 Z) (ws : List Jvm.Cond) (a1 : Addr) (kk : Nat) (t : Addr) (kd : ClassId) (cs : List Int32) (cap : Nat) (h0 : Heap) (n0 : Nat) (O : Old Z n0 h0) (E_a1 : Exa Z h0 a1 "java/lang/StringBuilder") (C_a1 : Fld Z h0 a1 "java/lang/AbstractStringBuilder" "coder" "B" (.int (own_cd cs))) (V_a1 : Fld Z h0 a1 "java/lang/AbstractStringBuilder" "value" "[B" (.ref t)) (N_a1 : Fld Z h0 a1 "java/lang/AbstractStringBuilder" "count" "I" (.int (Int32.ofNat cs.length))) (M_a1 : Fld Z h0 a1 "java/lang/AbstractStringBuilder" "maybeLatin1" "Z" (.int 0)) (A_t : Arv Z h0 t kd .byte (Int32.ofNat (own_cl cs cap)) ((own_by cs).map Value.int) (.int 0)) (K_a1 : cs.length ≤ cap) (B_a1 : 16 ≤ cap) (D_a1 : cap ≤ 64) (g_a1 : n0 ≤ a1) (g_t : n0 ≤ t) (hk1 : cap < kk) (hk2 : kk ≤ 40) :
    Met l mY8 (Jvm.Cond.code mY8 jdk_68_method_10_code 6 (some .int) :: ws) rz2_0_0_29 #[(.ref a1), (.int (Int32.ofNat kk))] Z h0 (Q_rmNCU Z a1 kk t kd cs cap h0 n0) := by
  refine MetFree.of_bodySF (plainFor_of_name pn_58) hisR ?_
  intro p e s m args below meth c s₁ Bd hml0 hP hK
  obtain ⟨rfl, hZ, hh⟩ := hP
  have hx := Bd.exec
  have hby := Bd.bytes
  have hml : c.maxLocals = 6 := hml0
  have hown : s.vm.findClass "java/lang/AbstractStringBuilder" = some m.cls := findClass_of_methodNamed Bd.named
  have hlk : meth.locks = false := BodyLoose.notSynchronized Bd
  have X0 : Stand p l e rz2_0_0_29 s m #[(.ref a1), (.int (Int32.ofNat kk))] below meth c s₁ [] 0 0 := Stand.of_body Bd
  have e0 : s₁.heap = h0 := by rw [← hh, Bd.state]; rfl
  have N0 := Fr.nil n0
  show Go p e below s rz2_0_0_29.cells rz2_0_0_29.slots (Q_rmNCU Z a1 kk t kd cs cap h0 n0) s₁ (entryFrame m #[(.ref a1), (.int (Int32.ofNat kk))] 6)
  refine Go.eq (ef_rmNCU m a1 (Int32.ofNat kk)) ?_
  have w1 := own_clb cs cap
  have w2 := own_clb cs kk
  have w3 := own_clb cs 2
  have w4 := own_clle cs (show cap ≤ kk by omega)
  show Go _ _ _ _ _ _ _  s₁ (mkF m 0 #[.val (.ref a1), .val (.int (Int32.ofNat kk)), .unset, .unset, .unset, .unset] [])
  refine Go.st (fun _ => XS.aloadN X0.here hx rfl (hb hby (dq dz58 0 0 rfl)) rfl rfl) ?_
  show Go _ _ _ _ _ _ _  s₁ (mkF m 1 #[.val (.ref a1), .val (.int (Int32.ofNat kk)), .unset, .unset, .unset, .unset] [(.ref a1)])
  obtain ⟨T1, X1, e1, st1⟩ := getF X0 hx hZ hown (host := "") (Or.inl (hwi hw 57 rfl)) Via.refl e0 V_a1 (g := (mkF m 1 #[.val (.ref a1), .val (.int (Int32.ofNat kk)), .unset, .unset, .unset, .unset] [(.ref a1)])) rfl rfl (hb hby (dq dz58 1 1 rfl))
  refine Go.st st1 ?_
  show Go _ _ _ _ _ _ _  T1 (mkF m 4 #[.val (.ref a1), .val (.int (Int32.ofNat kk)), .unset, .unset, .unset, .unset] [(.ref t)])
  obtain ⟨cl2, Ar2, q2, S2, M2, Hh2, G2⟩ := id A_t
  refine Go.st (X1.arraylength hx (by rw [e1]; exact Ar2.1) (State.isArrayOf_alike hZ.alike Ar2.2.1) (g := (mkF m 4 #[.val (.ref a1), .val (.int (Int32.ofNat kk)), .unset, .unset, .unset, .unset] [(.ref t)])) rfl rfl (hb hby (dq dz58 2 4 rfl))) ?_
  rw [len_of S2 M2]
  show Go _ _ _ _ _ _ _  T1 (mkF m 5 #[.val (.ref a1), .val (.int (Int32.ofNat kk)), .unset, .unset, .unset, .unset] [(.int (Int32.ofNat (own_cl cs cap)))])
  refine Go.st (fun _ => XS.istoreN X1.here hx rfl (hb hby (dq dz58 3 5 rfl)) rfl (l' := #[.val (.ref a1), .val (.int (Int32.ofNat kk)), .val (.int (Int32.ofNat (own_cl cs cap))), .unset, .unset, .unset]) rfl) ?_
  refine Go.st (fun _ => XS.iloadN X1.here hx rfl (hb hby (dq dz58 4 6 rfl)) rfl) ?_
  refine Go.st (fun _ => XS.aloadN X1.here hx rfl (hb hby (dq dz58 5 7 rfl)) rfl rfl) ?_
  show Go _ _ _ _ _ _ _  T1 (mkF m 8 #[.val (.ref a1), .val (.int (Int32.ofNat kk)), .val (.int (Int32.ofNat (own_cl cs cap))), .unset, .unset, .unset] [(.ref a1), (.int (Int32.ofNat kk))])
  obtain ⟨T3, X3, e3, st3⟩ := getF X1 hx hZ hown (host := "") (Or.inl (hwi hw 59 rfl)) Via.refl e1 C_a1 (g := (mkF m 8 #[.val (.ref a1), .val (.int (Int32.ofNat kk)), .val (.int (Int32.ofNat (own_cl cs cap))), .unset, .unset, .unset] [(.ref a1), (.int (Int32.ofNat kk))])) rfl rfl (hb hby (dq dz58 6 8 rfl))
  refine Go.st st3 ?_
  show Go _ _ _ _ _ _ _  T3 (mkF m 11 #[.val (.ref a1), .val (.int (Int32.ofNat kk)), .val (.int (Int32.ofNat (own_cl cs cap))), .unset, .unset, .unset] [(.int (own_cd cs)), (.int (Int32.ofNat kk))])
  refine Go.st (fun _ => XS.ishl X3.here hx rfl (hb hby (dq dz58 7 11 rfl)) rfl) ?_
  show Go _ _ _ _ _ _ _  T3 (mkF m 12 #[.val (.ref a1), .val (.int (Int32.ofNat kk)), .val (.int (Int32.ofNat (own_cl cs cap))), .unset, .unset, .unset] [(.int ((Int32.ofNat kk) <<< ((own_cd cs) &&& 31)))])
  rw [own_shlcd cs (by omega)]
  refine Go.st (fun _ => XS.istoreN X3.here hx rfl (hb hby (dq dz58 8 12 rfl)) rfl (l' := #[.val (.ref a1), .val (.int (Int32.ofNat kk)), .val (.int (Int32.ofNat (own_cl cs cap))), .val (.int (Int32.ofNat (own_cl cs kk))), .unset, .unset]) rfl) ?_
  refine Go.st (fun _ => XS.iloadN X3.here hx rfl (hb hby (dq dz58 9 13 rfl)) rfl) ?_
  refine Go.st (fun _ => XS.iloadN X3.here hx rfl (hb hby (dq dz58 10 14 rfl)) rfl) ?_
  refine Go.st (fun _ => XS.isub X3.here hx rfl (hb hby (dq dz58 11 15 rfl)) rfl) ?_
  show Go _ _ _ _ _ _ _  T3 (mkF m 16 #[.val (.ref a1), .val (.int (Int32.ofNat kk)), .val (.int (Int32.ofNat (own_cl cs cap))), .val (.int (Int32.ofNat (own_cl cs kk))), .unset, .unset] [(.int ((Int32.ofNat (own_cl cs kk)) - (Int32.ofNat (own_cl cs cap))))])
  rw [own_osub (by omega) (by omega)]
  refine Go.st (fun _ => XS.istore X3.here hx rfl (hb hby (dq dz58 12 16 rfl)) rfl (l' := #[.val (.ref a1), .val (.int (Int32.ofNat kk)), .val (.int (Int32.ofNat (own_cl cs cap))), .val (.int (Int32.ofNat (own_cl cs kk))), .val (.int (Int32.ofNat (own_cl cs kk - own_cl cs cap))), .unset]) rfl) ?_
  show Go _ _ _ _ _ _ _  T3 (mkF m 18 #[.val (.ref a1), .val (.int (Int32.ofNat kk)), .val (.int (Int32.ofNat (own_cl cs cap))), .val (.int (Int32.ofNat (own_cl cs kk))), .val (.int (Int32.ofNat (own_cl cs kk - own_cl cs cap))), .unset] [])
  refine Go.st (fun _ => XS.iloadN X3.here hx rfl (hb hby (dq dz58 13 18 rfl)) rfl) ?_
  refine Go.st (fun _ => XS.iload X3.here hx rfl (hb hby (dq dz58 14 19 rfl)) rfl) ?_
  refine Go.st (fun _ => XS.iloadN X3.here hx rfl (hb hby (dq dz58 15 21 rfl)) rfl) ?_
  refine Go.st (fun _ => XS.iconst X3.here hx rfl (hb hby (dq dz58 16 22 rfl))) ?_
  refine Go.st (fun _ => XS.aloadN X3.here hx rfl (hb hby (dq dz58 17 23 rfl)) rfl rfl) ?_
  show Go _ _ _ _ _ _ _  T3 (mkF m 24 #[.val (.ref a1), .val (.int (Int32.ofNat kk)), .val (.int (Int32.ofNat (own_cl cs cap))), .val (.int (Int32.ofNat (own_cl cs kk))), .val (.int (Int32.ofNat (own_cl cs kk - own_cl cs cap))), .unset] [(.ref a1), (.int (2 : Int32)), (.int (Int32.ofNat (own_cl cs cap))), (.int (Int32.ofNat (own_cl cs kk - own_cl cs cap))), (.int (Int32.ofNat (own_cl cs cap)))])
  obtain ⟨T4, X4, e4, st4⟩ := getF X3 hx hZ hown (host := "") (Or.inl (hwi hw 59 rfl)) Via.refl e3 C_a1 (g := (mkF m 24 #[.val (.ref a1), .val (.int (Int32.ofNat kk)), .val (.int (Int32.ofNat (own_cl cs cap))), .val (.int (Int32.ofNat (own_cl cs kk))), .val (.int (Int32.ofNat (own_cl cs kk - own_cl cs cap))), .unset] [(.ref a1), (.int (2 : Int32)), (.int (Int32.ofNat (own_cl cs cap))), (.int (Int32.ofNat (own_cl cs kk - own_cl cs cap))), (.int (Int32.ofNat (own_cl cs cap)))])) rfl rfl (hb hby (dq dz58 18 24 rfl))
  refine Go.st st4 ?_
  show Go _ _ _ _ _ _ _  T4 (mkF m 27 #[.val (.ref a1), .val (.int (Int32.ofNat kk)), .val (.int (Int32.ofNat (own_cl cs cap))), .val (.int (Int32.ofNat (own_cl cs kk))), .val (.int (Int32.ofNat (own_cl cs kk - own_cl cs cap))), .unset] [(.int (own_cd cs)), (.int (2 : Int32)), (.int (Int32.ofNat (own_cl cs cap))), (.int (Int32.ofNat (own_cl cs kk - own_cl cs cap))), (.int (Int32.ofNat (own_cl cs cap)))])
  refine Go.st (fun _ => XS.ishl X4.here hx rfl (hb hby (dq dz58 19 27 rfl)) rfl) ?_
  show Go _ _ _ _ _ _ _  T4 (mkF m 28 #[.val (.ref a1), .val (.int (Int32.ofNat kk)), .val (.int (Int32.ofNat (own_cl cs cap))), .val (.int (Int32.ofNat (own_cl cs kk))), .val (.int (Int32.ofNat (own_cl cs kk - own_cl cs cap))), .unset] [(.int ((2 : Int32) <<< ((own_cd cs) &&& 31))), (.int (Int32.ofNat (own_cl cs cap))), (.int (Int32.ofNat (own_cl cs kk - own_cl cs cap))), (.int (Int32.ofNat (own_cl cs cap)))])
  rw [own_shl2cd]
  refine Go.st (fun _ => XS.iadd X4.here hx rfl (hb hby (dq dz58 20 28 rfl)) rfl) ?_
  show Go _ _ _ _ _ _ _  T4 (mkF m 29 #[.val (.ref a1), .val (.int (Int32.ofNat kk)), .val (.int (Int32.ofNat (own_cl cs cap))), .val (.int (Int32.ofNat (own_cl cs kk))), .val (.int (Int32.ofNat (own_cl cs kk - own_cl cs cap))), .unset] [(.int ((Int32.ofNat (own_cl cs cap)) + (Int32.ofNat (own_cl cs 2)))), (.int (Int32.ofNat (own_cl cs kk - own_cl cs cap))), (.int (Int32.ofNat (own_cl cs cap)))])
  rw [own_oadd]
  show Go _ _ _ _ _ _ _  T4 (mkF m 29 #[.val (.ref a1), .val (.int (Int32.ofNat kk)), .val (.int (Int32.ofNat (own_cl cs cap))), .val (.int (Int32.ofNat (own_cl cs kk))), .val (.int (Int32.ofNat (own_cl cs kk - own_cl cs cap))), .unset] [(.int (Int32.ofNat (own_cl cs cap + own_cl cs 2))), (.int (Int32.ofNat (own_cl cs kk - own_cl cs cap))), (.int (Int32.ofNat (own_cl cs cap)))])
  refine Go.pureS (w := (some (.int (Int32.ofNat (own_cl cs cap + max (own_cl cs kk - own_cl cs cap) (own_cl cs cap + own_cl cs 2)))))) (rest := []) (pc' := 32) (Jvm.LawKit.callS X4 hx (y := mY7) hown (mvT hZ (hwi hw 317 rfl)) (mvT hZ (hwi hw 318 rfl)) (mvT hZ (hwi hw 319 rfl)) (mvT hZ (hwi hw 320 rfl)) (by decide) (backOf (W := 0) (rmNL l Z a0 hw [] (own_cl cs cap) (own_cl cs kk - own_cl cs cap) (own_cl cs cap + own_cl cs 2) h0 n0 O (by omega) (by omega) (by omega) (by omega)) hZ (hwi hw 320 rfl) (hwi hw 319 rfl) (by decide) (by decide)) (g := (mkF m 29 #[.val (.ref a1), .val (.int (Int32.ofNat kk)), .val (.int (Int32.ofNat (own_cl cs cap))), .val (.int (Int32.ofNat (own_cl cs kk))), .val (.int (Int32.ofNat (own_cl cs kk - own_cl cs cap))), .unset] [(.int (Int32.ofNat (own_cl cs cap + own_cl cs 2))), (.int (Int32.ofNat (own_cl cs kk - own_cl cs cap))), (.int (Int32.ofNat (own_cl cs cap)))])) rfl (by rw [hml]; rfl) (argsL := [(.int (Int32.ofNat (own_cl cs cap))), (.int (Int32.ofNat (own_cl cs kk - own_cl cs cap))), (.int (Int32.ofNat (own_cl cs cap + own_cl cs 2)))]) (rest := []) (lenOf pd__III_I rfl) rfl (by show 2 * 0 + _ ≤ _; exact Nat.le_of_eq rfl) (hb hby (dq dz58 21 29 rfl)) (fun _ _ => ⟨rfl, e4, (by decide : 0 + 0 ≤ _), (by decide : 0 + 0 ≤ _)⟩)) (fun _ _ _ q => q) N0 (fun T5 L5 X5 e5q N5 => ?_)
  show Go _ _ _ _ _ _ _  T5 (mkF m 32 #[.val (.ref a1), .val (.int (Int32.ofNat kk)), .val (.int (Int32.ofNat (own_cl cs cap))), .val (.int (Int32.ofNat (own_cl cs kk))), .val (.int (Int32.ofNat (own_cl cs kk - own_cl cs cap))), .unset] [(.int (Int32.ofNat (own_cl cs cap + max (own_cl cs kk - own_cl cs cap) (own_cl cs cap + own_cl cs 2))))])
  refine Go.st (fun _ => XS.istore X5.here hx rfl (hb hby (dq dz58 22 32 rfl)) rfl (l' := #[.val (.ref a1), .val (.int (Int32.ofNat kk)), .val (.int (Int32.ofNat (own_cl cs cap))), .val (.int (Int32.ofNat (own_cl cs kk))), .val (.int (Int32.ofNat (own_cl cs kk - own_cl cs cap))), .val (.int (Int32.ofNat (own_cl cs cap + max (own_cl cs kk - own_cl cs cap) (own_cl cs cap + own_cl cs 2))))]) rfl) ?_
  refine Go.st (fun _ => XS.iload X5.here hx rfl (hb hby (dq dz58 23 34 rfl)) rfl) ?_
  show Go _ _ _ _ _ _ _  T5 (mkF m 36 #[.val (.ref a1), .val (.int (Int32.ofNat kk)), .val (.int (Int32.ofNat (own_cl cs cap))), .val (.int (Int32.ofNat (own_cl cs kk))), .val (.int (Int32.ofNat (own_cl cs kk - own_cl cs cap))), .val (.int (Int32.ofNat (own_cl cs cap + max (own_cl cs kk - own_cl cs cap) (own_cl cs cap + own_cl cs 2))))] [(.int (Int32.ofNat (own_cl cs cap + max (own_cl cs kk - own_cl cs cap) (own_cl cs cap + own_cl cs 2))))])
  refine Go.st (X5.ldcInt hx hown (mvT hZ (hwi hw 325 rfl)) (g := (mkF m 36 #[.val (.ref a1), .val (.int (Int32.ofNat kk)), .val (.int (Int32.ofNat (own_cl cs cap))), .val (.int (Int32.ofNat (own_cl cs kk))), .val (.int (Int32.ofNat (own_cl cs kk - own_cl cs cap))), .val (.int (Int32.ofNat (own_cl cs cap + max (own_cl cs kk - own_cl cs cap) (own_cl cs cap + own_cl cs 2))))] [(.int (Int32.ofNat (own_cl cs cap + max (own_cl cs kk - own_cl cs cap) (own_cl cs cap + own_cl cs 2))))])) rfl (hb hby (dq dz58 24 36 rfl))) ?_
  show Go _ _ _ _ _ _ _  T5 (mkF m 38 #[.val (.ref a1), .val (.int (Int32.ofNat kk)), .val (.int (Int32.ofNat (own_cl cs cap))), .val (.int (Int32.ofNat (own_cl cs kk))), .val (.int (Int32.ofNat (own_cl cs kk - own_cl cs cap))), .val (.int (Int32.ofNat (own_cl cs cap + max (own_cl cs kk - own_cl cs cap) (own_cl cs cap + own_cl cs 2))))] [(.int (2147483647 : Int32)), (.int (Int32.ofNat (own_cl cs cap + max (own_cl cs kk - own_cl cs cap) (own_cl cs cap + own_cl cs 2))))])
  refine Go.st (fun _ => XS.icmpYes X5.here hx rfl (pc0 := 38) (pc' := 51) rfl (hb hby (dq dz58 25 38 rfl)) rfl (feq (own_onmax (by omega) : ¬ ((Int32.ofNat (own_cl cs cap + max (own_cl cs kk - own_cl cs cap) (own_cl cs cap + own_cl cs 2))) = (2147483647 : Int32)))).2 (by decide) (by decide)) ?_
  show Go _ _ _ _ _ _ _  T5 (mkF m 51 #[.val (.ref a1), .val (.int (Int32.ofNat kk)), .val (.int (Int32.ofNat (own_cl cs cap))), .val (.int (Int32.ofNat (own_cl cs kk))), .val (.int (Int32.ofNat (own_cl cs kk - own_cl cs cap))), .val (.int (Int32.ofNat (own_cl cs cap + max (own_cl cs kk - own_cl cs cap) (own_cl cs cap + own_cl cs 2))))] [])
  refine Go.st (fun _ => XS.iload X5.here hx rfl (hb hby (dq dz58 26 51 rfl)) rfl) ?_
  refine Go.st (fun _ => XS.aloadN X5.here hx rfl (hb hby (dq dz58 27 53 rfl)) rfl rfl) ?_
  show Go _ _ _ _ _ _ _  T5 (mkF m 54 #[.val (.ref a1), .val (.int (Int32.ofNat kk)), .val (.int (Int32.ofNat (own_cl cs cap))), .val (.int (Int32.ofNat (own_cl cs kk))), .val (.int (Int32.ofNat (own_cl cs kk - own_cl cs cap))), .val (.int (Int32.ofNat (own_cl cs cap + max (own_cl cs kk - own_cl cs cap) (own_cl cs cap + own_cl cs 2))))] [(.ref a1), (.int (Int32.ofNat (own_cl cs cap + max (own_cl cs kk - own_cl cs cap) (own_cl cs cap + own_cl cs 2))))])
  obtain ⟨T6, X6, e6, st6⟩ := getF X5 hx hZ hown (host := "") (Or.inl (hwi hw 59 rfl)) Via.refl e5q C_a1 (g := (mkF m 54 #[.val (.ref a1), .val (.int (Int32.ofNat kk)), .val (.int (Int32.ofNat (own_cl cs cap))), .val (.int (Int32.ofNat (own_cl cs kk))), .val (.int (Int32.ofNat (own_cl cs kk - own_cl cs cap))), .val (.int (Int32.ofNat (own_cl cs cap + max (own_cl cs kk - own_cl cs cap) (own_cl cs cap + own_cl cs 2))))] [(.ref a1), (.int (Int32.ofNat (own_cl cs cap + max (own_cl cs kk - own_cl cs cap) (own_cl cs cap + own_cl cs 2))))])) rfl rfl (hb hby (dq dz58 28 54 rfl))
  refine Go.st st6 ?_
  show Go _ _ _ _ _ _ _  T6 (mkF m 57 #[.val (.ref a1), .val (.int (Int32.ofNat kk)), .val (.int (Int32.ofNat (own_cl cs cap))), .val (.int (Int32.ofNat (own_cl cs kk))), .val (.int (Int32.ofNat (own_cl cs kk - own_cl cs cap))), .val (.int (Int32.ofNat (own_cl cs cap + max (own_cl cs kk - own_cl cs cap) (own_cl cs cap + own_cl cs 2))))] [(.int (own_cd cs)), (.int (Int32.ofNat (own_cl cs cap + max (own_cl cs kk - own_cl cs cap) (own_cl cs cap + own_cl cs 2))))])
  refine Go.st (fun _ => XS.ishr X6.here hx rfl (hb hby (dq dz58 29 57 rfl)) rfl) ?_
  show Go _ _ _ _ _ _ _  T6 (mkF m 58 #[.val (.ref a1), .val (.int (Int32.ofNat kk)), .val (.int (Int32.ofNat (own_cl cs cap))), .val (.int (Int32.ofNat (own_cl cs kk))), .val (.int (Int32.ofNat (own_cl cs kk - own_cl cs cap))), .val (.int (Int32.ofNat (own_cl cs cap + max (own_cl cs kk - own_cl cs cap) (own_cl cs cap + own_cl cs 2))))] [(.int ((Int32.ofNat (own_cl cs cap + max (own_cl cs kk - own_cl cs cap) (own_cl cs cap + own_cl cs 2))) >>> ((own_cd cs) &&& 31)))])
  rw [own_nc57 cs (by omega) (by omega)]
  show Go _ _ _ _ _ _ _  T6 (mkF m 58 #[.val (.ref a1), .val (.int (Int32.ofNat kk)), .val (.int (Int32.ofNat (own_cl cs cap))), .val (.int (Int32.ofNat (own_cl cs kk))), .val (.int (Int32.ofNat (own_cl cs kk - own_cl cs cap))), .val (.int (Int32.ofNat (own_cl cs cap + max (own_cl cs kk - own_cl cs cap) (own_cl cs cap + own_cl cs 2))))] [(.int (Int32.ofNat (cap + max (kk - cap) (cap + 2))))])
  refine Go.retI X6 hlk hx Bd.returns (hb hby (dq dz58 30 58 rfl)) (by decide) (by decide) ?_
  show Q_rmNCU Z _ _ _ _ _ _ h0 n0 _ T6.heap _
  rw [e6]
  exact ⟨rfl, N5, rfl⟩
def Q_rmE1U (Z : State) (a1 : Addr) (kk : Nat) (t : Addr) (kd : ClassId) (cs : List Int32) (cap : Nat) (h0 : Heap) (n0 : Nat) (v : Option Value) (h : Heap) (L : List Loc) : Prop := v = none ∧ Fr n0 L ∧ Keep h0 h [a1] ∧ ∃ (b : Addr) (kb : ClassId), h0.size ≤ b ∧ Exa Z h a1 "java/lang/StringBuilder" ∧ Fld Z h a1 "java/lang/AbstractStringBuilder" "coder" "B" (.int (own_cd cs)) ∧ Fld Z h a1 "java/lang/AbstractStringBuilder" "value" "[B" (.ref b) ∧ Fld Z h a1 "java/lang/AbstractStringBuilder" "count" "I" (.int (Int32.ofNat cs.length)) ∧ Fld Z h a1 "java/lang/AbstractStringBuilder" "maybeLatin1" "Z" (.int 0) ∧ Arv Z h b kb .byte (Int32.ofNat (own_cl cs (cap + max (kk - cap) (cap + 2)))) ((own_by cs).map Value.int) (.int 0)
theorem rmE1U (l : Launch) (Z : State) (a0 : Array Value) (hw : HWt a0 Z) (ws : List Jvm.Cond) (a1 : Addr) (kk : Nat) (t : Addr) (kd : ClassId) (cs : List Int32) (cap : Nat) (h0 : Heap) (n0 : Nat) (O : Old Z n0 h0) (E_a1 : Exa Z h0 a1 "java/lang/StringBuilder") (C_a1 : Fld Z h0 a1 "java/lang/AbstractStringBuilder" "coder" "B" (.int (own_cd cs))) (V_a1 : Fld Z h0 a1 "java/lang/AbstractStringBuilder" "value" "[B" (.ref t)) (N_a1 : Fld Z h0 a1 "java/lang/AbstractStringBuilder" "count" "I" (.int (Int32.ofNat cs.length))) (M_a1 : Fld Z h0 a1 "java/lang/AbstractStringBuilder" "maybeLatin1" "Z" (.int 0)) (A_t : Arv Z h0 t kd .byte (Int32.ofNat (own_cl cs cap)) ((own_by cs).map Value.int) (.int 0)) (K_a1 : cs.length ≤ cap) (B_a1 : 16 ≤ cap) (D_a1 : cap ≤ 64) (g_a1 : n0 ≤ a1) (g_t : n0 ≤ t) (hk1 : cap < kk) (hk2 : kk ≤ 30) :
    Met l mY10 (Jvm.Cond.code mY10 jdk_68_method_9_code 3 none :: ws) rz3_1_176_48 #[(.ref a1), (.int (Int32.ofNat kk))] Z h0 (Q_rmE1U Z a1 kk t kd cs cap h0 n0) := by
  refine MetFree.of_bodySF (plainFor_of_name pn_15) hisR ?_
  intro p e s m args below meth c s₁ Bd hml0 hP hK
  obtain ⟨rfl, hZ, hh⟩ := hP
  have hx := Bd.exec
  have hby := Bd.bytes
  have hml : c.maxLocals = 3 := hml0
  have hown : s.vm.findClass "java/lang/AbstractStringBuilder" = some m.cls := findClass_of_methodNamed Bd.named
  have hlk : meth.locks = false := BodyLoose.notSynchronized Bd
  have X0 : Stand p l e rz3_1_176_48 s m #[(.ref a1), (.int (Int32.ofNat kk))] below meth c s₁ [] 0 0 := Stand.of_body Bd
  have e0 : s₁.heap = h0 := by rw [← hh, Bd.state]; rfl
  have N0 := Fr.nil n0
  have KK : Keep h0 h0 [a1] := Keep.refl h0 _
  show Go p e below s rz3_1_176_48.cells rz3_1_176_48.slots (Q_rmE1U Z a1 kk t kd cs cap h0 n0) s₁ (entryFrame m #[(.ref a1), (.int (Int32.ofNat kk))] 3)
  refine Go.eq (ef_rmE1U m a1 (Int32.ofNat kk)) ?_
  show Go _ _ _ _ _ _ _  s₁ (mkF m 0 #[.val (.ref a1), .val (.int (Int32.ofNat kk)), .unset] [])
  refine Go.st (fun _ => XS.aloadN X0.here hx rfl (hb hby (dq dz15 0 0 rfl)) rfl rfl) ?_
  show Go _ _ _ _ _ _ _  s₁ (mkF m 1 #[.val (.ref a1), .val (.int (Int32.ofNat kk)), .unset] [(.ref a1)])
  obtain ⟨T1, X1, e1, st1⟩ := getF X0 hx hZ hown (host := "") (Or.inl (hwi hw 57 rfl)) Via.refl e0 V_a1 (g := (mkF m 1 #[.val (.ref a1), .val (.int (Int32.ofNat kk)), .unset] [(.ref a1)])) rfl rfl (hb hby (dq dz15 1 1 rfl))
  refine Go.st st1 ?_
  show Go _ _ _ _ _ _ _  T1 (mkF m 4 #[.val (.ref a1), .val (.int (Int32.ofNat kk)), .unset] [(.ref t)])
  obtain ⟨cl2, Ar2, q2, S2, M2, Hh2, G2⟩ := id A_t
  refine Go.st (X1.arraylength hx (by rw [e1]; exact Ar2.1) (State.isArrayOf_alike hZ.alike Ar2.2.1) (g := (mkF m 4 #[.val (.ref a1), .val (.int (Int32.ofNat kk)), .unset] [(.ref t)])) rfl rfl (hb hby (dq dz15 2 4 rfl))) ?_
  rw [len_of S2 M2]
  show Go _ _ _ _ _ _ _  T1 (mkF m 5 #[.val (.ref a1), .val (.int (Int32.ofNat kk)), .unset] [(.int (Int32.ofNat (own_cl cs cap)))])
  refine Go.st (fun _ => XS.aloadN X1.here hx rfl (hb hby (dq dz15 3 5 rfl)) rfl rfl) ?_
  show Go _ _ _ _ _ _ _  T1 (mkF m 6 #[.val (.ref a1), .val (.int (Int32.ofNat kk)), .unset] [(.ref a1), (.int (Int32.ofNat (own_cl cs cap)))])
  obtain ⟨T3, X3, e3, st3⟩ := getF X1 hx hZ hown (host := "") (Or.inl (hwi hw 59 rfl)) Via.refl e1 C_a1 (g := (mkF m 6 #[.val (.ref a1), .val (.int (Int32.ofNat kk)), .unset] [(.ref a1), (.int (Int32.ofNat (own_cl cs cap)))])) rfl rfl (hb hby (dq dz15 4 6 rfl))
  refine Go.st st3 ?_
  show Go _ _ _ _ _ _ _  T3 (mkF m 9 #[.val (.ref a1), .val (.int (Int32.ofNat kk)), .unset] [(.int (own_cd cs)), (.int (Int32.ofNat (own_cl cs cap)))])
  refine Go.st (fun _ => XS.ishr X3.here hx rfl (hb hby (dq dz15 5 9 rfl)) rfl) ?_
  show Go _ _ _ _ _ _ _  T3 (mkF m 10 #[.val (.ref a1), .val (.int (Int32.ofNat kk)), .unset] [(.int ((Int32.ofNat (own_cl cs cap)) >>> ((own_cd cs) &&& 31)))])
  rw [own_shrcd cs (by omega)]
  refine Go.st (fun _ => XS.istoreN X3.here hx rfl (hb hby (dq dz15 6 10 rfl)) rfl (l' := #[.val (.ref a1), .val (.int (Int32.ofNat kk)), .val (.int (Int32.ofNat cap))]) rfl) ?_
  refine Go.st (fun _ => XS.iloadN X3.here hx rfl (hb hby (dq dz15 7 11 rfl)) rfl) ?_
  refine Go.st (fun _ => XS.iloadN X3.here hx rfl (hb hby (dq dz15 8 12 rfl)) rfl) ?_
  refine Go.st (fun _ => XS.isub X3.here hx rfl (hb hby (dq dz15 9 13 rfl)) rfl) ?_
  show Go _ _ _ _ _ _ _  T3 (mkF m 14 #[.val (.ref a1), .val (.int (Int32.ofNat kk)), .val (.int (Int32.ofNat cap))] [(.int ((Int32.ofNat kk) - (Int32.ofNat cap)))])
  refine Go.st (fun _ => XS.ifNo X3.here hx rfl (hb hby (dq dz15 10 14 rfl)) rfl ((if0 _ _).trans (tlt (own_gt0 hk1 (by omega) : (0 : Int32) < ((Int32.ofNat kk) - (Int32.ofNat cap)))).2.2.2)) ?_
  show Go _ _ _ _ _ _ _  T3 (mkF m 17 #[.val (.ref a1), .val (.int (Int32.ofNat kk)), .val (.int (Int32.ofNat cap))] [])
  refine Go.st (fun _ => XS.aloadN X3.here hx rfl (hb hby (dq dz15 12 17 rfl)) rfl rfl) ?_
  refine Go.st (fun _ => XS.aloadN X3.here hx rfl (hb hby (dq dz15 13 18 rfl)) rfl rfl) ?_
  show Go _ _ _ _ _ _ _  T3 (mkF m 19 #[.val (.ref a1), .val (.int (Int32.ofNat kk)), .val (.int (Int32.ofNat cap))] [(.ref a1), (.ref a1)])
  obtain ⟨T4, X4, e4, st4⟩ := getF X3 hx hZ hown (host := "") (Or.inl (hwi hw 57 rfl)) Via.refl e3 V_a1 (g := (mkF m 19 #[.val (.ref a1), .val (.int (Int32.ofNat kk)), .val (.int (Int32.ofNat cap))] [(.ref a1), (.ref a1)])) rfl rfl (hb hby (dq dz15 14 19 rfl))
  refine Go.st st4 ?_
  show Go _ _ _ _ _ _ _  T4 (mkF m 22 #[.val (.ref a1), .val (.int (Int32.ofNat kk)), .val (.int (Int32.ofNat cap))] [(.ref t), (.ref a1)])
  refine Go.st (fun _ => XS.aloadN X4.here hx rfl (hb hby (dq dz15 15 22 rfl)) rfl rfl) ?_
  refine Go.st (fun _ => XS.iloadN X4.here hx rfl (hb hby (dq dz15 16 23 rfl)) rfl) ?_
  show Go _ _ _ _ _ _ _  T4 (mkF m 24 #[.val (.ref a1), .val (.int (Int32.ofNat kk)), .val (.int (Int32.ofNat cap))] [(.int (Int32.ofNat kk)), (.ref a1), (.ref t), (.ref a1)])
  obtain ⟨cq5, q5, q5'⟩ := Exa.cell E_a1
  refine Go.pure (w := (some (.int (Int32.ofNat (cap + max (kk - cap) (cap + 2)))))) (rest := [(.ref t), (.ref a1)]) (pc' := 27) (X4.privateBack hx (y := mY8) hown (mvT hZ (hwi hw 312 rfl)) (mvT hZ (hwi hw 313 rfl)) (own_selfsel2 (mvT hZ (hwi hw 315 rfl)) (mvP hZ (hwi hw 314 rfl)) (mvT hZ (hwi hw 313 rfl)) (by decide)) (Cond.privateMethod_at (mvP hZ (hwi hw 314 rfl) (args := #[]))) (mvT hZ (hwi hw 316 rfl)) (by decide) (backOf (W := 2) (rmNCU l Z a0 hw [] a1 kk t kd cs cap h0 n0 O E_a1 C_a1 V_a1 N_a1 M_a1 A_t K_a1 B_a1 D_a1 g_a1 g_t hk1 (by omega)) hZ (hwi hw 316 rfl) (hwi hw 53 rfl) (by decide) (by decide)) (g := (mkF m 24 #[.val (.ref a1), .val (.int (Int32.ofNat kk)), .val (.int (Int32.ofNat cap))] [(.int (Int32.ofNat kk)), (.ref a1), (.ref t), (.ref a1)])) rfl (by rw [hml]; rfl) (Steps.refl _) (a := a1) (by rw [e4]; exact q5) q5' (argsL := [(.int (Int32.ofNat kk))]) (rest := [(.ref t), (.ref a1)]) (lenOf pd__I_I rfl) rfl (by show 2 * 0 + _ ≤ _; exact Nat.le_of_eq rfl) (hb hby (dq dz15 17 24 rfl)) (fun _ _ => ⟨rfl, e4, (by decide : 0 + 0 ≤ _), (by decide : 0 + 0 ≤ _)⟩)) (fun _ _ _ q => q) N0 (fun T5 L5 X5 e5q N5 => ?_)
  show Go _ _ _ _ _ _ _  T5 (mkF m 27 #[.val (.ref a1), .val (.int (Int32.ofNat kk)), .val (.int (Int32.ofNat cap))] [(.int (Int32.ofNat (cap + max (kk - cap) (cap + 2)))), (.ref t), (.ref a1)])
  refine Go.st (fun _ => XS.aloadN X5.here hx rfl (hb hby (dq dz15 18 27 rfl)) rfl rfl) ?_
  show Go _ _ _ _ _ _ _  T5 (mkF m 28 #[.val (.ref a1), .val (.int (Int32.ofNat kk)), .val (.int (Int32.ofNat cap))] [(.ref a1), (.int (Int32.ofNat (cap + max (kk - cap) (cap + 2)))), (.ref t), (.ref a1)])
  obtain ⟨T6, X6, e6, st6⟩ := getF X5 hx hZ hown (host := "") (Or.inl (hwi hw 59 rfl)) Via.refl e5q C_a1 (g := (mkF m 28 #[.val (.ref a1), .val (.int (Int32.ofNat kk)), .val (.int (Int32.ofNat cap))] [(.ref a1), (.int (Int32.ofNat (cap + max (kk - cap) (cap + 2)))), (.ref t), (.ref a1)])) rfl rfl (hb hby (dq dz15 19 28 rfl))
  refine Go.st st6 ?_
  show Go _ _ _ _ _ _ _  T6 (mkF m 31 #[.val (.ref a1), .val (.int (Int32.ofNat kk)), .val (.int (Int32.ofNat cap))] [(.int (own_cd cs)), (.int (Int32.ofNat (cap + max (kk - cap) (cap + 2)))), (.ref t), (.ref a1)])
  refine Go.st (fun _ => XS.ishl X6.here hx rfl (hb hby (dq dz15 20 31 rfl)) rfl) ?_
  show Go _ _ _ _ _ _ _  T6 (mkF m 32 #[.val (.ref a1), .val (.int (Int32.ofNat kk)), .val (.int (Int32.ofNat cap))] [(.int ((Int32.ofNat (cap + max (kk - cap) (cap + 2))) <<< ((own_cd cs) &&& 31))), (.ref t), (.ref a1)])
  rw [own_shlcd cs (by omega)]
  show Go _ _ _ _ _ _ _  T6 (mkF m 32 #[.val (.ref a1), .val (.int (Int32.ofNat kk)), .val (.int (Int32.ofNat cap))] [(.int (Int32.ofNat (own_cl cs (cap + max (kk - cap) (cap + 2))))), (.ref t), (.ref a1)])
  obtain ⟨_, _, ⟨T7, L7, k7, n7⟩, -, X7, ⟨Lc7, hQ7, l7, y7, z7⟩, st7⟩ := Jvm.LawKit.callS X6 hx (y := mY9) hown (mvT hZ (hwi hw 326 rfl)) (mvT hZ (hwi hw 327 rfl)) (mvT hZ (hwi hw 142 rfl)) (mvT hZ (hwi hw 328 rfl)) (by decide) (backOf (W := 1) (rmCO l Z a0 hw [] t (own_cl cs (cap + max (kk - cap) (cap + 2))) kd (own_cl cs cap) ((own_by cs).map Value.int) h0 n0 O A_t (by rw [own_lapn (ys := [])]; exact own_clle cs K_a1) (own_clle cs (by omega)) (fun q => absurd (own_clinj cs q) (by omega)) (by have := own_clb cs (cap + max (kk - cap) (cap + 2)); omega)) hZ (hwi hw 328 rfl) (hwi hw 142 rfl) (by decide) (by decide)) (g := (mkF m 32 #[.val (.ref a1), .val (.int (Int32.ofNat kk)), .val (.int (Int32.ofNat cap))] [(.int (Int32.ofNat (own_cl cs (cap + max (kk - cap) (cap + 2))))), (.ref t), (.ref a1)])) rfl (by rw [hml]; rfl) (argsL := [(.ref t), (.int (Int32.ofNat (own_cl cs (cap + max (kk - cap) (cap + 2)))))]) (rest := [(.ref a1)]) (lenOf pd___BI__B rfl) rfl (by show 2 * 0 + _ ≤ _; exact Nat.le_of_eq rfl) (hb hby (dq dz15 21 32 rfl)) (fun _ _ => ⟨rfl, e6, (by decide : 0 + 1 ≤ _), (by decide : 0 + 176 ≤ _)⟩)
  dsimp only [Pt.U, Pt.locs, Pt.cells, Pt.slots] at X7 l7 y7 z7 st7 hQ7
  rw [l7, y7, z7] at X7
  have X7 : Stand p l e _ _ m _ below meth c T7 _ 1 176 := X7
  obtain ⟨t7, kt7, rfl, N7q, E7q, lt7, Vq7⟩ := hQ7
  have N7 := Fr.app N5 N7q
  refine Go.st st7 ?_
  have g_t7 : n0 ≤ t7 := Nat.le_trans (own_le O) lt7
  have sz_t7 : h0.size ≤ t7 := Nat.le_trans KK.1 lt7
  have ne_a1_t7 : a1 ≠ t7 := Nat.ne_of_lt (Nat.lt_of_lt_of_le E_a1.lt lt7)
  have ne_t_t7 : t ≠ t7 := Nat.ne_of_lt (Nat.lt_of_lt_of_le A_t.lt lt7)
  have E7 := E7q
  have E_a1 := E_a1.ext E7
  have A_t := A_t.ext E7
  have C_a1 := C_a1.ext E7
  have V_a1 := V_a1.ext E7
  have N_a1 := N_a1.ext E7
  have M_a1 := M_a1.ext E7
  have O := O.ext E7
  have KK := KK.ext E7
  show Go _ _ _ _ _ _ _  T7 (mkF m 35 #[.val (.ref a1), .val (.int (Int32.ofNat kk)), .val (.int (Int32.ofNat cap))] [(.ref t7), (.ref a1)])
  obtain ⟨T8, h8, X8, e8, W8, st8⟩ := putF X7 hx hZ hown (host := "") (Or.inl (hwi hw 57 rfl)) Via.refl rfl V_a1 E_a1 (Or.inl (hwi hw 58 rfl)) (hwi hw 44 rfl) (ty := (.array .byte)) (by decide) rfl rfl (g := (mkF m 35 #[.val (.ref a1), .val (.int (Int32.ofNat kk)), .val (.int (Int32.ofNat cap))] [(.ref t7), (.ref a1)])) rfl rfl (hb hby (dq dz15 22 35 rfl))
  refine Go.st st8 ?_
  have V_a1 : Fld Z h8 a1 "java/lang/AbstractStringBuilder" "value" "[B" (.ref t7) := V_a1.same W8
  have N8 := Fr.snoc X8 N7 g_a1
  have ne_t_a1 : t ≠ a1 := (Ne.symm (Exa.neArv E_a1 A_t (hwi hw 44 rfl)))
  have E_a1 := E_a1.wr W8
  have A_t := A_t.other W8 ne_t_a1
  have C_a1 := C_a1.other W8 (Or.inr (slot_ne (Or.inl (hwi hw 60 rfl)) (Or.inl (hwi hw 58 rfl)) (by decide) (t := .byte) (t' := (.array .byte)) (by decide) (by decide)))
  have N_a1 := N_a1.other W8 (Or.inr (slot_ne (Or.inl (hwi hw 83 rfl)) (Or.inl (hwi hw 58 rfl)) (by decide) (t := .int) (t' := (.array .byte)) (by decide) (by decide)))
  have M_a1 := M_a1.other W8 (Or.inr (slot_ne (Or.inl (hwi hw 295 rfl)) (Or.inl (hwi hw 58 rfl)) (by decide) (t := .boolean) (t' := (.array .byte)) (by decide) (by decide)))
  have Vq7 := Vq7.other W8 (Ne.symm ne_a1_t7)
  have O := O.wr W8 g_a1
  have KK := KK.wr W8 (Or.inl (List.mem_of_getElem? (i := 0) rfl))
  show Go _ _ _ _ _ _ _  T8 (mkF m 38 #[.val (.ref a1), .val (.int (Int32.ofNat kk)), .val (.int (Int32.ofNat cap))] [])
  refine Go.ret0 X8 hlk hx Bd.returns (hb hby (dq dz15 11 38 rfl)) (by decide) (by decide) ?_
  show Q_rmE1U Z _ _ _ _ _ _ h0 n0 _ T8.heap _
  rw [e8]
  exact ⟨rfl, N8, KK, t7, _, sz_t7, E_a1, C_a1, V_a1, N_a1, M_a1, Vq7⟩
def Q_rmEw (Z : State) (a1 : Addr) (kk : Nat) (t : Addr) (kd : ClassId) (cs : List Int32) (cap : Nat) (m0 : Nat) (h0 : Heap) (n0 : Nat) (v : Option Value) (h : Heap) (L : List Loc) : Prop := v = none ∧ Fr n0 L ∧ Keep h0 h [a1, t] ∧ ∃ (b : Addr) (kb : ClassId) (cap2 : Nat), kk ≤ cap2 ∧ cs.length ≤ cap2 ∧ (b = t ∨ h0.size ≤ b) ∧ n0 ≤ b ∧ m0 ≤ b ∧ Exa Z h a1 "java/lang/StringBuilder" ∧ Fld Z h a1 "java/lang/AbstractStringBuilder" "coder" "B" (.int (own_cd cs)) ∧ Fld Z h a1 "java/lang/AbstractStringBuilder" "value" "[B" (.ref b) ∧ Fld Z h a1 "java/lang/AbstractStringBuilder" "count" "I" (.int (Int32.ofNat cs.length)) ∧ Fld Z h a1 "java/lang/AbstractStringBuilder" "maybeLatin1" "Z" (.int 0) ∧ Arv Z h b kb .byte (Int32.ofNat (own_cl cs cap2)) ((own_by cs).map Value.int) (.int 0) ∧ 16 ≤ cap2 ∧ cap2 ≤ 64 ∧ (Exa Z h b "[B" ∨ 30 < cap2)
theorem rmEw (l : Launch) (Z : State) (a0 : Array Value) (hw : HWt a0 Z) (ws : List Jvm.Cond) (a1 : Addr) (kk : Nat) (t : Addr) (kd : ClassId) (cs : List Int32) (cap : Nat) (m0 : Nat) (h0 : Heap) (n0 : Nat) (O : Old Z n0 h0) (E_a1 : Exa Z h0 a1 "java/lang/StringBuilder") (C_a1 : Fld Z h0 a1 "java/lang/AbstractStringBuilder" "coder" "B" (.int (own_cd cs))) (V_a1 : Fld Z h0 a1 "java/lang/AbstractStringBuilder" "value" "[B" (.ref t)) (N_a1 : Fld Z h0 a1 "java/lang/AbstractStringBuilder" "count" "I" (.int (Int32.ofNat cs.length))) (M_a1 : Fld Z h0 a1 "java/lang/AbstractStringBuilder" "maybeLatin1" "Z" (.int 0)) (A_t : Arv Z h0 t kd .byte (Int32.ofNat (own_cl cs cap)) ((own_by cs).map Value.int) (.int 0)) (K_a1 : cs.length ≤ cap) (B_a1 : 16 ≤ cap) (D_a1 : cap ≤ 64) (g_a1 : n0 ≤ a1) (g_t : n0 ≤ t) (hm1 : m0 ≤ t) (hm2 : m0 ≤ h0.size) (XX : Exa Z h0 t "[B" ∨ 30 < cap) (hk2 : kk ≤ 30) :
    Met l mY10 (Jvm.Cond.code mY10 jdk_68_method_9_code 3 none :: ws) rz3_1_176_48 #[(.ref a1), (.int (Int32.ofNat kk))] Z h0 (Q_rmEw Z a1 kk t kd cs cap m0 h0 n0) := by
  by_cases hk : kk ≤ cap
  · refine own_wide (rmE0U l Z a0 hw ws a1 kk t kd cs cap h0 n0 O E_a1 C_a1 V_a1 N_a1 M_a1 A_t K_a1 B_a1 D_a1 g_a1 g_t hk) (by decide) (by decide) (by decide) (by decide) (fun v h L q => ?_)
    obtain ⟨q1, q2, rfl⟩ := q
    exact ⟨q1, q2, Keep.refl _ _, t, kd, cap, hk, K_a1, Or.inl rfl, g_t, hm1, E_a1, C_a1, V_a1, N_a1, M_a1, A_t, B_a1, D_a1, XX⟩
  · refine own_wide (rmE1U l Z a0 hw ws a1 kk t kd cs cap h0 n0 O E_a1 C_a1 V_a1 N_a1 M_a1 A_t K_a1 B_a1 D_a1 g_a1 g_t (Nat.lt_of_not_le hk) hk2) (by decide) (by decide) (by decide) (by decide) (fun v h L q => ?_)
    obtain ⟨q1, q2, q3, b, kb, lb, e1, e2, e3, e4, e5, e6⟩ := q
    exact ⟨q1, q2, own_kw q3, b, kb, _, by omega, by omega, Or.inr lb, Nat.le_trans (own_le O) lb, Nat.le_trans hm2 lb, e1, e2, e3, e4, e5, e6, by omega, by omega, Or.inr (by omega)⟩
def Q_rmU16L (Z : State) (a1 : Addr) (k1 : ClassId) (mq : Nat) (bs : List Value) (h0 : Heap) (n0 : Nat) (v : Option Value) (h : Heap) (L : List Loc) : Prop := v = some (.int (Int32.ofNat mq)) ∧ Fr n0 L ∧ h = h0
theorem rmU16L (l : Launch) (Z : State) (a0 : Array Value) (hw : HWt a0 Z) (ws : List Jvm.Cond) (a1 : Addr) (k1 : ClassId) (mq : Nat) (bs : List Value) (h0 : Heap) (n0 : Nat) (O : Old Z n0 h0) (A_a1 : Arv Z h0 a1 k1 .byte (Int32.ofNat (2 * mq)) bs (.int 0)) (hm : mq < 1000) :
    Met l mY40 (Jvm.Cond.code mY40 jdk_52_method_6_code 1 (some .int) :: ws) rz0_0_0_0 #[(.ref a1)] Z h0 (Q_rmU16L Z a1 k1 mq bs h0 n0) := by
  refine MetFree.of_bodySF (plainFor_of_name pn_53) hisR ?_
  intro p e s m args below meth c s₁ Bd hml0 hP hK
  obtain ⟨rfl, hZ, hh⟩ := hP
  have hx := Bd.exec
  have hby := Bd.bytes
  have hml : c.maxLocals = 1 := hml0
  have hlk : meth.locks = false := BodyLoose.notSynchronized Bd
  have X0 : Stand p l e rz0_0_0_0 s m #[(.ref a1)] below meth c s₁ [] 0 0 := Stand.of_body Bd
  have e0 : s₁.heap = h0 := by rw [← hh, Bd.state]; rfl
  have N0 := Fr.nil n0
  show Go p e below s rz0_0_0_0.cells rz0_0_0_0.slots (Q_rmU16L Z a1 k1 mq bs h0 n0) s₁ (entryFrame m #[(.ref a1)] 1)
  refine Go.eq (ef_rmU16L m a1) ?_
  show Go _ _ _ _ _ _ _  s₁ (mkF m 0 #[.val (.ref a1)] [])
  refine Go.st (fun _ => XS.aloadN X0.here hx rfl (hb hby (dq dz53 0 0 rfl)) rfl rfl) ?_
  show Go _ _ _ _ _ _ _  s₁ (mkF m 1 #[.val (.ref a1)] [(.ref a1)])
  obtain ⟨cl1, Ar1, q1, S1, M1, Hh1, G1⟩ := id A_a1
  refine Go.st (X0.arraylength hx (by rw [e0]; exact Ar1.1) (State.isArrayOf_alike hZ.alike Ar1.2.1) (g := (mkF m 1 #[.val (.ref a1)] [(.ref a1)])) rfl rfl (hb hby (dq dz53 1 1 rfl))) ?_
  rw [len_of S1 M1]
  show Go _ _ _ _ _ _ _  s₁ (mkF m 2 #[.val (.ref a1)] [(.int (Int32.ofNat (2 * mq)))])
  refine Go.st (fun _ => XS.iconst X0.here hx rfl (hb hby (dq dz53 2 2 rfl))) ?_
  refine Go.st (fun _ => XS.ishr X0.here hx rfl (hb hby (dq dz53 3 3 rfl)) rfl) ?_
  show Go _ _ _ _ _ _ _  s₁ (mkF m 4 #[.val (.ref a1)] [(.int ((Int32.ofNat (2 * mq)) >>> ((1 : Int32) &&& 31)))])
  rw [own_shr1 (by omega)]
  show Go _ _ _ _ _ _ _  s₁ (mkF m 4 #[.val (.ref a1)] [(.int (Int32.ofNat mq))])
  refine Go.retI X0 hlk hx Bd.returns (hb hby (dq dz53 4 4 rfl)) (by decide) (by decide) ?_
  show Q_rmU16L Z _ _ _ _ h0 n0 _ s₁.heap _
  rw [e0]
  exact ⟨rfl, N0, rfl⟩
def Q_rmPFS (Z : State) (fm : Value) (d : Nat) (n : Nat) (mq : Nat) (h0 : Heap) (n0 : Nat) (v : Option Value) (h : Heap) (L : List Loc) : Prop := v = some (.int (Int32.ofNat d)) ∧ Fr n0 L ∧ h = h0
theorem rmPFS (l : Launch) (Z : State) (a0 : Array Value) (hw : HWt a0 Z) (ws : List Jvm.Cond) (fm : Value) (d : Nat) (n : Nat) (mq : Nat) (h0 : Heap) (n0 : Nat) (O : Old Z n0 h0) (ref_fm : fm.isRef = true) (hdm : d + n ≤ mq) (hmb : mq < 1000) :
    Met l mY41 (Jvm.Cond.code mY41 jdk_41_method_13_code 4 (some .int) :: ws) rz0_0_0_0 #[(.int (Int32.ofNat d)), (.int (Int32.ofNat n)), (.int (Int32.ofNat mq)), fm] Z h0 (Q_rmPFS Z fm d n mq h0 n0) := by
  refine MetFree.of_bodySF (plainFor_of_name pn_55) hisR ?_
  intro p e s m args below meth c s₁ Bd hml0 hP hK
  obtain ⟨rfl, hZ, hh⟩ := hP
  have hx := Bd.exec
  have hby := Bd.bytes
  have hml : c.maxLocals = 4 := hml0
  have hlk : meth.locks = false := BodyLoose.notSynchronized Bd
  have X0 : Stand p l e rz0_0_0_0 s m #[(.int (Int32.ofNat d)), (.int (Int32.ofNat n)), (.int (Int32.ofNat mq)), fm] below meth c s₁ [] 0 0 := Stand.of_body Bd
  have e0 : s₁.heap = h0 := by rw [← hh, Bd.state]; rfl
  have N0 := Fr.nil n0
  show Go p e below s rz0_0_0_0.cells rz0_0_0_0.slots (Q_rmPFS Z fm d n mq h0 n0) s₁ (entryFrame m #[(.int (Int32.ofNat d)), (.int (Int32.ofNat n)), (.int (Int32.ofNat mq)), fm] 4)
  refine Go.eq (ef_rmPFS m (Int32.ofNat d) (Int32.ofNat n) (Int32.ofNat mq) fm ref_fm) ?_
  show Go _ _ _ _ _ _ _  s₁ (mkF m 0 #[.val (.int (Int32.ofNat d)), .val (.int (Int32.ofNat n)), .val (.int (Int32.ofNat mq)), .val fm] [])
  refine Go.st (fun _ => XS.iloadN X0.here hx rfl (hb hby (dq dz55 0 0 rfl)) rfl) ?_
  refine Go.st (fun _ => XS.iloadN X0.here hx rfl (hb hby (dq dz55 1 1 rfl)) rfl) ?_
  refine Go.st (fun _ => XS.ior X0.here hx rfl (hb hby (dq dz55 2 2 rfl)) rfl) ?_
  refine Go.st (fun _ => XS.iloadN X0.here hx rfl (hb hby (dq dz55 3 3 rfl)) rfl) ?_
  refine Go.st (fun _ => XS.ior X0.here hx rfl (hb hby (dq dz55 4 4 rfl)) rfl) ?_
  show Go _ _ _ _ _ _ _  s₁ (mkF m 5 #[.val (.int (Int32.ofNat d)), .val (.int (Int32.ofNat n)), .val (.int (Int32.ofNat mq)), .val fm] [(.int (((Int32.ofNat mq) ||| (Int32.ofNat d)) ||| (Int32.ofNat n)))])
  refine Go.st (fun _ => XS.ifNo X0.here hx rfl (hb hby (dq dz55 5 5 rfl)) rfl ((if0 _ _).trans (flt (own_ior3 (by omega) (by omega) (by omega) : ¬ ((((Int32.ofNat mq) ||| (Int32.ofNat d)) ||| (Int32.ofNat n)) < (0 : Int32)))).1)) ?_
  show Go _ _ _ _ _ _ _  s₁ (mkF m 8 #[.val (.int (Int32.ofNat d)), .val (.int (Int32.ofNat n)), .val (.int (Int32.ofNat mq)), .val fm] [])
  refine Go.st (fun _ => XS.iloadN X0.here hx rfl (hb hby (dq dz55 6 8 rfl)) rfl) ?_
  refine Go.st (fun _ => XS.iloadN X0.here hx rfl (hb hby (dq dz55 7 9 rfl)) rfl) ?_
  refine Go.st (fun _ => XS.iloadN X0.here hx rfl (hb hby (dq dz55 8 10 rfl)) rfl) ?_
  refine Go.st (fun _ => XS.isub X0.here hx rfl (hb hby (dq dz55 9 11 rfl)) rfl) ?_
  show Go _ _ _ _ _ _ _  s₁ (mkF m 12 #[.val (.int (Int32.ofNat d)), .val (.int (Int32.ofNat n)), .val (.int (Int32.ofNat mq)), .val fm] [(.int ((Int32.ofNat mq) - (Int32.ofNat d))), (.int (Int32.ofNat n))])
  rw [own_osub (by omega) (by omega)]
  show Go _ _ _ _ _ _ _  s₁ (mkF m 12 #[.val (.int (Int32.ofNat d)), .val (.int (Int32.ofNat n)), .val (.int (Int32.ofNat mq)), .val fm] [(.int (Int32.ofNat (mq - d))), (.int (Int32.ofNat n))])
  refine Go.st (fun _ => XS.icmpYes X0.here hx rfl (pc0 := 12) (pc' := 23) rfl (hb hby (dq dz55 10 12 rfl)) rfl (flt (fun q => absurd ((own_olt (by omega) (by omega)).mp q) (by omega) : ¬ ((Int32.ofNat (mq - d)) < (Int32.ofNat n)))).2.2.2 (by decide) (by decide)) ?_
  show Go _ _ _ _ _ _ _  s₁ (mkF m 23 #[.val (.int (Int32.ofNat d)), .val (.int (Int32.ofNat n)), .val (.int (Int32.ofNat mq)), .val fm] [])
  refine Go.st (fun _ => XS.iloadN X0.here hx rfl (hb hby (dq dz55 11 23 rfl)) rfl) ?_
  show Go _ _ _ _ _ _ _  s₁ (mkF m 24 #[.val (.int (Int32.ofNat d)), .val (.int (Int32.ofNat n)), .val (.int (Int32.ofNat mq)), .val fm] [(.int (Int32.ofNat d))])
  refine Go.retI X0 hlk hx Bd.returns (hb hby (dq dz55 12 24 rfl)) (by decide) (by decide) ?_
  show Q_rmPFS Z _ _ _ _ h0 n0 _ s₁.heap _
  rw [e0]
  exact ⟨rfl, N0, rfl⟩
def Q_rmSBO (Z : State) (fm : Value) (d : Nat) (n : Nat) (mq : Nat) (h0 : Heap) (n0 : Nat) (v : Option Value) (h : Heap) (L : List Loc) : Prop := v = some (.int (Int32.ofNat d)) ∧ Fr n0 L ∧ h = h0
theorem rmSBO (l : Launch) (Z : State) (a0 : Array Value) (hw : HWt a0 Z) (ws : List Jvm.Cond) (fm : Value) (d : Nat) (n : Nat) (mq : Nat) (h0 : Heap) (n0 : Nat) (O : Old Z n0 h0) (S_SIO : Sta Z Z.heap "jdk/internal/util/Preconditions" "SIOOBE_FORMATTER" "Ljava/util/function/BiFunction;" fm) (ref_fm : fm.isRef = true) (hdm : d + n ≤ mq) (hmb : mq < 1000) :
    Met l mY42 (Jvm.Cond.code mY42 jdk_42_method_157_code 3 (some .int) :: ws) rz1_0_0_15 #[(.int (Int32.ofNat d)), (.int (Int32.ofNat n)), (.int (Int32.ofNat mq))] Z h0 (Q_rmSBO Z fm d n mq h0 n0) := by
  refine MetFree.of_bodySF (plainFor_of_name pn_54) hisR ?_
  intro p e s m args below meth c s₁ Bd hml0 hP hK
  obtain ⟨rfl, hZ, hh⟩ := hP
  have hx := Bd.exec
  have hby := Bd.bytes
  have hml : c.maxLocals = 3 := hml0
  have hown : s.vm.findClass "java/lang/String" = some m.cls := findClass_of_methodNamed Bd.named
  have hlk : meth.locks = false := BodyLoose.notSynchronized Bd
  have X0 : Stand p l e rz1_0_0_15 s m #[(.int (Int32.ofNat d)), (.int (Int32.ofNat n)), (.int (Int32.ofNat mq))] below meth c s₁ [] 0 0 := Stand.of_body Bd
  have e0 : s₁.heap = h0 := by rw [← hh, Bd.state]; rfl
  have N0 := Fr.nil n0
  show Go p e below s rz1_0_0_15.cells rz1_0_0_15.slots (Q_rmSBO Z fm d n mq h0 n0) s₁ (entryFrame m #[(.int (Int32.ofNat d)), (.int (Int32.ofNat n)), (.int (Int32.ofNat mq))] 3)
  refine Go.eq (ef_rmSBO m (Int32.ofNat d) (Int32.ofNat n) (Int32.ofNat mq)) ?_
  show Go _ _ _ _ _ _ _  s₁ (mkF m 0 #[.val (.int (Int32.ofNat d)), .val (.int (Int32.ofNat n)), .val (.int (Int32.ofNat mq))] [])
  refine Go.st (fun _ => XS.iloadN X0.here hx rfl (hb hby (dq dz54 0 0 rfl)) rfl) ?_
  refine Go.st (fun _ => XS.iloadN X0.here hx rfl (hb hby (dq dz54 1 1 rfl)) rfl) ?_
  refine Go.st (fun _ => XS.iloadN X0.here hx rfl (hb hby (dq dz54 2 2 rfl)) rfl) ?_
  show Go _ _ _ _ _ _ _  s₁ (mkF m 3 #[.val (.int (Int32.ofNat d)), .val (.int (Int32.ofNat n)), .val (.int (Int32.ofNat mq))] [(.int (Int32.ofNat mq)), (.int (Int32.ofNat n)), (.int (Int32.ofNat d))])
  obtain ⟨T1, X1, e1, st1⟩ := getS2 X0 hx hZ hown (host := "") (Or.inl (hwi hw 239 rfl)) Via.refl e0 (S_SIO.ext O.2) (g := (mkF m 3 #[.val (.int (Int32.ofNat d)), .val (.int (Int32.ofNat n)), .val (.int (Int32.ofNat mq))] [(.int (Int32.ofNat mq)), (.int (Int32.ofNat n)), (.int (Int32.ofNat d))])) rfl (hb hby (dq dz54 3 3 rfl))
  refine Go.st st1 ?_
  show Go _ _ _ _ _ _ _  T1 (mkF m 6 #[.val (.int (Int32.ofNat d)), .val (.int (Int32.ofNat n)), .val (.int (Int32.ofNat mq))] [fm, (.int (Int32.ofNat mq)), (.int (Int32.ofNat n)), (.int (Int32.ofNat d))])
  refine Go.pureS (w := (some (.int (Int32.ofNat d)))) (rest := []) (pc' := 9) (Jvm.LawKit.callS X1 hx (y := mY41) hown (mvT hZ (hwi hw 290 rfl)) (mvT hZ (hwi hw 291 rfl)) (mvT hZ (hwi hw 240 rfl)) (mvT hZ (hwi hw 292 rfl)) (by decide) (backOf (W := 0) (rmPFS l Z a0 hw [] fm d n mq h0 n0 O ref_fm hdm hmb) hZ (hwi hw 292 rfl) (hwi hw 240 rfl) (by decide) (by decide)) (g := (mkF m 6 #[.val (.int (Int32.ofNat d)), .val (.int (Int32.ofNat n)), .val (.int (Int32.ofNat mq))] [fm, (.int (Int32.ofNat mq)), (.int (Int32.ofNat n)), (.int (Int32.ofNat d))])) rfl (by rw [hml]; rfl) (argsL := [(.int (Int32.ofNat d)), (.int (Int32.ofNat n)), (.int (Int32.ofNat mq)), fm]) (rest := []) (lenOf pd__IIILjava_util_function_BiFunction__I rfl) rfl (by show 2 * 0 + _ ≤ _; exact Nat.le_of_eq rfl) (hb hby (dq dz54 4 6 rfl)) (fun _ _ => ⟨rfl, e1, (by decide : 0 + 0 ≤ _), (by decide : 0 + 0 ≤ _)⟩)) (fun _ _ _ q => q) N0 (fun T2 L2 X2 e2q N2 => ?_)
  show Go _ _ _ _ _ _ _  T2 (mkF m 9 #[.val (.int (Int32.ofNat d)), .val (.int (Int32.ofNat n)), .val (.int (Int32.ofNat mq))] [(.int (Int32.ofNat d))])
  refine Go.retI X2 hlk hx Bd.returns (hb hby (dq dz54 5 9 rfl)) (by decide) (by decide) ?_
  show Q_rmSBO Z _ _ _ _ h0 n0 _ T2.heap _
  rw [e2q]
  exact ⟨rfl, N2, rfl⟩
def Q_rmUBO (Z : State) (a3 : Addr) (fm : Value) (d : Nat) (n : Nat) (mq : Nat) (k3 : ClassId) (bs : List Value) (h0 : Heap) (n0 : Nat) (v : Option Value) (h : Heap) (L : List Loc) : Prop := v = none ∧ Fr n0 L ∧ h = h0
theorem rmUBO (l : Launch) (Z : State) (a0 : Array Value) (hw : HWt a0 Z) (ws : List Jvm.Cond) (a3 : Addr) (fm : Value) (d : Nat) (n : Nat) (mq : Nat) (k3 : ClassId) (bs : List Value) (h0 : Heap) (n0 : Nat) (O : Old Z n0 h0) (S_SIO : Sta Z Z.heap "jdk/internal/util/Preconditions" "SIOOBE_FORMATTER" "Ljava/util/function/BiFunction;" fm) (ref_fm : fm.isRef = true) (hdm : d + n ≤ mq) (hmb : mq < 1000) (A_a3 : Arv Z h0 a3 k3 .byte (Int32.ofNat (2 * mq)) bs (.int 0)) :
    Met l mY43 (Jvm.Cond.code mY43 jdk_52_method_94_code 3 none :: ws) rz2_0_0_29 #[(.int (Int32.ofNat d)), (.int (Int32.ofNat n)), (.ref a3)] Z h0 (Q_rmUBO Z a3 fm d n mq k3 bs h0 n0) := by
  refine MetFree.of_bodySF (plainFor_of_name pn_52) hisR ?_
  intro p e s m args below meth c s₁ Bd hml0 hP hK
  obtain ⟨rfl, hZ, hh⟩ := hP
  have hx := Bd.exec
  have hby := Bd.bytes
  have hml : c.maxLocals = 3 := hml0
  have hown : s.vm.findClass "java/lang/StringUTF16" = some m.cls := findClass_of_methodNamed Bd.named
  have hlk : meth.locks = false := BodyLoose.notSynchronized Bd
  have X0 : Stand p l e rz2_0_0_29 s m #[(.int (Int32.ofNat d)), (.int (Int32.ofNat n)), (.ref a3)] below meth c s₁ [] 0 0 := Stand.of_body Bd
  have e0 : s₁.heap = h0 := by rw [← hh, Bd.state]; rfl
  have N0 := Fr.nil n0
  show Go p e below s rz2_0_0_29.cells rz2_0_0_29.slots (Q_rmUBO Z a3 fm d n mq k3 bs h0 n0) s₁ (entryFrame m #[(.int (Int32.ofNat d)), (.int (Int32.ofNat n)), (.ref a3)] 3)
  refine Go.eq (ef_rmUBO m (Int32.ofNat d) (Int32.ofNat n) a3) ?_
  show Go _ _ _ _ _ _ _  s₁ (mkF m 0 #[.val (.int (Int32.ofNat d)), .val (.int (Int32.ofNat n)), .val (.ref a3)] [])
  refine Go.st (fun _ => XS.iloadN X0.here hx rfl (hb hby (dq dz52 0 0 rfl)) rfl) ?_
  refine Go.st (fun _ => XS.iloadN X0.here hx rfl (hb hby (dq dz52 1 1 rfl)) rfl) ?_
  refine Go.st (fun _ => XS.aloadN X0.here hx rfl (hb hby (dq dz52 2 2 rfl)) rfl rfl) ?_
  show Go _ _ _ _ _ _ _  s₁ (mkF m 3 #[.val (.int (Int32.ofNat d)), .val (.int (Int32.ofNat n)), .val (.ref a3)] [(.ref a3), (.int (Int32.ofNat n)), (.int (Int32.ofNat d))])
  refine Go.pureS (w := (some (.int (Int32.ofNat mq)))) (rest := [(.int (Int32.ofNat n)), (.int (Int32.ofNat d))]) (pc' := 6) (Jvm.LawKit.callS X0 hx (y := mY40) hown (mvT hZ (hwi hw 284 rfl)) (mvT hZ (hwi hw 285 rfl)) (mvT hZ (hwi hw 21 rfl)) (mvT hZ (hwi hw 286 rfl)) (by decide) (backOf (W := 2) (rmU16L l Z a0 hw [] a3 k3 mq bs h0 n0 O A_a3 hmb) hZ (hwi hw 286 rfl) (hwi hw 21 rfl) (by decide) (by decide)) (g := (mkF m 3 #[.val (.int (Int32.ofNat d)), .val (.int (Int32.ofNat n)), .val (.ref a3)] [(.ref a3), (.int (Int32.ofNat n)), (.int (Int32.ofNat d))])) rfl (by rw [hml]; rfl) (argsL := [(.ref a3)]) (rest := [(.int (Int32.ofNat n)), (.int (Int32.ofNat d))]) (lenOf pd___B_I rfl) rfl (by show 2 * 0 + _ ≤ _; exact Nat.le_of_eq rfl) (hb hby (dq dz52 3 3 rfl)) (fun _ _ => ⟨rfl, e0, (by decide : 0 + 0 ≤ _), (by decide : 0 + 0 ≤ _)⟩)) (fun _ _ _ q => q) N0 (fun T1 L1 X1 e1q N1 => ?_)
  show Go _ _ _ _ _ _ _  T1 (mkF m 6 #[.val (.int (Int32.ofNat d)), .val (.int (Int32.ofNat n)), .val (.ref a3)] [(.int (Int32.ofNat mq)), (.int (Int32.ofNat n)), (.int (Int32.ofNat d))])
  refine Go.pureS (w := (some (.int (Int32.ofNat d)))) (rest := []) (pc' := 9) (Jvm.LawKit.callS X1 hx (y := mY42) hown (mvT hZ (hwi hw 287 rfl)) (mvT hZ (hwi hw 288 rfl)) (mvT hZ (hwi hw 6 rfl)) (mvT hZ (hwi hw 289 rfl)) (by decide) (backOf (W := 0) (rmSBO l Z a0 hw [] fm d n mq h0 n0 O S_SIO ref_fm hdm hmb) hZ (hwi hw 289 rfl) (hwi hw 6 rfl) (by decide) (by decide)) (g := (mkF m 6 #[.val (.int (Int32.ofNat d)), .val (.int (Int32.ofNat n)), .val (.ref a3)] [(.int (Int32.ofNat mq)), (.int (Int32.ofNat n)), (.int (Int32.ofNat d))])) rfl (by rw [hml]; rfl) (argsL := [(.int (Int32.ofNat d)), (.int (Int32.ofNat n)), (.int (Int32.ofNat mq))]) (rest := []) (lenOf pd__III_I rfl) rfl (by show 2 * 0 + _ ≤ _; exact Nat.le_of_eq rfl) (hb hby (dq dz52 4 6 rfl)) (fun _ _ => ⟨rfl, e1q, (by decide : 0 + 0 ≤ _), (by decide : 0 + 0 ≤ _)⟩)) (fun _ _ _ q => q) N1 (fun T2 L2 X2 e2q N2 => ?_)
  show Go _ _ _ _ _ _ _  T2 (mkF m 9 #[.val (.int (Int32.ofNat d)), .val (.int (Int32.ofNat n)), .val (.ref a3)] [(.int (Int32.ofNat d))])
  refine Go.st (fun _ => XS.pop X2.here hx rfl (hb hby (dq dz52 5 9 rfl)) rfl rfl) ?_
  show Go _ _ _ _ _ _ _  T2 (mkF m 10 #[.val (.int (Int32.ofNat d)), .val (.int (Int32.ofNat n)), .val (.ref a3)] [])
  refine Go.ret0 X2 hlk hx Bd.returns (hb hby (dq dz52 6 10 rfl)) (by decide) (by decide) ?_
  show Q_rmUBO Z _ _ _ _ _ _ _ h0 n0 _ T2.heap _
  rw [e2q]
  exact ⟨rfl, N2, rfl⟩
def Q_rmUInf (Z : State) (a1 : Addr) (a3 : Addr) (fm : Value) (k1 : ClassId) (k3 : ClassId) (cs : List Int32) (ys : List Int32) (cap : Nat) (m1 : Nat) (h0 : Heap) (n0 : Nat) (v : Option Value) (h : Heap) (L : List Loc) : Prop := v = none ∧ Fr n0 L ∧ Keep h0 h [a3] ∧ Arv Z h a3 k3 .byte (Int32.ofNat (2 * cap)) ((own_ub (cs ++ ys)).map Value.int) (.int 0)
theorem rmUInf (l : Launch) (Z : State) (a0 : Array Value) (hw : HWt a0 Z) (ws : List Jvm.Cond) (a1 : Addr) (a3 : Addr) (fm : Value) (k1 : ClassId) (k3 : ClassId) (cs : List Int32) (ys : List Int32) (cap : Nat) (m1 : Nat) (h0 : Heap) (n0 : Nat) (O : Old Z n0 h0) (S_SIO : Sta Z Z.heap "jdk/internal/util/Preconditions" "SIOOBE_FORMATTER" "Ljava/util/function/BiFunction;" fm) (ref_fm : fm.isRef = true) (S_ad : Sta Z Z.heap "java/lang/StringUTF16" "$assertionsDisabled" "Z" (.int 1)) (S_hi : Sta Z Z.heap "java/lang/StringUTF16" "HI_BYTE_SHIFT" "I" (.int 0)) (S_lo : Sta Z Z.heap "java/lang/StringUTF16" "LO_BYTE_SHIFT" "I" (.int 8)) (A_a1 : Arv Z h0 a1 k1 .byte (Int32.ofNat m1) ((ys.map own_lo).map Value.int) (.int 0)) (A_a3 : Arv Z h0 a3 k3 .byte (Int32.ofNat (2 * cap)) ((own_ub cs).map Value.int) (.int 0)) (hcy : cs.length + ys.length ≤ cap) (hc40 : cap ≤ 64) (hm1 : ys.length ≤ m1) (hm2 : m1 < 1000) (ly : own_l1 ys = true) (hry : ∀ j, j < ys.length → nar .char (ys.getD j 0) = ys.getD j 0) (g_a3 : n0 ≤ a3) (ne_a1_a3 : a1 ≠ a3) :
    Met l mY44 (Jvm.Cond.code mY44 jdk_52_method_86_code 6 none :: ws) rz3_0_0_43 #[(.ref a1), (.int (0 : Int32)), (.ref a3), (.int (Int32.ofNat cs.length)), (.int (Int32.ofNat ys.length))] Z h0 (Q_rmUInf Z a1 a3 fm k1 k3 cs ys cap m1 h0 n0) := by
  refine MetFree.of_bodySF (plainFor_of_name pn_51) hisR ?_
  intro p e s m args below meth c s₁ Bd hml0 hP hK
  obtain ⟨rfl, hZ, hh⟩ := hP
  have hx := Bd.exec
  have hby := Bd.bytes
  have hml : c.maxLocals = 6 := hml0
  have hown : s.vm.findClass "java/lang/StringUTF16" = some m.cls := findClass_of_methodNamed Bd.named
  have hlk : meth.locks = false := BodyLoose.notSynchronized Bd
  have X0 : Stand p l e rz3_0_0_43 s m #[(.ref a1), (.int (0 : Int32)), (.ref a3), (.int (Int32.ofNat cs.length)), (.int (Int32.ofNat ys.length))] below meth c s₁ [] 0 0 := Stand.of_body Bd
  have e0 : s₁.heap = h0 := by rw [← hh, Bd.state]; rfl
  have N0 := Fr.nil n0
  have KK : Keep h0 h0 [a3] := Keep.refl h0 _
  show Go p e below s rz3_0_0_43.cells rz3_0_0_43.slots (Q_rmUInf Z a1 a3 fm k1 k3 cs ys cap m1 h0 n0) s₁ (entryFrame m #[(.ref a1), (.int (0 : Int32)), (.ref a3), (.int (Int32.ofNat cs.length)), (.int (Int32.ofNat ys.length))] 6)
  refine Go.eq (ef_rmUInf m a1 (0 : Int32) a3 (Int32.ofNat cs.length) (Int32.ofNat ys.length)) ?_
  show Go _ _ _ _ _ _ _  s₁ (mkF m 0 #[.val (.ref a1), .val (.int (0 : Int32)), .val (.ref a3), .val (.int (Int32.ofNat cs.length)), .val (.int (Int32.ofNat ys.length)), .unset] [])
  refine Go.st (fun _ => XS.iloadN X0.here hx rfl (hb hby (dq dz51 0 0 rfl)) rfl) ?_
  refine Go.st (fun _ => XS.iload X0.here hx rfl (hb hby (dq dz51 1 1 rfl)) rfl) ?_
  refine Go.st (fun _ => XS.aloadN X0.here hx rfl (hb hby (dq dz51 2 3 rfl)) rfl rfl) ?_
  show Go _ _ _ _ _ _ _  s₁ (mkF m 4 #[.val (.ref a1), .val (.int (0 : Int32)), .val (.ref a3), .val (.int (Int32.ofNat cs.length)), .val (.int (Int32.ofNat ys.length)), .unset] [(.ref a3), (.int (Int32.ofNat ys.length)), (.int (Int32.ofNat cs.length))])
  refine Go.pureS (w := none) (rest := []) (pc' := 7) (Jvm.LawKit.callS X0 hx (y := mY43) hown (mvT hZ (hwi hw 281 rfl)) (mvT hZ (hwi hw 282 rfl)) (mvT hZ (hwi hw 21 rfl)) (mvT hZ (hwi hw 283 rfl)) (by decide) (backOf (W := 0) (rmUBO l Z a0 hw [] a3 fm cs.length ys.length cap k3 ((own_ub cs).map Value.int) h0 n0 O S_SIO ref_fm hcy (by omega) A_a3) hZ (hwi hw 283 rfl) (hwi hw 21 rfl) (by decide) (by decide)) (g := (mkF m 4 #[.val (.ref a1), .val (.int (0 : Int32)), .val (.ref a3), .val (.int (Int32.ofNat cs.length)), .val (.int (Int32.ofNat ys.length)), .unset] [(.ref a3), (.int (Int32.ofNat ys.length)), (.int (Int32.ofNat cs.length))])) rfl (by rw [hml]; rfl) (argsL := [(.int (Int32.ofNat cs.length)), (.int (Int32.ofNat ys.length)), (.ref a3)]) (rest := []) (lenOf pd__II_B_V rfl) rfl (by show 2 * 0 + _ ≤ _; exact Nat.le_of_eq rfl) (hb hby (dq dz51 3 4 rfl)) (fun _ _ => ⟨rfl, e0, (by decide : 0 + 0 ≤ _), (by decide : 0 + 0 ≤ _)⟩)) (fun _ _ _ q => q) N0 (fun T1 L1 X1 e1q N1 => ?_)
  show Go _ _ _ _ _ _ _  T1 (mkF m 7 #[.val (.ref a1), .val (.int (0 : Int32)), .val (.ref a3), .val (.int (Int32.ofNat cs.length)), .val (.int (Int32.ofNat ys.length)), .unset] [])
  refine Go.st (fun _ => XS.iconst X1.here hx rfl (hb hby (dq dz51 4 7 rfl))) ?_
  refine Go.st (fun _ => XS.istore X1.here hx rfl (hb hby (dq dz51 5 8 rfl)) rfl (l' := #[.val (.ref a1), .val (.int (0 : Int32)), .val (.ref a3), .val (.int (Int32.ofNat cs.length)), .val (.int (Int32.ofNat ys.length)), .val (.int (0 : Int32))]) rfl) ?_
  have loop : ∀ (k9 : Nat) (T9 : State) (h9 : Heap) (Lz : List Loc) (i : Nat), ys.length - i = k9 → Stand p l e rz3_0_0_43 s m #[(.ref a1), (.int (0 : Int32)), (.ref a3), (.int (Int32.ofNat cs.length)), (.int (Int32.ofNat ys.length))] below meth c T9 Lz 0 0 → T9.heap = h9 → Old Z n0 h9 → Fr n0 Lz → Keep h0 h9 [a3] → (Arv Z h9 a1 k1 .byte (Int32.ofNat m1) ((ys.map own_lo).map Value.int) (.int 0)) → (Arv Z h9 a3 k3 .byte (Int32.ofNat (2 * cap)) ((own_ub (cs ++ ys.take i)).map Value.int) (.int 0)) → (i ≤ ys.length) → Go p e below s rz3_0_0_43.cells rz3_0_0_43.slots (Q_rmUInf Z a1 a3 fm k1 k3 cs ys cap m1 h0 n0) T9 (mkF m 10 #[.val (.ref a1), .val (.int (Int32.ofNat i)), .val (.ref a3), .val (.int (Int32.ofNat (cs.length + i))), .val (.int (Int32.ofNat ys.length)), .val (.int (Int32.ofNat i))] []) := by
    intro k9
    induction k9 with
    | zero =>
      intro T9 h9 Lz i hk9 X9 e9 O N9 KK A_a1 A_a3 hi
      refine Go.st (fun _ => XS.iload X9.here hx rfl (hb hby (dq dz51 6 10 rfl)) rfl) ?_
      refine Go.st (fun _ => XS.iload X9.here hx rfl (hb hby (dq dz51 7 12 rfl)) rfl) ?_
      show Go _ _ _ _ _ _ _  T9 (mkF m 14 #[.val (.ref a1), .val (.int (Int32.ofNat i)), .val (.ref a3), .val (.int (Int32.ofNat (cs.length + i))), .val (.int (Int32.ofNat ys.length)), .val (.int (Int32.ofNat i))] [(.int (Int32.ofNat ys.length)), (.int (Int32.ofNat i))])
      refine Go.st (fun _ => XS.icmpYes X9.here hx rfl (pc0 := 14) (pc' := 41) rfl (hb hby (dq dz51 8 14 rfl)) rfl (flt (fun q => absurd ((own_olt (by omega) (by omega)).mp q) (by omega) : ¬ ((Int32.ofNat i) < (Int32.ofNat ys.length)))).2.1 (by decide) (by decide)) ?_
      show Go _ _ _ _ _ _ _  T9 (mkF m 41 #[.val (.ref a1), .val (.int (Int32.ofNat i)), .val (.ref a3), .val (.int (Int32.ofNat (cs.length + i))), .val (.int (Int32.ofNat ys.length)), .val (.int (Int32.ofNat i))] [])
      refine Go.ret0 X9 hlk hx Bd.returns (hb hby (dq dz51 9 41 rfl)) (by decide) (by decide) ?_
      show Q_rmUInf Z _ _ _ _ _ _ _ _ _ h0 n0 _ T9.heap _
      rw [e9]
      have q : i = ys.length := by omega
      rw [q, List.take_length] at A_a3
      exact ⟨rfl, N9, KK, A_a3⟩
    | succ k9 ih =>
      intro T9 h9 Lz i hk9 X9 e9 O N9 KK A_a1 A_a3 hi
      refine Go.st (fun _ => XS.iload X9.here hx rfl (hb hby (dq dz51 6 10 rfl)) rfl) ?_
      refine Go.st (fun _ => XS.iload X9.here hx rfl (hb hby (dq dz51 7 12 rfl)) rfl) ?_
      show Go _ _ _ _ _ _ _  T9 (mkF m 14 #[.val (.ref a1), .val (.int (Int32.ofNat i)), .val (.ref a3), .val (.int (Int32.ofNat (cs.length + i))), .val (.int (Int32.ofNat ys.length)), .val (.int (Int32.ofNat i))] [(.int (Int32.ofNat ys.length)), (.int (Int32.ofNat i))])
      refine Go.st (fun _ => XS.icmpNo X9.here hx rfl (hb hby (dq dz51 8 14 rfl)) rfl (tlt ((own_olt (by omega) (by omega)).mpr (by omega) : (Int32.ofNat i) < (Int32.ofNat ys.length))).2.1) ?_
      have hiy : i < ys.length := by omega
      show Go _ _ _ _ _ _ _  T9 (mkF m 17 #[.val (.ref a1), .val (.int (Int32.ofNat i)), .val (.ref a3), .val (.int (Int32.ofNat (cs.length + i))), .val (.int (Int32.ofNat ys.length)), .val (.int (Int32.ofNat i))] [])
      refine Go.st (fun _ => XS.aloadN X9.here hx rfl (hb hby (dq dz51 10 17 rfl)) rfl rfl) ?_
      refine Go.st (fun _ => XS.iloadN X9.here hx rfl (hb hby (dq dz51 11 18 rfl)) rfl) ?_
      show Go _ _ _ _ _ _ _  T9 (mkF m 19 #[.val (.ref a1), .val (.int (Int32.ofNat i)), .val (.ref a3), .val (.int (Int32.ofNat (cs.length + i))), .val (.int (Int32.ofNat ys.length)), .val (.int (Int32.ofNat i))] [(.int (Int32.ofNat (cs.length + i))), (.ref a3)])
      refine Go.st (fun _ => XS.iinc X9.here hx rfl (hb hby (dq dz51 12 19 rfl)) rfl (l' := #[.val (.ref a1), .val (.int (Int32.ofNat i)), .val (.ref a3), .val (.int ((Int32.ofNat (cs.length + i)) + (1 : Int32))), .val (.int (Int32.ofNat ys.length)), .val (.int (Int32.ofNat i))]) rfl) ?_
      show Go _ _ _ _ _ _ _  T9 (mkF m 22 #[.val (.ref a1), .val (.int (Int32.ofNat i)), .val (.ref a3), .val (.int ((Int32.ofNat (cs.length + i)) + (1 : Int32))), .val (.int (Int32.ofNat ys.length)), .val (.int (Int32.ofNat i))] [(.int (Int32.ofNat (cs.length + i))), (.ref a3)])
      rw [own_1inc]
      show Go _ _ _ _ _ _ _  T9 (mkF m 22 #[.val (.ref a1), .val (.int (Int32.ofNat i)), .val (.ref a3), .val (.int (Int32.ofNat ((cs.length + i) + 1))), .val (.int (Int32.ofNat ys.length)), .val (.int (Int32.ofNat i))] [(.int (Int32.ofNat (cs.length + i))), (.ref a3)])
      refine Go.st (fun _ => XS.aloadN X9.here hx rfl (hb hby (dq dz51 13 22 rfl)) rfl rfl) ?_
      refine Go.st (fun _ => XS.iloadN X9.here hx rfl (hb hby (dq dz51 14 23 rfl)) rfl) ?_
      show Go _ _ _ _ _ _ _  T9 (mkF m 24 #[.val (.ref a1), .val (.int (Int32.ofNat i)), .val (.ref a3), .val (.int (Int32.ofNat ((cs.length + i) + 1))), .val (.int (Int32.ofNat ys.length)), .val (.int (Int32.ofNat i))] [(.int (Int32.ofNat i)), (.ref a1), (.int (Int32.ofNat (cs.length + i))), (.ref a3)])
      refine Go.st (fun _ => XS.iinc X9.here hx rfl (hb hby (dq dz51 15 24 rfl)) rfl (l' := #[.val (.ref a1), .val (.int ((Int32.ofNat i) + (1 : Int32))), .val (.ref a3), .val (.int (Int32.ofNat ((cs.length + i) + 1))), .val (.int (Int32.ofNat ys.length)), .val (.int (Int32.ofNat i))]) rfl) ?_
      show Go _ _ _ _ _ _ _  T9 (mkF m 27 #[.val (.ref a1), .val (.int ((Int32.ofNat i) + (1 : Int32))), .val (.ref a3), .val (.int (Int32.ofNat ((cs.length + i) + 1))), .val (.int (Int32.ofNat ys.length)), .val (.int (Int32.ofNat i))] [(.int (Int32.ofNat i)), (.ref a1), (.int (Int32.ofNat (cs.length + i))), (.ref a3)])
      rw [own_1inc]
      show Go _ _ _ _ _ _ _  T9 (mkF m 27 #[.val (.ref a1), .val (.int (Int32.ofNat (i + 1))), .val (.ref a3), .val (.int (Int32.ofNat ((cs.length + i) + 1))), .val (.int (Int32.ofNat ys.length)), .val (.int (Int32.ofNat i))] [(.int (Int32.ofNat i)), (.ref a1), (.int (Int32.ofNat (cs.length + i))), (.ref a3)])
      obtain ⟨cl2, Ar2, q2, S2, M2, Hh2, G2⟩ := id A_a1
      refine Go.st (X9.baloadBytes hx (j := (Int32.ofNat i)) (v := (.int (own_lo (ys.getD i 0)))) (by rw [e9]; exact Ar2.1) (State.isArrayOf_alike hZ.alike Ar2.2.1) Ar2.2.2 (inb_of S2 ⟨own_onn (by omega), (own_olt (by omega) (by omega)).mpr (by omega)⟩) (Hh2.at (inb_of S2 ⟨own_onn (by omega), (own_olt (by omega) (by omega)).mpr (by omega)⟩) (by rw [own_ocl (by omega)]; exact own_gml ys i)) (g := (mkF m 27 #[.val (.ref a1), .val (.int (Int32.ofNat (i + 1))), .val (.ref a3), .val (.int (Int32.ofNat ((cs.length + i) + 1))), .val (.int (Int32.ofNat ys.length)), .val (.int (Int32.ofNat i))] [(.int (Int32.ofNat i)), (.ref a1), (.int (Int32.ofNat (cs.length + i))), (.ref a3)])) rfl rfl (hb hby (dq dz51 16 27 rfl))) ?_
      show Go _ _ _ _ _ _ _  T9 (mkF m 28 #[.val (.ref a1), .val (.int (Int32.ofNat (i + 1))), .val (.ref a3), .val (.int (Int32.ofNat ((cs.length + i) + 1))), .val (.int (Int32.ofNat ys.length)), .val (.int (Int32.ofNat i))] [(.int (own_lo (ys.getD i 0))), (.int (Int32.ofNat (cs.length + i))), (.ref a3)])
      refine Go.st (fun _ => XS.sipush X9.here hx rfl (hb hby (dq dz51 17 28 rfl))) ?_
      refine Go.st (fun _ => XS.iand X9.here hx rfl (hb hby (dq dz51 18 31 rfl)) rfl) ?_
      show Go _ _ _ _ _ _ _  T9 (mkF m 32 #[.val (.ref a1), .val (.int (Int32.ofNat (i + 1))), .val (.ref a3), .val (.int (Int32.ofNat ((cs.length + i) + 1))), .val (.int (Int32.ofNat ys.length)), .val (.int (Int32.ofNat i))] [(.int ((own_lo (ys.getD i 0)) &&& (255 : Int32))), (.int (Int32.ofNat (cs.length + i))), (.ref a3)])
      rw [own_lo255 (own_l1g ly hiy) (hry i hiy)]
      show Go _ _ _ _ _ _ _  T9 (mkF m 32 #[.val (.ref a1), .val (.int (Int32.ofNat (i + 1))), .val (.ref a3), .val (.int (Int32.ofNat ((cs.length + i) + 1))), .val (.int (Int32.ofNat ys.length)), .val (.int (Int32.ofNat i))] [(.int (ys.getD i 0)), (.int (Int32.ofNat (cs.length + i))), (.ref a3)])
      obtain ⟨_, _, ⟨T3, L3, k3, n3⟩, -, X3, ⟨Lc3, hQ3, l3, y3, z3⟩, st3⟩ := Jvm.LawKit.callS X9 hx (y := mY31) hown (mvT hZ (hwi hw 259 rfl)) (mvT hZ (hwi hw 260 rfl)) (mvT hZ (hwi hw 21 rfl)) (mvT hZ (hwi hw 261 rfl)) (by decide) (backOf (W := 0) (rmPutC l Z a0 hw [] a3 (ys.getD i 0) (cs.length + i) k3 (2 * cap) ((own_ub (cs ++ ys.take i)).map Value.int) h9 n0 O S_ad S_hi S_lo A_a3 (own_utl (by omega)) (by omega) (by omega) g_a3) hZ (hwi hw 261 rfl) (hwi hw 21 rfl) (by decide) (by decide)) (g := (mkF m 32 #[.val (.ref a1), .val (.int (Int32.ofNat (i + 1))), .val (.ref a3), .val (.int (Int32.ofNat ((cs.length + i) + 1))), .val (.int (Int32.ofNat ys.length)), .val (.int (Int32.ofNat i))] [(.int (ys.getD i 0)), (.int (Int32.ofNat (cs.length + i))), (.ref a3)])) rfl (by rw [hml]; rfl) (argsL := [(.ref a3), (.int (Int32.ofNat (cs.length + i))), (.int (ys.getD i 0))]) (rest := []) (lenOf pd___BII_V rfl) rfl (by show 2 * 0 + _ ≤ _; exact Nat.le_of_eq rfl) (hb hby (dq dz51 19 32 rfl)) (fun _ _ => ⟨rfl, e9, (by decide : 0 + 0 ≤ _), (by decide : 0 + 0 ≤ _)⟩)
      dsimp only [Pt.U, Pt.locs, Pt.cells, Pt.slots] at X3 l3 y3 z3 st3 hQ3
      rw [l3, y3, z3] at X3
      have X3 : Stand p l e _ _ m _ below meth c T3 _ 0 0 := X3
      obtain ⟨rfl, N3q, K3q, Pq3⟩ := hQ3
      have N3 := Fr.app N9 N3q
      refine Go.st st3 ?_
      have A_a1 := A_a1.keep K3q (ninS ne_a1_a3 nin0)
      have O := O.keep K3q (allS g_a3 all0)
      have KK := KK.trans K3q (allS (Or.inl (List.mem_of_getElem? (i := 0) rfl)) all0)
      rw [own_tku2 hiy] at Pq3
      show Go _ _ _ _ _ _ _  T3 (mkF m 35 #[.val (.ref a1), .val (.int (Int32.ofNat (i + 1))), .val (.ref a3), .val (.int (Int32.ofNat ((cs.length + i) + 1))), .val (.int (Int32.ofNat ys.length)), .val (.int (Int32.ofNat i))] [])
      refine Go.st (fun _ => XS.iinc X3.here hx rfl (hb hby (dq dz51 20 35 rfl)) rfl (l' := #[.val (.ref a1), .val (.int (Int32.ofNat (i + 1))), .val (.ref a3), .val (.int (Int32.ofNat ((cs.length + i) + 1))), .val (.int (Int32.ofNat ys.length)), .val (.int ((Int32.ofNat i) + (1 : Int32)))]) rfl) ?_
      show Go _ _ _ _ _ _ _  T3 (mkF m 38 #[.val (.ref a1), .val (.int (Int32.ofNat (i + 1))), .val (.ref a3), .val (.int (Int32.ofNat ((cs.length + i) + 1))), .val (.int (Int32.ofNat ys.length)), .val (.int ((Int32.ofNat i) + (1 : Int32)))] [])
      rw [own_1inc]
      show Go _ _ _ _ _ _ _  T3 (mkF m 38 #[.val (.ref a1), .val (.int (Int32.ofNat (i + 1))), .val (.ref a3), .val (.int (Int32.ofNat ((cs.length + i) + 1))), .val (.int (Int32.ofNat ys.length)), .val (.int (Int32.ofNat (i + 1)))] [])
      refine Go.st (fun _ => XS.goto X3.here hx rfl (pc0 := 38) (pc' := 10) rfl (hb hby (dq dz51 21 38 rfl)) (by decide) (by decide)) ?_
      show Go _ _ _ _ _ _ _  T3 (mkF m 10 #[.val (.ref a1), .val (.int (Int32.ofNat (i + 1))), .val (.ref a3), .val (.int (Int32.ofNat ((cs.length + i) + 1))), .val (.int (Int32.ofNat ys.length)), .val (.int (Int32.ofNat (i + 1)))] [])
      exact ih T3 T3.heap _ (i + 1) (by omega) X3 rfl O N3 KK A_a1 Pq3 (by omega)
  show Go _ _ _ _ _ _ _  T1 (mkF m 10 #[.val (.ref a1), .val (.int (0 : Int32)), .val (.ref a3), .val (.int (Int32.ofNat cs.length)), .val (.int (Int32.ofNat ys.length)), .val (.int (0 : Int32))] [])
  exact loop _ T1 h0 _ 0 rfl X1 e1q O N1 KK A_a1 (by rw [List.take_zero, List.append_nil]; exact A_a3) (Nat.zero_le _)
def Q_rmLInf (Z : State) (a1 : Addr) (a3 : Addr) (fm : Value) (k1 : ClassId) (k3 : ClassId) (cs : List Int32) (ys : List Int32) (cap : Nat) (m1 : Nat) (h0 : Heap) (n0 : Nat) (v : Option Value) (h : Heap) (L : List Loc) : Prop := v = none ∧ Fr n0 L ∧ Keep h0 h [a3] ∧ Arv Z h a3 k3 .byte (Int32.ofNat (2 * cap)) ((own_ub (cs ++ ys)).map Value.int) (.int 0)
theorem rmLInf (l : Launch) (Z : State) (a0 : Array Value) (hw : HWt a0 Z) (ws : List Jvm.Cond) (a1 : Addr) (a3 : Addr) (fm : Value) (k1 : ClassId) (k3 : ClassId) (cs : List Int32) (ys : List Int32) (cap : Nat) (m1 : Nat) (h0 : Heap) (n0 : Nat) (O : Old Z n0 h0) (S_SIO : Sta Z Z.heap "jdk/internal/util/Preconditions" "SIOOBE_FORMATTER" "Ljava/util/function/BiFunction;" fm) (ref_fm : fm.isRef = true) (S_ad : Sta Z Z.heap "java/lang/StringUTF16" "$assertionsDisabled" "Z" (.int 1)) (S_hi : Sta Z Z.heap "java/lang/StringUTF16" "HI_BYTE_SHIFT" "I" (.int 0)) (S_lo : Sta Z Z.heap "java/lang/StringUTF16" "LO_BYTE_SHIFT" "I" (.int 8)) (A_a1 : Arv Z h0 a1 k1 .byte (Int32.ofNat m1) ((ys.map own_lo).map Value.int) (.int 0)) (A_a3 : Arv Z h0 a3 k3 .byte (Int32.ofNat (2 * cap)) ((own_ub cs).map Value.int) (.int 0)) (hcy : cs.length + ys.length ≤ cap) (hc40 : cap ≤ 64) (hm1 : ys.length ≤ m1) (hm2 : m1 < 1000) (ly : own_l1 ys = true) (hry : ∀ j, j < ys.length → nar .char (ys.getD j 0) = ys.getD j 0) (g_a3 : n0 ≤ a3) (ne_a1_a3 : a1 ≠ a3) :
    Met l mY45 (Jvm.Cond.code mY45 jdk_43_method_50_code 5 none :: ws) rz4_0_0_60 #[(.ref a1), (.int (0 : Int32)), (.ref a3), (.int (Int32.ofNat cs.length)), (.int (Int32.ofNat ys.length))] Z h0 (Q_rmLInf Z a1 a3 fm k1 k3 cs ys cap m1 h0 n0) := by
  refine MetFree.of_bodySF (plainFor_of_name pn_50) hisR ?_
  intro p e s m args below meth c s₁ Bd hml0 hP hK
  obtain ⟨rfl, hZ, hh⟩ := hP
  have hx := Bd.exec
  have hby := Bd.bytes
  have hml : c.maxLocals = 5 := hml0
  have hown : s.vm.findClass "java/lang/StringLatin1" = some m.cls := findClass_of_methodNamed Bd.named
  have hlk : meth.locks = false := BodyLoose.notSynchronized Bd
  have X0 : Stand p l e rz4_0_0_60 s m #[(.ref a1), (.int (0 : Int32)), (.ref a3), (.int (Int32.ofNat cs.length)), (.int (Int32.ofNat ys.length))] below meth c s₁ [] 0 0 := Stand.of_body Bd
  have e0 : s₁.heap = h0 := by rw [← hh, Bd.state]; rfl
  have N0 := Fr.nil n0
  have KK : Keep h0 h0 [a3] := Keep.refl h0 _
  show Go p e below s rz4_0_0_60.cells rz4_0_0_60.slots (Q_rmLInf Z a1 a3 fm k1 k3 cs ys cap m1 h0 n0) s₁ (entryFrame m #[(.ref a1), (.int (0 : Int32)), (.ref a3), (.int (Int32.ofNat cs.length)), (.int (Int32.ofNat ys.length))] 5)
  refine Go.eq (ef_rmLInf m a1 (0 : Int32) a3 (Int32.ofNat cs.length) (Int32.ofNat ys.length)) ?_
  show Go _ _ _ _ _ _ _  s₁ (mkF m 0 #[.val (.ref a1), .val (.int (0 : Int32)), .val (.ref a3), .val (.int (Int32.ofNat cs.length)), .val (.int (Int32.ofNat ys.length))] [])
  refine Go.st (fun _ => XS.aloadN X0.here hx rfl (hb hby (dq dz50 0 0 rfl)) rfl rfl) ?_
  refine Go.st (fun _ => XS.iloadN X0.here hx rfl (hb hby (dq dz50 1 1 rfl)) rfl) ?_
  refine Go.st (fun _ => XS.aloadN X0.here hx rfl (hb hby (dq dz50 2 2 rfl)) rfl rfl) ?_
  refine Go.st (fun _ => XS.iloadN X0.here hx rfl (hb hby (dq dz50 3 3 rfl)) rfl) ?_
  refine Go.st (fun _ => XS.iload X0.here hx rfl (hb hby (dq dz50 4 4 rfl)) rfl) ?_
  show Go _ _ _ _ _ _ _  s₁ (mkF m 6 #[.val (.ref a1), .val (.int (0 : Int32)), .val (.ref a3), .val (.int (Int32.ofNat cs.length)), .val (.int (Int32.ofNat ys.length))] [(.int (Int32.ofNat ys.length)), (.int (Int32.ofNat cs.length)), (.ref a3), (.int (0 : Int32)), (.ref a1)])
  obtain ⟨_, _, ⟨T1, L1, k1, n1⟩, -, X1, ⟨Lc1, hQ1, l1, y1, z1⟩, st1⟩ := Jvm.LawKit.callS X0 hx (y := mY44) hown (mvT hZ (hwi hw 278 rfl)) (mvT hZ (hwi hw 279 rfl)) (mvT hZ (hwi hw 21 rfl)) (mvT hZ (hwi hw 280 rfl)) (by decide) (backOf (W := 0) (rmUInf l Z a0 hw [] a1 a3 fm k1 k3 cs ys cap m1 h0 n0 O S_SIO ref_fm S_ad S_hi S_lo A_a1 A_a3 hcy hc40 hm1 hm2 ly hry g_a3 ne_a1_a3) hZ (hwi hw 280 rfl) (hwi hw 21 rfl) (by decide) (by decide)) (g := (mkF m 6 #[.val (.ref a1), .val (.int (0 : Int32)), .val (.ref a3), .val (.int (Int32.ofNat cs.length)), .val (.int (Int32.ofNat ys.length))] [(.int (Int32.ofNat ys.length)), (.int (Int32.ofNat cs.length)), (.ref a3), (.int (0 : Int32)), (.ref a1)])) rfl (by rw [hml]; rfl) (argsL := [(.ref a1), (.int (0 : Int32)), (.ref a3), (.int (Int32.ofNat cs.length)), (.int (Int32.ofNat ys.length))]) (rest := []) (lenOf pd___BI_BII_V rfl) rfl (by show 2 * 0 + _ ≤ _; exact Nat.le_of_eq rfl) (hb hby (dq dz50 5 6 rfl)) (fun _ _ => ⟨rfl, e0, (by decide : 0 + 0 ≤ _), (by decide : 0 + 0 ≤ _)⟩)
  dsimp only [Pt.U, Pt.locs, Pt.cells, Pt.slots] at X1 l1 y1 z1 st1 hQ1
  rw [l1, y1, z1] at X1
  have X1 : Stand p l e _ _ m _ below meth c T1 _ 0 0 := X1
  obtain ⟨rfl, N1q, K1q, Q1⟩ := hQ1
  have N1 := Fr.app N0 N1q
  refine Go.st st1 ?_
  have A_a1 := A_a1.keep K1q (ninS ne_a1_a3 nin0)
  have O := O.keep K1q (allS g_a3 all0)
  have KK := KK.trans K1q (allS (Or.inl (List.mem_of_getElem? (i := 0) rfl)) all0)
  show Go _ _ _ _ _ _ _  T1 (mkF m 9 #[.val (.ref a1), .val (.int (0 : Int32)), .val (.ref a3), .val (.int (Int32.ofNat cs.length)), .val (.int (Int32.ofNat ys.length))] [])
  refine Go.ret0 X1 hlk hx Bd.returns (hb hby (dq dz50 6 9 rfl)) (by decide) (by decide) ?_
  show Q_rmLInf Z _ _ _ _ _ _ _ _ _ h0 n0 _ T1.heap _
  exact ⟨rfl, N1, KK, Q1⟩
def Q_rmILc (Z : State) (a1 : Addr) (zc : Int32) (cd : Int32) (h0 : Heap) (n0 : Nat) (v : Option Value) (h : Heap) (L : List Loc) : Prop := v = some (.int (if cd = 0 then 1 else 0)) ∧ Fr n0 L ∧ h = h0
theorem rmILc (l : Launch) (Z : State) (a0 : Array Value) (hw : HWt a0 Z) (ws : List Jvm.Cond) (a1 : Addr) (zc : Int32) (cd : Int32) (h0 : Heap) (n0 : Nat) (O : Old Z n0 h0) (S_COMPACT : Sta Z Z.heap "java/lang/String" "COMPACT_STRINGS" "Z" (.int zc)) (hcs : ¬ zc = 0) (C_a1 : Fld Z h0 a1 "java/lang/AbstractStringBuilder" "coder" "B" (.int cd)) :
    Met l mY18 (Jvm.Cond.code mY18 jdk_68_method_68_code 1 (some .boolean) :: ws) rz0_0_0_0 #[(.ref a1)] Z h0 (Q_rmILc Z a1 zc cd h0 n0) := by
  refine MetFree.of_bodySF (plainFor_of_name pn_25) hisR ?_
  intro p e s m args below meth c s₁ Bd hml0 hP hK
  obtain ⟨rfl, hZ, hh⟩ := hP
  have hx := Bd.exec
  have hby := Bd.bytes
  have hml : c.maxLocals = 1 := hml0
  have hown : s.vm.findClass "java/lang/AbstractStringBuilder" = some m.cls := findClass_of_methodNamed Bd.named
  have hlk : meth.locks = false := BodyLoose.notSynchronized Bd
  have X0 : Stand p l e rz0_0_0_0 s m #[(.ref a1)] below meth c s₁ [] 0 0 := Stand.of_body Bd
  have e0 : s₁.heap = h0 := by rw [← hh, Bd.state]; rfl
  have N0 := Fr.nil n0
  show Go p e below s rz0_0_0_0.cells rz0_0_0_0.slots (Q_rmILc Z a1 zc cd h0 n0) s₁ (entryFrame m #[(.ref a1)] 1)
  refine Go.eq (ef_rmILc m a1) ?_
  show Go _ _ _ _ _ _ _  s₁ (mkF m 0 #[.val (.ref a1)] [])
  obtain ⟨T1, X1, e1, st1⟩ := getS2 X0 hx hZ hown (host := "") (Or.inl (hwi hw 56 rfl)) Via.refl e0 (S_COMPACT.ext O.2) (g := (mkF m 0 #[.val (.ref a1)] [])) rfl (hb hby (dq dz25 0 0 rfl))
  refine Go.st st1 ?_
  show Go _ _ _ _ _ _ _  T1 (mkF m 3 #[.val (.ref a1)] [(.int zc)])
  refine Go.st (fun _ => XS.ifNo X1.here hx rfl (hb hby (dq dz25 1 3 rfl)) rfl ((if0 _ _).trans (feq (hcs : ¬ (zc = (0 : Int32)))).1)) ?_
  show Go _ _ _ _ _ _ _  T1 (mkF m 6 #[.val (.ref a1)] [])
  refine Go.st (fun _ => XS.aloadN X1.here hx rfl (hb hby (dq dz25 2 6 rfl)) rfl rfl) ?_
  show Go _ _ _ _ _ _ _  T1 (mkF m 7 #[.val (.ref a1)] [(.ref a1)])
  obtain ⟨T2, X2, e2, st2⟩ := getF X1 hx hZ hown (host := "") (Or.inl (hwi hw 59 rfl)) Via.refl e1 C_a1 (g := (mkF m 7 #[.val (.ref a1)] [(.ref a1)])) rfl rfl (hb hby (dq dz25 3 7 rfl))
  refine Go.st st2 ?_
  show Go _ _ _ _ _ _ _  T2 (mkF m 10 #[.val (.ref a1)] [(.int cd)])
  by_cases c10_3 : cd = (0 : Int32)
  · refine Go.st (fun _ => XS.ifNo X2.here hx rfl (hb hby (dq dz25 4 10 rfl)) rfl ((if0 _ _).trans (teq c10_3).2)) ?_
    show Go _ _ _ _ _ _ _  T2 (mkF m 13 #[.val (.ref a1)] [])
    refine Go.st (fun _ => XS.iconst X2.here hx rfl (hb hby (dq dz25 5 13 rfl))) ?_
    refine Go.st (fun _ => XS.goto X2.here hx rfl (pc0 := 14) (pc' := 18) rfl (hb hby (dq dz25 6 14 rfl)) (by decide) (by decide)) ?_
    show Go _ _ _ _ _ _ _  T2 (mkF m 18 #[.val (.ref a1)] [(.int (1 : Int32))])
    refine Go.retN X2 hlk hx (t := .boolean) (z' := (1 : Int32)) Bd.returns (by simp) (hb hby (dq dz25 7 18 rfl)) (by decide) (by decide) rfl ?_
    show Q_rmILc Z _ _ _ h0 n0 _ T2.heap _
    rw [e2]
    exact ⟨by rw [if_pos c10_3], N0, rfl⟩
  · refine Go.st (fun _ => XS.ifYes X2.here hx rfl (pc0 := 10) (pc' := 17) rfl (hb hby (dq dz25 4 10 rfl)) rfl ((if0 _ _).trans (feq c10_3).2) (by decide) (by decide)) ?_
    show Go _ _ _ _ _ _ _  T2 (mkF m 17 #[.val (.ref a1)] [])
    refine Go.st (fun _ => XS.iconst X2.here hx rfl (hb hby (dq dz25 8 17 rfl))) ?_
    show Go _ _ _ _ _ _ _  T2 (mkF m 18 #[.val (.ref a1)] [(.int (0 : Int32))])
    refine Go.retN X2 hlk hx (t := .boolean) (z' := (0 : Int32)) Bd.returns (by simp) (hb hby (dq dz25 7 18 rfl)) (by decide) (by decide) rfl ?_
    show Q_rmILc Z _ _ _ h0 n0 _ T2.heap _
    rw [e2]
    exact ⟨by rw [if_neg c10_3], N0, rfl⟩
def Q_rmInfl (Z : State) (a1 : Addr) (zc : Int32) (fm : Value) (t : Addr) (kd : ClassId) (cs : List Int32) (cap : Nat) (h0 : Heap) (n0 : Nat) (v : Option Value) (h : Heap) (L : List Loc) : Prop := v = none ∧ Fr n0 L ∧ Keep h0 h [a1] ∧ Exa Z h a1 "java/lang/StringBuilder" ∧ Fld Z h a1 "java/lang/AbstractStringBuilder" "coder" "B" (.int 1) ∧ Fld Z h a1 "java/lang/AbstractStringBuilder" "count" "I" (.int (Int32.ofNat cs.length)) ∧ Fld Z h a1 "java/lang/AbstractStringBuilder" "maybeLatin1" "Z" (.int 0) ∧ ∃ (b : Addr) (kb : ClassId), h0.size ≤ b ∧ Fld Z h a1 "java/lang/AbstractStringBuilder" "value" "[B" (.ref b) ∧ Arv Z h b kb .byte (Int32.ofNat (2 * cap)) ((own_ub cs).map Value.int) (.int 0) ∧ Exa Z h b "[B"
theorem rmInfl (l : Launch) (Z : State) (a0 : Array Value) (hw : HWt a0 Z) (ws : List Jvm.Cond) (a1 : Addr) (zc : Int32) (fm : Value) (t : Addr) (kd : ClassId) (cs : List Int32) (cap : Nat) (h0 : Heap) (n0 : Nat) (O : Old Z n0 h0) (S_COMPACT : Sta Z Z.heap "java/lang/String" "COMPACT_STRINGS" "Z" (.int zc)) (hcs : ¬ zc = 0) (S_SIO : Sta Z Z.heap "jdk/internal/util/Preconditions" "SIOOBE_FORMATTER" "Ljava/util/function/BiFunction;" fm) (ref_fm : fm.isRef = true) (S_ad : Sta Z Z.heap "java/lang/StringUTF16" "$assertionsDisabled" "Z" (.int 1)) (S_hi : Sta Z Z.heap "java/lang/StringUTF16" "HI_BYTE_SHIFT" "I" (.int 0)) (S_lo : Sta Z Z.heap "java/lang/StringUTF16" "LO_BYTE_SHIFT" "I" (.int 8)) (E_a1 : Exa Z h0 a1 "java/lang/StringBuilder") (C_a1 : Fld Z h0 a1 "java/lang/AbstractStringBuilder" "coder" "B" (.int 0)) (V_a1 : Fld Z h0 a1 "java/lang/AbstractStringBuilder" "value" "[B" (.ref t)) (N_a1 : Fld Z h0 a1 "java/lang/AbstractStringBuilder" "count" "I" (.int (Int32.ofNat cs.length))) (M_a1 : Fld Z h0 a1 "java/lang/AbstractStringBuilder" "maybeLatin1" "Z" (.int 0)) (A_t : Arv Z h0 t kd .byte (Int32.ofNat cap) ((cs.map own_lo).map Value.int) (.int 0)) (K_a1 : cs.length ≤ cap) (D_a1 : cap ≤ 64) (g_a1 : n0 ≤ a1) (g_t : n0 ≤ t) (lc : own_l1 cs = true) (hrc : ∀ j, j < cs.length → nar .char (cs.getD j 0) = cs.getD j 0) :
    Met l mY46 (Jvm.Cond.code mY46 jdk_68_method_11_code 2 none :: ws) rz5_1_128_76 #[(.ref a1)] Z h0 (Q_rmInfl Z a1 zc fm t kd cs cap h0 n0) := by
  refine MetFree.of_bodySF (plainFor_of_name pn_49) hisR ?_
  intro p e s m args below meth c s₁ Bd hml0 hP hK
  obtain ⟨rfl, hZ, hh⟩ := hP
  have hx := Bd.exec
  have hby := Bd.bytes
  have hml : c.maxLocals = 2 := hml0
  have hown : s.vm.findClass "java/lang/AbstractStringBuilder" = some m.cls := findClass_of_methodNamed Bd.named
  have hlk : meth.locks = false := BodyLoose.notSynchronized Bd
  have X0 : Stand p l e rz5_1_128_76 s m #[(.ref a1)] below meth c s₁ [] 0 0 := Stand.of_body Bd
  have e0 : s₁.heap = h0 := by rw [← hh, Bd.state]; rfl
  have N0 := Fr.nil n0
  have KK : Keep h0 h0 [a1] := Keep.refl h0 _
  show Go p e below s rz5_1_128_76.cells rz5_1_128_76.slots (Q_rmInfl Z a1 zc fm t kd cs cap h0 n0) s₁ (entryFrame m #[(.ref a1)] 2)
  refine Go.eq (ef_rmInfl m a1) ?_
  show Go _ _ _ _ _ _ _  s₁ (mkF m 0 #[.val (.ref a1), .unset] [])
  refine Go.st (fun _ => XS.aloadN X0.here hx rfl (hb hby (dq dz49 0 0 rfl)) rfl rfl) ?_
  show Go _ _ _ _ _ _ _  s₁ (mkF m 1 #[.val (.ref a1), .unset] [(.ref a1)])
  obtain ⟨cq1, kq1, q1a, q1b, q1c⟩ := isOf hZ e0 E_a1
  refine Go.pure (w := (some (.int (if (0 : Int32) = 0 then 1 else 0)))) (rest := []) (pc' := 4) (X0.virtualBack hx (y := mY18) (z := mY18) hown (mvT hZ (hwi hw 273 rfl)) (mvT hZ (hwi hw 136 rfl)) (notFace_of_selects (args := #[]) (mvT hZ (hwi hw 138 rfl))) (mvT hZ (hwi hw 138 rfl)) (mvT hZ (hwi hw 137 rfl)) (by decide) (backOf (W := 0) (rmILc l Z a0 hw [] a1 zc (0 : Int32) h0 n0 O S_COMPACT hcs C_a1) hZ (hwi hw 139 rfl) (hwi hw 53 rfl) (by decide) (by decide)) q1a q1c (g := (mkF m 1 #[.val (.ref a1), .unset] [(.ref a1)])) rfl (by rw [hml]; rfl) (Steps.refl _) (argsL := []) (rest := []) (lenOf pd___Z rfl) rfl (by show 2 * 0 + _ ≤ _; exact Nat.le_of_eq rfl) (hb hby (dq dz49 1 1 rfl)) (fun _ _ => ⟨rfl, e0, (by decide : 0 + 0 ≤ _), (by decide : 0 + 0 ≤ _)⟩)) (fun _ _ _ q => q) N0 (fun T1 L1 X1 e1q N1 => ?_)
  show Go _ _ _ _ _ _ _  T1 (mkF m 4 #[.val (.ref a1), .unset] [(.int (if (0 : Int32) = 0 then 1 else 0))])
  rw [show (if (0 : Int32) = (0 : Int32) then (1 : Int32) else 0) = (1 : Int32) from rfl]
  show Go _ _ _ _ _ _ _  T1 (mkF m 4 #[.val (.ref a1), .unset] [(.int (1 : Int32))])
  refine Go.st (fun _ => XS.ifYes X1.here hx rfl (pc0 := 4) (pc' := 8) rfl (hb hby (dq dz49 2 4 rfl)) rfl ((if0 _ _).trans (feq (by decide : ¬ ((1 : Int32) = (0 : Int32)))).2) (by decide) (by decide)) ?_
  show Go _ _ _ _ _ _ _  T1 (mkF m 8 #[.val (.ref a1), .unset] [])
  refine Go.st (fun _ => XS.aloadN X1.here hx rfl (hb hby (dq dz49 3 8 rfl)) rfl rfl) ?_
  show Go _ _ _ _ _ _ _  T1 (mkF m 9 #[.val (.ref a1), .unset] [(.ref a1)])
  obtain ⟨T2, X2, e2, st2⟩ := getF X1 hx hZ hown (host := "") (Or.inl (hwi hw 57 rfl)) Via.refl e1q V_a1 (g := (mkF m 9 #[.val (.ref a1), .unset] [(.ref a1)])) rfl rfl (hb hby (dq dz49 4 9 rfl))
  refine Go.st st2 ?_
  show Go _ _ _ _ _ _ _  T2 (mkF m 12 #[.val (.ref a1), .unset] [(.ref t)])
  obtain ⟨cl3, Ar3, q3, S3, M3, Hh3, G3⟩ := id A_t
  refine Go.st (X2.arraylength hx (by rw [e2]; exact Ar3.1) (State.isArrayOf_alike hZ.alike Ar3.2.1) (g := (mkF m 12 #[.val (.ref a1), .unset] [(.ref t)])) rfl rfl (hb hby (dq dz49 5 12 rfl))) ?_
  rw [len_of S3 M3]
  show Go _ _ _ _ _ _ _  T2 (mkF m 13 #[.val (.ref a1), .unset] [(.int (Int32.ofNat cap))])
  obtain ⟨_, _, ⟨T4, L4, k4, n4⟩, -, X4, ⟨Lc4, hQ4, l4, y4, z4⟩, st4⟩ := Jvm.LawKit.callS X2 hx (y := mY33) hown (mvT hZ (hwi hw 274 rfl)) (mvT hZ (hwi hw 253 rfl)) (mvT hZ (hwi hw 21 rfl)) (mvT hZ (hwi hw 254 rfl)) (by decide) (backOf (W := 0) (rmNBF l Z a0 hw [] cap h0 n0 O D_a1) hZ (hwi hw 254 rfl) (hwi hw 21 rfl) (by decide) (by decide)) (g := (mkF m 13 #[.val (.ref a1), .unset] [(.int (Int32.ofNat cap))])) rfl (by rw [hml]; rfl) (argsL := [(.int (Int32.ofNat cap))]) (rest := []) (lenOf pd__I__B rfl) rfl (by show 2 * 0 + _ ≤ _; exact Nat.le_of_eq rfl) (hb hby (dq dz49 6 13 rfl)) (fun _ _ => ⟨rfl, e2, (by decide : 0 + 1 ≤ _), (by decide : 0 + 128 ≤ _)⟩)
  dsimp only [Pt.U, Pt.locs, Pt.cells, Pt.slots] at X4 l4 y4 z4 st4 hQ4
  rw [l4, y4, z4] at X4
  have X4 : Stand p l e _ _ m _ below meth c T4 _ 1 128 := X4
  obtain ⟨t4, kt4, rfl, N4q, E4q, lt4, Vt4, Xt4⟩ := hQ4
  have N4 := Fr.app N1 N4q
  refine Go.st st4 ?_
  have g_t4 : n0 ≤ t4 := Nat.le_trans (own_le O) lt4
  have sz_t4 : h0.size ≤ t4 := Nat.le_trans KK.1 lt4
  have ne_a1_t4 : a1 ≠ t4 := Nat.ne_of_lt (Nat.lt_of_lt_of_le E_a1.lt lt4)
  have ne_t_t4 : t ≠ t4 := Nat.ne_of_lt (Nat.lt_of_lt_of_le A_t.lt lt4)
  have E4 := E4q
  have E_a1 := E_a1.ext E4
  have A_t := A_t.ext E4
  have C_a1 := C_a1.ext E4
  have V_a1 := V_a1.ext E4
  have N_a1 := N_a1.ext E4
  have M_a1 := M_a1.ext E4
  have O := O.ext E4
  have KK := KK.ext E4
  show Go _ _ _ _ _ _ _  T4 (mkF m 16 #[.val (.ref a1), .unset] [(.ref t4)])
  refine Go.st (fun _ => XS.astoreN X4.here hx rfl (hb hby (dq dz49 7 16 rfl)) rfl rfl (l' := #[.val (.ref a1), .val (.ref t4)]) rfl) ?_
  refine Go.st (fun _ => XS.aloadN X4.here hx rfl (hb hby (dq dz49 8 17 rfl)) rfl rfl) ?_
  show Go _ _ _ _ _ _ _  T4 (mkF m 18 #[.val (.ref a1), .val (.ref t4)] [(.ref a1)])
  obtain ⟨T5, X5, e5, st5⟩ := getF X4 hx hZ hown (host := "") (Or.inl (hwi hw 57 rfl)) Via.refl rfl V_a1 (g := (mkF m 18 #[.val (.ref a1), .val (.ref t4)] [(.ref a1)])) rfl rfl (hb hby (dq dz49 9 18 rfl))
  refine Go.st st5 ?_
  show Go _ _ _ _ _ _ _  T5 (mkF m 21 #[.val (.ref a1), .val (.ref t4)] [(.ref t)])
  refine Go.st (fun _ => XS.iconst X5.here hx rfl (hb hby (dq dz49 10 21 rfl))) ?_
  refine Go.st (fun _ => XS.aloadN X5.here hx rfl (hb hby (dq dz49 11 22 rfl)) rfl rfl) ?_
  refine Go.st (fun _ => XS.iconst X5.here hx rfl (hb hby (dq dz49 12 23 rfl))) ?_
  refine Go.st (fun _ => XS.aloadN X5.here hx rfl (hb hby (dq dz49 13 24 rfl)) rfl rfl) ?_
  show Go _ _ _ _ _ _ _  T5 (mkF m 25 #[.val (.ref a1), .val (.ref t4)] [(.ref a1), (.int (0 : Int32)), (.ref t4), (.int (0 : Int32)), (.ref t)])
  obtain ⟨T6, X6, e6, st6⟩ := getF X5 hx hZ hown (host := "") (Or.inl (hwi hw 82 rfl)) Via.refl e5 N_a1 (g := (mkF m 25 #[.val (.ref a1), .val (.ref t4)] [(.ref a1), (.int (0 : Int32)), (.ref t4), (.int (0 : Int32)), (.ref t)])) rfl rfl (hb hby (dq dz49 14 25 rfl))
  refine Go.st st6 ?_
  show Go _ _ _ _ _ _ _  T6 (mkF m 28 #[.val (.ref a1), .val (.ref t4)] [(.int (Int32.ofNat cs.length)), (.int (0 : Int32)), (.ref t4), (.int (0 : Int32)), (.ref t)])
  obtain ⟨_, _, ⟨T7, L7, k7, n7⟩, -, X7, ⟨Lc7, hQ7, l7, y7, z7⟩, st7⟩ := Jvm.LawKit.callS X6 hx (y := mY45) hown (mvT hZ (hwi hw 275 rfl)) (mvT hZ (hwi hw 276 rfl)) (mvT hZ (hwi hw 234 rfl)) (mvT hZ (hwi hw 277 rfl)) (by decide) (backOf (W := 0) (rmLInf l Z a0 hw [] t t4 fm kd kt4 ([] : List Int32) cs cap cap T4.heap n0 O S_SIO ref_fm S_ad S_hi S_lo A_t Vt4 (by simpa using K_a1) D_a1 K_a1 (by omega) lc hrc g_t4 ne_t_t4) hZ (hwi hw 277 rfl) (hwi hw 234 rfl) (by decide) (by decide)) (g := (mkF m 28 #[.val (.ref a1), .val (.ref t4)] [(.int (Int32.ofNat cs.length)), (.int (0 : Int32)), (.ref t4), (.int (0 : Int32)), (.ref t)])) rfl (by rw [hml]; rfl) (argsL := [(.ref t), (.int (0 : Int32)), (.ref t4), (.int (0 : Int32)), (.int (Int32.ofNat cs.length))]) (rest := []) (lenOf pd___BI_BII_V rfl) rfl (by show 2 * 0 + _ ≤ _; exact Nat.le_of_eq rfl) (hb hby (dq dz49 15 28 rfl)) (fun _ _ => ⟨rfl, e6, (by decide : 1 + 0 ≤ _), (by decide : 128 + 0 ≤ _)⟩)
  dsimp only [Pt.U, Pt.locs, Pt.cells, Pt.slots] at X7 l7 y7 z7 st7 hQ7
  rw [l7, y7, z7] at X7
  have X7 : Stand p l e _ _ m _ below meth c T7 _ 1 128 := X7
  obtain ⟨rfl, N7q, K7q, Q7⟩ := hQ7
  have N7 := Fr.app N4 N7q
  refine Go.st st7 ?_
  have E_a1 := E_a1.keep K7q
  have A_t := A_t.keep K7q (ninS ne_t_t4 nin0)
  have C_a1 := C_a1.keep K7q (ninS ne_a1_t4 nin0)
  have V_a1 := V_a1.keep K7q (ninS ne_a1_t4 nin0)
  have N_a1 := N_a1.keep K7q (ninS ne_a1_t4 nin0)
  have M_a1 := M_a1.keep K7q (ninS ne_a1_t4 nin0)
  have Xt4 := Xt4.keep K7q
  have O := O.keep K7q (allS g_t4 all0)
  have KK := KK.trans K7q (allS (Or.inr sz_t4) all0)
  rw [List.nil_append] at Q7
  show Go _ _ _ _ _ _ _  T7 (mkF m 31 #[.val (.ref a1), .val (.ref t4)] [])
  refine Go.st (fun _ => XS.aloadN X7.here hx rfl (hb hby (dq dz49 16 31 rfl)) rfl rfl) ?_
  refine Go.st (fun _ => XS.aloadN X7.here hx rfl (hb hby (dq dz49 17 32 rfl)) rfl rfl) ?_
  show Go _ _ _ _ _ _ _  T7 (mkF m 33 #[.val (.ref a1), .val (.ref t4)] [(.ref t4), (.ref a1)])
  obtain ⟨T8, h8, X8, e8, W8, st8⟩ := putF X7 hx hZ hown (host := "") (Or.inl (hwi hw 57 rfl)) Via.refl rfl V_a1 E_a1 (Or.inl (hwi hw 58 rfl)) (hwi hw 44 rfl) (ty := (.array .byte)) (by decide) rfl rfl (g := (mkF m 33 #[.val (.ref a1), .val (.ref t4)] [(.ref t4), (.ref a1)])) rfl rfl (hb hby (dq dz49 18 33 rfl))
  refine Go.st st8 ?_
  have V_a1 : Fld Z h8 a1 "java/lang/AbstractStringBuilder" "value" "[B" (.ref t4) := V_a1.same W8
  have N8 := Fr.snoc X8 N7 g_a1
  have ne_t_a1 : t ≠ a1 := (Ne.symm (Exa.neArv E_a1 A_t (hwi hw 44 rfl)))
  have E_a1 := E_a1.wr W8
  have A_t := A_t.other W8 ne_t_a1
  have C_a1 := C_a1.other W8 (Or.inr (slot_ne (Or.inl (hwi hw 60 rfl)) (Or.inl (hwi hw 58 rfl)) (by decide) (t := .byte) (t' := (.array .byte)) (by decide) (by decide)))
  have N_a1 := N_a1.other W8 (Or.inr (slot_ne (Or.inl (hwi hw 83 rfl)) (Or.inl (hwi hw 58 rfl)) (by decide) (t := .int) (t' := (.array .byte)) (by decide) (by decide)))
  have M_a1 := M_a1.other W8 (Or.inr (slot_ne (Or.inl (hwi hw 295 rfl)) (Or.inl (hwi hw 58 rfl)) (by decide) (t := .boolean) (t' := (.array .byte)) (by decide) (by decide)))
  have Xt4 := Xt4.wr W8
  have Q7 := Q7.other W8 (Ne.symm ne_a1_t4)
  have O := O.wr W8 g_a1
  have KK := KK.wr W8 (Or.inl (List.mem_of_getElem? (i := 0) rfl))
  show Go _ _ _ _ _ _ _  T8 (mkF m 36 #[.val (.ref a1), .val (.ref t4)] [])
  refine Go.st (fun _ => XS.aloadN X8.here hx rfl (hb hby (dq dz49 19 36 rfl)) rfl rfl) ?_
  refine Go.st (fun _ => XS.iconst X8.here hx rfl (hb hby (dq dz49 20 37 rfl))) ?_
  show Go _ _ _ _ _ _ _  T8 (mkF m 38 #[.val (.ref a1), .val (.ref t4)] [(.int (1 : Int32)), (.ref a1)])
  obtain ⟨T9, h9, X9, e9, W9, st9⟩ := putFN X8 hx hZ hown (hwi hw 59 rfl) Via.refl e8 C_a1 E_a1 (Or.inl (hwi hw 60 rfl)) (hwi hw 44 rfl) (ty := .byte) (v' := .int (1 : Int32)) (by decide) rfl rfl (g := (mkF m 38 #[.val (.ref a1), .val (.ref t4)] [(.int (1 : Int32)), (.ref a1)])) rfl rfl (hb hby (dq dz49 21 38 rfl))
  refine Go.st st9 ?_
  have C_a1 : Fld Z h9 a1 "java/lang/AbstractStringBuilder" "coder" "B" (.int (1 : Int32)) := C_a1.same W9
  have N9 := Fr.snoc X9 N8 g_a1
  have E_a1 := E_a1.wr W9
  have A_t := A_t.other W9 ne_t_a1
  have V_a1 := V_a1.other W9 (Or.inr (slot_ne (Or.inl (hwi hw 58 rfl)) (Or.inl (hwi hw 60 rfl)) (by decide) (t := (.array .byte)) (t' := .byte) (by decide) (by decide)))
  have N_a1 := N_a1.other W9 (Or.inr (slot_ne (Or.inl (hwi hw 83 rfl)) (Or.inl (hwi hw 60 rfl)) (by decide) (t := .int) (t' := .byte) (by decide) (by decide)))
  have M_a1 := M_a1.other W9 (Or.inr (slot_ne (Or.inl (hwi hw 295 rfl)) (Or.inl (hwi hw 60 rfl)) (by decide) (t := .boolean) (t' := .byte) (by decide) (by decide)))
  have Xt4 := Xt4.wr W9
  have Q7 := Q7.other W9 (Ne.symm ne_a1_t4)
  have O := O.wr W9 g_a1
  have KK := KK.wr W9 (Or.inl (List.mem_of_getElem? (i := 0) rfl))
  show Go _ _ _ _ _ _ _  T9 (mkF m 41 #[.val (.ref a1), .val (.ref t4)] [])
  refine Go.ret0 X9 hlk hx Bd.returns (hb hby (dq dz49 22 41 rfl)) (by decide) (by decide) ?_
  show Q_rmInfl Z _ _ _ _ _ _ _ h0 n0 _ T9.heap _
  rw [e9]
  exact ⟨rfl, N9, KK, E_a1, C_a1, N_a1, M_a1, t4, kt4, sz_t4, V_a1, Q7, Xt4⟩
def Q_rmInfl0 (Z : State) (a1 : Addr) (zc : Int32) (h0 : Heap) (n0 : Nat) (v : Option Value) (h : Heap) (L : List Loc) : Prop := v = none ∧ Fr n0 L ∧ h = h0
theorem rmInfl0 (l : Launch) (Z : State) (a0 : Array Value) (hw : HWt a0 Z) (ws : List Jvm.Cond) (a1 : Addr) (zc : Int32) (h0 : Heap) (n0 : Nat) (O : Old Z n0 h0) (S_COMPACT : Sta Z Z.heap "java/lang/String" "COMPACT_STRINGS" "Z" (.int zc)) (hcs : ¬ zc = 0) (E_a1 : Exa Z h0 a1 "java/lang/StringBuilder") (C_a1 : Fld Z h0 a1 "java/lang/AbstractStringBuilder" "coder" "B" (.int 1)) :
    Met l mY46 (Jvm.Cond.code mY46 jdk_68_method_11_code 2 none :: ws) rz1_0_0_12 #[(.ref a1)] Z h0 (Q_rmInfl0 Z a1 zc h0 n0) := by
  refine MetFree.of_bodySF (plainFor_of_name pn_49) hisR ?_
  intro p e s m args below meth c s₁ Bd hml0 hP hK
  obtain ⟨rfl, hZ, hh⟩ := hP
  have hx := Bd.exec
  have hby := Bd.bytes
  have hml : c.maxLocals = 2 := hml0
  have hown : s.vm.findClass "java/lang/AbstractStringBuilder" = some m.cls := findClass_of_methodNamed Bd.named
  have hlk : meth.locks = false := BodyLoose.notSynchronized Bd
  have X0 : Stand p l e rz1_0_0_12 s m #[(.ref a1)] below meth c s₁ [] 0 0 := Stand.of_body Bd
  have e0 : s₁.heap = h0 := by rw [← hh, Bd.state]; rfl
  have N0 := Fr.nil n0
  show Go p e below s rz1_0_0_12.cells rz1_0_0_12.slots (Q_rmInfl0 Z a1 zc h0 n0) s₁ (entryFrame m #[(.ref a1)] 2)
  refine Go.eq (ef_rmInfl0 m a1) ?_
  show Go _ _ _ _ _ _ _  s₁ (mkF m 0 #[.val (.ref a1), .unset] [])
  refine Go.st (fun _ => XS.aloadN X0.here hx rfl (hb hby (dq dz49 0 0 rfl)) rfl rfl) ?_
  show Go _ _ _ _ _ _ _  s₁ (mkF m 1 #[.val (.ref a1), .unset] [(.ref a1)])
  obtain ⟨cq1, kq1, q1a, q1b, q1c⟩ := isOf hZ e0 E_a1
  refine Go.pure (w := (some (.int (if (1 : Int32) = 0 then 1 else 0)))) (rest := []) (pc' := 4) (X0.virtualBack hx (y := mY18) (z := mY18) hown (mvT hZ (hwi hw 273 rfl)) (mvT hZ (hwi hw 136 rfl)) (notFace_of_selects (args := #[]) (mvT hZ (hwi hw 138 rfl))) (mvT hZ (hwi hw 138 rfl)) (mvT hZ (hwi hw 137 rfl)) (by decide) (backOf (W := 0) (rmILc l Z a0 hw [] a1 zc (1 : Int32) h0 n0 O S_COMPACT hcs C_a1) hZ (hwi hw 139 rfl) (hwi hw 53 rfl) (by decide) (by decide)) q1a q1c (g := (mkF m 1 #[.val (.ref a1), .unset] [(.ref a1)])) rfl (by rw [hml]; rfl) (Steps.refl _) (argsL := []) (rest := []) (lenOf pd___Z rfl) rfl (by show 2 * 0 + _ ≤ _; exact Nat.le_of_eq rfl) (hb hby (dq dz49 1 1 rfl)) (fun _ _ => ⟨rfl, e0, (by decide : 0 + 0 ≤ _), (by decide : 0 + 0 ≤ _)⟩)) (fun _ _ _ q => q) N0 (fun T1 L1 X1 e1q N1 => ?_)
  show Go _ _ _ _ _ _ _  T1 (mkF m 4 #[.val (.ref a1), .unset] [(.int (if (1 : Int32) = 0 then 1 else 0))])
  rw [show (if (1 : Int32) = (0 : Int32) then (1 : Int32) else 0) = (0 : Int32) from rfl]
  show Go _ _ _ _ _ _ _  T1 (mkF m 4 #[.val (.ref a1), .unset] [(.int (0 : Int32))])
  refine Go.st (fun _ => XS.ifNo X1.here hx rfl (hb hby (dq dz49 2 4 rfl)) rfl ((if0 _ _).trans (teq (rfl : (0 : Int32) = (0 : Int32))).2)) ?_
  show Go _ _ _ _ _ _ _  T1 (mkF m 7 #[.val (.ref a1), .unset] [])
  refine Go.ret0 X1 hlk hx Bd.returns (hb hby (dq dz49 23 7 rfl)) (by decide) (by decide) ?_
  show Q_rmInfl0 Z _ _ h0 n0 _ T1.heap _
  rw [e1q]
  exact ⟨rfl, N1, rfl⟩
def Q_rmCoderV (Z : State) (a1 : Addr) (zc : Int32) (cd : Int32) (h0 : Heap) (n0 : Nat) (v : Option Value) (h : Heap) (L : List Loc) : Prop := v = some (.int cd) ∧ Fr n0 L ∧ h = h0
theorem rmCoderV (l : Launch) (Z : State) (a0 : Array Value) (hw : HWt a0 Z) (ws : List Jvm.Cond) (a1 : Addr) (zc : Int32) (cd : Int32) (h0 : Heap) (n0 : Nat) (O : Old Z n0 h0) (S_COMPACT : Sta Z Z.heap "java/lang/String" "COMPACT_STRINGS" "Z" (.int zc)) (hcs : ¬ zc = 0) (C_a1 : Fld Z h0 a1 "java/lang/String" "coder" "B" (.int cd)) (hcd : nar .byte cd = cd) :
    Met l mY0 (Jvm.Cond.code mY0 jdk_42_method_152_code 1 (some .byte) :: ws) rz0_0_0_0 #[(.ref a1)] Z h0 (Q_rmCoderV Z a1 zc cd h0 n0) := by
  refine MetFree.of_bodySF (plainFor_of_name pn_14) hisR ?_
  intro p e s m args below meth c s₁ Bd hml0 hP hK
  obtain ⟨rfl, hZ, hh⟩ := hP
  have hx := Bd.exec
  have hby := Bd.bytes
  have hml : c.maxLocals = 1 := hml0
  have hown : s.vm.findClass "java/lang/String" = some m.cls := findClass_of_methodNamed Bd.named
  have hlk : meth.locks = false := BodyLoose.notSynchronized Bd
  have X0 : Stand p l e rz0_0_0_0 s m #[(.ref a1)] below meth c s₁ [] 0 0 := Stand.of_body Bd
  have e0 : s₁.heap = h0 := by rw [← hh, Bd.state]; rfl
  have N0 := Fr.nil n0
  show Go p e below s rz0_0_0_0.cells rz0_0_0_0.slots (Q_rmCoderV Z a1 zc cd h0 n0) s₁ (entryFrame m #[(.ref a1)] 1)
  refine Go.eq (ef_rmCoderV m a1) ?_
  show Go _ _ _ _ _ _ _  s₁ (mkF m 0 #[.val (.ref a1)] [])
  obtain ⟨T1, X1, e1, st1⟩ := getS2 X0 hx hZ hown (host := "") (Or.inl (hwi hw 18 rfl)) Via.refl e0 (S_COMPACT.ext O.2) (g := (mkF m 0 #[.val (.ref a1)] [])) rfl (hb hby (dq dz14 0 0 rfl))
  refine Go.st st1 ?_
  show Go _ _ _ _ _ _ _  T1 (mkF m 3 #[.val (.ref a1)] [(.int zc)])
  refine Go.st (fun _ => XS.ifNo X1.here hx rfl (hb hby (dq dz14 1 3 rfl)) rfl ((if0 _ _).trans (feq (hcs : ¬ (zc = (0 : Int32)))).1)) ?_
  show Go _ _ _ _ _ _ _  T1 (mkF m 6 #[.val (.ref a1)] [])
  refine Go.st (fun _ => XS.aloadN X1.here hx rfl (hb hby (dq dz14 2 6 rfl)) rfl rfl) ?_
  show Go _ _ _ _ _ _ _  T1 (mkF m 7 #[.val (.ref a1)] [(.ref a1)])
  obtain ⟨T2, X2, e2, st2⟩ := getF X1 hx hZ hown (host := "") (Or.inl (hwi hw 30 rfl)) Via.refl e1 C_a1 (g := (mkF m 7 #[.val (.ref a1)] [(.ref a1)])) rfl rfl (hb hby (dq dz14 3 7 rfl))
  refine Go.st st2 ?_
  show Go _ _ _ _ _ _ _  T2 (mkF m 10 #[.val (.ref a1)] [(.int cd)])
  refine Go.st (fun _ => XS.goto X2.here hx rfl (pc0 := 10) (pc' := 14) rfl (hb hby (dq dz14 4 10 rfl)) (by decide) (by decide)) ?_
  show Go _ _ _ _ _ _ _  T2 (mkF m 14 #[.val (.ref a1)] [(.int cd)])
  refine Go.retN X2 hlk hx (t := .byte) (z' := cd) Bd.returns (by simp) (hb hby (dq dz14 5 14 rfl)) (by decide) (by decide) hcd ?_
  show Q_rmCoderV Z _ _ _ h0 n0 _ T2.heap _
  rw [e2]
  exact ⟨rfl, N0, rfl⟩
def Q_rmIf0 (Z : State) (a1 : Addr) (a2 : Addr) (zc : Int32) (cd : Int32) (h0 : Heap) (n0 : Nat) (v : Option Value) (h : Heap) (L : List Loc) : Prop := v = none ∧ Fr n0 L ∧ h = h0
theorem rmIf0 (l : Launch) (Z : State) (a0 : Array Value) (hw : HWt a0 Z) (ws : List Jvm.Cond) (a1 : Addr) (a2 : Addr) (zc : Int32) (cd : Int32) (h0 : Heap) (n0 : Nat) (O : Old Z n0 h0) (S_COMPACT : Sta Z Z.heap "java/lang/String" "COMPACT_STRINGS" "Z" (.int zc)) (hcs : ¬ zc = 0) (E_a1 : Exa Z h0 a1 "java/lang/StringBuilder") (C_a1 : Fld Z h0 a1 "java/lang/AbstractStringBuilder" "coder" "B" (.int cd)) (E_a2 : Exa Z h0 a2 "java/lang/String") (C_a2 : Fld Z h0 a2 "java/lang/String" "coder" "B" (.int cd)) (hcd : nar .byte cd = cd) :
    Met l mY3 (Jvm.Cond.code mY3 jdk_68_method_71_code 2 none :: ws) rz1_0_0_13 #[(.ref a1), (.ref a2)] Z h0 (Q_rmIf0 Z a1 a2 zc cd h0 n0) := by
  refine MetFree.of_bodySF (plainFor_of_name pn_17) hisR ?_
  intro p e s m args below meth c s₁ Bd hml0 hP hK
  obtain ⟨rfl, hZ, hh⟩ := hP
  have hx := Bd.exec
  have hby := Bd.bytes
  have hml : c.maxLocals = 2 := hml0
  have hown : s.vm.findClass "java/lang/AbstractStringBuilder" = some m.cls := findClass_of_methodNamed Bd.named
  have hlk : meth.locks = false := BodyLoose.notSynchronized Bd
  have X0 : Stand p l e rz1_0_0_13 s m #[(.ref a1), (.ref a2)] below meth c s₁ [] 0 0 := Stand.of_body Bd
  have e0 : s₁.heap = h0 := by rw [← hh, Bd.state]; rfl
  have N0 := Fr.nil n0
  show Go p e below s rz1_0_0_13.cells rz1_0_0_13.slots (Q_rmIf0 Z a1 a2 zc cd h0 n0) s₁ (entryFrame m #[(.ref a1), (.ref a2)] 2)
  refine Go.eq (ef_rmIf0 m a1 a2) ?_
  show Go _ _ _ _ _ _ _  s₁ (mkF m 0 #[.val (.ref a1), .val (.ref a2)] [])
  obtain ⟨T1, X1, e1, st1⟩ := getS2 X0 hx hZ hown (host := "") (Or.inl (hwi hw 56 rfl)) Via.refl e0 (S_COMPACT.ext O.2) (g := (mkF m 0 #[.val (.ref a1), .val (.ref a2)] [])) rfl (hb hby (dq dz17 0 0 rfl))
  refine Go.st st1 ?_
  show Go _ _ _ _ _ _ _  T1 (mkF m 3 #[.val (.ref a1), .val (.ref a2)] [(.int zc)])
  refine Go.st (fun _ => XS.ifNo X1.here hx rfl (hb hby (dq dz17 1 3 rfl)) rfl ((if0 _ _).trans (feq (hcs : ¬ (zc = (0 : Int32)))).1)) ?_
  show Go _ _ _ _ _ _ _  T1 (mkF m 6 #[.val (.ref a1), .val (.ref a2)] [])
  refine Go.st (fun _ => XS.aloadN X1.here hx rfl (hb hby (dq dz17 2 6 rfl)) rfl rfl) ?_
  show Go _ _ _ _ _ _ _  T1 (mkF m 7 #[.val (.ref a1), .val (.ref a2)] [(.ref a1)])
  obtain ⟨T2, X2, e2, st2⟩ := getF X1 hx hZ hown (host := "") (Or.inl (hwi hw 59 rfl)) Via.refl e1 C_a1 (g := (mkF m 7 #[.val (.ref a1), .val (.ref a2)] [(.ref a1)])) rfl rfl (hb hby (dq dz17 3 7 rfl))
  refine Go.st st2 ?_
  show Go _ _ _ _ _ _ _  T2 (mkF m 10 #[.val (.ref a1), .val (.ref a2)] [(.int cd)])
  refine Go.st (fun _ => XS.aloadN X2.here hx rfl (hb hby (dq dz17 4 10 rfl)) rfl rfl) ?_
  show Go _ _ _ _ _ _ _  T2 (mkF m 11 #[.val (.ref a1), .val (.ref a2)] [(.ref a2), (.int cd)])
  obtain ⟨cq3, kq3, q3a, q3b, q3c⟩ := isOf hZ e2 E_a2
  refine Go.pure (w := (some (.int cd))) (rest := [(.int cd)]) (pc' := 14) (X2.virtualBack hx (y := mY0) (z := mY0) hown (mvT hZ (hwi hw 99 rfl)) (mvT hZ (hwi hw 78 rfl)) (notFace_of_selects (args := #[]) (mvT hZ (hwi hw 80 rfl))) (mvT hZ (hwi hw 80 rfl)) (mvT hZ (hwi hw 79 rfl)) (by decide) (backOf (W := 1) (rmCoderV l Z a0 hw [] a2 zc cd h0 n0 O S_COMPACT hcs C_a2 hcd) hZ (hwi hw 81 rfl) (hwi hw 6 rfl) (by decide) (by decide)) q3a q3c (g := (mkF m 11 #[.val (.ref a1), .val (.ref a2)] [(.ref a2), (.int cd)])) rfl (by rw [hml]; rfl) (Steps.refl _) (argsL := []) (rest := [(.int cd)]) (lenOf pd___B rfl) rfl (by show 2 * 0 + _ ≤ _; exact Nat.le_of_eq rfl) (hb hby (dq dz17 5 11 rfl)) (fun _ _ => ⟨rfl, e2, (by decide : 0 + 0 ≤ _), (by decide : 0 + 0 ≤ _)⟩)) (fun _ _ _ q => q) N0 (fun T3 L3 X3 e3q N3 => ?_)
  show Go _ _ _ _ _ _ _  T3 (mkF m 14 #[.val (.ref a1), .val (.ref a2)] [(.int cd), (.int cd)])
  refine Go.st (fun _ => XS.icmpYes X3.here hx rfl (pc0 := 14) (pc' := 21) rfl (hb hby (dq dz17 6 14 rfl)) rfl (teq (rfl : cd = cd)).1 (by decide) (by decide)) ?_
  show Go _ _ _ _ _ _ _  T3 (mkF m 21 #[.val (.ref a1), .val (.ref a2)] [])
  refine Go.ret0 X3 hlk hx Bd.returns (hb hby (dq dz17 7 21 rfl)) (by decide) (by decide) ?_
  show Q_rmIf0 Z _ _ _ _ h0 n0 _ T3.heap _
  rw [e3q]
  exact ⟨rfl, N3, rfl⟩
def Q_rmIf1 (Z : State) (a1 : Addr) (a2 : Addr) (zc : Int32) (h0 : Heap) (n0 : Nat) (v : Option Value) (h : Heap) (L : List Loc) : Prop := v = none ∧ Fr n0 L ∧ h = h0
theorem rmIf1 (l : Launch) (Z : State) (a0 : Array Value) (hw : HWt a0 Z) (ws : List Jvm.Cond) (a1 : Addr) (a2 : Addr) (zc : Int32) (h0 : Heap) (n0 : Nat) (O : Old Z n0 h0) (S_COMPACT : Sta Z Z.heap "java/lang/String" "COMPACT_STRINGS" "Z" (.int zc)) (hcs : ¬ zc = 0) (E_a1 : Exa Z h0 a1 "java/lang/StringBuilder") (C_a1 : Fld Z h0 a1 "java/lang/AbstractStringBuilder" "coder" "B" (.int 1)) (E_a2 : Exa Z h0 a2 "java/lang/String") (C_a2 : Fld Z h0 a2 "java/lang/String" "coder" "B" (.int 0)) :
    Met l mY3 (Jvm.Cond.code mY3 jdk_68_method_71_code 2 none :: ws) rz2_0_0_25 #[(.ref a1), (.ref a2)] Z h0 (Q_rmIf1 Z a1 a2 zc h0 n0) := by
  refine MetFree.of_bodySF (plainFor_of_name pn_17) hisR ?_
  intro p e s m args below meth c s₁ Bd hml0 hP hK
  obtain ⟨rfl, hZ, hh⟩ := hP
  have hx := Bd.exec
  have hby := Bd.bytes
  have hml : c.maxLocals = 2 := hml0
  have hown : s.vm.findClass "java/lang/AbstractStringBuilder" = some m.cls := findClass_of_methodNamed Bd.named
  have hlk : meth.locks = false := BodyLoose.notSynchronized Bd
  have X0 : Stand p l e rz2_0_0_25 s m #[(.ref a1), (.ref a2)] below meth c s₁ [] 0 0 := Stand.of_body Bd
  have e0 : s₁.heap = h0 := by rw [← hh, Bd.state]; rfl
  have N0 := Fr.nil n0
  show Go p e below s rz2_0_0_25.cells rz2_0_0_25.slots (Q_rmIf1 Z a1 a2 zc h0 n0) s₁ (entryFrame m #[(.ref a1), (.ref a2)] 2)
  refine Go.eq (ef_rmIf1 m a1 a2) ?_
  show Go _ _ _ _ _ _ _  s₁ (mkF m 0 #[.val (.ref a1), .val (.ref a2)] [])
  obtain ⟨T1, X1, e1, st1⟩ := getS2 X0 hx hZ hown (host := "") (Or.inl (hwi hw 56 rfl)) Via.refl e0 (S_COMPACT.ext O.2) (g := (mkF m 0 #[.val (.ref a1), .val (.ref a2)] [])) rfl (hb hby (dq dz17 0 0 rfl))
  refine Go.st st1 ?_
  show Go _ _ _ _ _ _ _  T1 (mkF m 3 #[.val (.ref a1), .val (.ref a2)] [(.int zc)])
  refine Go.st (fun _ => XS.ifNo X1.here hx rfl (hb hby (dq dz17 1 3 rfl)) rfl ((if0 _ _).trans (feq (hcs : ¬ (zc = (0 : Int32)))).1)) ?_
  show Go _ _ _ _ _ _ _  T1 (mkF m 6 #[.val (.ref a1), .val (.ref a2)] [])
  refine Go.st (fun _ => XS.aloadN X1.here hx rfl (hb hby (dq dz17 2 6 rfl)) rfl rfl) ?_
  show Go _ _ _ _ _ _ _  T1 (mkF m 7 #[.val (.ref a1), .val (.ref a2)] [(.ref a1)])
  obtain ⟨T2, X2, e2, st2⟩ := getF X1 hx hZ hown (host := "") (Or.inl (hwi hw 59 rfl)) Via.refl e1 C_a1 (g := (mkF m 7 #[.val (.ref a1), .val (.ref a2)] [(.ref a1)])) rfl rfl (hb hby (dq dz17 3 7 rfl))
  refine Go.st st2 ?_
  show Go _ _ _ _ _ _ _  T2 (mkF m 10 #[.val (.ref a1), .val (.ref a2)] [(.int (1 : Int32))])
  refine Go.st (fun _ => XS.aloadN X2.here hx rfl (hb hby (dq dz17 4 10 rfl)) rfl rfl) ?_
  show Go _ _ _ _ _ _ _  T2 (mkF m 11 #[.val (.ref a1), .val (.ref a2)] [(.ref a2), (.int (1 : Int32))])
  obtain ⟨cq3, kq3, q3a, q3b, q3c⟩ := isOf hZ e2 E_a2
  refine Go.pure (w := (some (.int (0 : Int32)))) (rest := [(.int (1 : Int32))]) (pc' := 14) (X2.virtualBack hx (y := mY0) (z := mY0) hown (mvT hZ (hwi hw 99 rfl)) (mvT hZ (hwi hw 78 rfl)) (notFace_of_selects (args := #[]) (mvT hZ (hwi hw 80 rfl))) (mvT hZ (hwi hw 80 rfl)) (mvT hZ (hwi hw 79 rfl)) (by decide) (backOf (W := 1) (rmCoderV l Z a0 hw [] a2 zc (0 : Int32) h0 n0 O S_COMPACT hcs C_a2 (by decide)) hZ (hwi hw 81 rfl) (hwi hw 6 rfl) (by decide) (by decide)) q3a q3c (g := (mkF m 11 #[.val (.ref a1), .val (.ref a2)] [(.ref a2), (.int (1 : Int32))])) rfl (by rw [hml]; rfl) (Steps.refl _) (argsL := []) (rest := [(.int (1 : Int32))]) (lenOf pd___B rfl) rfl (by show 2 * 0 + _ ≤ _; exact Nat.le_of_eq rfl) (hb hby (dq dz17 5 11 rfl)) (fun _ _ => ⟨rfl, e2, (by decide : 0 + 0 ≤ _), (by decide : 0 + 0 ≤ _)⟩)) (fun _ _ _ q => q) N0 (fun T3 L3 X3 e3q N3 => ?_)
  show Go _ _ _ _ _ _ _  T3 (mkF m 14 #[.val (.ref a1), .val (.ref a2)] [(.int (0 : Int32)), (.int (1 : Int32))])
  refine Go.st (fun _ => XS.icmpNo X3.here hx rfl (hb hby (dq dz17 6 14 rfl)) rfl (feq (by decide : ¬ ((1 : Int32) = (0 : Int32)))).1) ?_
  show Go _ _ _ _ _ _ _  T3 (mkF m 17 #[.val (.ref a1), .val (.ref a2)] [])
  refine Go.st (fun _ => XS.aloadN X3.here hx rfl (hb hby (dq dz17 8 17 rfl)) rfl rfl) ?_
  show Go _ _ _ _ _ _ _  T3 (mkF m 18 #[.val (.ref a1), .val (.ref a2)] [(.ref a1)])
  obtain ⟨cq4, q4, q4'⟩ := Exa.cell E_a1
  refine Go.pure (w := none) (rest := []) (pc' := 21) (X3.privateBack hx (y := mY46) hown (mvT hZ (hwi hw 268 rfl)) (mvT hZ (hwi hw 269 rfl)) (own_selfsel2 (mvT hZ (hwi hw 271 rfl)) (mvP hZ (hwi hw 270 rfl)) (mvT hZ (hwi hw 269 rfl)) (by decide)) (Cond.privateMethod_at (mvP hZ (hwi hw 270 rfl) (args := #[]))) (mvT hZ (hwi hw 272 rfl)) (by decide) (backOf (W := 0) (rmInfl0 l Z a0 hw [] a1 zc h0 n0 O S_COMPACT hcs E_a1 C_a1) hZ (hwi hw 272 rfl) (hwi hw 53 rfl) (by decide) (by decide)) (g := (mkF m 18 #[.val (.ref a1), .val (.ref a2)] [(.ref a1)])) rfl (by rw [hml]; rfl) (Steps.refl _) (a := a1) (by rw [e3q]; exact q4) q4' (argsL := []) (rest := []) (lenOf pd___V rfl) rfl (by show 2 * 0 + _ ≤ _; exact Nat.le_of_eq rfl) (hb hby (dq dz17 9 18 rfl)) (fun _ _ => ⟨rfl, e3q, (by decide : 0 + 0 ≤ _), (by decide : 0 + 0 ≤ _)⟩)) (fun _ _ _ q => q) N3 (fun T4 L4 X4 e4q N4 => ?_)
  show Go _ _ _ _ _ _ _  T4 (mkF m 21 #[.val (.ref a1), .val (.ref a2)] [])
  refine Go.ret0 X4 hlk hx Bd.returns (hb hby (dq dz17 7 21 rfl)) (by decide) (by decide) ?_
  show Q_rmIf1 Z _ _ _ h0 n0 _ T4.heap _
  rw [e4q]
  exact ⟨rfl, N4, rfl⟩
def Q_rmIf2 (Z : State) (a1 : Addr) (a2 : Addr) (zc : Int32) (fm : Value) (t : Addr) (kd : ClassId) (cs : List Int32) (cap : Nat) (h0 : Heap) (n0 : Nat) (v : Option Value) (h : Heap) (L : List Loc) : Prop := v = none ∧ Fr n0 L ∧ Keep h0 h [a1] ∧ Exa Z h a1 "java/lang/StringBuilder" ∧ Fld Z h a1 "java/lang/AbstractStringBuilder" "coder" "B" (.int 1) ∧ Fld Z h a1 "java/lang/AbstractStringBuilder" "count" "I" (.int (Int32.ofNat cs.length)) ∧ Fld Z h a1 "java/lang/AbstractStringBuilder" "maybeLatin1" "Z" (.int 0) ∧ ∃ (b : Addr) (kb : ClassId), h0.size ≤ b ∧ Fld Z h a1 "java/lang/AbstractStringBuilder" "value" "[B" (.ref b) ∧ Arv Z h b kb .byte (Int32.ofNat (2 * cap)) ((own_ub cs).map Value.int) (.int 0) ∧ Exa Z h b "[B"
theorem rmIf2 (l : Launch) (Z : State) (a0 : Array Value) (hw : HWt a0 Z) (ws : List Jvm.Cond) (a1 : Addr) (a2 : Addr) (zc : Int32) (fm : Value) (t : Addr) (kd : ClassId) (cs : List Int32) (cap : Nat) (h0 : Heap) (n0 : Nat) (O : Old Z n0 h0) (S_COMPACT : Sta Z Z.heap "java/lang/String" "COMPACT_STRINGS" "Z" (.int zc)) (hcs : ¬ zc = 0) (S_SIO : Sta Z Z.heap "jdk/internal/util/Preconditions" "SIOOBE_FORMATTER" "Ljava/util/function/BiFunction;" fm) (ref_fm : fm.isRef = true) (S_ad : Sta Z Z.heap "java/lang/StringUTF16" "$assertionsDisabled" "Z" (.int 1)) (S_hi : Sta Z Z.heap "java/lang/StringUTF16" "HI_BYTE_SHIFT" "I" (.int 0)) (S_lo : Sta Z Z.heap "java/lang/StringUTF16" "LO_BYTE_SHIFT" "I" (.int 8)) (E_a1 : Exa Z h0 a1 "java/lang/StringBuilder") (C_a1 : Fld Z h0 a1 "java/lang/AbstractStringBuilder" "coder" "B" (.int 0)) (V_a1 : Fld Z h0 a1 "java/lang/AbstractStringBuilder" "value" "[B" (.ref t)) (N_a1 : Fld Z h0 a1 "java/lang/AbstractStringBuilder" "count" "I" (.int (Int32.ofNat cs.length))) (M_a1 : Fld Z h0 a1 "java/lang/AbstractStringBuilder" "maybeLatin1" "Z" (.int 0)) (A_t : Arv Z h0 t kd .byte (Int32.ofNat cap) ((cs.map own_lo).map Value.int) (.int 0)) (K_a1 : cs.length ≤ cap) (D_a1 : cap ≤ 64) (g_a1 : n0 ≤ a1) (g_t : n0 ≤ t) (lc : own_l1 cs = true) (hrc : ∀ j, j < cs.length → nar .char (cs.getD j 0) = cs.getD j 0) (E_a2 : Exa Z h0 a2 "java/lang/String") (C_a2 : Fld Z h0 a2 "java/lang/String" "coder" "B" (.int 1)) :
    Met l mY3 (Jvm.Cond.code mY3 jdk_68_method_71_code 2 none :: ws) rz6_1_128_90 #[(.ref a1), (.ref a2)] Z h0 (Q_rmIf2 Z a1 a2 zc fm t kd cs cap h0 n0) := by
  refine MetFree.of_bodySF (plainFor_of_name pn_17) hisR ?_
  intro p e s m args below meth c s₁ Bd hml0 hP hK
  obtain ⟨rfl, hZ, hh⟩ := hP
  have hx := Bd.exec
  have hby := Bd.bytes
  have hml : c.maxLocals = 2 := hml0
  have hown : s.vm.findClass "java/lang/AbstractStringBuilder" = some m.cls := findClass_of_methodNamed Bd.named
  have hlk : meth.locks = false := BodyLoose.notSynchronized Bd
  have X0 : Stand p l e rz6_1_128_90 s m #[(.ref a1), (.ref a2)] below meth c s₁ [] 0 0 := Stand.of_body Bd
  have e0 : s₁.heap = h0 := by rw [← hh, Bd.state]; rfl
  have N0 := Fr.nil n0
  have KK : Keep h0 h0 [a1] := Keep.refl h0 _
  show Go p e below s rz6_1_128_90.cells rz6_1_128_90.slots (Q_rmIf2 Z a1 a2 zc fm t kd cs cap h0 n0) s₁ (entryFrame m #[(.ref a1), (.ref a2)] 2)
  refine Go.eq (ef_rmIf2 m a1 a2) ?_
  show Go _ _ _ _ _ _ _  s₁ (mkF m 0 #[.val (.ref a1), .val (.ref a2)] [])
  obtain ⟨T1, X1, e1, st1⟩ := getS2 X0 hx hZ hown (host := "") (Or.inl (hwi hw 56 rfl)) Via.refl e0 (S_COMPACT.ext O.2) (g := (mkF m 0 #[.val (.ref a1), .val (.ref a2)] [])) rfl (hb hby (dq dz17 0 0 rfl))
  refine Go.st st1 ?_
  show Go _ _ _ _ _ _ _  T1 (mkF m 3 #[.val (.ref a1), .val (.ref a2)] [(.int zc)])
  refine Go.st (fun _ => XS.ifNo X1.here hx rfl (hb hby (dq dz17 1 3 rfl)) rfl ((if0 _ _).trans (feq (hcs : ¬ (zc = (0 : Int32)))).1)) ?_
  show Go _ _ _ _ _ _ _  T1 (mkF m 6 #[.val (.ref a1), .val (.ref a2)] [])
  refine Go.st (fun _ => XS.aloadN X1.here hx rfl (hb hby (dq dz17 2 6 rfl)) rfl rfl) ?_
  show Go _ _ _ _ _ _ _  T1 (mkF m 7 #[.val (.ref a1), .val (.ref a2)] [(.ref a1)])
  obtain ⟨T2, X2, e2, st2⟩ := getF X1 hx hZ hown (host := "") (Or.inl (hwi hw 59 rfl)) Via.refl e1 C_a1 (g := (mkF m 7 #[.val (.ref a1), .val (.ref a2)] [(.ref a1)])) rfl rfl (hb hby (dq dz17 3 7 rfl))
  refine Go.st st2 ?_
  show Go _ _ _ _ _ _ _  T2 (mkF m 10 #[.val (.ref a1), .val (.ref a2)] [(.int (0 : Int32))])
  refine Go.st (fun _ => XS.aloadN X2.here hx rfl (hb hby (dq dz17 4 10 rfl)) rfl rfl) ?_
  show Go _ _ _ _ _ _ _  T2 (mkF m 11 #[.val (.ref a1), .val (.ref a2)] [(.ref a2), (.int (0 : Int32))])
  obtain ⟨cq3, kq3, q3a, q3b, q3c⟩ := isOf hZ e2 E_a2
  refine Go.pure (w := (some (.int (1 : Int32)))) (rest := [(.int (0 : Int32))]) (pc' := 14) (X2.virtualBack hx (y := mY0) (z := mY0) hown (mvT hZ (hwi hw 99 rfl)) (mvT hZ (hwi hw 78 rfl)) (notFace_of_selects (args := #[]) (mvT hZ (hwi hw 80 rfl))) (mvT hZ (hwi hw 80 rfl)) (mvT hZ (hwi hw 79 rfl)) (by decide) (backOf (W := 1) (rmCoderV l Z a0 hw [] a2 zc (1 : Int32) h0 n0 O S_COMPACT hcs C_a2 (by decide)) hZ (hwi hw 81 rfl) (hwi hw 6 rfl) (by decide) (by decide)) q3a q3c (g := (mkF m 11 #[.val (.ref a1), .val (.ref a2)] [(.ref a2), (.int (0 : Int32))])) rfl (by rw [hml]; rfl) (Steps.refl _) (argsL := []) (rest := [(.int (0 : Int32))]) (lenOf pd___B rfl) rfl (by show 2 * 0 + _ ≤ _; exact Nat.le_of_eq rfl) (hb hby (dq dz17 5 11 rfl)) (fun _ _ => ⟨rfl, e2, (by decide : 0 + 0 ≤ _), (by decide : 0 + 0 ≤ _)⟩)) (fun _ _ _ q => q) N0 (fun T3 L3 X3 e3q N3 => ?_)
  show Go _ _ _ _ _ _ _  T3 (mkF m 14 #[.val (.ref a1), .val (.ref a2)] [(.int (1 : Int32)), (.int (0 : Int32))])
  refine Go.st (fun _ => XS.icmpNo X3.here hx rfl (hb hby (dq dz17 6 14 rfl)) rfl (feq (by decide : ¬ ((0 : Int32) = (1 : Int32)))).1) ?_
  show Go _ _ _ _ _ _ _  T3 (mkF m 17 #[.val (.ref a1), .val (.ref a2)] [])
  refine Go.st (fun _ => XS.aloadN X3.here hx rfl (hb hby (dq dz17 8 17 rfl)) rfl rfl) ?_
  show Go _ _ _ _ _ _ _  T3 (mkF m 18 #[.val (.ref a1), .val (.ref a2)] [(.ref a1)])
  obtain ⟨cq4, q4, q4'⟩ := Exa.cell E_a1
  obtain ⟨_, _, ⟨T4, L4, k4, n4⟩, -, X4, ⟨Lc4, hQ4, l4, y4, z4⟩, st4⟩ := X3.privateBack hx (y := mY46) hown (mvT hZ (hwi hw 268 rfl)) (mvT hZ (hwi hw 269 rfl)) (own_selfsel2 (mvT hZ (hwi hw 271 rfl)) (mvP hZ (hwi hw 270 rfl)) (mvT hZ (hwi hw 269 rfl)) (by decide)) (Cond.privateMethod_at (mvP hZ (hwi hw 270 rfl) (args := #[]))) (mvT hZ (hwi hw 272 rfl)) (by decide) (backOf (W := 0) (rmInfl l Z a0 hw [] a1 zc fm t kd cs cap h0 n0 O S_COMPACT hcs S_SIO ref_fm S_ad S_hi S_lo E_a1 C_a1 V_a1 N_a1 M_a1 A_t K_a1 D_a1 g_a1 g_t lc hrc) hZ (hwi hw 272 rfl) (hwi hw 53 rfl) (by decide) (by decide)) (g := (mkF m 18 #[.val (.ref a1), .val (.ref a2)] [(.ref a1)])) rfl (by rw [hml]; rfl) (Steps.refl _) (a := a1) (by rw [e3q]; exact q4) q4' (argsL := []) (rest := []) (lenOf pd___V rfl) rfl (by show 2 * 0 + _ ≤ _; exact Nat.le_of_eq rfl) (hb hby (dq dz17 9 18 rfl)) (fun _ _ => ⟨rfl, e3q, (by decide : 0 + 1 ≤ _), (by decide : 0 + 128 ≤ _)⟩)
  dsimp only [Pt.U, Pt.locs, Pt.cells, Pt.slots] at X4 l4 y4 z4 st4 hQ4
  rw [l4, y4, z4] at X4
  have X4 : Stand p l e _ _ m _ below meth c T4 _ 1 128 := X4
  obtain ⟨rfl, N4q, K4q, Q4⟩ := hQ4
  have N4 := Fr.app N3 N4q
  refine Go.tr st4 ?_
  have ne_t_a1 : t ≠ a1 := (Ne.symm (Exa.neArv E_a1 A_t (hwi hw 44 rfl)))
  have E_a1 := E_a1.keep K4q
  have A_t := A_t.keep K4q (ninS ne_t_a1 nin0)
  have O := O.keep K4q (allS g_a1 all0)
  have KK := KK.trans K4q (allS (Or.inl (List.mem_of_getElem? (i := 0) rfl)) all0)
  show Go _ _ _ _ _ _ _  T4 (mkF m 21 #[.val (.ref a1), .val (.ref a2)] [])
  refine Go.ret0 X4 hlk hx Bd.returns (hb hby (dq dz17 7 21 rfl)) (by decide) (by decide) ?_
  show Q_rmIf2 Z _ _ _ _ _ _ _ _ h0 n0 _ T4.heap _
  exact ⟨rfl, N4, KK, Q4⟩
def Q_rmGBg (Z : State) (a1 : Addr) (a2 : Addr) (p4 : Int32) (zc : Int32) (t : Addr) (kb : ClassId) (mm : Nat) (vs : List Value) (kd : ClassId) (n : Nat) (pn : Nat) (cap : Nat) (bs : List Value) (h0 : Heap) (n0 : Nat) (v : Option Value) (h : Heap) (L : List Loc) : Prop := v = none ∧ Fr n0 L ∧ Keep h0 h [a2] ∧ Arv Z h a2 kd .byte (Int32.ofNat cap) (bs ++ vs) (.int 0)
theorem rmGBg (l : Launch) (Z : State) (a0 : Array Value) (hw : HWt a0 Z) (ws : List Jvm.Cond) (a1 : Addr) (a2 : Addr) (p4 : Int32) (zc : Int32) (t : Addr) (kb : ClassId) (mm : Nat) (vs : List Value) (kd : ClassId) (n : Nat) (pn : Nat) (cap : Nat) (bs : List Value) (h0 : Heap) (n0 : Nat) (O : Old Z n0 h0) (S_COMPACT : Sta Z Z.heap "java/lang/String" "COMPACT_STRINGS" "Z" (.int zc)) (hcs : ¬ zc = 0) (E_a1 : Exa Z h0 a1 "java/lang/String") (C_a1 : Fld Z h0 a1 "java/lang/String" "coder" "B" (.int p4)) (V_a1 : Fld Z h0 a1 "java/lang/String" "value" "[B" (.ref t)) (A_t : Arv Z h0 t kb .byte (Int32.ofNat mm) vs (.int 0)) (hvs : vs.length = mm) (hmm : mm < 1000) (hcd : nar .byte p4 = p4) (hsh : Int32.ofNat n <<< (p4 &&& 31) = Int32.ofNat pn) (A_a2 : Arv Z h0 a2 kd .byte (Int32.ofNat cap) bs (.int 0)) (hbs : bs.length = pn) (hcap : pn + mm ≤ cap) (hcb : cap < 1000) (g_a2 : n0 ≤ a2) (ne_t_a2 : t ≠ a2) :
    Met l mY2 (Jvm.Cond.code mY2 jdk_42_method_147_code 4 none :: ws) rz1_0_0_18 #[(.ref a1), (.ref a2), (.int (Int32.ofNat n)), (.int p4)] Z h0 (Q_rmGBg Z a1 a2 p4 zc t kb mm vs kd n pn cap bs h0 n0) := by
  refine MetFree.of_bodySF (plainFor_of_name pn_18) hisR ?_
  intro p e s m args below meth c s₁ Bd hml0 hP hK
  obtain ⟨rfl, hZ, hh⟩ := hP
  have hx := Bd.exec
  have hby := Bd.bytes
  have hml : c.maxLocals = 4 := hml0
  have hown : s.vm.findClass "java/lang/String" = some m.cls := findClass_of_methodNamed Bd.named
  have hlk : meth.locks = false := BodyLoose.notSynchronized Bd
  have X0 : Stand p l e rz1_0_0_18 s m #[(.ref a1), (.ref a2), (.int (Int32.ofNat n)), (.int p4)] below meth c s₁ [] 0 0 := Stand.of_body Bd
  have e0 : s₁.heap = h0 := by rw [← hh, Bd.state]; rfl
  have N0 := Fr.nil n0
  have KK : Keep h0 h0 [a2] := Keep.refl h0 _
  show Go p e below s rz1_0_0_18.cells rz1_0_0_18.slots (Q_rmGBg Z a1 a2 p4 zc t kb mm vs kd n pn cap bs h0 n0) s₁ (entryFrame m #[(.ref a1), (.ref a2), (.int (Int32.ofNat n)), (.int p4)] 4)
  refine Go.eq (ef_rmGBg m a1 a2 (Int32.ofNat n) p4) ?_
  show Go _ _ _ _ _ _ _  s₁ (mkF m 0 #[.val (.ref a1), .val (.ref a2), .val (.int (Int32.ofNat n)), .val (.int p4)] [])
  refine Go.st (fun _ => XS.aloadN X0.here hx rfl (hb hby (dq dz18 0 0 rfl)) rfl rfl) ?_
  show Go _ _ _ _ _ _ _  s₁ (mkF m 1 #[.val (.ref a1), .val (.ref a2), .val (.int (Int32.ofNat n)), .val (.int p4)] [(.ref a1)])
  obtain ⟨cq1, kq1, q1a, q1b, q1c⟩ := isOf hZ e0 E_a1
  refine Go.pure (w := (some (.int p4))) (rest := []) (pc' := 4) (X0.virtualBack hx (y := mY0) (z := mY0) hown (mvT hZ (hwi hw 77 rfl)) (mvT hZ (hwi hw 78 rfl)) (notFace_of_selects (args := #[]) (mvT hZ (hwi hw 80 rfl))) (mvT hZ (hwi hw 80 rfl)) (mvT hZ (hwi hw 79 rfl)) (by decide) (backOf (W := 0) (rmCoderV l Z a0 hw [] a1 zc p4 h0 n0 O S_COMPACT hcs C_a1 hcd) hZ (hwi hw 81 rfl) (hwi hw 6 rfl) (by decide) (by decide)) q1a q1c (g := (mkF m 1 #[.val (.ref a1), .val (.ref a2), .val (.int (Int32.ofNat n)), .val (.int p4)] [(.ref a1)])) rfl (by rw [hml]; rfl) (Steps.refl _) (argsL := []) (rest := []) (lenOf pd___B rfl) rfl (by show 2 * 0 + _ ≤ _; exact Nat.le_of_eq rfl) (hb hby (dq dz18 1 1 rfl)) (fun _ _ => ⟨rfl, e0, (by decide : 0 + 0 ≤ _), (by decide : 0 + 0 ≤ _)⟩)) (fun _ _ _ q => q) N0 (fun T1 L1 X1 e1q N1 => ?_)
  show Go _ _ _ _ _ _ _  T1 (mkF m 4 #[.val (.ref a1), .val (.ref a2), .val (.int (Int32.ofNat n)), .val (.int p4)] [(.int p4)])
  refine Go.st (fun _ => XS.iloadN X1.here hx rfl (hb hby (dq dz18 2 4 rfl)) rfl) ?_
  show Go _ _ _ _ _ _ _  T1 (mkF m 5 #[.val (.ref a1), .val (.ref a2), .val (.int (Int32.ofNat n)), .val (.int p4)] [(.int p4), (.int p4)])
  refine Go.st (fun _ => XS.icmpNo X1.here hx rfl (hb hby (dq dz18 3 5 rfl)) rfl (teq (rfl : p4 = p4)).2) ?_
  show Go _ _ _ _ _ _ _  T1 (mkF m 8 #[.val (.ref a1), .val (.ref a2), .val (.int (Int32.ofNat n)), .val (.int p4)] [])
  refine Go.st (fun _ => XS.aloadN X1.here hx rfl (hb hby (dq dz18 4 8 rfl)) rfl rfl) ?_
  show Go _ _ _ _ _ _ _  T1 (mkF m 9 #[.val (.ref a1), .val (.ref a2), .val (.int (Int32.ofNat n)), .val (.int p4)] [(.ref a1)])
  obtain ⟨T2, X2, e2, st2⟩ := getF X1 hx hZ hown (host := "") (Or.inl (hwi hw 32 rfl)) Via.refl e1q V_a1 (g := (mkF m 9 #[.val (.ref a1), .val (.ref a2), .val (.int (Int32.ofNat n)), .val (.int p4)] [(.ref a1)])) rfl rfl (hb hby (dq dz18 5 9 rfl))
  refine Go.st st2 ?_
  show Go _ _ _ _ _ _ _  T2 (mkF m 12 #[.val (.ref a1), .val (.ref a2), .val (.int (Int32.ofNat n)), .val (.int p4)] [(.ref t)])
  refine Go.st (fun _ => XS.iconst X2.here hx rfl (hb hby (dq dz18 6 12 rfl))) ?_
  refine Go.st (fun _ => XS.aloadN X2.here hx rfl (hb hby (dq dz18 7 13 rfl)) rfl rfl) ?_
  refine Go.st (fun _ => XS.iloadN X2.here hx rfl (hb hby (dq dz18 8 14 rfl)) rfl) ?_
  refine Go.st (fun _ => XS.iloadN X2.here hx rfl (hb hby (dq dz18 9 15 rfl)) rfl) ?_
  refine Go.st (fun _ => XS.ishl X2.here hx rfl (hb hby (dq dz18 10 16 rfl)) rfl) ?_
  show Go _ _ _ _ _ _ _  T2 (mkF m 17 #[.val (.ref a1), .val (.ref a2), .val (.int (Int32.ofNat n)), .val (.int p4)] [(.int ((Int32.ofNat n) <<< (p4 &&& 31))), (.ref a2), (.int (0 : Int32)), (.ref t)])
  rw [hsh]
  refine Go.st (fun _ => XS.aloadN X2.here hx rfl (hb hby (dq dz18 11 17 rfl)) rfl rfl) ?_
  show Go _ _ _ _ _ _ _  T2 (mkF m 18 #[.val (.ref a1), .val (.ref a2), .val (.int (Int32.ofNat n)), .val (.int p4)] [(.ref a1), (.int (Int32.ofNat pn)), (.ref a2), (.int (0 : Int32)), (.ref t)])
  obtain ⟨T3, X3, e3, st3⟩ := getF X2 hx hZ hown (host := "") (Or.inl (hwi hw 32 rfl)) Via.refl e2 V_a1 (g := (mkF m 18 #[.val (.ref a1), .val (.ref a2), .val (.int (Int32.ofNat n)), .val (.int p4)] [(.ref a1), (.int (Int32.ofNat pn)), (.ref a2), (.int (0 : Int32)), (.ref t)])) rfl rfl (hb hby (dq dz18 12 18 rfl))
  refine Go.st st3 ?_
  show Go _ _ _ _ _ _ _  T3 (mkF m 21 #[.val (.ref a1), .val (.ref a2), .val (.int (Int32.ofNat n)), .val (.int p4)] [(.ref t), (.int (Int32.ofNat pn)), (.ref a2), (.int (0 : Int32)), (.ref t)])
  obtain ⟨cl4, Ar4, q4, S4, M4, Hh4, G4⟩ := id A_t
  refine Go.st (X3.arraylength hx (by rw [e3]; exact Ar4.1) (State.isArrayOf_alike hZ.alike Ar4.2.1) (g := (mkF m 21 #[.val (.ref a1), .val (.ref a2), .val (.int (Int32.ofNat n)), .val (.int p4)] [(.ref t), (.int (Int32.ofNat pn)), (.ref a2), (.int (0 : Int32)), (.ref t)])) rfl rfl (hb hby (dq dz18 13 21 rfl))) ?_
  rw [len_of S4 M4]
  show Go _ _ _ _ _ _ _  T3 (mkF m 22 #[.val (.ref a1), .val (.ref a2), .val (.int (Int32.ofNat n)), .val (.int p4)] [(.int (Int32.ofNat mm)), (.int (Int32.ofNat pn)), (.ref a2), (.int (0 : Int32)), (.ref t)])
  obtain ⟨T5, h5, L5, X5, e5, N5, K5, V5, st5⟩ := cpA X3 hx hZ hown (hwi hw 105 rfl) (hwi hw 108 rfl) (hwi hw 106 rfl) (hwi hw 107 rfl) e3 A_t (A_a2.pad (pad_rep bs (.int 0) mm)) (Or.inl ⟨rfl, rfl⟩) (by decide) (own_onn (by omega)) (own_onn (by omega)) (by rw [own_ocl (by omega)]; exact Nat.le_of_eq (Nat.zero_add _)) (by rw [own_ocl (by omega), own_ocl (by omega), own_ocl (by omega)]; omega) (us := (List.range mm).map fun i => vs.getD (0 + i) (.int 0)) (by rw [own_ocl (by omega)]; rfl) (by rw [own_ocl (by omega), own_ocl (by omega)]; simp; omega) N1 g_a2 (g := (mkF m 22 #[.val (.ref a1), .val (.ref a2), .val (.int (Int32.ofNat n)), .val (.int p4)] [(.int (Int32.ofNat mm)), (.int (Int32.ofNat pn)), (.ref a2), (.int (0 : Int32)), (.ref t)])) rfl (by rw [hml]; rfl) rfl (hb hby (dq dz18 14 22 rfl)) (by decide) (W := 0) (by show 2 * 0 + _ ≤ _; exact Nat.le_of_eq rfl) (by decide)
  refine Go.st st5 ?_
  have V5 := V5.pad (by rw [own_ocl (by omega), own_ocl (by omega)]; exact own_cp hbs (Nat.le_of_eq hvs))
  have ne_a1_a2 : a1 ≠ a2 := (Exa.neArv E_a1 A_a2 (hwi hw 5 rfl))
  have E_a1 := E_a1.keep K5
  have A_t := A_t.keep K5 (ninS ne_t_a2 nin0)
  have C_a1 := C_a1.keep K5 (ninS ne_a1_a2 nin0)
  have V_a1 := V_a1.keep K5 (ninS ne_a1_a2 nin0)
  have O := O.keep K5 (allS g_a2 all0)
  have KK := KK.trans K5 (allS (Or.inl (List.mem_of_getElem? (i := 0) rfl)) all0)
  have A_a2 := V5
  show Go _ _ _ _ _ _ _  T5 (mkF m 25 #[.val (.ref a1), .val (.ref a2), .val (.int (Int32.ofNat n)), .val (.int p4)] [])
  refine Go.st (fun _ => XS.goto X5.here hx rfl (pc0 := 25) (pc' := 43) rfl (hb hby (dq dz18 15 25 rfl)) (by decide) (by decide)) ?_
  show Go _ _ _ _ _ _ _  T5 (mkF m 43 #[.val (.ref a1), .val (.ref a2), .val (.int (Int32.ofNat n)), .val (.int p4)] [])
  refine Go.ret0 X5 hlk hx Bd.returns (hb hby (dq dz18 16 43 rfl)) (by decide) (by decide) ?_
  show Q_rmGBg Z _ _ _ _ _ _ _ _ _ _ _ _ _ h0 n0 _ T5.heap _
  rw [e5]
  exact ⟨rfl, N5, KK, A_a2⟩
def Q_rmGBi (Z : State) (a1 : Addr) (a2 : Addr) (zc : Int32) (fm : Value) (t : Addr) (kb : ClassId) (kd : ClassId) (cs : List Int32) (ys : List Int32) (cap : Nat) (h0 : Heap) (n0 : Nat) (v : Option Value) (h : Heap) (L : List Loc) : Prop := v = none ∧ Fr n0 L ∧ Keep h0 h [a2] ∧ Arv Z h a2 kd .byte (Int32.ofNat (2 * cap)) ((own_ub (cs ++ ys)).map Value.int) (.int 0)
theorem rmGBi (l : Launch) (Z : State) (a0 : Array Value) (hw : HWt a0 Z) (ws : List Jvm.Cond) (a1 : Addr) (a2 : Addr) (zc : Int32) (fm : Value) (t : Addr) (kb : ClassId) (kd : ClassId) (cs : List Int32) (ys : List Int32) (cap : Nat) (h0 : Heap) (n0 : Nat) (O : Old Z n0 h0) (S_COMPACT : Sta Z Z.heap "java/lang/String" "COMPACT_STRINGS" "Z" (.int zc)) (hcs : ¬ zc = 0) (S_SIO : Sta Z Z.heap "jdk/internal/util/Preconditions" "SIOOBE_FORMATTER" "Ljava/util/function/BiFunction;" fm) (ref_fm : fm.isRef = true) (S_ad : Sta Z Z.heap "java/lang/StringUTF16" "$assertionsDisabled" "Z" (.int 1)) (S_hi : Sta Z Z.heap "java/lang/StringUTF16" "HI_BYTE_SHIFT" "I" (.int 0)) (S_lo : Sta Z Z.heap "java/lang/StringUTF16" "LO_BYTE_SHIFT" "I" (.int 8)) (E_a1 : Exa Z h0 a1 "java/lang/String") (C_a1 : Fld Z h0 a1 "java/lang/String" "coder" "B" (.int 0)) (V_a1 : Fld Z h0 a1 "java/lang/String" "value" "[B" (.ref t)) (A_t : Arv Z h0 t kb .byte (Int32.ofNat ys.length) ((ys.map own_lo).map Value.int) (.int 0)) (A_a2 : Arv Z h0 a2 kd .byte (Int32.ofNat (2 * cap)) ((own_ub cs).map Value.int) (.int 0)) (hcy : cs.length + ys.length ≤ cap) (hc40 : cap ≤ 64) (ly : own_l1 ys = true) (hry : ∀ j, j < ys.length → nar .char (ys.getD j 0) = ys.getD j 0) (g_a2 : n0 ≤ a2) (ne_t_a2 : t ≠ a2) :
    Met l mY2 (Jvm.Cond.code mY2 jdk_42_method_147_code 4 none :: ws) rz5_0_0_76 #[(.ref a1), (.ref a2), (.int (Int32.ofNat cs.length)), (.int (1 : Int32))] Z h0 (Q_rmGBi Z a1 a2 zc fm t kb kd cs ys cap h0 n0) := by
  refine MetFree.of_bodySF (plainFor_of_name pn_18) hisR ?_
  intro p e s m args below meth c s₁ Bd hml0 hP hK
  obtain ⟨rfl, hZ, hh⟩ := hP
  have hx := Bd.exec
  have hby := Bd.bytes
  have hml : c.maxLocals = 4 := hml0
  have hown : s.vm.findClass "java/lang/String" = some m.cls := findClass_of_methodNamed Bd.named
  have hlk : meth.locks = false := BodyLoose.notSynchronized Bd
  have X0 : Stand p l e rz5_0_0_76 s m #[(.ref a1), (.ref a2), (.int (Int32.ofNat cs.length)), (.int (1 : Int32))] below meth c s₁ [] 0 0 := Stand.of_body Bd
  have e0 : s₁.heap = h0 := by rw [← hh, Bd.state]; rfl
  have N0 := Fr.nil n0
  have KK : Keep h0 h0 [a2] := Keep.refl h0 _
  show Go p e below s rz5_0_0_76.cells rz5_0_0_76.slots (Q_rmGBi Z a1 a2 zc fm t kb kd cs ys cap h0 n0) s₁ (entryFrame m #[(.ref a1), (.ref a2), (.int (Int32.ofNat cs.length)), (.int (1 : Int32))] 4)
  refine Go.eq (ef_rmGBi m a1 a2 (Int32.ofNat cs.length) (1 : Int32)) ?_
  show Go _ _ _ _ _ _ _  s₁ (mkF m 0 #[.val (.ref a1), .val (.ref a2), .val (.int (Int32.ofNat cs.length)), .val (.int (1 : Int32))] [])
  refine Go.st (fun _ => XS.aloadN X0.here hx rfl (hb hby (dq dz18 0 0 rfl)) rfl rfl) ?_
  show Go _ _ _ _ _ _ _  s₁ (mkF m 1 #[.val (.ref a1), .val (.ref a2), .val (.int (Int32.ofNat cs.length)), .val (.int (1 : Int32))] [(.ref a1)])
  obtain ⟨cq1, kq1, q1a, q1b, q1c⟩ := isOf hZ e0 E_a1
  refine Go.pure (w := (some (.int (0 : Int32)))) (rest := []) (pc' := 4) (X0.virtualBack hx (y := mY0) (z := mY0) hown (mvT hZ (hwi hw 77 rfl)) (mvT hZ (hwi hw 78 rfl)) (notFace_of_selects (args := #[]) (mvT hZ (hwi hw 80 rfl))) (mvT hZ (hwi hw 80 rfl)) (mvT hZ (hwi hw 79 rfl)) (by decide) (backOf (W := 0) (rmCoderV l Z a0 hw [] a1 zc (0 : Int32) h0 n0 O S_COMPACT hcs C_a1 (by decide)) hZ (hwi hw 81 rfl) (hwi hw 6 rfl) (by decide) (by decide)) q1a q1c (g := (mkF m 1 #[.val (.ref a1), .val (.ref a2), .val (.int (Int32.ofNat cs.length)), .val (.int (1 : Int32))] [(.ref a1)])) rfl (by rw [hml]; rfl) (Steps.refl _) (argsL := []) (rest := []) (lenOf pd___B rfl) rfl (by show 2 * 0 + _ ≤ _; exact Nat.le_of_eq rfl) (hb hby (dq dz18 1 1 rfl)) (fun _ _ => ⟨rfl, e0, (by decide : 0 + 0 ≤ _), (by decide : 0 + 0 ≤ _)⟩)) (fun _ _ _ q => q) N0 (fun T1 L1 X1 e1q N1 => ?_)
  show Go _ _ _ _ _ _ _  T1 (mkF m 4 #[.val (.ref a1), .val (.ref a2), .val (.int (Int32.ofNat cs.length)), .val (.int (1 : Int32))] [(.int (0 : Int32))])
  refine Go.st (fun _ => XS.iloadN X1.here hx rfl (hb hby (dq dz18 2 4 rfl)) rfl) ?_
  show Go _ _ _ _ _ _ _  T1 (mkF m 5 #[.val (.ref a1), .val (.ref a2), .val (.int (Int32.ofNat cs.length)), .val (.int (1 : Int32))] [(.int (1 : Int32)), (.int (0 : Int32))])
  refine Go.st (fun _ => XS.icmpYes X1.here hx rfl (pc0 := 5) (pc' := 28) rfl (hb hby (dq dz18 3 5 rfl)) rfl (feq (by decide : ¬ ((0 : Int32) = (1 : Int32)))).2 (by decide) (by decide)) ?_
  show Go _ _ _ _ _ _ _  T1 (mkF m 28 #[.val (.ref a1), .val (.ref a2), .val (.int (Int32.ofNat cs.length)), .val (.int (1 : Int32))] [])
  refine Go.st (fun _ => XS.aloadN X1.here hx rfl (hb hby (dq dz18 17 28 rfl)) rfl rfl) ?_
  show Go _ _ _ _ _ _ _  T1 (mkF m 29 #[.val (.ref a1), .val (.ref a2), .val (.int (Int32.ofNat cs.length)), .val (.int (1 : Int32))] [(.ref a1)])
  obtain ⟨T2, X2, e2, st2⟩ := getF X1 hx hZ hown (host := "") (Or.inl (hwi hw 32 rfl)) Via.refl e1q V_a1 (g := (mkF m 29 #[.val (.ref a1), .val (.ref a2), .val (.int (Int32.ofNat cs.length)), .val (.int (1 : Int32))] [(.ref a1)])) rfl rfl (hb hby (dq dz18 18 29 rfl))
  refine Go.st st2 ?_
  show Go _ _ _ _ _ _ _  T2 (mkF m 32 #[.val (.ref a1), .val (.ref a2), .val (.int (Int32.ofNat cs.length)), .val (.int (1 : Int32))] [(.ref t)])
  refine Go.st (fun _ => XS.iconst X2.here hx rfl (hb hby (dq dz18 19 32 rfl))) ?_
  refine Go.st (fun _ => XS.aloadN X2.here hx rfl (hb hby (dq dz18 20 33 rfl)) rfl rfl) ?_
  refine Go.st (fun _ => XS.iloadN X2.here hx rfl (hb hby (dq dz18 21 34 rfl)) rfl) ?_
  refine Go.st (fun _ => XS.aloadN X2.here hx rfl (hb hby (dq dz18 22 35 rfl)) rfl rfl) ?_
  show Go _ _ _ _ _ _ _  T2 (mkF m 36 #[.val (.ref a1), .val (.ref a2), .val (.int (Int32.ofNat cs.length)), .val (.int (1 : Int32))] [(.ref a1), (.int (Int32.ofNat cs.length)), (.ref a2), (.int (0 : Int32)), (.ref t)])
  obtain ⟨T3, X3, e3, st3⟩ := getF X2 hx hZ hown (host := "") (Or.inl (hwi hw 32 rfl)) Via.refl e2 V_a1 (g := (mkF m 36 #[.val (.ref a1), .val (.ref a2), .val (.int (Int32.ofNat cs.length)), .val (.int (1 : Int32))] [(.ref a1), (.int (Int32.ofNat cs.length)), (.ref a2), (.int (0 : Int32)), (.ref t)])) rfl rfl (hb hby (dq dz18 23 36 rfl))
  refine Go.st st3 ?_
  show Go _ _ _ _ _ _ _  T3 (mkF m 39 #[.val (.ref a1), .val (.ref a2), .val (.int (Int32.ofNat cs.length)), .val (.int (1 : Int32))] [(.ref t), (.int (Int32.ofNat cs.length)), (.ref a2), (.int (0 : Int32)), (.ref t)])
  obtain ⟨cl4, Ar4, q4, S4, M4, Hh4, G4⟩ := id A_t
  refine Go.st (X3.arraylength hx (by rw [e3]; exact Ar4.1) (State.isArrayOf_alike hZ.alike Ar4.2.1) (g := (mkF m 39 #[.val (.ref a1), .val (.ref a2), .val (.int (Int32.ofNat cs.length)), .val (.int (1 : Int32))] [(.ref t), (.int (Int32.ofNat cs.length)), (.ref a2), (.int (0 : Int32)), (.ref t)])) rfl rfl (hb hby (dq dz18 24 39 rfl))) ?_
  rw [len_of S4 M4]
  show Go _ _ _ _ _ _ _  T3 (mkF m 40 #[.val (.ref a1), .val (.ref a2), .val (.int (Int32.ofNat cs.length)), .val (.int (1 : Int32))] [(.int (Int32.ofNat ys.length)), (.int (Int32.ofNat cs.length)), (.ref a2), (.int (0 : Int32)), (.ref t)])
  obtain ⟨_, _, ⟨T5, L5, k5, n5⟩, -, X5, ⟨Lc5, hQ5, l5, y5, z5⟩, st5⟩ := Jvm.LawKit.callS X3 hx (y := mY45) hown (mvT hZ (hwi hw 293 rfl)) (mvT hZ (hwi hw 276 rfl)) (mvT hZ (hwi hw 234 rfl)) (mvT hZ (hwi hw 277 rfl)) (by decide) (backOf (W := 0) (rmLInf l Z a0 hw [] t a2 fm kb kd cs ys cap ys.length h0 n0 O S_SIO ref_fm S_ad S_hi S_lo A_t A_a2 hcy hc40 (Nat.le_refl _) (by omega) ly hry g_a2 ne_t_a2) hZ (hwi hw 277 rfl) (hwi hw 234 rfl) (by decide) (by decide)) (g := (mkF m 40 #[.val (.ref a1), .val (.ref a2), .val (.int (Int32.ofNat cs.length)), .val (.int (1 : Int32))] [(.int (Int32.ofNat ys.length)), (.int (Int32.ofNat cs.length)), (.ref a2), (.int (0 : Int32)), (.ref t)])) rfl (by rw [hml]; rfl) (argsL := [(.ref t), (.int (0 : Int32)), (.ref a2), (.int (Int32.ofNat cs.length)), (.int (Int32.ofNat ys.length))]) (rest := []) (lenOf pd___BI_BII_V rfl) rfl (by show 2 * 0 + _ ≤ _; exact Nat.le_of_eq rfl) (hb hby (dq dz18 25 40 rfl)) (fun _ _ => ⟨rfl, e3, (by decide : 0 + 0 ≤ _), (by decide : 0 + 0 ≤ _)⟩)
  dsimp only [Pt.U, Pt.locs, Pt.cells, Pt.slots] at X5 l5 y5 z5 st5 hQ5
  rw [l5, y5, z5] at X5
  have X5 : Stand p l e _ _ m _ below meth c T5 _ 0 0 := X5
  obtain ⟨rfl, N5q, K5q, Q5⟩ := hQ5
  have N5 := Fr.app N1 N5q
  refine Go.st st5 ?_
  have ne_a1_a2 : a1 ≠ a2 := (Exa.neArv E_a1 A_a2 (hwi hw 5 rfl))
  have E_a1 := E_a1.keep K5q
  have A_t := A_t.keep K5q (ninS ne_t_a2 nin0)
  have C_a1 := C_a1.keep K5q (ninS ne_a1_a2 nin0)
  have V_a1 := V_a1.keep K5q (ninS ne_a1_a2 nin0)
  have O := O.keep K5q (allS g_a2 all0)
  have KK := KK.trans K5q (allS (Or.inl (List.mem_of_getElem? (i := 0) rfl)) all0)
  show Go _ _ _ _ _ _ _  T5 (mkF m 43 #[.val (.ref a1), .val (.ref a2), .val (.int (Int32.ofNat cs.length)), .val (.int (1 : Int32))] [])
  refine Go.ret0 X5 hlk hx Bd.returns (hb hby (dq dz18 16 43 rfl)) (by decide) (by decide) ?_
  show Q_rmGBi Z _ _ _ _ _ _ _ _ _ _ h0 n0 _ T5.heap _
  exact ⟨rfl, N5, KK, Q5⟩
def Q_rmPeq (Z : State) (a1 : Addr) (a2 : Addr) (zc : Int32) (t : Addr) (kd : ClassId) (cap : Nat) (bs : List Value) (u : Addr) (ku : ClassId) (mm : Nat) (vs : List Value) (n : Nat) (pn : Nat) (cd : Int32) (h0 : Heap) (n0 : Nat) (v : Option Value) (h : Heap) (L : List Loc) : Prop := v = none ∧ Fr n0 L ∧ Keep h0 h [t] ∧ Arv Z h t kd .byte (Int32.ofNat cap) (bs ++ vs) (.int 0)
theorem rmPeq (l : Launch) (Z : State) (a0 : Array Value) (hw : HWt a0 Z) (ws : List Jvm.Cond) (a1 : Addr) (a2 : Addr) (zc : Int32) (t : Addr) (kd : ClassId) (cap : Nat) (bs : List Value) (u : Addr) (ku : ClassId) (mm : Nat) (vs : List Value) (n : Nat) (pn : Nat) (cd : Int32) (h0 : Heap) (n0 : Nat) (O : Old Z n0 h0) (S_COMPACT : Sta Z Z.heap "java/lang/String" "COMPACT_STRINGS" "Z" (.int zc)) (hcs : ¬ zc = 0) (E_a1 : Exa Z h0 a1 "java/lang/StringBuilder") (C_a1 : Fld Z h0 a1 "java/lang/AbstractStringBuilder" "coder" "B" (.int cd)) (V_a1 : Fld Z h0 a1 "java/lang/AbstractStringBuilder" "value" "[B" (.ref t)) (A_t : Arv Z h0 t kd .byte (Int32.ofNat cap) bs (.int 0)) (E_a2 : Exa Z h0 a2 "java/lang/String") (C_a2 : Fld Z h0 a2 "java/lang/String" "coder" "B" (.int cd)) (V_a2 : Fld Z h0 a2 "java/lang/String" "value" "[B" (.ref u)) (A_u : Arv Z h0 u ku .byte (Int32.ofNat mm) vs (.int 0)) (hvs : vs.length = mm) (hmm : mm < 1000) (hcd : nar .byte cd = cd) (hsh : Int32.ofNat n <<< (cd &&& 31) = Int32.ofNat pn) (hbs : bs.length = pn) (hcap : pn + mm ≤ cap) (hcb : cap < 1000) (g_t : n0 ≤ t) (ne_u_t : u ≠ t) :
    Met l mY4 (Jvm.Cond.code mY4 jdk_68_method_73_code 3 none :: ws) rz2_0_0_33 #[(.ref a1), (.int (Int32.ofNat n)), (.ref a2)] Z h0 (Q_rmPeq Z a1 a2 zc t kd cap bs u ku mm vs n pn cd h0 n0) := by
  refine MetFree.of_bodySF (plainFor_of_name pn_16) hisR ?_
  intro p e s m args below meth c s₁ Bd hml0 hP hK
  obtain ⟨rfl, hZ, hh⟩ := hP
  have hx := Bd.exec
  have hby := Bd.bytes
  have hml : c.maxLocals = 3 := hml0
  have hown : s.vm.findClass "java/lang/AbstractStringBuilder" = some m.cls := findClass_of_methodNamed Bd.named
  have hlk : meth.locks = false := BodyLoose.notSynchronized Bd
  have X0 : Stand p l e rz2_0_0_33 s m #[(.ref a1), (.int (Int32.ofNat n)), (.ref a2)] below meth c s₁ [] 0 0 := Stand.of_body Bd
  have e0 : s₁.heap = h0 := by rw [← hh, Bd.state]; rfl
  have N0 := Fr.nil n0
  have KK : Keep h0 h0 [t] := Keep.refl h0 _
  show Go p e below s rz2_0_0_33.cells rz2_0_0_33.slots (Q_rmPeq Z a1 a2 zc t kd cap bs u ku mm vs n pn cd h0 n0) s₁ (entryFrame m #[(.ref a1), (.int (Int32.ofNat n)), (.ref a2)] 3)
  refine Go.eq (ef_rmPeq m a1 (Int32.ofNat n) a2) ?_
  show Go _ _ _ _ _ _ _  s₁ (mkF m 0 #[.val (.ref a1), .val (.int (Int32.ofNat n)), .val (.ref a2)] [])
  refine Go.st (fun _ => XS.aloadN X0.here hx rfl (hb hby (dq dz16 0 0 rfl)) rfl rfl) ?_
  refine Go.st (fun _ => XS.aloadN X0.here hx rfl (hb hby (dq dz16 1 1 rfl)) rfl rfl) ?_
  show Go _ _ _ _ _ _ _  s₁ (mkF m 2 #[.val (.ref a1), .val (.int (Int32.ofNat n)), .val (.ref a2)] [(.ref a2), (.ref a1)])
  obtain ⟨cq1, q1, q1'⟩ := Exa.cell E_a1
  refine Go.pure (w := none) (rest := []) (pc' := 5) (X0.privateBack hx (y := mY3) hown (mvT hZ (hwi hw 94 rfl)) (mvT hZ (hwi hw 95 rfl)) (own_selfsel2 (mvT hZ (hwi hw 97 rfl)) (mvP hZ (hwi hw 96 rfl)) (mvT hZ (hwi hw 95 rfl)) (by decide)) (Cond.privateMethod_at (mvP hZ (hwi hw 96 rfl) (args := #[]))) (mvT hZ (hwi hw 98 rfl)) (by decide) (backOf (W := 0) (rmIf0 l Z a0 hw [] a1 a2 zc cd h0 n0 O S_COMPACT hcs E_a1 C_a1 E_a2 C_a2 hcd) hZ (hwi hw 98 rfl) (hwi hw 53 rfl) (by decide) (by decide)) (g := (mkF m 2 #[.val (.ref a1), .val (.int (Int32.ofNat n)), .val (.ref a2)] [(.ref a2), (.ref a1)])) rfl (by rw [hml]; rfl) (Steps.refl _) (a := a1) (by rw [e0]; exact q1) q1' (argsL := [(.ref a2)]) (rest := []) (lenOf pd__Ljava_lang_String__V rfl) rfl (by show 2 * 0 + _ ≤ _; exact Nat.le_of_eq rfl) (hb hby (dq dz16 2 2 rfl)) (fun _ _ => ⟨rfl, e0, (by decide : 0 + 0 ≤ _), (by decide : 0 + 0 ≤ _)⟩)) (fun _ _ _ q => q) N0 (fun T1 L1 X1 e1q N1 => ?_)
  show Go _ _ _ _ _ _ _  T1 (mkF m 5 #[.val (.ref a1), .val (.int (Int32.ofNat n)), .val (.ref a2)] [])
  refine Go.st (fun _ => XS.aloadN X1.here hx rfl (hb hby (dq dz16 3 5 rfl)) rfl rfl) ?_
  refine Go.st (fun _ => XS.aloadN X1.here hx rfl (hb hby (dq dz16 4 6 rfl)) rfl rfl) ?_
  show Go _ _ _ _ _ _ _  T1 (mkF m 7 #[.val (.ref a1), .val (.int (Int32.ofNat n)), .val (.ref a2)] [(.ref a1), (.ref a2)])
  obtain ⟨T2, X2, e2, st2⟩ := getF X1 hx hZ hown (host := "") (Or.inl (hwi hw 57 rfl)) Via.refl e1q V_a1 (g := (mkF m 7 #[.val (.ref a1), .val (.int (Int32.ofNat n)), .val (.ref a2)] [(.ref a1), (.ref a2)])) rfl rfl (hb hby (dq dz16 5 7 rfl))
  refine Go.st st2 ?_
  show Go _ _ _ _ _ _ _  T2 (mkF m 10 #[.val (.ref a1), .val (.int (Int32.ofNat n)), .val (.ref a2)] [(.ref t), (.ref a2)])
  refine Go.st (fun _ => XS.iloadN X2.here hx rfl (hb hby (dq dz16 6 10 rfl)) rfl) ?_
  refine Go.st (fun _ => XS.aloadN X2.here hx rfl (hb hby (dq dz16 7 11 rfl)) rfl rfl) ?_
  show Go _ _ _ _ _ _ _  T2 (mkF m 12 #[.val (.ref a1), .val (.int (Int32.ofNat n)), .val (.ref a2)] [(.ref a1), (.int (Int32.ofNat n)), (.ref t), (.ref a2)])
  obtain ⟨T3, X3, e3, st3⟩ := getF X2 hx hZ hown (host := "") (Or.inl (hwi hw 59 rfl)) Via.refl e2 C_a1 (g := (mkF m 12 #[.val (.ref a1), .val (.int (Int32.ofNat n)), .val (.ref a2)] [(.ref a1), (.int (Int32.ofNat n)), (.ref t), (.ref a2)])) rfl rfl (hb hby (dq dz16 8 12 rfl))
  refine Go.st st3 ?_
  show Go _ _ _ _ _ _ _  T3 (mkF m 15 #[.val (.ref a1), .val (.int (Int32.ofNat n)), .val (.ref a2)] [(.int cd), (.int (Int32.ofNat n)), (.ref t), (.ref a2)])
  obtain ⟨cq4, kq4, q4a, q4b, q4c⟩ := isOf hZ e3 E_a2
  obtain ⟨_, _, ⟨T4, L4, k4, n4⟩, -, X4, ⟨Lc4, hQ4, l4, y4, z4⟩, st4⟩ := X3.virtualBack hx (y := mY2) (z := mY2) hown (mvT hZ (hwi hw 100 rfl)) (mvT hZ (hwi hw 101 rfl)) (notFace_of_selects (args := #[]) (mvT hZ (hwi hw 103 rfl))) (mvT hZ (hwi hw 103 rfl)) (mvT hZ (hwi hw 102 rfl)) (by decide) (backOf (W := 0) (rmGBg l Z a0 hw [] a2 t cd zc u ku mm vs kd n pn cap bs h0 n0 O S_COMPACT hcs E_a2 C_a2 V_a2 A_u hvs hmm hcd hsh A_t hbs hcap hcb g_t ne_u_t) hZ (hwi hw 104 rfl) (hwi hw 6 rfl) (by decide) (by decide)) q4a q4c (g := (mkF m 15 #[.val (.ref a1), .val (.int (Int32.ofNat n)), .val (.ref a2)] [(.int cd), (.int (Int32.ofNat n)), (.ref t), (.ref a2)])) rfl (by rw [hml]; rfl) (Steps.refl _) (argsL := [(.ref t), (.int (Int32.ofNat n)), (.int cd)]) (rest := []) (lenOf pd___BIB_V rfl) rfl (by show 2 * 0 + _ ≤ _; exact Nat.le_of_eq rfl) (hb hby (dq dz16 9 15 rfl)) (fun _ _ => ⟨rfl, e3, (by decide : 0 + 0 ≤ _), (by decide : 0 + 0 ≤ _)⟩)
  dsimp only [Pt.U, Pt.locs, Pt.cells, Pt.slots] at X4 l4 y4 z4 st4 hQ4
  rw [l4, y4, z4] at X4
  have X4 : Stand p l e _ _ m _ below meth c T4 _ 0 0 := X4
  obtain ⟨rfl, N4q, K4q, Q4⟩ := hQ4
  have N4 := Fr.app N1 N4q
  refine Go.tr st4 ?_
  have ne_a1_t : a1 ≠ t := (Exa.neArv E_a1 A_t (hwi hw 44 rfl))
  have ne_a2_t : a2 ≠ t := (Exa.neArv E_a2 A_t (hwi hw 5 rfl))
  have E_a1 := E_a1.keep K4q
  have E_a2 := E_a2.keep K4q
  have A_u := A_u.keep K4q (ninS ne_u_t nin0)
  have C_a1 := C_a1.keep K4q (ninS ne_a1_t nin0)
  have V_a1 := V_a1.keep K4q (ninS ne_a1_t nin0)
  have C_a2 := C_a2.keep K4q (ninS ne_a2_t nin0)
  have V_a2 := V_a2.keep K4q (ninS ne_a2_t nin0)
  have O := O.keep K4q (allS g_t all0)
  have KK := KK.trans K4q (allS (Or.inl (List.mem_of_getElem? (i := 0) rfl)) all0)
  show Go _ _ _ _ _ _ _  T4 (mkF m 18 #[.val (.ref a1), .val (.int (Int32.ofNat n)), .val (.ref a2)] [])
  refine Go.ret0 X4 hlk hx Bd.returns (hb hby (dq dz16 10 18 rfl)) (by decide) (by decide) ?_
  show Q_rmPeq Z _ _ _ _ _ _ _ _ _ _ _ _ _ _ h0 n0 _ T4.heap _
  exact ⟨rfl, N4, KK, Q4⟩
def Q_rmP10 (Z : State) (a1 : Addr) (a2 : Addr) (zc : Int32) (fm : Value) (t : Addr) (kd : ClassId) (u : Addr) (ku : ClassId) (cs : List Int32) (ys : List Int32) (cap : Nat) (h0 : Heap) (n0 : Nat) (v : Option Value) (h : Heap) (L : List Loc) : Prop := v = none ∧ Fr n0 L ∧ Keep h0 h [t] ∧ Arv Z h t kd .byte (Int32.ofNat (2 * cap)) ((own_ub (cs ++ ys)).map Value.int) (.int 0)
theorem rmP10 (l : Launch) (Z : State) (a0 : Array Value) (hw : HWt a0 Z) (ws : List Jvm.Cond) (a1 : Addr) (a2 : Addr) (zc : Int32) (fm : Value) (t : Addr) (kd : ClassId) (u : Addr) (ku : ClassId) (cs : List Int32) (ys : List Int32) (cap : Nat) (h0 : Heap) (n0 : Nat) (O : Old Z n0 h0) (S_COMPACT : Sta Z Z.heap "java/lang/String" "COMPACT_STRINGS" "Z" (.int zc)) (hcs : ¬ zc = 0) (S_SIO : Sta Z Z.heap "jdk/internal/util/Preconditions" "SIOOBE_FORMATTER" "Ljava/util/function/BiFunction;" fm) (ref_fm : fm.isRef = true) (S_ad : Sta Z Z.heap "java/lang/StringUTF16" "$assertionsDisabled" "Z" (.int 1)) (S_hi : Sta Z Z.heap "java/lang/StringUTF16" "HI_BYTE_SHIFT" "I" (.int 0)) (S_lo : Sta Z Z.heap "java/lang/StringUTF16" "LO_BYTE_SHIFT" "I" (.int 8)) (E_a1 : Exa Z h0 a1 "java/lang/StringBuilder") (C_a1 : Fld Z h0 a1 "java/lang/AbstractStringBuilder" "coder" "B" (.int 1)) (V_a1 : Fld Z h0 a1 "java/lang/AbstractStringBuilder" "value" "[B" (.ref t)) (A_t : Arv Z h0 t kd .byte (Int32.ofNat (2 * cap)) ((own_ub cs).map Value.int) (.int 0)) (E_a2 : Exa Z h0 a2 "java/lang/String") (C_a2 : Fld Z h0 a2 "java/lang/String" "coder" "B" (.int 0)) (V_a2 : Fld Z h0 a2 "java/lang/String" "value" "[B" (.ref u)) (A_u : Arv Z h0 u ku .byte (Int32.ofNat ys.length) ((ys.map own_lo).map Value.int) (.int 0)) (hcy : cs.length + ys.length ≤ cap) (hc40 : cap ≤ 64) (ly : own_l1 ys = true) (hry : ∀ j, j < ys.length → nar .char (ys.getD j 0) = ys.getD j 0) (g_t : n0 ≤ t) (ne_u_t : u ≠ t) :
    Met l mY4 (Jvm.Cond.code mY4 jdk_68_method_73_code 3 none :: ws) rz6_0_0_91 #[(.ref a1), (.int (Int32.ofNat cs.length)), (.ref a2)] Z h0 (Q_rmP10 Z a1 a2 zc fm t kd u ku cs ys cap h0 n0) := by
  refine MetFree.of_bodySF (plainFor_of_name pn_16) hisR ?_
  intro p e s m args below meth c s₁ Bd hml0 hP hK
  obtain ⟨rfl, hZ, hh⟩ := hP
  have hx := Bd.exec
  have hby := Bd.bytes
  have hml : c.maxLocals = 3 := hml0
  have hown : s.vm.findClass "java/lang/AbstractStringBuilder" = some m.cls := findClass_of_methodNamed Bd.named
  have hlk : meth.locks = false := BodyLoose.notSynchronized Bd
  have X0 : Stand p l e rz6_0_0_91 s m #[(.ref a1), (.int (Int32.ofNat cs.length)), (.ref a2)] below meth c s₁ [] 0 0 := Stand.of_body Bd
  have e0 : s₁.heap = h0 := by rw [← hh, Bd.state]; rfl
  have N0 := Fr.nil n0
  have KK : Keep h0 h0 [t] := Keep.refl h0 _
  show Go p e below s rz6_0_0_91.cells rz6_0_0_91.slots (Q_rmP10 Z a1 a2 zc fm t kd u ku cs ys cap h0 n0) s₁ (entryFrame m #[(.ref a1), (.int (Int32.ofNat cs.length)), (.ref a2)] 3)
  refine Go.eq (ef_rmP10 m a1 (Int32.ofNat cs.length) a2) ?_
  show Go _ _ _ _ _ _ _  s₁ (mkF m 0 #[.val (.ref a1), .val (.int (Int32.ofNat cs.length)), .val (.ref a2)] [])
  refine Go.st (fun _ => XS.aloadN X0.here hx rfl (hb hby (dq dz16 0 0 rfl)) rfl rfl) ?_
  refine Go.st (fun _ => XS.aloadN X0.here hx rfl (hb hby (dq dz16 1 1 rfl)) rfl rfl) ?_
  show Go _ _ _ _ _ _ _  s₁ (mkF m 2 #[.val (.ref a1), .val (.int (Int32.ofNat cs.length)), .val (.ref a2)] [(.ref a2), (.ref a1)])
  obtain ⟨cq1, q1, q1'⟩ := Exa.cell E_a1
  refine Go.pure (w := none) (rest := []) (pc' := 5) (X0.privateBack hx (y := mY3) hown (mvT hZ (hwi hw 94 rfl)) (mvT hZ (hwi hw 95 rfl)) (own_selfsel2 (mvT hZ (hwi hw 97 rfl)) (mvP hZ (hwi hw 96 rfl)) (mvT hZ (hwi hw 95 rfl)) (by decide)) (Cond.privateMethod_at (mvP hZ (hwi hw 96 rfl) (args := #[]))) (mvT hZ (hwi hw 98 rfl)) (by decide) (backOf (W := 0) (rmIf1 l Z a0 hw [] a1 a2 zc h0 n0 O S_COMPACT hcs E_a1 C_a1 E_a2 C_a2) hZ (hwi hw 98 rfl) (hwi hw 53 rfl) (by decide) (by decide)) (g := (mkF m 2 #[.val (.ref a1), .val (.int (Int32.ofNat cs.length)), .val (.ref a2)] [(.ref a2), (.ref a1)])) rfl (by rw [hml]; rfl) (Steps.refl _) (a := a1) (by rw [e0]; exact q1) q1' (argsL := [(.ref a2)]) (rest := []) (lenOf pd__Ljava_lang_String__V rfl) rfl (by show 2 * 0 + _ ≤ _; exact Nat.le_of_eq rfl) (hb hby (dq dz16 2 2 rfl)) (fun _ _ => ⟨rfl, e0, (by decide : 0 + 0 ≤ _), (by decide : 0 + 0 ≤ _)⟩)) (fun _ _ _ q => q) N0 (fun T1 L1 X1 e1q N1 => ?_)
  show Go _ _ _ _ _ _ _  T1 (mkF m 5 #[.val (.ref a1), .val (.int (Int32.ofNat cs.length)), .val (.ref a2)] [])
  refine Go.st (fun _ => XS.aloadN X1.here hx rfl (hb hby (dq dz16 3 5 rfl)) rfl rfl) ?_
  refine Go.st (fun _ => XS.aloadN X1.here hx rfl (hb hby (dq dz16 4 6 rfl)) rfl rfl) ?_
  show Go _ _ _ _ _ _ _  T1 (mkF m 7 #[.val (.ref a1), .val (.int (Int32.ofNat cs.length)), .val (.ref a2)] [(.ref a1), (.ref a2)])
  obtain ⟨T2, X2, e2, st2⟩ := getF X1 hx hZ hown (host := "") (Or.inl (hwi hw 57 rfl)) Via.refl e1q V_a1 (g := (mkF m 7 #[.val (.ref a1), .val (.int (Int32.ofNat cs.length)), .val (.ref a2)] [(.ref a1), (.ref a2)])) rfl rfl (hb hby (dq dz16 5 7 rfl))
  refine Go.st st2 ?_
  show Go _ _ _ _ _ _ _  T2 (mkF m 10 #[.val (.ref a1), .val (.int (Int32.ofNat cs.length)), .val (.ref a2)] [(.ref t), (.ref a2)])
  refine Go.st (fun _ => XS.iloadN X2.here hx rfl (hb hby (dq dz16 6 10 rfl)) rfl) ?_
  refine Go.st (fun _ => XS.aloadN X2.here hx rfl (hb hby (dq dz16 7 11 rfl)) rfl rfl) ?_
  show Go _ _ _ _ _ _ _  T2 (mkF m 12 #[.val (.ref a1), .val (.int (Int32.ofNat cs.length)), .val (.ref a2)] [(.ref a1), (.int (Int32.ofNat cs.length)), (.ref t), (.ref a2)])
  obtain ⟨T3, X3, e3, st3⟩ := getF X2 hx hZ hown (host := "") (Or.inl (hwi hw 59 rfl)) Via.refl e2 C_a1 (g := (mkF m 12 #[.val (.ref a1), .val (.int (Int32.ofNat cs.length)), .val (.ref a2)] [(.ref a1), (.int (Int32.ofNat cs.length)), (.ref t), (.ref a2)])) rfl rfl (hb hby (dq dz16 8 12 rfl))
  refine Go.st st3 ?_
  show Go _ _ _ _ _ _ _  T3 (mkF m 15 #[.val (.ref a1), .val (.int (Int32.ofNat cs.length)), .val (.ref a2)] [(.int (1 : Int32)), (.int (Int32.ofNat cs.length)), (.ref t), (.ref a2)])
  obtain ⟨cq4, kq4, q4a, q4b, q4c⟩ := isOf hZ e3 E_a2
  obtain ⟨_, _, ⟨T4, L4, k4, n4⟩, -, X4, ⟨Lc4, hQ4, l4, y4, z4⟩, st4⟩ := X3.virtualBack hx (y := mY2) (z := mY2) hown (mvT hZ (hwi hw 100 rfl)) (mvT hZ (hwi hw 101 rfl)) (notFace_of_selects (args := #[]) (mvT hZ (hwi hw 103 rfl))) (mvT hZ (hwi hw 103 rfl)) (mvT hZ (hwi hw 102 rfl)) (by decide) (backOf (W := 0) (rmGBi l Z a0 hw [] a2 t zc fm u ku kd cs ys cap h0 n0 O S_COMPACT hcs S_SIO ref_fm S_ad S_hi S_lo E_a2 C_a2 V_a2 A_u A_t hcy hc40 ly hry g_t ne_u_t) hZ (hwi hw 104 rfl) (hwi hw 6 rfl) (by decide) (by decide)) q4a q4c (g := (mkF m 15 #[.val (.ref a1), .val (.int (Int32.ofNat cs.length)), .val (.ref a2)] [(.int (1 : Int32)), (.int (Int32.ofNat cs.length)), (.ref t), (.ref a2)])) rfl (by rw [hml]; rfl) (Steps.refl _) (argsL := [(.ref t), (.int (Int32.ofNat cs.length)), (.int (1 : Int32))]) (rest := []) (lenOf pd___BIB_V rfl) rfl (by show 2 * 0 + _ ≤ _; exact Nat.le_of_eq rfl) (hb hby (dq dz16 9 15 rfl)) (fun _ _ => ⟨rfl, e3, (by decide : 0 + 0 ≤ _), (by decide : 0 + 0 ≤ _)⟩)
  dsimp only [Pt.U, Pt.locs, Pt.cells, Pt.slots] at X4 l4 y4 z4 st4 hQ4
  rw [l4, y4, z4] at X4
  have X4 : Stand p l e _ _ m _ below meth c T4 _ 0 0 := X4
  obtain ⟨rfl, N4q, K4q, Q4⟩ := hQ4
  have N4 := Fr.app N1 N4q
  refine Go.tr st4 ?_
  have ne_a1_t : a1 ≠ t := (Exa.neArv E_a1 A_t (hwi hw 44 rfl))
  have ne_a2_t : a2 ≠ t := (Exa.neArv E_a2 A_t (hwi hw 5 rfl))
  have E_a1 := E_a1.keep K4q
  have E_a2 := E_a2.keep K4q
  have A_u := A_u.keep K4q (ninS ne_u_t nin0)
  have C_a1 := C_a1.keep K4q (ninS ne_a1_t nin0)
  have V_a1 := V_a1.keep K4q (ninS ne_a1_t nin0)
  have C_a2 := C_a2.keep K4q (ninS ne_a2_t nin0)
  have V_a2 := V_a2.keep K4q (ninS ne_a2_t nin0)
  have O := O.keep K4q (allS g_t all0)
  have KK := KK.trans K4q (allS (Or.inl (List.mem_of_getElem? (i := 0) rfl)) all0)
  show Go _ _ _ _ _ _ _  T4 (mkF m 18 #[.val (.ref a1), .val (.int (Int32.ofNat cs.length)), .val (.ref a2)] [])
  refine Go.ret0 X4 hlk hx Bd.returns (hb hby (dq dz16 10 18 rfl)) (by decide) (by decide) ?_
  show Q_rmP10 Z _ _ _ _ _ _ _ _ _ _ _ h0 n0 _ T4.heap _
  exact ⟨rfl, N4, KK, Q4⟩
def Q_rmP01 (Z : State) (a1 : Addr) (a2 : Addr) (zc : Int32) (fm : Value) (t : Addr) (kd : ClassId) (u : Addr) (ku : ClassId) (cs : List Int32) (ys : List Int32) (cap : Nat) (h0 : Heap) (n0 : Nat) (v : Option Value) (h : Heap) (L : List Loc) : Prop := v = none ∧ Fr n0 L ∧ Keep h0 h [a1] ∧ Exa Z h a1 "java/lang/StringBuilder" ∧ Fld Z h a1 "java/lang/AbstractStringBuilder" "coder" "B" (.int 1) ∧ Fld Z h a1 "java/lang/AbstractStringBuilder" "count" "I" (.int (Int32.ofNat cs.length)) ∧ Fld Z h a1 "java/lang/AbstractStringBuilder" "maybeLatin1" "Z" (.int 0) ∧ ∃ (b : Addr) (kb : ClassId), h0.size ≤ b ∧ Fld Z h a1 "java/lang/AbstractStringBuilder" "value" "[B" (.ref b) ∧ Arv Z h b kb .byte (Int32.ofNat (2 * cap)) ((own_ub (cs ++ ys)).map Value.int) (.int 0) ∧ Exa Z h b "[B"
theorem rmP01 (l : Launch) (Z : State) (a0 : Array Value) (hw : HWt a0 Z) (ws : List Jvm.Cond) (a1 : Addr) (a2 : Addr) (zc : Int32) (fm : Value) (t : Addr) (kd : ClassId) (u : Addr) (ku : ClassId) (cs : List Int32) (ys : List Int32) (cap : Nat) (h0 : Heap) (n0 : Nat) (O : Old Z n0 h0) (S_COMPACT : Sta Z Z.heap "java/lang/String" "COMPACT_STRINGS" "Z" (.int zc)) (hcs : ¬ zc = 0) (S_SIO : Sta Z Z.heap "jdk/internal/util/Preconditions" "SIOOBE_FORMATTER" "Ljava/util/function/BiFunction;" fm) (ref_fm : fm.isRef = true) (S_ad : Sta Z Z.heap "java/lang/StringUTF16" "$assertionsDisabled" "Z" (.int 1)) (S_hi : Sta Z Z.heap "java/lang/StringUTF16" "HI_BYTE_SHIFT" "I" (.int 0)) (S_lo : Sta Z Z.heap "java/lang/StringUTF16" "LO_BYTE_SHIFT" "I" (.int 8)) (E_a1 : Exa Z h0 a1 "java/lang/StringBuilder") (C_a1 : Fld Z h0 a1 "java/lang/AbstractStringBuilder" "coder" "B" (.int 0)) (V_a1 : Fld Z h0 a1 "java/lang/AbstractStringBuilder" "value" "[B" (.ref t)) (N_a1 : Fld Z h0 a1 "java/lang/AbstractStringBuilder" "count" "I" (.int (Int32.ofNat cs.length))) (M_a1 : Fld Z h0 a1 "java/lang/AbstractStringBuilder" "maybeLatin1" "Z" (.int 0)) (A_t : Arv Z h0 t kd .byte (Int32.ofNat cap) ((cs.map own_lo).map Value.int) (.int 0)) (K_a1 : cs.length ≤ cap) (D_a1 : cap ≤ 64) (g_a1 : n0 ≤ a1) (g_t : n0 ≤ t) (lc : own_l1 cs = true) (hrc : ∀ j, j < cs.length → nar .char (cs.getD j 0) = cs.getD j 0) (E_a2 : Exa Z h0 a2 "java/lang/String") (C_a2 : Fld Z h0 a2 "java/lang/String" "coder" "B" (.int 1)) (V_a2 : Fld Z h0 a2 "java/lang/String" "value" "[B" (.ref u)) (A_u : Arv Z h0 u ku .byte (Int32.ofNat (2 * ys.length)) ((own_ub ys).map Value.int) (.int 0)) (hcy : cs.length + ys.length ≤ cap) :
    Met l mY4 (Jvm.Cond.code mY4 jdk_68_method_73_code 3 none :: ws) rz7_1_128_105 #[(.ref a1), (.int (Int32.ofNat cs.length)), (.ref a2)] Z h0 (Q_rmP01 Z a1 a2 zc fm t kd u ku cs ys cap h0 n0) := by
  refine MetFree.of_bodySF (plainFor_of_name pn_16) hisR ?_
  intro p e s m args below meth c s₁ Bd hml0 hP hK
  obtain ⟨rfl, hZ, hh⟩ := hP
  have hx := Bd.exec
  have hby := Bd.bytes
  have hml : c.maxLocals = 3 := hml0
  have hown : s.vm.findClass "java/lang/AbstractStringBuilder" = some m.cls := findClass_of_methodNamed Bd.named
  have hlk : meth.locks = false := BodyLoose.notSynchronized Bd
  have X0 : Stand p l e rz7_1_128_105 s m #[(.ref a1), (.int (Int32.ofNat cs.length)), (.ref a2)] below meth c s₁ [] 0 0 := Stand.of_body Bd
  have e0 : s₁.heap = h0 := by rw [← hh, Bd.state]; rfl
  have N0 := Fr.nil n0
  have KK : Keep h0 h0 [a1] := Keep.refl h0 _
  show Go p e below s rz7_1_128_105.cells rz7_1_128_105.slots (Q_rmP01 Z a1 a2 zc fm t kd u ku cs ys cap h0 n0) s₁ (entryFrame m #[(.ref a1), (.int (Int32.ofNat cs.length)), (.ref a2)] 3)
  refine Go.eq (ef_rmP01 m a1 (Int32.ofNat cs.length) a2) ?_
  show Go _ _ _ _ _ _ _  s₁ (mkF m 0 #[.val (.ref a1), .val (.int (Int32.ofNat cs.length)), .val (.ref a2)] [])
  refine Go.st (fun _ => XS.aloadN X0.here hx rfl (hb hby (dq dz16 0 0 rfl)) rfl rfl) ?_
  refine Go.st (fun _ => XS.aloadN X0.here hx rfl (hb hby (dq dz16 1 1 rfl)) rfl rfl) ?_
  show Go _ _ _ _ _ _ _  s₁ (mkF m 2 #[.val (.ref a1), .val (.int (Int32.ofNat cs.length)), .val (.ref a2)] [(.ref a2), (.ref a1)])
  obtain ⟨cq1, q1, q1'⟩ := Exa.cell E_a1
  obtain ⟨_, _, ⟨T1, L1, k1, n1⟩, -, X1, ⟨Lc1, hQ1, l1, y1, z1⟩, st1⟩ := X0.privateBack hx (y := mY3) hown (mvT hZ (hwi hw 94 rfl)) (mvT hZ (hwi hw 95 rfl)) (own_selfsel2 (mvT hZ (hwi hw 97 rfl)) (mvP hZ (hwi hw 96 rfl)) (mvT hZ (hwi hw 95 rfl)) (by decide)) (Cond.privateMethod_at (mvP hZ (hwi hw 96 rfl) (args := #[]))) (mvT hZ (hwi hw 98 rfl)) (by decide) (backOf (W := 0) (rmIf2 l Z a0 hw [] a1 a2 zc fm t kd cs cap h0 n0 O S_COMPACT hcs S_SIO ref_fm S_ad S_hi S_lo E_a1 C_a1 V_a1 N_a1 M_a1 A_t K_a1 D_a1 g_a1 g_t lc hrc E_a2 C_a2) hZ (hwi hw 98 rfl) (hwi hw 53 rfl) (by decide) (by decide)) (g := (mkF m 2 #[.val (.ref a1), .val (.int (Int32.ofNat cs.length)), .val (.ref a2)] [(.ref a2), (.ref a1)])) rfl (by rw [hml]; rfl) (Steps.refl _) (a := a1) (by rw [e0]; exact q1) q1' (argsL := [(.ref a2)]) (rest := []) (lenOf pd__Ljava_lang_String__V rfl) rfl (by show 2 * 0 + _ ≤ _; exact Nat.le_of_eq rfl) (hb hby (dq dz16 2 2 rfl)) (fun _ _ => ⟨rfl, e0, (by decide : 0 + 1 ≤ _), (by decide : 0 + 128 ≤ _)⟩)
  dsimp only [Pt.U, Pt.locs, Pt.cells, Pt.slots] at X1 l1 y1 z1 st1 hQ1
  rw [l1, y1, z1] at X1
  have X1 : Stand p l e _ _ m _ below meth c T1 _ 1 128 := X1
  obtain ⟨rfl, N1q, K1q, Eq1, Cq1, Nq1, Mq1, t1, kt1, lt1, Vq1, Aq1, Xq1⟩ := hQ1
  have N1 := Fr.app N0 N1q
  refine Go.tr st1 ?_
  have g_t1 : n0 ≤ t1 := Nat.le_trans (own_le O) lt1
  have sz_t1 : h0.size ≤ t1 := Nat.le_trans KK.1 lt1
  have ne_a1_t1 : a1 ≠ t1 := Nat.ne_of_lt (Nat.lt_of_lt_of_le E_a1.lt lt1)
  have ne_t_t1 : t ≠ t1 := Nat.ne_of_lt (Nat.lt_of_lt_of_le A_t.lt lt1)
  have ne_a2_t1 : a2 ≠ t1 := Nat.ne_of_lt (Nat.lt_of_lt_of_le E_a2.lt lt1)
  have ne_u_t1 : u ≠ t1 := Nat.ne_of_lt (Nat.lt_of_lt_of_le A_u.lt lt1)
  have ne_t_a1 : t ≠ a1 := (Ne.symm (Exa.neArv E_a1 A_t (hwi hw 44 rfl)))
  have ne_u_a1 : u ≠ a1 := (Ne.symm (Exa.neArv E_a1 A_u (hwi hw 44 rfl)))
  have ne_a2_a1 : a2 ≠ a1 := (ne_exa E_a2 E_a1 (by decide))
  have E_a1 := E_a1.keep K1q
  have A_t := A_t.keep K1q (ninS ne_t_a1 nin0)
  have E_a2 := E_a2.keep K1q
  have A_u := A_u.keep K1q (ninS ne_u_a1 nin0)
  have C_a2 := C_a2.keep K1q (ninS ne_a2_a1 nin0)
  have V_a2 := V_a2.keep K1q (ninS ne_a2_a1 nin0)
  have O := O.keep K1q (allS g_a1 all0)
  have KK := KK.trans K1q (allS (Or.inl (List.mem_of_getElem? (i := 0) rfl)) all0)
  have E_a1 := Eq1
  have C_a1 := Cq1
  have N_a1 := Nq1
  have M_a1 := Mq1
  have V_a1 := Vq1
  show Go _ _ _ _ _ _ _  T1 (mkF m 5 #[.val (.ref a1), .val (.int (Int32.ofNat cs.length)), .val (.ref a2)] [])
  refine Go.st (fun _ => XS.aloadN X1.here hx rfl (hb hby (dq dz16 3 5 rfl)) rfl rfl) ?_
  refine Go.st (fun _ => XS.aloadN X1.here hx rfl (hb hby (dq dz16 4 6 rfl)) rfl rfl) ?_
  show Go _ _ _ _ _ _ _  T1 (mkF m 7 #[.val (.ref a1), .val (.int (Int32.ofNat cs.length)), .val (.ref a2)] [(.ref a1), (.ref a2)])
  obtain ⟨T2, X2, e2, st2⟩ := getF X1 hx hZ hown (host := "") (Or.inl (hwi hw 57 rfl)) Via.refl rfl V_a1 (g := (mkF m 7 #[.val (.ref a1), .val (.int (Int32.ofNat cs.length)), .val (.ref a2)] [(.ref a1), (.ref a2)])) rfl rfl (hb hby (dq dz16 5 7 rfl))
  refine Go.st st2 ?_
  show Go _ _ _ _ _ _ _  T2 (mkF m 10 #[.val (.ref a1), .val (.int (Int32.ofNat cs.length)), .val (.ref a2)] [(.ref t1), (.ref a2)])
  refine Go.st (fun _ => XS.iloadN X2.here hx rfl (hb hby (dq dz16 6 10 rfl)) rfl) ?_
  refine Go.st (fun _ => XS.aloadN X2.here hx rfl (hb hby (dq dz16 7 11 rfl)) rfl rfl) ?_
  show Go _ _ _ _ _ _ _  T2 (mkF m 12 #[.val (.ref a1), .val (.int (Int32.ofNat cs.length)), .val (.ref a2)] [(.ref a1), (.int (Int32.ofNat cs.length)), (.ref t1), (.ref a2)])
  obtain ⟨T3, X3, e3, st3⟩ := getF X2 hx hZ hown (host := "") (Or.inl (hwi hw 59 rfl)) Via.refl e2 C_a1 (g := (mkF m 12 #[.val (.ref a1), .val (.int (Int32.ofNat cs.length)), .val (.ref a2)] [(.ref a1), (.int (Int32.ofNat cs.length)), (.ref t1), (.ref a2)])) rfl rfl (hb hby (dq dz16 8 12 rfl))
  refine Go.st st3 ?_
  show Go _ _ _ _ _ _ _  T3 (mkF m 15 #[.val (.ref a1), .val (.int (Int32.ofNat cs.length)), .val (.ref a2)] [(.int (1 : Int32)), (.int (Int32.ofNat cs.length)), (.ref t1), (.ref a2)])
  obtain ⟨cq4, kq4, q4a, q4b, q4c⟩ := isOf hZ e3 E_a2
  obtain ⟨_, _, ⟨T4, L4, k4, n4⟩, -, X4, ⟨Lc4, hQ4, l4, y4, z4⟩, st4⟩ := X3.virtualBack hx (y := mY2) (z := mY2) hown (mvT hZ (hwi hw 100 rfl)) (mvT hZ (hwi hw 101 rfl)) (notFace_of_selects (args := #[]) (mvT hZ (hwi hw 103 rfl))) (mvT hZ (hwi hw 103 rfl)) (mvT hZ (hwi hw 102 rfl)) (by decide) (backOf (W := 0) (rmGBg l Z a0 hw [] a2 t1 (1 : Int32) zc u ku (2 * ys.length) ((own_ub ys).map Value.int) kt1 cs.length (2 * cs.length) (2 * cap) ((own_ub cs).map Value.int) T1.heap n0 O S_COMPACT hcs E_a2 C_a2 V_a2 A_u (by rw [List.length_map, own_ubl]) (by omega) (by decide) (own_shl1 (by omega)) Aq1 (by rw [List.length_map, own_ubl]) (by omega) (by omega) g_t1 ne_u_t1) hZ (hwi hw 104 rfl) (hwi hw 6 rfl) (by decide) (by decide)) q4a q4c (g := (mkF m 15 #[.val (.ref a1), .val (.int (Int32.ofNat cs.length)), .val (.ref a2)] [(.int (1 : Int32)), (.int (Int32.ofNat cs.length)), (.ref t1), (.ref a2)])) rfl (by rw [hml]; rfl) (Steps.refl _) (argsL := [(.ref t1), (.int (Int32.ofNat cs.length)), (.int (1 : Int32))]) (rest := []) (lenOf pd___BIB_V rfl) rfl (by show 2 * 0 + _ ≤ _; exact Nat.le_of_eq rfl) (hb hby (dq dz16 9 15 rfl)) (fun _ _ => ⟨rfl, e3, (by decide : 1 + 0 ≤ _), (by decide : 128 + 0 ≤ _)⟩)
  dsimp only [Pt.U, Pt.locs, Pt.cells, Pt.slots] at X4 l4 y4 z4 st4 hQ4
  rw [l4, y4, z4] at X4
  have X4 : Stand p l e _ _ m _ below meth c T4 _ 1 128 := X4
  obtain ⟨rfl, N4q, K4q, Q4⟩ := hQ4
  have N4 := Fr.app N1 N4q
  refine Go.tr st4 ?_
  have E_a1 := E_a1.keep K4q
  have A_t := A_t.keep K4q (ninS ne_t_t1 nin0)
  have E_a2 := E_a2.keep K4q
  have A_u := A_u.keep K4q (ninS ne_u_t1 nin0)
  have C_a2 := C_a2.keep K4q (ninS ne_a2_t1 nin0)
  have V_a2 := V_a2.keep K4q (ninS ne_a2_t1 nin0)
  have C_a1 := C_a1.keep K4q (ninS ne_a1_t1 nin0)
  have V_a1 := V_a1.keep K4q (ninS ne_a1_t1 nin0)
  have N_a1 := N_a1.keep K4q (ninS ne_a1_t1 nin0)
  have M_a1 := M_a1.keep K4q (ninS ne_a1_t1 nin0)
  have Xq1 := Xq1.keep K4q
  have O := O.keep K4q (allS g_t1 all0)
  have KK := KK.trans K4q (allS (Or.inr sz_t1) all0)
  rw [← List.map_append, ← own_uba] at Q4
  show Go _ _ _ _ _ _ _  T4 (mkF m 18 #[.val (.ref a1), .val (.int (Int32.ofNat cs.length)), .val (.ref a2)] [])
  refine Go.ret0 X4 hlk hx Bd.returns (hb hby (dq dz16 10 18 rfl)) (by decide) (by decide) ?_
  show Q_rmP01 Z _ _ _ _ _ _ _ _ _ _ _ h0 n0 _ T4.heap _
  exact ⟨rfl, N4, KK, E_a1, C_a1, N_a1, M_a1, t1, kt1, sz_t1, V_a1, Q4, Xq1⟩
def Q_rmPw (Z : State) (a1 : Addr) (a2 : Addr) (zc : Int32) (fm : Value) (t : Addr) (kd : ClassId) (u : Addr) (ku : ClassId) (cs : List Int32) (ys : List Int32) (cap : Nat) (m0 : Nat) (h0 : Heap) (n0 : Nat) (v : Option Value) (h : Heap) (L : List Loc) : Prop := v = none ∧ Fr n0 L ∧ Keep h0 h [a1, t] ∧ ∃ (b : Addr) (kb : ClassId), (b = t ∨ h0.size ≤ b) ∧ n0 ≤ b ∧ m0 ≤ b ∧ Exa Z h a1 "java/lang/StringBuilder" ∧ Fld Z h a1 "java/lang/AbstractStringBuilder" "coder" "B" (.int (own_cd (cs ++ ys))) ∧ Fld Z h a1 "java/lang/AbstractStringBuilder" "value" "[B" (.ref b) ∧ Fld Z h a1 "java/lang/AbstractStringBuilder" "count" "I" (.int (Int32.ofNat cs.length)) ∧ Fld Z h a1 "java/lang/AbstractStringBuilder" "maybeLatin1" "Z" (.int 0) ∧ Arv Z h b kb .byte (Int32.ofNat (own_cl (cs ++ ys) cap)) ((own_by (cs ++ ys)).map Value.int) (.int 0) ∧ (Exa Z h b "[B" ∨ 30 < cap)
theorem rmPw (l : Launch) (Z : State) (a0 : Array Value) (hw : HWt a0 Z) (ws : List Jvm.Cond) (a1 : Addr) (a2 : Addr) (zc : Int32) (fm : Value) (t : Addr) (kd : ClassId) (u : Addr) (ku : ClassId) (cs : List Int32) (ys : List Int32) (cap : Nat) (m0 : Nat) (h0 : Heap) (n0 : Nat) (O : Old Z n0 h0) (S_COMPACT : Sta Z Z.heap "java/lang/String" "COMPACT_STRINGS" "Z" (.int zc)) (hcs : ¬ zc = 0) (S_SIO : Sta Z Z.heap "jdk/internal/util/Preconditions" "SIOOBE_FORMATTER" "Ljava/util/function/BiFunction;" fm) (ref_fm : fm.isRef = true) (S_ad : Sta Z Z.heap "java/lang/StringUTF16" "$assertionsDisabled" "Z" (.int 1)) (S_hi : Sta Z Z.heap "java/lang/StringUTF16" "HI_BYTE_SHIFT" "I" (.int 0)) (S_lo : Sta Z Z.heap "java/lang/StringUTF16" "LO_BYTE_SHIFT" "I" (.int 8)) (E_a1 : Exa Z h0 a1 "java/lang/StringBuilder") (C_a1 : Fld Z h0 a1 "java/lang/AbstractStringBuilder" "coder" "B" (.int (own_cd cs))) (V_a1 : Fld Z h0 a1 "java/lang/AbstractStringBuilder" "value" "[B" (.ref t)) (N_a1 : Fld Z h0 a1 "java/lang/AbstractStringBuilder" "count" "I" (.int (Int32.ofNat cs.length))) (M_a1 : Fld Z h0 a1 "java/lang/AbstractStringBuilder" "maybeLatin1" "Z" (.int 0)) (A_t : Arv Z h0 t kd .byte (Int32.ofNat (own_cl cs cap)) ((own_by cs).map Value.int) (.int 0)) (K_a1 : cs.length ≤ cap) (B_a1 : 16 ≤ cap) (D_a1 : cap ≤ 64) (g_a1 : n0 ≤ a1) (g_t : n0 ≤ t) (E_a2 : Exa Z h0 a2 "java/lang/String") (C_a2 : Fld Z h0 a2 "java/lang/String" "coder" "B" (.int (own_cd ys))) (V_a2 : Fld Z h0 a2 "java/lang/String" "value" "[B" (.ref u)) (A_u : Arv Z h0 u ku .byte (Int32.ofNat (own_by ys).length) ((own_by ys).map Value.int) (.int 0)) (hrc : ∀ j, j < cs.length → nar .char (cs.getD j 0) = cs.getD j 0) (hry : ∀ j, j < ys.length → nar .char (ys.getD j 0) = ys.getD j 0) (hcy : cs.length + ys.length ≤ cap) (ne_u_t : u ≠ t) (hm1 : m0 ≤ t) (hm2 : m0 ≤ h0.size) (XX : Exa Z h0 t "[B" ∨ 30 < cap) :
    Met l mY4 (Jvm.Cond.code mY4 jdk_68_method_73_code 3 none :: ws) rz7_1_128_105 #[(.ref a1), (.int (Int32.ofNat cs.length)), (.ref a2)] Z h0 (Q_rmPw Z a1 a2 zc fm t kd u ku cs ys cap m0 h0 n0) := by
  have nat_ : a1 ≠ t := Exa.neArv E_a1 A_t (hwi hw 44 rfl)
  have nt : a1 ∉ [t] := ninS nat_ nin0
  rcases own_cdTF cs with ⟨lc, ec⟩ | ⟨lc, ec⟩
  · rw [ec] at C_a1; rw [own_clT lc, own_byT lc] at A_t
    rcases own_cdTF ys with ⟨ly, ey⟩ | ⟨ly, ey⟩
    · rw [ey] at C_a2; rw [own_byT ly, List.length_map] at A_u
      refine own_wide (rmPeq l Z a0 hw ws a1 a2 zc t kd cap _ u ku ys.length _ cs.length cs.length 0 h0 n0 O S_COMPACT hcs E_a1 C_a1 V_a1 A_t E_a2 C_a2 V_a2 A_u (by rw [List.length_map, List.length_map]) (by omega) (by decide) (own_shl0 _) (by rw [List.length_map, List.length_map]) (by omega) (by omega) g_t ne_u_t) (by decide) (by decide) (by decide) (by decide) (fun v h L q => ?_)
      obtain ⟨q1, q2, q3, q4⟩ := q
      have lb := own_TT lc ly
      exact ⟨q1, q2, own_kt q3, t, kd, Or.inl rfl, g_t, hm1, E_a1.keep q3, (by rw [own_cdT lb]; exact C_a1.keep q3 nt), V_a1.keep q3 nt, N_a1.keep q3 nt, M_a1.keep q3 nt, (by rw [own_clT lb, own_byT lb, List.map_append, List.map_append]; exact q4), XX.imp (fun E => E.keep q3) id⟩
    · rw [ey] at C_a2; rw [own_byF ly, own_ubl] at A_u
      refine own_wide (rmP01 l Z a0 hw ws a1 a2 zc fm t kd u ku cs ys cap h0 n0 O S_COMPACT hcs S_SIO ref_fm S_ad S_hi S_lo E_a1 C_a1 V_a1 N_a1 M_a1 A_t K_a1 D_a1 g_a1 g_t lc hrc E_a2 C_a2 V_a2 A_u hcy) (by decide) (by decide) (by decide) (by decide) (fun v h L q => ?_)
      obtain ⟨q1, q2, q3, q4, q5, q6, q7, b, kb, lb, q8, q9, q10⟩ := q
      have lF := own_Fr (a := cs) ly
      exact ⟨q1, q2, own_kw q3, b, kb, Or.inr lb, Nat.le_trans (own_le O) lb, Nat.le_trans hm2 lb, q4, (by rw [own_cdF lF]; exact q5), q8, q6, q7, (by rw [own_clF lF, own_byF lF]; exact q9), Or.inl q10⟩
  · rw [ec] at C_a1; rw [own_clF lc, own_byF lc] at A_t
    have lF := own_Fl (b := ys) lc
    rcases own_cdTF ys with ⟨ly, ey⟩ | ⟨ly, ey⟩
    · rw [ey] at C_a2; rw [own_byT ly, List.length_map] at A_u
      refine own_wide (rmP10 l Z a0 hw ws a1 a2 zc fm t kd u ku cs ys cap h0 n0 O S_COMPACT hcs S_SIO ref_fm S_ad S_hi S_lo E_a1 C_a1 V_a1 A_t E_a2 C_a2 V_a2 A_u hcy D_a1 ly hry g_t ne_u_t) (by decide) (by decide) (by decide) (by decide) (fun v h L q => ?_)
      obtain ⟨q1, q2, q3, q4⟩ := q
      exact ⟨q1, q2, own_kt q3, t, kd, Or.inl rfl, g_t, hm1, E_a1.keep q3, (by rw [own_cdF lF]; exact C_a1.keep q3 nt), V_a1.keep q3 nt, N_a1.keep q3 nt, M_a1.keep q3 nt, (by rw [own_clF lF, own_byF lF]; exact q4), XX.imp (fun E => E.keep q3) id⟩
    · rw [ey] at C_a2; rw [own_byF ly, own_ubl] at A_u
      refine own_wide (rmPeq l Z a0 hw ws a1 a2 zc t kd (2 * cap) _ u ku (2 * ys.length) _ cs.length (2 * cs.length) 1 h0 n0 O S_COMPACT hcs E_a1 C_a1 V_a1 A_t E_a2 C_a2 V_a2 A_u (by rw [List.length_map, own_ubl]) (by omega) (by decide) (own_shl1 (by omega)) (by rw [List.length_map, own_ubl]) (by omega) (by omega) g_t ne_u_t) (by decide) (by decide) (by decide) (by decide) (fun v h L q => ?_)
      obtain ⟨q1, q2, q3, q4⟩ := q
      exact ⟨q1, q2, own_kt q3, t, kd, Or.inl rfl, g_t, hm1, E_a1.keep q3, (by rw [own_cdF lF]; exact C_a1.keep q3 nt), V_a1.keep q3 nt, N_a1.keep q3 nt, M_a1.keep q3 nt, (by rw [own_clF lF, own_byF lF, own_uba, List.map_append]; exact q4), XX.imp (fun E => E.keep q3) id⟩
def Q_rmAU (Z : State) (a1 : Addr) (a2 : Addr) (zc : Int32) (fm : Value) (t : Addr) (kd : ClassId) (cs : List Int32) (cap : Nat) (u : Addr) (ku : ClassId) (ys : List Int32) (m0 : Nat) (h0 : Heap) (n0 : Nat) (v : Option Value) (h : Heap) (L : List Loc) : Prop := v = some (.ref a1) ∧ Fr n0 L ∧ Keep h0 h [a1, t] ∧ ∃ (b : Addr) (kb : ClassId) (cap2 : Nat), (b = t ∨ h0.size ≤ b) ∧ (cs ++ ys).length ≤ cap2 ∧ n0 ≤ b ∧ m0 ≤ b ∧ Exa Z h a1 "java/lang/StringBuilder" ∧ Fld Z h a1 "java/lang/AbstractStringBuilder" "coder" "B" (.int (own_cd (cs ++ ys))) ∧ Fld Z h a1 "java/lang/AbstractStringBuilder" "value" "[B" (.ref b) ∧ Fld Z h a1 "java/lang/AbstractStringBuilder" "count" "I" (.int (Int32.ofNat (cs ++ ys).length)) ∧ Fld Z h a1 "java/lang/AbstractStringBuilder" "maybeLatin1" "Z" (.int 0) ∧ Arv Z h b kb .byte (Int32.ofNat (own_cl (cs ++ ys) cap2)) ((own_by (cs ++ ys)).map Value.int) (.int 0) ∧ 16 ≤ cap2 ∧ cap2 ≤ 64 ∧ (Exa Z h b "[B" ∨ 30 < cap2)
theorem rmAU (l : Launch) (Z : State) (a0 : Array Value) (hw : HWt a0 Z) (ws : List Jvm.Cond) (a1 : Addr) (a2 : Addr) (zc : Int32) (fm : Value) (t : Addr) (kd : ClassId) (cs : List Int32) (cap : Nat) (u : Addr) (ku : ClassId) (ys : List Int32) (m0 : Nat) (h0 : Heap) (n0 : Nat) (O : Old Z n0 h0) (S_COMPACT : Sta Z Z.heap "java/lang/String" "COMPACT_STRINGS" "Z" (.int zc)) (hcs : ¬ zc = 0) (S_SIO : Sta Z Z.heap "jdk/internal/util/Preconditions" "SIOOBE_FORMATTER" "Ljava/util/function/BiFunction;" fm) (ref_fm : fm.isRef = true) (S_ad : Sta Z Z.heap "java/lang/StringUTF16" "$assertionsDisabled" "Z" (.int 1)) (S_hi : Sta Z Z.heap "java/lang/StringUTF16" "HI_BYTE_SHIFT" "I" (.int 0)) (S_lo : Sta Z Z.heap "java/lang/StringUTF16" "LO_BYTE_SHIFT" "I" (.int 8)) (E_a1 : Exa Z h0 a1 "java/lang/StringBuilder") (C_a1 : Fld Z h0 a1 "java/lang/AbstractStringBuilder" "coder" "B" (.int (own_cd cs))) (V_a1 : Fld Z h0 a1 "java/lang/AbstractStringBuilder" "value" "[B" (.ref t)) (N_a1 : Fld Z h0 a1 "java/lang/AbstractStringBuilder" "count" "I" (.int (Int32.ofNat cs.length))) (M_a1 : Fld Z h0 a1 "java/lang/AbstractStringBuilder" "maybeLatin1" "Z" (.int 0)) (A_t : Arv Z h0 t kd .byte (Int32.ofNat (own_cl cs cap)) ((own_by cs).map Value.int) (.int 0)) (K_a1 : cs.length ≤ cap) (B_a1 : 16 ≤ cap) (D_a1 : cap ≤ 64) (g_a1 : n0 ≤ a1) (g_t : n0 ≤ t) (E_a2 : Exa Z h0 a2 "java/lang/String") (C_a2 : Fld Z h0 a2 "java/lang/String" "coder" "B" (.int (own_cd ys))) (V_a2 : Fld Z h0 a2 "java/lang/String" "value" "[B" (.ref u)) (A_u : Arv Z h0 u ku .byte (Int32.ofNat (own_by ys).length) ((own_by ys).map Value.int) (.int 0)) (hrc : ∀ j, j < cs.length → nar .char (cs.getD j 0) = cs.getD j 0) (hry : ∀ j, j < ys.length → nar .char (ys.getD j 0) = ys.getD j 0) (hl30 : cs.length + ys.length ≤ 30) (ne_u_t : u ≠ t) (g_u : u < h0.size) (hm1 : m0 ≤ t) (hm2 : m0 ≤ h0.size) (XX : Exa Z h0 t "[B" ∨ 30 < cap) :
    Met l mY11 (Jvm.Cond.code mY11 jdk_68_method_22_code 3 (some (.object "java/lang/AbstractStringBuilder")) :: ws) rz8_2_304_120 #[(.ref a1), (.ref a2)] Z h0 (Q_rmAU Z a1 a2 zc fm t kd cs cap u ku ys m0 h0 n0) := by
  refine MetFree.of_bodySF (plainFor_of_name pn_12) hisR ?_
  intro p e s m args below meth c s₁ Bd hml0 hP hK
  obtain ⟨rfl, hZ, hh⟩ := hP
  have hx := Bd.exec
  have hby := Bd.bytes
  have hml : c.maxLocals = 3 := hml0
  have hown : s.vm.findClass "java/lang/AbstractStringBuilder" = some m.cls := findClass_of_methodNamed Bd.named
  have hlk : meth.locks = false := BodyLoose.notSynchronized Bd
  have X0 : Stand p l e rz8_2_304_120 s m #[(.ref a1), (.ref a2)] below meth c s₁ [] 0 0 := Stand.of_body Bd
  have e0 : s₁.heap = h0 := by rw [← hh, Bd.state]; rfl
  have N0 := Fr.nil n0
  have KK : Keep h0 h0 [a1, t] := Keep.refl h0 _
  show Go p e below s rz8_2_304_120.cells rz8_2_304_120.slots (Q_rmAU Z a1 a2 zc fm t kd cs cap u ku ys m0 h0 n0) s₁ (entryFrame m #[(.ref a1), (.ref a2)] 3)
  refine Go.eq (ef_rmAU m a1 a2) ?_
  show Go _ _ _ _ _ _ _  s₁ (mkF m 0 #[.val (.ref a1), .val (.ref a2), .unset] [])
  refine Go.st (fun _ => XS.aloadN X0.here hx rfl (hb hby (dq dz12 0 0 rfl)) rfl rfl) ?_
  show Go _ _ _ _ _ _ _  s₁ (mkF m 1 #[.val (.ref a1), .val (.ref a2), .unset] [(.ref a2)])
  refine Go.st (fun _ => XS.ifnonnullYes X0.here hx rfl (pc0 := 1) (pc' := 9) rfl (hb hby (dq dz12 1 1 rfl)) rfl (by decide) (by decide)) ?_
  show Go _ _ _ _ _ _ _  s₁ (mkF m 9 #[.val (.ref a1), .val (.ref a2), .unset] [])
  refine Go.st (fun _ => XS.aloadN X0.here hx rfl (hb hby (dq dz12 2 9 rfl)) rfl rfl) ?_
  show Go _ _ _ _ _ _ _  s₁ (mkF m 10 #[.val (.ref a1), .val (.ref a2), .unset] [(.ref a2)])
  obtain ⟨cq1, kq1, q1a, q1b, q1c⟩ := isOf hZ e0 E_a2
  refine Go.pure (w := (some (.int (Int32.ofNat ys.length)))) (rest := []) (pc' := 13) (X0.virtualBack hx (y := mY1) (z := mY1) hown (mvT hZ (hwi hw 72 rfl)) (mvT hZ (hwi hw 73 rfl)) (notFace_of_selects (args := #[]) (mvT hZ (hwi hw 75 rfl))) (mvT hZ (hwi hw 75 rfl)) (mvT hZ (hwi hw 74 rfl)) (by decide) (backOf (W := 0) (rmLenU l Z a0 hw [] a2 zc u ku ys h0 n0 O S_COMPACT hcs E_a2 C_a2 V_a2 A_u (by omega)) hZ (hwi hw 76 rfl) (hwi hw 6 rfl) (by decide) (by decide)) q1a q1c (g := (mkF m 10 #[.val (.ref a1), .val (.ref a2), .unset] [(.ref a2)])) rfl (by rw [hml]; rfl) (Steps.refl _) (argsL := []) (rest := []) (lenOf pd___I rfl) rfl (by show 2 * 0 + _ ≤ _; exact Nat.le_of_eq rfl) (hb hby (dq dz12 3 10 rfl)) (fun _ _ => ⟨rfl, e0, (by decide : 0 + 0 ≤ _), (by decide : 0 + 0 ≤ _)⟩)) (fun _ _ _ q => q) N0 (fun T1 L1 X1 e1q N1 => ?_)
  show Go _ _ _ _ _ _ _  T1 (mkF m 13 #[.val (.ref a1), .val (.ref a2), .unset] [(.int (Int32.ofNat ys.length))])
  refine Go.st (fun _ => XS.istoreN X1.here hx rfl (hb hby (dq dz12 4 13 rfl)) rfl (l' := #[.val (.ref a1), .val (.ref a2), .val (.int (Int32.ofNat ys.length))]) rfl) ?_
  refine Go.st (fun _ => XS.aloadN X1.here hx rfl (hb hby (dq dz12 5 14 rfl)) rfl rfl) ?_
  refine Go.st (fun _ => XS.aloadN X1.here hx rfl (hb hby (dq dz12 6 15 rfl)) rfl rfl) ?_
  show Go _ _ _ _ _ _ _  T1 (mkF m 16 #[.val (.ref a1), .val (.ref a2), .val (.int (Int32.ofNat ys.length))] [(.ref a1), (.ref a1)])
  obtain ⟨T2, X2, e2, st2⟩ := getF X1 hx hZ hown (host := "") (Or.inl (hwi hw 82 rfl)) Via.refl e1q N_a1 (g := (mkF m 16 #[.val (.ref a1), .val (.ref a2), .val (.int (Int32.ofNat ys.length))] [(.ref a1), (.ref a1)])) rfl rfl (hb hby (dq dz12 7 16 rfl))
  refine Go.st st2 ?_
  show Go _ _ _ _ _ _ _  T2 (mkF m 19 #[.val (.ref a1), .val (.ref a2), .val (.int (Int32.ofNat ys.length))] [(.int (Int32.ofNat cs.length)), (.ref a1)])
  refine Go.st (fun _ => XS.iloadN X2.here hx rfl (hb hby (dq dz12 8 19 rfl)) rfl) ?_
  refine Go.st (fun _ => XS.iadd X2.here hx rfl (hb hby (dq dz12 9 20 rfl)) rfl) ?_
  show Go _ _ _ _ _ _ _  T2 (mkF m 21 #[.val (.ref a1), .val (.ref a2), .val (.int (Int32.ofNat ys.length))] [(.int ((Int32.ofNat cs.length) + (Int32.ofNat ys.length))), (.ref a1)])
  rw [own_oadd]
  show Go _ _ _ _ _ _ _  T2 (mkF m 21 #[.val (.ref a1), .val (.ref a2), .val (.int (Int32.ofNat ys.length))] [(.int (Int32.ofNat (cs.length + ys.length))), (.ref a1)])
  obtain ⟨cq3, q3, q3'⟩ := Exa.cell E_a1
  obtain ⟨_, _, ⟨T3, L3, k3, n3⟩, -, X3, ⟨Lc3, hQ3, l3, y3, z3⟩, st3⟩ := X2.privateBack hx (y := mY10) hown (mvT hZ (hwi hw 84 rfl)) (mvT hZ (hwi hw 85 rfl)) (own_selfsel2 (mvT hZ (hwi hw 87 rfl)) (mvP hZ (hwi hw 86 rfl)) (mvT hZ (hwi hw 85 rfl)) (by decide)) (Cond.privateMethod_at (mvP hZ (hwi hw 86 rfl) (args := #[]))) (mvT hZ (hwi hw 88 rfl)) (by decide) (backOf (W := 0) (rmEw l Z a0 hw [] a1 (cs.length + ys.length) t kd cs cap m0 h0 n0 O E_a1 C_a1 V_a1 N_a1 M_a1 A_t K_a1 B_a1 D_a1 g_a1 g_t hm1 hm2 XX hl30) hZ (hwi hw 88 rfl) (hwi hw 53 rfl) (by decide) (by decide)) (g := (mkF m 21 #[.val (.ref a1), .val (.ref a2), .val (.int (Int32.ofNat ys.length))] [(.int (Int32.ofNat (cs.length + ys.length))), (.ref a1)])) rfl (by rw [hml]; rfl) (Steps.refl _) (a := a1) (by rw [e2]; exact q3) q3' (argsL := [(.int (Int32.ofNat (cs.length + ys.length)))]) (rest := []) (lenOf pd__I_V rfl) rfl (by show 2 * 0 + _ ≤ _; exact Nat.le_of_eq rfl) (hb hby (dq dz12 10 21 rfl)) (fun _ _ => ⟨rfl, e2, (by decide : 0 + 1 ≤ _), (by decide : 0 + 176 ≤ _)⟩)
  dsimp only [Pt.U, Pt.locs, Pt.cells, Pt.slots] at X3 l3 y3 z3 st3 hQ3
  rw [l3, y3, z3] at X3
  have X3 : Stand p l e _ _ m _ below meth c T3 _ 1 176 := X3
  obtain ⟨rfl, N3q, K3q, t3, kt3, cp3, kc3, kd3, bt3, gb3, mb3, Eq3, Cq3, Vq3, Nq3, Mq3, Aq3, lo3, hi3, Xq3⟩ := hQ3
  have N3 := Fr.app N1 N3q
  refine Go.tr st3 ?_
  have ne_u_a1 : u ≠ a1 := (Ne.symm (Exa.neArv E_a1 A_u (hwi hw 44 rfl)))
  have ne_a2_a1 : a2 ≠ a1 := (ne_exa E_a2 E_a1 (by decide))
  have ne_a2_t : a2 ≠ t := (Exa.neArv E_a2 A_t (hwi hw 5 rfl))
  have E_a1 := E_a1.keep K3q
  have E_a2 := E_a2.keep K3q
  have A_u := A_u.keep K3q (ninS ne_u_a1 (ninS ne_u_t nin0))
  have C_a2 := C_a2.keep K3q (ninS ne_a2_a1 (ninS ne_a2_t nin0))
  have V_a2 := V_a2.keep K3q (ninS ne_a2_a1 (ninS ne_a2_t nin0))
  have XX := XX.imp (fun q => q.keep K3q) id
  have O := O.keep K3q (allS g_a1 (allS g_t all0))
  have KK := KK.trans K3q (allS (Or.inl (List.mem_of_getElem? (i := 0) rfl)) (allS (Or.inl (List.mem_of_getElem? (i := 1) rfl)) all0))
  have E_a1 := Eq3
  have g_t3 := gb3
  have ne_u_t3 : u ≠ t3 := bt3.elim (fun e => e ▸ ne_u_t) (fun e => Nat.ne_of_lt (Nat.lt_of_lt_of_le g_u e))
  show Go _ _ _ _ _ _ _  T3 (mkF m 24 #[.val (.ref a1), .val (.ref a2), .val (.int (Int32.ofNat ys.length))] [])
  refine Go.st (fun _ => XS.aloadN X3.here hx rfl (hb hby (dq dz12 11 24 rfl)) rfl rfl) ?_
  refine Go.st (fun _ => XS.aloadN X3.here hx rfl (hb hby (dq dz12 12 25 rfl)) rfl rfl) ?_
  show Go _ _ _ _ _ _ _  T3 (mkF m 26 #[.val (.ref a1), .val (.ref a2), .val (.int (Int32.ofNat ys.length))] [(.ref a1), (.ref a1)])
  obtain ⟨T4, X4, e4, st4⟩ := getF X3 hx hZ hown (host := "") (Or.inl (hwi hw 82 rfl)) Via.refl rfl Nq3 (g := (mkF m 26 #[.val (.ref a1), .val (.ref a2), .val (.int (Int32.ofNat ys.length))] [(.ref a1), (.ref a1)])) rfl rfl (hb hby (dq dz12 13 26 rfl))
  refine Go.st st4 ?_
  show Go _ _ _ _ _ _ _  T4 (mkF m 29 #[.val (.ref a1), .val (.ref a2), .val (.int (Int32.ofNat ys.length))] [(.int (Int32.ofNat cs.length)), (.ref a1)])
  refine Go.st (fun _ => XS.aloadN X4.here hx rfl (hb hby (dq dz12 14 29 rfl)) rfl rfl) ?_
  show Go _ _ _ _ _ _ _  T4 (mkF m 30 #[.val (.ref a1), .val (.ref a2), .val (.int (Int32.ofNat ys.length))] [(.ref a2), (.int (Int32.ofNat cs.length)), (.ref a1)])
  have k2_3 := KK.1
  have m2_3 : m0 ≤ T3.heap.size := Nat.le_trans hm2 KK.1
  obtain ⟨cq5, q5, q5'⟩ := Exa.cell E_a1
  obtain ⟨_, _, ⟨T5, L5, k5, n5⟩, -, X5, ⟨Lc5, hQ5, l5, y5, z5⟩, st5⟩ := X4.privateBack hx (y := mY4) hown (mvT hZ (hwi hw 89 rfl)) (mvT hZ (hwi hw 90 rfl)) (own_selfsel2 (mvT hZ (hwi hw 92 rfl)) (mvP hZ (hwi hw 91 rfl)) (mvT hZ (hwi hw 90 rfl)) (by decide)) (Cond.privateMethod_at (mvP hZ (hwi hw 91 rfl) (args := #[]))) (mvT hZ (hwi hw 93 rfl)) (by decide) (backOf (W := 0) (rmPw l Z a0 hw [] a1 a2 zc fm t3 kt3 u ku cs ys cp3 m0 T3.heap n0 O S_COMPACT hcs S_SIO ref_fm S_ad S_hi S_lo E_a1 Cq3 Vq3 Nq3 Mq3 Aq3 kd3 lo3 hi3 g_a1 g_t3 E_a2 C_a2 V_a2 A_u hrc hry kc3 ne_u_t3 mb3 m2_3 Xq3) hZ (hwi hw 93 rfl) (hwi hw 53 rfl) (by decide) (by decide)) (g := (mkF m 30 #[.val (.ref a1), .val (.ref a2), .val (.int (Int32.ofNat ys.length))] [(.ref a2), (.int (Int32.ofNat cs.length)), (.ref a1)])) rfl (by rw [hml]; rfl) (Steps.refl _) (a := a1) (by rw [e4]; exact q5) q5' (argsL := [(.int (Int32.ofNat cs.length)), (.ref a2)]) (rest := []) (lenOf pd__ILjava_lang_String__V rfl) rfl (by show 2 * 0 + _ ≤ _; exact Nat.le_of_eq rfl) (hb hby (dq dz12 15 30 rfl)) (fun _ _ => ⟨rfl, e4, (by decide : 1 + 1 ≤ _), (by decide : 176 + 128 ≤ _)⟩)
  dsimp only [Pt.U, Pt.locs, Pt.cells, Pt.slots] at X5 l5 y5 z5 st5 hQ5
  rw [l5, y5, z5] at X5
  have X5 : Stand p l e _ _ m _ below meth c T5 _ 2 304 := X5
  obtain ⟨rfl, N5q, K5q, t5, kt5, bt5, gb5, mb5, Eq5, Cq5, Vq5, Nq5, Mq5, Aq5, Xq5⟩ := hQ5
  have N5 := Fr.app N3 N5q
  refine Go.tr st5 ?_
  have ne_a2_t3 : a2 ≠ t3 := (Exa.neArv E_a2 Aq3 (hwi hw 5 rfl))
  have E_a1 := E_a1.keep K5q
  have E_a2 := E_a2.keep K5q
  have A_u := A_u.keep K5q (ninS ne_u_a1 (ninS ne_u_t3 nin0))
  have C_a2 := C_a2.keep K5q (ninS ne_a2_a1 (ninS ne_a2_t3 nin0))
  have V_a2 := V_a2.keep K5q (ninS ne_a2_a1 (ninS ne_a2_t3 nin0))
  have Xq3 := Xq3.imp (fun q => q.keep K5q) id
  have O := O.keep K5q (allS g_a1 (allS g_t3 all0))
  have KK := KK.trans K5q (allS (Or.inl (List.mem_of_getElem? (i := 0) rfl)) (allS (own_wi bt3) all0))
  have E_a1 := Eq5
  have g_t5 := gb5
  show Go _ _ _ _ _ _ _  T5 (mkF m 33 #[.val (.ref a1), .val (.ref a2), .val (.int (Int32.ofNat ys.length))] [])
  refine Go.st (fun _ => XS.aloadN X5.here hx rfl (hb hby (dq dz12 16 33 rfl)) rfl rfl) ?_
  refine Go.st (fun _ => XS.dup X5.here hx rfl (hb hby (dq dz12 17 34 rfl)) rfl rfl) ?_
  show Go _ _ _ _ _ _ _  T5 (mkF m 35 #[.val (.ref a1), .val (.ref a2), .val (.int (Int32.ofNat ys.length))] [(.ref a1), (.ref a1)])
  obtain ⟨T6, X6, e6, st6⟩ := getF X5 hx hZ hown (host := "") (Or.inl (hwi hw 82 rfl)) Via.refl rfl Nq5 (g := (mkF m 35 #[.val (.ref a1), .val (.ref a2), .val (.int (Int32.ofNat ys.length))] [(.ref a1), (.ref a1)])) rfl rfl (hb hby (dq dz12 18 35 rfl))
  refine Go.st st6 ?_
  show Go _ _ _ _ _ _ _  T6 (mkF m 38 #[.val (.ref a1), .val (.ref a2), .val (.int (Int32.ofNat ys.length))] [(.int (Int32.ofNat cs.length)), (.ref a1)])
  refine Go.st (fun _ => XS.iloadN X6.here hx rfl (hb hby (dq dz12 19 38 rfl)) rfl) ?_
  refine Go.st (fun _ => XS.iadd X6.here hx rfl (hb hby (dq dz12 20 39 rfl)) rfl) ?_
  show Go _ _ _ _ _ _ _  T6 (mkF m 40 #[.val (.ref a1), .val (.ref a2), .val (.int (Int32.ofNat ys.length))] [(.int ((Int32.ofNat cs.length) + (Int32.ofNat ys.length))), (.ref a1)])
  rw [own_oadd]
  show Go _ _ _ _ _ _ _  T6 (mkF m 40 #[.val (.ref a1), .val (.ref a2), .val (.int (Int32.ofNat ys.length))] [(.int (Int32.ofNat (cs.length + ys.length))), (.ref a1)])
  obtain ⟨T7, h7, X7, e7, W7, st7⟩ := putF X6 hx hZ hown (host := "") (Or.inl (hwi hw 82 rfl)) Via.refl e6 Nq5 E_a1 (Or.inl (hwi hw 83 rfl)) (hwi hw 44 rfl) (ty := .int) (by decide) rfl rfl (g := (mkF m 40 #[.val (.ref a1), .val (.ref a2), .val (.int (Int32.ofNat ys.length))] [(.int (Int32.ofNat (cs.length + ys.length))), (.ref a1)])) rfl rfl (hb hby (dq dz12 21 40 rfl))
  refine Go.st st7 ?_
  have Nq5 : Fld Z h7 a1 "java/lang/AbstractStringBuilder" "count" "I" (.int (Int32.ofNat (cs.length + ys.length))) := Nq5.same W7
  have N7 := Fr.snoc X7 N5 g_a1
  have ne_t5_a1 : t5 ≠ a1 := (Ne.symm (Exa.neArv E_a1 Aq5 (hwi hw 44 rfl)))
  have E_a1 := E_a1.wr W7
  have E_a2 := E_a2.wr W7
  have A_u := A_u.other W7 ne_u_a1
  have C_a2 := C_a2.other W7 (Or.inl ne_a2_a1)
  have V_a2 := V_a2.other W7 (Or.inl ne_a2_a1)
  have Xq5 := Xq5.imp (fun q => q.wr W7) id
  have Cq5 := Cq5.other W7 (Or.inr (slot_ne (Or.inl (hwi hw 60 rfl)) (Or.inl (hwi hw 83 rfl)) (by decide) (t := .byte) (t' := .int) (by decide) (by decide)))
  have Vq5 := Vq5.other W7 (Or.inr (slot_ne (Or.inl (hwi hw 58 rfl)) (Or.inl (hwi hw 83 rfl)) (by decide) (t := (.array .byte)) (t' := .int) (by decide) (by decide)))
  have Mq5 := Mq5.other W7 (Or.inr (slot_ne (Or.inl (hwi hw 295 rfl)) (Or.inl (hwi hw 83 rfl)) (by decide) (t := .boolean) (t' := .int) (by decide) (by decide)))
  have Aq5 := Aq5.other W7 ne_t5_a1
  have O := O.wr W7 g_a1
  have KK := KK.wr W7 (Or.inl (List.mem_of_getElem? (i := 0) rfl))
  show Go _ _ _ _ _ _ _  T7 (mkF m 43 #[.val (.ref a1), .val (.ref a2), .val (.int (Int32.ofNat ys.length))] [])
  refine Go.st (fun _ => XS.aloadN X7.here hx rfl (hb hby (dq dz12 22 43 rfl)) rfl rfl) ?_
  show Go _ _ _ _ _ _ _  T7 (mkF m 44 #[.val (.ref a1), .val (.ref a2), .val (.int (Int32.ofNat ys.length))] [(.ref a1)])
  refine Go.retR X7 hlk hx Bd.returns rfl rfl rfl (hb hby (dq dz12 23 44 rfl)) (by decide) (by decide) ?_
  show Q_rmAU Z _ _ _ _ _ _ _ _ _ _ _ _ h0 n0 _ T7.heap _
  rw [e7]
  rw [← List.length_append] at Nq5
  exact ⟨rfl, N7, KK, t5, kt5, cp3, own_bt bt5 bt3 k2_3, (by rw [List.length_append]; exact kc3), gb5, mb5, E_a1, Cq5, Vq5, Nq5, Mq5, Aq5, lo3, hi3, Xq5⟩
def Q_rmSU (Z : State) (a1 : Addr) (a2 : Addr) (zc : Int32) (fm : Value) (t : Addr) (kd : ClassId) (cs : List Int32) (cap : Nat) (u : Addr) (ku : ClassId) (ys : List Int32) (m0 : Nat) (h0 : Heap) (n0 : Nat) (v : Option Value) (h : Heap) (L : List Loc) : Prop := v = some (.ref a1) ∧ Fr n0 L ∧ Keep h0 h [a1, t] ∧ ∃ (b : Addr) (kb : ClassId) (cap2 : Nat), (b = t ∨ h0.size ≤ b) ∧ (cs ++ ys).length ≤ cap2 ∧ n0 ≤ b ∧ m0 ≤ b ∧ Exa Z h a1 "java/lang/StringBuilder" ∧ Fld Z h a1 "java/lang/AbstractStringBuilder" "coder" "B" (.int (own_cd (cs ++ ys))) ∧ Fld Z h a1 "java/lang/AbstractStringBuilder" "value" "[B" (.ref b) ∧ Fld Z h a1 "java/lang/AbstractStringBuilder" "count" "I" (.int (Int32.ofNat (cs ++ ys).length)) ∧ Fld Z h a1 "java/lang/AbstractStringBuilder" "maybeLatin1" "Z" (.int 0) ∧ Arv Z h b kb .byte (Int32.ofNat (own_cl (cs ++ ys) cap2)) ((own_by (cs ++ ys)).map Value.int) (.int 0) ∧ 16 ≤ cap2 ∧ cap2 ≤ 64 ∧ (Exa Z h b "[B" ∨ 30 < cap2)
theorem rmSU (l : Launch) (Z : State) (a0 : Array Value) (hw : HWt a0 Z) (ws : List Jvm.Cond) (a1 : Addr) (a2 : Addr) (zc : Int32) (fm : Value) (t : Addr) (kd : ClassId) (cs : List Int32) (cap : Nat) (u : Addr) (ku : ClassId) (ys : List Int32) (m0 : Nat) (h0 : Heap) (n0 : Nat) (O : Old Z n0 h0) (S_COMPACT : Sta Z Z.heap "java/lang/String" "COMPACT_STRINGS" "Z" (.int zc)) (hcs : ¬ zc = 0) (S_SIO : Sta Z Z.heap "jdk/internal/util/Preconditions" "SIOOBE_FORMATTER" "Ljava/util/function/BiFunction;" fm) (ref_fm : fm.isRef = true) (S_ad : Sta Z Z.heap "java/lang/StringUTF16" "$assertionsDisabled" "Z" (.int 1)) (S_hi : Sta Z Z.heap "java/lang/StringUTF16" "HI_BYTE_SHIFT" "I" (.int 0)) (S_lo : Sta Z Z.heap "java/lang/StringUTF16" "LO_BYTE_SHIFT" "I" (.int 8)) (E_a1 : Exa Z h0 a1 "java/lang/StringBuilder") (C_a1 : Fld Z h0 a1 "java/lang/AbstractStringBuilder" "coder" "B" (.int (own_cd cs))) (V_a1 : Fld Z h0 a1 "java/lang/AbstractStringBuilder" "value" "[B" (.ref t)) (N_a1 : Fld Z h0 a1 "java/lang/AbstractStringBuilder" "count" "I" (.int (Int32.ofNat cs.length))) (M_a1 : Fld Z h0 a1 "java/lang/AbstractStringBuilder" "maybeLatin1" "Z" (.int 0)) (A_t : Arv Z h0 t kd .byte (Int32.ofNat (own_cl cs cap)) ((own_by cs).map Value.int) (.int 0)) (K_a1 : cs.length ≤ cap) (B_a1 : 16 ≤ cap) (D_a1 : cap ≤ 64) (g_a1 : n0 ≤ a1) (g_t : n0 ≤ t) (E_a2 : Exa Z h0 a2 "java/lang/String") (C_a2 : Fld Z h0 a2 "java/lang/String" "coder" "B" (.int (own_cd ys))) (V_a2 : Fld Z h0 a2 "java/lang/String" "value" "[B" (.ref u)) (A_u : Arv Z h0 u ku .byte (Int32.ofNat (own_by ys).length) ((own_by ys).map Value.int) (.int 0)) (hrc : ∀ j, j < cs.length → nar .char (cs.getD j 0) = cs.getD j 0) (hry : ∀ j, j < ys.length → nar .char (ys.getD j 0) = ys.getD j 0) (hl30 : cs.length + ys.length ≤ 30) (ne_u_t : u ≠ t) (g_u : u < h0.size) (hm1 : m0 ≤ t) (hm2 : m0 ≤ h0.size) (XX : Exa Z h0 t "[B" ∨ 30 < cap) :
    Met l mY12 (Jvm.Cond.code mY12 jdk_67_method_7_code 2 (some (.object "java/lang/StringBuilder")) :: ws) rz9_2_304_134 #[(.ref a1), (.ref a2)] Z h0 (Q_rmSU Z a1 a2 zc fm t kd cs cap u ku ys m0 h0 n0) := by
  refine MetFree.of_bodySF (plainFor_of_name pn_11) hisR ?_
  intro p e s m args below meth c s₁ Bd hml0 hP hK
  obtain ⟨rfl, hZ, hh⟩ := hP
  have hx := Bd.exec
  have hby := Bd.bytes
  have hml : c.maxLocals = 2 := hml0
  have hown : s.vm.findClass "java/lang/StringBuilder" = some m.cls := findClass_of_methodNamed Bd.named
  have hlk : meth.locks = false := BodyLoose.notSynchronized Bd
  have X0 : Stand p l e rz9_2_304_134 s m #[(.ref a1), (.ref a2)] below meth c s₁ [] 0 0 := Stand.of_body Bd
  have e0 : s₁.heap = h0 := by rw [← hh, Bd.state]; rfl
  have N0 := Fr.nil n0
  have KK : Keep h0 h0 [a1, t] := Keep.refl h0 _
  show Go p e below s rz9_2_304_134.cells rz9_2_304_134.slots (Q_rmSU Z a1 a2 zc fm t kd cs cap u ku ys m0 h0 n0) s₁ (entryFrame m #[(.ref a1), (.ref a2)] 2)
  refine Go.eq (ef_rmSU m a1 a2) ?_
  show Go _ _ _ _ _ _ _  s₁ (mkF m 0 #[.val (.ref a1), .val (.ref a2)] [])
  refine Go.st (fun _ => XS.aloadN X0.here hx rfl (hb hby (dq dz11 0 0 rfl)) rfl rfl) ?_
  refine Go.st (fun _ => XS.aloadN X0.here hx rfl (hb hby (dq dz11 1 1 rfl)) rfl rfl) ?_
  show Go _ _ _ _ _ _ _  s₁ (mkF m 2 #[.val (.ref a1), .val (.ref a2)] [(.ref a2), (.ref a1)])
  obtain ⟨_, _, ⟨T1, L1, k1, n1⟩, -, X1, ⟨Lc1, hQ1, l1, y1, z1⟩, st1⟩ := superBack X0 hx hZ (y := mY11) hown (hwi hw 67 rfl) (own_same (hwi hw 70 rfl) (hwi hw 87 rfl) rfl (by decide)) (hwi hw 68 rfl) (hwi hw 69 rfl) (by decide) (backOf (W := 0) (rmAU l Z a0 hw [] a1 a2 zc fm t kd cs cap u ku ys m0 h0 n0 O S_COMPACT hcs S_SIO ref_fm S_ad S_hi S_lo E_a1 C_a1 V_a1 N_a1 M_a1 A_t K_a1 B_a1 D_a1 g_a1 g_t E_a2 C_a2 V_a2 A_u hrc hry hl30 ne_u_t g_u hm1 hm2 XX) hZ (hwi hw 71 rfl) (hwi hw 53 rfl) (by decide) (by decide)) e0 (Ins.self E_a1) (g := (mkF m 2 #[.val (.ref a1), .val (.ref a2)] [(.ref a2), (.ref a1)])) rfl (by rw [hml]; rfl) (hwi hw 71 rfl) (argsL := [(.ref a2)]) (rest := []) (lenOf pd__Ljava_lang_String__Ljava_lang_AbstractStringBuilder_ rfl) rfl (by show 2 * 0 + _ ≤ _; exact Nat.le_of_eq rfl) (hb hby (dq dz11 2 2 rfl)) (fun _ _ => ⟨rfl, e0, (by decide : 0 + 2 ≤ _), (by decide : 0 + 304 ≤ _)⟩)
  dsimp only [Pt.U, Pt.locs, Pt.cells, Pt.slots] at X1 l1 y1 z1 st1 hQ1
  rw [l1, y1, z1] at X1
  have X1 : Stand p l e _ _ m _ below meth c T1 _ 2 304 := X1
  obtain ⟨rfl, N1q, K1q, Q1⟩ := hQ1
  have N1 := Fr.app N0 N1q
  refine Go.tr st1 ?_
  have ne_u_a1 : u ≠ a1 := (Ne.symm (Exa.neArv E_a1 A_u (hwi hw 44 rfl)))
  have ne_a2_a1 : a2 ≠ a1 := (ne_exa E_a2 E_a1 (by decide))
  have ne_a2_t : a2 ≠ t := (Exa.neArv E_a2 A_t (hwi hw 5 rfl))
  have E_a1 := E_a1.keep K1q
  have E_a2 := E_a2.keep K1q
  have A_u := A_u.keep K1q (ninS ne_u_a1 (ninS ne_u_t nin0))
  have C_a2 := C_a2.keep K1q (ninS ne_a2_a1 (ninS ne_a2_t nin0))
  have V_a2 := V_a2.keep K1q (ninS ne_a2_a1 (ninS ne_a2_t nin0))
  have XX := XX.imp (fun q => q.keep K1q) id
  have O := O.keep K1q (allS g_a1 (allS g_t all0))
  have KK := KK.trans K1q (allS (Or.inl (List.mem_of_getElem? (i := 0) rfl)) (allS (Or.inl (List.mem_of_getElem? (i := 1) rfl)) all0))
  show Go _ _ _ _ _ _ _  T1 (mkF m 5 #[.val (.ref a1), .val (.ref a2)] [(.ref a1)])
  refine Go.st (fun _ => XS.pop X1.here hx rfl (hb hby (dq dz11 3 5 rfl)) rfl rfl) ?_
  refine Go.st (fun _ => XS.aloadN X1.here hx rfl (hb hby (dq dz11 4 6 rfl)) rfl rfl) ?_
  show Go _ _ _ _ _ _ _  T1 (mkF m 7 #[.val (.ref a1), .val (.ref a2)] [(.ref a1)])
  refine Go.retR X1 hlk hx Bd.returns rfl rfl rfl (hb hby (dq dz11 5 7 rfl)) (by decide) (by decide) ?_
  show Q_rmSU Z _ _ _ _ _ _ _ _ _ _ _ _ h0 n0 _ T1.heap _
  exact ⟨rfl, N1, KK, Q1⟩
def Q_rmCRw (Z : State) (a1 : Addr) (n : Nat) (kd : ClassId) (cap : Nat) (bs : List Value) (h0 : Heap) (n0 : Nat) (v : Option Value) (h : Heap) (L : List Loc) : Prop := ∃ (b : Addr) (kb : ClassId), v = some (.ref b) ∧ Fr n0 L ∧ Ext h0 h ∧ h0.size ≤ b ∧ Arv Z h b kb .byte (Int32.ofNat n) bs (.int 0)
theorem rmCRw (l : Launch) (Z : State) (a0 : Array Value) (hw : HWt a0 Z) (ws : List Jvm.Cond) (a1 : Addr) (n : Nat) (kd : ClassId) (cap : Nat) (bs : List Value) (h0 : Heap) (n0 : Nat) (O : Old Z n0 h0) (A_a1 : Arv Z h0 a1 kd .byte (Int32.ofNat cap) bs (.int 0)) (hbs : bs.length = n) (hN1 : n ≤ cap) (hN2 : cap < 100000) (hN3 : n ≤ 128) (hX : n < cap ∨ Exa Z h0 a1 "[B") :
    Met l mY21 (Jvm.Cond.code mY21 jdk_65_method_132_code 3 (some (.array .byte)) :: ws) rz2_1_128_34 #[(.ref a1), (.int (0 : Int32)), (.int (Int32.ofNat n))] Z h0 (Q_rmCRw Z a1 n kd cap bs h0 n0) := by
  by_cases hl : n < cap
  · exact own_wide (rmCR l Z a0 hw ws a1 n kd cap bs h0 n0 O A_a1 hbs hl hN2 hN3) (by decide) (by decide) (by decide) (by decide) (fun _ _ _ q => q)
  · have e : n = cap := by omega
    exact own_wide (rmCRc l Z a0 hw ws a1 n kd bs h0 n0 O (e ▸ A_a1) (hX.resolve_left hl) hN3) (by decide) (by decide) (by decide) (by decide) (fun _ _ _ q => q)
def Q_rmT2U (Z : State) (a1 : Addr) (a2 : Addr) (u1 : Value) (u2 : Value) (zc : Int32) (t : Addr) (kd : ClassId) (cs : List Int32) (cap : Nat) (h0 : Heap) (n0 : Nat) (v : Option Value) (h : Heap) (L : List Loc) : Prop := v = none ∧ Fr n0 L ∧ Keep h0 h [a1] ∧ Exa Z h a1 "java/lang/String" ∧ Fld Z h a1 "java/lang/String" "coder" "B" (.int (own_cd cs)) ∧ ∃ (b : Addr) (kb : ClassId), h0.size ≤ b ∧ Fld Z h a1 "java/lang/String" "value" "[B" (.ref b) ∧ Arv Z h b kb .byte (Int32.ofNat (own_by cs).length) ((own_by cs).map Value.int) (.int 0)
theorem rmT2U (l : Launch) (Z : State) (a0 : Array Value) (hw : HWt a0 Z) (ws : List Jvm.Cond) (a1 : Addr) (a2 : Addr) (u1 : Value) (u2 : Value) (zc : Int32) (t : Addr) (kd : ClassId) (cs : List Int32) (cap : Nat) (h0 : Heap) (n0 : Nat) (O : Old Z n0 h0) (E_a1 : Exa Z h0 a1 "java/lang/String") (F_value_a1 : Fld Z h0 a1 "java/lang/String" "value" "[B" u1) (F_coder_a1 : Fld Z h0 a1 "java/lang/String" "coder" "B" u2) (g_a1 : n0 ≤ a1) (S_COMPACT : Sta Z Z.heap "java/lang/String" "COMPACT_STRINGS" "Z" (.int zc)) (hcs : ¬ zc = 0) (E_a2 : Exa Z h0 a2 "java/lang/StringBuilder") (C_a2 : Fld Z h0 a2 "java/lang/AbstractStringBuilder" "coder" "B" (.int (own_cd cs))) (V_a2 : Fld Z h0 a2 "java/lang/AbstractStringBuilder" "value" "[B" (.ref t)) (N_a2 : Fld Z h0 a2 "java/lang/AbstractStringBuilder" "count" "I" (.int (Int32.ofNat cs.length))) (M_a2 : Fld Z h0 a2 "java/lang/AbstractStringBuilder" "maybeLatin1" "Z" (.int 0)) (A_t : Arv Z h0 t kd .byte (Int32.ofNat (own_cl cs cap)) ((own_by cs).map Value.int) (.int 0)) (K_a2 : cs.length ≤ cap) (B_a2 : 16 ≤ cap) (D_a2 : cap ≤ 64) (XX : Exa Z h0 t "[B" ∨ 30 < cap) (hl30 : cs.length ≤ 30) :
    Met l mY22 (Jvm.Cond.code mY22 jdk_42_method_150_code 5 none :: ws) rz3_1_128_49 #[(.ref a1), (.ref a2), .null] Z h0 (Q_rmT2U Z a1 a2 u1 u2 zc t kd cs cap h0 n0) := by
  refine MetFree.of_bodySF (plainFor_of_name pn_21) hisR ?_
  intro p e s m args below meth c s₁ Bd hml0 hP hK
  obtain ⟨rfl, hZ, hh⟩ := hP
  have hx := Bd.exec
  have hby := Bd.bytes
  have hml : c.maxLocals = 5 := hml0
  have hown : s.vm.findClass "java/lang/String" = some m.cls := findClass_of_methodNamed Bd.named
  have hnm := (name_of_methodNamed Bd.named Bd.method).1
  have hlk : meth.locks = false := BodyLoose.notSynchronized Bd
  have X0 : Stand p l e rz3_1_128_49 s m #[(.ref a1), (.ref a2), .null] below meth c s₁ [] 0 0 := Stand.of_body Bd
  have e0 : s₁.heap = h0 := by rw [← hh, Bd.state]; rfl
  have N0 := Fr.nil n0
  have KK : Keep h0 h0 [a1] := Keep.refl h0 _
  show Go p e below s rz3_1_128_49.cells rz3_1_128_49.slots (Q_rmT2U Z a1 a2 u1 u2 zc t kd cs cap h0 n0) s₁ (entryFrame m #[(.ref a1), (.ref a2), .null] 5)
  refine Go.eq (ef_rmT2U m a1 a2) ?_
  show Go _ _ _ _ _ _ _  s₁ (mkF m 0 #[.val (.ref a1), .val (.ref a2), .val .null, .unset, .unset] [])
  refine Go.st (fun _ => XS.aloadN X0.here hx rfl (hb hby (dq dz21 0 0 rfl)) rfl rfl) ?_
  show Go _ _ _ _ _ _ _  s₁ (mkF m 1 #[.val (.ref a1), .val (.ref a2), .val .null, .unset, .unset] [(.ref a1)])
  obtain ⟨T1, X1, e1, st1⟩ := initO X0 hx hZ hown (hwi hw 15 rfl) (hwi hw 16 rfl) (hwi hw 17 rfl) e0 (g := (mkF m 1 #[.val (.ref a1), .val (.ref a2), .val .null, .unset, .unset] [(.ref a1)])) rfl (by rw [hml]; rfl) rfl (hb hby (dq dz21 1 1 rfl)) (by decide) (W := 0) (by show 2 * 0 + _ ≤ _; exact Nat.le_of_eq rfl) (by decide)
  refine Go.st st1 ?_
  show Go _ _ _ _ _ _ _  T1 (mkF m 4 #[.val (.ref a1), .val (.ref a2), .val .null, .unset, .unset] [])
  refine Go.st (fun _ => XS.aloadN X1.here hx rfl (hb hby (dq dz21 2 4 rfl)) rfl rfl) ?_
  show Go _ _ _ _ _ _ _  T1 (mkF m 5 #[.val (.ref a1), .val (.ref a2), .val .null, .unset, .unset] [(.ref a2)])
  obtain ⟨cq2, kq2, q2a, q2b, q2c⟩ := isOf hZ e1 E_a2
  refine Go.pure (w := (some (.ref t))) (rest := []) (pc' := 8) (X1.virtualBack hx (y := mY15) (z := mY15) hown (mvT hZ (hwi hw 122 rfl)) (mvT hZ (hwi hw 123 rfl)) (notFace_of_selects (args := #[]) (mvT hZ (hwi hw 125 rfl))) (mvT hZ (hwi hw 125 rfl)) (mvT hZ (hwi hw 124 rfl)) (by decide) (backOf (W := 0) (rmGV l Z a0 hw [] a2 t h0 n0 O V_a2) hZ (hwi hw 126 rfl) (hwi hw 53 rfl) (by decide) (by decide)) q2a q2c (g := (mkF m 5 #[.val (.ref a1), .val (.ref a2), .val .null, .unset, .unset] [(.ref a2)])) rfl (by rw [hml]; rfl) (Steps.refl _) (argsL := []) (rest := []) (lenOf pd____B rfl) rfl (by show 2 * 0 + _ ≤ _; exact Nat.le_of_eq rfl) (hb hby (dq dz21 3 5 rfl)) (fun _ _ => ⟨rfl, e1, (by decide : 0 + 0 ≤ _), (by decide : 0 + 0 ≤ _)⟩)) (fun _ _ _ q => q) N0 (fun T2 L2 X2 e2q N2 => ?_)
  show Go _ _ _ _ _ _ _  T2 (mkF m 8 #[.val (.ref a1), .val (.ref a2), .val .null, .unset, .unset] [(.ref t)])
  refine Go.st (fun _ => XS.astoreN X2.here hx rfl (hb hby (dq dz21 4 8 rfl)) rfl rfl (l' := #[.val (.ref a1), .val (.ref a2), .val .null, .val (.ref t), .unset]) rfl) ?_
  refine Go.st (fun _ => XS.aloadN X2.here hx rfl (hb hby (dq dz21 5 9 rfl)) rfl rfl) ?_
  show Go _ _ _ _ _ _ _  T2 (mkF m 10 #[.val (.ref a1), .val (.ref a2), .val .null, .val (.ref t), .unset] [(.ref a2)])
  obtain ⟨cq3, kq3, q3a, q3b, q3c⟩ := isOf hZ e2q E_a2
  refine Go.pure (w := (some (.int (Int32.ofNat cs.length)))) (rest := []) (pc' := 13) (X2.virtualBack hx (y := mY16) (z := mY17) hown (mvT hZ (hwi hw 127 rfl)) (mvT hZ (hwi hw 128 rfl)) (own_nf (args := #[]) (mvT hZ (hwi hw 125 rfl)) rfl) (mvT hZ (hwi hw 130 rfl)) (mvT hZ (hwi hw 131 rfl)) (by decide) (backOf (W := 0) (rmSL l Z a0 hw [] a2 (Int32.ofNat cs.length) h0 n0 O E_a2 N_a2) hZ (hwi hw 132 rfl) (hwi hw 45 rfl) (by decide) (by decide)) q3a q3c (g := (mkF m 10 #[.val (.ref a1), .val (.ref a2), .val .null, .val (.ref t), .unset] [(.ref a2)])) rfl (by rw [hml]; rfl) (Steps.refl _) (argsL := []) (rest := []) (lenOf pd___I rfl) rfl (by show 2 * 0 + _ ≤ _; exact Nat.le_of_eq rfl) (hb hby (dq dz21 6 10 rfl)) (fun _ _ => ⟨rfl, e2q, (by decide : 0 + 0 ≤ _), (by decide : 0 + 0 ≤ _)⟩)) (fun _ _ _ q => q) N2 (fun T3 L3 X3 e3q N3 => ?_)
  show Go _ _ _ _ _ _ _  T3 (mkF m 13 #[.val (.ref a1), .val (.ref a2), .val .null, .val (.ref t), .unset] [(.int (Int32.ofNat cs.length))])
  refine Go.st (fun _ => XS.istore X3.here hx rfl (hb hby (dq dz21 7 13 rfl)) rfl (l' := #[.val (.ref a1), .val (.ref a2), .val .null, .val (.ref t), .val (.int (Int32.ofNat cs.length))]) rfl) ?_
  refine Go.st (fun _ => XS.aloadN X3.here hx rfl (hb hby (dq dz21 8 15 rfl)) rfl rfl) ?_
  show Go _ _ _ _ _ _ _  T3 (mkF m 16 #[.val (.ref a1), .val (.ref a2), .val .null, .val (.ref t), .val (.int (Int32.ofNat cs.length))] [(.ref a2)])
  obtain ⟨cq4, kq4, q4a, q4b, q4c⟩ := isOf hZ e3q E_a2
  refine Go.pure (w := (some (.int (if (own_cd cs) = 0 then 1 else 0)))) (rest := []) (pc' := 19) (X3.virtualBack hx (y := mY18) (z := mY18) hown (mvT hZ (hwi hw 135 rfl)) (mvT hZ (hwi hw 136 rfl)) (notFace_of_selects (args := #[]) (mvT hZ (hwi hw 138 rfl))) (mvT hZ (hwi hw 138 rfl)) (mvT hZ (hwi hw 137 rfl)) (by decide) (backOf (W := 0) (rmILc l Z a0 hw [] a2 zc (own_cd cs) h0 n0 O S_COMPACT hcs C_a2) hZ (hwi hw 139 rfl) (hwi hw 53 rfl) (by decide) (by decide)) q4a q4c (g := (mkF m 16 #[.val (.ref a1), .val (.ref a2), .val .null, .val (.ref t), .val (.int (Int32.ofNat cs.length))] [(.ref a2)])) rfl (by rw [hml]; rfl) (Steps.refl _) (argsL := []) (rest := []) (lenOf pd___Z rfl) rfl (by show 2 * 0 + _ ≤ _; exact Nat.le_of_eq rfl) (hb hby (dq dz21 9 16 rfl)) (fun _ _ => ⟨rfl, e3q, (by decide : 0 + 0 ≤ _), (by decide : 0 + 0 ≤ _)⟩)) (fun _ _ _ q => q) N3 (fun T4 L4 X4 e4q N4 => ?_)
  show Go _ _ _ _ _ _ _  T4 (mkF m 19 #[.val (.ref a1), .val (.ref a2), .val .null, .val (.ref t), .val (.int (Int32.ofNat cs.length))] [(.int (if (own_cd cs) = 0 then 1 else 0))])
  by_cases c19_5 : own_cd cs = 0
  · rw [if_pos c19_5]
    have lcs : own_l1 cs = true := own_l1ot c19_5
    show Go _ _ _ _ _ _ _  T4 (mkF m 19 #[.val (.ref a1), .val (.ref a2), .val .null, .val (.ref t), .val (.int (Int32.ofNat cs.length))] [(.int (1 : Int32))])
    refine Go.st (fun _ => XS.ifNo X4.here hx rfl (hb hby (dq dz21 10 19 rfl)) rfl ((if0 _ _).trans (feq (by decide : ¬ ((1 : Int32) = (0 : Int32)))).1)) ?_
    show Go _ _ _ _ _ _ _  T4 (mkF m 22 #[.val (.ref a1), .val (.ref a2), .val .null, .val (.ref t), .val (.int (Int32.ofNat cs.length))] [])
    refine Go.st (fun _ => XS.aloadN X4.here hx rfl (hb hby (dq dz21 11 22 rfl)) rfl rfl) ?_
    refine Go.st (fun _ => XS.iconst X4.here hx rfl (hb hby (dq dz21 12 23 rfl))) ?_
    show Go _ _ _ _ _ _ _  T4 (mkF m 24 #[.val (.ref a1), .val (.ref a2), .val .null, .val (.ref t), .val (.int (Int32.ofNat cs.length))] [(.int (0 : Int32)), (.ref a1)])
    obtain ⟨T6, h6, X6, e6, W6, st6⟩ := putFN X4 hx hZ hown (hwi hw 30 rfl) Via.refl e4q F_coder_a1 E_a1 (Or.inr ⟨(hwi hw 31 rfl), rfl, hnm⟩) (hwi hw 5 rfl) (ty := .byte) (v' := .int (0 : Int32)) (by decide) rfl rfl (g := (mkF m 24 #[.val (.ref a1), .val (.ref a2), .val .null, .val (.ref t), .val (.int (Int32.ofNat cs.length))] [(.int (0 : Int32)), (.ref a1)])) rfl rfl (hb hby (dq dz21 13 24 rfl))
    refine Go.st st6 ?_
    have F_coder_a1 : Fld Z h6 a1 "java/lang/String" "coder" "B" (.int (0 : Int32)) := F_coder_a1.same W6
    have N6 := Fr.snoc X6 N4 g_a1
    have ne_t_a1 : t ≠ a1 := (Ne.symm (Exa.neArv E_a1 A_t (hwi hw 5 rfl)))
    have ne_a2_a1 : a2 ≠ a1 := (ne_exa E_a2 E_a1 (by decide))
    have E_a2 := E_a2.wr W6
    have A_t := A_t.other W6 ne_t_a1
    have C_a2 := C_a2.other W6 (Or.inl ne_a2_a1)
    have V_a2 := V_a2.other W6 (Or.inl ne_a2_a1)
    have N_a2 := N_a2.other W6 (Or.inl ne_a2_a1)
    have M_a2 := M_a2.other W6 (Or.inl ne_a2_a1)
    have E_a1 := E_a1.wr W6
    have XX := XX.imp (fun q => q.wr W6) id
    have F_value_a1 := F_value_a1.other W6 (Or.inr (slot_ne (Or.inr (hwi hw 33 rfl)) (Or.inr (hwi hw 31 rfl)) (by decide) (t := (.array .byte)) (t' := .byte) (by decide) (by decide)))
    have O := O.wr W6 g_a1
    have KK := KK.wr W6 (Or.inl (List.mem_of_getElem? (i := 0) rfl))
    show Go _ _ _ _ _ _ _  T6 (mkF m 27 #[.val (.ref a1), .val (.ref a2), .val .null, .val (.ref t), .val (.int (Int32.ofNat cs.length))] [])
    refine Go.st (fun _ => XS.aloadN X6.here hx rfl (hb hby (dq dz21 14 27 rfl)) rfl rfl) ?_
    refine Go.st (fun _ => XS.aloadN X6.here hx rfl (hb hby (dq dz21 15 28 rfl)) rfl rfl) ?_
    refine Go.st (fun _ => XS.iconst X6.here hx rfl (hb hby (dq dz21 16 29 rfl))) ?_
    refine Go.st (fun _ => XS.iload X6.here hx rfl (hb hby (dq dz21 17 30 rfl)) rfl) ?_
    show Go _ _ _ _ _ _ _  T6 (mkF m 32 #[.val (.ref a1), .val (.ref a2), .val .null, .val (.ref t), .val (.int (Int32.ofNat cs.length))] [(.int (Int32.ofNat cs.length)), (.int (0 : Int32)), (.ref t), (.ref a1)])
    obtain ⟨_, _, ⟨T7, L7, k7, n7⟩, -, X7, ⟨Lc7, hQ7, l7, y7, z7⟩, st7⟩ := Jvm.LawKit.callS X6 hx (y := mY21) hown (mvT hZ (hwi hw 140 rfl)) (mvT hZ (hwi hw 141 rfl)) (mvT hZ (hwi hw 142 rfl)) (mvT hZ (hwi hw 143 rfl)) (by decide) (backOf (W := 1) (rmCRw l Z a0 hw [] t cs.length kd (own_cl cs cap) ((own_by cs).map Value.int) h6 n0 O A_t (by rw [own_lapn (ys := []), own_clT lcs]) (by rw [own_clT lcs]; omega) (by have := own_clb cs cap; omega) (by omega) (by rw [own_clT lcs]; exact (Nat.lt_or_ge cs.length cap).imp (fun q => by omega) (fun q => XX.resolve_right (by omega)))) hZ (hwi hw 143 rfl) (hwi hw 142 rfl) (by decide) (by decide)) (g := (mkF m 32 #[.val (.ref a1), .val (.ref a2), .val .null, .val (.ref t), .val (.int (Int32.ofNat cs.length))] [(.int (Int32.ofNat cs.length)), (.int (0 : Int32)), (.ref t), (.ref a1)])) rfl (by rw [hml]; rfl) (argsL := [(.ref t), (.int (0 : Int32)), (.int (Int32.ofNat cs.length))]) (rest := [(.ref a1)]) (lenOf pd___BII__B rfl) rfl (by show 2 * 0 + _ ≤ _; exact Nat.le_of_eq rfl) (hb hby (dq dz21 18 32 rfl)) (fun _ _ => ⟨rfl, e6, (by decide : 0 + 1 ≤ _), (by decide : 0 + 128 ≤ _)⟩)
    dsimp only [Pt.U, Pt.locs, Pt.cells, Pt.slots] at X7 l7 y7 z7 st7 hQ7
    rw [l7, y7, z7] at X7
    have X7 : Stand p l e _ _ m _ below meth c T7 _ 1 128 := X7
    obtain ⟨t7, kt7, rfl, N7q, E7q, lt7, Vq7⟩ := hQ7
    have N7 := Fr.app N6 N7q
    refine Go.st st7 ?_
    have g_t7 : n0 ≤ t7 := Nat.le_trans (own_le O) lt7
    have sz_t7 : h0.size ≤ t7 := Nat.le_trans KK.1 lt7
    have ne_a2_t7 : a2 ≠ t7 := Nat.ne_of_lt (Nat.lt_of_lt_of_le E_a2.lt lt7)
    have ne_t_t7 : t ≠ t7 := Nat.ne_of_lt (Nat.lt_of_lt_of_le A_t.lt lt7)
    have ne_a1_t7 : a1 ≠ t7 := Nat.ne_of_lt (Nat.lt_of_lt_of_le E_a1.lt lt7)
    have E7 := E7q
    have E_a2 := E_a2.ext E7
    have A_t := A_t.ext E7
    have C_a2 := C_a2.ext E7
    have V_a2 := V_a2.ext E7
    have N_a2 := N_a2.ext E7
    have M_a2 := M_a2.ext E7
    have E_a1 := E_a1.ext E7
    have XX := XX.imp (fun q => q.ext E7) id
    have F_value_a1 := F_value_a1.ext E7
    have F_coder_a1 := F_coder_a1.ext E7
    have O := O.ext E7
    have KK := KK.ext E7
    show Go _ _ _ _ _ _ _  T7 (mkF m 35 #[.val (.ref a1), .val (.ref a2), .val .null, .val (.ref t), .val (.int (Int32.ofNat cs.length))] [(.ref t7), (.ref a1)])
    obtain ⟨T8, h8, X8, e8, W8, st8⟩ := putF X7 hx hZ hown (host := "") (Or.inl (hwi hw 32 rfl)) Via.refl rfl F_value_a1 E_a1 (Or.inr ⟨(hwi hw 33 rfl), rfl, hnm⟩) (hwi hw 5 rfl) (ty := (.array .byte)) (by decide) rfl rfl (g := (mkF m 35 #[.val (.ref a1), .val (.ref a2), .val .null, .val (.ref t), .val (.int (Int32.ofNat cs.length))] [(.ref t7), (.ref a1)])) rfl rfl (hb hby (dq dz21 19 35 rfl))
    refine Go.st st8 ?_
    have F_value_a1 : Fld Z h8 a1 "java/lang/String" "value" "[B" (.ref t7) := F_value_a1.same W8
    have N8 := Fr.snoc X8 N7 g_a1
    have E_a2 := E_a2.wr W8
    have A_t := A_t.other W8 ne_t_a1
    have C_a2 := C_a2.other W8 (Or.inl ne_a2_a1)
    have V_a2 := V_a2.other W8 (Or.inl ne_a2_a1)
    have N_a2 := N_a2.other W8 (Or.inl ne_a2_a1)
    have M_a2 := M_a2.other W8 (Or.inl ne_a2_a1)
    have E_a1 := E_a1.wr W8
    have XX := XX.imp (fun q => q.wr W8) id
    have F_coder_a1 := F_coder_a1.other W8 (Or.inr (slot_ne (Or.inr (hwi hw 31 rfl)) (Or.inr (hwi hw 33 rfl)) (by decide) (t := .byte) (t' := (.array .byte)) (by decide) (by decide)))
    have Vq7 := Vq7.other W8 (Ne.symm ne_a1_t7)
    have O := O.wr W8 g_a1
    have KK := KK.wr W8 (Or.inl (List.mem_of_getElem? (i := 0) rfl))
    show Go _ _ _ _ _ _ _  T8 (mkF m 38 #[.val (.ref a1), .val (.ref a2), .val .null, .val (.ref t), .val (.int (Int32.ofNat cs.length))] [])
    refine Go.st (fun _ => XS.goto X8.here hx rfl (pc0 := 38) (pc' := 97) rfl (hb hby (dq dz21 20 38 rfl)) (by decide) (by decide)) ?_
    show Go _ _ _ _ _ _ _  T8 (mkF m 97 #[.val (.ref a1), .val (.ref a2), .val .null, .val (.ref t), .val (.int (Int32.ofNat cs.length))] [])
    refine Go.ret0 X8 hlk hx Bd.returns (hb hby (dq dz21 21 97 rfl)) (by decide) (by decide) ?_
    show Q_rmT2U Z _ _ _ _ _ _ _ _ _ h0 n0 _ T8.heap _
    rw [e8]
    exact ⟨rfl, N8, KK, E_a1, (by rw [own_cdT lcs]; exact F_coder_a1), t7, kt7, sz_t7, F_value_a1, (by rw [own_bycl, own_clT lcs]; exact Vq7)⟩
  · rw [if_neg c19_5]
    have lcs : own_l1 cs = false := own_l1of c19_5
    show Go _ _ _ _ _ _ _  T4 (mkF m 19 #[.val (.ref a1), .val (.ref a2), .val .null, .val (.ref t), .val (.int (Int32.ofNat cs.length))] [(.int (0 : Int32))])
    refine Go.st (fun _ => XS.ifYes X4.here hx rfl (pc0 := 19) (pc' := 41) rfl (hb hby (dq dz21 10 19 rfl)) rfl ((if0 _ _).trans (teq (rfl : (0 : Int32) = (0 : Int32))).1) (by decide) (by decide)) ?_
    show Go _ _ _ _ _ _ _  T4 (mkF m 41 #[.val (.ref a1), .val (.ref a2), .val .null, .val (.ref t), .val (.int (Int32.ofNat cs.length))] [])
    obtain ⟨T9, X9, e9, st9⟩ := getS2 X4 hx hZ hown (host := "") (Or.inl (hwi hw 18 rfl)) Via.refl e4q (S_COMPACT.ext O.2) (g := (mkF m 41 #[.val (.ref a1), .val (.ref a2), .val .null, .val (.ref t), .val (.int (Int32.ofNat cs.length))] [])) rfl (hb hby (dq dz21 22 41 rfl))
    refine Go.st st9 ?_
    show Go _ _ _ _ _ _ _  T9 (mkF m 44 #[.val (.ref a1), .val (.ref a2), .val .null, .val (.ref t), .val (.int (Int32.ofNat cs.length))] [(.int zc)])
    refine Go.st (fun _ => XS.ifNo X9.here hx rfl (hb hby (dq dz21 23 44 rfl)) rfl ((if0 _ _).trans (feq (hcs : ¬ (zc = (0 : Int32)))).1)) ?_
    show Go _ _ _ _ _ _ _  T9 (mkF m 47 #[.val (.ref a1), .val (.ref a2), .val .null, .val (.ref t), .val (.int (Int32.ofNat cs.length))] [])
    refine Go.st (fun _ => XS.aloadN X9.here hx rfl (hb hby (dq dz21 24 47 rfl)) rfl rfl) ?_
    show Go _ _ _ _ _ _ _  T9 (mkF m 48 #[.val (.ref a1), .val (.ref a2), .val .null, .val (.ref t), .val (.int (Int32.ofNat cs.length))] [(.ref a2)])
    obtain ⟨T10, X10, e10, st10⟩ := getF X9 hx hZ hown (host := "") (Or.inl (hwi hw 294 rfl)) Via.refl e9 M_a2 (g := (mkF m 48 #[.val (.ref a1), .val (.ref a2), .val .null, .val (.ref t), .val (.int (Int32.ofNat cs.length))] [(.ref a2)])) rfl rfl (hb hby (dq dz21 25 48 rfl))
    refine Go.st st10 ?_
    show Go _ _ _ _ _ _ _  T10 (mkF m 51 #[.val (.ref a1), .val (.ref a2), .val .null, .val (.ref t), .val (.int (Int32.ofNat cs.length))] [(.int (0 : Int32))])
    refine Go.st (fun _ => XS.ifYes X10.here hx rfl (pc0 := 51) (pc' := 79) rfl (hb hby (dq dz21 26 51 rfl)) rfl ((if0 _ _).trans (teq (rfl : (0 : Int32) = (0 : Int32))).1) (by decide) (by decide)) ?_
    show Go _ _ _ _ _ _ _  T10 (mkF m 79 #[.val (.ref a1), .val (.ref a2), .val .null, .val (.ref t), .val (.int (Int32.ofNat cs.length))] [])
    refine Go.st (fun _ => XS.aloadN X10.here hx rfl (hb hby (dq dz21 27 79 rfl)) rfl rfl) ?_
    refine Go.st (fun _ => XS.iconst X10.here hx rfl (hb hby (dq dz21 28 80 rfl))) ?_
    show Go _ _ _ _ _ _ _  T10 (mkF m 81 #[.val (.ref a1), .val (.ref a2), .val .null, .val (.ref t), .val (.int (Int32.ofNat cs.length))] [(.int (1 : Int32)), (.ref a1)])
    obtain ⟨T11, h11, X11, e11, W11, st11⟩ := putFN X10 hx hZ hown (hwi hw 30 rfl) Via.refl e10 F_coder_a1 E_a1 (Or.inr ⟨(hwi hw 31 rfl), rfl, hnm⟩) (hwi hw 5 rfl) (ty := .byte) (v' := .int (1 : Int32)) (by decide) rfl rfl (g := (mkF m 81 #[.val (.ref a1), .val (.ref a2), .val .null, .val (.ref t), .val (.int (Int32.ofNat cs.length))] [(.int (1 : Int32)), (.ref a1)])) rfl rfl (hb hby (dq dz21 29 81 rfl))
    refine Go.st st11 ?_
    have F_coder_a1 : Fld Z h11 a1 "java/lang/String" "coder" "B" (.int (1 : Int32)) := F_coder_a1.same W11
    have N11 := Fr.snoc X11 N4 g_a1
    have ne_t_a1 : t ≠ a1 := (Ne.symm (Exa.neArv E_a1 A_t (hwi hw 5 rfl)))
    have ne_a2_a1 : a2 ≠ a1 := (ne_exa E_a2 E_a1 (by decide))
    have E_a2 := E_a2.wr W11
    have A_t := A_t.other W11 ne_t_a1
    have C_a2 := C_a2.other W11 (Or.inl ne_a2_a1)
    have V_a2 := V_a2.other W11 (Or.inl ne_a2_a1)
    have N_a2 := N_a2.other W11 (Or.inl ne_a2_a1)
    have M_a2 := M_a2.other W11 (Or.inl ne_a2_a1)
    have E_a1 := E_a1.wr W11
    have XX := XX.imp (fun q => q.wr W11) id
    have F_value_a1 := F_value_a1.other W11 (Or.inr (slot_ne (Or.inr (hwi hw 33 rfl)) (Or.inr (hwi hw 31 rfl)) (by decide) (t := (.array .byte)) (t' := .byte) (by decide) (by decide)))
    have O := O.wr W11 g_a1
    have KK := KK.wr W11 (Or.inl (List.mem_of_getElem? (i := 0) rfl))
    show Go _ _ _ _ _ _ _  T11 (mkF m 84 #[.val (.ref a1), .val (.ref a2), .val .null, .val (.ref t), .val (.int (Int32.ofNat cs.length))] [])
    refine Go.st (fun _ => XS.aloadN X11.here hx rfl (hb hby (dq dz21 30 84 rfl)) rfl rfl) ?_
    refine Go.st (fun _ => XS.aloadN X11.here hx rfl (hb hby (dq dz21 31 85 rfl)) rfl rfl) ?_
    refine Go.st (fun _ => XS.iconst X11.here hx rfl (hb hby (dq dz21 32 86 rfl))) ?_
    refine Go.st (fun _ => XS.iload X11.here hx rfl (hb hby (dq dz21 33 87 rfl)) rfl) ?_
    refine Go.st (fun _ => XS.iconst X11.here hx rfl (hb hby (dq dz21 34 89 rfl))) ?_
    refine Go.st (fun _ => XS.ishl X11.here hx rfl (hb hby (dq dz21 35 90 rfl)) rfl) ?_
    show Go _ _ _ _ _ _ _  T11 (mkF m 91 #[.val (.ref a1), .val (.ref a2), .val .null, .val (.ref t), .val (.int (Int32.ofNat cs.length))] [(.int ((Int32.ofNat cs.length) <<< ((1 : Int32) &&& 31))), (.int (0 : Int32)), (.ref t), (.ref a1)])
    rw [own_shl1 (by omega)]
    show Go _ _ _ _ _ _ _  T11 (mkF m 91 #[.val (.ref a1), .val (.ref a2), .val .null, .val (.ref t), .val (.int (Int32.ofNat cs.length))] [(.int (Int32.ofNat (2 * cs.length))), (.int (0 : Int32)), (.ref t), (.ref a1)])
    obtain ⟨_, _, ⟨T12, L12, k12, n12⟩, -, X12, ⟨Lc12, hQ12, l12, y12, z12⟩, st12⟩ := Jvm.LawKit.callS X11 hx (y := mY21) hown (mvT hZ (hwi hw 140 rfl)) (mvT hZ (hwi hw 141 rfl)) (mvT hZ (hwi hw 142 rfl)) (mvT hZ (hwi hw 143 rfl)) (by decide) (backOf (W := 1) (rmCRw l Z a0 hw [] t (2 * cs.length) kd (own_cl cs cap) ((own_by cs).map Value.int) h11 n0 O A_t (by rw [own_lapn (ys := []), own_clF lcs]) (by rw [own_clF lcs]; omega) (by have := own_clb cs cap; omega) (by omega) (by rw [own_clF lcs]; exact (Nat.lt_or_ge cs.length cap).imp (fun q => by omega) (fun q => XX.resolve_right (by omega)))) hZ (hwi hw 143 rfl) (hwi hw 142 rfl) (by decide) (by decide)) (g := (mkF m 91 #[.val (.ref a1), .val (.ref a2), .val .null, .val (.ref t), .val (.int (Int32.ofNat cs.length))] [(.int (Int32.ofNat (2 * cs.length))), (.int (0 : Int32)), (.ref t), (.ref a1)])) rfl (by rw [hml]; rfl) (argsL := [(.ref t), (.int (0 : Int32)), (.int (Int32.ofNat (2 * cs.length)))]) (rest := [(.ref a1)]) (lenOf pd___BII__B rfl) rfl (by show 2 * 0 + _ ≤ _; exact Nat.le_of_eq rfl) (hb hby (dq dz21 36 91 rfl)) (fun _ _ => ⟨rfl, e11, (by decide : 0 + 1 ≤ _), (by decide : 0 + 128 ≤ _)⟩)
    dsimp only [Pt.U, Pt.locs, Pt.cells, Pt.slots] at X12 l12 y12 z12 st12 hQ12
    rw [l12, y12, z12] at X12
    have X12 : Stand p l e _ _ m _ below meth c T12 _ 1 128 := X12
    obtain ⟨t12, kt12, rfl, N12q, E12q, lt12, Vq12⟩ := hQ12
    have N12 := Fr.app N11 N12q
    refine Go.st st12 ?_
    have g_t12 : n0 ≤ t12 := Nat.le_trans (own_le O) lt12
    have sz_t12 : h0.size ≤ t12 := Nat.le_trans KK.1 lt12
    have ne_a2_t12 : a2 ≠ t12 := Nat.ne_of_lt (Nat.lt_of_lt_of_le E_a2.lt lt12)
    have ne_t_t12 : t ≠ t12 := Nat.ne_of_lt (Nat.lt_of_lt_of_le A_t.lt lt12)
    have ne_a1_t12 : a1 ≠ t12 := Nat.ne_of_lt (Nat.lt_of_lt_of_le E_a1.lt lt12)
    have E12 := E12q
    have E_a2 := E_a2.ext E12
    have A_t := A_t.ext E12
    have C_a2 := C_a2.ext E12
    have V_a2 := V_a2.ext E12
    have N_a2 := N_a2.ext E12
    have M_a2 := M_a2.ext E12
    have E_a1 := E_a1.ext E12
    have XX := XX.imp (fun q => q.ext E12) id
    have F_value_a1 := F_value_a1.ext E12
    have F_coder_a1 := F_coder_a1.ext E12
    have O := O.ext E12
    have KK := KK.ext E12
    show Go _ _ _ _ _ _ _  T12 (mkF m 94 #[.val (.ref a1), .val (.ref a2), .val .null, .val (.ref t), .val (.int (Int32.ofNat cs.length))] [(.ref t12), (.ref a1)])
    obtain ⟨T13, h13, X13, e13, W13, st13⟩ := putF X12 hx hZ hown (host := "") (Or.inl (hwi hw 32 rfl)) Via.refl rfl F_value_a1 E_a1 (Or.inr ⟨(hwi hw 33 rfl), rfl, hnm⟩) (hwi hw 5 rfl) (ty := (.array .byte)) (by decide) rfl rfl (g := (mkF m 94 #[.val (.ref a1), .val (.ref a2), .val .null, .val (.ref t), .val (.int (Int32.ofNat cs.length))] [(.ref t12), (.ref a1)])) rfl rfl (hb hby (dq dz21 37 94 rfl))
    refine Go.st st13 ?_
    have F_value_a1 : Fld Z h13 a1 "java/lang/String" "value" "[B" (.ref t12) := F_value_a1.same W13
    have N13 := Fr.snoc X13 N12 g_a1
    have E_a2 := E_a2.wr W13
    have A_t := A_t.other W13 ne_t_a1
    have C_a2 := C_a2.other W13 (Or.inl ne_a2_a1)
    have V_a2 := V_a2.other W13 (Or.inl ne_a2_a1)
    have N_a2 := N_a2.other W13 (Or.inl ne_a2_a1)
    have M_a2 := M_a2.other W13 (Or.inl ne_a2_a1)
    have E_a1 := E_a1.wr W13
    have XX := XX.imp (fun q => q.wr W13) id
    have F_coder_a1 := F_coder_a1.other W13 (Or.inr (slot_ne (Or.inr (hwi hw 31 rfl)) (Or.inr (hwi hw 33 rfl)) (by decide) (t := .byte) (t' := (.array .byte)) (by decide) (by decide)))
    have Vq12 := Vq12.other W13 (Ne.symm ne_a1_t12)
    have O := O.wr W13 g_a1
    have KK := KK.wr W13 (Or.inl (List.mem_of_getElem? (i := 0) rfl))
    show Go _ _ _ _ _ _ _  T13 (mkF m 97 #[.val (.ref a1), .val (.ref a2), .val .null, .val (.ref t), .val (.int (Int32.ofNat cs.length))] [])
    refine Go.ret0 X13 hlk hx Bd.returns (hb hby (dq dz21 21 97 rfl)) (by decide) (by decide) ?_
    show Q_rmT2U Z _ _ _ _ _ _ _ _ _ h0 n0 _ T13.heap _
    rw [e13]
    exact ⟨rfl, N13, KK, E_a1, (by rw [own_cdF lcs]; exact F_coder_a1), t12, kt12, sz_t12, F_value_a1, (by rw [own_bycl, own_clF lcs]; exact Vq12)⟩
def Q_rmT1U (Z : State) (a1 : Addr) (a2 : Addr) (u1 : Value) (u2 : Value) (zc : Int32) (t : Addr) (kd : ClassId) (cs : List Int32) (cap : Nat) (h0 : Heap) (n0 : Nat) (v : Option Value) (h : Heap) (L : List Loc) : Prop := v = none ∧ Fr n0 L ∧ Keep h0 h [a1] ∧ Exa Z h a1 "java/lang/String" ∧ Fld Z h a1 "java/lang/String" "coder" "B" (.int (own_cd cs)) ∧ ∃ (b : Addr) (kb : ClassId), h0.size ≤ b ∧ Fld Z h a1 "java/lang/String" "value" "[B" (.ref b) ∧ Arv Z h b kb .byte (Int32.ofNat (own_by cs).length) ((own_by cs).map Value.int) (.int 0)
theorem rmT1U (l : Launch) (Z : State) (a0 : Array Value) (hw : HWt a0 Z) (ws : List Jvm.Cond) (a1 : Addr) (a2 : Addr) (u1 : Value) (u2 : Value) (zc : Int32) (t : Addr) (kd : ClassId) (cs : List Int32) (cap : Nat) (h0 : Heap) (n0 : Nat) (O : Old Z n0 h0) (E_a1 : Exa Z h0 a1 "java/lang/String") (F_value_a1 : Fld Z h0 a1 "java/lang/String" "value" "[B" u1) (F_coder_a1 : Fld Z h0 a1 "java/lang/String" "coder" "B" u2) (g_a1 : n0 ≤ a1) (S_COMPACT : Sta Z Z.heap "java/lang/String" "COMPACT_STRINGS" "Z" (.int zc)) (hcs : ¬ zc = 0) (E_a2 : Exa Z h0 a2 "java/lang/StringBuilder") (C_a2 : Fld Z h0 a2 "java/lang/AbstractStringBuilder" "coder" "B" (.int (own_cd cs))) (V_a2 : Fld Z h0 a2 "java/lang/AbstractStringBuilder" "value" "[B" (.ref t)) (N_a2 : Fld Z h0 a2 "java/lang/AbstractStringBuilder" "count" "I" (.int (Int32.ofNat cs.length))) (M_a2 : Fld Z h0 a2 "java/lang/AbstractStringBuilder" "maybeLatin1" "Z" (.int 0)) (A_t : Arv Z h0 t kd .byte (Int32.ofNat (own_cl cs cap)) ((own_by cs).map Value.int) (.int 0)) (K_a2 : cs.length ≤ cap) (B_a2 : 16 ≤ cap) (D_a2 : cap ≤ 64) (XX : Exa Z h0 t "[B" ∨ 30 < cap) (hl30 : cs.length ≤ 30) :
    Met l mY23 (Jvm.Cond.code mY23 jdk_42_method_53_code 2 none :: ws) rz4_1_128_65 #[(.ref a1), (.ref a2)] Z h0 (Q_rmT1U Z a1 a2 u1 u2 zc t kd cs cap h0 n0) := by
  refine MetFree.of_bodySF (plainFor_of_name pn_20) hisR ?_
  intro p e s m args below meth c s₁ Bd hml0 hP hK
  obtain ⟨rfl, hZ, hh⟩ := hP
  have hx := Bd.exec
  have hby := Bd.bytes
  have hml : c.maxLocals = 2 := hml0
  have hown : s.vm.findClass "java/lang/String" = some m.cls := findClass_of_methodNamed Bd.named
  have hlk : meth.locks = false := BodyLoose.notSynchronized Bd
  have X0 : Stand p l e rz4_1_128_65 s m #[(.ref a1), (.ref a2)] below meth c s₁ [] 0 0 := Stand.of_body Bd
  have e0 : s₁.heap = h0 := by rw [← hh, Bd.state]; rfl
  have N0 := Fr.nil n0
  have KK : Keep h0 h0 [a1] := Keep.refl h0 _
  show Go p e below s rz4_1_128_65.cells rz4_1_128_65.slots (Q_rmT1U Z a1 a2 u1 u2 zc t kd cs cap h0 n0) s₁ (entryFrame m #[(.ref a1), (.ref a2)] 2)
  refine Go.eq (ef_rmT1U m a1 a2) ?_
  show Go _ _ _ _ _ _ _  s₁ (mkF m 0 #[.val (.ref a1), .val (.ref a2)] [])
  refine Go.st (fun _ => XS.aloadN X0.here hx rfl (hb hby (dq dz20 0 0 rfl)) rfl rfl) ?_
  refine Go.st (fun _ => XS.aloadN X0.here hx rfl (hb hby (dq dz20 1 1 rfl)) rfl rfl) ?_
  refine Go.st (fun _ => XS.aconstNull X0.here hx rfl (hb hby (dq dz20 2 2 rfl))) ?_
  show Go _ _ _ _ _ _ _  s₁ (mkF m 3 #[.val (.ref a1), .val (.ref a2)] [.null, (.ref a2), (.ref a1)])
  obtain ⟨_, _, ⟨T1, L1, k1, n1⟩, -, X1, ⟨Lc1, hQ1, l1, y1, z1⟩, st1⟩ := X0.specialBack hx (y := mY22) rfl hown (mvT hZ (hwi hw 119 rfl)) (mvT hZ (hwi hw 120 rfl)) (mvT hZ (hwi hw 121 rfl)) (by decide) (backOf (W := 0) (rmT2U l Z a0 hw [] a1 a2 u1 u2 zc t kd cs cap h0 n0 O E_a1 F_value_a1 F_coder_a1 g_a1 S_COMPACT hcs E_a2 C_a2 V_a2 N_a2 M_a2 A_t K_a2 B_a2 D_a2 XX hl30) hZ (hwi hw 121 rfl) (hwi hw 6 rfl) (by decide) (by decide)) (g := (mkF m 3 #[.val (.ref a1), .val (.ref a2)] [.null, (.ref a2), (.ref a1)])) rfl (by rw [hml]; rfl) (Steps.refl _) (a := a1) (argsL := [(.ref a2), .null]) (rest := []) (lenOf pd__Ljava_lang_AbstractStringBuilder_Ljava_lang_Void__V rfl) rfl (by show 2 * 0 + _ ≤ _; exact Nat.le_of_eq rfl) (hb hby (dq dz20 3 3 rfl)) (fun _ _ => ⟨rfl, e0, (by decide : 0 + 1 ≤ _), (by decide : 0 + 128 ≤ _)⟩)
  dsimp only [Pt.U, Pt.locs, Pt.cells, Pt.slots] at X1 l1 y1 z1 st1 hQ1
  rw [l1, y1, z1] at X1
  have X1 : Stand p l e _ _ m _ below meth c T1 _ 1 128 := X1
  obtain ⟨rfl, N1q, K1q, Q1⟩ := hQ1
  have N1 := Fr.app N0 N1q
  refine Go.tr st1 ?_
  have ne_t_a1 : t ≠ a1 := (Ne.symm (Exa.neArv E_a1 A_t (hwi hw 5 rfl)))
  have ne_a2_a1 : a2 ≠ a1 := (ne_exa E_a2 E_a1 (by decide))
  have E_a2 := E_a2.keep K1q
  have A_t := A_t.keep K1q (ninS ne_t_a1 nin0)
  have C_a2 := C_a2.keep K1q (ninS ne_a2_a1 nin0)
  have V_a2 := V_a2.keep K1q (ninS ne_a2_a1 nin0)
  have N_a2 := N_a2.keep K1q (ninS ne_a2_a1 nin0)
  have M_a2 := M_a2.keep K1q (ninS ne_a2_a1 nin0)
  have E_a1 := E_a1.keep K1q
  have XX := XX.imp (fun q => q.keep K1q) id
  have O := O.keep K1q (allS g_a1 all0)
  have KK := KK.trans K1q (allS (Or.inl (List.mem_of_getElem? (i := 0) rfl)) all0)
  show Go _ _ _ _ _ _ _  T1 (mkF m 6 #[.val (.ref a1), .val (.ref a2)] [])
  refine Go.ret0 X1 hlk hx Bd.returns (hb hby (dq dz20 4 6 rfl)) (by decide) (by decide) ?_
  show Q_rmT1U Z _ _ _ _ _ _ _ _ _ h0 n0 _ T1.heap _
  exact ⟨rfl, N1, KK, Q1⟩
def Q_rmTSU (Z : State) (a1 : Addr) (zc : Int32) (t : Addr) (kd : ClassId) (cs : List Int32) (cap : Nat) (h0 : Heap) (n0 : Nat) (v : Option Value) (h : Heap) (L : List Loc) : Prop := ∃ (x b : Addr) (kb : ClassId), v = some (.ref x) ∧ Fr n0 L ∧ Ext h0 h ∧ h0.size ≤ x ∧ h0.size ≤ b ∧ Exa Z h x "java/lang/String" ∧ Fld Z h x "java/lang/String" "coder" "B" (.int (own_cd cs)) ∧ Fld Z h x "java/lang/String" "value" "[B" (.ref b) ∧ Arv Z h b kb .byte (Int32.ofNat (own_by cs).length) ((own_by cs).map Value.int) (.int 0)
theorem rmTSU (l : Launch) (Z : State) (a0 : Array Value) (hw : HWt a0 Z) (ws : List Jvm.Cond) (a1 : Addr) (zc : Int32) (t : Addr) (kd : ClassId) (cs : List Int32) (cap : Nat) (h0 : Heap) (n0 : Nat) (O : Old Z n0 h0) (S_COMPACT : Sta Z Z.heap "java/lang/String" "COMPACT_STRINGS" "Z" (.int zc)) (hcs : ¬ zc = 0) (E_a1 : Exa Z h0 a1 "java/lang/StringBuilder") (C_a1 : Fld Z h0 a1 "java/lang/AbstractStringBuilder" "coder" "B" (.int (own_cd cs))) (V_a1 : Fld Z h0 a1 "java/lang/AbstractStringBuilder" "value" "[B" (.ref t)) (N_a1 : Fld Z h0 a1 "java/lang/AbstractStringBuilder" "count" "I" (.int (Int32.ofNat cs.length))) (M_a1 : Fld Z h0 a1 "java/lang/AbstractStringBuilder" "maybeLatin1" "Z" (.int 0)) (A_t : Arv Z h0 t kd .byte (Int32.ofNat (own_cl cs cap)) ((own_by cs).map Value.int) (.int 0)) (K_a1 : cs.length ≤ cap) (B_a1 : 16 ≤ cap) (D_a1 : cap ≤ 64) (XX : Exa Z h0 t "[B" ∨ 30 < cap) (hl30 : cs.length ≤ 30) :
    Met l mY24 (Jvm.Cond.code mY24 jdk_67_method_42_code 1 (some (.object "java/lang/String")) :: ws) rz5_2_132_79 #[(.ref a1)] Z h0 (Q_rmTSU Z a1 zc t kd cs cap h0 n0) := by
  refine MetFree.of_bodySF (plainFor_of_name pn_19) hisR ?_
  intro p e s m args below meth c s₁ Bd hml0 hP hK
  obtain ⟨rfl, hZ, hh⟩ := hP
  have hx := Bd.exec
  have hby := Bd.bytes
  have hml : c.maxLocals = 1 := hml0
  have hown : s.vm.findClass "java/lang/StringBuilder" = some m.cls := findClass_of_methodNamed Bd.named
  have hlk : meth.locks = false := BodyLoose.notSynchronized Bd
  have X0 : Stand p l e rz5_2_132_79 s m #[(.ref a1)] below meth c s₁ [] 0 0 := Stand.of_body Bd
  have e0 : s₁.heap = h0 := by rw [← hh, Bd.state]; rfl
  have N0 := Fr.nil n0
  have KK : Keep h0 h0 [] := Keep.refl h0 _
  show Go p e below s rz5_2_132_79.cells rz5_2_132_79.slots (Q_rmTSU Z a1 zc t kd cs cap h0 n0) s₁ (entryFrame m #[(.ref a1)] 1)
  refine Go.eq (ef_rmTSU m a1) ?_
  show Go _ _ _ _ _ _ _  s₁ (mkF m 0 #[.val (.ref a1)] [])
  obtain ⟨T1, h1, X1, e1, E1, A1, D1, U1, st1⟩ := newO X0 hx hZ hown (hwi hw 115 rfl) (hwi hw 5 rfl) (hwi hw 6 rfl) e0 (g := (mkF m 0 #[.val (.ref a1)] [])) rfl (hb hby (dq dz19 0 0 rfl)) (by decide) (by decide)
  obtain ⟨b1, g1⟩ : ∃ z, z = h0.size := ⟨_, rfl⟩
  rw [← g1] at A1 D1 U1 st1
  refine Go.st st1 ?_
  have g_b1 : n0 ≤ b1 := by rw [g1]; exact own_le O
  have sz_b1 : h0.size ≤ b1 := by rw [g1]; exact KK.1
  have ne_a1_b1 : a1 ≠ b1 := Nat.ne_of_lt (by rw [g1]; exact E_a1.lt)
  have ne_t_b1 : t ≠ b1 := Nat.ne_of_lt (by rw [g1]; exact A_t.lt)
  have E_a1 := E_a1.ext E1
  have A_t := A_t.ext E1
  have C_a1 := C_a1.ext E1
  have V_a1 := V_a1.ext E1
  have N_a1 := N_a1.ext E1
  have M_a1 := M_a1.ext E1
  have XX := XX.imp (fun q => q.ext E1) id
  have O := O.ext E1
  have KK := KK.ext E1
  have E_b1 := A1
  have F_coder_b1 : Fld Z h1 b1 "java/lang/String" "coder" "B" (.int (0 : Int32)) := D1 (Or.inr (hwi hw 31 rfl)) (ty := .byte) (by decide)
  have F_value_b1 : Fld Z h1 b1 "java/lang/String" "value" "[B" .null := D1 (Or.inr (hwi hw 33 rfl)) (ty := (.array .byte)) (by decide)
  show Go _ _ _ _ _ _ _  T1 (mkF m 3 #[.val (.ref a1)] [(.ref b1)])
  refine Go.st (fun _ => XS.dup X1.here hx rfl (hb hby (dq dz19 1 3 rfl)) rfl rfl) ?_
  refine Go.st (fun _ => XS.aloadN X1.here hx rfl (hb hby (dq dz19 2 4 rfl)) rfl rfl) ?_
  have KK0 := KK
  show Go _ _ _ _ _ _ _  T1 (mkF m 5 #[.val (.ref a1)] [(.ref a1), (.ref b1), (.ref b1)])
  obtain ⟨_, _, ⟨T2, L2, k2, n2⟩, -, X2, ⟨Lc2, hQ2, l2, y2, z2⟩, st2⟩ := X1.specialBack hx (y := mY23) rfl hown (mvT hZ (hwi hw 116 rfl)) (mvT hZ (hwi hw 117 rfl)) (mvT hZ (hwi hw 118 rfl)) (by decide) (backOf (W := 1) (rmT1U l Z a0 hw [] b1 a1 .null (.int (0 : Int32)) zc t kd cs cap h1 n0 O E_b1 F_value_b1 F_coder_b1 g_b1 S_COMPACT hcs E_a1 C_a1 V_a1 N_a1 M_a1 A_t K_a1 B_a1 D_a1 XX hl30) hZ (hwi hw 118 rfl) (hwi hw 6 rfl) (by decide) (by decide)) (g := (mkF m 5 #[.val (.ref a1)] [(.ref a1), (.ref b1), (.ref b1)])) rfl (by rw [hml]; rfl) (Steps.refl _) (a := b1) (argsL := [(.ref a1)]) (rest := [(.ref b1)]) (lenOf pd__Ljava_lang_StringBuilder__V rfl) rfl (by show 2 * 0 + _ ≤ _; exact Nat.le_of_eq rfl) (hb hby (dq dz19 3 5 rfl)) (fun _ _ => ⟨rfl, e1, (by decide : 1 + 1 ≤ _), (by decide : 4 + 128 ≤ _)⟩)
  dsimp only [Pt.U, Pt.locs, Pt.cells, Pt.slots] at X2 l2 y2 z2 st2 hQ2
  rw [l2, y2, z2] at X2
  have X2 : Stand p l e _ _ m _ below meth c T2 _ 2 132 := X2
  obtain ⟨rfl, N2q, K2q, Eq2, Cq2, t2, kt2, lt2, Vq2, Aq2⟩ := hQ2
  have N2 := Fr.app N0 N2q
  refine Go.tr st2 ?_
  have E_a1 := E_a1.keep K2q
  have A_t := A_t.keep K2q (ninS ne_t_b1 nin0)
  have C_a1 := C_a1.keep K2q (ninS ne_a1_b1 nin0)
  have V_a1 := V_a1.keep K2q (ninS ne_a1_b1 nin0)
  have N_a1 := N_a1.keep K2q (ninS ne_a1_b1 nin0)
  have M_a1 := M_a1.keep K2q (ninS ne_a1_b1 nin0)
  have XX := XX.imp (fun q => q.keep K2q) id
  have E_b1 := E_b1.keep K2q
  have O := O.keep K2q (allS g_b1 all0)
  have KK := KK.trans K2q (allS (Or.inr sz_b1) all0)
  show Go _ _ _ _ _ _ _  T2 (mkF m 8 #[.val (.ref a1)] [(.ref b1)])
  refine Go.retR X2 hlk hx Bd.returns rfl rfl rfl (hb hby (dq dz19 4 8 rfl)) (by decide) (by decide) ?_
  show Q_rmTSU Z _ _ _ _ _ _ h0 n0 _ T2.heap _
  exact ⟨_, _, _, rfl, N2, own_ext0 KK, sz_b1, Nat.le_trans KK0.1 lt2, Eq2, Cq2, Vq2, Aq2⟩
def Q_rmUCI (Z : State) (a1 : Addr) (fm : Value) (kb : ClassId) (cs : List Int32) (i : Nat) (h0 : Heap) (n0 : Nat) (v : Option Value) (h : Heap) (L : List Loc) : Prop := v = none ∧ Fr n0 L ∧ h = h0
theorem rmUCI (l : Launch) (Z : State) (a0 : Array Value) (hw : HWt a0 Z) (ws : List Jvm.Cond) (a1 : Addr) (fm : Value) (kb : ClassId) (cs : List Int32) (i : Nat) (h0 : Heap) (n0 : Nat) (O : Old Z n0 h0) (S_SIO : Sta Z Z.heap "jdk/internal/util/Preconditions" "SIOOBE_FORMATTER" "Ljava/util/function/BiFunction;" fm) (ref_fm : fm.isRef = true) (A_a1 : Arv Z h0 a1 kb .byte (Int32.ofNat (2 * cs.length)) ((own_ub cs).map Value.int) (.int 0)) (hi : i < cs.length) (hn : cs.length ≤ 64) :
    Met l mY47 (Jvm.Cond.code mY47 jdk_52_method_91_code 2 none :: ws) rz2_0_0_27 #[(.int (Int32.ofNat i)), (.ref a1)] Z h0 (Q_rmUCI Z a1 fm kb cs i h0 n0) := by
  refine MetFree.of_bodySF (plainFor_of_name pn_57) hisR ?_
  intro p e s m args below meth c s₁ Bd hml0 hP hK
  obtain ⟨rfl, hZ, hh⟩ := hP
  have hx := Bd.exec
  have hby := Bd.bytes
  have hml : c.maxLocals = 2 := hml0
  have hown : s.vm.findClass "java/lang/StringUTF16" = some m.cls := findClass_of_methodNamed Bd.named
  have hlk : meth.locks = false := BodyLoose.notSynchronized Bd
  have X0 : Stand p l e rz2_0_0_27 s m #[(.int (Int32.ofNat i)), (.ref a1)] below meth c s₁ [] 0 0 := Stand.of_body Bd
  have e0 : s₁.heap = h0 := by rw [← hh, Bd.state]; rfl
  have N0 := Fr.nil n0
  show Go p e below s rz2_0_0_27.cells rz2_0_0_27.slots (Q_rmUCI Z a1 fm kb cs i h0 n0) s₁ (entryFrame m #[(.int (Int32.ofNat i)), (.ref a1)] 2)
  refine Go.eq (ef_rmUCI m (Int32.ofNat i) a1) ?_
  show Go _ _ _ _ _ _ _  s₁ (mkF m 0 #[.val (.int (Int32.ofNat i)), .val (.ref a1)] [])
  refine Go.st (fun _ => XS.iloadN X0.here hx rfl (hb hby (dq dz57 0 0 rfl)) rfl) ?_
  refine Go.st (fun _ => XS.aloadN X0.here hx rfl (hb hby (dq dz57 1 1 rfl)) rfl rfl) ?_
  show Go _ _ _ _ _ _ _  s₁ (mkF m 2 #[.val (.int (Int32.ofNat i)), .val (.ref a1)] [(.ref a1), (.int (Int32.ofNat i))])
  refine Go.pureS (w := (some (.int (Int32.ofNat cs.length)))) (rest := [(.int (Int32.ofNat i))]) (pc' := 5) (Jvm.LawKit.callS X0 hx (y := mY40) hown (mvT hZ (hwi hw 284 rfl)) (mvT hZ (hwi hw 285 rfl)) (mvT hZ (hwi hw 21 rfl)) (mvT hZ (hwi hw 286 rfl)) (by decide) (backOf (W := 1) (rmU16L l Z a0 hw [] a1 kb cs.length ((own_ub cs).map Value.int) h0 n0 O A_a1 (by omega)) hZ (hwi hw 286 rfl) (hwi hw 21 rfl) (by decide) (by decide)) (g := (mkF m 2 #[.val (.int (Int32.ofNat i)), .val (.ref a1)] [(.ref a1), (.int (Int32.ofNat i))])) rfl (by rw [hml]; rfl) (argsL := [(.ref a1)]) (rest := [(.int (Int32.ofNat i))]) (lenOf pd___B_I rfl) rfl (by show 2 * 0 + _ ≤ _; exact Nat.le_of_eq rfl) (hb hby (dq dz57 2 2 rfl)) (fun _ _ => ⟨rfl, e0, (by decide : 0 + 0 ≤ _), (by decide : 0 + 0 ≤ _)⟩)) (fun _ _ _ q => q) N0 (fun T1 L1 X1 e1q N1 => ?_)
  show Go _ _ _ _ _ _ _  T1 (mkF m 5 #[.val (.int (Int32.ofNat i)), .val (.ref a1)] [(.int (Int32.ofNat cs.length)), (.int (Int32.ofNat i))])
  refine Go.pureS (w := none) (rest := []) (pc' := 8) (Jvm.LawKit.callS X1 hx (y := mY26) hown (mvT hZ (hwi hw 302 rfl)) (mvT hZ (hwi hw 237 rfl)) (mvT hZ (hwi hw 6 rfl)) (mvT hZ (hwi hw 238 rfl)) (by decide) (backOf (W := 0) (rmCI l Z a0 hw [] fm i cs.length h0 n0 O S_SIO ref_fm hi (by omega)) hZ (hwi hw 238 rfl) (hwi hw 6 rfl) (by decide) (by decide)) (g := (mkF m 5 #[.val (.int (Int32.ofNat i)), .val (.ref a1)] [(.int (Int32.ofNat cs.length)), (.int (Int32.ofNat i))])) rfl (by rw [hml]; rfl) (argsL := [(.int (Int32.ofNat i)), (.int (Int32.ofNat cs.length))]) (rest := []) (lenOf pd__II_V rfl) rfl (by show 2 * 0 + _ ≤ _; exact Nat.le_of_eq rfl) (hb hby (dq dz57 3 5 rfl)) (fun _ _ => ⟨rfl, e1q, (by decide : 0 + 0 ≤ _), (by decide : 0 + 0 ≤ _)⟩)) (fun _ _ _ q => q) N1 (fun T2 L2 X2 e2q N2 => ?_)
  show Go _ _ _ _ _ _ _  T2 (mkF m 8 #[.val (.int (Int32.ofNat i)), .val (.ref a1)] [])
  refine Go.ret0 X2 hlk hx Bd.returns (hb hby (dq dz57 4 8 rfl)) (by decide) (by decide) ?_
  show Q_rmUCI Z _ _ _ _ _ h0 n0 _ T2.heap _
  rw [e2q]
  exact ⟨rfl, N2, rfl⟩
def Q_rmUCA (Z : State) (a1 : Addr) (fm : Value) (kb : ClassId) (cs : List Int32) (i : Nat) (h0 : Heap) (n0 : Nat) (v : Option Value) (h : Heap) (L : List Loc) : Prop := v = some (.int (cs.getD i 0)) ∧ Fr n0 L ∧ h = h0
theorem rmUCA (l : Launch) (Z : State) (a0 : Array Value) (hw : HWt a0 Z) (ws : List Jvm.Cond) (a1 : Addr) (fm : Value) (kb : ClassId) (cs : List Int32) (i : Nat) (h0 : Heap) (n0 : Nat) (O : Old Z n0 h0) (S_SIO : Sta Z Z.heap "jdk/internal/util/Preconditions" "SIOOBE_FORMATTER" "Ljava/util/function/BiFunction;" fm) (ref_fm : fm.isRef = true) (S_ad : Sta Z Z.heap "java/lang/StringUTF16" "$assertionsDisabled" "Z" (.int 1)) (S_hi : Sta Z Z.heap "java/lang/StringUTF16" "HI_BYTE_SHIFT" "I" (.int 0)) (S_lo : Sta Z Z.heap "java/lang/StringUTF16" "LO_BYTE_SHIFT" "I" (.int 8)) (A_a1 : Arv Z h0 a1 kb .byte (Int32.ofNat (2 * cs.length)) ((own_ub cs).map Value.int) (.int 0)) (hi : i < cs.length) (hn : cs.length ≤ 64) (hri : nar .char (cs.getD i 0) = cs.getD i 0) :
    Met l mY48 (Jvm.Cond.code mY48 jdk_52_method_83_code 2 (some .char) :: ws) rz3_0_0_40 #[(.ref a1), (.int (Int32.ofNat i))] Z h0 (Q_rmUCA Z a1 fm kb cs i h0 n0) := by
  refine MetFree.of_bodySF (plainFor_of_name pn_56) hisR ?_
  intro p e s m args below meth c s₁ Bd hml0 hP hK
  obtain ⟨rfl, hZ, hh⟩ := hP
  have hx := Bd.exec
  have hby := Bd.bytes
  have hml : c.maxLocals = 2 := hml0
  have hown : s.vm.findClass "java/lang/StringUTF16" = some m.cls := findClass_of_methodNamed Bd.named
  have hlk : meth.locks = false := BodyLoose.notSynchronized Bd
  have X0 : Stand p l e rz3_0_0_40 s m #[(.ref a1), (.int (Int32.ofNat i))] below meth c s₁ [] 0 0 := Stand.of_body Bd
  have e0 : s₁.heap = h0 := by rw [← hh, Bd.state]; rfl
  have N0 := Fr.nil n0
  show Go p e below s rz3_0_0_40.cells rz3_0_0_40.slots (Q_rmUCA Z a1 fm kb cs i h0 n0) s₁ (entryFrame m #[(.ref a1), (.int (Int32.ofNat i))] 2)
  refine Go.eq (ef_rmUCA m a1 (Int32.ofNat i)) ?_
  show Go _ _ _ _ _ _ _  s₁ (mkF m 0 #[.val (.ref a1), .val (.int (Int32.ofNat i))] [])
  refine Go.st (fun _ => XS.iloadN X0.here hx rfl (hb hby (dq dz56 0 0 rfl)) rfl) ?_
  refine Go.st (fun _ => XS.aloadN X0.here hx rfl (hb hby (dq dz56 1 1 rfl)) rfl rfl) ?_
  show Go _ _ _ _ _ _ _  s₁ (mkF m 2 #[.val (.ref a1), .val (.int (Int32.ofNat i))] [(.ref a1), (.int (Int32.ofNat i))])
  refine Go.pureS (w := none) (rest := []) (pc' := 5) (Jvm.LawKit.callS X0 hx (y := mY47) hown (mvT hZ (hwi hw 299 rfl)) (mvT hZ (hwi hw 300 rfl)) (mvT hZ (hwi hw 21 rfl)) (mvT hZ (hwi hw 301 rfl)) (by decide) (backOf (W := 0) (rmUCI l Z a0 hw [] a1 fm kb cs i h0 n0 O S_SIO ref_fm A_a1 hi hn) hZ (hwi hw 301 rfl) (hwi hw 21 rfl) (by decide) (by decide)) (g := (mkF m 2 #[.val (.ref a1), .val (.int (Int32.ofNat i))] [(.ref a1), (.int (Int32.ofNat i))])) rfl (by rw [hml]; rfl) (argsL := [(.int (Int32.ofNat i)), (.ref a1)]) (rest := []) (lenOf pd__I_B_V rfl) rfl (by show 2 * 0 + _ ≤ _; exact Nat.le_of_eq rfl) (hb hby (dq dz56 2 2 rfl)) (fun _ _ => ⟨rfl, e0, (by decide : 0 + 0 ≤ _), (by decide : 0 + 0 ≤ _)⟩)) (fun _ _ _ q => q) N0 (fun T1 L1 X1 e1q N1 => ?_)
  show Go _ _ _ _ _ _ _  T1 (mkF m 5 #[.val (.ref a1), .val (.int (Int32.ofNat i))] [])
  refine Go.st (fun _ => XS.aloadN X1.here hx rfl (hb hby (dq dz56 3 5 rfl)) rfl rfl) ?_
  refine Go.st (fun _ => XS.iloadN X1.here hx rfl (hb hby (dq dz56 4 6 rfl)) rfl) ?_
  show Go _ _ _ _ _ _ _  T1 (mkF m 7 #[.val (.ref a1), .val (.int (Int32.ofNat i))] [(.int (Int32.ofNat i)), (.ref a1)])
  refine Go.pureS (w := (some (.int (cs.getD i 0)))) (rest := []) (pc' := 10) (Jvm.LawKit.callS X1 hx (y := mY35) hown (mvT hZ (hwi hw 265 rfl)) (mvT hZ (hwi hw 266 rfl)) (mvT hZ (hwi hw 21 rfl)) (mvT hZ (hwi hw 267 rfl)) (by decide) (backOf (W := 0) (rmGetC l Z a0 hw [] a1 kb cs i h0 n0 O S_ad S_hi S_lo A_a1 hn hi hri) hZ (hwi hw 267 rfl) (hwi hw 21 rfl) (by decide) (by decide)) (g := (mkF m 7 #[.val (.ref a1), .val (.int (Int32.ofNat i))] [(.int (Int32.ofNat i)), (.ref a1)])) rfl (by rw [hml]; rfl) (argsL := [(.ref a1), (.int (Int32.ofNat i))]) (rest := []) (lenOf pd___BI_C rfl) rfl (by show 2 * 0 + _ ≤ _; exact Nat.le_of_eq rfl) (hb hby (dq dz56 5 7 rfl)) (fun _ _ => ⟨rfl, e1q, (by decide : 0 + 0 ≤ _), (by decide : 0 + 0 ≤ _)⟩)) (fun _ _ _ q => q) N1 (fun T2 L2 X2 e2q N2 => ?_)
  show Go _ _ _ _ _ _ _  T2 (mkF m 10 #[.val (.ref a1), .val (.int (Int32.ofNat i))] [(.int (cs.getD i 0))])
  refine Go.retN X2 hlk hx (t := .char) (z' := (cs.getD i 0)) Bd.returns (by simp) (hb hby (dq dz56 6 10 rfl)) (by decide) (by decide) hri ?_
  show Q_rmUCA Z _ _ _ _ _ h0 n0 _ T2.heap _
  rw [e2q]
  exact ⟨rfl, N2, rfl⟩
def Q_rmCAU (Z : State) (a1 : Addr) (zc : Int32) (t : Addr) (kb : ClassId) (cs : List Int32) (fm : Value) (i : Nat) (h0 : Heap) (n0 : Nat) (v : Option Value) (h : Heap) (L : List Loc) : Prop := v = some (.int (cs.getD i 0)) ∧ Fr n0 L ∧ h = h0
theorem rmCAU (l : Launch) (Z : State) (a0 : Array Value) (hw : HWt a0 Z) (ws : List Jvm.Cond) (a1 : Addr) (zc : Int32) (t : Addr) (kb : ClassId) (cs : List Int32) (fm : Value) (i : Nat) (h0 : Heap) (n0 : Nat) (O : Old Z n0 h0) (S_COMPACT : Sta Z Z.heap "java/lang/String" "COMPACT_STRINGS" "Z" (.int zc)) (hcs : ¬ zc = 0) (E_a1 : Exa Z h0 a1 "java/lang/String") (C_a1 : Fld Z h0 a1 "java/lang/String" "coder" "B" (.int (own_cd cs))) (V_a1 : Fld Z h0 a1 "java/lang/String" "value" "[B" (.ref t)) (A_t : Arv Z h0 t kb .byte (Int32.ofNat (own_by cs).length) ((own_by cs).map Value.int) (.int 0)) (hn : cs.length ≤ 64) (S_SIO : Sta Z Z.heap "jdk/internal/util/Preconditions" "SIOOBE_FORMATTER" "Ljava/util/function/BiFunction;" fm) (ref_fm : fm.isRef = true) (S_ad : Sta Z Z.heap "java/lang/StringUTF16" "$assertionsDisabled" "Z" (.int 1)) (S_hi : Sta Z Z.heap "java/lang/StringUTF16" "HI_BYTE_SHIFT" "I" (.int 0)) (S_lo : Sta Z Z.heap "java/lang/StringUTF16" "LO_BYTE_SHIFT" "I" (.int 8)) (hi : i < cs.length) (hri : nar .char (cs.getD i 0) = cs.getD i 0) :
    Met l mY29 (Jvm.Cond.code mY29 jdk_42_method_56_code 2 (some .char) :: ws) rz4_0_0_53 #[(.ref a1), (.int (Int32.ofNat i))] Z h0 (Q_rmCAU Z a1 zc t kb cs fm i h0 n0) := by
  refine MetFree.of_bodySF (plainFor_of_name pn_38) hisR ?_
  intro p e s m args below meth c s₁ Bd hml0 hP hK
  obtain ⟨rfl, hZ, hh⟩ := hP
  have hx := Bd.exec
  have hby := Bd.bytes
  have hml : c.maxLocals = 2 := hml0
  have hown : s.vm.findClass "java/lang/String" = some m.cls := findClass_of_methodNamed Bd.named
  have hlk : meth.locks = false := BodyLoose.notSynchronized Bd
  have X0 : Stand p l e rz4_0_0_53 s m #[(.ref a1), (.int (Int32.ofNat i))] below meth c s₁ [] 0 0 := Stand.of_body Bd
  have e0 : s₁.heap = h0 := by rw [← hh, Bd.state]; rfl
  have N0 := Fr.nil n0
  show Go p e below s rz4_0_0_53.cells rz4_0_0_53.slots (Q_rmCAU Z a1 zc t kb cs fm i h0 n0) s₁ (entryFrame m #[(.ref a1), (.int (Int32.ofNat i))] 2)
  refine Go.eq (ef_rmCAU m a1 (Int32.ofNat i)) ?_
  show Go _ _ _ _ _ _ _  s₁ (mkF m 0 #[.val (.ref a1), .val (.int (Int32.ofNat i))] [])
  refine Go.st (fun _ => XS.aloadN X0.here hx rfl (hb hby (dq dz38 0 0 rfl)) rfl rfl) ?_
  show Go _ _ _ _ _ _ _  s₁ (mkF m 1 #[.val (.ref a1), .val (.int (Int32.ofNat i))] [(.ref a1)])
  obtain ⟨cq1, kq1, q1a, q1b, q1c⟩ := isOf hZ e0 E_a1
  refine Go.pure (w := (some (.int (if own_cd cs = 0 then 1 else 0)))) (rest := []) (pc' := 4) (X0.virtualBack hx (y := mY28) (z := mY28) hown (mvT hZ (hwi hw 227 rfl)) (mvT hZ (hwi hw 228 rfl)) (notFace_of_selects (args := #[]) (mvT hZ (hwi hw 230 rfl))) (mvT hZ (hwi hw 230 rfl)) (mvT hZ (hwi hw 229 rfl)) (by decide) (backOf (W := 0) (rmIsLU l Z a0 hw [] a1 zc t kb cs h0 n0 O S_COMPACT hcs E_a1 C_a1 V_a1 A_t hn) hZ (hwi hw 231 rfl) (hwi hw 6 rfl) (by decide) (by decide)) q1a q1c (g := (mkF m 1 #[.val (.ref a1), .val (.int (Int32.ofNat i))] [(.ref a1)])) rfl (by rw [hml]; rfl) (Steps.refl _) (argsL := []) (rest := []) (lenOf pd___Z rfl) rfl (by show 2 * 0 + _ ≤ _; exact Nat.le_of_eq rfl) (hb hby (dq dz38 1 1 rfl)) (fun _ _ => ⟨rfl, e0, (by decide : 0 + 0 ≤ _), (by decide : 0 + 0 ≤ _)⟩)) (fun _ _ _ q => q) N0 (fun T1 L1 X1 e1q N1 => ?_)
  show Go _ _ _ _ _ _ _  T1 (mkF m 4 #[.val (.ref a1), .val (.int (Int32.ofNat i))] [(.int (if own_cd cs = 0 then 1 else 0))])
  by_cases c4_2 : own_cd cs = 0
  · rw [if_pos c4_2]
    have lcs : own_l1 cs = true := own_l1ot c4_2
    have A_l : Arv Z h0 t kb .byte (Int32.ofNat (cs.map own_lo).length) ((cs.map own_lo).map Value.int) (.int 0) := by rw [← own_byT lcs]; exact A_t
    show Go _ _ _ _ _ _ _  T1 (mkF m 4 #[.val (.ref a1), .val (.int (Int32.ofNat i))] [(.int (1 : Int32))])
    refine Go.st (fun _ => XS.ifNo X1.here hx rfl (hb hby (dq dz38 2 4 rfl)) rfl ((if0 _ _).trans (feq (by decide : ¬ ((1 : Int32) = (0 : Int32)))).1)) ?_
    show Go _ _ _ _ _ _ _  T1 (mkF m 7 #[.val (.ref a1), .val (.int (Int32.ofNat i))] [])
    refine Go.st (fun _ => XS.aloadN X1.here hx rfl (hb hby (dq dz38 3 7 rfl)) rfl rfl) ?_
    show Go _ _ _ _ _ _ _  T1 (mkF m 8 #[.val (.ref a1), .val (.int (Int32.ofNat i))] [(.ref a1)])
    obtain ⟨T3, X3, e3, st3⟩ := getF X1 hx hZ hown (host := "") (Or.inl (hwi hw 32 rfl)) Via.refl e1q V_a1 (g := (mkF m 8 #[.val (.ref a1), .val (.int (Int32.ofNat i))] [(.ref a1)])) rfl rfl (hb hby (dq dz38 4 8 rfl))
    refine Go.st st3 ?_
    show Go _ _ _ _ _ _ _  T3 (mkF m 11 #[.val (.ref a1), .val (.int (Int32.ofNat i))] [(.ref t)])
    refine Go.st (fun _ => XS.iloadN X3.here hx rfl (hb hby (dq dz38 5 11 rfl)) rfl) ?_
    show Go _ _ _ _ _ _ _  T3 (mkF m 12 #[.val (.ref a1), .val (.int (Int32.ofNat i))] [(.int (Int32.ofNat i)), (.ref t)])
    refine Go.pureS (w := (some (.int (own_chr ((cs.map own_lo).getD i 0))))) (rest := []) (pc' := 15) (Jvm.LawKit.callS X3 hx (y := mY27) hown (mvT hZ (hwi hw 232 rfl)) (mvT hZ (hwi hw 233 rfl)) (mvT hZ (hwi hw 234 rfl)) (mvT hZ (hwi hw 235 rfl)) (by decide) (backOf (W := 0) (rmLC l Z a0 hw [] t fm kb (cs.map own_lo) i h0 n0 O S_SIO ref_fm A_l (by rw [List.length_map]; exact hi) (by rw [List.length_map]; omega)) hZ (hwi hw 235 rfl) (hwi hw 234 rfl) (by decide) (by decide)) (g := (mkF m 12 #[.val (.ref a1), .val (.int (Int32.ofNat i))] [(.int (Int32.ofNat i)), (.ref t)])) rfl (by rw [hml]; rfl) (argsL := [(.ref t), (.int (Int32.ofNat i))]) (rest := []) (lenOf pd___BI_C rfl) rfl (by show 2 * 0 + _ ≤ _; exact Nat.le_of_eq rfl) (hb hby (dq dz38 6 12 rfl)) (fun _ _ => ⟨rfl, e3, (by decide : 0 + 0 ≤ _), (by decide : 0 + 0 ≤ _)⟩)) (fun _ _ _ q => q) N1 (fun T4 L4 X4 e4q N4 => ?_)
    show Go _ _ _ _ _ _ _  T4 (mkF m 15 #[.val (.ref a1), .val (.int (Int32.ofNat i))] [(.int (own_chr ((cs.map own_lo).getD i 0)))])
    rw [own_mlo, own_chlo (own_l1g lcs hi) hri]
    show Go _ _ _ _ _ _ _  T4 (mkF m 15 #[.val (.ref a1), .val (.int (Int32.ofNat i))] [(.int (cs.getD i 0))])
    refine Go.retN X4 hlk hx (t := .char) (z' := (cs.getD i 0)) Bd.returns (by simp) (hb hby (dq dz38 7 15 rfl)) (by decide) (by decide) hri ?_
    show Q_rmCAU Z _ _ _ _ _ _ _ h0 n0 _ T4.heap _
    rw [e4q]
    exact ⟨rfl, N4, rfl⟩
  · rw [if_neg c4_2]
    have lcs : own_l1 cs = false := own_l1of c4_2
    have A_l : Arv Z h0 t kb .byte (Int32.ofNat (2 * cs.length)) ((own_ub cs).map Value.int) (.int 0) := by rw [← own_ubl, ← own_byF lcs]; exact A_t
    show Go _ _ _ _ _ _ _  T1 (mkF m 4 #[.val (.ref a1), .val (.int (Int32.ofNat i))] [(.int (0 : Int32))])
    refine Go.st (fun _ => XS.ifYes X1.here hx rfl (pc0 := 4) (pc' := 16) rfl (hb hby (dq dz38 2 4 rfl)) rfl ((if0 _ _).trans (teq (rfl : (0 : Int32) = (0 : Int32))).1) (by decide) (by decide)) ?_
    show Go _ _ _ _ _ _ _  T1 (mkF m 16 #[.val (.ref a1), .val (.int (Int32.ofNat i))] [])
    refine Go.st (fun _ => XS.aloadN X1.here hx rfl (hb hby (dq dz38 8 16 rfl)) rfl rfl) ?_
    show Go _ _ _ _ _ _ _  T1 (mkF m 17 #[.val (.ref a1), .val (.int (Int32.ofNat i))] [(.ref a1)])
    obtain ⟨T5, X5, e5, st5⟩ := getF X1 hx hZ hown (host := "") (Or.inl (hwi hw 32 rfl)) Via.refl e1q V_a1 (g := (mkF m 17 #[.val (.ref a1), .val (.int (Int32.ofNat i))] [(.ref a1)])) rfl rfl (hb hby (dq dz38 9 17 rfl))
    refine Go.st st5 ?_
    show Go _ _ _ _ _ _ _  T5 (mkF m 20 #[.val (.ref a1), .val (.int (Int32.ofNat i))] [(.ref t)])
    refine Go.st (fun _ => XS.iloadN X5.here hx rfl (hb hby (dq dz38 10 20 rfl)) rfl) ?_
    show Go _ _ _ _ _ _ _  T5 (mkF m 21 #[.val (.ref a1), .val (.int (Int32.ofNat i))] [(.int (Int32.ofNat i)), (.ref t)])
    refine Go.pureS (w := (some (.int (cs.getD i 0)))) (rest := []) (pc' := 24) (Jvm.LawKit.callS X5 hx (y := mY48) hown (mvT hZ (hwi hw 296 rfl)) (mvT hZ (hwi hw 297 rfl)) (mvT hZ (hwi hw 21 rfl)) (mvT hZ (hwi hw 298 rfl)) (by decide) (backOf (W := 0) (rmUCA l Z a0 hw [] t fm kb cs i h0 n0 O S_SIO ref_fm S_ad S_hi S_lo A_l hi hn hri) hZ (hwi hw 298 rfl) (hwi hw 21 rfl) (by decide) (by decide)) (g := (mkF m 21 #[.val (.ref a1), .val (.int (Int32.ofNat i))] [(.int (Int32.ofNat i)), (.ref t)])) rfl (by rw [hml]; rfl) (argsL := [(.ref t), (.int (Int32.ofNat i))]) (rest := []) (lenOf pd___BI_C rfl) rfl (by show 2 * 0 + _ ≤ _; exact Nat.le_of_eq rfl) (hb hby (dq dz38 11 21 rfl)) (fun _ _ => ⟨rfl, e5, (by decide : 0 + 0 ≤ _), (by decide : 0 + 0 ≤ _)⟩)) (fun _ _ _ q => q) N1 (fun T6 L6 X6 e6q N6 => ?_)
    show Go _ _ _ _ _ _ _  T6 (mkF m 24 #[.val (.ref a1), .val (.int (Int32.ofNat i))] [(.int (cs.getD i 0))])
    refine Go.retN X6 hlk hx (t := .char) (z' := (cs.getD i 0)) Bd.returns (by simp) (hb hby (dq dz38 12 24 rfl)) (by decide) (by decide) hri ?_
    show Q_rmCAU Z _ _ _ _ _ _ _ h0 n0 _ T6.heap _
    rw [e6q]
    exact ⟨rfl, N6, rfl⟩
def Q_rmE4 (Z : State) (a1 : Addr) (a2 : Addr) (u1 : Value) (u2 : Value) (h0 : Heap) (n0 : Nat) (v : Option Value) (h : Heap) (L : List Loc) : Prop := v = none ∧ Fr n0 L ∧ Keep h0 h [a1] ∧ Exa Z h a1 "java/lang/String" ∧ Fld Z h a1 "java/lang/String" "coder" "B" (.int 0) ∧ ∃ (t : Addr) (kb : ClassId), Fld Z h a1 "java/lang/String" "value" "[B" (.ref t) ∧ Arv Z h t kb .byte 0 [] (.int 0)
theorem rmE4 (l : Launch) (Z : State) (a0 : Array Value) (hw : HWt a0 Z) (ws : List Jvm.Cond) (a1 : Addr) (a2 : Addr) (u1 : Value) (u2 : Value) (h0 : Heap) (n0 : Nat) (O : Old Z n0 h0) (hEL : EW Z a0 EL) (wS : ∀ a ∈ Bundle.stringAtoms, a.before a0 Z = true) (E_a1 : Exa Z h0 a1 "java/lang/String") (F_value_a1 : Fld Z h0 a1 "java/lang/String" "value" "[B" u1) (F_coder_a1 : Fld Z h0 a1 "java/lang/String" "coder" "B" u2) (g_a1 : n0 ≤ a1) :
    MetFree l mY38 (head1 (Jvm.Cond.code mY38 jdk_42_method_149_code 6 none :: ws) rz1_4_8_12) (fun a U => a = #[(.ref a1), (.ref a2), (.int (0 : Int32)), (.int (0 : Int32)), .null] ∧ Z.Warmed39 U.vm ∧ U.heap = h0 ∧ CHv Z EL U.vm h0 ∧ ∀ x ∈ ([a1] : List Addr), Safe Z EL U.vm h0 x) (fun _ _ _ _ _ => True) (fun _ U o U' => ∃ v L, o = .returned v ∧ Q_rmE4 Z a1 a2 u1 u2 h0 n0 v U'.heap L ∧ CHr Z EL U.vm U.heap U'.vm U'.heap ∧ ReturnedEndW U o U' L rz1_4_8_12.cells rz1_4_8_12.slots) := by
  refine MetFree.of_bodySF (plainFor_of_name pn_3) hisR ?_
  intro p e s m args below meth c s₁ Bd hml0 hP hK
  obtain ⟨rfl, hZ, hh, HH, hSF⟩ := hP
  have hx := Bd.exec
  have hby := Bd.bytes
  have hml : c.maxLocals = 6 := hml0
  have hown : s.vm.findClass "java/lang/String" = some m.cls := findClass_of_methodNamed Bd.named
  have hnm := (name_of_methodNamed Bd.named Bd.method).1
  have hlk : meth.locks = false := BodyLoose.notSynchronized Bd
  have X0 : Stand p l e rz1_4_8_12 (s.setVm s.vm) m #[(.ref a1), (.ref a2), (.int (0 : Int32)), (.int (0 : Int32)), .null] below meth c s₁ [] 0 0 := Stand.of_body Bd
  have e0 : s₁.heap = h0 := by rw [← hh, Bd.state]; rfl
  have N0 := Fr.nil n0
  have KK : Keep h0 h0 [a1] := Keep.refl h0 _
  have hS : s.Since s.vm h0.size := own_since s _
  have hk : h0.size ≤ h0.size := Nat.le_refl _
  have RR : CHr Z EL s.vm h0 s.vm h0 := CHr.refl HH
  have Sf_a1 : Safe Z EL s.vm h0 a1 := hSF _ (List.mem_of_getElem? (i := 0) rfl)
  suffices hgo : GoH p e below s rz1_4_8_12.cells rz1_4_8_12.slots Z h0 EL (Q_rmE4 Z a1 a2 u1 u2 h0 n0) s₁ (entryFrame m #[(.ref a1), (.ref a2), (.int (0 : Int32)), (.int (0 : Int32)), .null] 6) by
    obtain ⟨s₂, o, q1, q2, q3, v, L, q4, q5, q6, q7⟩ := hgo; exact ⟨s₂, o, q1, q2, q3, v, L, q4, q5, hh ▸ q6, q7⟩
  refine GoH.eq (ef_rmE4 m a1 a2) ?_
  show GoH _ _ _ _ _ _ _ _ _ _  s₁ (mkF m 0 #[.val (.ref a1), .val (.ref a2), .val (.int (0 : Int32)), .val (.int (0 : Int32)), .val .null, .unset] [])
  refine GoH.st (fun _ => XS.aloadN X0.here hx rfl (hb hby (dq dz3 0 0 rfl)) rfl rfl) ?_
  show GoH _ _ _ _ _ _ _ _ _ _  s₁ (mkF m 1 #[.val (.ref a1), .val (.ref a2), .val (.int (0 : Int32)), .val (.int (0 : Int32)), .val .null, .unset] [(.ref a1)])
  obtain ⟨T1, X1, e1, st1⟩ := initO X0 hx hZ hown (hwi hw 15 rfl) (hwi hw 16 rfl) (hwi hw 17 rfl) e0 (g := (mkF m 1 #[.val (.ref a1), .val (.ref a2), .val (.int (0 : Int32)), .val (.int (0 : Int32)), .val .null, .unset] [(.ref a1)])) rfl (by rw [hml]; rfl) rfl (hb hby (dq dz3 1 1 rfl)) (by decide) (W := 0) (by show 2 * 0 + _ ≤ _; exact Nat.le_of_eq rfl) (by decide)
  refine GoH.st st1 ?_
  show GoH _ _ _ _ _ _ _ _ _ _  T1 (mkF m 4 #[.val (.ref a1), .val (.ref a2), .val (.int (0 : Int32)), .val (.int (0 : Int32)), .val .null, .unset] [])
  refine GoH.st (fun _ => XS.iloadN X1.here hx rfl (hb hby (dq dz3 2 4 rfl)) rfl) ?_
  show GoH _ _ _ _ _ _ _ _ _ _  T1 (mkF m 5 #[.val (.ref a1), .val (.ref a2), .val (.int (0 : Int32)), .val (.int (0 : Int32)), .val .null, .unset] [(.int (0 : Int32))])
  refine GoH.st (fun _ => XS.ifNo X1.here hx rfl (hb hby (dq dz3 3 5 rfl)) rfl ((if0 _ _).trans (teq (rfl : (0 : Int32) = (0 : Int32))).2)) ?_
  show GoH _ _ _ _ _ _ _ _ _ _  T1 (mkF m 8 #[.val (.ref a1), .val (.ref a2), .val (.int (0 : Int32)), .val (.int (0 : Int32)), .val .null, .unset] [])
  refine GoH.st (fun _ => XS.aloadN X1.here hx rfl (hb hby (dq dz3 20 8 rfl)) rfl rfl) ?_
  show GoH _ _ _ _ _ _ _ _ _ _  T1 (mkF m 9 #[.val (.ref a1), .val (.ref a2), .val (.int (0 : Int32)), .val (.int (0 : Int32)), .val .null, .unset] [(.ref a1)])
  obtain ⟨sa2, T2, h2, kk2, sb2, kb2, X2, e2, E2, hS2, hk2, hZ2, ho2, E_sa2, F_coder_sa2, F_value_sa2, V_sb2, la2, lb2, CR2, Lt2, ns2, st2⟩ := ldcCH X1 hx hZ hown (hwi hw 34 rfl) wS e1 hS hk hEL (List.mem_of_getElem? (i := 4) rfl) HH (vs := []) (z := 0) ⟨by decide, by decide⟩ (by decide) rfl (g := (mkF m 9 #[.val (.ref a1), .val (.ref a2), .val (.int (0 : Int32)), .val (.int (0 : Int32)), .val .null, .unset] [(.ref a1)])) rfl (hb hby (dq dz3 21 9 rfl)) (n := 0) (by decide) (by decide) (by decide) (by decide)
  refine GoH.st st2 ?_
  have Sf_a1 := CHr.safe CR2 E_a1.lt Sf_a1
  have E_a1 := E_a1.ext E2
  have F_value_a1 := F_value_a1.ext E2
  have F_coder_a1 := F_coder_a1.ext E2
  have O := O.ext E2
  have KK := KK.ext E2
  have RR := RR.trans CR2
  have HH := CR2.1
  have hS := hS2
  have hk := hk2
  have hZ := hZ2
  have hown := ho2
  obtain ⟨ne_a1_sa2, ne_a1_sb2⟩ := ns2 _ Sf_a1
  show GoH _ _ _ _ _ _ _ _ _ _  T2 (mkF m 11 #[.val (.ref a1), .val (.ref a2), .val (.int (0 : Int32)), .val (.int (0 : Int32)), .val .null, .unset] [(.ref sa2), (.ref a1)])
  obtain ⟨T3, X3, e3, st3⟩ := getF X2 hx hZ hown (host := "") (Or.inl (hwi hw 32 rfl)) Via.refl e2 F_value_sa2 (g := (mkF m 11 #[.val (.ref a1), .val (.ref a2), .val (.int (0 : Int32)), .val (.int (0 : Int32)), .val .null, .unset] [(.ref sa2), (.ref a1)])) rfl rfl (hb hby (dq dz3 22 11 rfl))
  refine GoH.st st3 ?_
  show GoH _ _ _ _ _ _ _ _ _ _  T3 (mkF m 14 #[.val (.ref a1), .val (.ref a2), .val (.int (0 : Int32)), .val (.int (0 : Int32)), .val .null, .unset] [(.ref sb2), (.ref a1)])
  obtain ⟨T4, h4, X4, e4, W4, st4⟩ := putF X3 hx hZ hown (host := "") (Or.inl (hwi hw 32 rfl)) Via.refl e3 F_value_a1 E_a1 (Or.inr ⟨(hwi hw 33 rfl), rfl, hnm⟩) (hwi hw 5 rfl) (ty := (.array .byte)) (by decide) rfl rfl (g := (mkF m 14 #[.val (.ref a1), .val (.ref a2), .val (.int (0 : Int32)), .val (.int (0 : Int32)), .val .null, .unset] [(.ref sb2), (.ref a1)])) rfl rfl (hb hby (dq dz3 23 14 rfl))
  refine GoH.st st4 ?_
  have F_value_a1 : Fld Z h4 a1 "java/lang/String" "value" "[B" (.ref sb2) := F_value_a1.same W4
  have N4 := Fr.snoc X4 N0 g_a1
  have E_a1 := E_a1.wr W4
  have F_coder_a1 := F_coder_a1.other W4 (Or.inr (slot_ne (Or.inr (hwi hw 31 rfl)) (Or.inr (hwi hw 33 rfl)) (by decide) (t := .byte) (t' := (.array .byte)) (by decide) (by decide)))
  have E_sa2 := E_sa2.wr W4
  have V_sb2 := V_sb2.other W4 (Ne.symm ne_a1_sb2)
  have F_coder_sa2 := F_coder_sa2.other W4 (Or.inl (Ne.symm ne_a1_sa2))
  have F_value_sa2 := F_value_sa2.other W4 (Or.inl (Ne.symm ne_a1_sa2))
  have Sf'_a1 := Safe.wr W4 Sf_a1 HH Sf_a1
  have RR := RR.trans (CHr.wr W4 Sf_a1 HH)
  have HH := HH.wr W4 Sf_a1
  have Sf_a1 := Sf'_a1
  have hk := Nat.le_trans hk (Nat.le_of_eq W4.size.symm)
  have O := O.wr W4 g_a1
  have KK := KK.wr W4 (Or.inl (List.mem_of_getElem? (i := 0) rfl))
  show GoH _ _ _ _ _ _ _ _ _ _  T4 (mkF m 17 #[.val (.ref a1), .val (.ref a2), .val (.int (0 : Int32)), .val (.int (0 : Int32)), .val .null, .unset] [])
  refine GoH.st (fun _ => XS.aloadN X4.here hx rfl (hb hby (dq dz3 24 17 rfl)) rfl rfl) ?_
  show GoH _ _ _ _ _ _ _ _ _ _  T4 (mkF m 18 #[.val (.ref a1), .val (.ref a2), .val (.int (0 : Int32)), .val (.int (0 : Int32)), .val .null, .unset] [(.ref a1)])
  obtain ⟨sa5, T5, h5, kk5, sb5, kb5, X5, e5, E5, hS5, hk5, hZ5, ho5, E_sa5, F_coder_sa5, F_value_sa5, V_sb5, la5, lb5, CR5, Lt5, ns5, st5⟩ := ldcCH X4 hx hZ hown (hwi hw 34 rfl) wS e4 hS hk hEL (List.mem_of_getElem? (i := 4) rfl) HH (vs := []) (z := 0) ⟨by decide, by decide⟩ (by decide) rfl (g := (mkF m 18 #[.val (.ref a1), .val (.ref a2), .val (.int (0 : Int32)), .val (.int (0 : Int32)), .val .null, .unset] [(.ref a1)])) rfl (hb hby (dq dz3 25 18 rfl)) (n := 0) (by decide) (by decide) (by decide) (by decide)
  refine GoH.st st5 ?_
  have Sf_a1 := CHr.safe CR5 E_a1.lt Sf_a1
  have E_a1 := E_a1.ext E5
  have F_value_a1 := F_value_a1.ext E5
  have F_coder_a1 := F_coder_a1.ext E5
  have E_sa2 := E_sa2.ext E5
  have V_sb2 := V_sb2.ext E5
  have F_coder_sa2 := F_coder_sa2.ext E5
  have F_value_sa2 := F_value_sa2.ext E5
  have O := O.ext E5
  have KK := KK.ext E5
  have RR := RR.trans CR5
  have HH := CR5.1
  have hS := hS5
  have hk := hk5
  have hZ := hZ5
  have hown := ho5
  obtain ⟨ne_a1_sa5, ne_a1_sb5⟩ := ns5 _ Sf_a1
  show GoH _ _ _ _ _ _ _ _ _ _  T5 (mkF m 20 #[.val (.ref a1), .val (.ref a2), .val (.int (0 : Int32)), .val (.int (0 : Int32)), .val .null, .unset] [(.ref sa5), (.ref a1)])
  obtain ⟨T6, X6, e6, st6⟩ := getF X5 hx hZ hown (host := "") (Or.inl (hwi hw 30 rfl)) Via.refl e5 F_coder_sa5 (g := (mkF m 20 #[.val (.ref a1), .val (.ref a2), .val (.int (0 : Int32)), .val (.int (0 : Int32)), .val .null, .unset] [(.ref sa5), (.ref a1)])) rfl rfl (hb hby (dq dz3 26 20 rfl))
  refine GoH.st st6 ?_
  show GoH _ _ _ _ _ _ _ _ _ _  T6 (mkF m 23 #[.val (.ref a1), .val (.ref a2), .val (.int (0 : Int32)), .val (.int (0 : Int32)), .val .null, .unset] [(.int (0 : Int32)), (.ref a1)])
  obtain ⟨T7, h7, X7, e7, W7, st7⟩ := putFN X6 hx hZ hown (hwi hw 30 rfl) Via.refl e6 F_coder_a1 E_a1 (Or.inr ⟨(hwi hw 31 rfl), rfl, hnm⟩) (hwi hw 5 rfl) (ty := .byte) (v' := .int (0 : Int32)) (by decide) rfl rfl (g := (mkF m 23 #[.val (.ref a1), .val (.ref a2), .val (.int (0 : Int32)), .val (.int (0 : Int32)), .val .null, .unset] [(.int (0 : Int32)), (.ref a1)])) rfl rfl (hb hby (dq dz3 27 23 rfl))
  refine GoH.st st7 ?_
  have F_coder_a1 : Fld Z h7 a1 "java/lang/String" "coder" "B" (.int (0 : Int32)) := F_coder_a1.same W7
  have N7 := Fr.snoc X7 N4 g_a1
  have E_a1 := E_a1.wr W7
  have F_value_a1 := F_value_a1.other W7 (Or.inr (slot_ne (Or.inr (hwi hw 33 rfl)) (Or.inr (hwi hw 31 rfl)) (by decide) (t := (.array .byte)) (t' := .byte) (by decide) (by decide)))
  have E_sa2 := E_sa2.wr W7
  have V_sb2 := V_sb2.other W7 (Ne.symm ne_a1_sb2)
  have F_coder_sa2 := F_coder_sa2.other W7 (Or.inl (Ne.symm ne_a1_sa2))
  have F_value_sa2 := F_value_sa2.other W7 (Or.inl (Ne.symm ne_a1_sa2))
  have E_sa5 := E_sa5.wr W7
  have V_sb5 := V_sb5.other W7 (Ne.symm ne_a1_sb5)
  have F_coder_sa5 := F_coder_sa5.other W7 (Or.inl (Ne.symm ne_a1_sa5))
  have F_value_sa5 := F_value_sa5.other W7 (Or.inl (Ne.symm ne_a1_sa5))
  have Sf'_a1 := Safe.wr W7 Sf_a1 HH Sf_a1
  have RR := RR.trans (CHr.wr W7 Sf_a1 HH)
  have HH := HH.wr W7 Sf_a1
  have Sf_a1 := Sf'_a1
  have hk := Nat.le_trans hk (Nat.le_of_eq W7.size.symm)
  have O := O.wr W7 g_a1
  have KK := KK.wr W7 (Or.inl (List.mem_of_getElem? (i := 0) rfl))
  show GoH _ _ _ _ _ _ _ _ _ _  T7 (mkF m 26 #[.val (.ref a1), .val (.ref a2), .val (.int (0 : Int32)), .val (.int (0 : Int32)), .val .null, .unset] [])
  refine GoH.ret0 X7 hS hk e7 hZ hEL HH RR hlk hx Bd.returns (hb hby (dq dz3 28 26 rfl)) (by decide) (by decide) ?_
  show Q_rmE4 Z _ _ _ _ h0 n0 _ T7.heap _
  rw [e7]
  exact ⟨rfl, N7, KK, E_a1, F_coder_a1, sb2, _, F_value_a1, V_sb2⟩
def Q_rmE (Z : State) (a1 : Addr) (a2 : Addr) (u1 : Value) (u2 : Value) (kC : ClassId) (h0 : Heap) (n0 : Nat) (v : Option Value) (h : Heap) (L : List Loc) : Prop := v = none ∧ Fr n0 L ∧ Keep h0 h [a1] ∧ Exa Z h a1 "java/lang/String" ∧ Fld Z h a1 "java/lang/String" "coder" "B" (.int 0) ∧ ∃ (t : Addr) (kb : ClassId), Fld Z h a1 "java/lang/String" "value" "[B" (.ref t) ∧ Arv Z h t kb .byte 0 [] (.int 0)
theorem rmE (l : Launch) (Z : State) (a0 : Array Value) (hw : HWt a0 Z) (ws : List Jvm.Cond) (a1 : Addr) (a2 : Addr) (u1 : Value) (u2 : Value) (kC : ClassId) (h0 : Heap) (n0 : Nat) (O : Old Z n0 h0) (hEL : EW Z a0 EL) (wS : ∀ a ∈ Bundle.stringAtoms, a.before a0 Z = true) (E_a1 : Exa Z h0 a1 "java/lang/String") (F_value_a1 : Fld Z h0 a1 "java/lang/String" "value" "[B" u1) (F_coder_a1 : Fld Z h0 a1 "java/lang/String" "coder" "B" u2) (g_a1 : n0 ≤ a1) (V_a2 : Arv Z h0 a2 kC .char 0 [] (.int 0)) (ne_a2_a1 : a2 ≠ a1) :
    MetFree l mY39 (head1 (Jvm.Cond.code mY39 jdk_42_method_3_code 2 none :: ws) rz2_4_8_29) (fun a U => a = #[(.ref a1), (.ref a2)] ∧ Z.Warmed39 U.vm ∧ U.heap = h0 ∧ CHv Z EL U.vm h0 ∧ ∀ x ∈ ([a1] : List Addr), Safe Z EL U.vm h0 x) (fun _ _ _ _ _ => True) (fun _ U o U' => ∃ v L, o = .returned v ∧ Q_rmE Z a1 a2 u1 u2 kC h0 n0 v U'.heap L ∧ CHr Z EL U.vm U.heap U'.vm U'.heap ∧ ReturnedEndW U o U' L rz2_4_8_29.cells rz2_4_8_29.slots) := by
  refine MetFree.of_bodySF (plainFor_of_name pn_2) hisR ?_
  intro p e s m args below meth c s₁ Bd hml0 hP hK
  obtain ⟨rfl, hZ, hh, HH, hSF⟩ := hP
  have hx := Bd.exec
  have hby := Bd.bytes
  have hml : c.maxLocals = 2 := hml0
  have hown : s.vm.findClass "java/lang/String" = some m.cls := findClass_of_methodNamed Bd.named
  have hlk : meth.locks = false := BodyLoose.notSynchronized Bd
  have X0 : Stand p l e rz2_4_8_29 (s.setVm s.vm) m #[(.ref a1), (.ref a2)] below meth c s₁ [] 0 0 := Stand.of_body Bd
  have e0 : s₁.heap = h0 := by rw [← hh, Bd.state]; rfl
  have N0 := Fr.nil n0
  have KK : Keep h0 h0 [a1] := Keep.refl h0 _
  have hS : s.Since s.vm h0.size := own_since s _
  have hk : h0.size ≤ h0.size := Nat.le_refl _
  have RR : CHr Z EL s.vm h0 s.vm h0 := CHr.refl HH
  have Sf_a1 : Safe Z EL s.vm h0 a1 := hSF _ (List.mem_of_getElem? (i := 0) rfl)
  suffices hgo : GoH p e below s rz2_4_8_29.cells rz2_4_8_29.slots Z h0 EL (Q_rmE Z a1 a2 u1 u2 kC h0 n0) s₁ (entryFrame m #[(.ref a1), (.ref a2)] 2) by
    obtain ⟨s₂, o, q1, q2, q3, v, L, q4, q5, q6, q7⟩ := hgo; exact ⟨s₂, o, q1, q2, q3, v, L, q4, q5, hh ▸ q6, q7⟩
  refine GoH.eq (ef_rmE m a1 a2) ?_
  show GoH _ _ _ _ _ _ _ _ _ _  s₁ (mkF m 0 #[.val (.ref a1), .val (.ref a2)] [])
  refine GoH.st (fun _ => XS.aloadN X0.here hx rfl (hb hby (dq dz2 0 0 rfl)) rfl rfl) ?_
  refine GoH.st (fun _ => XS.aloadN X0.here hx rfl (hb hby (dq dz2 1 1 rfl)) rfl rfl) ?_
  refine GoH.st (fun _ => XS.iconst X0.here hx rfl (hb hby (dq dz2 2 2 rfl))) ?_
  refine GoH.st (fun _ => XS.aloadN X0.here hx rfl (hb hby (dq dz2 3 3 rfl)) rfl rfl) ?_
  show GoH _ _ _ _ _ _ _ _ _ _  s₁ (mkF m 4 #[.val (.ref a1), .val (.ref a2)] [(.ref a2), (.int (0 : Int32)), (.ref a2), (.ref a1)])
  obtain ⟨cl1, Ar1, q1, S1, M1, Hh1, G1⟩ := id V_a2
  refine GoH.st (X0.arraylength hx (by rw [e0]; exact Ar1.1) (State.isArrayOf_alike hZ.alike Ar1.2.1) (g := (mkF m 4 #[.val (.ref a1), .val (.ref a2)] [(.ref a2), (.int (0 : Int32)), (.ref a2), (.ref a1)])) rfl rfl (hb hby (dq dz2 4 4 rfl))) ?_
  rw [len_of S1 M1]
  show GoH _ _ _ _ _ _ _ _ _ _  s₁ (mkF m 5 #[.val (.ref a1), .val (.ref a2)] [(.int (0 : Int32)), (.int (0 : Int32)), (.ref a2), (.ref a1)])
  refine GoH.st (fun _ => XS.aconstNull X0.here hx rfl (hb hby (dq dz2 5 5 rfl))) ?_
  show GoH _ _ _ _ _ _ _ _ _ _  s₁ (mkF m 6 #[.val (.ref a1), .val (.ref a2)] [.null, (.int (0 : Int32)), (.int (0 : Int32)), (.ref a2), (.ref a1)])
  obtain ⟨_, _, ⟨T2, L2, k2, n2⟩, -, X2, hSn2, hgn2, ⟨Lc2, hQ2, l2, y2, z2, CR2⟩, st2⟩ := X0.specialBackS hx (y := mY38) rfl hown (mvT hZ (hwi hw 11 rfl)) (mvT hZ (hwi hw 12 rfl)) (mvT hZ (hwi hw 14 rfl)) (by decide) (own_backSH (sf := [a1]) (W := 0) (rmE4 l Z a0 hw [] a1 a2 u1 u2 h0 n0 O hEL wS E_a1 F_value_a1 F_coder_a1 g_a1) hZ (hwi hw 14 rfl) (hwi hw 6 rfl) (by decide) (by decide) hEL HH (allS (P := fun x => Safe Z EL s.vm h0 x ∧ x < Array.size h0) ⟨Sf_a1, E_a1.lt⟩ all0)) (g := (mkF m 6 #[.val (.ref a1), .val (.ref a2)] [.null, (.int (0 : Int32)), (.int (0 : Int32)), (.ref a2), (.ref a1)])) rfl (by rw [hml]; rfl) (Steps.refl _) (a := a1) (argsL := [(.ref a2), (.int (0 : Int32)), (.int (0 : Int32)), .null]) (rest := []) (lenOf pd___CIILjava_lang_Void__V rfl) rfl (by show 2 * 0 + _ ≤ _; exact Nat.le_of_eq rfl) (hb hby (dq dz2 6 6 rfl)) (fun _ _ => ⟨rfl, e0, (by decide : 0 + 4 ≤ _), (by decide : 0 + 8 ≤ _)⟩)
  dsimp only [Pt.U, Pt.locs, Pt.cells, Pt.slots] at X2 l2 y2 z2 st2 hQ2 hSn2 hgn2 CR2
  rw [l2, y2, z2] at X2
  have X2 : Stand p l e _ _ m _ below meth c T2 _ 4 8 := X2
  obtain ⟨rfl, N2q, K2q, Eq2, Cq2, t2, kt2, Vq2, Aq2⟩ := hQ2
  have X2 : Stand p l e _ (s.setVm T2.vm) m _ below meth c T2 _ _ _ := X2
  have N2 := Fr.app N0 N2q
  refine GoH.tr st2 ?_
  have hS2 := Jvm.RoadKit.foldS hS (by rw [e0]; exact hk) hSn2 hgn2
  have hZ2 := State.Warmed39.trans (t := s.setVm s.vm) hZ hSn2.1
  have hk2 := Nat.le_refl T2.heap.size
  have hown2 := own_fc hSn2.1 hown
  have Sf_a1 := CHr.safe CR2 E_a1.lt Sf_a1
  have E_a1 := E_a1.keep K2q
  have V_a2 := V_a2.keep K2q (ninS ne_a2_a1 nin0)
  have O := O.keep K2q (allS g_a1 all0)
  have KK := KK.trans K2q (allS (Or.inl (List.mem_of_getElem? (i := 0) rfl)) all0)
  have RR := RR.trans CR2
  have HH := CR2.1
  have hS := hS2
  have hk := hk2
  have hZ := hZ2
  have hown := hown2
  show GoH _ _ _ _ _ _ _ _ _ _  T2 (mkF m 9 #[.val (.ref a1), .val (.ref a2)] [])
  refine GoH.ret0 X2 hS hk rfl hZ hEL HH RR hlk hx Bd.returns (hb hby (dq dz2 7 9 rfl)) (by decide) (by decide) ?_
  show Q_rmE Z _ _ _ _ _ h0 n0 _ T2.heap _
  exact ⟨rfl, N2, KK, Eq2, Cq2, _, _, Vq2, Aq2⟩
def Q_rmTh (Z : State) (a1 : Addr) (msg : Value) (h0 : Heap) (n0 : Nat) (v : Option Value) (h : Heap) (L : List Loc) : Prop := v = none ∧ Fr n0 L ∧ Keep h0 h [a1] ∧ Exa Z h a1 "com/example/keyset/keyset/query/DeclarationException" ∧ Fld Z h a1 "java/lang/Throwable" "detailMessage" "Ljava/lang/String;" msg
theorem rmTh (l : Launch) (Z : State) (a0 : Array Value) (hw : HWt a0 Z) (ws : List Jvm.Cond) (a1 : Addr) (msg : Value) (h0 : Heap) (n0 : Nat) (O : Old Z n0 h0) (hl : l.stackTraces = true) (hr : ∀ d ∈ twoRefs, d.before a0 Z = true) (ref_msg : msg.isRef = true) (E_a1 : Exa Z h0 a1 "com/example/keyset/keyset/query/DeclarationException") (U_a1 : Unt h0 a1) (F_cause_a1 : Fld Z h0 a1 "java/lang/Throwable" "cause" "Ljava/lang/Throwable;" .null) (F_stackTrace_a1 : Fld Z h0 a1 "java/lang/Throwable" "stackTrace" "[Ljava/lang/StackTraceElement;" .null) (F_suppressedExceptions_a1 : Fld Z h0 a1 "java/lang/Throwable" "suppressedExceptions" "Ljava/util/List;" .null) (F_backtrace_a1 : Fld Z h0 a1 "java/lang/Throwable" "backtrace" "Ljava/lang/Object;" .null) (F_detailMessage_a1 : Fld Z h0 a1 "java/lang/Throwable" "detailMessage" "Ljava/lang/String;" .null) (g_a1 : n0 ≤ a1) :
    MetFree l mY49 (head1 (Jvm.Cond.code mY49 jdk_78_method_2_code 2 none :: ws) rz3_1_2752_42) (fun a U => a = #[(.ref a1), msg] ∧ Z.Warmed39 U.vm ∧ U.heap = h0) (fun _ _ bl s _ => s.vm.MethodsKnown ∧ s.vm.FramesKnown bl) (fun _ U o U' => ∃ v L, o = .returned v ∧ Q_rmTh Z a1 msg h0 n0 v U'.heap L ∧ FrameEnd U o U' L rz3_1_2752_42.cells rz3_1_2752_42.slots) := by
  refine MetFree.of_bodySF (plainFor_of_name pn_33) hisR ?_
  intro p e s m args below meth c s₁ Bd hml0 hP hK
  obtain ⟨rfl, hZ, hh⟩ := hP
  have hx := Bd.exec
  have hby := Bd.bytes
  have hml : c.maxLocals = 2 := hml0
  have hown : s.vm.findClass "java/lang/Throwable" = some m.cls := findClass_of_methodNamed Bd.named
  have hlk : meth.locks = false := BodyLoose.notSynchronized Bd
  have X0 : Stand p l e rz3_1_2752_42 s m #[(.ref a1), msg] below meth c s₁ [] 0 0 := Stand.of_body Bd
  have e0 : s₁.heap = h0 := by rw [← hh, Bd.state]; rfl
  have N0 := Fr.nil n0
  have KK : Keep h0 h0 [a1] := Keep.refl h0 _
  show Go p e below s rz3_1_2752_42.cells rz3_1_2752_42.slots (Q_rmTh Z a1 msg h0 n0) s₁ (entryFrame m #[(.ref a1), msg] 2)
  refine Go.eq (ef_rmTh m a1 msg ref_msg) ?_
  have O0 := O
  have TS0 : Jvm.RoadKit.ThS Z s.heap := by rw [hh]; exact Jvm.RoadKit.ThS.start.ext O.2
  obtain ⟨u, eu, ref_u⟩ := isR_v (Cond.before_iff.mp (hr _ (List.mem_of_getElem? (i := 0) rfl)))
  have S_u := Sta.start eu (Or.inr ⟨(hwi hw 173 rfl), (hwi hw 204 rfl)⟩)
  have nar_u : narrow (.array (.object "java/lang/StackTraceElement")) u = u := by rcases ref_cases ref_u with rfl | ⟨_, rfl⟩ <;> rfl
  have fit_u : fits (.array (.object "java/lang/StackTraceElement")) u = true := by rcases ref_cases ref_u with rfl | ⟨_, rfl⟩ <;> rfl
  obtain ⟨u2, eu2, ref_u2⟩ := isR_v (Cond.before_iff.mp (hr _ (List.mem_of_getElem? (i := 1) rfl)))
  have S_u2 := Sta.start eu2 (Or.inr ⟨(hwi hw 173 rfl), (hwi hw 205 rfl)⟩)
  have nar_u2 : narrow (.object "java/util/List") u2 = u2 := by rcases ref_cases ref_u2 with rfl | ⟨_, rfl⟩ <;> rfl
  have fit_u2 : fits (.object "java/util/List") u2 = true := by rcases ref_cases ref_u2 with rfl | ⟨_, rfl⟩ <;> rfl
  have nar_msg : narrow (.object "java/lang/String") msg = msg := by rcases ref_cases ref_msg with rfl | ⟨_, rfl⟩ <;> rfl
  have fit_msg : fits (.object "java/lang/String") msg = true := by rcases ref_cases ref_msg with rfl | ⟨_, rfl⟩ <;> rfl
  show Go _ _ _ _ _ _ _  s₁ (mkF m 0 #[.val (.ref a1), .val msg] [])
  refine Go.st (fun _ => XS.aloadN X0.here hx rfl (hb hby (dq dz33 0 0 rfl)) rfl rfl) ?_
  show Go _ _ _ _ _ _ _  s₁ (mkF m 1 #[.val (.ref a1), .val msg] [(.ref a1)])
  obtain ⟨T1, X1, e1, st1⟩ := initO X0 hx hZ hown (hwi hw 175 rfl) (hwi hw 16 rfl) (hwi hw 17 rfl) e0 (g := (mkF m 1 #[.val (.ref a1), .val msg] [(.ref a1)])) rfl (by rw [hml]; rfl) rfl (hb hby (dq dz33 1 1 rfl)) (by decide) (W := 0) (by show 2 * 0 + _ ≤ _; exact Nat.le_of_eq rfl) (by decide)
  refine Go.st st1 ?_
  show Go _ _ _ _ _ _ _  T1 (mkF m 4 #[.val (.ref a1), .val msg] [])
  refine Go.st (fun _ => XS.aloadN X1.here hx rfl (hb hby (dq dz33 2 4 rfl)) rfl rfl) ?_
  refine Go.st (fun _ => XS.aloadN X1.here hx rfl (hb hby (dq dz33 3 5 rfl)) rfl rfl) ?_
  show Go _ _ _ _ _ _ _  T1 (mkF m 6 #[.val (.ref a1), .val msg] [(.ref a1), (.ref a1)])
  obtain ⟨T2, h2, X2, e2, W2, st2⟩ := putF X1 hx hZ hown (host := "") (Or.inl (hwi hw 176 rfl)) Via.refl e1 F_cause_a1 E_a1 (Or.inl (hwi hw 177 rfl)) (hwi hw 42 rfl) (ty := (.object "java/lang/Throwable")) (by decide) rfl rfl (g := (mkF m 6 #[.val (.ref a1), .val msg] [(.ref a1), (.ref a1)])) rfl rfl (hb hby (dq dz33 4 6 rfl))
  refine Go.st st2 ?_
  have F_cause_a1 : Fld Z h2 a1 "java/lang/Throwable" "cause" "Ljava/lang/Throwable;" (.ref a1) := F_cause_a1.same W2
  have N2 := Fr.snoc X2 N0 g_a1
  have E_a1 := E_a1.wr W2
  have U_a1 := U_a1.wr W2
  have F_stackTrace_a1 := F_stackTrace_a1.other W2 (Or.inr (slot_ne (Or.inl (hwi hw 180 rfl)) (Or.inl (hwi hw 177 rfl)) (by decide) (t := (.array (.object "java/lang/StackTraceElement"))) (t' := (.object "java/lang/Throwable")) (by decide) (by decide)))
  have F_suppressedExceptions_a1 := F_suppressedExceptions_a1.other W2 (Or.inr (slot_ne (Or.inl (hwi hw 183 rfl)) (Or.inl (hwi hw 177 rfl)) (by decide) (t := (.object "java/util/List")) (t' := (.object "java/lang/Throwable")) (by decide) (by decide)))
  have F_backtrace_a1 := F_backtrace_a1.other W2 (Or.inr (slot_ne (Or.inl (hwi hw 208 rfl)) (Or.inl (hwi hw 177 rfl)) (by decide) (t := (.object "java/lang/Object")) (t' := (.object "java/lang/Throwable")) (by decide) (by decide)))
  have F_detailMessage_a1 := F_detailMessage_a1.other W2 (Or.inr (slot_ne (Or.inl (hwi hw 207 rfl)) (Or.inl (hwi hw 177 rfl)) (by decide) (t := (.object "java/lang/String")) (t' := (.object "java/lang/Throwable")) (by decide) (by decide)))
  have O := O.wr W2 g_a1
  have KK := KK.wr W2 (Or.inl (List.mem_of_getElem? (i := 0) rfl))
  show Go _ _ _ _ _ _ _  T2 (mkF m 9 #[.val (.ref a1), .val msg] [])
  refine Go.st (fun _ => XS.aloadN X2.here hx rfl (hb hby (dq dz33 5 9 rfl)) rfl rfl) ?_
  show Go _ _ _ _ _ _ _  T2 (mkF m 10 #[.val (.ref a1), .val msg] [(.ref a1)])
  obtain ⟨T3, X3, e3, st3⟩ := getS2 X2 hx hZ hown (host := "") (Or.inl (hwi hw 178 rfl)) Via.refl e2 (S_u.ext O.2) (g := (mkF m 10 #[.val (.ref a1), .val msg] [(.ref a1)])) rfl (hb hby (dq dz33 6 10 rfl))
  refine Go.st st3 ?_
  show Go _ _ _ _ _ _ _  T3 (mkF m 13 #[.val (.ref a1), .val msg] [u, (.ref a1)])
  obtain ⟨T4, h4, X4, e4, W4, st4⟩ := putF X3 hx hZ hown (host := "") (Or.inl (hwi hw 179 rfl)) Via.refl e3 F_stackTrace_a1 E_a1 (Or.inl (hwi hw 180 rfl)) (hwi hw 42 rfl) (ty := (.array (.object "java/lang/StackTraceElement"))) (by decide) nar_u fit_u (g := (mkF m 13 #[.val (.ref a1), .val msg] [u, (.ref a1)])) rfl rfl (hb hby (dq dz33 7 13 rfl))
  refine Go.st st4 ?_
  have F_stackTrace_a1 : Fld Z h4 a1 "java/lang/Throwable" "stackTrace" "[Ljava/lang/StackTraceElement;" u := F_stackTrace_a1.same W4
  have N4 := Fr.snoc X4 N2 g_a1
  have E_a1 := E_a1.wr W4
  have U_a1 := U_a1.wr W4
  have F_cause_a1 := F_cause_a1.other W4 (Or.inr (slot_ne (Or.inl (hwi hw 177 rfl)) (Or.inl (hwi hw 180 rfl)) (by decide) (t := (.object "java/lang/Throwable")) (t' := (.array (.object "java/lang/StackTraceElement"))) (by decide) (by decide)))
  have F_suppressedExceptions_a1 := F_suppressedExceptions_a1.other W4 (Or.inr (slot_ne (Or.inl (hwi hw 183 rfl)) (Or.inl (hwi hw 180 rfl)) (by decide) (t := (.object "java/util/List")) (t' := (.array (.object "java/lang/StackTraceElement"))) (by decide) (by decide)))
  have F_backtrace_a1 := F_backtrace_a1.other W4 (Or.inr (slot_ne (Or.inl (hwi hw 208 rfl)) (Or.inl (hwi hw 180 rfl)) (by decide) (t := (.object "java/lang/Object")) (t' := (.array (.object "java/lang/StackTraceElement"))) (by decide) (by decide)))
  have F_detailMessage_a1 := F_detailMessage_a1.other W4 (Or.inr (slot_ne (Or.inl (hwi hw 207 rfl)) (Or.inl (hwi hw 180 rfl)) (by decide) (t := (.object "java/lang/String")) (t' := (.array (.object "java/lang/StackTraceElement"))) (by decide) (by decide)))
  have O := O.wr W4 g_a1
  have KK := KK.wr W4 (Or.inl (List.mem_of_getElem? (i := 0) rfl))
  show Go _ _ _ _ _ _ _  T4 (mkF m 16 #[.val (.ref a1), .val msg] [])
  refine Go.st (fun _ => XS.aloadN X4.here hx rfl (hb hby (dq dz33 8 16 rfl)) rfl rfl) ?_
  show Go _ _ _ _ _ _ _  T4 (mkF m 17 #[.val (.ref a1), .val msg] [(.ref a1)])
  obtain ⟨T5, X5, e5, st5⟩ := getS2 X4 hx hZ hown (host := "") (Or.inl (hwi hw 181 rfl)) Via.refl e4 (S_u2.ext O.2) (g := (mkF m 17 #[.val (.ref a1), .val msg] [(.ref a1)])) rfl (hb hby (dq dz33 9 17 rfl))
  refine Go.st st5 ?_
  show Go _ _ _ _ _ _ _  T5 (mkF m 20 #[.val (.ref a1), .val msg] [u2, (.ref a1)])
  obtain ⟨T6, h6, X6, e6, W6, st6⟩ := putF X5 hx hZ hown (host := "") (Or.inl (hwi hw 182 rfl)) Via.refl e5 F_suppressedExceptions_a1 E_a1 (Or.inl (hwi hw 183 rfl)) (hwi hw 42 rfl) (ty := (.object "java/util/List")) (by decide) nar_u2 fit_u2 (g := (mkF m 20 #[.val (.ref a1), .val msg] [u2, (.ref a1)])) rfl rfl (hb hby (dq dz33 10 20 rfl))
  refine Go.st st6 ?_
  have F_suppressedExceptions_a1 : Fld Z h6 a1 "java/lang/Throwable" "suppressedExceptions" "Ljava/util/List;" u2 := F_suppressedExceptions_a1.same W6
  have N6 := Fr.snoc X6 N4 g_a1
  have E_a1 := E_a1.wr W6
  have U_a1 := U_a1.wr W6
  have F_cause_a1 := F_cause_a1.other W6 (Or.inr (slot_ne (Or.inl (hwi hw 177 rfl)) (Or.inl (hwi hw 183 rfl)) (by decide) (t := (.object "java/lang/Throwable")) (t' := (.object "java/util/List")) (by decide) (by decide)))
  have F_stackTrace_a1 := F_stackTrace_a1.other W6 (Or.inr (slot_ne (Or.inl (hwi hw 180 rfl)) (Or.inl (hwi hw 183 rfl)) (by decide) (t := (.array (.object "java/lang/StackTraceElement"))) (t' := (.object "java/util/List")) (by decide) (by decide)))
  have F_backtrace_a1 := F_backtrace_a1.other W6 (Or.inr (slot_ne (Or.inl (hwi hw 208 rfl)) (Or.inl (hwi hw 183 rfl)) (by decide) (t := (.object "java/lang/Object")) (t' := (.object "java/util/List")) (by decide) (by decide)))
  have F_detailMessage_a1 := F_detailMessage_a1.other W6 (Or.inr (slot_ne (Or.inl (hwi hw 207 rfl)) (Or.inl (hwi hw 183 rfl)) (by decide) (t := (.object "java/lang/String")) (t' := (.object "java/util/List")) (by decide) (by decide)))
  have O := O.wr W6 g_a1
  have KK := KK.wr W6 (Or.inl (List.mem_of_getElem? (i := 0) rfl))
  show Go _ _ _ _ _ _ _  T6 (mkF m 23 #[.val (.ref a1), .val msg] [])
  refine Go.st (fun _ => XS.aloadN X6.here hx rfl (hb hby (dq dz33 11 23 rfl)) rfl rfl) ?_
  show Go _ _ _ _ _ _ _  T6 (mkF m 24 #[.val (.ref a1), .val msg] [(.ref a1)])
  obtain ⟨T7, L7, X7, bs7, KP7, Ex7, Mx7, st7⟩ := own_fill X6 hx hl hZ hown (fun d hd => hw d ((by decide +kernel : ∀ d ∈ own_thrL "com/example/keyset/keyset/query/DeclarationException" ++ own_filL "com/example/keyset/keyset/query/DeclarationException", d ∈ tables_1) d hd)) (hwi hw 42 rfl) TS0 hK.1 hK.2 e6 (by intro y hy; simp only [List.nil_append, List.mem_append, List.mem_cons, List.not_mem_nil, or_false] at hy; rcases hy with (rfl | rfl) | rfl <;> rfl) E_a1 U_a1 F_backtrace_a1 F_detailMessage_a1 ref_u F_stackTrace_a1 (S_u.ext O.2) (g := (mkF m 24 #[.val (.ref a1), .val msg] [(.ref a1)])) rfl (by rw [hml]; rfl) (rest := []) rfl (hb hby (dq dz33 12 24 rfl)) (W := 0) (by show 2 * 0 + _ ≤ _; exact Nat.le_of_eq rfl) (by decide) (by decide) (by decide) (by decide)
  refine Go.tr st7 ?_
  rw [hh] at KP7
  have N7 : Fr n0 L7 := fun y hy => by rw [bs7 y hy]; exact g_a1
  have O := O0.keep KP7 (allS g_a1 all0)
  have KK := KP7
  have E_a1 := Ex7
  have F_detailMessage_a1 := Mx7
  refine Go.st (fun _ => XS.pop X7.here hx rfl (hb hby (dq dz33 13 27 rfl)) rfl rfl) ?_
  refine Go.st (fun _ => XS.aloadN X7.here hx rfl (hb hby (dq dz33 14 28 rfl)) rfl rfl) ?_
  refine Go.st (fun _ => XS.aloadN X7.here hx rfl (hb hby (dq dz33 15 29 rfl)) rfl ref_msg) ?_
  show Go _ _ _ _ _ _ _  T7 (mkF m 30 #[.val (.ref a1), .val msg] [msg, (.ref a1)])
  obtain ⟨T8, h8, X8, e8, W8, st8⟩ := putF X7 hx hZ hown (host := "") (Or.inl (hwi hw 211 rfl)) Via.refl rfl F_detailMessage_a1 E_a1 (Or.inl (hwi hw 207 rfl)) (hwi hw 42 rfl) (ty := (.object "java/lang/String")) (by decide) nar_msg fit_msg (g := (mkF m 30 #[.val (.ref a1), .val msg] [msg, (.ref a1)])) rfl rfl (hb hby (dq dz33 16 30 rfl))
  refine Go.st st8 ?_
  have F_detailMessage_a1 : Fld Z h8 a1 "java/lang/Throwable" "detailMessage" "Ljava/lang/String;" msg := F_detailMessage_a1.same W8
  have N8 := Fr.snoc X8 N7 g_a1
  have E_a1 := E_a1.wr W8
  have O := O.wr W8 g_a1
  have KK := KK.wr W8 (Or.inl (List.mem_of_getElem? (i := 0) rfl))
  show Go _ _ _ _ _ _ _  T8 (mkF m 33 #[.val (.ref a1), .val msg] [])
  refine Go.ret0 X8 hlk hx Bd.returns (hb hby (dq dz33 17 33 rfl)) (by decide) (by decide) ?_
  show Q_rmTh Z _ _ h0 n0 _ T8.heap _
  rw [e8]
  exact ⟨rfl, N8, KK, E_a1, F_detailMessage_a1⟩
def Q_rmEx (Z : State) (a1 : Addr) (msg : Value) (h0 : Heap) (n0 : Nat) (v : Option Value) (h : Heap) (L : List Loc) : Prop := v = none ∧ Fr n0 L ∧ Keep h0 h [a1] ∧ Exa Z h a1 "com/example/keyset/keyset/query/DeclarationException" ∧ Fld Z h a1 "java/lang/Throwable" "detailMessage" "Ljava/lang/String;" msg
theorem rmEx (l : Launch) (Z : State) (a0 : Array Value) (hw : HWt a0 Z) (ws : List Jvm.Cond) (a1 : Addr) (msg : Value) (h0 : Heap) (n0 : Nat) (O : Old Z n0 h0) (hl : l.stackTraces = true) (hr : ∀ d ∈ twoRefs, d.before a0 Z = true) (ref_msg : msg.isRef = true) (E_a1 : Exa Z h0 a1 "com/example/keyset/keyset/query/DeclarationException") (U_a1 : Unt h0 a1) (F_cause_a1 : Fld Z h0 a1 "java/lang/Throwable" "cause" "Ljava/lang/Throwable;" .null) (F_stackTrace_a1 : Fld Z h0 a1 "java/lang/Throwable" "stackTrace" "[Ljava/lang/StackTraceElement;" .null) (F_suppressedExceptions_a1 : Fld Z h0 a1 "java/lang/Throwable" "suppressedExceptions" "Ljava/util/List;" .null) (F_backtrace_a1 : Fld Z h0 a1 "java/lang/Throwable" "backtrace" "Ljava/lang/Object;" .null) (F_detailMessage_a1 : Fld Z h0 a1 "java/lang/Throwable" "detailMessage" "Ljava/lang/String;" .null) (g_a1 : n0 ≤ a1) :
    MetFree l mY50 (head1 (Jvm.Cond.code mY50 jdk_59_method_2_code 2 none :: ws) rz4_1_2752_55) (fun a U => a = #[(.ref a1), msg] ∧ Z.Warmed39 U.vm ∧ U.heap = h0) (fun _ _ bl s _ => s.vm.MethodsKnown ∧ s.vm.FramesKnown bl) (fun _ U o U' => ∃ v L, o = .returned v ∧ Q_rmEx Z a1 msg h0 n0 v U'.heap L ∧ FrameEnd U o U' L rz4_1_2752_55.cells rz4_1_2752_55.slots) := by
  refine MetFree.of_bodySF (plainFor_of_name pn_32) hisR ?_
  intro p e s m args below meth c s₁ Bd hml0 hP hK
  obtain ⟨rfl, hZ, hh⟩ := hP
  have hx := Bd.exec
  have hby := Bd.bytes
  have hml : c.maxLocals = 2 := hml0
  have hown : s.vm.findClass "java/lang/Exception" = some m.cls := findClass_of_methodNamed Bd.named
  have hlk : meth.locks = false := BodyLoose.notSynchronized Bd
  have X0 : Stand p l e rz4_1_2752_55 s m #[(.ref a1), msg] below meth c s₁ [] 0 0 := Stand.of_body Bd
  have e0 : s₁.heap = h0 := by rw [← hh, Bd.state]; rfl
  have N0 := Fr.nil n0
  have KK : Keep h0 h0 [a1] := Keep.refl h0 _
  show Go p e below s rz4_1_2752_55.cells rz4_1_2752_55.slots (Q_rmEx Z a1 msg h0 n0) s₁ (entryFrame m #[(.ref a1), msg] 2)
  refine Go.eq (ef_rmEx m a1 msg ref_msg) ?_
  show Go _ _ _ _ _ _ _  s₁ (mkF m 0 #[.val (.ref a1), .val msg] [])
  refine Go.st (fun _ => XS.aloadN X0.here hx rfl (hb hby (dq dz32 0 0 rfl)) rfl rfl) ?_
  refine Go.st (fun _ => XS.aloadN X0.here hx rfl (hb hby (dq dz32 1 1 rfl)) rfl ref_msg) ?_
  show Go _ _ _ _ _ _ _  s₁ (mkF m 2 #[.val (.ref a1), .val msg] [msg, (.ref a1)])
  obtain ⟨_, _, ⟨T1, L1, k1, n1⟩, -, X1, ⟨Lc1, hQ1, l1, y1, z1⟩, st1⟩ := X0.specialBack hx (y := mY49) rfl hown (mvT hZ (hwi hw 169 rfl)) (mvT hZ (hwi hw 170 rfl)) (mvT hZ (hwi hw 174 rfl)) (by decide) (backOfKL (W := 0) (rmTh l Z a0 hw [] a1 msg h0 n0 O hl hr ref_msg E_a1 U_a1 F_cause_a1 F_stackTrace_a1 F_suppressedExceptions_a1 F_backtrace_a1 F_detailMessage_a1 g_a1) hZ (hwi hw 174 rfl) (hwi hw 173 rfl) (by decide) (by decide) hK.1 hK.2) (g := (mkF m 2 #[.val (.ref a1), .val msg] [msg, (.ref a1)])) rfl (by rw [hml]; rfl) (Steps.refl _) (a := a1) (argsL := [msg]) (rest := []) (lenOf pd__Ljava_lang_String__V rfl) rfl (by show 2 * 0 + _ ≤ _; exact Nat.le_of_eq rfl) (hb hby (dq dz32 2 2 rfl)) (fun _ _ => ⟨rfl, e0, (by decide : 0 + 1 ≤ _), (by decide : 0 + 2752 ≤ _)⟩)
  dsimp only [Pt.U, Pt.locs, Pt.cells, Pt.slots] at X1 l1 y1 z1 st1 hQ1
  rw [l1, y1, z1] at X1
  have X1 : Stand p l e _ _ m _ below meth c T1 _ 1 2752 := X1
  obtain ⟨rfl, N1q, K1q, Eq1, Mq1⟩ := hQ1
  have N1 := Fr.app N0 N1q
  refine Go.tr st1 ?_
  have E_a1 := E_a1.keep K1q
  have O := O.keep K1q (allS g_a1 all0)
  have KK := KK.trans K1q (allS (Or.inl (List.mem_of_getElem? (i := 0) rfl)) all0)
  have E_a1 := Eq1
  show Go _ _ _ _ _ _ _  T1 (mkF m 5 #[.val (.ref a1), .val msg] [])
  refine Go.ret0 X1 hlk hx Bd.returns (hb hby (dq dz32 3 5 rfl)) (by decide) (by decide) ?_
  show Q_rmEx Z _ _ h0 n0 _ T1.heap _
  exact ⟨rfl, N1, KK, E_a1, Mq1⟩
def Q_rmRt (Z : State) (a1 : Addr) (msg : Value) (h0 : Heap) (n0 : Nat) (v : Option Value) (h : Heap) (L : List Loc) : Prop := v = none ∧ Fr n0 L ∧ Keep h0 h [a1] ∧ Exa Z h a1 "com/example/keyset/keyset/query/DeclarationException" ∧ Fld Z h a1 "java/lang/Throwable" "detailMessage" "Ljava/lang/String;" msg
theorem rmRt (l : Launch) (Z : State) (a0 : Array Value) (hw : HWt a0 Z) (ws : List Jvm.Cond) (a1 : Addr) (msg : Value) (h0 : Heap) (n0 : Nat) (O : Old Z n0 h0) (hl : l.stackTraces = true) (hr : ∀ d ∈ twoRefs, d.before a0 Z = true) (ref_msg : msg.isRef = true) (E_a1 : Exa Z h0 a1 "com/example/keyset/keyset/query/DeclarationException") (U_a1 : Unt h0 a1) (F_cause_a1 : Fld Z h0 a1 "java/lang/Throwable" "cause" "Ljava/lang/Throwable;" .null) (F_stackTrace_a1 : Fld Z h0 a1 "java/lang/Throwable" "stackTrace" "[Ljava/lang/StackTraceElement;" .null) (F_suppressedExceptions_a1 : Fld Z h0 a1 "java/lang/Throwable" "suppressedExceptions" "Ljava/util/List;" .null) (F_backtrace_a1 : Fld Z h0 a1 "java/lang/Throwable" "backtrace" "Ljava/lang/Object;" .null) (F_detailMessage_a1 : Fld Z h0 a1 "java/lang/Throwable" "detailMessage" "Ljava/lang/String;" .null) (g_a1 : n0 ≤ a1) :
    MetFree l mY51 (head1 (Jvm.Cond.code mY51 jdk_58_method_2_code 2 none :: ws) rz5_1_2752_68) (fun a U => a = #[(.ref a1), msg] ∧ Z.Warmed39 U.vm ∧ U.heap = h0) (fun _ _ bl s _ => s.vm.MethodsKnown ∧ s.vm.FramesKnown bl) (fun _ U o U' => ∃ v L, o = .returned v ∧ Q_rmRt Z a1 msg h0 n0 v U'.heap L ∧ FrameEnd U o U' L rz5_1_2752_68.cells rz5_1_2752_68.slots) := by
  refine MetFree.of_bodySF (plainFor_of_name pn_31) hisR ?_
  intro p e s m args below meth c s₁ Bd hml0 hP hK
  obtain ⟨rfl, hZ, hh⟩ := hP
  have hx := Bd.exec
  have hby := Bd.bytes
  have hml : c.maxLocals = 2 := hml0
  have hown : s.vm.findClass "java/lang/RuntimeException" = some m.cls := findClass_of_methodNamed Bd.named
  have hlk : meth.locks = false := BodyLoose.notSynchronized Bd
  have X0 : Stand p l e rz5_1_2752_68 s m #[(.ref a1), msg] below meth c s₁ [] 0 0 := Stand.of_body Bd
  have e0 : s₁.heap = h0 := by rw [← hh, Bd.state]; rfl
  have N0 := Fr.nil n0
  have KK : Keep h0 h0 [a1] := Keep.refl h0 _
  show Go p e below s rz5_1_2752_68.cells rz5_1_2752_68.slots (Q_rmRt Z a1 msg h0 n0) s₁ (entryFrame m #[(.ref a1), msg] 2)
  refine Go.eq (ef_rmRt m a1 msg ref_msg) ?_
  show Go _ _ _ _ _ _ _  s₁ (mkF m 0 #[.val (.ref a1), .val msg] [])
  refine Go.st (fun _ => XS.aloadN X0.here hx rfl (hb hby (dq dz31 0 0 rfl)) rfl rfl) ?_
  refine Go.st (fun _ => XS.aloadN X0.here hx rfl (hb hby (dq dz31 1 1 rfl)) rfl ref_msg) ?_
  show Go _ _ _ _ _ _ _  s₁ (mkF m 2 #[.val (.ref a1), .val msg] [msg, (.ref a1)])
  obtain ⟨_, _, ⟨T1, L1, k1, n1⟩, -, X1, ⟨Lc1, hQ1, l1, y1, z1⟩, st1⟩ := X0.specialBack hx (y := mY50) rfl hown (mvT hZ (hwi hw 163 rfl)) (mvT hZ (hwi hw 164 rfl)) (mvT hZ (hwi hw 168 rfl)) (by decide) (backOfKL (W := 0) (rmEx l Z a0 hw [] a1 msg h0 n0 O hl hr ref_msg E_a1 U_a1 F_cause_a1 F_stackTrace_a1 F_suppressedExceptions_a1 F_backtrace_a1 F_detailMessage_a1 g_a1) hZ (hwi hw 168 rfl) (hwi hw 167 rfl) (by decide) (by decide) hK.1 hK.2) (g := (mkF m 2 #[.val (.ref a1), .val msg] [msg, (.ref a1)])) rfl (by rw [hml]; rfl) (Steps.refl _) (a := a1) (argsL := [msg]) (rest := []) (lenOf pd__Ljava_lang_String__V rfl) rfl (by show 2 * 0 + _ ≤ _; exact Nat.le_of_eq rfl) (hb hby (dq dz31 2 2 rfl)) (fun _ _ => ⟨rfl, e0, (by decide : 0 + 1 ≤ _), (by decide : 0 + 2752 ≤ _)⟩)
  dsimp only [Pt.U, Pt.locs, Pt.cells, Pt.slots] at X1 l1 y1 z1 st1 hQ1
  rw [l1, y1, z1] at X1
  have X1 : Stand p l e _ _ m _ below meth c T1 _ 1 2752 := X1
  obtain ⟨rfl, N1q, K1q, Eq1, Mq1⟩ := hQ1
  have N1 := Fr.app N0 N1q
  refine Go.tr st1 ?_
  have E_a1 := E_a1.keep K1q
  have O := O.keep K1q (allS g_a1 all0)
  have KK := KK.trans K1q (allS (Or.inl (List.mem_of_getElem? (i := 0) rfl)) all0)
  have E_a1 := Eq1
  show Go _ _ _ _ _ _ _  T1 (mkF m 5 #[.val (.ref a1), .val msg] [])
  refine Go.ret0 X1 hlk hx Bd.returns (hb hby (dq dz31 3 5 rfl)) (by decide) (by decide) ?_
  show Q_rmRt Z _ _ h0 n0 _ T1.heap _
  exact ⟨rfl, N1, KK, E_a1, Mq1⟩
def Q_rmDc (Z : State) (a1 : Addr) (msg : Value) (h0 : Heap) (n0 : Nat) (v : Option Value) (h : Heap) (L : List Loc) : Prop := v = none ∧ Fr n0 L ∧ Keep h0 h [a1] ∧ Exa Z h a1 "com/example/keyset/keyset/query/DeclarationException" ∧ Fld Z h a1 "java/lang/Throwable" "detailMessage" "Ljava/lang/String;" msg
theorem rmDc (l : Launch) (Z : State) (a0 : Array Value) (hw : HWt a0 Z) (ws : List Jvm.Cond) (a1 : Addr) (msg : Value) (h0 : Heap) (n0 : Nat) (O : Old Z n0 h0) (hl : l.stackTraces = true) (hr : ∀ d ∈ twoRefs, d.before a0 Z = true) (ref_msg : msg.isRef = true) (E_a1 : Exa Z h0 a1 "com/example/keyset/keyset/query/DeclarationException") (U_a1 : Unt h0 a1) (F_cause_a1 : Fld Z h0 a1 "java/lang/Throwable" "cause" "Ljava/lang/Throwable;" .null) (F_stackTrace_a1 : Fld Z h0 a1 "java/lang/Throwable" "stackTrace" "[Ljava/lang/StackTraceElement;" .null) (F_suppressedExceptions_a1 : Fld Z h0 a1 "java/lang/Throwable" "suppressedExceptions" "Ljava/util/List;" .null) (F_backtrace_a1 : Fld Z h0 a1 "java/lang/Throwable" "backtrace" "Ljava/lang/Object;" .null) (F_detailMessage_a1 : Fld Z h0 a1 "java/lang/Throwable" "detailMessage" "Ljava/lang/String;" .null) (g_a1 : n0 ≤ a1) :
    MetFree l mY52 (head1 (Jvm.Cond.code mY52 prog_2_method_1_code 2 none :: ws) rz6_1_2752_81) (fun a U => a = #[(.ref a1), msg] ∧ Z.Warmed39 U.vm ∧ U.heap = h0) (fun _ _ bl s _ => s.vm.MethodsKnown ∧ s.vm.FramesKnown bl) (fun _ U o U' => ∃ v L, o = .returned v ∧ Q_rmDc Z a1 msg h0 n0 v U'.heap L ∧ FrameEnd U o U' L rz6_1_2752_81.cells rz6_1_2752_81.slots) := by
  refine MetFree.of_bodySF (plainFor_of_name pn_30) hisR ?_
  intro p e s m args below meth c s₁ Bd hml0 hP hK
  obtain ⟨rfl, hZ, hh⟩ := hP
  have hx := Bd.exec
  have hby := Bd.bytes
  have hml : c.maxLocals = 2 := hml0
  have hown : s.vm.findClass "com/example/keyset/keyset/query/DeclarationException" = some m.cls := findClass_of_methodNamed Bd.named
  have hlk : meth.locks = false := BodyLoose.notSynchronized Bd
  have X0 : Stand p l e rz6_1_2752_81 s m #[(.ref a1), msg] below meth c s₁ [] 0 0 := Stand.of_body Bd
  have e0 : s₁.heap = h0 := by rw [← hh, Bd.state]; rfl
  have N0 := Fr.nil n0
  have KK : Keep h0 h0 [a1] := Keep.refl h0 _
  show Go p e below s rz6_1_2752_81.cells rz6_1_2752_81.slots (Q_rmDc Z a1 msg h0 n0) s₁ (entryFrame m #[(.ref a1), msg] 2)
  refine Go.eq (ef_rmDc m a1 msg ref_msg) ?_
  show Go _ _ _ _ _ _ _  s₁ (mkF m 0 #[.val (.ref a1), .val msg] [])
  refine Go.st (fun _ => XS.aloadN X0.here hx rfl (hb hby (dq dz30 0 0 rfl)) rfl rfl) ?_
  refine Go.st (fun _ => XS.aloadN X0.here hx rfl (hb hby (dq dz30 1 1 rfl)) rfl ref_msg) ?_
  show Go _ _ _ _ _ _ _  s₁ (mkF m 2 #[.val (.ref a1), .val msg] [msg, (.ref a1)])
  obtain ⟨_, _, ⟨T1, L1, k1, n1⟩, -, X1, ⟨Lc1, hQ1, l1, y1, z1⟩, st1⟩ := X0.specialBack hx (y := mY51) rfl hown (mvT hZ (hwi hw 158 rfl)) (mvT hZ (hwi hw 159 rfl)) (mvT hZ (hwi hw 162 rfl)) (by decide) (backOfKL (W := 0) (rmRt l Z a0 hw [] a1 msg h0 n0 O hl hr ref_msg E_a1 U_a1 F_cause_a1 F_stackTrace_a1 F_suppressedExceptions_a1 F_backtrace_a1 F_detailMessage_a1 g_a1) hZ (hwi hw 162 rfl) (hwi hw 161 rfl) (by decide) (by decide) hK.1 hK.2) (g := (mkF m 2 #[.val (.ref a1), .val msg] [msg, (.ref a1)])) rfl (by rw [hml]; rfl) (Steps.refl _) (a := a1) (argsL := [msg]) (rest := []) (lenOf pd__Ljava_lang_String__V rfl) rfl (by show 2 * 0 + _ ≤ _; exact Nat.le_of_eq rfl) (hb hby (dq dz30 2 2 rfl)) (fun _ _ => ⟨rfl, e0, (by decide : 0 + 1 ≤ _), (by decide : 0 + 2752 ≤ _)⟩)
  dsimp only [Pt.U, Pt.locs, Pt.cells, Pt.slots] at X1 l1 y1 z1 st1 hQ1
  rw [l1, y1, z1] at X1
  have X1 : Stand p l e _ _ m _ below meth c T1 _ 1 2752 := X1
  obtain ⟨rfl, N1q, K1q, Eq1, Mq1⟩ := hQ1
  have N1 := Fr.app N0 N1q
  refine Go.tr st1 ?_
  have E_a1 := E_a1.keep K1q
  have O := O.keep K1q (allS g_a1 all0)
  have KK := KK.trans K1q (allS (Or.inl (List.mem_of_getElem? (i := 0) rfl)) all0)
  have E_a1 := Eq1
  show Go _ _ _ _ _ _ _  T1 (mkF m 5 #[.val (.ref a1), .val msg] [])
  refine Go.ret0 X1 hlk hx Bd.returns (hb hby (dq dz30 3 5 rfl)) (by decide) (by decide) ?_
  show Q_rmDc Z _ _ h0 n0 _ T1.heap _
  exact ⟨rfl, N1, KK, E_a1, Mq1⟩
def Q_rmMk (Z : State) (p1 : Int32) (p2 : Int32) (zc : Int32) (h0 : Heap) (n0 : Nat) (v : Option Value) (h : Heap) (L : List Loc) : Prop := ∃ (x t : Addr) (kt : ClassId), v = some (.ref x) ∧ Fr n0 L ∧ Ext h0 h ∧ h0.size ≤ x ∧ Exa Z h x "java/lang/String" ∧ Fld Z h x "java/lang/String" "coder" "B" (.int (own_cd (own_mk p1 p2))) ∧ Fld Z h x "java/lang/String" "value" "[B" (.ref t) ∧ Arv Z h t kt .byte (Int32.ofNat (own_by (own_mk p1 p2)).length) ((own_by (own_mk p1 p2)).map Value.int) (.int 0)
theorem rmMk (l : Launch) (Z : State) (a0 : Array Value) (hw : HWt a0 Z) (ws : List Jvm.Cond) (p1 : Int32) (p2 : Int32) (zc : Int32) (h0 : Heap) (n0 : Nat) (O : Old Z n0 h0) (hEL : EW Z a0 EL) (wS : ∀ a ∈ Bundle.stringAtoms, a.before a0 Z = true) (S_COMPACT : Sta Z Z.heap "java/lang/String" "COMPACT_STRINGS" "Z" (.int zc)) (hcs : ¬ zc = 0) (S_ad : Sta Z Z.heap "java/lang/StringUTF16" "$assertionsDisabled" "Z" (.int 1)) (S_hi : Sta Z Z.heap "java/lang/StringUTF16" "HI_BYTE_SHIFT" "I" (.int 0)) (S_lo : Sta Z Z.heap "java/lang/StringUTF16" "LO_BYTE_SHIFT" "I" (.int 8)) :
    MetFree l mY53 (head1 (Jvm.Cond.code mY53 method_2_code 2 (some (.object "java/lang/String")) :: ws) rz6_6_260_92) (fun a U => a = #[(.int p1), (.int p2)] ∧ Z.Warmed39 U.vm ∧ U.heap = h0 ∧ CHv Z EL U.vm h0 ∧ ∀ x ∈ ([] : List Addr), Safe Z EL U.vm h0 x) (fun _ _ _ _ _ => True) (fun _ U o U' => ∃ v L, o = .returned v ∧ Q_rmMk Z p1 p2 zc h0 n0 v U'.heap L ∧ CHr Z EL U.vm U.heap U'.vm U'.heap ∧ ReturnedEndW U o U' L rz6_6_260_92.cells rz6_6_260_92.slots) := by
  refine MetFree.of_bodySF (plainFor_of_name pn_1) hisR ?_
  intro p e s m args below meth c s₁ Bd hml0 hP hK
  obtain ⟨rfl, hZ, hh, HH, hSF⟩ := hP
  have hx := Bd.exec
  have hby := Bd.bytes
  have hml : c.maxLocals = 2 := hml0
  have hown : s.vm.findClass "com/example/keyset/keyset/query/DeclarationExceptionForResourcePinLaw" = some m.cls := findClass_of_methodNamed Bd.named
  have hlk : meth.locks = false := BodyLoose.notSynchronized Bd
  have X0 : Stand p l e rz6_6_260_92 (s.setVm s.vm) m #[(.int p1), (.int p2)] below meth c s₁ [] 0 0 := Stand.of_body Bd
  have e0 : s₁.heap = h0 := by rw [← hh, Bd.state]; rfl
  have N0 := Fr.nil n0
  have KK : Keep h0 h0 [] := Keep.refl h0 _
  have hS : s.Since s.vm h0.size := own_since s _
  have hk : h0.size ≤ h0.size := Nat.le_refl _
  have RR : CHr Z EL s.vm h0 s.vm h0 := CHr.refl HH
  suffices hgo : GoH p e below s rz6_6_260_92.cells rz6_6_260_92.slots Z h0 EL (Q_rmMk Z p1 p2 zc h0 n0) s₁ (entryFrame m #[(.int p1), (.int p2)] 2) by
    obtain ⟨s₂, o, q1, q2, q3, v, L, q4, q5, q6, q7⟩ := hgo; exact ⟨s₂, o, q1, q2, q3, v, L, q4, q5, hh ▸ q6, q7⟩
  refine GoH.eq (ef_rmMk m p1 p2) ?_
  show GoH _ _ _ _ _ _ _ _ _ _  s₁ (mkF m 0 #[.val (.int p1), .val (.int p2)] [])
  refine GoH.st (fun _ => XS.iloadN X0.here hx rfl (hb hby (dq dz1 0 0 rfl)) rfl) ?_
  show GoH _ _ _ _ _ _ _ _ _ _  s₁ (mkF m 1 #[.val (.int p1), .val (.int p2)] [(.int p2)])
  by_cases c1_1 : p2 = (0 : Int32)
  · refine GoH.st (fun _ => XS.ifNo X0.here hx rfl (hb hby (dq dz1 1 1 rfl)) rfl ((if0 _ _).trans (teq c1_1).2)) ?_
    show GoH _ _ _ _ _ _ _ _ _ _  s₁ (mkF m 4 #[.val (.int p1), .val (.int p2)] [])
    obtain ⟨T2, h2, X2, e2, E2, A2, D2, U2, st2⟩ := newO X0 hx hZ hown (hwi hw 4 rfl) (hwi hw 5 rfl) (hwi hw 6 rfl) e0 (g := (mkF m 4 #[.val (.int p1), .val (.int p2)] [])) rfl (hb hby (dq dz1 2 4 rfl)) (by decide) (by decide)
    obtain ⟨b2, g2⟩ : ∃ z, z = h0.size := ⟨_, rfl⟩
    rw [← g2] at A2 D2 U2 st2
    refine GoH.st st2 ?_
    have g_b2 : n0 ≤ b2 := by rw [g2]; exact own_le O
    have Sf_b2 : Safe Z EL s.vm h0 b2 := Safe.new (Nat.le_of_eq g2.symm)
    have sz_b2 : h0.size ≤ b2 := by rw [g2]; exact KK.1
    have Sf_b2 := Safe.ext E2 HH Sf_b2
    have RR := RR.trans (CHr.ext E2 HH)
    have HH := HH.ext E2
    have hk := Nat.le_trans hk E2.1
    have O := O.ext E2
    have KK := KK.ext E2
    have E_b2 := A2
    have F_coder_b2 : Fld Z h2 b2 "java/lang/String" "coder" "B" (.int (0 : Int32)) := D2 (Or.inr (hwi hw 31 rfl)) (ty := .byte) (by decide)
    have F_value_b2 : Fld Z h2 b2 "java/lang/String" "value" "[B" .null := D2 (Or.inr (hwi hw 33 rfl)) (ty := (.array .byte)) (by decide)
    show GoH _ _ _ _ _ _ _ _ _ _  T2 (mkF m 7 #[.val (.int p1), .val (.int p2)] [(.ref b2)])
    refine GoH.st (fun _ => XS.dup X2.here hx rfl (hb hby (dq dz1 3 7 rfl)) rfl rfl) ?_
    refine GoH.st (fun _ => XS.iconst X2.here hx rfl (hb hby (dq dz1 4 8 rfl))) ?_
    show GoH _ _ _ _ _ _ _ _ _ _  T2 (mkF m 9 #[.val (.int p1), .val (.int p2)] [(.int (0 : Int32)), (.ref b2), (.ref b2)])
    obtain ⟨T3, h3, k3, X3, e3, E3, A3, st3⟩ := newP X2 hx hZ (hwi hw 7 rfl) e2 (g := (mkF m 9 #[.val (.int p1), .val (.int p2)] [(.int (0 : Int32)), (.ref b2), (.ref b2)])) rfl (hb hby (dq dz1 5 9 rfl)) rfl (by decide) (cap := 0) (by decide) (by decide) (by decide) (by decide)
    obtain ⟨b3, g3⟩ : ∃ z, z = h2.size := ⟨_, rfl⟩
    rw [← g3] at A3 st3
    refine GoH.st st3 ?_
    have g_b3 : n0 ≤ b3 := by rw [g3]; exact own_le O
    have Sf_b3 : Safe Z EL s.vm h2 b3 := Safe.new (Nat.le_of_eq g3.symm)
    have sz_b3 : h0.size ≤ b3 := by rw [g3]; exact KK.1
    have ne_b2_b3 : b2 ≠ b3 := Nat.ne_of_lt (by rw [g3]; exact E_b2.lt)
    have E_b2 := E_b2.ext E3
    have F_coder_b2 := F_coder_b2.ext E3
    have F_value_b2 := F_value_b2.ext E3
    have Sf_b2 := Safe.ext E3 HH Sf_b2
    have Sf_b3 := Safe.ext E3 HH Sf_b3
    have RR := RR.trans (CHr.ext E3 HH)
    have HH := HH.ext E3
    have hk := Nat.le_trans hk E3.1
    have O := O.ext E3
    have KK := KK.ext E3
    have V_b3 : Arv Z h3 b3 k3 .char (0 : Int32) [] (.int (0 : Int32)) := (Arv.new A3 (by decide)).pad (pad_rep [] (.int (0 : Int32)) 0)
    show GoH _ _ _ _ _ _ _ _ _ _  T3 (mkF m 11 #[.val (.int p1), .val (.int p2)] [(.ref b3), (.ref b2), (.ref b2)])
    obtain ⟨_, _, ⟨T4, L4, k4, n4⟩, -, X4, hSn4, hgn4, ⟨Lc4, hQ4, l4, y4, z4, CR4⟩, st4⟩ := X3.specialBackS hx (y := mY39) rfl hown (mvT hZ (hwi hw 8 rfl)) (mvT hZ (hwi hw 9 rfl)) (mvT hZ (hwi hw 10 rfl)) (by decide) (own_backSH (sf := [b2]) (W := 1) (rmE l Z a0 hw [] b2 b3 .null (.int (0 : Int32)) k3 h3 n0 O hEL wS E_b2 F_value_b2 F_coder_b2 g_b2 V_b3 (Ne.symm ne_b2_b3)) hZ (hwi hw 10 rfl) (hwi hw 6 rfl) (by decide) (by decide) hEL HH (allS (P := fun x => Safe Z EL s.vm h3 x ∧ x < Array.size h3) ⟨Sf_b2, E_b2.lt⟩ all0)) (g := (mkF m 11 #[.val (.int p1), .val (.int p2)] [(.ref b3), (.ref b2), (.ref b2)])) rfl (by rw [hml]; rfl) (Steps.refl _) (a := b2) (argsL := [(.ref b3)]) (rest := [(.ref b2)]) (lenOf pd___C_V rfl) rfl (by show 2 * 0 + _ ≤ _; exact Nat.le_of_eq rfl) (hb hby (dq dz1 6 11 rfl)) (fun _ _ => ⟨rfl, e3, (by decide : 2 + 4 ≤ _), (by decide : 4 + 8 ≤ _)⟩)
    dsimp only [Pt.U, Pt.locs, Pt.cells, Pt.slots] at X4 l4 y4 z4 st4 hQ4 hSn4 hgn4 CR4
    rw [l4, y4, z4] at X4
    have X4 : Stand p l e _ _ m _ below meth c T4 _ 6 12 := X4
    obtain ⟨rfl, N4q, K4q, Eq4, Cq4, t4, kt4, Vq4, Aq4⟩ := hQ4
    have X4 : Stand p l e _ (s.setVm T4.vm) m _ below meth c T4 _ _ _ := X4
    have N4 := Fr.app N0 N4q
    refine GoH.tr st4 ?_
    have hS4 := Jvm.RoadKit.foldS hS (by rw [e3]; exact hk) hSn4 hgn4
    have hZ4 := State.Warmed39.trans (t := s.setVm s.vm) hZ hSn4.1
    have hk4 := Nat.le_refl T4.heap.size
    have hown4 := own_fc hSn4.1 hown
    have Sf_b2 := CHr.safe CR4 E_b2.lt Sf_b2
    have Sf_b3 := CHr.safe CR4 V_b3.lt Sf_b3
    have E_b2 := E_b2.keep K4q
    have V_b3 := V_b3.keep K4q (ninS (Ne.symm ne_b2_b3) nin0)
    have O := O.keep K4q (allS g_b2 all0)
    have KK := KK.trans K4q (allS (Or.inr sz_b2) all0)
    have RR := RR.trans CR4
    have HH := CR4.1
    have hS := hS4
    have hk := hk4
    have hZ := hZ4
    have hown := hown4
    have E_b2 := Eq4
    show GoH _ _ _ _ _ _ _ _ _ _  T4 (mkF m 14 #[.val (.int p1), .val (.int p2)] [(.ref b2)])
    refine GoH.retR X4 hS hk rfl hZ hEL HH RR hlk hx Bd.returns rfl rfl rfl (hb hby (dq dz1 7 14 rfl)) (by decide) (by decide) ?_
    show Q_rmMk Z _ _ _ h0 n0 _ T4.heap _
    exact ⟨_, _, _, rfl, N4, own_ext0 KK, sz_b2, E_b2, (by rw [own_mk0 c1_1]; exact Cq4), Vq4, (by rw [own_mk0 c1_1]; exact Aq4)⟩
  · refine GoH.st (fun _ => XS.ifYes X0.here hx rfl (pc0 := 1) (pc' := 15) rfl (hb hby (dq dz1 1 1 rfl)) rfl ((if0 _ _).trans (feq c1_1).2) (by decide) (by decide)) ?_
    show GoH _ _ _ _ _ _ _ _ _ _  s₁ (mkF m 15 #[.val (.int p1), .val (.int p2)] [])
    refine GoH.st (fun _ => XS.iloadN X0.here hx rfl (hb hby (dq dz1 8 15 rfl)) rfl) ?_
    refine GoH.st (fun _ => XS.iconst X0.here hx rfl (hb hby (dq dz1 9 16 rfl))) ?_
    show GoH _ _ _ _ _ _ _ _ _ _  s₁ (mkF m 17 #[.val (.int p1), .val (.int p2)] [(.int (1 : Int32)), (.int p2)])
    by_cases c17_5 : p2 = (1 : Int32)
    · refine GoH.st (fun _ => XS.icmpNo X0.here hx rfl (hb hby (dq dz1 10 17 rfl)) rfl (teq c17_5).2) ?_
      show GoH _ _ _ _ _ _ _ _ _ _  s₁ (mkF m 20 #[.val (.int p1), .val (.int p2)] [])
      obtain ⟨T6, h6, X6, e6, E6, A6, D6, U6, st6⟩ := newO X0 hx hZ hown (hwi hw 4 rfl) (hwi hw 5 rfl) (hwi hw 6 rfl) e0 (g := (mkF m 20 #[.val (.int p1), .val (.int p2)] [])) rfl (hb hby (dq dz1 11 20 rfl)) (by decide) (by decide)
      obtain ⟨b6, g6⟩ : ∃ z, z = h0.size := ⟨_, rfl⟩
      rw [← g6] at A6 D6 U6 st6
      refine GoH.st st6 ?_
      have g_b6 : n0 ≤ b6 := by rw [g6]; exact own_le O
      have Sf_b6 : Safe Z EL s.vm h0 b6 := Safe.new (Nat.le_of_eq g6.symm)
      have sz_b6 : h0.size ≤ b6 := by rw [g6]; exact KK.1
      have Sf_b6 := Safe.ext E6 HH Sf_b6
      have RR := RR.trans (CHr.ext E6 HH)
      have HH := HH.ext E6
      have hk := Nat.le_trans hk E6.1
      have O := O.ext E6
      have KK := KK.ext E6
      have E_b6 := A6
      have F_coder_b6 : Fld Z h6 b6 "java/lang/String" "coder" "B" (.int (0 : Int32)) := D6 (Or.inr (hwi hw 31 rfl)) (ty := .byte) (by decide)
      have F_value_b6 : Fld Z h6 b6 "java/lang/String" "value" "[B" .null := D6 (Or.inr (hwi hw 33 rfl)) (ty := (.array .byte)) (by decide)
      show GoH _ _ _ _ _ _ _ _ _ _  T6 (mkF m 23 #[.val (.int p1), .val (.int p2)] [(.ref b6)])
      refine GoH.st (fun _ => XS.dup X6.here hx rfl (hb hby (dq dz1 12 23 rfl)) rfl rfl) ?_
      refine GoH.st (fun _ => XS.iconst X6.here hx rfl (hb hby (dq dz1 13 24 rfl))) ?_
      show GoH _ _ _ _ _ _ _ _ _ _  T6 (mkF m 25 #[.val (.int p1), .val (.int p2)] [(.int (1 : Int32)), (.ref b6), (.ref b6)])
      obtain ⟨T7, h7, k7, X7, e7, E7, A7, st7⟩ := newP X6 hx hZ (hwi hw 7 rfl) e6 (g := (mkF m 25 #[.val (.int p1), .val (.int p2)] [(.int (1 : Int32)), (.ref b6), (.ref b6)])) rfl (hb hby (dq dz1 14 25 rfl)) rfl (by decide) (cap := 1) (by decide) (by decide) (by decide) (by decide)
      obtain ⟨b7, g7⟩ : ∃ z, z = h6.size := ⟨_, rfl⟩
      rw [← g7] at A7 st7
      refine GoH.st st7 ?_
      have g_b7 : n0 ≤ b7 := by rw [g7]; exact own_le O
      have Sf_b7 : Safe Z EL s.vm h6 b7 := Safe.new (Nat.le_of_eq g7.symm)
      have sz_b7 : h0.size ≤ b7 := by rw [g7]; exact KK.1
      have ne_b6_b7 : b6 ≠ b7 := Nat.ne_of_lt (by rw [g7]; exact E_b6.lt)
      have E_b6 := E_b6.ext E7
      have F_coder_b6 := F_coder_b6.ext E7
      have F_value_b6 := F_value_b6.ext E7
      have Sf_b6 := Safe.ext E7 HH Sf_b6
      have Sf_b7 := Safe.ext E7 HH Sf_b7
      have RR := RR.trans (CHr.ext E7 HH)
      have HH := HH.ext E7
      have hk := Nat.le_trans hk E7.1
      have O := O.ext E7
      have KK := KK.ext E7
      have V_b7 : Arv Z h7 b7 k7 .char (1 : Int32) [(.int (0 : Int32))] (.int (0 : Int32)) := (Arv.new A7 (by decide)).pad (pad_rep [] (.int (0 : Int32)) 1)
      show GoH _ _ _ _ _ _ _ _ _ _  T7 (mkF m 27 #[.val (.int p1), .val (.int p2)] [(.ref b7), (.ref b6), (.ref b6)])
      refine GoH.st (fun _ => XS.dup X7.here hx rfl (hb hby (dq dz1 15 27 rfl)) rfl rfl) ?_
      refine GoH.st (fun _ => XS.iconst X7.here hx rfl (hb hby (dq dz1 16 28 rfl))) ?_
      refine GoH.st (fun _ => XS.iloadN X7.here hx rfl (hb hby (dq dz1 17 29 rfl)) rfl) ?_
      refine GoH.st (fun _ => XS.i2c X7.here hx rfl (hb hby (dq dz1 18 30 rfl)) rfl) ?_
      show GoH _ _ _ _ _ _ _ _ _ _  T7 (mkF m 31 #[.val (.int p1), .val (.int p2)] [(.int (p1.toUInt32.toUInt16.toUInt32.toInt32)), (.int (0 : Int32)), (.ref b7), (.ref b7), (.ref b6), (.ref b6)])
      obtain ⟨cl8, Ar8, q8, S8, M8, Hh8, G8⟩ := V_b7
      obtain ⟨T9, h9, X9, e9, W9, st9⟩ := stC X7 hx hZ e7 Ar8 (j := (0 : Int32)) (inb_of S8 ⟨by decide, by decide⟩) (g := (mkF m 31 #[.val (.int p1), .val (.int p2)] [(.int (p1.toUInt32.toUInt16.toUInt32.toInt32)), (.int (0 : Int32)), (.ref b7), (.ref b7), (.ref b6), (.ref b6)])) rfl rfl (hb hby (dq dz1 19 31 rfl))
      refine GoH.st st9 ?_
      have V_b7 : Arv Z h9 b7 k7 .char (1 : Int32) [(.int (nar .char (p1.toUInt32.toUInt16.toUInt32.toInt32)))] (.int (0 : Int32)) := Arv.set Ar8 q8 S8 M8 Hh8 G8 (fits_nar_char _) W9 0 rfl (Nat.le_of_ble_eq_true rfl)
      have N9 := Fr.snoc X9 N0 g_b7
      have E_b6 := E_b6.wr W9
      have F_coder_b6 := F_coder_b6.other W9 (Or.inl ne_b6_b7)
      have F_value_b6 := F_value_b6.other W9 (Or.inl ne_b6_b7)
      have Sf_b6 := Safe.wr W9 Sf_b7 HH Sf_b6
      have Sf'_b7 := Safe.wr W9 Sf_b7 HH Sf_b7
      have RR := RR.trans (CHr.wr W9 Sf_b7 HH)
      have HH := HH.wr W9 Sf_b7
      have Sf_b7 := Sf'_b7
      have hk := Nat.le_trans hk (Nat.le_of_eq W9.size.symm)
      have O := O.wr W9 g_b7
      have KK := KK.wr W9 (Or.inr sz_b7)
      show GoH _ _ _ _ _ _ _ _ _ _  T9 (mkF m 32 #[.val (.int p1), .val (.int p2)] [(.ref b7), (.ref b6), (.ref b6)])
      rw [own_nc16 p1] at V_b7
      obtain ⟨_, _, ⟨T10, L10, k10, n10⟩, -, X10, ⟨Lc10, hQ10, l10, y10, z10⟩, st10⟩ := X9.specialBack hx (y := mY39) rfl hown (mvT hZ (hwi hw 8 rfl)) (mvT hZ (hwi hw 9 rfl)) (mvT hZ (hwi hw 10 rfl)) (by decide) (backOf (W := 1) (rmI5 l Z a0 hw [] b6 b7 .null (.int (0 : Int32)) zc k7 ([p1.toUInt32.toUInt16.toUInt32.toInt32] : List Int32) h9 n0 O S_COMPACT hcs S_ad S_hi S_lo E_b6 F_value_b6 F_coder_b6 g_b6 V_b7 (Nat.le_of_ble_eq_true rfl) (Nat.le_of_ble_eq_true rfl) (own_hrm (own_hrc (own_nc16 _) own_hrn))) hZ (hwi hw 10 rfl) (hwi hw 6 rfl) (by decide) (by decide)) (g := (mkF m 32 #[.val (.int p1), .val (.int p2)] [(.ref b7), (.ref b6), (.ref b6)])) rfl (by rw [hml]; rfl) (Steps.refl _) (a := b6) (argsL := [(.ref b7)]) (rest := [(.ref b6)]) (lenOf pd___C_V rfl) rfl (by show 2 * 0 + _ ≤ _; exact Nat.le_of_eq rfl) (hb hby (dq dz1 20 32 rfl)) (fun _ _ => ⟨rfl, e9, (by decide : 2 + 2 ≤ _), (by decide : 5 + 192 ≤ _)⟩)
      dsimp only [Pt.U, Pt.locs, Pt.cells, Pt.slots] at X10 l10 y10 z10 st10 hQ10
      rw [l10, y10, z10] at X10
      have X10 : Stand p l e _ _ m _ below meth c T10 _ 4 197 := X10
      obtain ⟨rfl, N10q, K10q, Eq10, Cq10, t10, kt10, lt10, Vq10, Aq10⟩ := hQ10
      have N10 := Fr.app N9 N10q
      refine GoH.tr st10 ?_
      have g_t10 : n0 ≤ t10 := Nat.le_trans (own_le O) lt10
      have Sf_t10 : Safe Z EL s.vm h9 t10 := Safe.new lt10
      have sz_t10 : h0.size ≤ t10 := Nat.le_trans KK.1 lt10
      have ne_b6_t10 : b6 ≠ t10 := Nat.ne_of_lt (Nat.lt_of_lt_of_le E_b6.lt lt10)
      have ne_b7_t10 : b7 ≠ t10 := Nat.ne_of_lt (Nat.lt_of_lt_of_le V_b7.lt lt10)
      have E_b6 := E_b6.keep K10q
      have V_b7 := V_b7.keep K10q (ninS (Ne.symm ne_b6_b7) nin0)
      have sfw10 := (sfS Sf_b6 sf0)
      have Sf_b6 := Safe.keep K10q sfw10 HH Sf_b6
      have Sf_b7 := Safe.keep K10q sfw10 HH Sf_b7
      have Sf_t10 := Safe.keep K10q sfw10 HH Sf_t10
      have RR := RR.trans (CHr.keep K10q sfw10 HH)
      have HH := HH.keep K10q sfw10
      have hk := Nat.le_trans hk K10q.1
      have O := O.keep K10q (allS g_b6 all0)
      have KK := KK.trans K10q (allS (Or.inr sz_b6) all0)
      have E_b6 := Eq10
      show GoH _ _ _ _ _ _ _ _ _ _  T10 (mkF m 35 #[.val (.int p1), .val (.int p2)] [(.ref b6)])
      refine GoH.retR X10 hS hk rfl hZ hEL HH RR hlk hx Bd.returns rfl rfl rfl (hb hby (dq dz1 21 35 rfl)) (by decide) (by decide) ?_
      show Q_rmMk Z _ _ _ h0 n0 _ T10.heap _
      exact ⟨_, _, _, rfl, N10, own_ext0 KK, sz_b6, E_b6, (by rw [own_mk1 c1_1 c17_5]; exact Cq10), Vq10, (by rw [own_mk1 c1_1 c17_5]; exact Aq10)⟩
    · refine GoH.st (fun _ => XS.icmpYes X0.here hx rfl (pc0 := 17) (pc' := 36) rfl (hb hby (dq dz1 10 17 rfl)) rfl (feq c17_5).2 (by decide) (by decide)) ?_
      show GoH _ _ _ _ _ _ _ _ _ _  s₁ (mkF m 36 #[.val (.int p1), .val (.int p2)] [])
      obtain ⟨T11, h11, X11, e11, E11, A11, D11, U11, st11⟩ := newO X0 hx hZ hown (hwi hw 4 rfl) (hwi hw 5 rfl) (hwi hw 6 rfl) e0 (g := (mkF m 36 #[.val (.int p1), .val (.int p2)] [])) rfl (hb hby (dq dz1 22 36 rfl)) (by decide) (by decide)
      obtain ⟨b11, g11⟩ : ∃ z, z = h0.size := ⟨_, rfl⟩
      rw [← g11] at A11 D11 U11 st11
      refine GoH.st st11 ?_
      have g_b11 : n0 ≤ b11 := by rw [g11]; exact own_le O
      have Sf_b11 : Safe Z EL s.vm h0 b11 := Safe.new (Nat.le_of_eq g11.symm)
      have sz_b11 : h0.size ≤ b11 := by rw [g11]; exact KK.1
      have Sf_b11 := Safe.ext E11 HH Sf_b11
      have RR := RR.trans (CHr.ext E11 HH)
      have HH := HH.ext E11
      have hk := Nat.le_trans hk E11.1
      have O := O.ext E11
      have KK := KK.ext E11
      have E_b11 := A11
      have F_coder_b11 : Fld Z h11 b11 "java/lang/String" "coder" "B" (.int (0 : Int32)) := D11 (Or.inr (hwi hw 31 rfl)) (ty := .byte) (by decide)
      have F_value_b11 : Fld Z h11 b11 "java/lang/String" "value" "[B" .null := D11 (Or.inr (hwi hw 33 rfl)) (ty := (.array .byte)) (by decide)
      show GoH _ _ _ _ _ _ _ _ _ _  T11 (mkF m 39 #[.val (.int p1), .val (.int p2)] [(.ref b11)])
      refine GoH.st (fun _ => XS.dup X11.here hx rfl (hb hby (dq dz1 23 39 rfl)) rfl rfl) ?_
      refine GoH.st (fun _ => XS.iconst X11.here hx rfl (hb hby (dq dz1 24 40 rfl))) ?_
      show GoH _ _ _ _ _ _ _ _ _ _  T11 (mkF m 41 #[.val (.int p1), .val (.int p2)] [(.int (2 : Int32)), (.ref b11), (.ref b11)])
      obtain ⟨T12, h12, k12, X12, e12, E12, A12, st12⟩ := newP X11 hx hZ (hwi hw 7 rfl) e11 (g := (mkF m 41 #[.val (.int p1), .val (.int p2)] [(.int (2 : Int32)), (.ref b11), (.ref b11)])) rfl (hb hby (dq dz1 25 41 rfl)) rfl (by decide) (cap := 2) (by decide) (by decide) (by decide) (by decide)
      obtain ⟨b12, g12⟩ : ∃ z, z = h11.size := ⟨_, rfl⟩
      rw [← g12] at A12 st12
      refine GoH.st st12 ?_
      have g_b12 : n0 ≤ b12 := by rw [g12]; exact own_le O
      have Sf_b12 : Safe Z EL s.vm h11 b12 := Safe.new (Nat.le_of_eq g12.symm)
      have sz_b12 : h0.size ≤ b12 := by rw [g12]; exact KK.1
      have ne_b11_b12 : b11 ≠ b12 := Nat.ne_of_lt (by rw [g12]; exact E_b11.lt)
      have E_b11 := E_b11.ext E12
      have F_coder_b11 := F_coder_b11.ext E12
      have F_value_b11 := F_value_b11.ext E12
      have Sf_b11 := Safe.ext E12 HH Sf_b11
      have Sf_b12 := Safe.ext E12 HH Sf_b12
      have RR := RR.trans (CHr.ext E12 HH)
      have HH := HH.ext E12
      have hk := Nat.le_trans hk E12.1
      have O := O.ext E12
      have KK := KK.ext E12
      have V_b12 : Arv Z h12 b12 k12 .char (2 : Int32) [(.int (0 : Int32)), (.int (0 : Int32))] (.int (0 : Int32)) := (Arv.new A12 (by decide)).pad (pad_rep [] (.int (0 : Int32)) 2)
      show GoH _ _ _ _ _ _ _ _ _ _  T12 (mkF m 43 #[.val (.int p1), .val (.int p2)] [(.ref b12), (.ref b11), (.ref b11)])
      refine GoH.st (fun _ => XS.dup X12.here hx rfl (hb hby (dq dz1 26 43 rfl)) rfl rfl) ?_
      refine GoH.st (fun _ => XS.iconst X12.here hx rfl (hb hby (dq dz1 27 44 rfl))) ?_
      refine GoH.st (fun _ => XS.iloadN X12.here hx rfl (hb hby (dq dz1 28 45 rfl)) rfl) ?_
      refine GoH.st (fun _ => XS.i2c X12.here hx rfl (hb hby (dq dz1 29 46 rfl)) rfl) ?_
      show GoH _ _ _ _ _ _ _ _ _ _  T12 (mkF m 47 #[.val (.int p1), .val (.int p2)] [(.int (p1.toUInt32.toUInt16.toUInt32.toInt32)), (.int (0 : Int32)), (.ref b12), (.ref b12), (.ref b11), (.ref b11)])
      obtain ⟨cl13, Ar13, q13, S13, M13, Hh13, G13⟩ := V_b12
      obtain ⟨T14, h14, X14, e14, W14, st14⟩ := stC X12 hx hZ e12 Ar13 (j := (0 : Int32)) (inb_of S13 ⟨by decide, by decide⟩) (g := (mkF m 47 #[.val (.int p1), .val (.int p2)] [(.int (p1.toUInt32.toUInt16.toUInt32.toInt32)), (.int (0 : Int32)), (.ref b12), (.ref b12), (.ref b11), (.ref b11)])) rfl rfl (hb hby (dq dz1 30 47 rfl))
      refine GoH.st st14 ?_
      have V_b12 : Arv Z h14 b12 k12 .char (2 : Int32) [(.int (nar .char (p1.toUInt32.toUInt16.toUInt32.toInt32))), (.int (0 : Int32))] (.int (0 : Int32)) := Arv.set Ar13 q13 S13 M13 Hh13 G13 (fits_nar_char _) W14 0 rfl (Nat.le_of_ble_eq_true rfl)
      have N14 := Fr.snoc X14 N0 g_b12
      have E_b11 := E_b11.wr W14
      have F_coder_b11 := F_coder_b11.other W14 (Or.inl ne_b11_b12)
      have F_value_b11 := F_value_b11.other W14 (Or.inl ne_b11_b12)
      have Sf_b11 := Safe.wr W14 Sf_b12 HH Sf_b11
      have Sf'_b12 := Safe.wr W14 Sf_b12 HH Sf_b12
      have RR := RR.trans (CHr.wr W14 Sf_b12 HH)
      have HH := HH.wr W14 Sf_b12
      have Sf_b12 := Sf'_b12
      have hk := Nat.le_trans hk (Nat.le_of_eq W14.size.symm)
      have O := O.wr W14 g_b12
      have KK := KK.wr W14 (Or.inr sz_b12)
      show GoH _ _ _ _ _ _ _ _ _ _  T14 (mkF m 48 #[.val (.int p1), .val (.int p2)] [(.ref b12), (.ref b11), (.ref b11)])
      refine GoH.st (fun _ => XS.dup X14.here hx rfl (hb hby (dq dz1 31 48 rfl)) rfl rfl) ?_
      refine GoH.st (fun _ => XS.iconst X14.here hx rfl (hb hby (dq dz1 32 49 rfl))) ?_
      refine GoH.st (fun _ => XS.iloadN X14.here hx rfl (hb hby (dq dz1 33 50 rfl)) rfl) ?_
      refine GoH.st (fun _ => XS.bipush X14.here hx rfl (hb hby (dq dz1 34 51 rfl))) ?_
      refine GoH.st (fun _ => XS.iushr X14.here hx rfl (hb hby (dq dz1 35 53 rfl)) rfl) ?_
      refine GoH.st (fun _ => XS.i2c X14.here hx rfl (hb hby (dq dz1 36 54 rfl)) rfl) ?_
      show GoH _ _ _ _ _ _ _ _ _ _  T14 (mkF m 55 #[.val (.int p1), .val (.int p2)] [(.int (((p1.toUInt32 >>> ((16 : Int32) &&& 31).toUInt32).toInt32).toUInt32.toUInt16.toUInt32.toInt32)), (.int (1 : Int32)), (.ref b12), (.ref b12), (.ref b11), (.ref b11)])
      obtain ⟨cl15, Ar15, q15, S15, M15, Hh15, G15⟩ := V_b12
      obtain ⟨T16, h16, X16, e16, W16, st16⟩ := stC X14 hx hZ e14 Ar15 (j := (1 : Int32)) (inb_of S15 ⟨by decide, by decide⟩) (g := (mkF m 55 #[.val (.int p1), .val (.int p2)] [(.int (((p1.toUInt32 >>> ((16 : Int32) &&& 31).toUInt32).toInt32).toUInt32.toUInt16.toUInt32.toInt32)), (.int (1 : Int32)), (.ref b12), (.ref b12), (.ref b11), (.ref b11)])) rfl rfl (hb hby (dq dz1 37 55 rfl))
      refine GoH.st st16 ?_
      have V_b12 : Arv Z h16 b12 k12 .char (2 : Int32) [(.int (nar .char (p1.toUInt32.toUInt16.toUInt32.toInt32))), (.int (nar .char (((p1.toUInt32 >>> ((16 : Int32) &&& 31).toUInt32).toInt32).toUInt32.toUInt16.toUInt32.toInt32)))] (.int (0 : Int32)) := Arv.set Ar15 q15 S15 M15 Hh15 G15 (fits_nar_char _) W16 1 rfl (Nat.le_of_ble_eq_true rfl)
      have N16 := Fr.snoc X16 N14 g_b12
      have E_b11 := E_b11.wr W16
      have F_coder_b11 := F_coder_b11.other W16 (Or.inl ne_b11_b12)
      have F_value_b11 := F_value_b11.other W16 (Or.inl ne_b11_b12)
      have Sf_b11 := Safe.wr W16 Sf_b12 HH Sf_b11
      have Sf'_b12 := Safe.wr W16 Sf_b12 HH Sf_b12
      have RR := RR.trans (CHr.wr W16 Sf_b12 HH)
      have HH := HH.wr W16 Sf_b12
      have Sf_b12 := Sf'_b12
      have hk := Nat.le_trans hk (Nat.le_of_eq W16.size.symm)
      have O := O.wr W16 g_b12
      have KK := KK.wr W16 (Or.inr sz_b12)
      show GoH _ _ _ _ _ _ _ _ _ _  T16 (mkF m 56 #[.val (.int p1), .val (.int p2)] [(.ref b12), (.ref b11), (.ref b11)])
      rw [own_nc16 p1, own_nc16 ((p1.toUInt32 >>> ((16 : Int32) &&& 31).toUInt32).toInt32)] at V_b12
      obtain ⟨_, _, ⟨T17, L17, k17, n17⟩, -, X17, ⟨Lc17, hQ17, l17, y17, z17⟩, st17⟩ := X16.specialBack hx (y := mY39) rfl hown (mvT hZ (hwi hw 8 rfl)) (mvT hZ (hwi hw 9 rfl)) (mvT hZ (hwi hw 10 rfl)) (by decide) (backOf (W := 1) (rmI5 l Z a0 hw [] b11 b12 .null (.int (0 : Int32)) zc k12 ([p1.toUInt32.toUInt16.toUInt32.toInt32, ((p1.toUInt32 >>> ((16 : Int32) &&& 31).toUInt32).toInt32).toUInt32.toUInt16.toUInt32.toInt32] : List Int32) h16 n0 O S_COMPACT hcs S_ad S_hi S_lo E_b11 F_value_b11 F_coder_b11 g_b11 V_b12 (Nat.le_of_ble_eq_true rfl) (Nat.le_of_ble_eq_true rfl) (own_hrm (own_hrc (own_nc16 _) (own_hrc (own_nc16 _) own_hrn)))) hZ (hwi hw 10 rfl) (hwi hw 6 rfl) (by decide) (by decide)) (g := (mkF m 56 #[.val (.int p1), .val (.int p2)] [(.ref b12), (.ref b11), (.ref b11)])) rfl (by rw [hml]; rfl) (Steps.refl _) (a := b11) (argsL := [(.ref b12)]) (rest := [(.ref b11)]) (lenOf pd___C_V rfl) rfl (by show 2 * 0 + _ ≤ _; exact Nat.le_of_eq rfl) (hb hby (dq dz1 38 56 rfl)) (fun _ _ => ⟨rfl, e16, (by decide : 2 + 2 ≤ _), (by decide : 6 + 192 ≤ _)⟩)
      dsimp only [Pt.U, Pt.locs, Pt.cells, Pt.slots] at X17 l17 y17 z17 st17 hQ17
      rw [l17, y17, z17] at X17
      have X17 : Stand p l e _ _ m _ below meth c T17 _ 4 198 := X17
      obtain ⟨rfl, N17q, K17q, Eq17, Cq17, t17, kt17, lt17, Vq17, Aq17⟩ := hQ17
      have N17 := Fr.app N16 N17q
      refine GoH.tr st17 ?_
      have g_t17 : n0 ≤ t17 := Nat.le_trans (own_le O) lt17
      have Sf_t17 : Safe Z EL s.vm h16 t17 := Safe.new lt17
      have sz_t17 : h0.size ≤ t17 := Nat.le_trans KK.1 lt17
      have ne_b11_t17 : b11 ≠ t17 := Nat.ne_of_lt (Nat.lt_of_lt_of_le E_b11.lt lt17)
      have ne_b12_t17 : b12 ≠ t17 := Nat.ne_of_lt (Nat.lt_of_lt_of_le V_b12.lt lt17)
      have E_b11 := E_b11.keep K17q
      have V_b12 := V_b12.keep K17q (ninS (Ne.symm ne_b11_b12) nin0)
      have sfw17 := (sfS Sf_b11 sf0)
      have Sf_b11 := Safe.keep K17q sfw17 HH Sf_b11
      have Sf_b12 := Safe.keep K17q sfw17 HH Sf_b12
      have Sf_t17 := Safe.keep K17q sfw17 HH Sf_t17
      have RR := RR.trans (CHr.keep K17q sfw17 HH)
      have HH := HH.keep K17q sfw17
      have hk := Nat.le_trans hk K17q.1
      have O := O.keep K17q (allS g_b11 all0)
      have KK := KK.trans K17q (allS (Or.inr sz_b11) all0)
      have E_b11 := Eq17
      show GoH _ _ _ _ _ _ _ _ _ _  T17 (mkF m 59 #[.val (.int p1), .val (.int p2)] [(.ref b11)])
      refine GoH.retR X17 hS hk rfl hZ hEL HH RR hlk hx Bd.returns rfl rfl rfl (hb hby (dq dz1 39 59 rfl)) (by decide) (by decide) ?_
      show Q_rmMk Z _ _ _ h0 n0 _ T17.heap _
      exact ⟨_, _, _, rfl, N17, own_ext0 KK, sz_b11, E_b11, (by rw [own_mk2 c1_1 c17_5]; exact Cq17), Vq17, (by rw [own_mk2 c1_1 c17_5]; exact Aq17)⟩
def Q_rmFR (Z : State) (a1 : Addr) (a2 : Addr) (zc : Int32) (fm : Value) (z1 : Addr) (k1 : ClassId) (r1 : List Int32) (z2 : Addr) (k2 : ClassId) (r2 : List Int32) (h0 : Heap) (n0 : Nat) (v : Option Value) (h : Heap) (L : List Loc) : Prop := ∃ (x y t : Addr) (kt : ClassId), v = some (.ref x) ∧ Fr n0 L ∧ Ext h0 h ∧ Exa Z h x "com/example/keyset/keyset/query/DeclarationException" ∧ Fld Z h x "java/lang/Throwable" "detailMessage" "Ljava/lang/String;" (.ref y) ∧ Exa Z h y "java/lang/String" ∧ Fld Z h y "java/lang/String" "coder" "B" (.int (own_cd (own_M r1 r2))) ∧ Fld Z h y "java/lang/String" "value" "[B" (.ref t) ∧ Arv Z h t kt .byte (Int32.ofNat (own_by (own_M r1 r2)).length) ((own_by (own_M r1 r2)).map Value.int) (.int 0)
theorem rmFR (l : Launch) (Z : State) (a0 : Array Value) (hw : HWt a0 Z) (ws : List Jvm.Cond) (a1 : Addr) (a2 : Addr) (zc : Int32) (fm : Value) (z1 : Addr) (k1 : ClassId) (r1 : List Int32) (z2 : Addr) (k2 : ClassId) (r2 : List Int32) (h0 : Heap) (n0 : Nat) (O : Old Z n0 h0) (hEL : EW Z a0 EL) (wS : ∀ a ∈ Bundle.stringAtoms, a.before a0 Z = true) (S_COMPACT : Sta Z Z.heap "java/lang/String" "COMPACT_STRINGS" "Z" (.int zc)) (hcs : ¬ zc = 0) (S_SIO : Sta Z Z.heap "jdk/internal/util/Preconditions" "SIOOBE_FORMATTER" "Ljava/util/function/BiFunction;" fm) (ref_fm : fm.isRef = true) (S_ad : Sta Z Z.heap "java/lang/StringUTF16" "$assertionsDisabled" "Z" (.int 1)) (S_hi : Sta Z Z.heap "java/lang/StringUTF16" "HI_BYTE_SHIFT" "I" (.int 0)) (S_lo : Sta Z Z.heap "java/lang/StringUTF16" "LO_BYTE_SHIFT" "I" (.int 8)) (hl : l.stackTraces = true) (hr : ∀ d ∈ twoRefs, d.before a0 Z = true) (E_a1 : Exa Z h0 a1 "java/lang/String") (C_a1 : Fld Z h0 a1 "java/lang/String" "coder" "B" (.int (own_cd r1))) (V_a1 : Fld Z h0 a1 "java/lang/String" "value" "[B" (.ref z1)) (A_z1 : Arv Z h0 z1 k1 .byte (Int32.ofNat (own_by r1).length) ((own_by r1).map Value.int) (.int 0)) (E_a2 : Exa Z h0 a2 "java/lang/String") (C_a2 : Fld Z h0 a2 "java/lang/String" "coder" "B" (.int (own_cd r2))) (V_a2 : Fld Z h0 a2 "java/lang/String" "value" "[B" (.ref z2)) (A_z2 : Arv Z h0 z2 k2 .byte (Int32.ofNat (own_by r2).length) ((own_by r2).map Value.int) (.int 0)) (hb1 : r1.length ≤ 2) (hb2 : r2.length ≤ 2) (hr_a1 : ∀ j, j < r1.length → nar .char (r1.getD j 0) = r1.getD j 0) (hr_a2 : ∀ j, j < r2.length → nar .char (r2.getD j 0) = r2.getD j 0) :
    MetFree l mY54 (head1 (Jvm.Cond.code mY54 prog_2_method_2_code 2 (some (.object "com/example/keyset/keyset/query/DeclarationException")) :: ws) rz10_20_4600_160) (fun a U => a = #[(.ref a1), (.ref a2)] ∧ Z.Warmed39 U.vm ∧ U.heap = h0 ∧ CHv Z EL U.vm h0 ∧ ∀ x ∈ ([] : List Addr), Safe Z EL U.vm h0 x) (fun _ _ bl s _ => s.vm.MethodsKnown ∧ s.vm.FramesKnown bl) (fun _ U o U' => ∃ v L, o = .returned v ∧ Q_rmFR Z a1 a2 zc fm z1 k1 r1 z2 k2 r2 h0 n0 v U'.heap L ∧ CHr Z EL U.vm U.heap U'.vm U'.heap ∧ ReturnedEndW U o U' L rz10_20_4600_160.cells rz10_20_4600_160.slots) := by
  refine MetFree.of_bodySF (plainFor_of_name pn_8) hisR ?_
  intro p e s m args below meth c s₁ Bd hml0 hP hK
  obtain ⟨rfl, hZ, hh, HH, hSF⟩ := hP
  have hx := Bd.exec
  have hby := Bd.bytes
  have hml : c.maxLocals = 2 := hml0
  have hown : s.vm.findClass "com/example/keyset/keyset/query/DeclarationException" = some m.cls := findClass_of_methodNamed Bd.named
  have hlk : meth.locks = false := BodyLoose.notSynchronized Bd
  have X0 : Stand p l e rz10_20_4600_160 (s.setVm s.vm) m #[(.ref a1), (.ref a2)] below meth c s₁ [] 0 0 := Stand.of_body Bd
  have e0 : s₁.heap = h0 := by rw [← hh, Bd.state]; rfl
  have N0 := Fr.nil n0
  have KK : Keep h0 h0 [] := Keep.refl h0 _
  have hS : s.Since s.vm h0.size := own_since s _
  have hk : h0.size ≤ h0.size := Nat.le_refl _
  have RR : CHr Z EL s.vm h0 s.vm h0 := CHr.refl HH
  suffices hgo : GoH p e below s rz10_20_4600_160.cells rz10_20_4600_160.slots Z h0 EL (Q_rmFR Z a1 a2 zc fm z1 k1 r1 z2 k2 r2 h0 n0) s₁ (entryFrame m #[(.ref a1), (.ref a2)] 2) by
    obtain ⟨s₂, o, q1, q2, q3, v, L, q4, q5, q6, q7⟩ := hgo; exact ⟨s₂, o, q1, q2, q3, v, L, q4, q5, hh ▸ q6, q7⟩
  refine GoH.eq (ef_rmFR m a1 a2) ?_
  show GoH _ _ _ _ _ _ _ _ _ _  s₁ (mkF m 0 #[.val (.ref a1), .val (.ref a2)] [])
  obtain ⟨T1, h1, X1, e1, E1, A1, D1, U1, st1⟩ := newO X0 hx hZ hown (hwi hw 41 rfl) (hwi hw 42 rfl) (hwi hw 39 rfl) e0 (g := (mkF m 0 #[.val (.ref a1), .val (.ref a2)] [])) rfl (hb hby (dq dz8 0 0 rfl)) (by decide) (by decide)
  obtain ⟨b1, g1⟩ : ∃ z, z = h0.size := ⟨_, rfl⟩
  rw [← g1] at A1 D1 U1 st1
  refine GoH.st st1 ?_
  have g_b1 : n0 ≤ b1 := by rw [g1]; exact own_le O
  have Sf_b1 : Safe Z EL s.vm h0 b1 := Safe.new (Nat.le_of_eq g1.symm)
  have sz_b1 : h0.size ≤ b1 := by rw [g1]; exact KK.1
  have ne_a1_b1 : a1 ≠ b1 := Nat.ne_of_lt (by rw [g1]; exact E_a1.lt)
  have ne_z1_b1 : z1 ≠ b1 := Nat.ne_of_lt (by rw [g1]; exact A_z1.lt)
  have ne_a2_b1 : a2 ≠ b1 := Nat.ne_of_lt (by rw [g1]; exact E_a2.lt)
  have ne_z2_b1 : z2 ≠ b1 := Nat.ne_of_lt (by rw [g1]; exact A_z2.lt)
  have E_a1 := E_a1.ext E1
  have A_z1 := A_z1.ext E1
  have C_a1 := C_a1.ext E1
  have V_a1 := V_a1.ext E1
  have E_a2 := E_a2.ext E1
  have A_z2 := A_z2.ext E1
  have C_a2 := C_a2.ext E1
  have V_a2 := V_a2.ext E1
  have Sf_b1 := Safe.ext E1 HH Sf_b1
  have RR := RR.trans (CHr.ext E1 HH)
  have HH := HH.ext E1
  have hk := Nat.le_trans hk E1.1
  have O := O.ext E1
  have KK := KK.ext E1
  have E_b1 := A1
  have U_b1 : Unt h1 b1 := U1
  have F_cause_b1 : Fld Z h1 b1 "java/lang/Throwable" "cause" "Ljava/lang/Throwable;" .null := D1 (Or.inl (hwi hw 177 rfl)) (ty := (.object "java/lang/Throwable")) (by decide)
  have F_stackTrace_b1 : Fld Z h1 b1 "java/lang/Throwable" "stackTrace" "[Ljava/lang/StackTraceElement;" .null := D1 (Or.inl (hwi hw 180 rfl)) (ty := (.array (.object "java/lang/StackTraceElement"))) (by decide)
  have F_suppressedExceptions_b1 : Fld Z h1 b1 "java/lang/Throwable" "suppressedExceptions" "Ljava/util/List;" .null := D1 (Or.inl (hwi hw 183 rfl)) (ty := (.object "java/util/List")) (by decide)
  have F_detailMessage_b1 : Fld Z h1 b1 "java/lang/Throwable" "detailMessage" "Ljava/lang/String;" .null := D1 (Or.inl (hwi hw 207 rfl)) (ty := (.object "java/lang/String")) (by decide)
  have F_backtrace_b1 : Fld Z h1 b1 "java/lang/Throwable" "backtrace" "Ljava/lang/Object;" .null := D1 (Or.inl (hwi hw 208 rfl)) (ty := (.object "java/lang/Object")) (by decide)
  have F_depth_b1 : Fld Z h1 b1 "java/lang/Throwable" "depth" "I" (.int (0 : Int32)) := D1 (Or.inl (hwi hw 209 rfl)) (ty := .int) (by decide)
  show GoH _ _ _ _ _ _ _ _ _ _  T1 (mkF m 3 #[.val (.ref a1), .val (.ref a2)] [(.ref b1)])
  refine GoH.st (fun _ => XS.dup X1.here hx rfl (hb hby (dq dz8 1 3 rfl)) rfl rfl) ?_
  show GoH _ _ _ _ _ _ _ _ _ _  T1 (mkF m 4 #[.val (.ref a1), .val (.ref a2)] [(.ref b1), (.ref b1)])
  obtain ⟨T2, h2, X2, e2, E2, A2, D2, U2, st2⟩ := newO X1 hx hZ hown (hwi hw 43 rfl) (hwi hw 44 rfl) (hwi hw 45 rfl) e1 (g := (mkF m 4 #[.val (.ref a1), .val (.ref a2)] [(.ref b1), (.ref b1)])) rfl (hb hby (dq dz8 2 4 rfl)) (by decide) (by decide)
  obtain ⟨b2, g2⟩ : ∃ z, z = h1.size := ⟨_, rfl⟩
  rw [← g2] at A2 D2 U2 st2
  refine GoH.st st2 ?_
  have g_b2 : n0 ≤ b2 := by rw [g2]; exact own_le O
  have Sf_b2 : Safe Z EL s.vm h1 b2 := Safe.new (Nat.le_of_eq g2.symm)
  have sz_b2 : h0.size ≤ b2 := by rw [g2]; exact KK.1
  have ne_a1_b2 : a1 ≠ b2 := Nat.ne_of_lt (by rw [g2]; exact E_a1.lt)
  have ne_z1_b2 : z1 ≠ b2 := Nat.ne_of_lt (by rw [g2]; exact A_z1.lt)
  have ne_a2_b2 : a2 ≠ b2 := Nat.ne_of_lt (by rw [g2]; exact E_a2.lt)
  have ne_z2_b2 : z2 ≠ b2 := Nat.ne_of_lt (by rw [g2]; exact A_z2.lt)
  have ne_b1_b2 : b1 ≠ b2 := Nat.ne_of_lt (by rw [g2]; exact E_b1.lt)
  have E_a1 := E_a1.ext E2
  have A_z1 := A_z1.ext E2
  have C_a1 := C_a1.ext E2
  have V_a1 := V_a1.ext E2
  have E_a2 := E_a2.ext E2
  have A_z2 := A_z2.ext E2
  have C_a2 := C_a2.ext E2
  have V_a2 := V_a2.ext E2
  have E_b1 := E_b1.ext E2
  have U_b1 := U_b1.ext E2
  have F_cause_b1 := F_cause_b1.ext E2
  have F_stackTrace_b1 := F_stackTrace_b1.ext E2
  have F_suppressedExceptions_b1 := F_suppressedExceptions_b1.ext E2
  have F_detailMessage_b1 := F_detailMessage_b1.ext E2
  have F_backtrace_b1 := F_backtrace_b1.ext E2
  have Sf_b1 := Safe.ext E2 HH Sf_b1
  have Sf_b2 := Safe.ext E2 HH Sf_b2
  have RR := RR.trans (CHr.ext E2 HH)
  have HH := HH.ext E2
  have hk := Nat.le_trans hk E2.1
  have O := O.ext E2
  have KK := KK.ext E2
  have E_b2 := A2
  have F_value_b2 : Fld Z h2 b2 "java/lang/AbstractStringBuilder" "value" "[B" .null := D2 (Or.inl (hwi hw 58 rfl)) (ty := (.array .byte)) (by decide)
  have F_coder_b2 : Fld Z h2 b2 "java/lang/AbstractStringBuilder" "coder" "B" (.int (0 : Int32)) := D2 (Or.inl (hwi hw 60 rfl)) (ty := .byte) (by decide)
  have F_count_b2 : Fld Z h2 b2 "java/lang/AbstractStringBuilder" "count" "I" (.int (0 : Int32)) := D2 (Or.inl (hwi hw 83 rfl)) (ty := .int) (by decide)
  have F_maybeLatin1_b2 : Fld Z h2 b2 "java/lang/AbstractStringBuilder" "maybeLatin1" "Z" (.int (0 : Int32)) := D2 (Or.inl (hwi hw 295 rfl)) (ty := .boolean) (by decide)
  show GoH _ _ _ _ _ _ _ _ _ _  T2 (mkF m 7 #[.val (.ref a1), .val (.ref a2)] [(.ref b2), (.ref b1), (.ref b1)])
  refine GoH.st (fun _ => XS.dup X2.here hx rfl (hb hby (dq dz8 3 7 rfl)) rfl rfl) ?_
  show GoH _ _ _ _ _ _ _ _ _ _  T2 (mkF m 8 #[.val (.ref a1), .val (.ref a2)] [(.ref b2), (.ref b2), (.ref b1), (.ref b1)])
  obtain ⟨_, _, ⟨T3, L3, k3, n3⟩, -, X3, ⟨Lc3, hQ3, l3, y3, z3⟩, st3⟩ := X2.specialBack hx (y := mY14) rfl hown (mvT hZ (hwi hw 46 rfl)) (mvT hZ (hwi hw 47 rfl)) (mvT hZ (hwi hw 48 rfl)) (by decide) (backOf (W := 3) (rmI0 l Z a0 hw [] b2 zc h2 n0 O S_COMPACT hcs E_b2 F_value_b2 F_coder_b2 F_count_b2 F_maybeLatin1_b2 g_b2) hZ (hwi hw 48 rfl) (hwi hw 45 rfl) (by decide) (by decide)) (g := (mkF m 8 #[.val (.ref a1), .val (.ref a2)] [(.ref b2), (.ref b2), (.ref b1), (.ref b1)])) rfl (by rw [hml]; rfl) (Steps.refl _) (a := b2) (argsL := []) (rest := [(.ref b2), (.ref b1), (.ref b1)]) (lenOf pd___V rfl) rfl (by show 2 * 0 + _ ≤ _; exact Nat.le_of_eq rfl) (hb hby (dq dz8 4 8 rfl)) (fun _ _ => ⟨rfl, e2, (by decide : 2 + 1 ≤ _), (by decide : 10 + 16 ≤ _)⟩)
  dsimp only [Pt.U, Pt.locs, Pt.cells, Pt.slots] at X3 l3 y3 z3 st3 hQ3
  rw [l3, y3, z3] at X3
  have X3 : Stand p l e _ _ m _ below meth c T3 _ 3 26 := X3
  obtain ⟨rfl, N3q, K3q, Eq3, Cq3, Nq3, Mq3, t3, kt3, lt3, Vq3, Aq3, Xq3⟩ := hQ3
  have N3 := Fr.app N0 N3q
  refine GoH.tr st3 ?_
  have g_t3 : n0 ≤ t3 := Nat.le_trans (own_le O) lt3
  have Sf_t3 : Safe Z EL s.vm h2 t3 := Safe.new lt3
  have sz_t3 : h0.size ≤ t3 := Nat.le_trans KK.1 lt3
  have ne_a1_t3 : a1 ≠ t3 := Nat.ne_of_lt (Nat.lt_of_lt_of_le E_a1.lt lt3)
  have ne_z1_t3 : z1 ≠ t3 := Nat.ne_of_lt (Nat.lt_of_lt_of_le A_z1.lt lt3)
  have ne_a2_t3 : a2 ≠ t3 := Nat.ne_of_lt (Nat.lt_of_lt_of_le E_a2.lt lt3)
  have ne_z2_t3 : z2 ≠ t3 := Nat.ne_of_lt (Nat.lt_of_lt_of_le A_z2.lt lt3)
  have ne_b1_t3 : b1 ≠ t3 := Nat.ne_of_lt (Nat.lt_of_lt_of_le E_b1.lt lt3)
  have ne_b2_t3 : b2 ≠ t3 := Nat.ne_of_lt (Nat.lt_of_lt_of_le E_b2.lt lt3)
  have E_a1 := E_a1.keep K3q
  have A_z1 := A_z1.keep K3q (ninS ne_z1_b2 nin0)
  have C_a1 := C_a1.keep K3q (ninS ne_a1_b2 nin0)
  have V_a1 := V_a1.keep K3q (ninS ne_a1_b2 nin0)
  have E_a2 := E_a2.keep K3q
  have A_z2 := A_z2.keep K3q (ninS ne_z2_b2 nin0)
  have C_a2 := C_a2.keep K3q (ninS ne_a2_b2 nin0)
  have V_a2 := V_a2.keep K3q (ninS ne_a2_b2 nin0)
  have E_b1 := E_b1.keep K3q
  have U_b1 := U_b1.keep K3q (ninS ne_b1_b2 nin0)
  have F_cause_b1 := F_cause_b1.keep K3q (ninS ne_b1_b2 nin0)
  have F_stackTrace_b1 := F_stackTrace_b1.keep K3q (ninS ne_b1_b2 nin0)
  have F_suppressedExceptions_b1 := F_suppressedExceptions_b1.keep K3q (ninS ne_b1_b2 nin0)
  have F_detailMessage_b1 := F_detailMessage_b1.keep K3q (ninS ne_b1_b2 nin0)
  have F_backtrace_b1 := F_backtrace_b1.keep K3q (ninS ne_b1_b2 nin0)
  have E_b2 := E_b2.keep K3q
  have sfw3 := (sfS Sf_b2 sf0)
  have Sf_b1 := Safe.keep K3q sfw3 HH Sf_b1
  have Sf_b2 := Safe.keep K3q sfw3 HH Sf_b2
  have Sf_t3 := Safe.keep K3q sfw3 HH Sf_t3
  have RR := RR.trans (CHr.keep K3q sfw3 HH)
  have HH := HH.keep K3q sfw3
  have hk := Nat.le_trans hk K3q.1
  have O := O.keep K3q (allS g_b2 all0)
  have KK := KK.trans K3q (allS (Or.inr sz_b2) all0)
  have E_b2 := Eq3
  have XX_b2 : Exa Z _ t3 "[B" ∨ 30 < 16 := Or.inl Xq3
  show GoH _ _ _ _ _ _ _ _ _ _  T3 (mkF m 11 #[.val (.ref a1), .val (.ref a2)] [(.ref b2), (.ref b1), (.ref b1)])
  obtain ⟨sa4, T4, h4, kk4, sb4, kb4, X4, e4, E4, hS4, hk4, hZ4, ho4, E_sa4, F_coder_sa4, F_value_sa4, V_sb4, la4, lb4, CR4, Lt4, ns4, st4⟩ := ldcCH X3 hx hZ hown (hwi hw 61 rfl) wS rfl hS hk hEL (List.mem_of_getElem? (i := 0) rfl) HH (vs := [(.int (114 : Int32)), (.int (101 : Int32)), (.int (115 : Int32)), (.int (111 : Int32)), (.int (117 : Int32)), (.int (114 : Int32)), (.int (99 : Int32)), (.int (101 : Int32)), (.int (32 : Int32)), (.int (34 : Int32))]) (z := 10) ⟨by decide, by decide⟩ (by decide) rfl (g := (mkF m 11 #[.val (.ref a1), .val (.ref a2)] [(.ref b2), (.ref b1), (.ref b1)])) rfl (hb hby (dq dz8 5 11 rfl)) (n := 40) (by decide) (by decide) (by decide) (by decide)
  refine GoH.st st4 ?_
  have Sf_b1 := CHr.safe CR4 E_b1.lt Sf_b1
  have Sf_b2 := CHr.safe CR4 E_b2.lt Sf_b2
  have Sf_t3 := CHr.safe CR4 Aq3.lt Sf_t3
  have E_a1 := E_a1.ext E4
  have A_z1 := A_z1.ext E4
  have C_a1 := C_a1.ext E4
  have V_a1 := V_a1.ext E4
  have E_a2 := E_a2.ext E4
  have A_z2 := A_z2.ext E4
  have C_a2 := C_a2.ext E4
  have V_a2 := V_a2.ext E4
  have E_b1 := E_b1.ext E4
  have U_b1 := U_b1.ext E4
  have F_cause_b1 := F_cause_b1.ext E4
  have F_stackTrace_b1 := F_stackTrace_b1.ext E4
  have F_suppressedExceptions_b1 := F_suppressedExceptions_b1.ext E4
  have F_detailMessage_b1 := F_detailMessage_b1.ext E4
  have F_backtrace_b1 := F_backtrace_b1.ext E4
  have E_b2 := E_b2.ext E4
  have XX_b2 := XX_b2.imp (fun q => q.ext E4) id
  have Aq3 := Aq3.ext E4
  have Cq3 := Cq3.ext E4
  have Vq3 := Vq3.ext E4
  have Nq3 := Nq3.ext E4
  have Mq3 := Mq3.ext E4
  have O := O.ext E4
  have KK := KK.ext E4
  have RR := RR.trans CR4
  have HH := CR4.1
  have hS := hS4
  have hk := hk4
  have hZ := hZ4
  have hown := ho4
  obtain ⟨ne_b1_sa4, ne_b1_sb4⟩ := ns4 _ Sf_b1
  obtain ⟨ne_b2_sa4, ne_b2_sb4⟩ := ns4 _ Sf_b2
  obtain ⟨ne_t3_sa4, ne_t3_sb4⟩ := ns4 _ Sf_t3
  show GoH _ _ _ _ _ _ _ _ _ _  T4 (mkF m 13 #[.val (.ref a1), .val (.ref a2)] [(.ref sa4), (.ref b2), (.ref b1), (.ref b1)])
  have C_l5 : Fld Z h4 sa4 "java/lang/String" "coder" "B" (.int (own_cd own_L1)) := by rw [own_cdL1]; exact F_coder_sa4
  have A_l5 : Arv Z h4 sb4 kb4 .byte (Int32.ofNat (own_by own_L1).length) ((own_by own_L1).map Value.int) (.int 0) := by rw [own_byL1]; exact V_sb4
  obtain ⟨cq6, kq6, q6a, q6b, q6c⟩ := isOf hZ e4 E_b2
  obtain ⟨_, _, ⟨T6, L6, k6, n6⟩, -, X6, ⟨Lc6, hQ6, l6, y6, z6⟩, st6⟩ := X4.virtualBack hx (y := mY12) (z := mY12) hown (mvT hZ (hwi hw 62 rfl)) (mvT hZ (hwi hw 63 rfl)) (notFace_of_selects (args := #[]) (mvT hZ (hwi hw 65 rfl))) (mvT hZ (hwi hw 65 rfl)) (mvT hZ (hwi hw 64 rfl)) (by decide) (backOf (W := 2) (rmSU l Z a0 hw [] b2 sa4 zc fm t3 kt3 ([] : List Int32) 16 sb4 kb4 own_L1 h0.size h4 n0 O S_COMPACT hcs S_SIO ref_fm S_ad S_hi S_lo E_b2 Cq3 Vq3 Nq3 Mq3 Aq3 (Nat.zero_le _) (by decide) (by decide) g_b2 g_t3 E_sa4 C_l5 F_value_sa4 A_l5 (own_hrm own_hrn) own_hrL1 (by simp only [List.length_append, List.length_nil, own_l1_, own_l2_]; omega) (Ne.symm ne_t3_sb4) V_sb4.lt sz_t3 KK.1 XX_b2) hZ (hwi hw 66 rfl) (hwi hw 45 rfl) (by decide) (by decide)) q6a q6c (g := (mkF m 13 #[.val (.ref a1), .val (.ref a2)] [(.ref sa4), (.ref b2), (.ref b1), (.ref b1)])) rfl (by rw [hml]; rfl) (Steps.refl _) (argsL := [(.ref sa4)]) (rest := [(.ref b1), (.ref b1)]) (lenOf pd__Ljava_lang_String__Ljava_lang_StringBuilder_ rfl) rfl (by show 2 * 0 + _ ≤ _; exact Nat.le_of_eq rfl) (hb hby (dq dz8 6 13 rfl)) (fun _ _ => ⟨rfl, e4, (by decide : 5 + 2 ≤ _), (by decide : 70 + 304 ≤ _)⟩)
  dsimp only [Pt.U, Pt.locs, Pt.cells, Pt.slots] at X6 l6 y6 z6 st6 hQ6
  rw [l6, y6, z6] at X6
  have X6 : Stand p l e _ _ m _ below meth c T6 _ 7 374 := X6
  obtain ⟨rfl, N6q, K6q, t6, kt6, cp6, bt6, kc6, gb6, mb6, Eq6, Cq6, Vq6, Nq6, Mq6, Aq6, lo6, hi6, Xq6⟩ := hQ6
  have ne_z1_t6 : z1 ≠ t6 := bt6.elim (fun e => e ▸ ne_z1_t3) (fun e => Nat.ne_of_lt (Nat.lt_of_lt_of_le A_z1.lt e))
  have ne_z2_t6 : z2 ≠ t6 := bt6.elim (fun e => e ▸ ne_z2_t3) (fun e => Nat.ne_of_lt (Nat.lt_of_lt_of_le A_z2.lt e))
  have ne_sb4_t6 : sb4 ≠ t6 := bt6.elim (fun e => e ▸ (Ne.symm ne_t3_sb4)) (fun e => Nat.ne_of_lt (Nat.lt_of_lt_of_le V_sb4.lt e))
  have Sf_t6 : Safe Z EL T4.vm h4 t6 := bt6.elim (fun e => e ▸ Sf_t3) Safe.new
  have N6 := Fr.app N3 N6q
  refine GoH.tr st6 ?_
  have E_a1 := E_a1.keep K6q
  have A_z1 := A_z1.keep K6q (ninS ne_z1_b2 (ninS ne_z1_t3 nin0))
  have C_a1 := C_a1.keep K6q (ninS ne_a1_b2 (ninS ne_a1_t3 nin0))
  have V_a1 := V_a1.keep K6q (ninS ne_a1_b2 (ninS ne_a1_t3 nin0))
  have E_a2 := E_a2.keep K6q
  have A_z2 := A_z2.keep K6q (ninS ne_z2_b2 (ninS ne_z2_t3 nin0))
  have C_a2 := C_a2.keep K6q (ninS ne_a2_b2 (ninS ne_a2_t3 nin0))
  have V_a2 := V_a2.keep K6q (ninS ne_a2_b2 (ninS ne_a2_t3 nin0))
  have E_b1 := E_b1.keep K6q
  have U_b1 := U_b1.keep K6q (ninS ne_b1_b2 (ninS ne_b1_t3 nin0))
  have F_cause_b1 := F_cause_b1.keep K6q (ninS ne_b1_b2 (ninS ne_b1_t3 nin0))
  have F_stackTrace_b1 := F_stackTrace_b1.keep K6q (ninS ne_b1_b2 (ninS ne_b1_t3 nin0))
  have F_suppressedExceptions_b1 := F_suppressedExceptions_b1.keep K6q (ninS ne_b1_b2 (ninS ne_b1_t3 nin0))
  have F_detailMessage_b1 := F_detailMessage_b1.keep K6q (ninS ne_b1_b2 (ninS ne_b1_t3 nin0))
  have F_backtrace_b1 := F_backtrace_b1.keep K6q (ninS ne_b1_b2 (ninS ne_b1_t3 nin0))
  have E_b2 := E_b2.keep K6q
  have XX_b2 := XX_b2.imp (fun q => q.keep K6q) id
  have E_sa4 := E_sa4.keep K6q
  have V_sb4 := V_sb4.keep K6q (ninS (Ne.symm ne_b2_sb4) (ninS (Ne.symm ne_t3_sb4) nin0))
  have F_coder_sa4 := F_coder_sa4.keep K6q (ninS (Ne.symm ne_b2_sa4) (ninS (Ne.symm ne_t3_sa4) nin0))
  have F_value_sa4 := F_value_sa4.keep K6q (ninS (Ne.symm ne_b2_sa4) (ninS (Ne.symm ne_t3_sa4) nin0))
  have sfw6 := (sfS Sf_b2 (sfS Sf_t3 sf0))
  have Sf_b1 := Safe.keep K6q sfw6 HH Sf_b1
  have Sf_b2 := Safe.keep K6q sfw6 HH Sf_b2
  have Sf_t3 := Safe.keep K6q sfw6 HH Sf_t3
  have Sf_t6 := Safe.keep K6q sfw6 HH Sf_t6
  have RR := RR.trans (CHr.keep K6q sfw6 HH)
  have HH := HH.keep K6q sfw6
  have hk := Nat.le_trans hk K6q.1
  have O := O.keep K6q (allS g_b2 (allS g_t3 all0))
  have KK := KK.trans K6q (allS (Or.inr sz_b2) (allS (Or.inr sz_t3) all0))
  have E_b2 := Eq6
  have g_t6 := gb6
  have sz_t6 : h0.size ≤ t6 := mb6
  have XX_b2 := Xq6
  have hrc6 := own_hrj (own_hrm own_hrn) own_hrL1
  show GoH _ _ _ _ _ _ _ _ _ _  T6 (mkF m 16 #[.val (.ref a1), .val (.ref a2)] [(.ref b2), (.ref b1), (.ref b1)])
  refine GoH.st (fun _ => XS.aloadN X6.here hx rfl (hb hby (dq dz8 7 16 rfl)) rfl rfl) ?_
  show GoH _ _ _ _ _ _ _ _ _ _  T6 (mkF m 17 #[.val (.ref a1), .val (.ref a2)] [(.ref a1), (.ref b2), (.ref b1), (.ref b1)])
  obtain ⟨cq7, kq7, q7a, q7b, q7c⟩ := isOf hZ rfl E_b2
  obtain ⟨_, _, ⟨T7, L7, k7, n7⟩, -, X7, ⟨Lc7, hQ7, l7, y7, z7⟩, st7⟩ := X6.virtualBack hx (y := mY12) (z := mY12) hown (mvT hZ (hwi hw 62 rfl)) (mvT hZ (hwi hw 63 rfl)) (notFace_of_selects (args := #[]) (mvT hZ (hwi hw 65 rfl))) (mvT hZ (hwi hw 65 rfl)) (mvT hZ (hwi hw 64 rfl)) (by decide) (backOf (W := 2) (rmSU l Z a0 hw [] b2 a1 zc fm t6 kt6 (([] : List Int32) ++ own_L1) cp6 z1 k1 r1 h0.size T6.heap n0 O S_COMPACT hcs S_SIO ref_fm S_ad S_hi S_lo E_b2 Cq6 Vq6 Nq6 Mq6 Aq6 kc6 lo6 hi6 g_b2 g_t6 E_a1 C_a1 V_a1 A_z1 hrc6 hr_a1 (by simp only [List.length_append, List.length_nil, own_l1_, own_l2_]; omega) ne_z1_t6 A_z1.lt sz_t6 KK.1 XX_b2) hZ (hwi hw 66 rfl) (hwi hw 45 rfl) (by decide) (by decide)) q7a q7c (g := (mkF m 17 #[.val (.ref a1), .val (.ref a2)] [(.ref a1), (.ref b2), (.ref b1), (.ref b1)])) rfl (by rw [hml]; rfl) (Steps.refl _) (argsL := [(.ref a1)]) (rest := [(.ref b1), (.ref b1)]) (lenOf pd__Ljava_lang_String__Ljava_lang_StringBuilder_ rfl) rfl (by show 2 * 0 + _ ≤ _; exact Nat.le_of_eq rfl) (hb hby (dq dz8 8 17 rfl)) (fun _ _ => ⟨rfl, rfl, (by decide : 7 + 2 ≤ _), (by decide : 374 + 304 ≤ _)⟩)
  dsimp only [Pt.U, Pt.locs, Pt.cells, Pt.slots] at X7 l7 y7 z7 st7 hQ7
  rw [l7, y7, z7] at X7
  have X7 : Stand p l e _ _ m _ below meth c T7 _ 9 678 := X7
  obtain ⟨rfl, N7q, K7q, t7, kt7, cp7, bt7, kc7, gb7, mb7, Eq7, Cq7, Vq7, Nq7, Mq7, Aq7, lo7, hi7, Xq7⟩ := hQ7
  have ne_z1_t7 : z1 ≠ t7 := bt7.elim (fun e => e ▸ ne_z1_t6) (fun e => Nat.ne_of_lt (Nat.lt_of_lt_of_le A_z1.lt e))
  have ne_z2_t7 : z2 ≠ t7 := bt7.elim (fun e => e ▸ ne_z2_t6) (fun e => Nat.ne_of_lt (Nat.lt_of_lt_of_le A_z2.lt e))
  have ne_sb4_t7 : sb4 ≠ t7 := bt7.elim (fun e => e ▸ ne_sb4_t6) (fun e => Nat.ne_of_lt (Nat.lt_of_lt_of_le V_sb4.lt e))
  have Sf_t7 : Safe Z EL T4.vm T6.heap t7 := bt7.elim (fun e => e ▸ Sf_t6) Safe.new
  have N7 := Fr.app N6 N7q
  refine GoH.tr st7 ?_
  have ne_a1_t6 : a1 ≠ t6 := (Exa.neArv E_a1 Aq6 (hwi hw 5 rfl))
  have ne_a2_t6 : a2 ≠ t6 := (Exa.neArv E_a2 Aq6 (hwi hw 5 rfl))
  have ne_b1_t6 : b1 ≠ t6 := (Exa.neArv E_b1 Aq6 (hwi hw 42 rfl))
  have ne_sa4_t6 : sa4 ≠ t6 := (Exa.neArv E_sa4 Aq6 (hwi hw 5 rfl))
  have E_a1 := E_a1.keep K7q
  have A_z1 := A_z1.keep K7q (ninS ne_z1_b2 (ninS ne_z1_t6 nin0))
  have C_a1 := C_a1.keep K7q (ninS ne_a1_b2 (ninS ne_a1_t6 nin0))
  have V_a1 := V_a1.keep K7q (ninS ne_a1_b2 (ninS ne_a1_t6 nin0))
  have E_a2 := E_a2.keep K7q
  have A_z2 := A_z2.keep K7q (ninS ne_z2_b2 (ninS ne_z2_t6 nin0))
  have C_a2 := C_a2.keep K7q (ninS ne_a2_b2 (ninS ne_a2_t6 nin0))
  have V_a2 := V_a2.keep K7q (ninS ne_a2_b2 (ninS ne_a2_t6 nin0))
  have E_b1 := E_b1.keep K7q
  have U_b1 := U_b1.keep K7q (ninS ne_b1_b2 (ninS ne_b1_t6 nin0))
  have F_cause_b1 := F_cause_b1.keep K7q (ninS ne_b1_b2 (ninS ne_b1_t6 nin0))
  have F_stackTrace_b1 := F_stackTrace_b1.keep K7q (ninS ne_b1_b2 (ninS ne_b1_t6 nin0))
  have F_suppressedExceptions_b1 := F_suppressedExceptions_b1.keep K7q (ninS ne_b1_b2 (ninS ne_b1_t6 nin0))
  have F_detailMessage_b1 := F_detailMessage_b1.keep K7q (ninS ne_b1_b2 (ninS ne_b1_t6 nin0))
  have F_backtrace_b1 := F_backtrace_b1.keep K7q (ninS ne_b1_b2 (ninS ne_b1_t6 nin0))
  have E_b2 := E_b2.keep K7q
  have XX_b2 := XX_b2.imp (fun q => q.keep K7q) id
  have E_sa4 := E_sa4.keep K7q
  have V_sb4 := V_sb4.keep K7q (ninS (Ne.symm ne_b2_sb4) (ninS ne_sb4_t6 nin0))
  have F_coder_sa4 := F_coder_sa4.keep K7q (ninS (Ne.symm ne_b2_sa4) (ninS ne_sa4_t6 nin0))
  have F_value_sa4 := F_value_sa4.keep K7q (ninS (Ne.symm ne_b2_sa4) (ninS ne_sa4_t6 nin0))
  have sfw7 := (sfS Sf_b2 (sfS Sf_t6 sf0))
  have Sf_b1 := Safe.keep K7q sfw7 HH Sf_b1
  have Sf_b2 := Safe.keep K7q sfw7 HH Sf_b2
  have Sf_t6 := Safe.keep K7q sfw7 HH Sf_t6
  have Sf_t7 := Safe.keep K7q sfw7 HH Sf_t7
  have RR := RR.trans (CHr.keep K7q sfw7 HH)
  have HH := HH.keep K7q sfw7
  have hk := Nat.le_trans hk K7q.1
  have O := O.keep K7q (allS g_b2 (allS g_t6 all0))
  have KK := KK.trans K7q (allS (Or.inr sz_b2) (allS (Or.inr sz_t6) all0))
  have E_b2 := Eq7
  have g_t7 := gb7
  have sz_t7 : h0.size ≤ t7 := mb7
  have XX_b2 := Xq7
  have hrc7 := own_hrj hrc6 hr_a1
  show GoH _ _ _ _ _ _ _ _ _ _  T7 (mkF m 20 #[.val (.ref a1), .val (.ref a2)] [(.ref b2), (.ref b1), (.ref b1)])
  obtain ⟨sa8, T8, h8, kk8, sb8, kb8, X8, e8, E8, hS8, hk8, hZ8, ho8, E_sa8, F_coder_sa8, F_value_sa8, V_sb8, la8, lb8, CR8, Lt8, ns8, st8⟩ := ldcCH X7 hx hZ hown (hwi hw 109 rfl) wS rfl hS hk hEL (List.mem_of_getElem? (i := 1) rfl) HH (vs := [(.int (34 : Int32)), (.int (58 : Int32)), (.int (32 : Int32))]) (z := 3) ⟨by decide, by decide⟩ (by decide) rfl (g := (mkF m 20 #[.val (.ref a1), .val (.ref a2)] [(.ref b2), (.ref b1), (.ref b1)])) rfl (hb hby (dq dz8 9 20 rfl)) (n := 12) (by decide) (by decide) (by decide) (by decide)
  refine GoH.st st8 ?_
  have Sf_b1 := CHr.safe CR8 E_b1.lt Sf_b1
  have Sf_b2 := CHr.safe CR8 E_b2.lt Sf_b2
  have Sf_t7 := CHr.safe CR8 Aq7.lt Sf_t7
  have E_a1 := E_a1.ext E8
  have A_z1 := A_z1.ext E8
  have C_a1 := C_a1.ext E8
  have V_a1 := V_a1.ext E8
  have E_a2 := E_a2.ext E8
  have A_z2 := A_z2.ext E8
  have C_a2 := C_a2.ext E8
  have V_a2 := V_a2.ext E8
  have E_b1 := E_b1.ext E8
  have U_b1 := U_b1.ext E8
  have F_cause_b1 := F_cause_b1.ext E8
  have F_stackTrace_b1 := F_stackTrace_b1.ext E8
  have F_suppressedExceptions_b1 := F_suppressedExceptions_b1.ext E8
  have F_detailMessage_b1 := F_detailMessage_b1.ext E8
  have F_backtrace_b1 := F_backtrace_b1.ext E8
  have E_b2 := E_b2.ext E8
  have XX_b2 := XX_b2.imp (fun q => q.ext E8) id
  have E_sa4 := E_sa4.ext E8
  have V_sb4 := V_sb4.ext E8
  have F_coder_sa4 := F_coder_sa4.ext E8
  have F_value_sa4 := F_value_sa4.ext E8
  have Aq7 := Aq7.ext E8
  have Cq7 := Cq7.ext E8
  have Vq7 := Vq7.ext E8
  have Nq7 := Nq7.ext E8
  have Mq7 := Mq7.ext E8
  have O := O.ext E8
  have KK := KK.ext E8
  have RR := RR.trans CR8
  have HH := CR8.1
  have hS := hS8
  have hk := hk8
  have hZ := hZ8
  have hown := ho8
  obtain ⟨ne_b1_sa8, ne_b1_sb8⟩ := ns8 _ Sf_b1
  obtain ⟨ne_b2_sa8, ne_b2_sb8⟩ := ns8 _ Sf_b2
  obtain ⟨ne_t7_sa8, ne_t7_sb8⟩ := ns8 _ Sf_t7
  show GoH _ _ _ _ _ _ _ _ _ _  T8 (mkF m 22 #[.val (.ref a1), .val (.ref a2)] [(.ref sa8), (.ref b2), (.ref b1), (.ref b1)])
  have C_l9 : Fld Z h8 sa8 "java/lang/String" "coder" "B" (.int (own_cd own_L2)) := by rw [own_cdL2]; exact F_coder_sa8
  have A_l9 : Arv Z h8 sb8 kb8 .byte (Int32.ofNat (own_by own_L2).length) ((own_by own_L2).map Value.int) (.int 0) := by rw [own_byL2]; exact V_sb8
  obtain ⟨cq10, kq10, q10a, q10b, q10c⟩ := isOf hZ e8 E_b2
  obtain ⟨_, _, ⟨T10, L10, k10, n10⟩, -, X10, ⟨Lc10, hQ10, l10, y10, z10⟩, st10⟩ := X8.virtualBack hx (y := mY12) (z := mY12) hown (mvT hZ (hwi hw 62 rfl)) (mvT hZ (hwi hw 63 rfl)) (notFace_of_selects (args := #[]) (mvT hZ (hwi hw 65 rfl))) (mvT hZ (hwi hw 65 rfl)) (mvT hZ (hwi hw 64 rfl)) (by decide) (backOf (W := 2) (rmSU l Z a0 hw [] b2 sa8 zc fm t7 kt7 ((([] : List Int32) ++ own_L1) ++ r1) cp7 sb8 kb8 own_L2 h0.size h8 n0 O S_COMPACT hcs S_SIO ref_fm S_ad S_hi S_lo E_b2 Cq7 Vq7 Nq7 Mq7 Aq7 kc7 lo7 hi7 g_b2 g_t7 E_sa8 C_l9 F_value_sa8 A_l9 hrc7 own_hrL2 (by simp only [List.length_append, List.length_nil, own_l1_, own_l2_]; omega) (Ne.symm ne_t7_sb8) V_sb8.lt sz_t7 KK.1 XX_b2) hZ (hwi hw 66 rfl) (hwi hw 45 rfl) (by decide) (by decide)) q10a q10c (g := (mkF m 22 #[.val (.ref a1), .val (.ref a2)] [(.ref sa8), (.ref b2), (.ref b1), (.ref b1)])) rfl (by rw [hml]; rfl) (Steps.refl _) (argsL := [(.ref sa8)]) (rest := [(.ref b1), (.ref b1)]) (lenOf pd__Ljava_lang_String__Ljava_lang_StringBuilder_ rfl) rfl (by show 2 * 0 + _ ≤ _; exact Nat.le_of_eq rfl) (hb hby (dq dz8 10 22 rfl)) (fun _ _ => ⟨rfl, e8, (by decide : 11 + 2 ≤ _), (by decide : 694 + 304 ≤ _)⟩)
  dsimp only [Pt.U, Pt.locs, Pt.cells, Pt.slots] at X10 l10 y10 z10 st10 hQ10
  rw [l10, y10, z10] at X10
  have X10 : Stand p l e _ _ m _ below meth c T10 _ 13 998 := X10
  obtain ⟨rfl, N10q, K10q, t10, kt10, cp10, bt10, kc10, gb10, mb10, Eq10, Cq10, Vq10, Nq10, Mq10, Aq10, lo10, hi10, Xq10⟩ := hQ10
  have ne_z1_t10 : z1 ≠ t10 := bt10.elim (fun e => e ▸ ne_z1_t7) (fun e => Nat.ne_of_lt (Nat.lt_of_lt_of_le A_z1.lt e))
  have ne_z2_t10 : z2 ≠ t10 := bt10.elim (fun e => e ▸ ne_z2_t7) (fun e => Nat.ne_of_lt (Nat.lt_of_lt_of_le A_z2.lt e))
  have ne_sb4_t10 : sb4 ≠ t10 := bt10.elim (fun e => e ▸ ne_sb4_t7) (fun e => Nat.ne_of_lt (Nat.lt_of_lt_of_le V_sb4.lt e))
  have ne_sb8_t10 : sb8 ≠ t10 := bt10.elim (fun e => e ▸ (Ne.symm ne_t7_sb8)) (fun e => Nat.ne_of_lt (Nat.lt_of_lt_of_le V_sb8.lt e))
  have Sf_t10 : Safe Z EL T8.vm h8 t10 := bt10.elim (fun e => e ▸ Sf_t7) Safe.new
  have N10 := Fr.app N7 N10q
  refine GoH.tr st10 ?_
  have ne_a1_t7 : a1 ≠ t7 := (Exa.neArv E_a1 Aq7 (hwi hw 5 rfl))
  have ne_a2_t7 : a2 ≠ t7 := (Exa.neArv E_a2 Aq7 (hwi hw 5 rfl))
  have ne_b1_t7 : b1 ≠ t7 := (Exa.neArv E_b1 Aq7 (hwi hw 42 rfl))
  have ne_sa4_t7 : sa4 ≠ t7 := (Exa.neArv E_sa4 Aq7 (hwi hw 5 rfl))
  have E_a1 := E_a1.keep K10q
  have A_z1 := A_z1.keep K10q (ninS ne_z1_b2 (ninS ne_z1_t7 nin0))
  have C_a1 := C_a1.keep K10q (ninS ne_a1_b2 (ninS ne_a1_t7 nin0))
  have V_a1 := V_a1.keep K10q (ninS ne_a1_b2 (ninS ne_a1_t7 nin0))
  have E_a2 := E_a2.keep K10q
  have A_z2 := A_z2.keep K10q (ninS ne_z2_b2 (ninS ne_z2_t7 nin0))
  have C_a2 := C_a2.keep K10q (ninS ne_a2_b2 (ninS ne_a2_t7 nin0))
  have V_a2 := V_a2.keep K10q (ninS ne_a2_b2 (ninS ne_a2_t7 nin0))
  have E_b1 := E_b1.keep K10q
  have U_b1 := U_b1.keep K10q (ninS ne_b1_b2 (ninS ne_b1_t7 nin0))
  have F_cause_b1 := F_cause_b1.keep K10q (ninS ne_b1_b2 (ninS ne_b1_t7 nin0))
  have F_stackTrace_b1 := F_stackTrace_b1.keep K10q (ninS ne_b1_b2 (ninS ne_b1_t7 nin0))
  have F_suppressedExceptions_b1 := F_suppressedExceptions_b1.keep K10q (ninS ne_b1_b2 (ninS ne_b1_t7 nin0))
  have F_detailMessage_b1 := F_detailMessage_b1.keep K10q (ninS ne_b1_b2 (ninS ne_b1_t7 nin0))
  have F_backtrace_b1 := F_backtrace_b1.keep K10q (ninS ne_b1_b2 (ninS ne_b1_t7 nin0))
  have E_b2 := E_b2.keep K10q
  have XX_b2 := XX_b2.imp (fun q => q.keep K10q) id
  have E_sa4 := E_sa4.keep K10q
  have V_sb4 := V_sb4.keep K10q (ninS (Ne.symm ne_b2_sb4) (ninS ne_sb4_t7 nin0))
  have F_coder_sa4 := F_coder_sa4.keep K10q (ninS (Ne.symm ne_b2_sa4) (ninS ne_sa4_t7 nin0))
  have F_value_sa4 := F_value_sa4.keep K10q (ninS (Ne.symm ne_b2_sa4) (ninS ne_sa4_t7 nin0))
  have E_sa8 := E_sa8.keep K10q
  have V_sb8 := V_sb8.keep K10q (ninS (Ne.symm ne_b2_sb8) (ninS (Ne.symm ne_t7_sb8) nin0))
  have F_coder_sa8 := F_coder_sa8.keep K10q (ninS (Ne.symm ne_b2_sa8) (ninS (Ne.symm ne_t7_sa8) nin0))
  have F_value_sa8 := F_value_sa8.keep K10q (ninS (Ne.symm ne_b2_sa8) (ninS (Ne.symm ne_t7_sa8) nin0))
  have sfw10 := (sfS Sf_b2 (sfS Sf_t7 sf0))
  have Sf_b1 := Safe.keep K10q sfw10 HH Sf_b1
  have Sf_b2 := Safe.keep K10q sfw10 HH Sf_b2
  have Sf_t7 := Safe.keep K10q sfw10 HH Sf_t7
  have Sf_t10 := Safe.keep K10q sfw10 HH Sf_t10
  have RR := RR.trans (CHr.keep K10q sfw10 HH)
  have HH := HH.keep K10q sfw10
  have hk := Nat.le_trans hk K10q.1
  have O := O.keep K10q (allS g_b2 (allS g_t7 all0))
  have KK := KK.trans K10q (allS (Or.inr sz_b2) (allS (Or.inr sz_t7) all0))
  have E_b2 := Eq10
  have g_t10 := gb10
  have sz_t10 : h0.size ≤ t10 := mb10
  have XX_b2 := Xq10
  have hrc10 := own_hrj hrc7 own_hrL2
  show GoH _ _ _ _ _ _ _ _ _ _  T10 (mkF m 25 #[.val (.ref a1), .val (.ref a2)] [(.ref b2), (.ref b1), (.ref b1)])
  refine GoH.st (fun _ => XS.aloadN X10.here hx rfl (hb hby (dq dz8 11 25 rfl)) rfl rfl) ?_
  show GoH _ _ _ _ _ _ _ _ _ _  T10 (mkF m 26 #[.val (.ref a1), .val (.ref a2)] [(.ref a2), (.ref b2), (.ref b1), (.ref b1)])
  obtain ⟨cq11, kq11, q11a, q11b, q11c⟩ := isOf hZ rfl E_b2
  obtain ⟨_, _, ⟨T11, L11, k11, n11⟩, -, X11, ⟨Lc11, hQ11, l11, y11, z11⟩, st11⟩ := X10.virtualBack hx (y := mY12) (z := mY12) hown (mvT hZ (hwi hw 62 rfl)) (mvT hZ (hwi hw 63 rfl)) (notFace_of_selects (args := #[]) (mvT hZ (hwi hw 65 rfl))) (mvT hZ (hwi hw 65 rfl)) (mvT hZ (hwi hw 64 rfl)) (by decide) (backOf (W := 2) (rmSU l Z a0 hw [] b2 a2 zc fm t10 kt10 (((([] : List Int32) ++ own_L1) ++ r1) ++ own_L2) cp10 z2 k2 r2 h0.size T10.heap n0 O S_COMPACT hcs S_SIO ref_fm S_ad S_hi S_lo E_b2 Cq10 Vq10 Nq10 Mq10 Aq10 kc10 lo10 hi10 g_b2 g_t10 E_a2 C_a2 V_a2 A_z2 hrc10 hr_a2 (by simp only [List.length_append, List.length_nil, own_l1_, own_l2_]; omega) ne_z2_t10 A_z2.lt sz_t10 KK.1 XX_b2) hZ (hwi hw 66 rfl) (hwi hw 45 rfl) (by decide) (by decide)) q11a q11c (g := (mkF m 26 #[.val (.ref a1), .val (.ref a2)] [(.ref a2), (.ref b2), (.ref b1), (.ref b1)])) rfl (by rw [hml]; rfl) (Steps.refl _) (argsL := [(.ref a2)]) (rest := [(.ref b1), (.ref b1)]) (lenOf pd__Ljava_lang_String__Ljava_lang_StringBuilder_ rfl) rfl (by show 2 * 0 + _ ≤ _; exact Nat.le_of_eq rfl) (hb hby (dq dz8 12 26 rfl)) (fun _ _ => ⟨rfl, rfl, (by decide : 13 + 2 ≤ _), (by decide : 998 + 304 ≤ _)⟩)
  dsimp only [Pt.U, Pt.locs, Pt.cells, Pt.slots] at X11 l11 y11 z11 st11 hQ11
  rw [l11, y11, z11] at X11
  have X11 : Stand p l e _ _ m _ below meth c T11 _ 15 1302 := X11
  obtain ⟨rfl, N11q, K11q, t11, kt11, cp11, bt11, kc11, gb11, mb11, Eq11, Cq11, Vq11, Nq11, Mq11, Aq11, lo11, hi11, Xq11⟩ := hQ11
  have ne_z1_t11 : z1 ≠ t11 := bt11.elim (fun e => e ▸ ne_z1_t10) (fun e => Nat.ne_of_lt (Nat.lt_of_lt_of_le A_z1.lt e))
  have ne_z2_t11 : z2 ≠ t11 := bt11.elim (fun e => e ▸ ne_z2_t10) (fun e => Nat.ne_of_lt (Nat.lt_of_lt_of_le A_z2.lt e))
  have ne_sb4_t11 : sb4 ≠ t11 := bt11.elim (fun e => e ▸ ne_sb4_t10) (fun e => Nat.ne_of_lt (Nat.lt_of_lt_of_le V_sb4.lt e))
  have ne_sb8_t11 : sb8 ≠ t11 := bt11.elim (fun e => e ▸ ne_sb8_t10) (fun e => Nat.ne_of_lt (Nat.lt_of_lt_of_le V_sb8.lt e))
  have Sf_t11 : Safe Z EL T8.vm T10.heap t11 := bt11.elim (fun e => e ▸ Sf_t10) Safe.new
  have N11 := Fr.app N10 N11q
  refine GoH.tr st11 ?_
  have ne_a1_t10 : a1 ≠ t10 := (Exa.neArv E_a1 Aq10 (hwi hw 5 rfl))
  have ne_a2_t10 : a2 ≠ t10 := (Exa.neArv E_a2 Aq10 (hwi hw 5 rfl))
  have ne_b1_t10 : b1 ≠ t10 := (Exa.neArv E_b1 Aq10 (hwi hw 42 rfl))
  have ne_sa4_t10 : sa4 ≠ t10 := (Exa.neArv E_sa4 Aq10 (hwi hw 5 rfl))
  have ne_sa8_t10 : sa8 ≠ t10 := (Exa.neArv E_sa8 Aq10 (hwi hw 5 rfl))
  have E_a1 := E_a1.keep K11q
  have A_z1 := A_z1.keep K11q (ninS ne_z1_b2 (ninS ne_z1_t10 nin0))
  have C_a1 := C_a1.keep K11q (ninS ne_a1_b2 (ninS ne_a1_t10 nin0))
  have V_a1 := V_a1.keep K11q (ninS ne_a1_b2 (ninS ne_a1_t10 nin0))
  have E_a2 := E_a2.keep K11q
  have A_z2 := A_z2.keep K11q (ninS ne_z2_b2 (ninS ne_z2_t10 nin0))
  have C_a2 := C_a2.keep K11q (ninS ne_a2_b2 (ninS ne_a2_t10 nin0))
  have V_a2 := V_a2.keep K11q (ninS ne_a2_b2 (ninS ne_a2_t10 nin0))
  have E_b1 := E_b1.keep K11q
  have U_b1 := U_b1.keep K11q (ninS ne_b1_b2 (ninS ne_b1_t10 nin0))
  have F_cause_b1 := F_cause_b1.keep K11q (ninS ne_b1_b2 (ninS ne_b1_t10 nin0))
  have F_stackTrace_b1 := F_stackTrace_b1.keep K11q (ninS ne_b1_b2 (ninS ne_b1_t10 nin0))
  have F_suppressedExceptions_b1 := F_suppressedExceptions_b1.keep K11q (ninS ne_b1_b2 (ninS ne_b1_t10 nin0))
  have F_detailMessage_b1 := F_detailMessage_b1.keep K11q (ninS ne_b1_b2 (ninS ne_b1_t10 nin0))
  have F_backtrace_b1 := F_backtrace_b1.keep K11q (ninS ne_b1_b2 (ninS ne_b1_t10 nin0))
  have E_b2 := E_b2.keep K11q
  have XX_b2 := XX_b2.imp (fun q => q.keep K11q) id
  have E_sa4 := E_sa4.keep K11q
  have V_sb4 := V_sb4.keep K11q (ninS (Ne.symm ne_b2_sb4) (ninS ne_sb4_t10 nin0))
  have F_coder_sa4 := F_coder_sa4.keep K11q (ninS (Ne.symm ne_b2_sa4) (ninS ne_sa4_t10 nin0))
  have F_value_sa4 := F_value_sa4.keep K11q (ninS (Ne.symm ne_b2_sa4) (ninS ne_sa4_t10 nin0))
  have E_sa8 := E_sa8.keep K11q
  have V_sb8 := V_sb8.keep K11q (ninS (Ne.symm ne_b2_sb8) (ninS ne_sb8_t10 nin0))
  have F_coder_sa8 := F_coder_sa8.keep K11q (ninS (Ne.symm ne_b2_sa8) (ninS ne_sa8_t10 nin0))
  have F_value_sa8 := F_value_sa8.keep K11q (ninS (Ne.symm ne_b2_sa8) (ninS ne_sa8_t10 nin0))
  have sfw11 := (sfS Sf_b2 (sfS Sf_t10 sf0))
  have Sf_b1 := Safe.keep K11q sfw11 HH Sf_b1
  have Sf_b2 := Safe.keep K11q sfw11 HH Sf_b2
  have Sf_t10 := Safe.keep K11q sfw11 HH Sf_t10
  have Sf_t11 := Safe.keep K11q sfw11 HH Sf_t11
  have RR := RR.trans (CHr.keep K11q sfw11 HH)
  have HH := HH.keep K11q sfw11
  have hk := Nat.le_trans hk K11q.1
  have O := O.keep K11q (allS g_b2 (allS g_t10 all0))
  have KK := KK.trans K11q (allS (Or.inr sz_b2) (allS (Or.inr sz_t10) all0))
  have E_b2 := Eq11
  have g_t11 := gb11
  have sz_t11 : h0.size ≤ t11 := mb11
  have XX_b2 := Xq11
  have hrc11 := own_hrj hrc10 hr_a2
  show GoH _ _ _ _ _ _ _ _ _ _  T11 (mkF m 29 #[.val (.ref a1), .val (.ref a2)] [(.ref b2), (.ref b1), (.ref b1)])
  obtain ⟨cq12, kq12, q12a, q12b, q12c⟩ := isOf hZ rfl E_b2
  obtain ⟨_, _, ⟨T12, L12, k12, n12⟩, -, X12, ⟨Lc12, hQ12, l12, y12, z12⟩, st12⟩ := X11.virtualBack hx (y := mY24) (z := mY24) hown (mvT hZ (hwi hw 110 rfl)) (mvT hZ (hwi hw 111 rfl)) (notFace_of_selects (args := #[]) (mvT hZ (hwi hw 113 rfl))) (mvT hZ (hwi hw 113 rfl)) (mvT hZ (hwi hw 112 rfl)) (by decide) (backOf (W := 2) (rmTSU l Z a0 hw [] b2 zc t11 kt11 ((((([] : List Int32) ++ own_L1) ++ r1) ++ own_L2) ++ r2) cp11 T11.heap n0 O S_COMPACT hcs E_b2 Cq11 Vq11 Nq11 Mq11 Aq11 kc11 lo11 hi11 XX_b2 (by simp only [List.length_append, List.length_nil, own_l1_, own_l2_]; omega)) hZ (hwi hw 114 rfl) (hwi hw 45 rfl) (by decide) (by decide)) q12a q12c (g := (mkF m 29 #[.val (.ref a1), .val (.ref a2)] [(.ref b2), (.ref b1), (.ref b1)])) rfl (by rw [hml]; rfl) (Steps.refl _) (argsL := []) (rest := [(.ref b1), (.ref b1)]) (lenOf pd___Ljava_lang_String_ rfl) rfl (by show 2 * 0 + _ ≤ _; exact Nat.le_of_eq rfl) (hb hby (dq dz8 13 29 rfl)) (fun _ _ => ⟨rfl, rfl, (by decide : 15 + 2 ≤ _), (by decide : 1302 + 132 ≤ _)⟩)
  dsimp only [Pt.U, Pt.locs, Pt.cells, Pt.slots] at X12 l12 y12 z12 st12 hQ12
  rw [l12, y12, z12] at X12
  have X12 : Stand p l e _ _ m _ below meth c T12 _ 17 1434 := X12
  obtain ⟨y12, t12, kt12, rfl, N12q, E12q, ly12, lt12, E_y12, C_y12, V_y12, A_t12⟩ := hQ12
  have N12 := Fr.app N11 N12q
  refine GoH.tr st12 ?_
  have g_y12 : n0 ≤ y12 := Nat.le_trans (own_le O) ly12
  have Sf_y12 : Safe Z EL T8.vm T11.heap y12 := Safe.new ly12
  have sz_y12 : h0.size ≤ y12 := Nat.le_trans KK.1 ly12
  have ne_a1_y12 : a1 ≠ y12 := Nat.ne_of_lt (Nat.lt_of_lt_of_le E_a1.lt ly12)
  have ne_z1_y12 : z1 ≠ y12 := Nat.ne_of_lt (Nat.lt_of_lt_of_le A_z1.lt ly12)
  have ne_a2_y12 : a2 ≠ y12 := Nat.ne_of_lt (Nat.lt_of_lt_of_le E_a2.lt ly12)
  have ne_z2_y12 : z2 ≠ y12 := Nat.ne_of_lt (Nat.lt_of_lt_of_le A_z2.lt ly12)
  have ne_b1_y12 : b1 ≠ y12 := Nat.ne_of_lt (Nat.lt_of_lt_of_le E_b1.lt ly12)
  have ne_b2_y12 : b2 ≠ y12 := Nat.ne_of_lt (Nat.lt_of_lt_of_le E_b2.lt ly12)
  have ne_sa4_y12 : sa4 ≠ y12 := Nat.ne_of_lt (Nat.lt_of_lt_of_le E_sa4.lt ly12)
  have ne_sb4_y12 : sb4 ≠ y12 := Nat.ne_of_lt (Nat.lt_of_lt_of_le V_sb4.lt ly12)
  have ne_sa8_y12 : sa8 ≠ y12 := Nat.ne_of_lt (Nat.lt_of_lt_of_le E_sa8.lt ly12)
  have ne_sb8_y12 : sb8 ≠ y12 := Nat.ne_of_lt (Nat.lt_of_lt_of_le V_sb8.lt ly12)
  have ne_t11_y12 : t11 ≠ y12 := Nat.ne_of_lt (Nat.lt_of_lt_of_le Aq11.lt ly12)
  have g_t12 : n0 ≤ t12 := Nat.le_trans (own_le O) lt12
  have Sf_t12 : Safe Z EL T8.vm T11.heap t12 := Safe.new lt12
  have sz_t12 : h0.size ≤ t12 := Nat.le_trans KK.1 lt12
  have ne_a1_t12 : a1 ≠ t12 := Nat.ne_of_lt (Nat.lt_of_lt_of_le E_a1.lt lt12)
  have ne_z1_t12 : z1 ≠ t12 := Nat.ne_of_lt (Nat.lt_of_lt_of_le A_z1.lt lt12)
  have ne_a2_t12 : a2 ≠ t12 := Nat.ne_of_lt (Nat.lt_of_lt_of_le E_a2.lt lt12)
  have ne_z2_t12 : z2 ≠ t12 := Nat.ne_of_lt (Nat.lt_of_lt_of_le A_z2.lt lt12)
  have ne_b1_t12 : b1 ≠ t12 := Nat.ne_of_lt (Nat.lt_of_lt_of_le E_b1.lt lt12)
  have ne_b2_t12 : b2 ≠ t12 := Nat.ne_of_lt (Nat.lt_of_lt_of_le E_b2.lt lt12)
  have ne_sa4_t12 : sa4 ≠ t12 := Nat.ne_of_lt (Nat.lt_of_lt_of_le E_sa4.lt lt12)
  have ne_sb4_t12 : sb4 ≠ t12 := Nat.ne_of_lt (Nat.lt_of_lt_of_le V_sb4.lt lt12)
  have ne_sa8_t12 : sa8 ≠ t12 := Nat.ne_of_lt (Nat.lt_of_lt_of_le E_sa8.lt lt12)
  have ne_sb8_t12 : sb8 ≠ t12 := Nat.ne_of_lt (Nat.lt_of_lt_of_le V_sb8.lt lt12)
  have ne_t11_t12 : t11 ≠ t12 := Nat.ne_of_lt (Nat.lt_of_lt_of_le Aq11.lt lt12)
  have E12 := E12q
  have E_a1 := E_a1.ext E12
  have A_z1 := A_z1.ext E12
  have C_a1 := C_a1.ext E12
  have V_a1 := V_a1.ext E12
  have E_a2 := E_a2.ext E12
  have A_z2 := A_z2.ext E12
  have C_a2 := C_a2.ext E12
  have V_a2 := V_a2.ext E12
  have E_b1 := E_b1.ext E12
  have U_b1 := U_b1.ext E12
  have F_cause_b1 := F_cause_b1.ext E12
  have F_stackTrace_b1 := F_stackTrace_b1.ext E12
  have F_suppressedExceptions_b1 := F_suppressedExceptions_b1.ext E12
  have F_detailMessage_b1 := F_detailMessage_b1.ext E12
  have F_backtrace_b1 := F_backtrace_b1.ext E12
  have E_b2 := E_b2.ext E12
  have XX_b2 := XX_b2.imp (fun q => q.ext E12) id
  have E_sa4 := E_sa4.ext E12
  have V_sb4 := V_sb4.ext E12
  have F_coder_sa4 := F_coder_sa4.ext E12
  have F_value_sa4 := F_value_sa4.ext E12
  have E_sa8 := E_sa8.ext E12
  have V_sb8 := V_sb8.ext E12
  have F_coder_sa8 := F_coder_sa8.ext E12
  have F_value_sa8 := F_value_sa8.ext E12
  have Aq11 := Aq11.ext E12
  have Cq11 := Cq11.ext E12
  have Vq11 := Vq11.ext E12
  have Nq11 := Nq11.ext E12
  have Mq11 := Mq11.ext E12
  have Sf_b1 := Safe.ext E12 HH Sf_b1
  have Sf_b2 := Safe.ext E12 HH Sf_b2
  have Sf_t11 := Safe.ext E12 HH Sf_t11
  have Sf_y12 := Safe.ext E12 HH Sf_y12
  have Sf_t12 := Safe.ext E12 HH Sf_t12
  have RR := RR.trans (CHr.ext E12 HH)
  have HH := HH.ext E12
  have hk := Nat.le_trans hk E12.1
  have O := O.ext E12
  have KK := KK.ext E12
  rw [own_Mnil] at C_y12 A_t12
  have ne_y12_t12 : y12 ≠ t12 := Exa.neArv E_y12 A_t12 (hwi hw 5 rfl)
  show GoH _ _ _ _ _ _ _ _ _ _  T12 (mkF m 32 #[.val (.ref a1), .val (.ref a2)] [(.ref y12), (.ref b1), (.ref b1)])
  obtain ⟨_, _, ⟨T13, L13, k13, n13⟩, -, X13, ⟨Lc13, hQ13, l13, y13, z13⟩, st13⟩ := X12.specialBack hx (y := mY52) rfl hown (mvT hZ (hwi hw 155 rfl)) (mvT hZ (hwi hw 156 rfl)) (mvT hZ (hwi hw 157 rfl)) (by decide) (backOfKL (W := 1) (rmDc l Z a0 hw [] b1 (.ref y12) T12.heap n0 O hl hr rfl E_b1 U_b1 F_cause_b1 F_stackTrace_b1 F_suppressedExceptions_b1 F_backtrace_b1 F_detailMessage_b1 g_b1) hZ (hwi hw 157 rfl) (hwi hw 39 rfl) (by decide) (by decide) (Vm.MethodsKnown.alikeC hS.1.alike hK.1) (Vm.FramesKnown.alikeC hS.1.alike hK.2)) (g := (mkF m 32 #[.val (.ref a1), .val (.ref a2)] [(.ref y12), (.ref b1), (.ref b1)])) rfl (by rw [hml]; rfl) (Steps.refl _) (a := b1) (argsL := [(.ref y12)]) (rest := [(.ref b1)]) (lenOf pd__Ljava_lang_String__V rfl) rfl (by show 2 * 0 + _ ≤ _; exact Nat.le_of_eq rfl) (hb hby (dq dz8 14 32 rfl)) (fun _ _ => ⟨rfl, rfl, (by decide : 17 + 1 ≤ _), (by decide : 1434 + 2752 ≤ _)⟩)
  dsimp only [Pt.U, Pt.locs, Pt.cells, Pt.slots] at X13 l13 y13 z13 st13 hQ13
  rw [l13, y13, z13] at X13
  have X13 : Stand p l e _ _ m _ below meth c T13 _ 18 4186 := X13
  obtain ⟨rfl, N13q, K13q, Eq13, Mq13⟩ := hQ13
  have N13 := Fr.app N12 N13q
  refine GoH.tr st13 ?_
  have ne_t11_b1 : t11 ≠ b1 := (Ne.symm (Exa.neArv E_b1 Aq11 (hwi hw 42 rfl)))
  have E_a1 := E_a1.keep K13q
  have A_z1 := A_z1.keep K13q (ninS ne_z1_b1 nin0)
  have C_a1 := C_a1.keep K13q (ninS ne_a1_b1 nin0)
  have V_a1 := V_a1.keep K13q (ninS ne_a1_b1 nin0)
  have E_a2 := E_a2.keep K13q
  have A_z2 := A_z2.keep K13q (ninS ne_z2_b1 nin0)
  have C_a2 := C_a2.keep K13q (ninS ne_a2_b1 nin0)
  have V_a2 := V_a2.keep K13q (ninS ne_a2_b1 nin0)
  have E_b1 := E_b1.keep K13q
  have E_b2 := E_b2.keep K13q
  have XX_b2 := XX_b2.imp (fun q => q.keep K13q) id
  have E_sa4 := E_sa4.keep K13q
  have V_sb4 := V_sb4.keep K13q (ninS (Ne.symm ne_b1_sb4) nin0)
  have F_coder_sa4 := F_coder_sa4.keep K13q (ninS (Ne.symm ne_b1_sa4) nin0)
  have F_value_sa4 := F_value_sa4.keep K13q (ninS (Ne.symm ne_b1_sa4) nin0)
  have E_sa8 := E_sa8.keep K13q
  have V_sb8 := V_sb8.keep K13q (ninS (Ne.symm ne_b1_sb8) nin0)
  have F_coder_sa8 := F_coder_sa8.keep K13q (ninS (Ne.symm ne_b1_sa8) nin0)
  have F_value_sa8 := F_value_sa8.keep K13q (ninS (Ne.symm ne_b1_sa8) nin0)
  have Aq11 := Aq11.keep K13q (ninS ne_t11_b1 nin0)
  have Cq11 := Cq11.keep K13q (ninS (Ne.symm ne_b1_b2) nin0)
  have Vq11 := Vq11.keep K13q (ninS (Ne.symm ne_b1_b2) nin0)
  have Nq11 := Nq11.keep K13q (ninS (Ne.symm ne_b1_b2) nin0)
  have Mq11 := Mq11.keep K13q (ninS (Ne.symm ne_b1_b2) nin0)
  have E_y12 := E_y12.keep K13q
  have A_t12 := A_t12.keep K13q (ninS (Ne.symm ne_b1_t12) nin0)
  have C_y12 := C_y12.keep K13q (ninS (Ne.symm ne_b1_y12) nin0)
  have V_y12 := V_y12.keep K13q (ninS (Ne.symm ne_b1_y12) nin0)
  have sfw13 := (sfS Sf_b1 sf0)
  have Sf_b1 := Safe.keep K13q sfw13 HH Sf_b1
  have Sf_b2 := Safe.keep K13q sfw13 HH Sf_b2
  have Sf_t11 := Safe.keep K13q sfw13 HH Sf_t11
  have Sf_y12 := Safe.keep K13q sfw13 HH Sf_y12
  have Sf_t12 := Safe.keep K13q sfw13 HH Sf_t12
  have RR := RR.trans (CHr.keep K13q sfw13 HH)
  have HH := HH.keep K13q sfw13
  have hk := Nat.le_trans hk K13q.1
  have O := O.keep K13q (allS g_b1 all0)
  have KK := KK.trans K13q (allS (Or.inr sz_b1) all0)
  have E_b1 := Eq13
  show GoH _ _ _ _ _ _ _ _ _ _  T13 (mkF m 35 #[.val (.ref a1), .val (.ref a2)] [(.ref b1)])
  refine GoH.retR X13 hS hk rfl hZ hEL HH RR hlk hx Bd.returns rfl rfl rfl (hb hby (dq dz8 15 35 rfl)) (by decide) (by decide) ?_
  show Q_rmFR Z _ _ _ _ _ _ _ _ _ _ h0 n0 _ T13.heap _
  exact ⟨_, _, _, _, rfl, N13, own_ext0 KK, E_b1, Mq13, E_y12, C_y12, V_y12, A_t12⟩
def Q_rmGM (Z : State) (a1 : Addr) (y : Addr) (h0 : Heap) (n0 : Nat) (v : Option Value) (h : Heap) (L : List Loc) : Prop := v = some (.ref y) ∧ Fr n0 L ∧ h = h0
theorem rmGM (l : Launch) (Z : State) (a0 : Array Value) (hw : HWt a0 Z) (ws : List Jvm.Cond) (a1 : Addr) (y : Addr) (h0 : Heap) (n0 : Nat) (O : Old Z n0 h0) (F_a1 : Fld Z h0 a1 "java/lang/Throwable" "detailMessage" "Ljava/lang/String;" (.ref y)) :
    Met l mY55 (Jvm.Cond.code mY55 jdk_78_method_6_code 1 (some (.object "java/lang/String")) :: ws) rz0_0_0_0 #[(.ref a1)] Z h0 (Q_rmGM Z a1 y h0 n0) := by
  refine MetFree.of_bodySF (plainFor_of_name pn_36) hisR ?_
  intro p e s m args below meth c s₁ Bd hml0 hP hK
  obtain ⟨rfl, hZ, hh⟩ := hP
  have hx := Bd.exec
  have hby := Bd.bytes
  have hml : c.maxLocals = 1 := hml0
  have hown : s.vm.findClass "java/lang/Throwable" = some m.cls := findClass_of_methodNamed Bd.named
  have hlk : meth.locks = false := BodyLoose.notSynchronized Bd
  have X0 : Stand p l e rz0_0_0_0 s m #[(.ref a1)] below meth c s₁ [] 0 0 := Stand.of_body Bd
  have e0 : s₁.heap = h0 := by rw [← hh, Bd.state]; rfl
  have N0 := Fr.nil n0
  show Go p e below s rz0_0_0_0.cells rz0_0_0_0.slots (Q_rmGM Z a1 y h0 n0) s₁ (entryFrame m #[(.ref a1)] 1)
  refine Go.eq (ef_rmGM m a1) ?_
  show Go _ _ _ _ _ _ _  s₁ (mkF m 0 #[.val (.ref a1)] [])
  refine Go.st (fun _ => XS.aloadN X0.here hx rfl (hb hby (dq dz36 0 0 rfl)) rfl rfl) ?_
  show Go _ _ _ _ _ _ _  s₁ (mkF m 1 #[.val (.ref a1)] [(.ref a1)])
  obtain ⟨T1, X1, e1, st1⟩ := getF X0 hx hZ hown (host := "") (Or.inl (hwi hw 211 rfl)) Via.refl e0 F_a1 (g := (mkF m 1 #[.val (.ref a1)] [(.ref a1)])) rfl rfl (hb hby (dq dz36 1 1 rfl))
  refine Go.st st1 ?_
  show Go _ _ _ _ _ _ _  T1 (mkF m 4 #[.val (.ref a1)] [(.ref y)])
  refine Go.retR X1 hlk hx Bd.returns rfl rfl rfl (hb hby (dq dz36 2 4 rfl)) (by decide) (by decide) ?_
  show Q_rmGM Z _ _ h0 n0 _ T1.heap _
  rw [e1]
  exact ⟨rfl, N0, rfl⟩
def Q_rmX0 (Z : State) (a2 : Addr) (a3 : Addr) (zc : Int32) (fm : Value) (z1 : Addr) (k1 : ClassId) (r1 : List Int32) (z2 : Addr) (k2 : ClassId) (r2 : List Int32) (h0 : Heap) (n0 : Nat) (v : Option Value) (w : Vm) (h : Heap) (L : List Loc) : Prop := v = some (.int ((own_M r1 r2).getD 0 0)) ∧ Fr n0 L ∧ Ext h0 h ∧ ∃ (sa sb : Addr) (kb : ClassId), Lit (Z.setVm w) "com/example/keyset/keyset/query/DeclarationExceptionForResourcePinLaw" 12 sa ∧ Exa Z h sa "java/lang/String" ∧ Fld Z h sa "java/lang/String" "coder" "B" (.int 0) ∧ Fld Z h sa "java/lang/String" "value" "[B" (.ref sb) ∧ Arv Z h sb kb .byte (Int32.ofNat own_L1.length) (own_L1.map Value.int) (.int 0)
theorem rmX0 (l : Launch) (Z : State) (a0 : Array Value) (hw : HWt a0 Z) (ws : List Jvm.Cond) (a2 : Addr) (a3 : Addr) (zc : Int32) (fm : Value) (z1 : Addr) (k1 : ClassId) (r1 : List Int32) (z2 : Addr) (k2 : ClassId) (r2 : List Int32) (h0 : Heap) (n0 : Nat) (O : Old Z n0 h0) (hEL : EW Z a0 EL) (wS : ∀ a ∈ Bundle.stringAtoms, a.before a0 Z = true) (S_COMPACT : Sta Z Z.heap "java/lang/String" "COMPACT_STRINGS" "Z" (.int zc)) (hcs : ¬ zc = 0) (S_SIO : Sta Z Z.heap "jdk/internal/util/Preconditions" "SIOOBE_FORMATTER" "Ljava/util/function/BiFunction;" fm) (ref_fm : fm.isRef = true) (S_ad : Sta Z Z.heap "java/lang/StringUTF16" "$assertionsDisabled" "Z" (.int 1)) (S_hi : Sta Z Z.heap "java/lang/StringUTF16" "HI_BYTE_SHIFT" "I" (.int 0)) (S_lo : Sta Z Z.heap "java/lang/StringUTF16" "LO_BYTE_SHIFT" "I" (.int 8)) (E_a2 : Exa Z h0 a2 "java/lang/String") (C_a2 : Fld Z h0 a2 "java/lang/String" "coder" "B" (.int (own_cd r1))) (V_a2 : Fld Z h0 a2 "java/lang/String" "value" "[B" (.ref z1)) (A_z1 : Arv Z h0 z1 k1 .byte (Int32.ofNat (own_by r1).length) ((own_by r1).map Value.int) (.int 0)) (E_a3 : Exa Z h0 a3 "java/lang/String") (C_a3 : Fld Z h0 a3 "java/lang/String" "coder" "B" (.int (own_cd r2))) (V_a3 : Fld Z h0 a3 "java/lang/String" "value" "[B" (.ref z2)) (A_z2 : Arv Z h0 z2 k2 .byte (Int32.ofNat (own_by r2).length) ((own_by r2).map Value.int) (.int 0)) (hb1 : r1.length ≤ 2) (hb2 : r2.length ≤ 2) (hr_a2 : ∀ j, j < r1.length → nar .char (r1.getD j 0) = r1.getD j 0) (hr_a3 : ∀ j, j < r2.length → nar .char (r2.getD j 0) = r2.getD j 0) :
    MetFree l mY56 (head1 (Jvm.Cond.code mY56 method_3_code 6 (some .char) :: ws) rz5_2_44_70) (fun a U => a = #[(.int (0 : Int32)), (.ref a2), (.ref a3)] ∧ Z.Warmed39 U.vm ∧ U.heap = h0 ∧ CHv Z EL U.vm h0 ∧ (∀ x ∈ ([] : List Addr), Safe Z EL U.vm h0 x) ∧ True) (fun _ _ _ _ _ => True) (fun _ U o U' => ∃ v L, o = .returned v ∧ Q_rmX0 Z a2 a3 zc fm z1 k1 r1 z2 k2 r2 h0 n0 v U'.vm U'.heap L ∧ CHr Z EL U.vm U.heap U'.vm U'.heap ∧ ReturnedEndW U o U' L rz5_2_44_70.cells rz5_2_44_70.slots) := by
  refine MetFree.of_bodySF (plainFor_of_name pn_43) hisR ?_
  intro p e s m args below meth c s₁ Bd hml0 hP hK
  obtain ⟨rfl, hZ, hh, HH, hSF, hPv⟩ := hP
  have hx := Bd.exec
  have hby := Bd.bytes
  have hml : c.maxLocals = 6 := hml0
  have hown : s.vm.findClass "com/example/keyset/keyset/query/DeclarationExceptionForResourcePinLaw" = some m.cls := findClass_of_methodNamed Bd.named
  have hlk : meth.locks = false := BodyLoose.notSynchronized Bd
  have X0 : Stand p l e rz5_2_44_70 (s.setVm s.vm) m #[(.int (0 : Int32)), (.ref a2), (.ref a3)] below meth c s₁ [] 0 0 := Stand.of_body Bd
  have e0 : s₁.heap = h0 := by rw [← hh, Bd.state]; rfl
  have N0 := Fr.nil n0
  have KK : Keep h0 h0 [] := Keep.refl h0 _
  have hS : s.Since s.vm h0.size := own_since s _
  have hk : h0.size ≤ h0.size := Nat.le_refl _
  have RR : CHr Z EL s.vm h0 s.vm h0 := CHr.refl HH
  suffices hgo : GoHL p e below s rz5_2_44_70.cells rz5_2_44_70.slots Z h0 EL (Q_rmX0 Z a2 a3 zc fm z1 k1 r1 z2 k2 r2 h0 n0) s₁ (entryFrame m #[(.int (0 : Int32)), (.ref a2), (.ref a3)] 6) by
    obtain ⟨s₂, o, q1, q2, q3, v, L, q4, q5, q6, q7⟩ := hgo; exact ⟨s₂, o, q1, q2, q3, v, L, q4, q5, hh ▸ q6, q7⟩
  refine GoHL.eq (ef_rmX0 m a2 a3) ?_
  show GoHL _ _ _ _ _ _ _ _ _ _  s₁ (mkF m 0 #[.val (.int (0 : Int32)), .val (.ref a2), .val (.ref a3), .unset, .unset, .unset] [])
  obtain ⟨sa1, T1, h1, kk1, sb1, kb1, X1, e1, E1, hS1, hk1, hZ1, ho1, E_sa1, F_coder_sa1, F_value_sa1, V_sb1, la1, lb1, CR1, Lt1, ns1, st1⟩ := ldcCH X0 hx hZ hown (hwi hw 247 rfl) wS e0 hS hk hEL (List.mem_of_getElem? (i := 2) rfl) HH (vs := [(.int (114 : Int32)), (.int (101 : Int32)), (.int (115 : Int32)), (.int (111 : Int32)), (.int (117 : Int32)), (.int (114 : Int32)), (.int (99 : Int32)), (.int (101 : Int32)), (.int (32 : Int32)), (.int (34 : Int32))]) (z := 10) ⟨by decide, by decide⟩ (by decide) rfl (g := (mkF m 0 #[.val (.int (0 : Int32)), .val (.ref a2), .val (.ref a3), .unset, .unset, .unset] [])) rfl (hb hby (dq dz43 0 0 rfl)) (n := 40) (by decide) (by decide) (by decide) (by decide)
  refine GoHL.st st1 ?_
  have E_a2 := E_a2.ext E1
  have A_z1 := A_z1.ext E1
  have C_a2 := C_a2.ext E1
  have V_a2 := V_a2.ext E1
  have E_a3 := E_a3.ext E1
  have A_z2 := A_z2.ext E1
  have C_a3 := C_a3.ext E1
  have V_a3 := V_a3.ext E1
  have O := O.ext E1
  have KK := KK.ext E1
  have RR := RR.trans CR1
  have HH := CR1.1
  have hS := hS1
  have hk := hk1
  have hZ := hZ1
  have hown := ho1
  show GoHL _ _ _ _ _ _ _ _ _ _  T1 (mkF m 2 #[.val (.int (0 : Int32)), .val (.ref a2), .val (.ref a3), .unset, .unset, .unset] [(.ref sa1)])
  refine GoHL.st (fun _ => XS.astoreN X1.here hx rfl (hb hby (dq dz43 1 2 rfl)) rfl rfl (l' := #[.val (.int (0 : Int32)), .val (.ref a2), .val (.ref a3), .val (.ref sa1), .unset, .unset]) rfl) ?_
  refine GoHL.st (fun _ => XS.iloadN X1.here hx rfl (hb hby (dq dz43 2 3 rfl)) rfl) ?_
  refine GoHL.st (fun _ => XS.bipush X1.here hx rfl (hb hby (dq dz43 3 4 rfl))) ?_
  show GoHL _ _ _ _ _ _ _ _ _ _  T1 (mkF m 6 #[.val (.int (0 : Int32)), .val (.ref a2), .val (.ref a3), .val (.ref sa1), .unset, .unset] [(.int (10 : Int32)), (.int (0 : Int32))])
  refine GoHL.st (fun _ => XS.icmpNo X1.here hx rfl (hb hby (dq dz43 4 6 rfl)) rfl (tlt (by decide : (0 : Int32) < (10 : Int32))).2.1) ?_
  show GoHL _ _ _ _ _ _ _ _ _ _  T1 (mkF m 9 #[.val (.int (0 : Int32)), .val (.ref a2), .val (.ref a3), .val (.ref sa1), .unset, .unset] [])
  refine GoHL.st (fun _ => XS.aloadN X1.here hx rfl (hb hby (dq dz43 5 9 rfl)) rfl rfl) ?_
  refine GoHL.st (fun _ => XS.iloadN X1.here hx rfl (hb hby (dq dz43 6 10 rfl)) rfl) ?_
  show GoHL _ _ _ _ _ _ _ _ _ _  T1 (mkF m 11 #[.val (.int (0 : Int32)), .val (.ref a2), .val (.ref a3), .val (.ref sa1), .unset, .unset] [(.int (0 : Int32)), (.ref sa1)])
  have E_x11 := E_sa1
  have C_l2 : Fld Z h1 sa1 "java/lang/String" "coder" "B" (.int (own_cd own_L1)) := by rw [own_cdL1]; exact F_coder_sa1
  have A_l2 : Arv Z h1 sb1 kb1 .byte (Int32.ofNat (own_by own_L1).length) ((own_by own_L1).map Value.int) (.int 0) := by rw [own_byL1]; exact V_sb1
  obtain ⟨cq3, kq3, q3a, q3b, q3c⟩ := isOf hZ e1 E_sa1
  refine GoHL.pure (w := (some (.int (own_L1.getD 0 0)))) (rest := []) (pc' := 14) (X1.virtualBack hx (y := mY29) (z := mY29) hown (mvT hZ (hwi hw 222 rfl)) (mvT hZ (hwi hw 223 rfl)) (notFace_of_selects (args := #[]) (mvT hZ (hwi hw 225 rfl))) (mvT hZ (hwi hw 225 rfl)) (mvT hZ (hwi hw 224 rfl)) (by decide) (backOf (W := 0) (rmCAU l Z a0 hw [] sa1 zc sb1 kb1 own_L1 fm 0 h1 n0 O S_COMPACT hcs E_sa1 C_l2 F_value_sa1 A_l2 (by rw [own_l1_]; decide) S_SIO ref_fm S_ad S_hi S_lo (by decide) (own_hrL1 _ (by decide))) hZ (hwi hw 226 rfl) (hwi hw 6 rfl) (by decide) (by decide)) q3a q3c (g := (mkF m 11 #[.val (.int (0 : Int32)), .val (.ref a2), .val (.ref a3), .val (.ref sa1), .unset, .unset] [(.int (0 : Int32)), (.ref sa1)])) rfl (by rw [hml]; rfl) (Steps.refl _) (argsL := [(.int (0 : Int32))]) (rest := []) (lenOf pd__I_C rfl) rfl (by show 2 * 0 + _ ≤ _; exact Nat.le_of_eq rfl) (hb hby (dq dz43 7 11 rfl)) (fun _ _ => ⟨rfl, e1, (by decide : 2 + 0 ≤ _), (by decide : 44 + 0 ≤ _)⟩)) (fun _ _ _ q => q) N0 (fun T3 L3 X3 e3q N3 => ?_)
  show GoHL _ _ _ _ _ _ _ _ _ _  T3 (mkF m 14 #[.val (.int (0 : Int32)), .val (.ref a2), .val (.ref a3), .val (.ref sa1), .unset, .unset] [(.int (own_L1.getD 0 0))])
  refine GoHL.retN X3 hS hk e3q hZ hEL HH RR hlk hx (t := .char) (z' := ((own_M r1 r2).getD 0 0)) Bd.returns (by simp) (hb hby (dq dz43 8 14 rfl)) (by decide) (by decide) (own_hrL1 0 (by decide)) ?_
  show Q_rmX0 Z _ _ _ _ _ _ _ _ _ _ h0 n0 _ T3.vm T3.heap _
  rw [e3q]
  exact ⟨rfl, N3, own_ext0 KK, sa1, sb1, _, (Lit.stays (s := s) Lt1 X3.warmed.wide), E_sa1, F_coder_sa1, F_value_sa1, V_sb1⟩
def Q_rmX1 (Z : State) (a2 : Addr) (a3 : Addr) (i : Nat) (sa : Addr) (sb : Addr) (kb : ClassId) (zc : Int32) (fm : Value) (z1 : Addr) (k1 : ClassId) (r1 : List Int32) (z2 : Addr) (k2 : ClassId) (r2 : List Int32) (h0 : Heap) (n0 : Nat) (v : Option Value) (w : Vm) (h : Heap) (L : List Loc) : Prop := v = some (.int ((own_M r1 r2).getD i 0)) ∧ Fr n0 L ∧ Ext h0 h
theorem rmX1 (l : Launch) (Z : State) (a0 : Array Value) (hw : HWt a0 Z) (ws : List Jvm.Cond) (a2 : Addr) (a3 : Addr) (i : Nat) (sa : Addr) (sb : Addr) (kb : ClassId) (zc : Int32) (fm : Value) (z1 : Addr) (k1 : ClassId) (r1 : List Int32) (z2 : Addr) (k2 : ClassId) (r2 : List Int32) (h0 : Heap) (n0 : Nat) (O : Old Z n0 h0) (hEL : EW Z a0 EL) (wS : ∀ a ∈ Bundle.stringAtoms, a.before a0 Z = true) (S_COMPACT : Sta Z Z.heap "java/lang/String" "COMPACT_STRINGS" "Z" (.int zc)) (hcs : ¬ zc = 0) (S_SIO : Sta Z Z.heap "jdk/internal/util/Preconditions" "SIOOBE_FORMATTER" "Ljava/util/function/BiFunction;" fm) (ref_fm : fm.isRef = true) (S_ad : Sta Z Z.heap "java/lang/StringUTF16" "$assertionsDisabled" "Z" (.int 1)) (S_hi : Sta Z Z.heap "java/lang/StringUTF16" "HI_BYTE_SHIFT" "I" (.int 0)) (S_lo : Sta Z Z.heap "java/lang/StringUTF16" "LO_BYTE_SHIFT" "I" (.int 8)) (E_a2 : Exa Z h0 a2 "java/lang/String") (C_a2 : Fld Z h0 a2 "java/lang/String" "coder" "B" (.int (own_cd r1))) (V_a2 : Fld Z h0 a2 "java/lang/String" "value" "[B" (.ref z1)) (A_z1 : Arv Z h0 z1 k1 .byte (Int32.ofNat (own_by r1).length) ((own_by r1).map Value.int) (.int 0)) (E_a3 : Exa Z h0 a3 "java/lang/String") (C_a3 : Fld Z h0 a3 "java/lang/String" "coder" "B" (.int (own_cd r2))) (V_a3 : Fld Z h0 a3 "java/lang/String" "value" "[B" (.ref z2)) (A_z2 : Arv Z h0 z2 k2 .byte (Int32.ofNat (own_by r2).length) ((own_by r2).map Value.int) (.int 0)) (hb1 : r1.length ≤ 2) (hb2 : r2.length ≤ 2) (hr_a2 : ∀ j, j < r1.length → nar .char (r1.getD j 0) = r1.getD j 0) (hr_a3 : ∀ j, j < r2.length → nar .char (r2.getD j 0) = r2.getD j 0) (E_sa : Exa Z h0 sa "java/lang/String") (C_sa : Fld Z h0 sa "java/lang/String" "coder" "B" (.int 0)) (V_sa : Fld Z h0 sa "java/lang/String" "value" "[B" (.ref sb)) (A_sb : Arv Z h0 sb kb .byte (Int32.ofNat own_L1.length) (own_L1.map Value.int) (.int 0)) (hi : i < (13 + r1.length + r2.length)) :
    MetFree l mY56 (head1 (Jvm.Cond.code mY56 method_3_code 6 (some .char) :: ws) rz5_2_16_70) (fun a U => a = #[(.int (Int32.ofNat i)), (.ref a2), (.ref a3)] ∧ Z.Warmed39 U.vm ∧ U.heap = h0 ∧ CHv Z EL U.vm h0 ∧ (∀ x ∈ ([] : List Addr), Safe Z EL U.vm h0 x) ∧ Lit (Z.setVm U.vm) "com/example/keyset/keyset/query/DeclarationExceptionForResourcePinLaw" 12 sa) (fun _ _ _ _ _ => True) (fun _ U o U' => ∃ v L, o = .returned v ∧ Q_rmX1 Z a2 a3 i sa sb kb zc fm z1 k1 r1 z2 k2 r2 h0 n0 v U'.vm U'.heap L ∧ CHr Z EL U.vm U.heap U'.vm U'.heap ∧ ReturnedEndW U o U' L rz5_2_16_70.cells rz5_2_16_70.slots) := by
  refine MetFree.of_bodySF (plainFor_of_name pn_43) hisR ?_
  intro p e s m args below meth c s₁ Bd hml0 hP hK
  obtain ⟨rfl, hZ, hh, HH, hSF, hPv⟩ := hP
  have hx := Bd.exec
  have hby := Bd.bytes
  have hml : c.maxLocals = 6 := hml0
  have hown : s.vm.findClass "com/example/keyset/keyset/query/DeclarationExceptionForResourcePinLaw" = some m.cls := findClass_of_methodNamed Bd.named
  have hlk : meth.locks = false := BodyLoose.notSynchronized Bd
  have X0 : Stand p l e rz5_2_16_70 (s.setVm s.vm) m #[(.int (Int32.ofNat i)), (.ref a2), (.ref a3)] below meth c s₁ [] 0 0 := Stand.of_body Bd
  have e0 : s₁.heap = h0 := by rw [← hh, Bd.state]; rfl
  have N0 := Fr.nil n0
  have KK : Keep h0 h0 [] := Keep.refl h0 _
  have hS : s.Since s.vm h0.size := own_since s _
  have hk : h0.size ≤ h0.size := Nat.le_refl _
  have RR : CHr Z EL s.vm h0 s.vm h0 := CHr.refl HH
  suffices hgo : GoHL p e below s rz5_2_16_70.cells rz5_2_16_70.slots Z h0 EL (Q_rmX1 Z a2 a3 i sa sb kb zc fm z1 k1 r1 z2 k2 r2 h0 n0) s₁ (entryFrame m #[(.int (Int32.ofNat i)), (.ref a2), (.ref a3)] 6) by
    obtain ⟨s₂, o, q1, q2, q3, v, L, q4, q5, q6, q7⟩ := hgo; exact ⟨s₂, o, q1, q2, q3, v, L, q4, q5, hh ▸ q6, q7⟩
  refine GoHL.eq (ef_rmX1 m (Int32.ofNat i) a2 a3) ?_
  show GoHL _ _ _ _ _ _ _ _ _ _  s₁ (mkF m 0 #[.val (.int (Int32.ofNat i)), .val (.ref a2), .val (.ref a3), .unset, .unset, .unset] [])
  refine GoHL.st (ldcAgain X0 hx hZ hown (hwi hw 247 rfl) (show Lit (s.setVm s.vm) "com/example/keyset/keyset/query/DeclarationExceptionForResourcePinLaw" 12 sa from hPv) (g := (mkF m 0 #[.val (.int (Int32.ofNat i)), .val (.ref a2), .val (.ref a3), .unset, .unset, .unset] [])) rfl (hb hby (dq dz43 0 0 rfl))) ?_
  show GoHL _ _ _ _ _ _ _ _ _ _  s₁ (mkF m 2 #[.val (.int (Int32.ofNat i)), .val (.ref a2), .val (.ref a3), .unset, .unset, .unset] [(.ref sa)])
  refine GoHL.st (fun _ => XS.astoreN X0.here hx rfl (hb hby (dq dz43 1 2 rfl)) rfl rfl (l' := #[.val (.int (Int32.ofNat i)), .val (.ref a2), .val (.ref a3), .val (.ref sa), .unset, .unset]) rfl) ?_
  refine GoHL.st (fun _ => XS.iloadN X0.here hx rfl (hb hby (dq dz43 2 3 rfl)) rfl) ?_
  refine GoHL.st (fun _ => XS.bipush X0.here hx rfl (hb hby (dq dz43 3 4 rfl))) ?_
  show GoHL _ _ _ _ _ _ _ _ _ _  s₁ (mkF m 6 #[.val (.int (Int32.ofNat i)), .val (.ref a2), .val (.ref a3), .val (.ref sa), .unset, .unset] [(.int (10 : Int32)), (.int (Int32.ofNat i))])
  by_cases c6_1 : (Int32.ofNat i) < (10 : Int32)
  · refine GoHL.st (fun _ => XS.icmpNo X0.here hx rfl (hb hby (dq dz43 4 6 rfl)) rfl (tlt c6_1).2.1) ?_
    have i10 : i < 10 := (own_olt (b := 10) (by omega) (by omega)).mp c6_1
    show GoHL _ _ _ _ _ _ _ _ _ _  s₁ (mkF m 9 #[.val (.int (Int32.ofNat i)), .val (.ref a2), .val (.ref a3), .val (.ref sa), .unset, .unset] [])
    refine GoHL.st (fun _ => XS.aloadN X0.here hx rfl (hb hby (dq dz43 5 9 rfl)) rfl rfl) ?_
    refine GoHL.st (fun _ => XS.iloadN X0.here hx rfl (hb hby (dq dz43 6 10 rfl)) rfl) ?_
    show GoHL _ _ _ _ _ _ _ _ _ _  s₁ (mkF m 11 #[.val (.int (Int32.ofNat i)), .val (.ref a2), .val (.ref a3), .val (.ref sa), .unset, .unset] [(.int (Int32.ofNat i)), (.ref sa)])
    have E_x11 := E_sa
    have C_l2 : Fld Z h0 sa "java/lang/String" "coder" "B" (.int (own_cd own_L1)) := by rw [own_cdL1]; exact C_sa
    have A_l2 : Arv Z h0 sb kb .byte (Int32.ofNat (own_by own_L1).length) ((own_by own_L1).map Value.int) (.int 0) := by rw [own_byL1]; exact A_sb
    obtain ⟨cq3, kq3, q3a, q3b, q3c⟩ := isOf hZ e0 E_sa
    refine GoHL.pure (w := (some (.int (own_L1.getD i 0)))) (rest := []) (pc' := 14) (X0.virtualBack hx (y := mY29) (z := mY29) hown (mvT hZ (hwi hw 222 rfl)) (mvT hZ (hwi hw 223 rfl)) (notFace_of_selects (args := #[]) (mvT hZ (hwi hw 225 rfl))) (mvT hZ (hwi hw 225 rfl)) (mvT hZ (hwi hw 224 rfl)) (by decide) (backOf (W := 0) (rmCAU l Z a0 hw [] sa zc sb kb own_L1 fm i h0 n0 O S_COMPACT hcs E_sa C_l2 V_sa A_l2 (by rw [own_l1_]; decide) S_SIO ref_fm S_ad S_hi S_lo i10 (own_hrL1 _ i10)) hZ (hwi hw 226 rfl) (hwi hw 6 rfl) (by decide) (by decide)) q3a q3c (g := (mkF m 11 #[.val (.int (Int32.ofNat i)), .val (.ref a2), .val (.ref a3), .val (.ref sa), .unset, .unset] [(.int (Int32.ofNat i)), (.ref sa)])) rfl (by rw [hml]; rfl) (Steps.refl _) (argsL := [(.int (Int32.ofNat i))]) (rest := []) (lenOf pd__I_C rfl) rfl (by show 2 * 0 + _ ≤ _; exact Nat.le_of_eq rfl) (hb hby (dq dz43 7 11 rfl)) (fun _ _ => ⟨rfl, e0, (by decide : 0 + 0 ≤ _), (by decide : 0 + 0 ≤ _)⟩)) (fun _ _ _ q => q) N0 (fun T3 L3 X3 e3q N3 => ?_)
    show GoHL _ _ _ _ _ _ _ _ _ _  T3 (mkF m 14 #[.val (.int (Int32.ofNat i)), .val (.ref a2), .val (.ref a3), .val (.ref sa), .unset, .unset] [(.int (own_L1.getD i 0))])
    refine GoHL.retN X3 hS hk e3q hZ hEL HH RR hlk hx (t := .char) (z' := ((own_M r1 r2).getD i 0)) Bd.returns (by simp) (hb hby (dq dz43 8 14 rfl)) (by decide) (by decide) (own_x1 i10) ?_
    show Q_rmX1 Z _ _ _ _ _ _ _ _ _ _ _ _ _ _ h0 n0 _ T3.vm T3.heap _
    rw [e3q]
    exact ⟨rfl, N3, own_ext0 KK⟩
  · refine GoHL.st (fun _ => XS.icmpYes X0.here hx rfl (pc0 := 6) (pc' := 15) rfl (hb hby (dq dz43 4 6 rfl)) rfl (flt c6_1).2.1 (by decide) (by decide)) ?_
    have i10 : 10 ≤ i := Nat.le_of_not_lt (fun q => c6_1 ((own_olt (b := 10) (by omega) (by omega)).mpr q))
    show GoHL _ _ _ _ _ _ _ _ _ _  s₁ (mkF m 15 #[.val (.int (Int32.ofNat i)), .val (.ref a2), .val (.ref a3), .val (.ref sa), .unset, .unset] [])
    refine GoHL.st (fun _ => XS.iloadN X0.here hx rfl (hb hby (dq dz43 9 15 rfl)) rfl) ?_
    refine GoHL.st (fun _ => XS.bipush X0.here hx rfl (hb hby (dq dz43 10 16 rfl))) ?_
    refine GoHL.st (fun _ => XS.isub X0.here hx rfl (hb hby (dq dz43 11 18 rfl)) rfl) ?_
    show GoHL _ _ _ _ _ _ _ _ _ _  s₁ (mkF m 19 #[.val (.int (Int32.ofNat i)), .val (.ref a2), .val (.ref a3), .val (.ref sa), .unset, .unset] [(.int ((Int32.ofNat i) - (10 : Int32)))])
    rw [show (Int32.ofNat i) - (10 : Int32) = Int32.ofNat (i - 10) from own_osub (b := 10) (by omega) (by omega)]
    refine GoHL.st (fun _ => XS.istore X0.here hx rfl (hb hby (dq dz43 12 19 rfl)) rfl (l' := #[.val (.int (Int32.ofNat i)), .val (.ref a2), .val (.ref a3), .val (.ref sa), .val (.int (Int32.ofNat (i - 10))), .unset]) rfl) ?_
    refine GoHL.st (fun _ => XS.iload X0.here hx rfl (hb hby (dq dz43 13 21 rfl)) rfl) ?_
    refine GoHL.st (fun _ => XS.aloadN X0.here hx rfl (hb hby (dq dz43 14 23 rfl)) rfl rfl) ?_
    show GoHL _ _ _ _ _ _ _ _ _ _  s₁ (mkF m 24 #[.val (.int (Int32.ofNat i)), .val (.ref a2), .val (.ref a3), .val (.ref sa), .val (.int (Int32.ofNat (i - 10))), .unset] [(.ref a2), (.int (Int32.ofNat (i - 10)))])
    obtain ⟨cq4, kq4, q4a, q4b, q4c⟩ := isOf hZ e0 E_a2
    refine GoHL.pure (w := (some (.int (Int32.ofNat r1.length)))) (rest := [(.int (Int32.ofNat (i - 10)))]) (pc' := 27) (X0.virtualBack hx (y := mY1) (z := mY1) hown (mvT hZ (hwi hw 218 rfl)) (mvT hZ (hwi hw 73 rfl)) (notFace_of_selects (args := #[]) (mvT hZ (hwi hw 75 rfl))) (mvT hZ (hwi hw 75 rfl)) (mvT hZ (hwi hw 74 rfl)) (by decide) (backOf (W := 1) (rmLenU l Z a0 hw [] a2 zc z1 k1 r1 h0 n0 O S_COMPACT hcs E_a2 C_a2 V_a2 A_z1 (by omega)) hZ (hwi hw 76 rfl) (hwi hw 6 rfl) (by decide) (by decide)) q4a q4c (g := (mkF m 24 #[.val (.int (Int32.ofNat i)), .val (.ref a2), .val (.ref a3), .val (.ref sa), .val (.int (Int32.ofNat (i - 10))), .unset] [(.ref a2), (.int (Int32.ofNat (i - 10)))])) rfl (by rw [hml]; rfl) (Steps.refl _) (argsL := []) (rest := [(.int (Int32.ofNat (i - 10)))]) (lenOf pd___I rfl) rfl (by show 2 * 0 + _ ≤ _; exact Nat.le_of_eq rfl) (hb hby (dq dz43 15 24 rfl)) (fun _ _ => ⟨rfl, e0, (by decide : 0 + 0 ≤ _), (by decide : 0 + 0 ≤ _)⟩)) (fun _ _ _ q => q) N0 (fun T4 L4 X4 e4q N4 => ?_)
    show GoHL _ _ _ _ _ _ _ _ _ _  T4 (mkF m 27 #[.val (.int (Int32.ofNat i)), .val (.ref a2), .val (.ref a3), .val (.ref sa), .val (.int (Int32.ofNat (i - 10))), .unset] [(.int (Int32.ofNat r1.length)), (.int (Int32.ofNat (i - 10)))])
    by_cases c27_5 : (Int32.ofNat (i - 10)) < (Int32.ofNat r1.length)
    · refine GoHL.st (fun _ => XS.icmpNo X4.here hx rfl (hb hby (dq dz43 16 27 rfl)) rfl (tlt c27_5).2.1) ?_
      have ir : i - 10 < r1.length := (own_olt (by omega) (by omega)).mp c27_5
      show GoHL _ _ _ _ _ _ _ _ _ _  T4 (mkF m 30 #[.val (.int (Int32.ofNat i)), .val (.ref a2), .val (.ref a3), .val (.ref sa), .val (.int (Int32.ofNat (i - 10))), .unset] [])
      refine GoHL.st (fun _ => XS.aloadN X4.here hx rfl (hb hby (dq dz43 17 30 rfl)) rfl rfl) ?_
      refine GoHL.st (fun _ => XS.iload X4.here hx rfl (hb hby (dq dz43 18 31 rfl)) rfl) ?_
      show GoHL _ _ _ _ _ _ _ _ _ _  T4 (mkF m 33 #[.val (.int (Int32.ofNat i)), .val (.ref a2), .val (.ref a3), .val (.ref sa), .val (.int (Int32.ofNat (i - 10))), .unset] [(.int (Int32.ofNat (i - 10))), (.ref a2)])
      obtain ⟨cq6, kq6, q6a, q6b, q6c⟩ := isOf hZ e4q E_a2
      refine GoHL.pure (w := (some (.int (r1.getD (i - 10) 0)))) (rest := []) (pc' := 36) (X4.virtualBack hx (y := mY29) (z := mY29) hown (mvT hZ (hwi hw 222 rfl)) (mvT hZ (hwi hw 223 rfl)) (notFace_of_selects (args := #[]) (mvT hZ (hwi hw 225 rfl))) (mvT hZ (hwi hw 225 rfl)) (mvT hZ (hwi hw 224 rfl)) (by decide) (backOf (W := 0) (rmCAU l Z a0 hw [] a2 zc z1 k1 r1 fm (i - 10) h0 n0 O S_COMPACT hcs E_a2 C_a2 V_a2 A_z1 (by omega) S_SIO ref_fm S_ad S_hi S_lo ir (hr_a2 _ ir)) hZ (hwi hw 226 rfl) (hwi hw 6 rfl) (by decide) (by decide)) q6a q6c (g := (mkF m 33 #[.val (.int (Int32.ofNat i)), .val (.ref a2), .val (.ref a3), .val (.ref sa), .val (.int (Int32.ofNat (i - 10))), .unset] [(.int (Int32.ofNat (i - 10))), (.ref a2)])) rfl (by rw [hml]; rfl) (Steps.refl _) (argsL := [(.int (Int32.ofNat (i - 10)))]) (rest := []) (lenOf pd__I_C rfl) rfl (by show 2 * 0 + _ ≤ _; exact Nat.le_of_eq rfl) (hb hby (dq dz43 19 33 rfl)) (fun _ _ => ⟨rfl, e4q, (by decide : 0 + 0 ≤ _), (by decide : 0 + 0 ≤ _)⟩)) (fun _ _ _ q => q) N4 (fun T6 L6 X6 e6q N6 => ?_)
      show GoHL _ _ _ _ _ _ _ _ _ _  T6 (mkF m 36 #[.val (.int (Int32.ofNat i)), .val (.ref a2), .val (.ref a3), .val (.ref sa), .val (.int (Int32.ofNat (i - 10))), .unset] [(.int (r1.getD (i - 10) 0))])
      refine GoHL.retN X6 hS hk e6q hZ hEL HH RR hlk hx (t := .char) (z' := ((own_M r1 r2).getD i 0)) Bd.returns (by simp) (hb hby (dq dz43 20 36 rfl)) (by decide) (by decide) (own_x2 i10 ir (hr_a2 _ ir)) ?_
      show Q_rmX1 Z _ _ _ _ _ _ _ _ _ _ _ _ _ _ h0 n0 _ T6.vm T6.heap _
      rw [e6q]
      exact ⟨rfl, N6, own_ext0 KK⟩
    · refine GoHL.st (fun _ => XS.icmpYes X4.here hx rfl (pc0 := 27) (pc' := 37) rfl (hb hby (dq dz43 16 27 rfl)) rfl (flt c27_5).2.1 (by decide) (by decide)) ?_
      have ir : r1.length ≤ i - 10 := Nat.le_of_not_lt (fun q => c27_5 ((own_olt (by omega) (by omega)).mpr q))
      show GoHL _ _ _ _ _ _ _ _ _ _  T4 (mkF m 37 #[.val (.int (Int32.ofNat i)), .val (.ref a2), .val (.ref a3), .val (.ref sa), .val (.int (Int32.ofNat (i - 10))), .unset] [])
      refine GoHL.st (fun _ => XS.iload X4.here hx rfl (hb hby (dq dz43 21 37 rfl)) rfl) ?_
      refine GoHL.st (fun _ => XS.aloadN X4.here hx rfl (hb hby (dq dz43 22 39 rfl)) rfl rfl) ?_
      show GoHL _ _ _ _ _ _ _ _ _ _  T4 (mkF m 40 #[.val (.int (Int32.ofNat i)), .val (.ref a2), .val (.ref a3), .val (.ref sa), .val (.int (Int32.ofNat (i - 10))), .unset] [(.ref a2), (.int (Int32.ofNat (i - 10)))])
      obtain ⟨cq7, kq7, q7a, q7b, q7c⟩ := isOf hZ e4q E_a2
      refine GoHL.pure (w := (some (.int (Int32.ofNat r1.length)))) (rest := [(.int (Int32.ofNat (i - 10)))]) (pc' := 43) (X4.virtualBack hx (y := mY1) (z := mY1) hown (mvT hZ (hwi hw 218 rfl)) (mvT hZ (hwi hw 73 rfl)) (notFace_of_selects (args := #[]) (mvT hZ (hwi hw 75 rfl))) (mvT hZ (hwi hw 75 rfl)) (mvT hZ (hwi hw 74 rfl)) (by decide) (backOf (W := 1) (rmLenU l Z a0 hw [] a2 zc z1 k1 r1 h0 n0 O S_COMPACT hcs E_a2 C_a2 V_a2 A_z1 (by omega)) hZ (hwi hw 76 rfl) (hwi hw 6 rfl) (by decide) (by decide)) q7a q7c (g := (mkF m 40 #[.val (.int (Int32.ofNat i)), .val (.ref a2), .val (.ref a3), .val (.ref sa), .val (.int (Int32.ofNat (i - 10))), .unset] [(.ref a2), (.int (Int32.ofNat (i - 10)))])) rfl (by rw [hml]; rfl) (Steps.refl _) (argsL := []) (rest := [(.int (Int32.ofNat (i - 10)))]) (lenOf pd___I rfl) rfl (by show 2 * 0 + _ ≤ _; exact Nat.le_of_eq rfl) (hb hby (dq dz43 23 40 rfl)) (fun _ _ => ⟨rfl, e4q, (by decide : 0 + 0 ≤ _), (by decide : 0 + 0 ≤ _)⟩)) (fun _ _ _ q => q) N4 (fun T7 L7 X7 e7q N7 => ?_)
      show GoHL _ _ _ _ _ _ _ _ _ _  T7 (mkF m 43 #[.val (.int (Int32.ofNat i)), .val (.ref a2), .val (.ref a3), .val (.ref sa), .val (.int (Int32.ofNat (i - 10))), .unset] [(.int (Int32.ofNat r1.length)), (.int (Int32.ofNat (i - 10)))])
      refine GoHL.st (fun _ => XS.isub X7.here hx rfl (hb hby (dq dz43 24 43 rfl)) rfl) ?_
      show GoHL _ _ _ _ _ _ _ _ _ _  T7 (mkF m 44 #[.val (.int (Int32.ofNat i)), .val (.ref a2), .val (.ref a3), .val (.ref sa), .val (.int (Int32.ofNat (i - 10))), .unset] [(.int ((Int32.ofNat (i - 10)) - (Int32.ofNat r1.length)))])
      rw [own_osub (by omega) (by omega)]
      refine GoHL.st (fun _ => XS.istore X7.here hx rfl (hb hby (dq dz43 25 44 rfl)) rfl (l' := #[.val (.int (Int32.ofNat i)), .val (.ref a2), .val (.ref a3), .val (.ref sa), .val (.int (Int32.ofNat (i - 10 - r1.length))), .unset]) rfl) ?_
      show GoHL _ _ _ _ _ _ _ _ _ _  T7 (mkF m 46 #[.val (.int (Int32.ofNat i)), .val (.ref a2), .val (.ref a3), .val (.ref sa), .val (.int (Int32.ofNat (i - 10 - r1.length))), .unset] [])
      obtain ⟨sa8, T8, h8, kk8, sb8, kb8, X8, e8, E8, hS8, hk8, hZ8, ho8, E_sa8, F_coder_sa8, F_value_sa8, V_sb8, la8, lb8, CR8, Lt8, ns8, st8⟩ := ldcCH X7 hx hZ hown (hwi hw 248 rfl) wS e7q hS hk hEL (List.mem_of_getElem? (i := 3) rfl) HH (vs := [(.int (34 : Int32)), (.int (58 : Int32)), (.int (32 : Int32))]) (z := 3) ⟨by decide, by decide⟩ (by decide) rfl (g := (mkF m 46 #[.val (.int (Int32.ofNat i)), .val (.ref a2), .val (.ref a3), .val (.ref sa), .val (.int (Int32.ofNat (i - 10 - r1.length))), .unset] [])) rfl (hb hby (dq dz43 26 46 rfl)) (n := 12) (by decide) (by decide) (by decide) (by decide)
      refine GoHL.st st8 ?_
      have E_a2 := E_a2.ext E8
      have A_z1 := A_z1.ext E8
      have C_a2 := C_a2.ext E8
      have V_a2 := V_a2.ext E8
      have E_a3 := E_a3.ext E8
      have A_z2 := A_z2.ext E8
      have C_a3 := C_a3.ext E8
      have V_a3 := V_a3.ext E8
      have E_sa := E_sa.ext E8
      have A_sb := A_sb.ext E8
      have C_sa := C_sa.ext E8
      have V_sa := V_sa.ext E8
      have O := O.ext E8
      have KK := KK.ext E8
      have RR := RR.trans CR8
      have HH := CR8.1
      have hS := hS8
      have hk := hk8
      have hZ := hZ8
      have hown := ho8
      show GoHL _ _ _ _ _ _ _ _ _ _  T8 (mkF m 48 #[.val (.int (Int32.ofNat i)), .val (.ref a2), .val (.ref a3), .val (.ref sa), .val (.int (Int32.ofNat (i - 10 - r1.length))), .unset] [(.ref sa8)])
      refine GoHL.st (fun _ => XS.astore X8.here hx rfl (hb hby (dq dz43 27 48 rfl)) rfl rfl (l' := #[.val (.int (Int32.ofNat i)), .val (.ref a2), .val (.ref a3), .val (.ref sa), .val (.int (Int32.ofNat (i - 10 - r1.length))), .val (.ref sa8)]) rfl) ?_
      refine GoHL.st (fun _ => XS.iload X8.here hx rfl (hb hby (dq dz43 28 50 rfl)) rfl) ?_
      refine GoHL.st (fun _ => XS.iconst X8.here hx rfl (hb hby (dq dz43 29 52 rfl))) ?_
      show GoHL _ _ _ _ _ _ _ _ _ _  T8 (mkF m 53 #[.val (.int (Int32.ofNat i)), .val (.ref a2), .val (.ref a3), .val (.ref sa), .val (.int (Int32.ofNat (i - 10 - r1.length))), .val (.ref sa8)] [(.int (3 : Int32)), (.int (Int32.ofNat (i - 10 - r1.length)))])
      by_cases c53_9 : (Int32.ofNat (i - 10 - r1.length)) < (3 : Int32)
      · refine GoHL.st (fun _ => XS.icmpNo X8.here hx rfl (hb hby (dq dz43 30 53 rfl)) rfl (tlt c53_9).2.1) ?_
        have i3 : i - 10 - r1.length < 3 := (own_olt (b := 3) (by omega) (by omega)).mp c53_9
        show GoHL _ _ _ _ _ _ _ _ _ _  T8 (mkF m 56 #[.val (.int (Int32.ofNat i)), .val (.ref a2), .val (.ref a3), .val (.ref sa), .val (.int (Int32.ofNat (i - 10 - r1.length))), .val (.ref sa8)] [])
        refine GoHL.st (fun _ => XS.aload X8.here hx rfl (hb hby (dq dz43 31 56 rfl)) rfl rfl) ?_
        refine GoHL.st (fun _ => XS.iload X8.here hx rfl (hb hby (dq dz43 32 58 rfl)) rfl) ?_
        show GoHL _ _ _ _ _ _ _ _ _ _  T8 (mkF m 60 #[.val (.int (Int32.ofNat i)), .val (.ref a2), .val (.ref a3), .val (.ref sa), .val (.int (Int32.ofNat (i - 10 - r1.length))), .val (.ref sa8)] [(.int (Int32.ofNat (i - 10 - r1.length))), (.ref sa8)])
        have E_x60 := E_sa8
        have C_l10 : Fld Z h8 sa8 "java/lang/String" "coder" "B" (.int (own_cd own_L2)) := by rw [own_cdL2]; exact F_coder_sa8
        have A_l10 : Arv Z h8 sb8 kb8 .byte (Int32.ofNat (own_by own_L2).length) ((own_by own_L2).map Value.int) (.int 0) := by rw [own_byL2]; exact V_sb8
        obtain ⟨cq11, kq11, q11a, q11b, q11c⟩ := isOf hZ e8 E_sa8
        refine GoHL.pure (w := (some (.int (own_L2.getD (i - 10 - r1.length) 0)))) (rest := []) (pc' := 63) (X8.virtualBack hx (y := mY29) (z := mY29) hown (mvT hZ (hwi hw 222 rfl)) (mvT hZ (hwi hw 223 rfl)) (notFace_of_selects (args := #[]) (mvT hZ (hwi hw 225 rfl))) (mvT hZ (hwi hw 225 rfl)) (mvT hZ (hwi hw 224 rfl)) (by decide) (backOf (W := 0) (rmCAU l Z a0 hw [] sa8 zc sb8 kb8 own_L2 fm (i - 10 - r1.length) h8 n0 O S_COMPACT hcs E_sa8 C_l10 F_value_sa8 A_l10 (by rw [own_l2_]; decide) S_SIO ref_fm S_ad S_hi S_lo i3 (own_hrL2 _ i3)) hZ (hwi hw 226 rfl) (hwi hw 6 rfl) (by decide) (by decide)) q11a q11c (g := (mkF m 60 #[.val (.int (Int32.ofNat i)), .val (.ref a2), .val (.ref a3), .val (.ref sa), .val (.int (Int32.ofNat (i - 10 - r1.length))), .val (.ref sa8)] [(.int (Int32.ofNat (i - 10 - r1.length))), (.ref sa8)])) rfl (by rw [hml]; rfl) (Steps.refl _) (argsL := [(.int (Int32.ofNat (i - 10 - r1.length)))]) (rest := []) (lenOf pd__I_C rfl) rfl (by show 2 * 0 + _ ≤ _; exact Nat.le_of_eq rfl) (hb hby (dq dz43 33 60 rfl)) (fun _ _ => ⟨rfl, e8, (by decide : 2 + 0 ≤ _), (by decide : 16 + 0 ≤ _)⟩)) (fun _ _ _ q => q) N7 (fun T11 L11 X11 e11q N11 => ?_)
        show GoHL _ _ _ _ _ _ _ _ _ _  T11 (mkF m 63 #[.val (.int (Int32.ofNat i)), .val (.ref a2), .val (.ref a3), .val (.ref sa), .val (.int (Int32.ofNat (i - 10 - r1.length))), .val (.ref sa8)] [(.int (own_L2.getD (i - 10 - r1.length) 0))])
        refine GoHL.retN X11 hS hk e11q hZ hEL HH RR hlk hx (t := .char) (z' := ((own_M r1 r2).getD i 0)) Bd.returns (by simp) (hb hby (dq dz43 34 63 rfl)) (by decide) (by decide) (own_x3 i10 ir i3) ?_
        show Q_rmX1 Z _ _ _ _ _ _ _ _ _ _ _ _ _ _ h0 n0 _ T11.vm T11.heap _
        rw [e11q]
        exact ⟨rfl, N11, own_ext0 KK⟩
      · refine GoHL.st (fun _ => XS.icmpYes X8.here hx rfl (pc0 := 53) (pc' := 64) rfl (hb hby (dq dz43 30 53 rfl)) rfl (flt c53_9).2.1 (by decide) (by decide)) ?_
        have i3 : 3 ≤ i - 10 - r1.length := Nat.le_of_not_lt (fun q => c53_9 ((own_olt (b := 3) (by omega) (by omega)).mpr q))
        show GoHL _ _ _ _ _ _ _ _ _ _  T8 (mkF m 64 #[.val (.int (Int32.ofNat i)), .val (.ref a2), .val (.ref a3), .val (.ref sa), .val (.int (Int32.ofNat (i - 10 - r1.length))), .val (.ref sa8)] [])
        refine GoHL.st (fun _ => XS.iload X8.here hx rfl (hb hby (dq dz43 35 64 rfl)) rfl) ?_
        refine GoHL.st (fun _ => XS.iconst X8.here hx rfl (hb hby (dq dz43 36 66 rfl))) ?_
        refine GoHL.st (fun _ => XS.isub X8.here hx rfl (hb hby (dq dz43 37 67 rfl)) rfl) ?_
        show GoHL _ _ _ _ _ _ _ _ _ _  T8 (mkF m 68 #[.val (.int (Int32.ofNat i)), .val (.ref a2), .val (.ref a3), .val (.ref sa), .val (.int (Int32.ofNat (i - 10 - r1.length))), .val (.ref sa8)] [(.int ((Int32.ofNat (i - 10 - r1.length)) - (3 : Int32)))])
        rw [show (Int32.ofNat (i - 10 - r1.length)) - (3 : Int32) = Int32.ofNat (i - 10 - r1.length - 3) from own_osub (b := 3) (by omega) (by omega)]
        refine GoHL.st (fun _ => XS.istore X8.here hx rfl (hb hby (dq dz43 38 68 rfl)) rfl (l' := #[.val (.int (Int32.ofNat i)), .val (.ref a2), .val (.ref a3), .val (.ref sa), .val (.int (Int32.ofNat (i - 10 - r1.length - 3))), .val (.ref sa8)]) rfl) ?_
        refine GoHL.st (fun _ => XS.aloadN X8.here hx rfl (hb hby (dq dz43 39 70 rfl)) rfl rfl) ?_
        refine GoHL.st (fun _ => XS.iload X8.here hx rfl (hb hby (dq dz43 40 71 rfl)) rfl) ?_
        show GoHL _ _ _ _ _ _ _ _ _ _  T8 (mkF m 73 #[.val (.int (Int32.ofNat i)), .val (.ref a2), .val (.ref a3), .val (.ref sa), .val (.int (Int32.ofNat (i - 10 - r1.length - 3))), .val (.ref sa8)] [(.int (Int32.ofNat (i - 10 - r1.length - 3))), (.ref a3)])
        obtain ⟨cq12, kq12, q12a, q12b, q12c⟩ := isOf hZ e8 E_a3
        refine GoHL.pure (w := (some (.int (r2.getD (i - 10 - r1.length - 3) 0)))) (rest := []) (pc' := 76) (X8.virtualBack hx (y := mY29) (z := mY29) hown (mvT hZ (hwi hw 222 rfl)) (mvT hZ (hwi hw 223 rfl)) (notFace_of_selects (args := #[]) (mvT hZ (hwi hw 225 rfl))) (mvT hZ (hwi hw 225 rfl)) (mvT hZ (hwi hw 224 rfl)) (by decide) (backOf (W := 0) (rmCAU l Z a0 hw [] a3 zc z2 k2 r2 fm (i - 10 - r1.length - 3) h8 n0 O S_COMPACT hcs E_a3 C_a3 V_a3 A_z2 (by omega) S_SIO ref_fm S_ad S_hi S_lo (by omega) (hr_a3 _ (by omega))) hZ (hwi hw 226 rfl) (hwi hw 6 rfl) (by decide) (by decide)) q12a q12c (g := (mkF m 73 #[.val (.int (Int32.ofNat i)), .val (.ref a2), .val (.ref a3), .val (.ref sa), .val (.int (Int32.ofNat (i - 10 - r1.length - 3))), .val (.ref sa8)] [(.int (Int32.ofNat (i - 10 - r1.length - 3))), (.ref a3)])) rfl (by rw [hml]; rfl) (Steps.refl _) (argsL := [(.int (Int32.ofNat (i - 10 - r1.length - 3)))]) (rest := []) (lenOf pd__I_C rfl) rfl (by show 2 * 0 + _ ≤ _; exact Nat.le_of_eq rfl) (hb hby (dq dz43 41 73 rfl)) (fun _ _ => ⟨rfl, e8, (by decide : 2 + 0 ≤ _), (by decide : 16 + 0 ≤ _)⟩)) (fun _ _ _ q => q) N7 (fun T12 L12 X12 e12q N12 => ?_)
        show GoHL _ _ _ _ _ _ _ _ _ _  T12 (mkF m 76 #[.val (.int (Int32.ofNat i)), .val (.ref a2), .val (.ref a3), .val (.ref sa), .val (.int (Int32.ofNat (i - 10 - r1.length - 3))), .val (.ref sa8)] [(.int (r2.getD (i - 10 - r1.length - 3) 0))])
        refine GoHL.retN X12 hS hk e12q hZ hEL HH RR hlk hx (t := .char) (z' := ((own_M r1 r2).getD i 0)) Bd.returns (by simp) (hb hby (dq dz43 42 76 rfl)) (by decide) (by decide) (own_x4 i10 ir i3 (hr_a3 _ (by omega))) ?_
        show Q_rmX1 Z _ _ _ _ _ _ _ _ _ _ _ _ _ _ h0 n0 _ T12.vm T12.heap _
        rw [e12q]
        exact ⟨rfl, N12, own_ext0 KK⟩
def Q_rmX1a (Z : State) (a2 : Addr) (a3 : Addr) (i : Nat) (sa : Addr) (sb : Addr) (kb : ClassId) (zc : Int32) (fm : Value) (z1 : Addr) (k1 : ClassId) (r1 : List Int32) (z2 : Addr) (k2 : ClassId) (r2 : List Int32) (h0 : Heap) (n0 : Nat) (v : Option Value) (w : Vm) (h : Heap) (L : List Loc) : Prop := v = some (.int ((own_M r1 r2).getD i 0)) ∧ Fr n0 L ∧ Ext h0 h
theorem rmX1a (l : Launch) (Z : State) (a0 : Array Value) (hw : HWt a0 Z) (ws : List Jvm.Cond) (a2 : Addr) (a3 : Addr) (i : Nat) (sa : Addr) (sb : Addr) (kb : ClassId) (zc : Int32) (fm : Value) (z1 : Addr) (k1 : ClassId) (r1 : List Int32) (z2 : Addr) (k2 : ClassId) (r2 : List Int32) (h0 : Heap) (n0 : Nat) (O : Old Z n0 h0) (hEL : EW Z a0 EL) (wS : ∀ a ∈ Bundle.stringAtoms, a.before a0 Z = true) (S_COMPACT : Sta Z Z.heap "java/lang/String" "COMPACT_STRINGS" "Z" (.int zc)) (hcs : ¬ zc = 0) (S_SIO : Sta Z Z.heap "jdk/internal/util/Preconditions" "SIOOBE_FORMATTER" "Ljava/util/function/BiFunction;" fm) (ref_fm : fm.isRef = true) (S_ad : Sta Z Z.heap "java/lang/StringUTF16" "$assertionsDisabled" "Z" (.int 1)) (S_hi : Sta Z Z.heap "java/lang/StringUTF16" "HI_BYTE_SHIFT" "I" (.int 0)) (S_lo : Sta Z Z.heap "java/lang/StringUTF16" "LO_BYTE_SHIFT" "I" (.int 8)) (E_a2 : Exa Z h0 a2 "java/lang/String") (C_a2 : Fld Z h0 a2 "java/lang/String" "coder" "B" (.int (own_cd r1))) (V_a2 : Fld Z h0 a2 "java/lang/String" "value" "[B" (.ref z1)) (A_z1 : Arv Z h0 z1 k1 .byte (Int32.ofNat (own_by r1).length) ((own_by r1).map Value.int) (.int 0)) (E_a3 : Exa Z h0 a3 "java/lang/String") (C_a3 : Fld Z h0 a3 "java/lang/String" "coder" "B" (.int (own_cd r2))) (V_a3 : Fld Z h0 a3 "java/lang/String" "value" "[B" (.ref z2)) (A_z2 : Arv Z h0 z2 k2 .byte (Int32.ofNat (own_by r2).length) ((own_by r2).map Value.int) (.int 0)) (hb1 : r1.length ≤ 2) (hb2 : r2.length ≤ 2) (hr_a2 : ∀ j, j < r1.length → nar .char (r1.getD j 0) = r1.getD j 0) (hr_a3 : ∀ j, j < r2.length → nar .char (r2.getD j 0) = r2.getD j 0) (E_sa : Exa Z h0 sa "java/lang/String") (C_sa : Fld Z h0 sa "java/lang/String" "coder" "B" (.int 0)) (V_sa : Fld Z h0 sa "java/lang/String" "value" "[B" (.ref sb)) (A_sb : Arv Z h0 sb kb .byte (Int32.ofNat own_L1.length) (own_L1.map Value.int) (.int 0)) (hi : i < (13 + r1.length + r2.length)) (i10 : i < 10) :
    MetFree l mY56 (head1 (Jvm.Cond.code mY56 method_3_code 6 (some .char) :: ws) rz5_0_0_70) (fun a U => a = #[(.int (Int32.ofNat i)), (.ref a2), (.ref a3)] ∧ Z.Warmed39 U.vm ∧ U.heap = h0 ∧ CHv Z EL U.vm h0 ∧ (∀ x ∈ ([] : List Addr), Safe Z EL U.vm h0 x) ∧ Lit (Z.setVm U.vm) "com/example/keyset/keyset/query/DeclarationExceptionForResourcePinLaw" 12 sa) (fun _ _ _ _ _ => True) (fun _ U o U' => ∃ v L, o = .returned v ∧ Q_rmX1a Z a2 a3 i sa sb kb zc fm z1 k1 r1 z2 k2 r2 h0 n0 v U'.vm U'.heap L ∧ CHr Z EL U.vm U.heap U'.vm U'.heap ∧ ReturnedEndW U o U' L rz5_0_0_70.cells rz5_0_0_70.slots) := by
  refine MetFree.of_bodySF (plainFor_of_name pn_43) hisR ?_
  intro p e s m args below meth c s₁ Bd hml0 hP hK
  obtain ⟨rfl, hZ, hh, HH, hSF, hPv⟩ := hP
  have hx := Bd.exec
  have hby := Bd.bytes
  have hml : c.maxLocals = 6 := hml0
  have hown : s.vm.findClass "com/example/keyset/keyset/query/DeclarationExceptionForResourcePinLaw" = some m.cls := findClass_of_methodNamed Bd.named
  have hlk : meth.locks = false := BodyLoose.notSynchronized Bd
  have X0 : Stand p l e rz5_0_0_70 (s.setVm s.vm) m #[(.int (Int32.ofNat i)), (.ref a2), (.ref a3)] below meth c s₁ [] 0 0 := Stand.of_body Bd
  have e0 : s₁.heap = h0 := by rw [← hh, Bd.state]; rfl
  have N0 := Fr.nil n0
  have KK : Keep h0 h0 [] := Keep.refl h0 _
  have hS : s.Since s.vm h0.size := own_since s _
  have hk : h0.size ≤ h0.size := Nat.le_refl _
  have RR : CHr Z EL s.vm h0 s.vm h0 := CHr.refl HH
  suffices hgo : GoHL p e below s rz5_0_0_70.cells rz5_0_0_70.slots Z h0 EL (Q_rmX1a Z a2 a3 i sa sb kb zc fm z1 k1 r1 z2 k2 r2 h0 n0) s₁ (entryFrame m #[(.int (Int32.ofNat i)), (.ref a2), (.ref a3)] 6) by
    obtain ⟨s₂, o, q1, q2, q3, v, L, q4, q5, q6, q7⟩ := hgo; exact ⟨s₂, o, q1, q2, q3, v, L, q4, q5, hh ▸ q6, q7⟩
  refine GoHL.eq (ef_rmX1a m (Int32.ofNat i) a2 a3) ?_
  show GoHL _ _ _ _ _ _ _ _ _ _  s₁ (mkF m 0 #[.val (.int (Int32.ofNat i)), .val (.ref a2), .val (.ref a3), .unset, .unset, .unset] [])
  refine GoHL.st (ldcAgain X0 hx hZ hown (hwi hw 247 rfl) (show Lit (s.setVm s.vm) "com/example/keyset/keyset/query/DeclarationExceptionForResourcePinLaw" 12 sa from hPv) (g := (mkF m 0 #[.val (.int (Int32.ofNat i)), .val (.ref a2), .val (.ref a3), .unset, .unset, .unset] [])) rfl (hb hby (dq dz43 0 0 rfl))) ?_
  show GoHL _ _ _ _ _ _ _ _ _ _  s₁ (mkF m 2 #[.val (.int (Int32.ofNat i)), .val (.ref a2), .val (.ref a3), .unset, .unset, .unset] [(.ref sa)])
  refine GoHL.st (fun _ => XS.astoreN X0.here hx rfl (hb hby (dq dz43 1 2 rfl)) rfl rfl (l' := #[.val (.int (Int32.ofNat i)), .val (.ref a2), .val (.ref a3), .val (.ref sa), .unset, .unset]) rfl) ?_
  refine GoHL.st (fun _ => XS.iloadN X0.here hx rfl (hb hby (dq dz43 2 3 rfl)) rfl) ?_
  refine GoHL.st (fun _ => XS.bipush X0.here hx rfl (hb hby (dq dz43 3 4 rfl))) ?_
  show GoHL _ _ _ _ _ _ _ _ _ _  s₁ (mkF m 6 #[.val (.int (Int32.ofNat i)), .val (.ref a2), .val (.ref a3), .val (.ref sa), .unset, .unset] [(.int (10 : Int32)), (.int (Int32.ofNat i))])
  refine GoHL.st (fun _ => XS.icmpNo X0.here hx rfl (hb hby (dq dz43 4 6 rfl)) rfl (tlt ((own_olt (b := 10) (by omega) (by omega)).mpr i10 : (Int32.ofNat i) < (10 : Int32))).2.1) ?_
  show GoHL _ _ _ _ _ _ _ _ _ _  s₁ (mkF m 9 #[.val (.int (Int32.ofNat i)), .val (.ref a2), .val (.ref a3), .val (.ref sa), .unset, .unset] [])
  refine GoHL.st (fun _ => XS.aloadN X0.here hx rfl (hb hby (dq dz43 5 9 rfl)) rfl rfl) ?_
  refine GoHL.st (fun _ => XS.iloadN X0.here hx rfl (hb hby (dq dz43 6 10 rfl)) rfl) ?_
  show GoHL _ _ _ _ _ _ _ _ _ _  s₁ (mkF m 11 #[.val (.int (Int32.ofNat i)), .val (.ref a2), .val (.ref a3), .val (.ref sa), .unset, .unset] [(.int (Int32.ofNat i)), (.ref sa)])
  have E_x11 := E_sa
  have C_l1 : Fld Z h0 sa "java/lang/String" "coder" "B" (.int (own_cd own_L1)) := by rw [own_cdL1]; exact C_sa
  have A_l1 : Arv Z h0 sb kb .byte (Int32.ofNat (own_by own_L1).length) ((own_by own_L1).map Value.int) (.int 0) := by rw [own_byL1]; exact A_sb
  obtain ⟨cq2, kq2, q2a, q2b, q2c⟩ := isOf hZ e0 E_sa
  refine GoHL.pure (w := (some (.int (own_L1.getD i 0)))) (rest := []) (pc' := 14) (X0.virtualBack hx (y := mY29) (z := mY29) hown (mvT hZ (hwi hw 222 rfl)) (mvT hZ (hwi hw 223 rfl)) (notFace_of_selects (args := #[]) (mvT hZ (hwi hw 225 rfl))) (mvT hZ (hwi hw 225 rfl)) (mvT hZ (hwi hw 224 rfl)) (by decide) (backOf (W := 0) (rmCAU l Z a0 hw [] sa zc sb kb own_L1 fm i h0 n0 O S_COMPACT hcs E_sa C_l1 V_sa A_l1 (by rw [own_l1_]; decide) S_SIO ref_fm S_ad S_hi S_lo i10 (own_hrL1 _ i10)) hZ (hwi hw 226 rfl) (hwi hw 6 rfl) (by decide) (by decide)) q2a q2c (g := (mkF m 11 #[.val (.int (Int32.ofNat i)), .val (.ref a2), .val (.ref a3), .val (.ref sa), .unset, .unset] [(.int (Int32.ofNat i)), (.ref sa)])) rfl (by rw [hml]; rfl) (Steps.refl _) (argsL := [(.int (Int32.ofNat i))]) (rest := []) (lenOf pd__I_C rfl) rfl (by show 2 * 0 + _ ≤ _; exact Nat.le_of_eq rfl) (hb hby (dq dz43 7 11 rfl)) (fun _ _ => ⟨rfl, e0, (by decide : 0 + 0 ≤ _), (by decide : 0 + 0 ≤ _)⟩)) (fun _ _ _ q => q) N0 (fun T2 L2 X2 e2q N2 => ?_)
  show GoHL _ _ _ _ _ _ _ _ _ _  T2 (mkF m 14 #[.val (.int (Int32.ofNat i)), .val (.ref a2), .val (.ref a3), .val (.ref sa), .unset, .unset] [(.int (own_L1.getD i 0))])
  refine GoHL.retN X2 hS hk e2q hZ hEL HH RR hlk hx (t := .char) (z' := ((own_M r1 r2).getD i 0)) Bd.returns (by simp) (hb hby (dq dz43 8 14 rfl)) (by decide) (by decide) (own_x1 i10) ?_
  show Q_rmX1a Z _ _ _ _ _ _ _ _ _ _ _ _ _ _ h0 n0 _ T2.vm T2.heap _
  rw [e2q]
  exact ⟨rfl, N2, own_ext0 KK⟩
def Q_rmO0 (Z : State) (a1 : Addr) (a3 : Addr) (a4 : Addr) (zc : Int32) (fm : Value) (z0 : Addr) (k0 : ClassId) (M : List Int32) (z1 : Addr) (k1 : ClassId) (r1 : List Int32) (z2 : Addr) (k2 : ClassId) (r2 : List Int32) (h0 : Heap) (n0 : Nat) (v : Option Value) (w : Vm) (h : Heap) (L : List Loc) : Prop := v = some (.int 1) ∧ Fr n0 L ∧ Ext h0 h ∧ ∃ (sa sb : Addr) (kb : ClassId), Lit (Z.setVm w) "com/example/keyset/keyset/query/DeclarationExceptionForResourcePinLaw" 12 sa ∧ Exa Z h sa "java/lang/String" ∧ Fld Z h sa "java/lang/String" "coder" "B" (.int 0) ∧ Fld Z h sa "java/lang/String" "value" "[B" (.ref sb) ∧ Arv Z h sb kb .byte (Int32.ofNat own_L1.length) (own_L1.map Value.int) (.int 0)
theorem rmO0 (l : Launch) (Z : State) (a0 : Array Value) (hw : HWt a0 Z) (ws : List Jvm.Cond) (a1 : Addr) (a3 : Addr) (a4 : Addr) (zc : Int32) (fm : Value) (z0 : Addr) (k0 : ClassId) (M : List Int32) (z1 : Addr) (k1 : ClassId) (r1 : List Int32) (z2 : Addr) (k2 : ClassId) (r2 : List Int32) (h0 : Heap) (n0 : Nat) (O : Old Z n0 h0) (hEL : EW Z a0 EL) (wS : ∀ a ∈ Bundle.stringAtoms, a.before a0 Z = true) (S_COMPACT : Sta Z Z.heap "java/lang/String" "COMPACT_STRINGS" "Z" (.int zc)) (hcs : ¬ zc = 0) (S_SIO : Sta Z Z.heap "jdk/internal/util/Preconditions" "SIOOBE_FORMATTER" "Ljava/util/function/BiFunction;" fm) (ref_fm : fm.isRef = true) (S_ad : Sta Z Z.heap "java/lang/StringUTF16" "$assertionsDisabled" "Z" (.int 1)) (S_hi : Sta Z Z.heap "java/lang/StringUTF16" "HI_BYTE_SHIFT" "I" (.int 0)) (S_lo : Sta Z Z.heap "java/lang/StringUTF16" "LO_BYTE_SHIFT" "I" (.int 8)) (E_a1 : Exa Z h0 a1 "java/lang/String") (C_a1 : Fld Z h0 a1 "java/lang/String" "coder" "B" (.int (own_cd M))) (V_a1 : Fld Z h0 a1 "java/lang/String" "value" "[B" (.ref z0)) (A_z0 : Arv Z h0 z0 k0 .byte (Int32.ofNat (own_by M).length) ((own_by M).map Value.int) (.int 0)) (eM : M = own_M r1 r2) (hr_a1 : ∀ j, j < M.length → nar .char (M.getD j 0) = M.getD j 0) (E_a3 : Exa Z h0 a3 "java/lang/String") (C_a3 : Fld Z h0 a3 "java/lang/String" "coder" "B" (.int (own_cd r1))) (V_a3 : Fld Z h0 a3 "java/lang/String" "value" "[B" (.ref z1)) (A_z1 : Arv Z h0 z1 k1 .byte (Int32.ofNat (own_by r1).length) ((own_by r1).map Value.int) (.int 0)) (E_a4 : Exa Z h0 a4 "java/lang/String") (C_a4 : Fld Z h0 a4 "java/lang/String" "coder" "B" (.int (own_cd r2))) (V_a4 : Fld Z h0 a4 "java/lang/String" "value" "[B" (.ref z2)) (A_z2 : Arv Z h0 z2 k2 .byte (Int32.ofNat (own_by r2).length) ((own_by r2).map Value.int) (.int 0)) (hb1 : r1.length ≤ 2) (hb2 : r2.length ≤ 2) (hr_a3 : ∀ j, j < r1.length → nar .char (r1.getD j 0) = r1.getD j 0) (hr_a4 : ∀ j, j < r2.length → nar .char (r2.getD j 0) = r2.getD j 0) :
    MetFree l mY57 (head1 (Jvm.Cond.code mY57 method_4_code 4 (some .boolean) :: ws) rz6_2_44_90) (fun a U => a = #[(.ref a1), (.int (0 : Int32)), (.ref a3), (.ref a4)] ∧ Z.Warmed39 U.vm ∧ U.heap = h0 ∧ CHv Z EL U.vm h0 ∧ (∀ x ∈ ([] : List Addr), Safe Z EL U.vm h0 x) ∧ True) (fun _ _ _ _ _ => True) (fun _ U o U' => ∃ v L, o = .returned v ∧ Q_rmO0 Z a1 a3 a4 zc fm z0 k0 M z1 k1 r1 z2 k2 r2 h0 n0 v U'.vm U'.heap L ∧ CHr Z EL U.vm U.heap U'.vm U'.heap ∧ ReturnedEndW U o U' L rz6_2_44_90.cells rz6_2_44_90.slots) := by
  refine MetFree.of_bodySF (plainFor_of_name pn_37) hisR ?_
  intro p e s m args below meth c s₁ Bd hml0 hP hK
  obtain ⟨rfl, hZ, hh, HH, hSF, hPv⟩ := hP
  have hx := Bd.exec
  have hby := Bd.bytes
  have hml : c.maxLocals = 4 := hml0
  have hown : s.vm.findClass "com/example/keyset/keyset/query/DeclarationExceptionForResourcePinLaw" = some m.cls := findClass_of_methodNamed Bd.named
  have hlk : meth.locks = false := BodyLoose.notSynchronized Bd
  have X0 : Stand p l e rz6_2_44_90 (s.setVm s.vm) m #[(.ref a1), (.int (0 : Int32)), (.ref a3), (.ref a4)] below meth c s₁ [] 0 0 := Stand.of_body Bd
  have e0 : s₁.heap = h0 := by rw [← hh, Bd.state]; rfl
  have N0 := Fr.nil n0
  have KK : Keep h0 h0 [] := Keep.refl h0 _
  have hS : s.Since s.vm h0.size := own_since s _
  have hk : h0.size ≤ h0.size := Nat.le_refl _
  have RR : CHr Z EL s.vm h0 s.vm h0 := CHr.refl HH
  suffices hgo : GoHL p e below s rz6_2_44_90.cells rz6_2_44_90.slots Z h0 EL (Q_rmO0 Z a1 a3 a4 zc fm z0 k0 M z1 k1 r1 z2 k2 r2 h0 n0) s₁ (entryFrame m #[(.ref a1), (.int (0 : Int32)), (.ref a3), (.ref a4)] 4) by
    obtain ⟨s₂, o, q1, q2, q3, v, L, q4, q5, q6, q7⟩ := hgo; exact ⟨s₂, o, q1, q2, q3, v, L, q4, q5, hh ▸ q6, q7⟩
  refine GoHL.eq (ef_rmO0 m a1 a3 a4) ?_
  have lM : M.length = 13 + r1.length + r2.length := by rw [eM]; exact own_Ml _ _
  show GoHL _ _ _ _ _ _ _ _ _ _  s₁ (mkF m 0 #[.val (.ref a1), .val (.int (0 : Int32)), .val (.ref a3), .val (.ref a4)] [])
  refine GoHL.st (fun _ => XS.iloadN X0.here hx rfl (hb hby (dq dz37 0 0 rfl)) rfl) ?_
  refine GoHL.st (fun _ => XS.aloadN X0.here hx rfl (hb hby (dq dz37 1 1 rfl)) rfl rfl) ?_
  show GoHL _ _ _ _ _ _ _ _ _ _  s₁ (mkF m 2 #[.val (.ref a1), .val (.int (0 : Int32)), .val (.ref a3), .val (.ref a4)] [(.ref a1), (.int (0 : Int32))])
  obtain ⟨cq1, kq1, q1a, q1b, q1c⟩ := isOf hZ e0 E_a1
  refine GoHL.pure (w := (some (.int (Int32.ofNat M.length)))) (rest := [(.int (0 : Int32))]) (pc' := 5) (X0.virtualBack hx (y := mY1) (z := mY1) hown (mvT hZ (hwi hw 218 rfl)) (mvT hZ (hwi hw 73 rfl)) (notFace_of_selects (args := #[]) (mvT hZ (hwi hw 75 rfl))) (mvT hZ (hwi hw 75 rfl)) (mvT hZ (hwi hw 74 rfl)) (by decide) (backOf (W := 1) (rmLenU l Z a0 hw [] a1 zc z0 k0 M h0 n0 O S_COMPACT hcs E_a1 C_a1 V_a1 A_z0 (by omega)) hZ (hwi hw 76 rfl) (hwi hw 6 rfl) (by decide) (by decide)) q1a q1c (g := (mkF m 2 #[.val (.ref a1), .val (.int (0 : Int32)), .val (.ref a3), .val (.ref a4)] [(.ref a1), (.int (0 : Int32))])) rfl (by rw [hml]; rfl) (Steps.refl _) (argsL := []) (rest := [(.int (0 : Int32))]) (lenOf pd___I rfl) rfl (by show 2 * 0 + _ ≤ _; exact Nat.le_of_eq rfl) (hb hby (dq dz37 2 2 rfl)) (fun _ _ => ⟨rfl, e0, (by decide : 0 + 0 ≤ _), (by decide : 0 + 0 ≤ _)⟩)) (fun _ _ _ q => q) N0 (fun T1 L1 X1 e1q N1 => ?_)
  show GoHL _ _ _ _ _ _ _ _ _ _  T1 (mkF m 5 #[.val (.ref a1), .val (.int (0 : Int32)), .val (.ref a3), .val (.ref a4)] [(.int (Int32.ofNat M.length)), (.int (0 : Int32))])
  refine GoHL.st (fun _ => XS.icmpYes X1.here hx rfl (pc0 := 5) (pc' := 10) rfl (hb hby (dq dz37 3 5 rfl)) rfl (tlt (own_opos (by omega) (by omega) : (0 : Int32) < (Int32.ofNat M.length))).1 (by decide) (by decide)) ?_
  show GoHL _ _ _ _ _ _ _ _ _ _  T1 (mkF m 10 #[.val (.ref a1), .val (.int (0 : Int32)), .val (.ref a3), .val (.ref a4)] [])
  refine GoHL.st (fun _ => XS.aloadN X1.here hx rfl (hb hby (dq dz37 4 10 rfl)) rfl rfl) ?_
  refine GoHL.st (fun _ => XS.iloadN X1.here hx rfl (hb hby (dq dz37 5 11 rfl)) rfl) ?_
  show GoHL _ _ _ _ _ _ _ _ _ _  T1 (mkF m 12 #[.val (.ref a1), .val (.int (0 : Int32)), .val (.ref a3), .val (.ref a4)] [(.int (0 : Int32)), (.ref a1)])
  obtain ⟨cq2, kq2, q2a, q2b, q2c⟩ := isOf hZ e1q E_a1
  refine GoHL.pure (w := (some (.int (M.getD 0 0)))) (rest := []) (pc' := 15) (X1.virtualBack hx (y := mY29) (z := mY29) hown (mvT hZ (hwi hw 222 rfl)) (mvT hZ (hwi hw 223 rfl)) (notFace_of_selects (args := #[]) (mvT hZ (hwi hw 225 rfl))) (mvT hZ (hwi hw 225 rfl)) (mvT hZ (hwi hw 224 rfl)) (by decide) (backOf (W := 0) (rmCAU l Z a0 hw [] a1 zc z0 k0 M fm 0 h0 n0 O S_COMPACT hcs E_a1 C_a1 V_a1 A_z0 (by omega) S_SIO ref_fm S_ad S_hi S_lo (by omega) (hr_a1 _ (by omega))) hZ (hwi hw 226 rfl) (hwi hw 6 rfl) (by decide) (by decide)) q2a q2c (g := (mkF m 12 #[.val (.ref a1), .val (.int (0 : Int32)), .val (.ref a3), .val (.ref a4)] [(.int (0 : Int32)), (.ref a1)])) rfl (by rw [hml]; rfl) (Steps.refl _) (argsL := [(.int (0 : Int32))]) (rest := []) (lenOf pd__I_C rfl) rfl (by show 2 * 0 + _ ≤ _; exact Nat.le_of_eq rfl) (hb hby (dq dz37 6 12 rfl)) (fun _ _ => ⟨rfl, e1q, (by decide : 0 + 0 ≤ _), (by decide : 0 + 0 ≤ _)⟩)) (fun _ _ _ q => q) N1 (fun T2 L2 X2 e2q N2 => ?_)
  show GoHL _ _ _ _ _ _ _ _ _ _  T2 (mkF m 15 #[.val (.ref a1), .val (.int (0 : Int32)), .val (.ref a3), .val (.ref a4)] [(.int (M.getD 0 0))])
  refine GoHL.st (fun _ => XS.iloadN X2.here hx rfl (hb hby (dq dz37 7 15 rfl)) rfl) ?_
  refine GoHL.st (fun _ => XS.aloadN X2.here hx rfl (hb hby (dq dz37 8 16 rfl)) rfl rfl) ?_
  refine GoHL.st (fun _ => XS.aloadN X2.here hx rfl (hb hby (dq dz37 9 17 rfl)) rfl rfl) ?_
  show GoHL _ _ _ _ _ _ _ _ _ _  T2 (mkF m 18 #[.val (.ref a1), .val (.int (0 : Int32)), .val (.ref a3), .val (.ref a4)] [(.ref a4), (.ref a3), (.int (0 : Int32)), (.int (M.getD 0 0))])
  obtain ⟨_, _, ⟨T3, L3, k3, n3⟩, -, X3, hSn3, hgn3, ⟨Lc3, hQ3, l3, y3, z3, CR3⟩, st3⟩ := callSS X2 hx (y := mY56) hown (mvT hZ (hwi hw 244 rfl)) (mvT hZ (hwi hw 245 rfl)) (mvT hZ (hwi hw 2 rfl)) (mvT hZ (hwi hw 246 rfl)) (by decide) (own_backSHX (sf := []) (Pv := fun _ => True) (W := 1) (rmX0 l Z a0 hw [] a3 a4 zc fm z1 k1 r1 z2 k2 r2 h0 n0 O hEL wS S_COMPACT hcs S_SIO ref_fm S_ad S_hi S_lo E_a3 C_a3 V_a3 A_z1 E_a4 C_a4 V_a4 A_z2 hb1 hb2 hr_a3 hr_a4) hZ (hwi hw 246 rfl) (hwi hw 2 rfl) (by decide) (by decide) hEL HH all0 (fun _ _ => trivial)) (g := (mkF m 18 #[.val (.ref a1), .val (.int (0 : Int32)), .val (.ref a3), .val (.ref a4)] [(.ref a4), (.ref a3), (.int (0 : Int32)), (.int (M.getD 0 0))])) rfl (by rw [hml]; rfl) (argsL := [(.int (0 : Int32)), (.ref a3), (.ref a4)]) (rest := [(.int (M.getD 0 0))]) (lenOf pd__ILjava_lang_String_Ljava_lang_String__C rfl) rfl (by show 2 * 0 + _ ≤ _; exact Nat.le_of_eq rfl) (hb hby (dq dz37 10 18 rfl)) (fun _ _ => ⟨rfl, e2q, (by decide : 0 + 2 ≤ _), (by decide : 0 + 44 ≤ _)⟩)
  dsimp only [Pt.U, Pt.locs, Pt.cells, Pt.slots] at X3 l3 y3 z3 st3 hQ3 hSn3 hgn3 CR3
  rw [l3, y3, z3] at X3
  have X3 : Stand p l e _ _ m _ below meth c T3 _ 2 44 := X3
  obtain ⟨rfl, N3q, E3q, sa3, sb3, kb3, Lt3, Es3, Cs3, Vs3, As3⟩ := hQ3
  have X3 : Stand p l e _ (s.setVm T3.vm) m _ below meth c T3 _ _ _ := X3
  have N3 := Fr.app N2 N3q
  refine GoHL.tr st3 ?_
  have hS3 := Jvm.RoadKit.foldS hS (by rw [e2q]; exact hk) hSn3 hgn3
  have hZ3 := State.Warmed39.trans (t := s.setVm s.vm) hZ hSn3.1
  have hk3 := Nat.le_refl T3.heap.size
  have hown3 := own_fc hSn3.1 hown
  have E3 := E3q
  have E_a1 := E_a1.ext E3
  have A_z0 := A_z0.ext E3
  have C_a1 := C_a1.ext E3
  have V_a1 := V_a1.ext E3
  have E_a3 := E_a3.ext E3
  have A_z1 := A_z1.ext E3
  have C_a3 := C_a3.ext E3
  have V_a3 := V_a3.ext E3
  have E_a4 := E_a4.ext E3
  have A_z2 := A_z2.ext E3
  have C_a4 := C_a4.ext E3
  have V_a4 := V_a4.ext E3
  have O := O.ext E3
  have KK := KK.ext E3
  have RR := RR.trans CR3
  have HH := CR3.1
  have hS := hS3
  have hk := hk3
  have hZ := hZ3
  have hown := hown3
  show GoHL _ _ _ _ _ _ _ _ _ _  T3 (mkF m 21 #[.val (.ref a1), .val (.int (0 : Int32)), .val (.ref a3), .val (.ref a4)] [(.int ((own_M r1 r2).getD 0 0)), (.int (M.getD 0 0))])
  rw [← eM]
  show GoHL _ _ _ _ _ _ _ _ _ _  T3 (mkF m 21 #[.val (.ref a1), .val (.int (0 : Int32)), .val (.ref a3), .val (.ref a4)] [(.int (M.getD 0 0)), (.int (M.getD 0 0))])
  refine GoHL.st (fun _ => XS.icmpNo X3.here hx rfl (hb hby (dq dz37 11 21 rfl)) rfl (teq (rfl : (M.getD 0 0) = (M.getD 0 0))).2) ?_
  show GoHL _ _ _ _ _ _ _ _ _ _  T3 (mkF m 24 #[.val (.ref a1), .val (.int (0 : Int32)), .val (.ref a3), .val (.ref a4)] [])
  refine GoHL.st (fun _ => XS.iconst X3.here hx rfl (hb hby (dq dz37 12 24 rfl))) ?_
  refine GoHL.st (fun _ => XS.goto X3.here hx rfl (pc0 := 25) (pc' := 29) rfl (hb hby (dq dz37 13 25 rfl)) (by decide) (by decide)) ?_
  show GoHL _ _ _ _ _ _ _ _ _ _  T3 (mkF m 29 #[.val (.ref a1), .val (.int (0 : Int32)), .val (.ref a3), .val (.ref a4)] [(.int (1 : Int32))])
  refine GoHL.retN X3 hS hk rfl hZ hEL HH RR hlk hx (t := .boolean) (z' := (1 : Int32)) Bd.returns (by simp) (hb hby (dq dz37 14 29 rfl)) (by decide) (by decide) rfl ?_
  show Q_rmO0 Z _ _ _ _ _ _ _ _ _ _ _ _ _ _ h0 n0 _ T3.vm T3.heap _
  exact ⟨rfl, N3, own_ext0 KK, sa3, sb3, kb3, Lt3, Es3, Cs3, Vs3, As3⟩
def Q_rmO1 (Z : State) (a1 : Addr) (a3 : Addr) (a4 : Addr) (i : Nat) (sa : Addr) (sb : Addr) (kb : ClassId) (zc : Int32) (fm : Value) (z0 : Addr) (k0 : ClassId) (M : List Int32) (z1 : Addr) (k1 : ClassId) (r1 : List Int32) (z2 : Addr) (k2 : ClassId) (r2 : List Int32) (h0 : Heap) (n0 : Nat) (v : Option Value) (w : Vm) (h : Heap) (L : List Loc) : Prop := v = some (.int 1) ∧ Fr n0 L ∧ Ext h0 h
theorem rmO1 (l : Launch) (Z : State) (a0 : Array Value) (hw : HWt a0 Z) (ws : List Jvm.Cond) (a1 : Addr) (a3 : Addr) (a4 : Addr) (i : Nat) (sa : Addr) (sb : Addr) (kb : ClassId) (zc : Int32) (fm : Value) (z0 : Addr) (k0 : ClassId) (M : List Int32) (z1 : Addr) (k1 : ClassId) (r1 : List Int32) (z2 : Addr) (k2 : ClassId) (r2 : List Int32) (h0 : Heap) (n0 : Nat) (O : Old Z n0 h0) (hEL : EW Z a0 EL) (wS : ∀ a ∈ Bundle.stringAtoms, a.before a0 Z = true) (S_COMPACT : Sta Z Z.heap "java/lang/String" "COMPACT_STRINGS" "Z" (.int zc)) (hcs : ¬ zc = 0) (S_SIO : Sta Z Z.heap "jdk/internal/util/Preconditions" "SIOOBE_FORMATTER" "Ljava/util/function/BiFunction;" fm) (ref_fm : fm.isRef = true) (S_ad : Sta Z Z.heap "java/lang/StringUTF16" "$assertionsDisabled" "Z" (.int 1)) (S_hi : Sta Z Z.heap "java/lang/StringUTF16" "HI_BYTE_SHIFT" "I" (.int 0)) (S_lo : Sta Z Z.heap "java/lang/StringUTF16" "LO_BYTE_SHIFT" "I" (.int 8)) (E_a1 : Exa Z h0 a1 "java/lang/String") (C_a1 : Fld Z h0 a1 "java/lang/String" "coder" "B" (.int (own_cd M))) (V_a1 : Fld Z h0 a1 "java/lang/String" "value" "[B" (.ref z0)) (A_z0 : Arv Z h0 z0 k0 .byte (Int32.ofNat (own_by M).length) ((own_by M).map Value.int) (.int 0)) (eM : M = own_M r1 r2) (hr_a1 : ∀ j, j < M.length → nar .char (M.getD j 0) = M.getD j 0) (E_a3 : Exa Z h0 a3 "java/lang/String") (C_a3 : Fld Z h0 a3 "java/lang/String" "coder" "B" (.int (own_cd r1))) (V_a3 : Fld Z h0 a3 "java/lang/String" "value" "[B" (.ref z1)) (A_z1 : Arv Z h0 z1 k1 .byte (Int32.ofNat (own_by r1).length) ((own_by r1).map Value.int) (.int 0)) (E_a4 : Exa Z h0 a4 "java/lang/String") (C_a4 : Fld Z h0 a4 "java/lang/String" "coder" "B" (.int (own_cd r2))) (V_a4 : Fld Z h0 a4 "java/lang/String" "value" "[B" (.ref z2)) (A_z2 : Arv Z h0 z2 k2 .byte (Int32.ofNat (own_by r2).length) ((own_by r2).map Value.int) (.int 0)) (hb1 : r1.length ≤ 2) (hb2 : r2.length ≤ 2) (hr_a3 : ∀ j, j < r1.length → nar .char (r1.getD j 0) = r1.getD j 0) (hr_a4 : ∀ j, j < r2.length → nar .char (r2.getD j 0) = r2.getD j 0) (E_sa : Exa Z h0 sa "java/lang/String") (C_sa : Fld Z h0 sa "java/lang/String" "coder" "B" (.int 0)) (V_sa : Fld Z h0 sa "java/lang/String" "value" "[B" (.ref sb)) (A_sb : Arv Z h0 sb kb .byte (Int32.ofNat own_L1.length) (own_L1.map Value.int) (.int 0)) (hi17 : i < 17) :
    MetFree l mY57 (head1 (Jvm.Cond.code mY57 method_4_code 4 (some .boolean) :: ws) rz6_2_16_90) (fun a U => a = #[(.ref a1), (.int (Int32.ofNat i)), (.ref a3), (.ref a4)] ∧ Z.Warmed39 U.vm ∧ U.heap = h0 ∧ CHv Z EL U.vm h0 ∧ (∀ x ∈ ([] : List Addr), Safe Z EL U.vm h0 x) ∧ Lit (Z.setVm U.vm) "com/example/keyset/keyset/query/DeclarationExceptionForResourcePinLaw" 12 sa) (fun _ _ _ _ _ => True) (fun _ U o U' => ∃ v L, o = .returned v ∧ Q_rmO1 Z a1 a3 a4 i sa sb kb zc fm z0 k0 M z1 k1 r1 z2 k2 r2 h0 n0 v U'.vm U'.heap L ∧ CHr Z EL U.vm U.heap U'.vm U'.heap ∧ ReturnedEndW U o U' L rz6_2_16_90.cells rz6_2_16_90.slots) := by
  refine MetFree.of_bodySF (plainFor_of_name pn_37) hisR ?_
  intro p e s m args below meth c s₁ Bd hml0 hP hK
  obtain ⟨rfl, hZ, hh, HH, hSF, hPv⟩ := hP
  have hx := Bd.exec
  have hby := Bd.bytes
  have hml : c.maxLocals = 4 := hml0
  have hown : s.vm.findClass "com/example/keyset/keyset/query/DeclarationExceptionForResourcePinLaw" = some m.cls := findClass_of_methodNamed Bd.named
  have hlk : meth.locks = false := BodyLoose.notSynchronized Bd
  have X0 : Stand p l e rz6_2_16_90 (s.setVm s.vm) m #[(.ref a1), (.int (Int32.ofNat i)), (.ref a3), (.ref a4)] below meth c s₁ [] 0 0 := Stand.of_body Bd
  have e0 : s₁.heap = h0 := by rw [← hh, Bd.state]; rfl
  have N0 := Fr.nil n0
  have KK : Keep h0 h0 [] := Keep.refl h0 _
  have hS : s.Since s.vm h0.size := own_since s _
  have hk : h0.size ≤ h0.size := Nat.le_refl _
  have RR : CHr Z EL s.vm h0 s.vm h0 := CHr.refl HH
  suffices hgo : GoHL p e below s rz6_2_16_90.cells rz6_2_16_90.slots Z h0 EL (Q_rmO1 Z a1 a3 a4 i sa sb kb zc fm z0 k0 M z1 k1 r1 z2 k2 r2 h0 n0) s₁ (entryFrame m #[(.ref a1), (.int (Int32.ofNat i)), (.ref a3), (.ref a4)] 4) by
    obtain ⟨s₂, o, q1, q2, q3, v, L, q4, q5, q6, q7⟩ := hgo; exact ⟨s₂, o, q1, q2, q3, v, L, q4, q5, hh ▸ q6, q7⟩
  refine GoHL.eq (ef_rmO1 m a1 (Int32.ofNat i) a3 a4) ?_
  have lM : M.length = 13 + r1.length + r2.length := by rw [eM]; exact own_Ml _ _
  show GoHL _ _ _ _ _ _ _ _ _ _  s₁ (mkF m 0 #[.val (.ref a1), .val (.int (Int32.ofNat i)), .val (.ref a3), .val (.ref a4)] [])
  refine GoHL.st (fun _ => XS.iloadN X0.here hx rfl (hb hby (dq dz37 0 0 rfl)) rfl) ?_
  refine GoHL.st (fun _ => XS.aloadN X0.here hx rfl (hb hby (dq dz37 1 1 rfl)) rfl rfl) ?_
  show GoHL _ _ _ _ _ _ _ _ _ _  s₁ (mkF m 2 #[.val (.ref a1), .val (.int (Int32.ofNat i)), .val (.ref a3), .val (.ref a4)] [(.ref a1), (.int (Int32.ofNat i))])
  obtain ⟨cq1, kq1, q1a, q1b, q1c⟩ := isOf hZ e0 E_a1
  refine GoHL.pure (w := (some (.int (Int32.ofNat M.length)))) (rest := [(.int (Int32.ofNat i))]) (pc' := 5) (X0.virtualBack hx (y := mY1) (z := mY1) hown (mvT hZ (hwi hw 218 rfl)) (mvT hZ (hwi hw 73 rfl)) (notFace_of_selects (args := #[]) (mvT hZ (hwi hw 75 rfl))) (mvT hZ (hwi hw 75 rfl)) (mvT hZ (hwi hw 74 rfl)) (by decide) (backOf (W := 1) (rmLenU l Z a0 hw [] a1 zc z0 k0 M h0 n0 O S_COMPACT hcs E_a1 C_a1 V_a1 A_z0 (by omega)) hZ (hwi hw 76 rfl) (hwi hw 6 rfl) (by decide) (by decide)) q1a q1c (g := (mkF m 2 #[.val (.ref a1), .val (.int (Int32.ofNat i)), .val (.ref a3), .val (.ref a4)] [(.ref a1), (.int (Int32.ofNat i))])) rfl (by rw [hml]; rfl) (Steps.refl _) (argsL := []) (rest := [(.int (Int32.ofNat i))]) (lenOf pd___I rfl) rfl (by show 2 * 0 + _ ≤ _; exact Nat.le_of_eq rfl) (hb hby (dq dz37 2 2 rfl)) (fun _ _ => ⟨rfl, e0, (by decide : 0 + 0 ≤ _), (by decide : 0 + 0 ≤ _)⟩)) (fun _ _ _ q => q) N0 (fun T1 L1 X1 e1q N1 => ?_)
  show GoHL _ _ _ _ _ _ _ _ _ _  T1 (mkF m 5 #[.val (.ref a1), .val (.int (Int32.ofNat i)), .val (.ref a3), .val (.ref a4)] [(.int (Int32.ofNat M.length)), (.int (Int32.ofNat i))])
  by_cases c5_2 : (Int32.ofNat i) < (Int32.ofNat M.length)
  · refine GoHL.st (fun _ => XS.icmpYes X1.here hx rfl (pc0 := 5) (pc' := 10) rfl (hb hby (dq dz37 3 5 rfl)) rfl (tlt c5_2).1 (by decide) (by decide)) ?_
    show GoHL _ _ _ _ _ _ _ _ _ _  T1 (mkF m 10 #[.val (.ref a1), .val (.int (Int32.ofNat i)), .val (.ref a3), .val (.ref a4)] [])
    refine GoHL.st (fun _ => XS.aloadN X1.here hx rfl (hb hby (dq dz37 4 10 rfl)) rfl rfl) ?_
    refine GoHL.st (fun _ => XS.iloadN X1.here hx rfl (hb hby (dq dz37 5 11 rfl)) rfl) ?_
    show GoHL _ _ _ _ _ _ _ _ _ _  T1 (mkF m 12 #[.val (.ref a1), .val (.int (Int32.ofNat i)), .val (.ref a3), .val (.ref a4)] [(.int (Int32.ofNat i)), (.ref a1)])
    obtain ⟨cq3, kq3, q3a, q3b, q3c⟩ := isOf hZ e1q E_a1
    refine GoHL.pure (w := (some (.int (M.getD i 0)))) (rest := []) (pc' := 15) (X1.virtualBack hx (y := mY29) (z := mY29) hown (mvT hZ (hwi hw 222 rfl)) (mvT hZ (hwi hw 223 rfl)) (notFace_of_selects (args := #[]) (mvT hZ (hwi hw 225 rfl))) (mvT hZ (hwi hw 225 rfl)) (mvT hZ (hwi hw 224 rfl)) (by decide) (backOf (W := 0) (rmCAU l Z a0 hw [] a1 zc z0 k0 M fm i h0 n0 O S_COMPACT hcs E_a1 C_a1 V_a1 A_z0 (by omega) S_SIO ref_fm S_ad S_hi S_lo ((own_olt (by omega) (by omega)).mp c5_2) (hr_a1 _ ((own_olt (by omega) (by omega)).mp c5_2))) hZ (hwi hw 226 rfl) (hwi hw 6 rfl) (by decide) (by decide)) q3a q3c (g := (mkF m 12 #[.val (.ref a1), .val (.int (Int32.ofNat i)), .val (.ref a3), .val (.ref a4)] [(.int (Int32.ofNat i)), (.ref a1)])) rfl (by rw [hml]; rfl) (Steps.refl _) (argsL := [(.int (Int32.ofNat i))]) (rest := []) (lenOf pd__I_C rfl) rfl (by show 2 * 0 + _ ≤ _; exact Nat.le_of_eq rfl) (hb hby (dq dz37 6 12 rfl)) (fun _ _ => ⟨rfl, e1q, (by decide : 0 + 0 ≤ _), (by decide : 0 + 0 ≤ _)⟩)) (fun _ _ _ q => q) N1 (fun T3 L3 X3 e3q N3 => ?_)
    show GoHL _ _ _ _ _ _ _ _ _ _  T3 (mkF m 15 #[.val (.ref a1), .val (.int (Int32.ofNat i)), .val (.ref a3), .val (.ref a4)] [(.int (M.getD i 0))])
    refine GoHL.st (fun _ => XS.iloadN X3.here hx rfl (hb hby (dq dz37 7 15 rfl)) rfl) ?_
    refine GoHL.st (fun _ => XS.aloadN X3.here hx rfl (hb hby (dq dz37 8 16 rfl)) rfl rfl) ?_
    refine GoHL.st (fun _ => XS.aloadN X3.here hx rfl (hb hby (dq dz37 9 17 rfl)) rfl rfl) ?_
    show GoHL _ _ _ _ _ _ _ _ _ _  T3 (mkF m 18 #[.val (.ref a1), .val (.int (Int32.ofNat i)), .val (.ref a3), .val (.ref a4)] [(.ref a4), (.ref a3), (.int (Int32.ofNat i)), (.int (M.getD i 0))])
    obtain ⟨_, _, ⟨T4, L4, k4, n4⟩, -, X4, hSn4, hgn4, ⟨Lc4, hQ4, l4, y4, z4, CR4⟩, st4⟩ := callSS X3 hx (y := mY56) hown (mvT hZ (hwi hw 244 rfl)) (mvT hZ (hwi hw 245 rfl)) (mvT hZ (hwi hw 2 rfl)) (mvT hZ (hwi hw 246 rfl)) (by decide) (own_backSHX (sf := []) (Pv := fun vm => Lit (Z.setVm vm) "com/example/keyset/keyset/query/DeclarationExceptionForResourcePinLaw" 12 sa) (W := 1) (rmX1 l Z a0 hw [] a3 a4 i sa sb kb zc fm z1 k1 r1 z2 k2 r2 h0 n0 O hEL wS S_COMPACT hcs S_SIO ref_fm S_ad S_hi S_lo E_a3 C_a3 V_a3 A_z1 E_a4 C_a4 V_a4 A_z2 hb1 hb2 hr_a3 hr_a4 E_sa C_sa V_sa A_sb (by have := ((own_olt (by omega) (by omega)).mp c5_2); omega)) hZ (hwi hw 246 rfl) (hwi hw 2 rfl) (by decide) (by decide) hEL HH all0 (fun _ W => (Lit.stays (s := s) (show Lit (s.setVm s.vm) "com/example/keyset/keyset/query/DeclarationExceptionForResourcePinLaw" 12 sa from hPv) W :))) (g := (mkF m 18 #[.val (.ref a1), .val (.int (Int32.ofNat i)), .val (.ref a3), .val (.ref a4)] [(.ref a4), (.ref a3), (.int (Int32.ofNat i)), (.int (M.getD i 0))])) rfl (by rw [hml]; rfl) (argsL := [(.int (Int32.ofNat i)), (.ref a3), (.ref a4)]) (rest := [(.int (M.getD i 0))]) (lenOf pd__ILjava_lang_String_Ljava_lang_String__C rfl) rfl (by show 2 * 0 + _ ≤ _; exact Nat.le_of_eq rfl) (hb hby (dq dz37 10 18 rfl)) (fun _ _ => ⟨rfl, e3q, (by decide : 0 + 2 ≤ _), (by decide : 0 + 16 ≤ _)⟩)
    dsimp only [Pt.U, Pt.locs, Pt.cells, Pt.slots] at X4 l4 y4 z4 st4 hQ4 hSn4 hgn4 CR4
    rw [l4, y4, z4] at X4
    have X4 : Stand p l e _ _ m _ below meth c T4 _ 2 16 := X4
    obtain ⟨rfl, N4q, E4q⟩ := hQ4
    have X4 : Stand p l e _ (s.setVm T4.vm) m _ below meth c T4 _ _ _ := X4
    have N4 := Fr.app N3 N4q
    refine GoHL.tr st4 ?_
    have hS4 := Jvm.RoadKit.foldS hS (by rw [e3q]; exact hk) hSn4 hgn4
    have hZ4 := State.Warmed39.trans (t := s.setVm s.vm) hZ hSn4.1
    have hk4 := Nat.le_refl T4.heap.size
    have hown4 := own_fc hSn4.1 hown
    have E4 := E4q
    have E_a1 := E_a1.ext E4
    have A_z0 := A_z0.ext E4
    have C_a1 := C_a1.ext E4
    have V_a1 := V_a1.ext E4
    have E_a3 := E_a3.ext E4
    have A_z1 := A_z1.ext E4
    have C_a3 := C_a3.ext E4
    have V_a3 := V_a3.ext E4
    have E_a4 := E_a4.ext E4
    have A_z2 := A_z2.ext E4
    have C_a4 := C_a4.ext E4
    have V_a4 := V_a4.ext E4
    have E_sa := E_sa.ext E4
    have A_sb := A_sb.ext E4
    have C_sa := C_sa.ext E4
    have V_sa := V_sa.ext E4
    have O := O.ext E4
    have KK := KK.ext E4
    have RR := RR.trans CR4
    have HH := CR4.1
    have hS := hS4
    have hk := hk4
    have hZ := hZ4
    have hown := hown4
    show GoHL _ _ _ _ _ _ _ _ _ _  T4 (mkF m 21 #[.val (.ref a1), .val (.int (Int32.ofNat i)), .val (.ref a3), .val (.ref a4)] [(.int ((own_M r1 r2).getD i 0)), (.int (M.getD i 0))])
    rw [← eM]
    show GoHL _ _ _ _ _ _ _ _ _ _  T4 (mkF m 21 #[.val (.ref a1), .val (.int (Int32.ofNat i)), .val (.ref a3), .val (.ref a4)] [(.int (M.getD i 0)), (.int (M.getD i 0))])
    refine GoHL.st (fun _ => XS.icmpNo X4.here hx rfl (hb hby (dq dz37 11 21 rfl)) rfl (teq (rfl : (M.getD i 0) = (M.getD i 0))).2) ?_
    show GoHL _ _ _ _ _ _ _ _ _ _  T4 (mkF m 24 #[.val (.ref a1), .val (.int (Int32.ofNat i)), .val (.ref a3), .val (.ref a4)] [])
    refine GoHL.st (fun _ => XS.iconst X4.here hx rfl (hb hby (dq dz37 12 24 rfl))) ?_
    refine GoHL.st (fun _ => XS.goto X4.here hx rfl (pc0 := 25) (pc' := 29) rfl (hb hby (dq dz37 13 25 rfl)) (by decide) (by decide)) ?_
    show GoHL _ _ _ _ _ _ _ _ _ _  T4 (mkF m 29 #[.val (.ref a1), .val (.int (Int32.ofNat i)), .val (.ref a3), .val (.ref a4)] [(.int (1 : Int32))])
    refine GoHL.retN X4 hS hk rfl hZ hEL HH RR hlk hx (t := .boolean) (z' := (1 : Int32)) Bd.returns (by simp) (hb hby (dq dz37 14 29 rfl)) (by decide) (by decide) rfl ?_
    show Q_rmO1 Z _ _ _ _ _ _ _ _ _ _ _ _ _ _ _ _ _ _ h0 n0 _ T4.vm T4.heap _
    exact ⟨rfl, N4, own_ext0 KK⟩
  · refine GoHL.st (fun _ => XS.icmpNo X1.here hx rfl (hb hby (dq dz37 3 5 rfl)) rfl (flt c5_2).1) ?_
    show GoHL _ _ _ _ _ _ _ _ _ _  T1 (mkF m 8 #[.val (.ref a1), .val (.int (Int32.ofNat i)), .val (.ref a3), .val (.ref a4)] [])
    refine GoHL.st (fun _ => XS.iconst X1.here hx rfl (hb hby (dq dz37 15 8 rfl))) ?_
    show GoHL _ _ _ _ _ _ _ _ _ _  T1 (mkF m 9 #[.val (.ref a1), .val (.int (Int32.ofNat i)), .val (.ref a3), .val (.ref a4)] [(.int (1 : Int32))])
    refine GoHL.retN X1 hS hk e1q hZ hEL HH RR hlk hx (t := .boolean) (z' := (1 : Int32)) Bd.returns (by simp) (hb hby (dq dz37 16 9 rfl)) (by decide) (by decide) rfl ?_
    show Q_rmO1 Z _ _ _ _ _ _ _ _ _ _ _ _ _ _ _ _ _ _ h0 n0 _ T1.vm T1.heap _
    rw [e1q]
    exact ⟨rfl, N1, own_ext0 KK⟩
def Q_rmO1a (Z : State) (a1 : Addr) (a3 : Addr) (a4 : Addr) (i : Nat) (sa : Addr) (sb : Addr) (kb : ClassId) (zc : Int32) (fm : Value) (z0 : Addr) (k0 : ClassId) (M : List Int32) (z1 : Addr) (k1 : ClassId) (r1 : List Int32) (z2 : Addr) (k2 : ClassId) (r2 : List Int32) (h0 : Heap) (n0 : Nat) (v : Option Value) (w : Vm) (h : Heap) (L : List Loc) : Prop := v = some (.int 1) ∧ Fr n0 L ∧ Ext h0 h
theorem rmO1a (l : Launch) (Z : State) (a0 : Array Value) (hw : HWt a0 Z) (ws : List Jvm.Cond) (a1 : Addr) (a3 : Addr) (a4 : Addr) (i : Nat) (sa : Addr) (sb : Addr) (kb : ClassId) (zc : Int32) (fm : Value) (z0 : Addr) (k0 : ClassId) (M : List Int32) (z1 : Addr) (k1 : ClassId) (r1 : List Int32) (z2 : Addr) (k2 : ClassId) (r2 : List Int32) (h0 : Heap) (n0 : Nat) (O : Old Z n0 h0) (hEL : EW Z a0 EL) (wS : ∀ a ∈ Bundle.stringAtoms, a.before a0 Z = true) (S_COMPACT : Sta Z Z.heap "java/lang/String" "COMPACT_STRINGS" "Z" (.int zc)) (hcs : ¬ zc = 0) (S_SIO : Sta Z Z.heap "jdk/internal/util/Preconditions" "SIOOBE_FORMATTER" "Ljava/util/function/BiFunction;" fm) (ref_fm : fm.isRef = true) (S_ad : Sta Z Z.heap "java/lang/StringUTF16" "$assertionsDisabled" "Z" (.int 1)) (S_hi : Sta Z Z.heap "java/lang/StringUTF16" "HI_BYTE_SHIFT" "I" (.int 0)) (S_lo : Sta Z Z.heap "java/lang/StringUTF16" "LO_BYTE_SHIFT" "I" (.int 8)) (E_a1 : Exa Z h0 a1 "java/lang/String") (C_a1 : Fld Z h0 a1 "java/lang/String" "coder" "B" (.int (own_cd M))) (V_a1 : Fld Z h0 a1 "java/lang/String" "value" "[B" (.ref z0)) (A_z0 : Arv Z h0 z0 k0 .byte (Int32.ofNat (own_by M).length) ((own_by M).map Value.int) (.int 0)) (eM : M = own_M r1 r2) (hr_a1 : ∀ j, j < M.length → nar .char (M.getD j 0) = M.getD j 0) (E_a3 : Exa Z h0 a3 "java/lang/String") (C_a3 : Fld Z h0 a3 "java/lang/String" "coder" "B" (.int (own_cd r1))) (V_a3 : Fld Z h0 a3 "java/lang/String" "value" "[B" (.ref z1)) (A_z1 : Arv Z h0 z1 k1 .byte (Int32.ofNat (own_by r1).length) ((own_by r1).map Value.int) (.int 0)) (E_a4 : Exa Z h0 a4 "java/lang/String") (C_a4 : Fld Z h0 a4 "java/lang/String" "coder" "B" (.int (own_cd r2))) (V_a4 : Fld Z h0 a4 "java/lang/String" "value" "[B" (.ref z2)) (A_z2 : Arv Z h0 z2 k2 .byte (Int32.ofNat (own_by r2).length) ((own_by r2).map Value.int) (.int 0)) (hb1 : r1.length ≤ 2) (hb2 : r2.length ≤ 2) (hr_a3 : ∀ j, j < r1.length → nar .char (r1.getD j 0) = r1.getD j 0) (hr_a4 : ∀ j, j < r2.length → nar .char (r2.getD j 0) = r2.getD j 0) (E_sa : Exa Z h0 sa "java/lang/String") (C_sa : Fld Z h0 sa "java/lang/String" "coder" "B" (.int 0)) (V_sa : Fld Z h0 sa "java/lang/String" "value" "[B" (.ref sb)) (A_sb : Arv Z h0 sb kb .byte (Int32.ofNat own_L1.length) (own_L1.map Value.int) (.int 0)) (hi17 : i < 10) :
    MetFree l mY57 (head1 (Jvm.Cond.code mY57 method_4_code 4 (some .boolean) :: ws) rz6_0_0_90) (fun a U => a = #[(.ref a1), (.int (Int32.ofNat i)), (.ref a3), (.ref a4)] ∧ Z.Warmed39 U.vm ∧ U.heap = h0 ∧ CHv Z EL U.vm h0 ∧ (∀ x ∈ ([] : List Addr), Safe Z EL U.vm h0 x) ∧ Lit (Z.setVm U.vm) "com/example/keyset/keyset/query/DeclarationExceptionForResourcePinLaw" 12 sa) (fun _ _ _ _ _ => True) (fun _ U o U' => ∃ v L, o = .returned v ∧ Q_rmO1a Z a1 a3 a4 i sa sb kb zc fm z0 k0 M z1 k1 r1 z2 k2 r2 h0 n0 v U'.vm U'.heap L ∧ CHr Z EL U.vm U.heap U'.vm U'.heap ∧ ReturnedEndW U o U' L rz6_0_0_90.cells rz6_0_0_90.slots) := by
  refine MetFree.of_bodySF (plainFor_of_name pn_37) hisR ?_
  intro p e s m args below meth c s₁ Bd hml0 hP hK
  obtain ⟨rfl, hZ, hh, HH, hSF, hPv⟩ := hP
  have hx := Bd.exec
  have hby := Bd.bytes
  have hml : c.maxLocals = 4 := hml0
  have hown : s.vm.findClass "com/example/keyset/keyset/query/DeclarationExceptionForResourcePinLaw" = some m.cls := findClass_of_methodNamed Bd.named
  have hlk : meth.locks = false := BodyLoose.notSynchronized Bd
  have X0 : Stand p l e rz6_0_0_90 (s.setVm s.vm) m #[(.ref a1), (.int (Int32.ofNat i)), (.ref a3), (.ref a4)] below meth c s₁ [] 0 0 := Stand.of_body Bd
  have e0 : s₁.heap = h0 := by rw [← hh, Bd.state]; rfl
  have N0 := Fr.nil n0
  have KK : Keep h0 h0 [] := Keep.refl h0 _
  have hS : s.Since s.vm h0.size := own_since s _
  have hk : h0.size ≤ h0.size := Nat.le_refl _
  have RR : CHr Z EL s.vm h0 s.vm h0 := CHr.refl HH
  suffices hgo : GoHL p e below s rz6_0_0_90.cells rz6_0_0_90.slots Z h0 EL (Q_rmO1a Z a1 a3 a4 i sa sb kb zc fm z0 k0 M z1 k1 r1 z2 k2 r2 h0 n0) s₁ (entryFrame m #[(.ref a1), (.int (Int32.ofNat i)), (.ref a3), (.ref a4)] 4) by
    obtain ⟨s₂, o, q1, q2, q3, v, L, q4, q5, q6, q7⟩ := hgo; exact ⟨s₂, o, q1, q2, q3, v, L, q4, q5, hh ▸ q6, q7⟩
  refine GoHL.eq (ef_rmO1a m a1 (Int32.ofNat i) a3 a4) ?_
  have lM : M.length = 13 + r1.length + r2.length := by rw [eM]; exact own_Ml _ _
  show GoHL _ _ _ _ _ _ _ _ _ _  s₁ (mkF m 0 #[.val (.ref a1), .val (.int (Int32.ofNat i)), .val (.ref a3), .val (.ref a4)] [])
  refine GoHL.st (fun _ => XS.iloadN X0.here hx rfl (hb hby (dq dz37 0 0 rfl)) rfl) ?_
  refine GoHL.st (fun _ => XS.aloadN X0.here hx rfl (hb hby (dq dz37 1 1 rfl)) rfl rfl) ?_
  show GoHL _ _ _ _ _ _ _ _ _ _  s₁ (mkF m 2 #[.val (.ref a1), .val (.int (Int32.ofNat i)), .val (.ref a3), .val (.ref a4)] [(.ref a1), (.int (Int32.ofNat i))])
  obtain ⟨cq1, kq1, q1a, q1b, q1c⟩ := isOf hZ e0 E_a1
  refine GoHL.pure (w := (some (.int (Int32.ofNat M.length)))) (rest := [(.int (Int32.ofNat i))]) (pc' := 5) (X0.virtualBack hx (y := mY1) (z := mY1) hown (mvT hZ (hwi hw 218 rfl)) (mvT hZ (hwi hw 73 rfl)) (notFace_of_selects (args := #[]) (mvT hZ (hwi hw 75 rfl))) (mvT hZ (hwi hw 75 rfl)) (mvT hZ (hwi hw 74 rfl)) (by decide) (backOf (W := 1) (rmLenU l Z a0 hw [] a1 zc z0 k0 M h0 n0 O S_COMPACT hcs E_a1 C_a1 V_a1 A_z0 (by omega)) hZ (hwi hw 76 rfl) (hwi hw 6 rfl) (by decide) (by decide)) q1a q1c (g := (mkF m 2 #[.val (.ref a1), .val (.int (Int32.ofNat i)), .val (.ref a3), .val (.ref a4)] [(.ref a1), (.int (Int32.ofNat i))])) rfl (by rw [hml]; rfl) (Steps.refl _) (argsL := []) (rest := [(.int (Int32.ofNat i))]) (lenOf pd___I rfl) rfl (by show 2 * 0 + _ ≤ _; exact Nat.le_of_eq rfl) (hb hby (dq dz37 2 2 rfl)) (fun _ _ => ⟨rfl, e0, (by decide : 0 + 0 ≤ _), (by decide : 0 + 0 ≤ _)⟩)) (fun _ _ _ q => q) N0 (fun T1 L1 X1 e1q N1 => ?_)
  show GoHL _ _ _ _ _ _ _ _ _ _  T1 (mkF m 5 #[.val (.ref a1), .val (.int (Int32.ofNat i)), .val (.ref a3), .val (.ref a4)] [(.int (Int32.ofNat M.length)), (.int (Int32.ofNat i))])
  refine GoHL.st (fun _ => XS.icmpYes X1.here hx rfl (pc0 := 5) (pc' := 10) rfl (hb hby (dq dz37 3 5 rfl)) rfl (tlt ((own_olt (by omega) (by omega)).mpr (by omega) : (Int32.ofNat i) < (Int32.ofNat M.length))).1 (by decide) (by decide)) ?_
  show GoHL _ _ _ _ _ _ _ _ _ _  T1 (mkF m 10 #[.val (.ref a1), .val (.int (Int32.ofNat i)), .val (.ref a3), .val (.ref a4)] [])
  refine GoHL.st (fun _ => XS.aloadN X1.here hx rfl (hb hby (dq dz37 4 10 rfl)) rfl rfl) ?_
  refine GoHL.st (fun _ => XS.iloadN X1.here hx rfl (hb hby (dq dz37 5 11 rfl)) rfl) ?_
  show GoHL _ _ _ _ _ _ _ _ _ _  T1 (mkF m 12 #[.val (.ref a1), .val (.int (Int32.ofNat i)), .val (.ref a3), .val (.ref a4)] [(.int (Int32.ofNat i)), (.ref a1)])
  obtain ⟨cq2, kq2, q2a, q2b, q2c⟩ := isOf hZ e1q E_a1
  refine GoHL.pure (w := (some (.int (M.getD i 0)))) (rest := []) (pc' := 15) (X1.virtualBack hx (y := mY29) (z := mY29) hown (mvT hZ (hwi hw 222 rfl)) (mvT hZ (hwi hw 223 rfl)) (notFace_of_selects (args := #[]) (mvT hZ (hwi hw 225 rfl))) (mvT hZ (hwi hw 225 rfl)) (mvT hZ (hwi hw 224 rfl)) (by decide) (backOf (W := 0) (rmCAU l Z a0 hw [] a1 zc z0 k0 M fm i h0 n0 O S_COMPACT hcs E_a1 C_a1 V_a1 A_z0 (by omega) S_SIO ref_fm S_ad S_hi S_lo (by omega) (hr_a1 _ (by omega))) hZ (hwi hw 226 rfl) (hwi hw 6 rfl) (by decide) (by decide)) q2a q2c (g := (mkF m 12 #[.val (.ref a1), .val (.int (Int32.ofNat i)), .val (.ref a3), .val (.ref a4)] [(.int (Int32.ofNat i)), (.ref a1)])) rfl (by rw [hml]; rfl) (Steps.refl _) (argsL := [(.int (Int32.ofNat i))]) (rest := []) (lenOf pd__I_C rfl) rfl (by show 2 * 0 + _ ≤ _; exact Nat.le_of_eq rfl) (hb hby (dq dz37 6 12 rfl)) (fun _ _ => ⟨rfl, e1q, (by decide : 0 + 0 ≤ _), (by decide : 0 + 0 ≤ _)⟩)) (fun _ _ _ q => q) N1 (fun T2 L2 X2 e2q N2 => ?_)
  show GoHL _ _ _ _ _ _ _ _ _ _  T2 (mkF m 15 #[.val (.ref a1), .val (.int (Int32.ofNat i)), .val (.ref a3), .val (.ref a4)] [(.int (M.getD i 0))])
  refine GoHL.st (fun _ => XS.iloadN X2.here hx rfl (hb hby (dq dz37 7 15 rfl)) rfl) ?_
  refine GoHL.st (fun _ => XS.aloadN X2.here hx rfl (hb hby (dq dz37 8 16 rfl)) rfl rfl) ?_
  refine GoHL.st (fun _ => XS.aloadN X2.here hx rfl (hb hby (dq dz37 9 17 rfl)) rfl rfl) ?_
  show GoHL _ _ _ _ _ _ _ _ _ _  T2 (mkF m 18 #[.val (.ref a1), .val (.int (Int32.ofNat i)), .val (.ref a3), .val (.ref a4)] [(.ref a4), (.ref a3), (.int (Int32.ofNat i)), (.int (M.getD i 0))])
  obtain ⟨_, _, ⟨T3, L3, k3, n3⟩, -, X3, hSn3, hgn3, ⟨Lc3, hQ3, l3, y3, z3, CR3⟩, st3⟩ := callSS X2 hx (y := mY56) hown (mvT hZ (hwi hw 244 rfl)) (mvT hZ (hwi hw 245 rfl)) (mvT hZ (hwi hw 2 rfl)) (mvT hZ (hwi hw 246 rfl)) (by decide) (own_backSHX (sf := []) (Pv := fun vm => Lit (Z.setVm vm) "com/example/keyset/keyset/query/DeclarationExceptionForResourcePinLaw" 12 sa) (W := 1) (rmX1a l Z a0 hw [] a3 a4 i sa sb kb zc fm z1 k1 r1 z2 k2 r2 h0 n0 O hEL wS S_COMPACT hcs S_SIO ref_fm S_ad S_hi S_lo E_a3 C_a3 V_a3 A_z1 E_a4 C_a4 V_a4 A_z2 hb1 hb2 hr_a3 hr_a4 E_sa C_sa V_sa A_sb (by omega) hi17) hZ (hwi hw 246 rfl) (hwi hw 2 rfl) (by decide) (by decide) hEL HH all0 (fun _ W => (Lit.stays (s := s) (show Lit (s.setVm s.vm) "com/example/keyset/keyset/query/DeclarationExceptionForResourcePinLaw" 12 sa from hPv) W :))) (g := (mkF m 18 #[.val (.ref a1), .val (.int (Int32.ofNat i)), .val (.ref a3), .val (.ref a4)] [(.ref a4), (.ref a3), (.int (Int32.ofNat i)), (.int (M.getD i 0))])) rfl (by rw [hml]; rfl) (argsL := [(.int (Int32.ofNat i)), (.ref a3), (.ref a4)]) (rest := [(.int (M.getD i 0))]) (lenOf pd__ILjava_lang_String_Ljava_lang_String__C rfl) rfl (by show 2 * 0 + _ ≤ _; exact Nat.le_of_eq rfl) (hb hby (dq dz37 10 18 rfl)) (fun _ _ => ⟨rfl, e2q, (by decide : 0 + 0 ≤ _), (by decide : 0 + 0 ≤ _)⟩)
  dsimp only [Pt.U, Pt.locs, Pt.cells, Pt.slots] at X3 l3 y3 z3 st3 hQ3 hSn3 hgn3 CR3
  rw [l3, y3, z3] at X3
  have X3 : Stand p l e _ _ m _ below meth c T3 _ 0 0 := X3
  obtain ⟨rfl, N3q, E3q⟩ := hQ3
  have X3 : Stand p l e _ (s.setVm T3.vm) m _ below meth c T3 _ _ _ := X3
  have N3 := Fr.app N2 N3q
  refine GoHL.tr st3 ?_
  have hS3 := Jvm.RoadKit.foldS hS (by rw [e2q]; exact hk) hSn3 hgn3
  have hZ3 := State.Warmed39.trans (t := s.setVm s.vm) hZ hSn3.1
  have hk3 := Nat.le_refl T3.heap.size
  have hown3 := own_fc hSn3.1 hown
  have E3 := E3q
  have E_a1 := E_a1.ext E3
  have A_z0 := A_z0.ext E3
  have C_a1 := C_a1.ext E3
  have V_a1 := V_a1.ext E3
  have E_a3 := E_a3.ext E3
  have A_z1 := A_z1.ext E3
  have C_a3 := C_a3.ext E3
  have V_a3 := V_a3.ext E3
  have E_a4 := E_a4.ext E3
  have A_z2 := A_z2.ext E3
  have C_a4 := C_a4.ext E3
  have V_a4 := V_a4.ext E3
  have E_sa := E_sa.ext E3
  have A_sb := A_sb.ext E3
  have C_sa := C_sa.ext E3
  have V_sa := V_sa.ext E3
  have O := O.ext E3
  have KK := KK.ext E3
  have RR := RR.trans CR3
  have HH := CR3.1
  have hS := hS3
  have hk := hk3
  have hZ := hZ3
  have hown := hown3
  show GoHL _ _ _ _ _ _ _ _ _ _  T3 (mkF m 21 #[.val (.ref a1), .val (.int (Int32.ofNat i)), .val (.ref a3), .val (.ref a4)] [(.int ((own_M r1 r2).getD i 0)), (.int (M.getD i 0))])
  rw [← eM]
  show GoHL _ _ _ _ _ _ _ _ _ _  T3 (mkF m 21 #[.val (.ref a1), .val (.int (Int32.ofNat i)), .val (.ref a3), .val (.ref a4)] [(.int (M.getD i 0)), (.int (M.getD i 0))])
  refine GoHL.st (fun _ => XS.icmpNo X3.here hx rfl (hb hby (dq dz37 11 21 rfl)) rfl (teq (rfl : (M.getD i 0) = (M.getD i 0))).2) ?_
  show GoHL _ _ _ _ _ _ _ _ _ _  T3 (mkF m 24 #[.val (.ref a1), .val (.int (Int32.ofNat i)), .val (.ref a3), .val (.ref a4)] [])
  refine GoHL.st (fun _ => XS.iconst X3.here hx rfl (hb hby (dq dz37 12 24 rfl))) ?_
  refine GoHL.st (fun _ => XS.goto X3.here hx rfl (pc0 := 25) (pc' := 29) rfl (hb hby (dq dz37 13 25 rfl)) (by decide) (by decide)) ?_
  show GoHL _ _ _ _ _ _ _ _ _ _  T3 (mkF m 29 #[.val (.ref a1), .val (.int (Int32.ofNat i)), .val (.ref a3), .val (.ref a4)] [(.int (1 : Int32))])
  refine GoHL.retN X3 hS hk rfl hZ hEL HH RR hlk hx (t := .boolean) (z' := (1 : Int32)) Bd.returns (by simp) (hb hby (dq dz37 14 29 rfl)) (by decide) (by decide) rfl ?_
  show Q_rmO1a Z _ _ _ _ _ _ _ _ _ _ _ _ _ _ _ _ _ _ h0 n0 _ T3.vm T3.heap _
  exact ⟨rfl, N3, own_ext0 KK⟩
theorem own_modm (a m n : Int32) (k : Nat) (e1 : (a &&& m).toInt = a.toInt % 2 ^ k) (hn : 0 < n.toInt) : 0 ≤ ((a &&& m) % n).toInt ∧ ((a &&& m) % n).toInt < n.toInt := by
  rw [Int32.toInt_mod, e1]
  have p0 : 0 ≤ a.toInt % 2 ^ k := Int.emod_nonneg _ (by have := Int.pow_pos (n := 2) (m := k) (by decide); omega)
  rw [Int.tmod_eq_emod_of_nonneg p0]
  exact ⟨Int.emod_nonneg _ (by omega), Int.emod_lt_of_pos _ hn⟩

theorem own_mod3_3 (a : Int32) : (a &&& 3) % 3 = 0 ∨ (a &&& 3) % 3 = 1 ∨ (a &&& 3) % 3 = 2 := by
  have h := own_modm a 3 3 2 (Jvm.Kit.i32_mask a 3 (k := 2) (by decide) (by decide)) (by decide)
  have e : (3 : Int32).toInt = 3 := rfl
  rw [e] at h
  have : ((a &&& 3) % 3).toInt = 0 ∨ ((a &&& 3) % 3).toInt = 1 ∨ ((a &&& 3) % 3).toInt = 2 := by omega
  rcases this with h | h | h <;> simp [← Int32.toInt_inj, h]

theorem own_eqi {args : Array Value} {Z : State} {t : Term} {k : Int32} (h : (Cond.eq t (Term.int k)).value args Z none Z [] = some true) : t.eval args Z none [] Z = some (.int k) := by
  cases ht : t.eval args Z none [] Z with
  | none => simp [Cond.value, Term.eval, ht] at h
  | some v => cases v <;> simp [Cond.value, Term.eval, ht] at h <;> (try rw [h])

def Q_rm0 (Z : State) (p1 : Int32) (p2 : Int32) (p3 : Int32) (zc : Int32) (fm : Value) (h0 : Heap) (n0 : Nat) (v : Option Value) (h : Heap) (L : List Loc) : Prop := v = some (.int (1 : Int32)) ∧ Fr n0 L
theorem rm0 (l : Launch) (Z : State) (a0 : Array Value) (hw : HWt a0 Z) (ws : List Jvm.Cond) (p1 : Int32) (p2 : Int32) (p3 : Int32) (zc : Int32) (fm : Value) (h0 : Heap) (n0 : Nat) (O : Old Z n0 h0) (hEL : EW Z a0 EL) (wS : ∀ a ∈ Bundle.stringAtoms, a.before a0 Z = true) (S_COMPACT : Sta Z Z.heap "java/lang/String" "COMPACT_STRINGS" "Z" (.int zc)) (hcs : ¬ zc = 0) (S_SIO : Sta Z Z.heap "jdk/internal/util/Preconditions" "SIOOBE_FORMATTER" "Ljava/util/function/BiFunction;" fm) (ref_fm : fm.isRef = true) (S_ad : Sta Z Z.heap "java/lang/StringUTF16" "$assertionsDisabled" "Z" (.int 1)) (S_hi : Sta Z Z.heap "java/lang/StringUTF16" "HI_BYTE_SHIFT" "I" (.int 0)) (S_lo : Sta Z Z.heap "java/lang/StringUTF16" "LO_BYTE_SHIFT" "I" (.int 8)) (hl : l.stackTraces = true) (hr : ∀ d ∈ twoRefs, d.before a0 Z = true) :
    MetFree l x (head1 (Jvm.Cond.code x code maxLocals ret :: ws) room_1) (fun a U => a = #[(.int p1), (.int p2), (.int p3)] ∧ Z.Warmed39 U.vm ∧ U.heap = h0 ∧ CHv Z EL U.vm h0 ∧ ∀ x ∈ ([] : List Addr), Safe Z EL U.vm h0 x) (fun _ _ bl s _ => s.vm.MethodsKnown ∧ s.vm.FramesKnown bl) (fun _ U o U' => ∃ v L, o = .returned v ∧ Q_rm0 Z p1 p2 p3 zc fm h0 n0 v U'.heap L ∧ CHr Z EL U.vm U.heap U'.vm U'.heap ∧ ReturnedEndW U o U' L room_1.cells room_1.slots) := by
  refine MetFree.of_bodySF (plainFor_of_name pn_0) hisR ?_
  intro p e s m args below meth c s₁ Bd hml0 hP hK
  obtain ⟨rfl, hZ, hh, HH, hSF⟩ := hP
  have hx := Bd.exec
  have hby := Bd.bytes
  have hml : c.maxLocals = 9 := hml0
  have hown : s.vm.findClass "com/example/keyset/keyset/query/DeclarationExceptionForResourcePinLaw" = some m.cls := findClass_of_methodNamed Bd.named
  have hlk : meth.locks = false := BodyLoose.notSynchronized Bd
  have X0 : Stand p l e room_1 (s.setVm s.vm) m #[(.int p1), (.int p2), (.int p3)] below meth c s₁ [] 0 0 := Stand.of_body Bd
  have e0 : s₁.heap = h0 := by rw [← hh, Bd.state]; rfl
  have N0 := Fr.nil n0
  have KK : Keep h0 h0 [] := Keep.refl h0 _
  have hS : s.Since s.vm h0.size := own_since s _
  have hk : h0.size ≤ h0.size := Nat.le_refl _
  have RR : CHr Z EL s.vm h0 s.vm h0 := CHr.refl HH
  suffices hgo : GoH p e below s room_1.cells room_1.slots Z h0 EL (Q_rm0 Z p1 p2 p3 zc fm h0 n0) s₁ (entryFrame m #[(.int p1), (.int p2), (.int p3)] maxLocals) by
    obtain ⟨s₂, o, q1, q2, q3, v, L, q4, q5, q6, q7⟩ := hgo; exact ⟨s₂, o, q1, q2, q3, v, L, q4, q5, hh ▸ q6, q7⟩
  refine GoH.eq (ef_rm0 m p1 p2 p3) ?_
  show GoH _ _ _ _ _ _ _ _ _ _  s₁ (mkF m 0 #[.val (.int p1), .val (.int p2), .val (.int p3), .unset, .unset, .unset, .unset, .unset, .unset] [])
  refine GoH.st (fun _ => XS.iloadN X0.here hx rfl (hb hby at_0) rfl) ?_
  refine GoH.st (fun _ => XS.iconst X0.here hx rfl (hb hby at_1)) ?_
  refine GoH.st (fun _ => XS.iand X0.here hx rfl (hb hby at_2) rfl) ?_
  refine GoH.st (fun _ => XS.iconst X0.here hx rfl (hb hby at_3)) ?_
  show GoH _ _ _ _ _ _ _ _ _ _  s₁ (mkF m 4 #[.val (.int p1), .val (.int p2), .val (.int p3), .unset, .unset, .unset, .unset, .unset, .unset] [(.int (3 : Int32)), (.int (p3 &&& (3 : Int32)))])
  refine GoH.st (fun _ => Jvm.RoadKit.iremM X0 hx rfl (hb hby at_4) rfl (by decide)) ?_
  show GoH _ _ _ _ _ _ _ _ _ _  s₁ (mkF m 5 #[.val (.int p1), .val (.int p2), .val (.int p3), .unset, .unset, .unset, .unset, .unset, .unset] [(.int ((p3 &&& (3 : Int32)) % (3 : Int32)))])
  obtain ⟨q1, eq_q1⟩ : ∃ z, z = ((p3 &&& (3 : Int32)) % (3 : Int32)) := ⟨_, rfl⟩
  rw [← eq_q1]
  have hq1 : q1 = 0 ∨ q1 = 1 ∨ q1 = 2 := by rw [eq_q1]; exact own_mod3_3 _
  show GoH _ _ _ _ _ _ _ _ _ _  s₁ (mkF m 5 #[.val (.int p1), .val (.int p2), .val (.int p3), .unset, .unset, .unset, .unset, .unset, .unset] [(.int q1)])
  refine GoH.st (fun _ => XS.istoreN X0.here hx rfl (hb hby at_5) rfl (l' := #[.val (.int p1), .val (.int p2), .val (.int p3), .val (.int q1), .unset, .unset, .unset, .unset, .unset]) rfl) ?_
  refine GoH.st (fun _ => XS.iloadN X0.here hx rfl (hb hby at_6) rfl) ?_
  refine GoH.st (fun _ => XS.iconst X0.here hx rfl (hb hby at_7)) ?_
  refine GoH.st (fun _ => XS.iushr X0.here hx rfl (hb hby at_8) rfl) ?_
  refine GoH.st (fun _ => XS.iconst X0.here hx rfl (hb hby at_9)) ?_
  refine GoH.st (fun _ => XS.iand X0.here hx rfl (hb hby at_10) rfl) ?_
  show GoH _ _ _ _ _ _ _ _ _ _  s₁ (mkF m 11 #[.val (.int p1), .val (.int p2), .val (.int p3), .val (.int q1), .unset, .unset, .unset, .unset, .unset] [(.int (((p3.toUInt32 >>> ((2 : Int32) &&& 31).toUInt32).toInt32) &&& (3 : Int32)))])
  refine GoH.st (fun _ => XS.iconst X0.here hx rfl (hb hby at_11)) ?_
  show GoH _ _ _ _ _ _ _ _ _ _  s₁ (mkF m 12 #[.val (.int p1), .val (.int p2), .val (.int p3), .val (.int q1), .unset, .unset, .unset, .unset, .unset] [(.int (3 : Int32)), (.int (((p3.toUInt32 >>> ((2 : Int32) &&& 31).toUInt32).toInt32) &&& (3 : Int32)))])
  refine GoH.st (fun _ => Jvm.RoadKit.iremM X0 hx rfl (hb hby at_12) rfl (by decide)) ?_
  show GoH _ _ _ _ _ _ _ _ _ _  s₁ (mkF m 13 #[.val (.int p1), .val (.int p2), .val (.int p3), .val (.int q1), .unset, .unset, .unset, .unset, .unset] [(.int ((((p3.toUInt32 >>> ((2 : Int32) &&& 31).toUInt32).toInt32) &&& (3 : Int32)) % (3 : Int32)))])
  obtain ⟨q2, eq_q2⟩ : ∃ z, z = ((((p3.toUInt32 >>> ((2 : Int32) &&& 31).toUInt32).toInt32) &&& (3 : Int32)) % (3 : Int32)) := ⟨_, rfl⟩
  rw [← eq_q2]
  have hq2 : q2 = 0 ∨ q2 = 1 ∨ q2 = 2 := by rw [eq_q2]; exact own_mod3_3 _
  show GoH _ _ _ _ _ _ _ _ _ _  s₁ (mkF m 13 #[.val (.int p1), .val (.int p2), .val (.int p3), .val (.int q1), .unset, .unset, .unset, .unset, .unset] [(.int q2)])
  refine GoH.st (fun _ => XS.istore X0.here hx rfl (hb hby at_13) rfl (l' := #[.val (.int p1), .val (.int p2), .val (.int p3), .val (.int q1), .val (.int q2), .unset, .unset, .unset, .unset]) rfl) ?_
  refine GoH.st (fun _ => XS.iloadN X0.here hx rfl (hb hby at_15) rfl) ?_
  refine GoH.st (fun _ => XS.iloadN X0.here hx rfl (hb hby at_16) rfl) ?_
  show GoH _ _ _ _ _ _ _ _ _ _  s₁ (mkF m 17 #[.val (.int p1), .val (.int p2), .val (.int p3), .val (.int q1), .val (.int q2), .unset, .unset, .unset, .unset] [(.int q1), (.int p1)])
  obtain ⟨_, _, ⟨T1, L1, k1, n1⟩, -, X1, hSn1, hgn1, ⟨Lc1, hQ1, l1, y1, z1, CR1⟩, st1⟩ := callSS X0 hx (y := mY53) hown (mvT hZ (hwi hw 0 rfl)) (mvT hZ (hwi hw 1 rfl)) (mvT hZ (hwi hw 2 rfl)) (mvT hZ (hwi hw 3 rfl)) (by decide) (own_backSH (sf := []) (W := 0) (rmMk l Z a0 hw [] p1 q1 zc h0 n0 O hEL wS S_COMPACT hcs S_ad S_hi S_lo) hZ (hwi hw 3 rfl) (hwi hw 2 rfl) (by decide) (by decide) hEL HH all0) (g := (mkF m 17 #[.val (.int p1), .val (.int p2), .val (.int p3), .val (.int q1), .val (.int q2), .unset, .unset, .unset, .unset] [(.int q1), (.int p1)])) rfl (by rw [hml]; rfl) (argsL := [(.int p1), (.int q1)]) (rest := []) (lenOf pd__II_Ljava_lang_String_ rfl) rfl (by show 2 * 0 + _ ≤ _; exact Nat.le_of_eq rfl) (hb hby at_17) (fun _ _ => ⟨rfl, e0, (by decide : 0 + 6 ≤ _), (by decide : 0 + 260 ≤ _)⟩)
  dsimp only [Pt.U, Pt.locs, Pt.cells, Pt.slots] at X1 l1 y1 z1 st1 hQ1 hSn1 hgn1 CR1
  rw [l1, y1, z1] at X1
  have X1 : Stand p l e _ _ m _ below meth c T1 _ 6 260 := X1
  obtain ⟨x1, t1, kt1, rfl, N1q, E1q, lx1, E_x1, C_x1, V_x1, A_t1⟩ := hQ1
  have X1 : Stand p l e _ (s.setVm T1.vm) m _ below meth c T1 _ _ _ := X1
  have N1 := Fr.app N0 N1q
  refine GoH.tr st1 ?_
  have hS1 := Jvm.RoadKit.foldS hS (by rw [e0]; exact hk) hSn1 hgn1
  have hZ1 := State.Warmed39.trans (t := s.setVm s.vm) hZ hSn1.1
  have hk1 := Nat.le_refl T1.heap.size
  have hown1 := own_fc hSn1.1 hown
  have E1 := E1q
  have O := O.ext E1
  have KK := KK.ext E1
  have RR := RR.trans CR1
  have HH := CR1.1
  have hS := hS1
  have hk := hk1
  have hZ := hZ1
  have hown := hown1
  obtain ⟨r1, e_r1⟩ : ∃ z, z = (own_mk p1 q1) := ⟨_, rfl⟩
  rw [← e_r1] at C_x1 A_t1
  have B_r1 : r1.length ≤ 2 := by rw [e_r1]; exact own_mkl _ _
  have hr_r1 := (by rw [e_r1]; exact own_mkr _ _ : ∀ j, j < r1.length → nar .char (r1.getD j 0) = r1.getD j 0)
  have n_r1 : Int32.ofNat r1.length = q1 := by rw [e_r1]; exact own_mkn hq1
  show GoH _ _ _ _ _ _ _ _ _ _  T1 (mkF m 20 #[.val (.int p1), .val (.int p2), .val (.int p3), .val (.int q1), .val (.int q2), .unset, .unset, .unset, .unset] [(.ref x1)])
  refine GoH.st (fun _ => XS.astore X1.here hx rfl (hb hby at_20) rfl rfl (l' := #[.val (.int p1), .val (.int p2), .val (.int p3), .val (.int q1), .val (.int q2), .val (.ref x1), .unset, .unset, .unset]) rfl) ?_
  refine GoH.st (fun _ => XS.iloadN X1.here hx rfl (hb hby at_22) rfl) ?_
  refine GoH.st (fun _ => XS.iload X1.here hx rfl (hb hby at_23) rfl) ?_
  show GoH _ _ _ _ _ _ _ _ _ _  T1 (mkF m 25 #[.val (.int p1), .val (.int p2), .val (.int p3), .val (.int q1), .val (.int q2), .val (.ref x1), .unset, .unset, .unset] [(.int q2), (.int p2)])
  obtain ⟨_, _, ⟨T2, L2, k2, n2⟩, -, X2, hSn2, hgn2, ⟨Lc2, hQ2, l2, y2, z2, CR2⟩, st2⟩ := callSS X1 hx (y := mY53) hown (mvT hZ (hwi hw 0 rfl)) (mvT hZ (hwi hw 1 rfl)) (mvT hZ (hwi hw 2 rfl)) (mvT hZ (hwi hw 3 rfl)) (by decide) (own_backSH (sf := []) (W := 0) (rmMk l Z a0 hw [] p2 q2 zc T1.heap n0 O hEL wS S_COMPACT hcs S_ad S_hi S_lo) hZ (hwi hw 3 rfl) (hwi hw 2 rfl) (by decide) (by decide) hEL HH all0) (g := (mkF m 25 #[.val (.int p1), .val (.int p2), .val (.int p3), .val (.int q1), .val (.int q2), .val (.ref x1), .unset, .unset, .unset] [(.int q2), (.int p2)])) rfl (by rw [hml]; rfl) (argsL := [(.int p2), (.int q2)]) (rest := []) (lenOf pd__II_Ljava_lang_String_ rfl) rfl (by show 2 * 0 + _ ≤ _; exact Nat.le_of_eq rfl) (hb hby at_25) (fun _ _ => ⟨rfl, rfl, (by decide : 6 + 6 ≤ _), (by decide : 260 + 260 ≤ _)⟩)
  dsimp only [Pt.U, Pt.locs, Pt.cells, Pt.slots] at X2 l2 y2 z2 st2 hQ2 hSn2 hgn2 CR2
  rw [l2, y2, z2] at X2
  have X2 : Stand p l e _ _ m _ below meth c T2 _ 12 520 := X2
  obtain ⟨x2, t2, kt2, rfl, N2q, E2q, lx2, E_x2, C_x2, V_x2, A_t2⟩ := hQ2
  have X2 : Stand p l e _ (s.setVm T2.vm) m _ below meth c T2 _ _ _ := X2
  have N2 := Fr.app N1 N2q
  refine GoH.tr st2 ?_
  have hS2 := Jvm.RoadKit.foldS hS hk hSn2 hgn2
  have hZ2 := State.Warmed39.trans (t := s.setVm T1.vm) hZ hSn2.1
  have hk2 := Nat.le_refl T2.heap.size
  have hown2 := own_fc hSn2.1 hown
  have E2 := E2q
  have E_x1 := E_x1.ext E2
  have A_t1 := A_t1.ext E2
  have C_x1 := C_x1.ext E2
  have V_x1 := V_x1.ext E2
  have O := O.ext E2
  have KK := KK.ext E2
  have RR := RR.trans CR2
  have HH := CR2.1
  have hS := hS2
  have hk := hk2
  have hZ := hZ2
  have hown := hown2
  obtain ⟨r2, e_r2⟩ : ∃ z, z = (own_mk p2 q2) := ⟨_, rfl⟩
  rw [← e_r2] at C_x2 A_t2
  have B_r2 : r2.length ≤ 2 := by rw [e_r2]; exact own_mkl _ _
  have hr_r2 := (by rw [e_r2]; exact own_mkr _ _ : ∀ j, j < r2.length → nar .char (r2.getD j 0) = r2.getD j 0)
  have n_r2 : Int32.ofNat r2.length = q2 := by rw [e_r2]; exact own_mkn hq2
  show GoH _ _ _ _ _ _ _ _ _ _  T2 (mkF m 28 #[.val (.int p1), .val (.int p2), .val (.int p3), .val (.int q1), .val (.int q2), .val (.ref x1), .unset, .unset, .unset] [(.ref x2)])
  refine GoH.st (fun _ => XS.astore X2.here hx rfl (hb hby at_28) rfl rfl (l' := #[.val (.int p1), .val (.int p2), .val (.int p3), .val (.int q1), .val (.int q2), .val (.ref x1), .val (.ref x2), .unset, .unset]) rfl) ?_
  refine GoH.st (fun _ => XS.aload X2.here hx rfl (hb hby at_30) rfl rfl) ?_
  refine GoH.st (fun _ => XS.aload X2.here hx rfl (hb hby at_32) rfl rfl) ?_
  show GoH _ _ _ _ _ _ _ _ _ _  T2 (mkF m 34 #[.val (.int p1), .val (.int p2), .val (.int p3), .val (.int q1), .val (.int q2), .val (.ref x1), .val (.ref x2), .unset, .unset] [(.ref x2), (.ref x1)])
  obtain ⟨_, _, ⟨T3, L3, k3, n3⟩, -, X3, hSn3, hgn3, ⟨Lc3, hQ3, l3, y3, z3, CR3⟩, st3⟩ := callSS X2 hx (y := mY54) hown (mvT hZ (hwi hw 37 rfl)) (mvT hZ (hwi hw 38 rfl)) (mvT hZ (hwi hw 39 rfl)) (mvT hZ (hwi hw 40 rfl)) (by decide) (own_backSKH (sf := []) (W := 0) (rmFR l Z a0 hw [] x1 x2 zc fm t1 kt1 r1 t2 kt2 r2 T2.heap n0 O hEL wS S_COMPACT hcs S_SIO ref_fm S_ad S_hi S_lo hl hr E_x1 C_x1 V_x1 A_t1 E_x2 C_x2 V_x2 A_t2 B_r1 B_r2 hr_r1 hr_r2) hZ (hwi hw 40 rfl) (hwi hw 39 rfl) (by decide) (by decide) hEL HH all0 (Vm.MethodsKnown.alikeC hS.1.alike hK.1) (Vm.FramesKnown.alikeC hS.1.alike hK.2)) (g := (mkF m 34 #[.val (.int p1), .val (.int p2), .val (.int p3), .val (.int q1), .val (.int q2), .val (.ref x1), .val (.ref x2), .unset, .unset] [(.ref x2), (.ref x1)])) rfl (by rw [hml]; rfl) (argsL := [(.ref x1), (.ref x2)]) (rest := []) (lenOf pd__Ljava_lang_String_Ljava_lang_String__Lcom_example_keyset_keyset_query_DeclarationException_ rfl) rfl (by show 2 * 0 + _ ≤ _; exact Nat.le_of_eq rfl) (hb hby at_34) (fun _ _ => ⟨rfl, rfl, (by decide : 12 + 20 ≤ _), (by decide : 520 + 4600 ≤ _)⟩)
  dsimp only [Pt.U, Pt.locs, Pt.cells, Pt.slots] at X3 l3 y3 z3 st3 hQ3 hSn3 hgn3 CR3
  rw [l3, y3, z3] at X3
  have X3 : Stand p l e _ _ m _ below meth c T3 _ 32 5120 := X3
  obtain ⟨d3, y3, t3, kt3, rfl, N3q, E3q, E_d3, F_d3, E_y3, C_y3, V_y3, A_t3⟩ := hQ3
  have X3 : Stand p l e _ (s.setVm T3.vm) m _ below meth c T3 _ _ _ := X3
  have N3 := Fr.app N2 N3q
  refine GoH.tr st3 ?_
  have hS3 := Jvm.RoadKit.foldS hS hk hSn3 hgn3
  have hZ3 := State.Warmed39.trans (t := s.setVm T2.vm) hZ hSn3.1
  have hk3 := Nat.le_refl T3.heap.size
  have hown3 := own_fc hSn3.1 hown
  have E3 := E3q
  have E_x1 := E_x1.ext E3
  have A_t1 := A_t1.ext E3
  have C_x1 := C_x1.ext E3
  have V_x1 := V_x1.ext E3
  have E_x2 := E_x2.ext E3
  have A_t2 := A_t2.ext E3
  have C_x2 := C_x2.ext E3
  have V_x2 := V_x2.ext E3
  have O := O.ext E3
  have KK := KK.ext E3
  have RR := RR.trans CR3
  have HH := CR3.1
  have hS := hS3
  have hk := hk3
  have hZ := hZ3
  have hown := hown3
  obtain ⟨M, eM⟩ : ∃ z, z = own_M r1 r2 := ⟨_, rfl⟩
  rw [← eM] at C_y3 A_t3
  have lM : M.length = 13 + r1.length + r2.length := by rw [eM]; exact own_Ml _ _
  have hr_M : ∀ j, j < M.length → nar .char (M.getD j 0) = M.getD j 0 := by rw [eM]; exact own_hrM hr_r1 hr_r2
  show GoH _ _ _ _ _ _ _ _ _ _  T3 (mkF m 37 #[.val (.int p1), .val (.int p2), .val (.int p3), .val (.int q1), .val (.int q2), .val (.ref x1), .val (.ref x2), .unset, .unset] [(.ref d3)])
  refine GoH.st (fun _ => XS.astore X3.here hx rfl (hb hby at_37) rfl rfl (l' := #[.val (.int p1), .val (.int p2), .val (.int p3), .val (.int q1), .val (.int q2), .val (.ref x1), .val (.ref x2), .val (.ref d3), .unset]) rfl) ?_
  refine GoH.st (fun _ => XS.aload X3.here hx rfl (hb hby at_39) rfl rfl) ?_
  show GoH _ _ _ _ _ _ _ _ _ _  T3 (mkF m 41 #[.val (.int p1), .val (.int p2), .val (.int p3), .val (.int q1), .val (.int q2), .val (.ref x1), .val (.ref x2), .val (.ref d3), .unset] [(.ref d3)])
  refine GoH.st (fun _ => XS.ifnonnullYes X3.here hx rfl (pc0 := 41) (pc' := 46) rfl (hb hby at_41) rfl (by decide) (by decide)) ?_
  show GoH _ _ _ _ _ _ _ _ _ _  T3 (mkF m 46 #[.val (.int p1), .val (.int p2), .val (.int p3), .val (.int q1), .val (.int q2), .val (.ref x1), .val (.ref x2), .val (.ref d3), .unset] [])
  refine GoH.st (fun _ => XS.aload X3.here hx rfl (hb hby at_46) rfl rfl) ?_
  show GoH _ _ _ _ _ _ _ _ _ _  T3 (mkF m 48 #[.val (.int p1), .val (.int p2), .val (.int p3), .val (.int q1), .val (.int q2), .val (.ref x1), .val (.ref x2), .val (.ref d3), .unset] [(.ref d3)])
  obtain ⟨cq4, kq4, q4a, q4b, q4c⟩ := isOf hZ rfl E_d3
  refine GoH.pure (w := (some (.ref y3))) (rest := []) (pc' := 51) (X3.virtualBackUp hx (x := mY58) (y := mY55) (owner := "java/lang/Throwable") hown (mvT hZ (hwi hw 212 rfl)) (mvT hZ (hwi hw 213 rfl)) (mvT hZ (hwi hw 214 rfl)) (by decide) (mvT hZ (hwi hw 216 rfl)) (mvT hZ (hwi hw 215 rfl)) (backOf (W := 0) (rmGM l Z a0 hw [] d3 y3 T3.heap n0 O F_d3) hZ (hwi hw 217 rfl) (hwi hw 173 rfl) (by decide) (by decide)) q4a q4c (g := (mkF m 48 #[.val (.int p1), .val (.int p2), .val (.int p3), .val (.int q1), .val (.int q2), .val (.ref x1), .val (.ref x2), .val (.ref d3), .unset] [(.ref d3)])) rfl (by rw [hml]; rfl) (Steps.refl _) (argsL := []) (rest := []) (lenOf pd___Ljava_lang_String_ rfl) rfl (by show 2 * 0 + _ ≤ _; exact Nat.le_of_eq rfl) (hb hby at_48) (fun _ _ => ⟨rfl, rfl, (by decide : 32 + 0 ≤ _), (by decide : 5120 + 0 ≤ _)⟩)) (fun _ _ _ q => q) N3 (fun T4 L4 X4 e4q N4 => ?_)
  show GoH _ _ _ _ _ _ _ _ _ _  T4 (mkF m 51 #[.val (.int p1), .val (.int p2), .val (.int p3), .val (.int q1), .val (.int q2), .val (.ref x1), .val (.ref x2), .val (.ref d3), .unset] [(.ref y3)])
  refine GoH.st (fun _ => XS.astore X4.here hx rfl (hb hby at_51) rfl rfl (l' := #[.val (.int p1), .val (.int p2), .val (.int p3), .val (.int q1), .val (.int q2), .val (.ref x1), .val (.ref x2), .val (.ref d3), .val (.ref y3)]) rfl) ?_
  refine GoH.st (fun _ => XS.aload X4.here hx rfl (hb hby at_53) rfl rfl) ?_
  show GoH _ _ _ _ _ _ _ _ _ _  T4 (mkF m 55 #[.val (.int p1), .val (.int p2), .val (.int p3), .val (.int q1), .val (.int q2), .val (.ref x1), .val (.ref x2), .val (.ref d3), .val (.ref y3)] [(.ref y3)])
  refine GoH.st (fun _ => XS.ifnonnullYes X4.here hx rfl (pc0 := 55) (pc' := 60) rfl (hb hby at_55) rfl (by decide) (by decide)) ?_
  show GoH _ _ _ _ _ _ _ _ _ _  T4 (mkF m 60 #[.val (.int p1), .val (.int p2), .val (.int p3), .val (.int q1), .val (.int q2), .val (.ref x1), .val (.ref x2), .val (.ref d3), .val (.ref y3)] [])
  refine GoH.st (fun _ => XS.aload X4.here hx rfl (hb hby at_60) rfl rfl) ?_
  show GoH _ _ _ _ _ _ _ _ _ _  T4 (mkF m 62 #[.val (.int p1), .val (.int p2), .val (.int p3), .val (.int q1), .val (.int q2), .val (.ref x1), .val (.ref x2), .val (.ref d3), .val (.ref y3)] [(.ref y3)])
  obtain ⟨cq5, kq5, q5a, q5b, q5c⟩ := isOf hZ e4q E_y3
  refine GoH.pure (w := (some (.int (Int32.ofNat M.length)))) (rest := []) (pc' := 65) (X4.virtualBack hx (y := mY1) (z := mY1) hown (mvT hZ (hwi hw 218 rfl)) (mvT hZ (hwi hw 73 rfl)) (notFace_of_selects (args := #[]) (mvT hZ (hwi hw 75 rfl))) (mvT hZ (hwi hw 75 rfl)) (mvT hZ (hwi hw 74 rfl)) (by decide) (backOf (W := 0) (rmLenU l Z a0 hw [] y3 zc t3 kt3 M T3.heap n0 O S_COMPACT hcs E_y3 C_y3 V_y3 A_t3 (by omega)) hZ (hwi hw 76 rfl) (hwi hw 6 rfl) (by decide) (by decide)) q5a q5c (g := (mkF m 62 #[.val (.int p1), .val (.int p2), .val (.int p3), .val (.int q1), .val (.int q2), .val (.ref x1), .val (.ref x2), .val (.ref d3), .val (.ref y3)] [(.ref y3)])) rfl (by rw [hml]; rfl) (Steps.refl _) (argsL := []) (rest := []) (lenOf pd___I rfl) rfl (by show 2 * 0 + _ ≤ _; exact Nat.le_of_eq rfl) (hb hby at_62) (fun _ _ => ⟨rfl, e4q, (by decide : 32 + 0 ≤ _), (by decide : 5120 + 0 ≤ _)⟩)) (fun _ _ _ q => q) N4 (fun T5 L5 X5 e5q N5 => ?_)
  show GoH _ _ _ _ _ _ _ _ _ _  T5 (mkF m 65 #[.val (.int p1), .val (.int p2), .val (.int p3), .val (.int q1), .val (.int q2), .val (.ref x1), .val (.ref x2), .val (.ref d3), .val (.ref y3)] [(.int (Int32.ofNat M.length))])
  refine GoH.st (fun _ => XS.bipush X5.here hx rfl (hb hby at_65)) ?_
  refine GoH.st (fun _ => XS.iloadN X5.here hx rfl (hb hby at_67) rfl) ?_
  refine GoH.st (fun _ => XS.iadd X5.here hx rfl (hb hby at_68) rfl) ?_
  refine GoH.st (fun _ => XS.iload X5.here hx rfl (hb hby at_69) rfl) ?_
  refine GoH.st (fun _ => XS.iadd X5.here hx rfl (hb hby at_71) rfl) ?_
  show GoH _ _ _ _ _ _ _ _ _ _  T5 (mkF m 72 #[.val (.int p1), .val (.int p2), .val (.int p3), .val (.int q1), .val (.int q2), .val (.ref x1), .val (.ref x2), .val (.ref d3), .val (.ref y3)] [(.int (((13 : Int32) + q1) + q2)), (.int (Int32.ofNat M.length))])
  refine GoH.st (fun _ => XS.icmpYes X5.here hx rfl (pc0 := 72) (pc' := 77) rfl (hb hby at_72) rfl (teq (own_72 lM n_r1 n_r2 : (Int32.ofNat M.length) = (((13 : Int32) + q1) + q2))).1 (by decide) (by decide)) ?_
  show GoH _ _ _ _ _ _ _ _ _ _  T5 (mkF m 77 #[.val (.int p1), .val (.int p2), .val (.int p3), .val (.int q1), .val (.int q2), .val (.ref x1), .val (.ref x2), .val (.ref d3), .val (.ref y3)] [])
  refine GoH.st (fun _ => XS.aload X5.here hx rfl (hb hby at_77) rfl rfl) ?_
  refine GoH.st (fun _ => XS.iconst X5.here hx rfl (hb hby at_79)) ?_
  refine GoH.st (fun _ => XS.aload X5.here hx rfl (hb hby at_80) rfl rfl) ?_
  refine GoH.st (fun _ => XS.aload X5.here hx rfl (hb hby at_82) rfl rfl) ?_
  show GoH _ _ _ _ _ _ _ _ _ _  T5 (mkF m 84 #[.val (.int p1), .val (.int p2), .val (.int p3), .val (.int q1), .val (.int q2), .val (.ref x1), .val (.ref x2), .val (.ref d3), .val (.ref y3)] [(.ref x2), (.ref x1), (.int (0 : Int32)), (.ref y3)])
  obtain ⟨_, _, ⟨T6, L6, k6, n6⟩, -, X6, hSn6, hgn6, ⟨Lc6, hQ6, l6, y6, z6, CR6⟩, st6⟩ := callSS X5 hx (y := mY57) hown (mvT hZ (hwi hw 219 rfl)) (mvT hZ (hwi hw 220 rfl)) (mvT hZ (hwi hw 2 rfl)) (mvT hZ (hwi hw 221 rfl)) (by decide) (own_backSHX (sf := []) (Pv := fun _ => True) (W := 0) (rmO0 l Z a0 hw [] y3 x1 x2 zc fm t3 kt3 M t1 kt1 r1 t2 kt2 r2 T3.heap n0 O hEL wS S_COMPACT hcs S_SIO ref_fm S_ad S_hi S_lo E_y3 C_y3 V_y3 A_t3 eM hr_M E_x1 C_x1 V_x1 A_t1 E_x2 C_x2 V_x2 A_t2 B_r1 B_r2 hr_r1 hr_r2) hZ (hwi hw 221 rfl) (hwi hw 2 rfl) (by decide) (by decide) hEL HH all0 (fun _ _ => trivial)) (g := (mkF m 84 #[.val (.int p1), .val (.int p2), .val (.int p3), .val (.int q1), .val (.int q2), .val (.ref x1), .val (.ref x2), .val (.ref d3), .val (.ref y3)] [(.ref x2), (.ref x1), (.int (0 : Int32)), (.ref y3)])) rfl (by rw [hml]; rfl) (argsL := [(.ref y3), (.int (0 : Int32)), (.ref x1), (.ref x2)]) (rest := []) (lenOf pd__Ljava_lang_String_ILjava_lang_String_Ljava_lang_String__Z rfl) rfl (by show 2 * 0 + _ ≤ _; exact Nat.le_of_eq rfl) (hb hby at_84) (fun _ _ => ⟨rfl, e5q, (by decide : 32 + 2 ≤ _), (by decide : 5120 + 44 ≤ _)⟩)
  dsimp only [Pt.U, Pt.locs, Pt.cells, Pt.slots] at X6 l6 y6 z6 st6 hQ6 hSn6 hgn6 CR6
  rw [l6, y6, z6] at X6
  have X6 : Stand p l e _ _ m _ below meth c T6 _ 34 5164 := X6
  obtain ⟨rfl, N6q, E6q, sa6, sb6, kb6, Lt6, Es6, Cs6, Vs6, As6⟩ := hQ6
  have X6 : Stand p l e _ (s.setVm T6.vm) m _ below meth c T6 _ _ _ := X6
  have N6 := Fr.app N5 N6q
  refine GoH.tr st6 ?_
  have hS6 := Jvm.RoadKit.foldS hS (by rw [e5q]; exact hk) hSn6 hgn6
  have hZ6 := State.Warmed39.trans (t := s.setVm T3.vm) hZ hSn6.1
  have hk6 := Nat.le_refl T6.heap.size
  have hown6 := own_fc hSn6.1 hown
  have E6 := E6q
  have E_x1 := E_x1.ext E6
  have A_t1 := A_t1.ext E6
  have C_x1 := C_x1.ext E6
  have V_x1 := V_x1.ext E6
  have E_x2 := E_x2.ext E6
  have A_t2 := A_t2.ext E6
  have C_x2 := C_x2.ext E6
  have V_x2 := V_x2.ext E6
  have E_y3 := E_y3.ext E6
  have A_t3 := A_t3.ext E6
  have C_y3 := C_y3.ext E6
  have V_y3 := V_y3.ext E6
  have E_d3 := E_d3.ext E6
  have F_d3 := F_d3.ext E6
  have O := O.ext E6
  have KK := KK.ext E6
  have RR := RR.trans CR6
  have HH := CR6.1
  have hS := hS6
  have hk := hk6
  have hZ := hZ6
  have hown := hown6
  have hLit : Lit (s.setVm T6.vm) "com/example/keyset/keyset/query/DeclarationExceptionForResourcePinLaw" 12 sa6 := Lt6
  show GoH _ _ _ _ _ _ _ _ _ _  T6 (mkF m 87 #[.val (.int p1), .val (.int p2), .val (.int p3), .val (.int q1), .val (.int q2), .val (.ref x1), .val (.ref x2), .val (.ref d3), .val (.ref y3)] [(.int (1 : Int32))])
  refine GoH.st (fun _ => XS.ifNo X6.here hx rfl (hb hby at_87) rfl ((if0 _ _).trans (feq (by decide : ¬ ((1 : Int32) = (0 : Int32)))).1)) ?_
  show GoH _ _ _ _ _ _ _ _ _ _  T6 (mkF m 90 #[.val (.int p1), .val (.int p2), .val (.int p3), .val (.int q1), .val (.int q2), .val (.ref x1), .val (.ref x2), .val (.ref d3), .val (.ref y3)] [])
  refine GoH.st (fun _ => XS.aload X6.here hx rfl (hb hby at_90) rfl rfl) ?_
  refine GoH.st (fun _ => XS.iconst X6.here hx rfl (hb hby at_92)) ?_
  refine GoH.st (fun _ => XS.aload X6.here hx rfl (hb hby at_93) rfl rfl) ?_
  refine GoH.st (fun _ => XS.aload X6.here hx rfl (hb hby at_95) rfl rfl) ?_
  show GoH _ _ _ _ _ _ _ _ _ _  T6 (mkF m 97 #[.val (.int p1), .val (.int p2), .val (.int p3), .val (.int q1), .val (.int q2), .val (.ref x1), .val (.ref x2), .val (.ref d3), .val (.ref y3)] [(.ref x2), (.ref x1), (.int (1 : Int32)), (.ref y3)])
  obtain ⟨_, _, ⟨T7, L7, k7, n7⟩, -, X7, hSn7, hgn7, ⟨Lc7, hQ7, l7, y7, z7, CR7⟩, st7⟩ := callSS X6 hx (y := mY57) hown (mvT hZ (hwi hw 219 rfl)) (mvT hZ (hwi hw 220 rfl)) (mvT hZ (hwi hw 2 rfl)) (mvT hZ (hwi hw 221 rfl)) (by decide) (own_backSHX (sf := []) (Pv := fun vm => Lit (Z.setVm vm) "com/example/keyset/keyset/query/DeclarationExceptionForResourcePinLaw" 12 sa6) (W := 0) (rmO1a l Z a0 hw [] y3 x1 x2 1 sa6 sb6 kb6 zc fm t3 kt3 M t1 kt1 r1 t2 kt2 r2 T6.heap n0 O hEL wS S_COMPACT hcs S_SIO ref_fm S_ad S_hi S_lo E_y3 C_y3 V_y3 A_t3 eM hr_M E_x1 C_x1 V_x1 A_t1 E_x2 C_x2 V_x2 A_t2 B_r1 B_r2 hr_r1 hr_r2 Es6 Cs6 Vs6 As6 (by decide)) hZ (hwi hw 221 rfl) (hwi hw 2 rfl) (by decide) (by decide) hEL HH all0 (fun _ W => (Lit.stays (s := s) hLit W :))) (g := (mkF m 97 #[.val (.int p1), .val (.int p2), .val (.int p3), .val (.int q1), .val (.int q2), .val (.ref x1), .val (.ref x2), .val (.ref d3), .val (.ref y3)] [(.ref x2), (.ref x1), (.int (1 : Int32)), (.ref y3)])) rfl (by rw [hml]; rfl) (argsL := [(.ref y3), (.int (1 : Int32)), (.ref x1), (.ref x2)]) (rest := []) (lenOf pd__Ljava_lang_String_ILjava_lang_String_Ljava_lang_String__Z rfl) rfl (by show 2 * 0 + _ ≤ _; exact Nat.le_of_eq rfl) (hb hby at_97) (fun _ _ => ⟨rfl, rfl, (by decide : 34 + 0 ≤ _), (by decide : 5164 + 0 ≤ _)⟩)
  dsimp only [Pt.U, Pt.locs, Pt.cells, Pt.slots] at X7 l7 y7 z7 st7 hQ7 hSn7 hgn7 CR7
  rw [l7, y7, z7] at X7
  have X7 : Stand p l e _ _ m _ below meth c T7 _ 34 5164 := X7
  obtain ⟨rfl, N7q, E7q⟩ := hQ7
  have X7 : Stand p l e _ (s.setVm T7.vm) m _ below meth c T7 _ _ _ := X7
  have N7 := Fr.app N6 N7q
  refine GoH.tr st7 ?_
  have hS7 := Jvm.RoadKit.foldS hS hk hSn7 hgn7
  have hZ7 := State.Warmed39.trans (t := s.setVm T6.vm) hZ hSn7.1
  have hk7 := Nat.le_refl T7.heap.size
  have hown7 := own_fc hSn7.1 hown
  have hLit := Lit.stays hLit hSn7.1
  have E7 := E7q
  have E_x1 := E_x1.ext E7
  have A_t1 := A_t1.ext E7
  have C_x1 := C_x1.ext E7
  have V_x1 := V_x1.ext E7
  have E_x2 := E_x2.ext E7
  have A_t2 := A_t2.ext E7
  have C_x2 := C_x2.ext E7
  have V_x2 := V_x2.ext E7
  have E_y3 := E_y3.ext E7
  have A_t3 := A_t3.ext E7
  have C_y3 := C_y3.ext E7
  have V_y3 := V_y3.ext E7
  have E_d3 := E_d3.ext E7
  have F_d3 := F_d3.ext E7
  have Es6 := Es6.ext E7
  have As6 := As6.ext E7
  have Cs6 := Cs6.ext E7
  have Vs6 := Vs6.ext E7
  have O := O.ext E7
  have KK := KK.ext E7
  have RR := RR.trans CR7
  have HH := CR7.1
  have hS := hS7
  have hk := hk7
  have hZ := hZ7
  have hown := hown7
  show GoH _ _ _ _ _ _ _ _ _ _  T7 (mkF m 100 #[.val (.int p1), .val (.int p2), .val (.int p3), .val (.int q1), .val (.int q2), .val (.ref x1), .val (.ref x2), .val (.ref d3), .val (.ref y3)] [(.int (1 : Int32))])
  refine GoH.st (fun _ => XS.ifNo X7.here hx rfl (hb hby at_100) rfl ((if0 _ _).trans (feq (by decide : ¬ ((1 : Int32) = (0 : Int32)))).1)) ?_
  show GoH _ _ _ _ _ _ _ _ _ _  T7 (mkF m 103 #[.val (.int p1), .val (.int p2), .val (.int p3), .val (.int q1), .val (.int q2), .val (.ref x1), .val (.ref x2), .val (.ref d3), .val (.ref y3)] [])
  refine GoH.st (fun _ => XS.aload X7.here hx rfl (hb hby at_103) rfl rfl) ?_
  refine GoH.st (fun _ => XS.iconst X7.here hx rfl (hb hby at_105)) ?_
  refine GoH.st (fun _ => XS.aload X7.here hx rfl (hb hby at_106) rfl rfl) ?_
  refine GoH.st (fun _ => XS.aload X7.here hx rfl (hb hby at_108) rfl rfl) ?_
  show GoH _ _ _ _ _ _ _ _ _ _  T7 (mkF m 110 #[.val (.int p1), .val (.int p2), .val (.int p3), .val (.int q1), .val (.int q2), .val (.ref x1), .val (.ref x2), .val (.ref d3), .val (.ref y3)] [(.ref x2), (.ref x1), (.int (2 : Int32)), (.ref y3)])
  obtain ⟨_, _, ⟨T8, L8, k8, n8⟩, -, X8, hSn8, hgn8, ⟨Lc8, hQ8, l8, y8, z8, CR8⟩, st8⟩ := callSS X7 hx (y := mY57) hown (mvT hZ (hwi hw 219 rfl)) (mvT hZ (hwi hw 220 rfl)) (mvT hZ (hwi hw 2 rfl)) (mvT hZ (hwi hw 221 rfl)) (by decide) (own_backSHX (sf := []) (Pv := fun vm => Lit (Z.setVm vm) "com/example/keyset/keyset/query/DeclarationExceptionForResourcePinLaw" 12 sa6) (W := 0) (rmO1a l Z a0 hw [] y3 x1 x2 2 sa6 sb6 kb6 zc fm t3 kt3 M t1 kt1 r1 t2 kt2 r2 T7.heap n0 O hEL wS S_COMPACT hcs S_SIO ref_fm S_ad S_hi S_lo E_y3 C_y3 V_y3 A_t3 eM hr_M E_x1 C_x1 V_x1 A_t1 E_x2 C_x2 V_x2 A_t2 B_r1 B_r2 hr_r1 hr_r2 Es6 Cs6 Vs6 As6 (by decide)) hZ (hwi hw 221 rfl) (hwi hw 2 rfl) (by decide) (by decide) hEL HH all0 (fun _ W => (Lit.stays (s := s) hLit W :))) (g := (mkF m 110 #[.val (.int p1), .val (.int p2), .val (.int p3), .val (.int q1), .val (.int q2), .val (.ref x1), .val (.ref x2), .val (.ref d3), .val (.ref y3)] [(.ref x2), (.ref x1), (.int (2 : Int32)), (.ref y3)])) rfl (by rw [hml]; rfl) (argsL := [(.ref y3), (.int (2 : Int32)), (.ref x1), (.ref x2)]) (rest := []) (lenOf pd__Ljava_lang_String_ILjava_lang_String_Ljava_lang_String__Z rfl) rfl (by show 2 * 0 + _ ≤ _; exact Nat.le_of_eq rfl) (hb hby at_110) (fun _ _ => ⟨rfl, rfl, (by decide : 34 + 0 ≤ _), (by decide : 5164 + 0 ≤ _)⟩)
  dsimp only [Pt.U, Pt.locs, Pt.cells, Pt.slots] at X8 l8 y8 z8 st8 hQ8 hSn8 hgn8 CR8
  rw [l8, y8, z8] at X8
  have X8 : Stand p l e _ _ m _ below meth c T8 _ 34 5164 := X8
  obtain ⟨rfl, N8q, E8q⟩ := hQ8
  have X8 : Stand p l e _ (s.setVm T8.vm) m _ below meth c T8 _ _ _ := X8
  have N8 := Fr.app N7 N8q
  refine GoH.tr st8 ?_
  have hS8 := Jvm.RoadKit.foldS hS hk hSn8 hgn8
  have hZ8 := State.Warmed39.trans (t := s.setVm T7.vm) hZ hSn8.1
  have hk8 := Nat.le_refl T8.heap.size
  have hown8 := own_fc hSn8.1 hown
  have hLit := Lit.stays hLit hSn8.1
  have E8 := E8q
  have E_x1 := E_x1.ext E8
  have A_t1 := A_t1.ext E8
  have C_x1 := C_x1.ext E8
  have V_x1 := V_x1.ext E8
  have E_x2 := E_x2.ext E8
  have A_t2 := A_t2.ext E8
  have C_x2 := C_x2.ext E8
  have V_x2 := V_x2.ext E8
  have E_y3 := E_y3.ext E8
  have A_t3 := A_t3.ext E8
  have C_y3 := C_y3.ext E8
  have V_y3 := V_y3.ext E8
  have E_d3 := E_d3.ext E8
  have F_d3 := F_d3.ext E8
  have Es6 := Es6.ext E8
  have As6 := As6.ext E8
  have Cs6 := Cs6.ext E8
  have Vs6 := Vs6.ext E8
  have O := O.ext E8
  have KK := KK.ext E8
  have RR := RR.trans CR8
  have HH := CR8.1
  have hS := hS8
  have hk := hk8
  have hZ := hZ8
  have hown := hown8
  show GoH _ _ _ _ _ _ _ _ _ _  T8 (mkF m 113 #[.val (.int p1), .val (.int p2), .val (.int p3), .val (.int q1), .val (.int q2), .val (.ref x1), .val (.ref x2), .val (.ref d3), .val (.ref y3)] [(.int (1 : Int32))])
  refine GoH.st (fun _ => XS.ifNo X8.here hx rfl (hb hby at_113) rfl ((if0 _ _).trans (feq (by decide : ¬ ((1 : Int32) = (0 : Int32)))).1)) ?_
  show GoH _ _ _ _ _ _ _ _ _ _  T8 (mkF m 116 #[.val (.int p1), .val (.int p2), .val (.int p3), .val (.int q1), .val (.int q2), .val (.ref x1), .val (.ref x2), .val (.ref d3), .val (.ref y3)] [])
  refine GoH.st (fun _ => XS.aload X8.here hx rfl (hb hby at_116) rfl rfl) ?_
  refine GoH.st (fun _ => XS.iconst X8.here hx rfl (hb hby at_118)) ?_
  refine GoH.st (fun _ => XS.aload X8.here hx rfl (hb hby at_119) rfl rfl) ?_
  refine GoH.st (fun _ => XS.aload X8.here hx rfl (hb hby at_121) rfl rfl) ?_
  show GoH _ _ _ _ _ _ _ _ _ _  T8 (mkF m 123 #[.val (.int p1), .val (.int p2), .val (.int p3), .val (.int q1), .val (.int q2), .val (.ref x1), .val (.ref x2), .val (.ref d3), .val (.ref y3)] [(.ref x2), (.ref x1), (.int (3 : Int32)), (.ref y3)])
  obtain ⟨_, _, ⟨T9, L9, k9, n9⟩, -, X9, hSn9, hgn9, ⟨Lc9, hQ9, l9, y9, z9, CR9⟩, st9⟩ := callSS X8 hx (y := mY57) hown (mvT hZ (hwi hw 219 rfl)) (mvT hZ (hwi hw 220 rfl)) (mvT hZ (hwi hw 2 rfl)) (mvT hZ (hwi hw 221 rfl)) (by decide) (own_backSHX (sf := []) (Pv := fun vm => Lit (Z.setVm vm) "com/example/keyset/keyset/query/DeclarationExceptionForResourcePinLaw" 12 sa6) (W := 0) (rmO1a l Z a0 hw [] y3 x1 x2 3 sa6 sb6 kb6 zc fm t3 kt3 M t1 kt1 r1 t2 kt2 r2 T8.heap n0 O hEL wS S_COMPACT hcs S_SIO ref_fm S_ad S_hi S_lo E_y3 C_y3 V_y3 A_t3 eM hr_M E_x1 C_x1 V_x1 A_t1 E_x2 C_x2 V_x2 A_t2 B_r1 B_r2 hr_r1 hr_r2 Es6 Cs6 Vs6 As6 (by decide)) hZ (hwi hw 221 rfl) (hwi hw 2 rfl) (by decide) (by decide) hEL HH all0 (fun _ W => (Lit.stays (s := s) hLit W :))) (g := (mkF m 123 #[.val (.int p1), .val (.int p2), .val (.int p3), .val (.int q1), .val (.int q2), .val (.ref x1), .val (.ref x2), .val (.ref d3), .val (.ref y3)] [(.ref x2), (.ref x1), (.int (3 : Int32)), (.ref y3)])) rfl (by rw [hml]; rfl) (argsL := [(.ref y3), (.int (3 : Int32)), (.ref x1), (.ref x2)]) (rest := []) (lenOf pd__Ljava_lang_String_ILjava_lang_String_Ljava_lang_String__Z rfl) rfl (by show 2 * 0 + _ ≤ _; exact Nat.le_of_eq rfl) (hb hby at_123) (fun _ _ => ⟨rfl, rfl, (by decide : 34 + 0 ≤ _), (by decide : 5164 + 0 ≤ _)⟩)
  dsimp only [Pt.U, Pt.locs, Pt.cells, Pt.slots] at X9 l9 y9 z9 st9 hQ9 hSn9 hgn9 CR9
  rw [l9, y9, z9] at X9
  have X9 : Stand p l e _ _ m _ below meth c T9 _ 34 5164 := X9
  obtain ⟨rfl, N9q, E9q⟩ := hQ9
  have X9 : Stand p l e _ (s.setVm T9.vm) m _ below meth c T9 _ _ _ := X9
  have N9 := Fr.app N8 N9q
  refine GoH.tr st9 ?_
  have hS9 := Jvm.RoadKit.foldS hS hk hSn9 hgn9
  have hZ9 := State.Warmed39.trans (t := s.setVm T8.vm) hZ hSn9.1
  have hk9 := Nat.le_refl T9.heap.size
  have hown9 := own_fc hSn9.1 hown
  have hLit := Lit.stays hLit hSn9.1
  have E9 := E9q
  have E_x1 := E_x1.ext E9
  have A_t1 := A_t1.ext E9
  have C_x1 := C_x1.ext E9
  have V_x1 := V_x1.ext E9
  have E_x2 := E_x2.ext E9
  have A_t2 := A_t2.ext E9
  have C_x2 := C_x2.ext E9
  have V_x2 := V_x2.ext E9
  have E_y3 := E_y3.ext E9
  have A_t3 := A_t3.ext E9
  have C_y3 := C_y3.ext E9
  have V_y3 := V_y3.ext E9
  have E_d3 := E_d3.ext E9
  have F_d3 := F_d3.ext E9
  have Es6 := Es6.ext E9
  have As6 := As6.ext E9
  have Cs6 := Cs6.ext E9
  have Vs6 := Vs6.ext E9
  have O := O.ext E9
  have KK := KK.ext E9
  have RR := RR.trans CR9
  have HH := CR9.1
  have hS := hS9
  have hk := hk9
  have hZ := hZ9
  have hown := hown9
  show GoH _ _ _ _ _ _ _ _ _ _  T9 (mkF m 126 #[.val (.int p1), .val (.int p2), .val (.int p3), .val (.int q1), .val (.int q2), .val (.ref x1), .val (.ref x2), .val (.ref d3), .val (.ref y3)] [(.int (1 : Int32))])
  refine GoH.st (fun _ => XS.ifNo X9.here hx rfl (hb hby at_126) rfl ((if0 _ _).trans (feq (by decide : ¬ ((1 : Int32) = (0 : Int32)))).1)) ?_
  show GoH _ _ _ _ _ _ _ _ _ _  T9 (mkF m 129 #[.val (.int p1), .val (.int p2), .val (.int p3), .val (.int q1), .val (.int q2), .val (.ref x1), .val (.ref x2), .val (.ref d3), .val (.ref y3)] [])
  refine GoH.st (fun _ => XS.aload X9.here hx rfl (hb hby at_129) rfl rfl) ?_
  refine GoH.st (fun _ => XS.iconst X9.here hx rfl (hb hby at_131)) ?_
  refine GoH.st (fun _ => XS.aload X9.here hx rfl (hb hby at_132) rfl rfl) ?_
  refine GoH.st (fun _ => XS.aload X9.here hx rfl (hb hby at_134) rfl rfl) ?_
  show GoH _ _ _ _ _ _ _ _ _ _  T9 (mkF m 136 #[.val (.int p1), .val (.int p2), .val (.int p3), .val (.int q1), .val (.int q2), .val (.ref x1), .val (.ref x2), .val (.ref d3), .val (.ref y3)] [(.ref x2), (.ref x1), (.int (4 : Int32)), (.ref y3)])
  obtain ⟨_, _, ⟨T10, L10, k10, n10⟩, -, X10, hSn10, hgn10, ⟨Lc10, hQ10, l10, y10, z10, CR10⟩, st10⟩ := callSS X9 hx (y := mY57) hown (mvT hZ (hwi hw 219 rfl)) (mvT hZ (hwi hw 220 rfl)) (mvT hZ (hwi hw 2 rfl)) (mvT hZ (hwi hw 221 rfl)) (by decide) (own_backSHX (sf := []) (Pv := fun vm => Lit (Z.setVm vm) "com/example/keyset/keyset/query/DeclarationExceptionForResourcePinLaw" 12 sa6) (W := 0) (rmO1a l Z a0 hw [] y3 x1 x2 4 sa6 sb6 kb6 zc fm t3 kt3 M t1 kt1 r1 t2 kt2 r2 T9.heap n0 O hEL wS S_COMPACT hcs S_SIO ref_fm S_ad S_hi S_lo E_y3 C_y3 V_y3 A_t3 eM hr_M E_x1 C_x1 V_x1 A_t1 E_x2 C_x2 V_x2 A_t2 B_r1 B_r2 hr_r1 hr_r2 Es6 Cs6 Vs6 As6 (by decide)) hZ (hwi hw 221 rfl) (hwi hw 2 rfl) (by decide) (by decide) hEL HH all0 (fun _ W => (Lit.stays (s := s) hLit W :))) (g := (mkF m 136 #[.val (.int p1), .val (.int p2), .val (.int p3), .val (.int q1), .val (.int q2), .val (.ref x1), .val (.ref x2), .val (.ref d3), .val (.ref y3)] [(.ref x2), (.ref x1), (.int (4 : Int32)), (.ref y3)])) rfl (by rw [hml]; rfl) (argsL := [(.ref y3), (.int (4 : Int32)), (.ref x1), (.ref x2)]) (rest := []) (lenOf pd__Ljava_lang_String_ILjava_lang_String_Ljava_lang_String__Z rfl) rfl (by show 2 * 0 + _ ≤ _; exact Nat.le_of_eq rfl) (hb hby at_136) (fun _ _ => ⟨rfl, rfl, (by decide : 34 + 0 ≤ _), (by decide : 5164 + 0 ≤ _)⟩)
  dsimp only [Pt.U, Pt.locs, Pt.cells, Pt.slots] at X10 l10 y10 z10 st10 hQ10 hSn10 hgn10 CR10
  rw [l10, y10, z10] at X10
  have X10 : Stand p l e _ _ m _ below meth c T10 _ 34 5164 := X10
  obtain ⟨rfl, N10q, E10q⟩ := hQ10
  have X10 : Stand p l e _ (s.setVm T10.vm) m _ below meth c T10 _ _ _ := X10
  have N10 := Fr.app N9 N10q
  refine GoH.tr st10 ?_
  have hS10 := Jvm.RoadKit.foldS hS hk hSn10 hgn10
  have hZ10 := State.Warmed39.trans (t := s.setVm T9.vm) hZ hSn10.1
  have hk10 := Nat.le_refl T10.heap.size
  have hown10 := own_fc hSn10.1 hown
  have hLit := Lit.stays hLit hSn10.1
  have E10 := E10q
  have E_x1 := E_x1.ext E10
  have A_t1 := A_t1.ext E10
  have C_x1 := C_x1.ext E10
  have V_x1 := V_x1.ext E10
  have E_x2 := E_x2.ext E10
  have A_t2 := A_t2.ext E10
  have C_x2 := C_x2.ext E10
  have V_x2 := V_x2.ext E10
  have E_y3 := E_y3.ext E10
  have A_t3 := A_t3.ext E10
  have C_y3 := C_y3.ext E10
  have V_y3 := V_y3.ext E10
  have E_d3 := E_d3.ext E10
  have F_d3 := F_d3.ext E10
  have Es6 := Es6.ext E10
  have As6 := As6.ext E10
  have Cs6 := Cs6.ext E10
  have Vs6 := Vs6.ext E10
  have O := O.ext E10
  have KK := KK.ext E10
  have RR := RR.trans CR10
  have HH := CR10.1
  have hS := hS10
  have hk := hk10
  have hZ := hZ10
  have hown := hown10
  show GoH _ _ _ _ _ _ _ _ _ _  T10 (mkF m 139 #[.val (.int p1), .val (.int p2), .val (.int p3), .val (.int q1), .val (.int q2), .val (.ref x1), .val (.ref x2), .val (.ref d3), .val (.ref y3)] [(.int (1 : Int32))])
  refine GoH.st (fun _ => XS.ifNo X10.here hx rfl (hb hby at_139) rfl ((if0 _ _).trans (feq (by decide : ¬ ((1 : Int32) = (0 : Int32)))).1)) ?_
  show GoH _ _ _ _ _ _ _ _ _ _  T10 (mkF m 142 #[.val (.int p1), .val (.int p2), .val (.int p3), .val (.int q1), .val (.int q2), .val (.ref x1), .val (.ref x2), .val (.ref d3), .val (.ref y3)] [])
  refine GoH.st (fun _ => XS.aload X10.here hx rfl (hb hby at_142) rfl rfl) ?_
  refine GoH.st (fun _ => XS.iconst X10.here hx rfl (hb hby at_144)) ?_
  refine GoH.st (fun _ => XS.aload X10.here hx rfl (hb hby at_145) rfl rfl) ?_
  refine GoH.st (fun _ => XS.aload X10.here hx rfl (hb hby at_147) rfl rfl) ?_
  show GoH _ _ _ _ _ _ _ _ _ _  T10 (mkF m 149 #[.val (.int p1), .val (.int p2), .val (.int p3), .val (.int q1), .val (.int q2), .val (.ref x1), .val (.ref x2), .val (.ref d3), .val (.ref y3)] [(.ref x2), (.ref x1), (.int (5 : Int32)), (.ref y3)])
  obtain ⟨_, _, ⟨T11, L11, k11, n11⟩, -, X11, hSn11, hgn11, ⟨Lc11, hQ11, l11, y11, z11, CR11⟩, st11⟩ := callSS X10 hx (y := mY57) hown (mvT hZ (hwi hw 219 rfl)) (mvT hZ (hwi hw 220 rfl)) (mvT hZ (hwi hw 2 rfl)) (mvT hZ (hwi hw 221 rfl)) (by decide) (own_backSHX (sf := []) (Pv := fun vm => Lit (Z.setVm vm) "com/example/keyset/keyset/query/DeclarationExceptionForResourcePinLaw" 12 sa6) (W := 0) (rmO1a l Z a0 hw [] y3 x1 x2 5 sa6 sb6 kb6 zc fm t3 kt3 M t1 kt1 r1 t2 kt2 r2 T10.heap n0 O hEL wS S_COMPACT hcs S_SIO ref_fm S_ad S_hi S_lo E_y3 C_y3 V_y3 A_t3 eM hr_M E_x1 C_x1 V_x1 A_t1 E_x2 C_x2 V_x2 A_t2 B_r1 B_r2 hr_r1 hr_r2 Es6 Cs6 Vs6 As6 (by decide)) hZ (hwi hw 221 rfl) (hwi hw 2 rfl) (by decide) (by decide) hEL HH all0 (fun _ W => (Lit.stays (s := s) hLit W :))) (g := (mkF m 149 #[.val (.int p1), .val (.int p2), .val (.int p3), .val (.int q1), .val (.int q2), .val (.ref x1), .val (.ref x2), .val (.ref d3), .val (.ref y3)] [(.ref x2), (.ref x1), (.int (5 : Int32)), (.ref y3)])) rfl (by rw [hml]; rfl) (argsL := [(.ref y3), (.int (5 : Int32)), (.ref x1), (.ref x2)]) (rest := []) (lenOf pd__Ljava_lang_String_ILjava_lang_String_Ljava_lang_String__Z rfl) rfl (by show 2 * 0 + _ ≤ _; exact Nat.le_of_eq rfl) (hb hby at_149) (fun _ _ => ⟨rfl, rfl, (by decide : 34 + 0 ≤ _), (by decide : 5164 + 0 ≤ _)⟩)
  dsimp only [Pt.U, Pt.locs, Pt.cells, Pt.slots] at X11 l11 y11 z11 st11 hQ11 hSn11 hgn11 CR11
  rw [l11, y11, z11] at X11
  have X11 : Stand p l e _ _ m _ below meth c T11 _ 34 5164 := X11
  obtain ⟨rfl, N11q, E11q⟩ := hQ11
  have X11 : Stand p l e _ (s.setVm T11.vm) m _ below meth c T11 _ _ _ := X11
  have N11 := Fr.app N10 N11q
  refine GoH.tr st11 ?_
  have hS11 := Jvm.RoadKit.foldS hS hk hSn11 hgn11
  have hZ11 := State.Warmed39.trans (t := s.setVm T10.vm) hZ hSn11.1
  have hk11 := Nat.le_refl T11.heap.size
  have hown11 := own_fc hSn11.1 hown
  have hLit := Lit.stays hLit hSn11.1
  have E11 := E11q
  have E_x1 := E_x1.ext E11
  have A_t1 := A_t1.ext E11
  have C_x1 := C_x1.ext E11
  have V_x1 := V_x1.ext E11
  have E_x2 := E_x2.ext E11
  have A_t2 := A_t2.ext E11
  have C_x2 := C_x2.ext E11
  have V_x2 := V_x2.ext E11
  have E_y3 := E_y3.ext E11
  have A_t3 := A_t3.ext E11
  have C_y3 := C_y3.ext E11
  have V_y3 := V_y3.ext E11
  have E_d3 := E_d3.ext E11
  have F_d3 := F_d3.ext E11
  have Es6 := Es6.ext E11
  have As6 := As6.ext E11
  have Cs6 := Cs6.ext E11
  have Vs6 := Vs6.ext E11
  have O := O.ext E11
  have KK := KK.ext E11
  have RR := RR.trans CR11
  have HH := CR11.1
  have hS := hS11
  have hk := hk11
  have hZ := hZ11
  have hown := hown11
  show GoH _ _ _ _ _ _ _ _ _ _  T11 (mkF m 152 #[.val (.int p1), .val (.int p2), .val (.int p3), .val (.int q1), .val (.int q2), .val (.ref x1), .val (.ref x2), .val (.ref d3), .val (.ref y3)] [(.int (1 : Int32))])
  refine GoH.st (fun _ => XS.ifNo X11.here hx rfl (hb hby at_152) rfl ((if0 _ _).trans (feq (by decide : ¬ ((1 : Int32) = (0 : Int32)))).1)) ?_
  show GoH _ _ _ _ _ _ _ _ _ _  T11 (mkF m 155 #[.val (.int p1), .val (.int p2), .val (.int p3), .val (.int q1), .val (.int q2), .val (.ref x1), .val (.ref x2), .val (.ref d3), .val (.ref y3)] [])
  refine GoH.st (fun _ => XS.aload X11.here hx rfl (hb hby at_155) rfl rfl) ?_
  refine GoH.st (fun _ => XS.bipush X11.here hx rfl (hb hby at_157)) ?_
  refine GoH.st (fun _ => XS.aload X11.here hx rfl (hb hby at_159) rfl rfl) ?_
  refine GoH.st (fun _ => XS.aload X11.here hx rfl (hb hby at_161) rfl rfl) ?_
  show GoH _ _ _ _ _ _ _ _ _ _  T11 (mkF m 163 #[.val (.int p1), .val (.int p2), .val (.int p3), .val (.int q1), .val (.int q2), .val (.ref x1), .val (.ref x2), .val (.ref d3), .val (.ref y3)] [(.ref x2), (.ref x1), (.int (6 : Int32)), (.ref y3)])
  obtain ⟨_, _, ⟨T12, L12, k12, n12⟩, -, X12, hSn12, hgn12, ⟨Lc12, hQ12, l12, y12, z12, CR12⟩, st12⟩ := callSS X11 hx (y := mY57) hown (mvT hZ (hwi hw 219 rfl)) (mvT hZ (hwi hw 220 rfl)) (mvT hZ (hwi hw 2 rfl)) (mvT hZ (hwi hw 221 rfl)) (by decide) (own_backSHX (sf := []) (Pv := fun vm => Lit (Z.setVm vm) "com/example/keyset/keyset/query/DeclarationExceptionForResourcePinLaw" 12 sa6) (W := 0) (rmO1a l Z a0 hw [] y3 x1 x2 6 sa6 sb6 kb6 zc fm t3 kt3 M t1 kt1 r1 t2 kt2 r2 T11.heap n0 O hEL wS S_COMPACT hcs S_SIO ref_fm S_ad S_hi S_lo E_y3 C_y3 V_y3 A_t3 eM hr_M E_x1 C_x1 V_x1 A_t1 E_x2 C_x2 V_x2 A_t2 B_r1 B_r2 hr_r1 hr_r2 Es6 Cs6 Vs6 As6 (by decide)) hZ (hwi hw 221 rfl) (hwi hw 2 rfl) (by decide) (by decide) hEL HH all0 (fun _ W => (Lit.stays (s := s) hLit W :))) (g := (mkF m 163 #[.val (.int p1), .val (.int p2), .val (.int p3), .val (.int q1), .val (.int q2), .val (.ref x1), .val (.ref x2), .val (.ref d3), .val (.ref y3)] [(.ref x2), (.ref x1), (.int (6 : Int32)), (.ref y3)])) rfl (by rw [hml]; rfl) (argsL := [(.ref y3), (.int (6 : Int32)), (.ref x1), (.ref x2)]) (rest := []) (lenOf pd__Ljava_lang_String_ILjava_lang_String_Ljava_lang_String__Z rfl) rfl (by show 2 * 0 + _ ≤ _; exact Nat.le_of_eq rfl) (hb hby at_163) (fun _ _ => ⟨rfl, rfl, (by decide : 34 + 0 ≤ _), (by decide : 5164 + 0 ≤ _)⟩)
  dsimp only [Pt.U, Pt.locs, Pt.cells, Pt.slots] at X12 l12 y12 z12 st12 hQ12 hSn12 hgn12 CR12
  rw [l12, y12, z12] at X12
  have X12 : Stand p l e _ _ m _ below meth c T12 _ 34 5164 := X12
  obtain ⟨rfl, N12q, E12q⟩ := hQ12
  have X12 : Stand p l e _ (s.setVm T12.vm) m _ below meth c T12 _ _ _ := X12
  have N12 := Fr.app N11 N12q
  refine GoH.tr st12 ?_
  have hS12 := Jvm.RoadKit.foldS hS hk hSn12 hgn12
  have hZ12 := State.Warmed39.trans (t := s.setVm T11.vm) hZ hSn12.1
  have hk12 := Nat.le_refl T12.heap.size
  have hown12 := own_fc hSn12.1 hown
  have hLit := Lit.stays hLit hSn12.1
  have E12 := E12q
  have E_x1 := E_x1.ext E12
  have A_t1 := A_t1.ext E12
  have C_x1 := C_x1.ext E12
  have V_x1 := V_x1.ext E12
  have E_x2 := E_x2.ext E12
  have A_t2 := A_t2.ext E12
  have C_x2 := C_x2.ext E12
  have V_x2 := V_x2.ext E12
  have E_y3 := E_y3.ext E12
  have A_t3 := A_t3.ext E12
  have C_y3 := C_y3.ext E12
  have V_y3 := V_y3.ext E12
  have E_d3 := E_d3.ext E12
  have F_d3 := F_d3.ext E12
  have Es6 := Es6.ext E12
  have As6 := As6.ext E12
  have Cs6 := Cs6.ext E12
  have Vs6 := Vs6.ext E12
  have O := O.ext E12
  have KK := KK.ext E12
  have RR := RR.trans CR12
  have HH := CR12.1
  have hS := hS12
  have hk := hk12
  have hZ := hZ12
  have hown := hown12
  show GoH _ _ _ _ _ _ _ _ _ _  T12 (mkF m 166 #[.val (.int p1), .val (.int p2), .val (.int p3), .val (.int q1), .val (.int q2), .val (.ref x1), .val (.ref x2), .val (.ref d3), .val (.ref y3)] [(.int (1 : Int32))])
  refine GoH.st (fun _ => XS.ifNo X12.here hx rfl (hb hby at_166) rfl ((if0 _ _).trans (feq (by decide : ¬ ((1 : Int32) = (0 : Int32)))).1)) ?_
  show GoH _ _ _ _ _ _ _ _ _ _  T12 (mkF m 169 #[.val (.int p1), .val (.int p2), .val (.int p3), .val (.int q1), .val (.int q2), .val (.ref x1), .val (.ref x2), .val (.ref d3), .val (.ref y3)] [])
  refine GoH.st (fun _ => XS.aload X12.here hx rfl (hb hby at_169) rfl rfl) ?_
  refine GoH.st (fun _ => XS.bipush X12.here hx rfl (hb hby at_171)) ?_
  refine GoH.st (fun _ => XS.aload X12.here hx rfl (hb hby at_173) rfl rfl) ?_
  refine GoH.st (fun _ => XS.aload X12.here hx rfl (hb hby at_175) rfl rfl) ?_
  show GoH _ _ _ _ _ _ _ _ _ _  T12 (mkF m 177 #[.val (.int p1), .val (.int p2), .val (.int p3), .val (.int q1), .val (.int q2), .val (.ref x1), .val (.ref x2), .val (.ref d3), .val (.ref y3)] [(.ref x2), (.ref x1), (.int (7 : Int32)), (.ref y3)])
  obtain ⟨_, _, ⟨T13, L13, k13, n13⟩, -, X13, hSn13, hgn13, ⟨Lc13, hQ13, l13, y13, z13, CR13⟩, st13⟩ := callSS X12 hx (y := mY57) hown (mvT hZ (hwi hw 219 rfl)) (mvT hZ (hwi hw 220 rfl)) (mvT hZ (hwi hw 2 rfl)) (mvT hZ (hwi hw 221 rfl)) (by decide) (own_backSHX (sf := []) (Pv := fun vm => Lit (Z.setVm vm) "com/example/keyset/keyset/query/DeclarationExceptionForResourcePinLaw" 12 sa6) (W := 0) (rmO1a l Z a0 hw [] y3 x1 x2 7 sa6 sb6 kb6 zc fm t3 kt3 M t1 kt1 r1 t2 kt2 r2 T12.heap n0 O hEL wS S_COMPACT hcs S_SIO ref_fm S_ad S_hi S_lo E_y3 C_y3 V_y3 A_t3 eM hr_M E_x1 C_x1 V_x1 A_t1 E_x2 C_x2 V_x2 A_t2 B_r1 B_r2 hr_r1 hr_r2 Es6 Cs6 Vs6 As6 (by decide)) hZ (hwi hw 221 rfl) (hwi hw 2 rfl) (by decide) (by decide) hEL HH all0 (fun _ W => (Lit.stays (s := s) hLit W :))) (g := (mkF m 177 #[.val (.int p1), .val (.int p2), .val (.int p3), .val (.int q1), .val (.int q2), .val (.ref x1), .val (.ref x2), .val (.ref d3), .val (.ref y3)] [(.ref x2), (.ref x1), (.int (7 : Int32)), (.ref y3)])) rfl (by rw [hml]; rfl) (argsL := [(.ref y3), (.int (7 : Int32)), (.ref x1), (.ref x2)]) (rest := []) (lenOf pd__Ljava_lang_String_ILjava_lang_String_Ljava_lang_String__Z rfl) rfl (by show 2 * 0 + _ ≤ _; exact Nat.le_of_eq rfl) (hb hby at_177) (fun _ _ => ⟨rfl, rfl, (by decide : 34 + 0 ≤ _), (by decide : 5164 + 0 ≤ _)⟩)
  dsimp only [Pt.U, Pt.locs, Pt.cells, Pt.slots] at X13 l13 y13 z13 st13 hQ13 hSn13 hgn13 CR13
  rw [l13, y13, z13] at X13
  have X13 : Stand p l e _ _ m _ below meth c T13 _ 34 5164 := X13
  obtain ⟨rfl, N13q, E13q⟩ := hQ13
  have X13 : Stand p l e _ (s.setVm T13.vm) m _ below meth c T13 _ _ _ := X13
  have N13 := Fr.app N12 N13q
  refine GoH.tr st13 ?_
  have hS13 := Jvm.RoadKit.foldS hS hk hSn13 hgn13
  have hZ13 := State.Warmed39.trans (t := s.setVm T12.vm) hZ hSn13.1
  have hk13 := Nat.le_refl T13.heap.size
  have hown13 := own_fc hSn13.1 hown
  have hLit := Lit.stays hLit hSn13.1
  have E13 := E13q
  have E_x1 := E_x1.ext E13
  have A_t1 := A_t1.ext E13
  have C_x1 := C_x1.ext E13
  have V_x1 := V_x1.ext E13
  have E_x2 := E_x2.ext E13
  have A_t2 := A_t2.ext E13
  have C_x2 := C_x2.ext E13
  have V_x2 := V_x2.ext E13
  have E_y3 := E_y3.ext E13
  have A_t3 := A_t3.ext E13
  have C_y3 := C_y3.ext E13
  have V_y3 := V_y3.ext E13
  have E_d3 := E_d3.ext E13
  have F_d3 := F_d3.ext E13
  have Es6 := Es6.ext E13
  have As6 := As6.ext E13
  have Cs6 := Cs6.ext E13
  have Vs6 := Vs6.ext E13
  have O := O.ext E13
  have KK := KK.ext E13
  have RR := RR.trans CR13
  have HH := CR13.1
  have hS := hS13
  have hk := hk13
  have hZ := hZ13
  have hown := hown13
  show GoH _ _ _ _ _ _ _ _ _ _  T13 (mkF m 180 #[.val (.int p1), .val (.int p2), .val (.int p3), .val (.int q1), .val (.int q2), .val (.ref x1), .val (.ref x2), .val (.ref d3), .val (.ref y3)] [(.int (1 : Int32))])
  refine GoH.st (fun _ => XS.ifNo X13.here hx rfl (hb hby at_180) rfl ((if0 _ _).trans (feq (by decide : ¬ ((1 : Int32) = (0 : Int32)))).1)) ?_
  show GoH _ _ _ _ _ _ _ _ _ _  T13 (mkF m 183 #[.val (.int p1), .val (.int p2), .val (.int p3), .val (.int q1), .val (.int q2), .val (.ref x1), .val (.ref x2), .val (.ref d3), .val (.ref y3)] [])
  refine GoH.st (fun _ => XS.aload X13.here hx rfl (hb hby at_183) rfl rfl) ?_
  refine GoH.st (fun _ => XS.bipush X13.here hx rfl (hb hby at_185)) ?_
  refine GoH.st (fun _ => XS.aload X13.here hx rfl (hb hby at_187) rfl rfl) ?_
  refine GoH.st (fun _ => XS.aload X13.here hx rfl (hb hby at_189) rfl rfl) ?_
  show GoH _ _ _ _ _ _ _ _ _ _  T13 (mkF m 191 #[.val (.int p1), .val (.int p2), .val (.int p3), .val (.int q1), .val (.int q2), .val (.ref x1), .val (.ref x2), .val (.ref d3), .val (.ref y3)] [(.ref x2), (.ref x1), (.int (8 : Int32)), (.ref y3)])
  obtain ⟨_, _, ⟨T14, L14, k14, n14⟩, -, X14, hSn14, hgn14, ⟨Lc14, hQ14, l14, y14, z14, CR14⟩, st14⟩ := callSS X13 hx (y := mY57) hown (mvT hZ (hwi hw 219 rfl)) (mvT hZ (hwi hw 220 rfl)) (mvT hZ (hwi hw 2 rfl)) (mvT hZ (hwi hw 221 rfl)) (by decide) (own_backSHX (sf := []) (Pv := fun vm => Lit (Z.setVm vm) "com/example/keyset/keyset/query/DeclarationExceptionForResourcePinLaw" 12 sa6) (W := 0) (rmO1a l Z a0 hw [] y3 x1 x2 8 sa6 sb6 kb6 zc fm t3 kt3 M t1 kt1 r1 t2 kt2 r2 T13.heap n0 O hEL wS S_COMPACT hcs S_SIO ref_fm S_ad S_hi S_lo E_y3 C_y3 V_y3 A_t3 eM hr_M E_x1 C_x1 V_x1 A_t1 E_x2 C_x2 V_x2 A_t2 B_r1 B_r2 hr_r1 hr_r2 Es6 Cs6 Vs6 As6 (by decide)) hZ (hwi hw 221 rfl) (hwi hw 2 rfl) (by decide) (by decide) hEL HH all0 (fun _ W => (Lit.stays (s := s) hLit W :))) (g := (mkF m 191 #[.val (.int p1), .val (.int p2), .val (.int p3), .val (.int q1), .val (.int q2), .val (.ref x1), .val (.ref x2), .val (.ref d3), .val (.ref y3)] [(.ref x2), (.ref x1), (.int (8 : Int32)), (.ref y3)])) rfl (by rw [hml]; rfl) (argsL := [(.ref y3), (.int (8 : Int32)), (.ref x1), (.ref x2)]) (rest := []) (lenOf pd__Ljava_lang_String_ILjava_lang_String_Ljava_lang_String__Z rfl) rfl (by show 2 * 0 + _ ≤ _; exact Nat.le_of_eq rfl) (hb hby at_191) (fun _ _ => ⟨rfl, rfl, (by decide : 34 + 0 ≤ _), (by decide : 5164 + 0 ≤ _)⟩)
  dsimp only [Pt.U, Pt.locs, Pt.cells, Pt.slots] at X14 l14 y14 z14 st14 hQ14 hSn14 hgn14 CR14
  rw [l14, y14, z14] at X14
  have X14 : Stand p l e _ _ m _ below meth c T14 _ 34 5164 := X14
  obtain ⟨rfl, N14q, E14q⟩ := hQ14
  have X14 : Stand p l e _ (s.setVm T14.vm) m _ below meth c T14 _ _ _ := X14
  have N14 := Fr.app N13 N14q
  refine GoH.tr st14 ?_
  have hS14 := Jvm.RoadKit.foldS hS hk hSn14 hgn14
  have hZ14 := State.Warmed39.trans (t := s.setVm T13.vm) hZ hSn14.1
  have hk14 := Nat.le_refl T14.heap.size
  have hown14 := own_fc hSn14.1 hown
  have hLit := Lit.stays hLit hSn14.1
  have E14 := E14q
  have E_x1 := E_x1.ext E14
  have A_t1 := A_t1.ext E14
  have C_x1 := C_x1.ext E14
  have V_x1 := V_x1.ext E14
  have E_x2 := E_x2.ext E14
  have A_t2 := A_t2.ext E14
  have C_x2 := C_x2.ext E14
  have V_x2 := V_x2.ext E14
  have E_y3 := E_y3.ext E14
  have A_t3 := A_t3.ext E14
  have C_y3 := C_y3.ext E14
  have V_y3 := V_y3.ext E14
  have E_d3 := E_d3.ext E14
  have F_d3 := F_d3.ext E14
  have Es6 := Es6.ext E14
  have As6 := As6.ext E14
  have Cs6 := Cs6.ext E14
  have Vs6 := Vs6.ext E14
  have O := O.ext E14
  have KK := KK.ext E14
  have RR := RR.trans CR14
  have HH := CR14.1
  have hS := hS14
  have hk := hk14
  have hZ := hZ14
  have hown := hown14
  show GoH _ _ _ _ _ _ _ _ _ _  T14 (mkF m 194 #[.val (.int p1), .val (.int p2), .val (.int p3), .val (.int q1), .val (.int q2), .val (.ref x1), .val (.ref x2), .val (.ref d3), .val (.ref y3)] [(.int (1 : Int32))])
  refine GoH.st (fun _ => XS.ifNo X14.here hx rfl (hb hby at_194) rfl ((if0 _ _).trans (feq (by decide : ¬ ((1 : Int32) = (0 : Int32)))).1)) ?_
  show GoH _ _ _ _ _ _ _ _ _ _  T14 (mkF m 197 #[.val (.int p1), .val (.int p2), .val (.int p3), .val (.int q1), .val (.int q2), .val (.ref x1), .val (.ref x2), .val (.ref d3), .val (.ref y3)] [])
  refine GoH.st (fun _ => XS.aload X14.here hx rfl (hb hby at_197) rfl rfl) ?_
  refine GoH.st (fun _ => XS.bipush X14.here hx rfl (hb hby at_199)) ?_
  refine GoH.st (fun _ => XS.aload X14.here hx rfl (hb hby at_201) rfl rfl) ?_
  refine GoH.st (fun _ => XS.aload X14.here hx rfl (hb hby at_203) rfl rfl) ?_
  show GoH _ _ _ _ _ _ _ _ _ _  T14 (mkF m 205 #[.val (.int p1), .val (.int p2), .val (.int p3), .val (.int q1), .val (.int q2), .val (.ref x1), .val (.ref x2), .val (.ref d3), .val (.ref y3)] [(.ref x2), (.ref x1), (.int (9 : Int32)), (.ref y3)])
  obtain ⟨_, _, ⟨T15, L15, k15, n15⟩, -, X15, hSn15, hgn15, ⟨Lc15, hQ15, l15, y15, z15, CR15⟩, st15⟩ := callSS X14 hx (y := mY57) hown (mvT hZ (hwi hw 219 rfl)) (mvT hZ (hwi hw 220 rfl)) (mvT hZ (hwi hw 2 rfl)) (mvT hZ (hwi hw 221 rfl)) (by decide) (own_backSHX (sf := []) (Pv := fun vm => Lit (Z.setVm vm) "com/example/keyset/keyset/query/DeclarationExceptionForResourcePinLaw" 12 sa6) (W := 0) (rmO1a l Z a0 hw [] y3 x1 x2 9 sa6 sb6 kb6 zc fm t3 kt3 M t1 kt1 r1 t2 kt2 r2 T14.heap n0 O hEL wS S_COMPACT hcs S_SIO ref_fm S_ad S_hi S_lo E_y3 C_y3 V_y3 A_t3 eM hr_M E_x1 C_x1 V_x1 A_t1 E_x2 C_x2 V_x2 A_t2 B_r1 B_r2 hr_r1 hr_r2 Es6 Cs6 Vs6 As6 (by decide)) hZ (hwi hw 221 rfl) (hwi hw 2 rfl) (by decide) (by decide) hEL HH all0 (fun _ W => (Lit.stays (s := s) hLit W :))) (g := (mkF m 205 #[.val (.int p1), .val (.int p2), .val (.int p3), .val (.int q1), .val (.int q2), .val (.ref x1), .val (.ref x2), .val (.ref d3), .val (.ref y3)] [(.ref x2), (.ref x1), (.int (9 : Int32)), (.ref y3)])) rfl (by rw [hml]; rfl) (argsL := [(.ref y3), (.int (9 : Int32)), (.ref x1), (.ref x2)]) (rest := []) (lenOf pd__Ljava_lang_String_ILjava_lang_String_Ljava_lang_String__Z rfl) rfl (by show 2 * 0 + _ ≤ _; exact Nat.le_of_eq rfl) (hb hby at_205) (fun _ _ => ⟨rfl, rfl, (by decide : 34 + 0 ≤ _), (by decide : 5164 + 0 ≤ _)⟩)
  dsimp only [Pt.U, Pt.locs, Pt.cells, Pt.slots] at X15 l15 y15 z15 st15 hQ15 hSn15 hgn15 CR15
  rw [l15, y15, z15] at X15
  have X15 : Stand p l e _ _ m _ below meth c T15 _ 34 5164 := X15
  obtain ⟨rfl, N15q, E15q⟩ := hQ15
  have X15 : Stand p l e _ (s.setVm T15.vm) m _ below meth c T15 _ _ _ := X15
  have N15 := Fr.app N14 N15q
  refine GoH.tr st15 ?_
  have hS15 := Jvm.RoadKit.foldS hS hk hSn15 hgn15
  have hZ15 := State.Warmed39.trans (t := s.setVm T14.vm) hZ hSn15.1
  have hk15 := Nat.le_refl T15.heap.size
  have hown15 := own_fc hSn15.1 hown
  have hLit := Lit.stays hLit hSn15.1
  have E15 := E15q
  have E_x1 := E_x1.ext E15
  have A_t1 := A_t1.ext E15
  have C_x1 := C_x1.ext E15
  have V_x1 := V_x1.ext E15
  have E_x2 := E_x2.ext E15
  have A_t2 := A_t2.ext E15
  have C_x2 := C_x2.ext E15
  have V_x2 := V_x2.ext E15
  have E_y3 := E_y3.ext E15
  have A_t3 := A_t3.ext E15
  have C_y3 := C_y3.ext E15
  have V_y3 := V_y3.ext E15
  have E_d3 := E_d3.ext E15
  have F_d3 := F_d3.ext E15
  have Es6 := Es6.ext E15
  have As6 := As6.ext E15
  have Cs6 := Cs6.ext E15
  have Vs6 := Vs6.ext E15
  have O := O.ext E15
  have KK := KK.ext E15
  have RR := RR.trans CR15
  have HH := CR15.1
  have hS := hS15
  have hk := hk15
  have hZ := hZ15
  have hown := hown15
  show GoH _ _ _ _ _ _ _ _ _ _  T15 (mkF m 208 #[.val (.int p1), .val (.int p2), .val (.int p3), .val (.int q1), .val (.int q2), .val (.ref x1), .val (.ref x2), .val (.ref d3), .val (.ref y3)] [(.int (1 : Int32))])
  refine GoH.st (fun _ => XS.ifNo X15.here hx rfl (hb hby at_208) rfl ((if0 _ _).trans (feq (by decide : ¬ ((1 : Int32) = (0 : Int32)))).1)) ?_
  show GoH _ _ _ _ _ _ _ _ _ _  T15 (mkF m 211 #[.val (.int p1), .val (.int p2), .val (.int p3), .val (.int q1), .val (.int q2), .val (.ref x1), .val (.ref x2), .val (.ref d3), .val (.ref y3)] [])
  refine GoH.st (fun _ => XS.aload X15.here hx rfl (hb hby at_211) rfl rfl) ?_
  refine GoH.st (fun _ => XS.bipush X15.here hx rfl (hb hby at_213)) ?_
  refine GoH.st (fun _ => XS.aload X15.here hx rfl (hb hby at_215) rfl rfl) ?_
  refine GoH.st (fun _ => XS.aload X15.here hx rfl (hb hby at_217) rfl rfl) ?_
  show GoH _ _ _ _ _ _ _ _ _ _  T15 (mkF m 219 #[.val (.int p1), .val (.int p2), .val (.int p3), .val (.int q1), .val (.int q2), .val (.ref x1), .val (.ref x2), .val (.ref d3), .val (.ref y3)] [(.ref x2), (.ref x1), (.int (10 : Int32)), (.ref y3)])
  obtain ⟨_, _, ⟨T16, L16, k16, n16⟩, -, X16, hSn16, hgn16, ⟨Lc16, hQ16, l16, y16, z16, CR16⟩, st16⟩ := callSS X15 hx (y := mY57) hown (mvT hZ (hwi hw 219 rfl)) (mvT hZ (hwi hw 220 rfl)) (mvT hZ (hwi hw 2 rfl)) (mvT hZ (hwi hw 221 rfl)) (by decide) (own_backSHX (sf := []) (Pv := fun vm => Lit (Z.setVm vm) "com/example/keyset/keyset/query/DeclarationExceptionForResourcePinLaw" 12 sa6) (W := 0) (rmO1 l Z a0 hw [] y3 x1 x2 10 sa6 sb6 kb6 zc fm t3 kt3 M t1 kt1 r1 t2 kt2 r2 T15.heap n0 O hEL wS S_COMPACT hcs S_SIO ref_fm S_ad S_hi S_lo E_y3 C_y3 V_y3 A_t3 eM hr_M E_x1 C_x1 V_x1 A_t1 E_x2 C_x2 V_x2 A_t2 B_r1 B_r2 hr_r1 hr_r2 Es6 Cs6 Vs6 As6 (by decide)) hZ (hwi hw 221 rfl) (hwi hw 2 rfl) (by decide) (by decide) hEL HH all0 (fun _ W => (Lit.stays (s := s) hLit W :))) (g := (mkF m 219 #[.val (.int p1), .val (.int p2), .val (.int p3), .val (.int q1), .val (.int q2), .val (.ref x1), .val (.ref x2), .val (.ref d3), .val (.ref y3)] [(.ref x2), (.ref x1), (.int (10 : Int32)), (.ref y3)])) rfl (by rw [hml]; rfl) (argsL := [(.ref y3), (.int (10 : Int32)), (.ref x1), (.ref x2)]) (rest := []) (lenOf pd__Ljava_lang_String_ILjava_lang_String_Ljava_lang_String__Z rfl) rfl (by show 2 * 0 + _ ≤ _; exact Nat.le_of_eq rfl) (hb hby at_219) (fun _ _ => ⟨rfl, rfl, (by decide : 34 + 2 ≤ _), (by decide : 5164 + 16 ≤ _)⟩)
  dsimp only [Pt.U, Pt.locs, Pt.cells, Pt.slots] at X16 l16 y16 z16 st16 hQ16 hSn16 hgn16 CR16
  rw [l16, y16, z16] at X16
  have X16 : Stand p l e _ _ m _ below meth c T16 _ 36 5180 := X16
  obtain ⟨rfl, N16q, E16q⟩ := hQ16
  have X16 : Stand p l e _ (s.setVm T16.vm) m _ below meth c T16 _ _ _ := X16
  have N16 := Fr.app N15 N16q
  refine GoH.tr st16 ?_
  have hS16 := Jvm.RoadKit.foldS hS hk hSn16 hgn16
  have hZ16 := State.Warmed39.trans (t := s.setVm T15.vm) hZ hSn16.1
  have hk16 := Nat.le_refl T16.heap.size
  have hown16 := own_fc hSn16.1 hown
  have hLit := Lit.stays hLit hSn16.1
  have E16 := E16q
  have E_x1 := E_x1.ext E16
  have A_t1 := A_t1.ext E16
  have C_x1 := C_x1.ext E16
  have V_x1 := V_x1.ext E16
  have E_x2 := E_x2.ext E16
  have A_t2 := A_t2.ext E16
  have C_x2 := C_x2.ext E16
  have V_x2 := V_x2.ext E16
  have E_y3 := E_y3.ext E16
  have A_t3 := A_t3.ext E16
  have C_y3 := C_y3.ext E16
  have V_y3 := V_y3.ext E16
  have E_d3 := E_d3.ext E16
  have F_d3 := F_d3.ext E16
  have Es6 := Es6.ext E16
  have As6 := As6.ext E16
  have Cs6 := Cs6.ext E16
  have Vs6 := Vs6.ext E16
  have O := O.ext E16
  have KK := KK.ext E16
  have RR := RR.trans CR16
  have HH := CR16.1
  have hS := hS16
  have hk := hk16
  have hZ := hZ16
  have hown := hown16
  show GoH _ _ _ _ _ _ _ _ _ _  T16 (mkF m 222 #[.val (.int p1), .val (.int p2), .val (.int p3), .val (.int q1), .val (.int q2), .val (.ref x1), .val (.ref x2), .val (.ref d3), .val (.ref y3)] [(.int (1 : Int32))])
  refine GoH.st (fun _ => XS.ifNo X16.here hx rfl (hb hby at_222) rfl ((if0 _ _).trans (feq (by decide : ¬ ((1 : Int32) = (0 : Int32)))).1)) ?_
  show GoH _ _ _ _ _ _ _ _ _ _  T16 (mkF m 225 #[.val (.int p1), .val (.int p2), .val (.int p3), .val (.int q1), .val (.int q2), .val (.ref x1), .val (.ref x2), .val (.ref d3), .val (.ref y3)] [])
  refine GoH.st (fun _ => XS.aload X16.here hx rfl (hb hby at_225) rfl rfl) ?_
  refine GoH.st (fun _ => XS.bipush X16.here hx rfl (hb hby at_227)) ?_
  refine GoH.st (fun _ => XS.aload X16.here hx rfl (hb hby at_229) rfl rfl) ?_
  refine GoH.st (fun _ => XS.aload X16.here hx rfl (hb hby at_231) rfl rfl) ?_
  show GoH _ _ _ _ _ _ _ _ _ _  T16 (mkF m 233 #[.val (.int p1), .val (.int p2), .val (.int p3), .val (.int q1), .val (.int q2), .val (.ref x1), .val (.ref x2), .val (.ref d3), .val (.ref y3)] [(.ref x2), (.ref x1), (.int (11 : Int32)), (.ref y3)])
  obtain ⟨_, _, ⟨T17, L17, k17, n17⟩, -, X17, hSn17, hgn17, ⟨Lc17, hQ17, l17, y17, z17, CR17⟩, st17⟩ := callSS X16 hx (y := mY57) hown (mvT hZ (hwi hw 219 rfl)) (mvT hZ (hwi hw 220 rfl)) (mvT hZ (hwi hw 2 rfl)) (mvT hZ (hwi hw 221 rfl)) (by decide) (own_backSHX (sf := []) (Pv := fun vm => Lit (Z.setVm vm) "com/example/keyset/keyset/query/DeclarationExceptionForResourcePinLaw" 12 sa6) (W := 0) (rmO1 l Z a0 hw [] y3 x1 x2 11 sa6 sb6 kb6 zc fm t3 kt3 M t1 kt1 r1 t2 kt2 r2 T16.heap n0 O hEL wS S_COMPACT hcs S_SIO ref_fm S_ad S_hi S_lo E_y3 C_y3 V_y3 A_t3 eM hr_M E_x1 C_x1 V_x1 A_t1 E_x2 C_x2 V_x2 A_t2 B_r1 B_r2 hr_r1 hr_r2 Es6 Cs6 Vs6 As6 (by decide)) hZ (hwi hw 221 rfl) (hwi hw 2 rfl) (by decide) (by decide) hEL HH all0 (fun _ W => (Lit.stays (s := s) hLit W :))) (g := (mkF m 233 #[.val (.int p1), .val (.int p2), .val (.int p3), .val (.int q1), .val (.int q2), .val (.ref x1), .val (.ref x2), .val (.ref d3), .val (.ref y3)] [(.ref x2), (.ref x1), (.int (11 : Int32)), (.ref y3)])) rfl (by rw [hml]; rfl) (argsL := [(.ref y3), (.int (11 : Int32)), (.ref x1), (.ref x2)]) (rest := []) (lenOf pd__Ljava_lang_String_ILjava_lang_String_Ljava_lang_String__Z rfl) rfl (by show 2 * 0 + _ ≤ _; exact Nat.le_of_eq rfl) (hb hby at_233) (fun _ _ => ⟨rfl, rfl, (by decide : 36 + 2 ≤ _), (by decide : 5180 + 16 ≤ _)⟩)
  dsimp only [Pt.U, Pt.locs, Pt.cells, Pt.slots] at X17 l17 y17 z17 st17 hQ17 hSn17 hgn17 CR17
  rw [l17, y17, z17] at X17
  have X17 : Stand p l e _ _ m _ below meth c T17 _ 38 5196 := X17
  obtain ⟨rfl, N17q, E17q⟩ := hQ17
  have X17 : Stand p l e _ (s.setVm T17.vm) m _ below meth c T17 _ _ _ := X17
  have N17 := Fr.app N16 N17q
  refine GoH.tr st17 ?_
  have hS17 := Jvm.RoadKit.foldS hS hk hSn17 hgn17
  have hZ17 := State.Warmed39.trans (t := s.setVm T16.vm) hZ hSn17.1
  have hk17 := Nat.le_refl T17.heap.size
  have hown17 := own_fc hSn17.1 hown
  have hLit := Lit.stays hLit hSn17.1
  have E17 := E17q
  have E_x1 := E_x1.ext E17
  have A_t1 := A_t1.ext E17
  have C_x1 := C_x1.ext E17
  have V_x1 := V_x1.ext E17
  have E_x2 := E_x2.ext E17
  have A_t2 := A_t2.ext E17
  have C_x2 := C_x2.ext E17
  have V_x2 := V_x2.ext E17
  have E_y3 := E_y3.ext E17
  have A_t3 := A_t3.ext E17
  have C_y3 := C_y3.ext E17
  have V_y3 := V_y3.ext E17
  have E_d3 := E_d3.ext E17
  have F_d3 := F_d3.ext E17
  have Es6 := Es6.ext E17
  have As6 := As6.ext E17
  have Cs6 := Cs6.ext E17
  have Vs6 := Vs6.ext E17
  have O := O.ext E17
  have KK := KK.ext E17
  have RR := RR.trans CR17
  have HH := CR17.1
  have hS := hS17
  have hk := hk17
  have hZ := hZ17
  have hown := hown17
  show GoH _ _ _ _ _ _ _ _ _ _  T17 (mkF m 236 #[.val (.int p1), .val (.int p2), .val (.int p3), .val (.int q1), .val (.int q2), .val (.ref x1), .val (.ref x2), .val (.ref d3), .val (.ref y3)] [(.int (1 : Int32))])
  refine GoH.st (fun _ => XS.ifNo X17.here hx rfl (hb hby at_236) rfl ((if0 _ _).trans (feq (by decide : ¬ ((1 : Int32) = (0 : Int32)))).1)) ?_
  show GoH _ _ _ _ _ _ _ _ _ _  T17 (mkF m 239 #[.val (.int p1), .val (.int p2), .val (.int p3), .val (.int q1), .val (.int q2), .val (.ref x1), .val (.ref x2), .val (.ref d3), .val (.ref y3)] [])
  refine GoH.st (fun _ => XS.aload X17.here hx rfl (hb hby at_239) rfl rfl) ?_
  refine GoH.st (fun _ => XS.bipush X17.here hx rfl (hb hby at_241)) ?_
  refine GoH.st (fun _ => XS.aload X17.here hx rfl (hb hby at_243) rfl rfl) ?_
  refine GoH.st (fun _ => XS.aload X17.here hx rfl (hb hby at_245) rfl rfl) ?_
  show GoH _ _ _ _ _ _ _ _ _ _  T17 (mkF m 247 #[.val (.int p1), .val (.int p2), .val (.int p3), .val (.int q1), .val (.int q2), .val (.ref x1), .val (.ref x2), .val (.ref d3), .val (.ref y3)] [(.ref x2), (.ref x1), (.int (12 : Int32)), (.ref y3)])
  obtain ⟨_, _, ⟨T18, L18, k18, n18⟩, -, X18, hSn18, hgn18, ⟨Lc18, hQ18, l18, y18, z18, CR18⟩, st18⟩ := callSS X17 hx (y := mY57) hown (mvT hZ (hwi hw 219 rfl)) (mvT hZ (hwi hw 220 rfl)) (mvT hZ (hwi hw 2 rfl)) (mvT hZ (hwi hw 221 rfl)) (by decide) (own_backSHX (sf := []) (Pv := fun vm => Lit (Z.setVm vm) "com/example/keyset/keyset/query/DeclarationExceptionForResourcePinLaw" 12 sa6) (W := 0) (rmO1 l Z a0 hw [] y3 x1 x2 12 sa6 sb6 kb6 zc fm t3 kt3 M t1 kt1 r1 t2 kt2 r2 T17.heap n0 O hEL wS S_COMPACT hcs S_SIO ref_fm S_ad S_hi S_lo E_y3 C_y3 V_y3 A_t3 eM hr_M E_x1 C_x1 V_x1 A_t1 E_x2 C_x2 V_x2 A_t2 B_r1 B_r2 hr_r1 hr_r2 Es6 Cs6 Vs6 As6 (by decide)) hZ (hwi hw 221 rfl) (hwi hw 2 rfl) (by decide) (by decide) hEL HH all0 (fun _ W => (Lit.stays (s := s) hLit W :))) (g := (mkF m 247 #[.val (.int p1), .val (.int p2), .val (.int p3), .val (.int q1), .val (.int q2), .val (.ref x1), .val (.ref x2), .val (.ref d3), .val (.ref y3)] [(.ref x2), (.ref x1), (.int (12 : Int32)), (.ref y3)])) rfl (by rw [hml]; rfl) (argsL := [(.ref y3), (.int (12 : Int32)), (.ref x1), (.ref x2)]) (rest := []) (lenOf pd__Ljava_lang_String_ILjava_lang_String_Ljava_lang_String__Z rfl) rfl (by show 2 * 0 + _ ≤ _; exact Nat.le_of_eq rfl) (hb hby at_247) (fun _ _ => ⟨rfl, rfl, (by decide : 38 + 2 ≤ _), (by decide : 5196 + 16 ≤ _)⟩)
  dsimp only [Pt.U, Pt.locs, Pt.cells, Pt.slots] at X18 l18 y18 z18 st18 hQ18 hSn18 hgn18 CR18
  rw [l18, y18, z18] at X18
  have X18 : Stand p l e _ _ m _ below meth c T18 _ 40 5212 := X18
  obtain ⟨rfl, N18q, E18q⟩ := hQ18
  have X18 : Stand p l e _ (s.setVm T18.vm) m _ below meth c T18 _ _ _ := X18
  have N18 := Fr.app N17 N18q
  refine GoH.tr st18 ?_
  have hS18 := Jvm.RoadKit.foldS hS hk hSn18 hgn18
  have hZ18 := State.Warmed39.trans (t := s.setVm T17.vm) hZ hSn18.1
  have hk18 := Nat.le_refl T18.heap.size
  have hown18 := own_fc hSn18.1 hown
  have hLit := Lit.stays hLit hSn18.1
  have E18 := E18q
  have E_x1 := E_x1.ext E18
  have A_t1 := A_t1.ext E18
  have C_x1 := C_x1.ext E18
  have V_x1 := V_x1.ext E18
  have E_x2 := E_x2.ext E18
  have A_t2 := A_t2.ext E18
  have C_x2 := C_x2.ext E18
  have V_x2 := V_x2.ext E18
  have E_y3 := E_y3.ext E18
  have A_t3 := A_t3.ext E18
  have C_y3 := C_y3.ext E18
  have V_y3 := V_y3.ext E18
  have E_d3 := E_d3.ext E18
  have F_d3 := F_d3.ext E18
  have Es6 := Es6.ext E18
  have As6 := As6.ext E18
  have Cs6 := Cs6.ext E18
  have Vs6 := Vs6.ext E18
  have O := O.ext E18
  have KK := KK.ext E18
  have RR := RR.trans CR18
  have HH := CR18.1
  have hS := hS18
  have hk := hk18
  have hZ := hZ18
  have hown := hown18
  show GoH _ _ _ _ _ _ _ _ _ _  T18 (mkF m 250 #[.val (.int p1), .val (.int p2), .val (.int p3), .val (.int q1), .val (.int q2), .val (.ref x1), .val (.ref x2), .val (.ref d3), .val (.ref y3)] [(.int (1 : Int32))])
  refine GoH.st (fun _ => XS.ifNo X18.here hx rfl (hb hby at_250) rfl ((if0 _ _).trans (feq (by decide : ¬ ((1 : Int32) = (0 : Int32)))).1)) ?_
  show GoH _ _ _ _ _ _ _ _ _ _  T18 (mkF m 253 #[.val (.int p1), .val (.int p2), .val (.int p3), .val (.int q1), .val (.int q2), .val (.ref x1), .val (.ref x2), .val (.ref d3), .val (.ref y3)] [])
  refine GoH.st (fun _ => XS.aload X18.here hx rfl (hb hby at_253) rfl rfl) ?_
  refine GoH.st (fun _ => XS.bipush X18.here hx rfl (hb hby at_255)) ?_
  refine GoH.st (fun _ => XS.aload X18.here hx rfl (hb hby at_257) rfl rfl) ?_
  refine GoH.st (fun _ => XS.aload X18.here hx rfl (hb hby at_259) rfl rfl) ?_
  show GoH _ _ _ _ _ _ _ _ _ _  T18 (mkF m 261 #[.val (.int p1), .val (.int p2), .val (.int p3), .val (.int q1), .val (.int q2), .val (.ref x1), .val (.ref x2), .val (.ref d3), .val (.ref y3)] [(.ref x2), (.ref x1), (.int (13 : Int32)), (.ref y3)])
  obtain ⟨_, _, ⟨T19, L19, k19, n19⟩, -, X19, hSn19, hgn19, ⟨Lc19, hQ19, l19, y19, z19, CR19⟩, st19⟩ := callSS X18 hx (y := mY57) hown (mvT hZ (hwi hw 219 rfl)) (mvT hZ (hwi hw 220 rfl)) (mvT hZ (hwi hw 2 rfl)) (mvT hZ (hwi hw 221 rfl)) (by decide) (own_backSHX (sf := []) (Pv := fun vm => Lit (Z.setVm vm) "com/example/keyset/keyset/query/DeclarationExceptionForResourcePinLaw" 12 sa6) (W := 0) (rmO1 l Z a0 hw [] y3 x1 x2 13 sa6 sb6 kb6 zc fm t3 kt3 M t1 kt1 r1 t2 kt2 r2 T18.heap n0 O hEL wS S_COMPACT hcs S_SIO ref_fm S_ad S_hi S_lo E_y3 C_y3 V_y3 A_t3 eM hr_M E_x1 C_x1 V_x1 A_t1 E_x2 C_x2 V_x2 A_t2 B_r1 B_r2 hr_r1 hr_r2 Es6 Cs6 Vs6 As6 (by decide)) hZ (hwi hw 221 rfl) (hwi hw 2 rfl) (by decide) (by decide) hEL HH all0 (fun _ W => (Lit.stays (s := s) hLit W :))) (g := (mkF m 261 #[.val (.int p1), .val (.int p2), .val (.int p3), .val (.int q1), .val (.int q2), .val (.ref x1), .val (.ref x2), .val (.ref d3), .val (.ref y3)] [(.ref x2), (.ref x1), (.int (13 : Int32)), (.ref y3)])) rfl (by rw [hml]; rfl) (argsL := [(.ref y3), (.int (13 : Int32)), (.ref x1), (.ref x2)]) (rest := []) (lenOf pd__Ljava_lang_String_ILjava_lang_String_Ljava_lang_String__Z rfl) rfl (by show 2 * 0 + _ ≤ _; exact Nat.le_of_eq rfl) (hb hby at_261) (fun _ _ => ⟨rfl, rfl, (by decide : 40 + 2 ≤ _), (by decide : 5212 + 16 ≤ _)⟩)
  dsimp only [Pt.U, Pt.locs, Pt.cells, Pt.slots] at X19 l19 y19 z19 st19 hQ19 hSn19 hgn19 CR19
  rw [l19, y19, z19] at X19
  have X19 : Stand p l e _ _ m _ below meth c T19 _ 42 5228 := X19
  obtain ⟨rfl, N19q, E19q⟩ := hQ19
  have X19 : Stand p l e _ (s.setVm T19.vm) m _ below meth c T19 _ _ _ := X19
  have N19 := Fr.app N18 N19q
  refine GoH.tr st19 ?_
  have hS19 := Jvm.RoadKit.foldS hS hk hSn19 hgn19
  have hZ19 := State.Warmed39.trans (t := s.setVm T18.vm) hZ hSn19.1
  have hk19 := Nat.le_refl T19.heap.size
  have hown19 := own_fc hSn19.1 hown
  have hLit := Lit.stays hLit hSn19.1
  have E19 := E19q
  have E_x1 := E_x1.ext E19
  have A_t1 := A_t1.ext E19
  have C_x1 := C_x1.ext E19
  have V_x1 := V_x1.ext E19
  have E_x2 := E_x2.ext E19
  have A_t2 := A_t2.ext E19
  have C_x2 := C_x2.ext E19
  have V_x2 := V_x2.ext E19
  have E_y3 := E_y3.ext E19
  have A_t3 := A_t3.ext E19
  have C_y3 := C_y3.ext E19
  have V_y3 := V_y3.ext E19
  have E_d3 := E_d3.ext E19
  have F_d3 := F_d3.ext E19
  have Es6 := Es6.ext E19
  have As6 := As6.ext E19
  have Cs6 := Cs6.ext E19
  have Vs6 := Vs6.ext E19
  have O := O.ext E19
  have KK := KK.ext E19
  have RR := RR.trans CR19
  have HH := CR19.1
  have hS := hS19
  have hk := hk19
  have hZ := hZ19
  have hown := hown19
  show GoH _ _ _ _ _ _ _ _ _ _  T19 (mkF m 264 #[.val (.int p1), .val (.int p2), .val (.int p3), .val (.int q1), .val (.int q2), .val (.ref x1), .val (.ref x2), .val (.ref d3), .val (.ref y3)] [(.int (1 : Int32))])
  refine GoH.st (fun _ => XS.ifNo X19.here hx rfl (hb hby at_264) rfl ((if0 _ _).trans (feq (by decide : ¬ ((1 : Int32) = (0 : Int32)))).1)) ?_
  show GoH _ _ _ _ _ _ _ _ _ _  T19 (mkF m 267 #[.val (.int p1), .val (.int p2), .val (.int p3), .val (.int q1), .val (.int q2), .val (.ref x1), .val (.ref x2), .val (.ref d3), .val (.ref y3)] [])
  refine GoH.st (fun _ => XS.aload X19.here hx rfl (hb hby at_267) rfl rfl) ?_
  refine GoH.st (fun _ => XS.bipush X19.here hx rfl (hb hby at_269)) ?_
  refine GoH.st (fun _ => XS.aload X19.here hx rfl (hb hby at_271) rfl rfl) ?_
  refine GoH.st (fun _ => XS.aload X19.here hx rfl (hb hby at_273) rfl rfl) ?_
  show GoH _ _ _ _ _ _ _ _ _ _  T19 (mkF m 275 #[.val (.int p1), .val (.int p2), .val (.int p3), .val (.int q1), .val (.int q2), .val (.ref x1), .val (.ref x2), .val (.ref d3), .val (.ref y3)] [(.ref x2), (.ref x1), (.int (14 : Int32)), (.ref y3)])
  obtain ⟨_, _, ⟨T20, L20, k20, n20⟩, -, X20, hSn20, hgn20, ⟨Lc20, hQ20, l20, y20, z20, CR20⟩, st20⟩ := callSS X19 hx (y := mY57) hown (mvT hZ (hwi hw 219 rfl)) (mvT hZ (hwi hw 220 rfl)) (mvT hZ (hwi hw 2 rfl)) (mvT hZ (hwi hw 221 rfl)) (by decide) (own_backSHX (sf := []) (Pv := fun vm => Lit (Z.setVm vm) "com/example/keyset/keyset/query/DeclarationExceptionForResourcePinLaw" 12 sa6) (W := 0) (rmO1 l Z a0 hw [] y3 x1 x2 14 sa6 sb6 kb6 zc fm t3 kt3 M t1 kt1 r1 t2 kt2 r2 T19.heap n0 O hEL wS S_COMPACT hcs S_SIO ref_fm S_ad S_hi S_lo E_y3 C_y3 V_y3 A_t3 eM hr_M E_x1 C_x1 V_x1 A_t1 E_x2 C_x2 V_x2 A_t2 B_r1 B_r2 hr_r1 hr_r2 Es6 Cs6 Vs6 As6 (by decide)) hZ (hwi hw 221 rfl) (hwi hw 2 rfl) (by decide) (by decide) hEL HH all0 (fun _ W => (Lit.stays (s := s) hLit W :))) (g := (mkF m 275 #[.val (.int p1), .val (.int p2), .val (.int p3), .val (.int q1), .val (.int q2), .val (.ref x1), .val (.ref x2), .val (.ref d3), .val (.ref y3)] [(.ref x2), (.ref x1), (.int (14 : Int32)), (.ref y3)])) rfl (by rw [hml]; rfl) (argsL := [(.ref y3), (.int (14 : Int32)), (.ref x1), (.ref x2)]) (rest := []) (lenOf pd__Ljava_lang_String_ILjava_lang_String_Ljava_lang_String__Z rfl) rfl (by show 2 * 0 + _ ≤ _; exact Nat.le_of_eq rfl) (hb hby at_275) (fun _ _ => ⟨rfl, rfl, (by decide : 42 + 2 ≤ _), (by decide : 5228 + 16 ≤ _)⟩)
  dsimp only [Pt.U, Pt.locs, Pt.cells, Pt.slots] at X20 l20 y20 z20 st20 hQ20 hSn20 hgn20 CR20
  rw [l20, y20, z20] at X20
  have X20 : Stand p l e _ _ m _ below meth c T20 _ 44 5244 := X20
  obtain ⟨rfl, N20q, E20q⟩ := hQ20
  have X20 : Stand p l e _ (s.setVm T20.vm) m _ below meth c T20 _ _ _ := X20
  have N20 := Fr.app N19 N20q
  refine GoH.tr st20 ?_
  have hS20 := Jvm.RoadKit.foldS hS hk hSn20 hgn20
  have hZ20 := State.Warmed39.trans (t := s.setVm T19.vm) hZ hSn20.1
  have hk20 := Nat.le_refl T20.heap.size
  have hown20 := own_fc hSn20.1 hown
  have hLit := Lit.stays hLit hSn20.1
  have E20 := E20q
  have E_x1 := E_x1.ext E20
  have A_t1 := A_t1.ext E20
  have C_x1 := C_x1.ext E20
  have V_x1 := V_x1.ext E20
  have E_x2 := E_x2.ext E20
  have A_t2 := A_t2.ext E20
  have C_x2 := C_x2.ext E20
  have V_x2 := V_x2.ext E20
  have E_y3 := E_y3.ext E20
  have A_t3 := A_t3.ext E20
  have C_y3 := C_y3.ext E20
  have V_y3 := V_y3.ext E20
  have E_d3 := E_d3.ext E20
  have F_d3 := F_d3.ext E20
  have Es6 := Es6.ext E20
  have As6 := As6.ext E20
  have Cs6 := Cs6.ext E20
  have Vs6 := Vs6.ext E20
  have O := O.ext E20
  have KK := KK.ext E20
  have RR := RR.trans CR20
  have HH := CR20.1
  have hS := hS20
  have hk := hk20
  have hZ := hZ20
  have hown := hown20
  show GoH _ _ _ _ _ _ _ _ _ _  T20 (mkF m 278 #[.val (.int p1), .val (.int p2), .val (.int p3), .val (.int q1), .val (.int q2), .val (.ref x1), .val (.ref x2), .val (.ref d3), .val (.ref y3)] [(.int (1 : Int32))])
  refine GoH.st (fun _ => XS.ifNo X20.here hx rfl (hb hby at_278) rfl ((if0 _ _).trans (feq (by decide : ¬ ((1 : Int32) = (0 : Int32)))).1)) ?_
  show GoH _ _ _ _ _ _ _ _ _ _  T20 (mkF m 281 #[.val (.int p1), .val (.int p2), .val (.int p3), .val (.int q1), .val (.int q2), .val (.ref x1), .val (.ref x2), .val (.ref d3), .val (.ref y3)] [])
  refine GoH.st (fun _ => XS.aload X20.here hx rfl (hb hby at_281) rfl rfl) ?_
  refine GoH.st (fun _ => XS.bipush X20.here hx rfl (hb hby at_283)) ?_
  refine GoH.st (fun _ => XS.aload X20.here hx rfl (hb hby at_285) rfl rfl) ?_
  refine GoH.st (fun _ => XS.aload X20.here hx rfl (hb hby at_287) rfl rfl) ?_
  show GoH _ _ _ _ _ _ _ _ _ _  T20 (mkF m 289 #[.val (.int p1), .val (.int p2), .val (.int p3), .val (.int q1), .val (.int q2), .val (.ref x1), .val (.ref x2), .val (.ref d3), .val (.ref y3)] [(.ref x2), (.ref x1), (.int (15 : Int32)), (.ref y3)])
  obtain ⟨_, _, ⟨T21, L21, k21, n21⟩, -, X21, hSn21, hgn21, ⟨Lc21, hQ21, l21, y21, z21, CR21⟩, st21⟩ := callSS X20 hx (y := mY57) hown (mvT hZ (hwi hw 219 rfl)) (mvT hZ (hwi hw 220 rfl)) (mvT hZ (hwi hw 2 rfl)) (mvT hZ (hwi hw 221 rfl)) (by decide) (own_backSHX (sf := []) (Pv := fun vm => Lit (Z.setVm vm) "com/example/keyset/keyset/query/DeclarationExceptionForResourcePinLaw" 12 sa6) (W := 0) (rmO1 l Z a0 hw [] y3 x1 x2 15 sa6 sb6 kb6 zc fm t3 kt3 M t1 kt1 r1 t2 kt2 r2 T20.heap n0 O hEL wS S_COMPACT hcs S_SIO ref_fm S_ad S_hi S_lo E_y3 C_y3 V_y3 A_t3 eM hr_M E_x1 C_x1 V_x1 A_t1 E_x2 C_x2 V_x2 A_t2 B_r1 B_r2 hr_r1 hr_r2 Es6 Cs6 Vs6 As6 (by decide)) hZ (hwi hw 221 rfl) (hwi hw 2 rfl) (by decide) (by decide) hEL HH all0 (fun _ W => (Lit.stays (s := s) hLit W :))) (g := (mkF m 289 #[.val (.int p1), .val (.int p2), .val (.int p3), .val (.int q1), .val (.int q2), .val (.ref x1), .val (.ref x2), .val (.ref d3), .val (.ref y3)] [(.ref x2), (.ref x1), (.int (15 : Int32)), (.ref y3)])) rfl (by rw [hml]; rfl) (argsL := [(.ref y3), (.int (15 : Int32)), (.ref x1), (.ref x2)]) (rest := []) (lenOf pd__Ljava_lang_String_ILjava_lang_String_Ljava_lang_String__Z rfl) rfl (by show 2 * 0 + _ ≤ _; exact Nat.le_of_eq rfl) (hb hby at_289) (fun _ _ => ⟨rfl, rfl, (by decide : 44 + 2 ≤ _), (by decide : 5244 + 16 ≤ _)⟩)
  dsimp only [Pt.U, Pt.locs, Pt.cells, Pt.slots] at X21 l21 y21 z21 st21 hQ21 hSn21 hgn21 CR21
  rw [l21, y21, z21] at X21
  have X21 : Stand p l e _ _ m _ below meth c T21 _ 46 5260 := X21
  obtain ⟨rfl, N21q, E21q⟩ := hQ21
  have X21 : Stand p l e _ (s.setVm T21.vm) m _ below meth c T21 _ _ _ := X21
  have N21 := Fr.app N20 N21q
  refine GoH.tr st21 ?_
  have hS21 := Jvm.RoadKit.foldS hS hk hSn21 hgn21
  have hZ21 := State.Warmed39.trans (t := s.setVm T20.vm) hZ hSn21.1
  have hk21 := Nat.le_refl T21.heap.size
  have hown21 := own_fc hSn21.1 hown
  have hLit := Lit.stays hLit hSn21.1
  have E21 := E21q
  have E_x1 := E_x1.ext E21
  have A_t1 := A_t1.ext E21
  have C_x1 := C_x1.ext E21
  have V_x1 := V_x1.ext E21
  have E_x2 := E_x2.ext E21
  have A_t2 := A_t2.ext E21
  have C_x2 := C_x2.ext E21
  have V_x2 := V_x2.ext E21
  have E_y3 := E_y3.ext E21
  have A_t3 := A_t3.ext E21
  have C_y3 := C_y3.ext E21
  have V_y3 := V_y3.ext E21
  have E_d3 := E_d3.ext E21
  have F_d3 := F_d3.ext E21
  have Es6 := Es6.ext E21
  have As6 := As6.ext E21
  have Cs6 := Cs6.ext E21
  have Vs6 := Vs6.ext E21
  have O := O.ext E21
  have KK := KK.ext E21
  have RR := RR.trans CR21
  have HH := CR21.1
  have hS := hS21
  have hk := hk21
  have hZ := hZ21
  have hown := hown21
  show GoH _ _ _ _ _ _ _ _ _ _  T21 (mkF m 292 #[.val (.int p1), .val (.int p2), .val (.int p3), .val (.int q1), .val (.int q2), .val (.ref x1), .val (.ref x2), .val (.ref d3), .val (.ref y3)] [(.int (1 : Int32))])
  refine GoH.st (fun _ => XS.ifNo X21.here hx rfl (hb hby at_292) rfl ((if0 _ _).trans (feq (by decide : ¬ ((1 : Int32) = (0 : Int32)))).1)) ?_
  show GoH _ _ _ _ _ _ _ _ _ _  T21 (mkF m 295 #[.val (.int p1), .val (.int p2), .val (.int p3), .val (.int q1), .val (.int q2), .val (.ref x1), .val (.ref x2), .val (.ref d3), .val (.ref y3)] [])
  refine GoH.st (fun _ => XS.aload X21.here hx rfl (hb hby at_295) rfl rfl) ?_
  refine GoH.st (fun _ => XS.bipush X21.here hx rfl (hb hby at_297)) ?_
  refine GoH.st (fun _ => XS.aload X21.here hx rfl (hb hby at_299) rfl rfl) ?_
  refine GoH.st (fun _ => XS.aload X21.here hx rfl (hb hby at_301) rfl rfl) ?_
  show GoH _ _ _ _ _ _ _ _ _ _  T21 (mkF m 303 #[.val (.int p1), .val (.int p2), .val (.int p3), .val (.int q1), .val (.int q2), .val (.ref x1), .val (.ref x2), .val (.ref d3), .val (.ref y3)] [(.ref x2), (.ref x1), (.int (16 : Int32)), (.ref y3)])
  obtain ⟨_, _, ⟨T22, L22, k22, n22⟩, -, X22, hSn22, hgn22, ⟨Lc22, hQ22, l22, y22, z22, CR22⟩, st22⟩ := callSS X21 hx (y := mY57) hown (mvT hZ (hwi hw 219 rfl)) (mvT hZ (hwi hw 220 rfl)) (mvT hZ (hwi hw 2 rfl)) (mvT hZ (hwi hw 221 rfl)) (by decide) (own_backSHX (sf := []) (Pv := fun vm => Lit (Z.setVm vm) "com/example/keyset/keyset/query/DeclarationExceptionForResourcePinLaw" 12 sa6) (W := 0) (rmO1 l Z a0 hw [] y3 x1 x2 16 sa6 sb6 kb6 zc fm t3 kt3 M t1 kt1 r1 t2 kt2 r2 T21.heap n0 O hEL wS S_COMPACT hcs S_SIO ref_fm S_ad S_hi S_lo E_y3 C_y3 V_y3 A_t3 eM hr_M E_x1 C_x1 V_x1 A_t1 E_x2 C_x2 V_x2 A_t2 B_r1 B_r2 hr_r1 hr_r2 Es6 Cs6 Vs6 As6 (by decide)) hZ (hwi hw 221 rfl) (hwi hw 2 rfl) (by decide) (by decide) hEL HH all0 (fun _ W => (Lit.stays (s := s) hLit W :))) (g := (mkF m 303 #[.val (.int p1), .val (.int p2), .val (.int p3), .val (.int q1), .val (.int q2), .val (.ref x1), .val (.ref x2), .val (.ref d3), .val (.ref y3)] [(.ref x2), (.ref x1), (.int (16 : Int32)), (.ref y3)])) rfl (by rw [hml]; rfl) (argsL := [(.ref y3), (.int (16 : Int32)), (.ref x1), (.ref x2)]) (rest := []) (lenOf pd__Ljava_lang_String_ILjava_lang_String_Ljava_lang_String__Z rfl) rfl (by show 2 * 0 + _ ≤ _; exact Nat.le_of_eq rfl) (hb hby at_303) (fun _ _ => ⟨rfl, rfl, (by decide : 46 + 2 ≤ _), (by decide : 5260 + 16 ≤ _)⟩)
  dsimp only [Pt.U, Pt.locs, Pt.cells, Pt.slots] at X22 l22 y22 z22 st22 hQ22 hSn22 hgn22 CR22
  rw [l22, y22, z22] at X22
  have X22 : Stand p l e _ _ m _ below meth c T22 _ 48 5276 := X22
  obtain ⟨rfl, N22q, E22q⟩ := hQ22
  have X22 : Stand p l e _ (s.setVm T22.vm) m _ below meth c T22 _ _ _ := X22
  have N22 := Fr.app N21 N22q
  refine GoH.tr st22 ?_
  have hS22 := Jvm.RoadKit.foldS hS hk hSn22 hgn22
  have hZ22 := State.Warmed39.trans (t := s.setVm T21.vm) hZ hSn22.1
  have hk22 := Nat.le_refl T22.heap.size
  have hown22 := own_fc hSn22.1 hown
  have hLit := Lit.stays hLit hSn22.1
  have E22 := E22q
  have E_x1 := E_x1.ext E22
  have A_t1 := A_t1.ext E22
  have C_x1 := C_x1.ext E22
  have V_x1 := V_x1.ext E22
  have E_x2 := E_x2.ext E22
  have A_t2 := A_t2.ext E22
  have C_x2 := C_x2.ext E22
  have V_x2 := V_x2.ext E22
  have E_y3 := E_y3.ext E22
  have A_t3 := A_t3.ext E22
  have C_y3 := C_y3.ext E22
  have V_y3 := V_y3.ext E22
  have E_d3 := E_d3.ext E22
  have F_d3 := F_d3.ext E22
  have Es6 := Es6.ext E22
  have As6 := As6.ext E22
  have Cs6 := Cs6.ext E22
  have Vs6 := Vs6.ext E22
  have O := O.ext E22
  have KK := KK.ext E22
  have RR := RR.trans CR22
  have HH := CR22.1
  have hS := hS22
  have hk := hk22
  have hZ := hZ22
  have hown := hown22
  show GoH _ _ _ _ _ _ _ _ _ _  T22 (mkF m 306 #[.val (.int p1), .val (.int p2), .val (.int p3), .val (.int q1), .val (.int q2), .val (.ref x1), .val (.ref x2), .val (.ref d3), .val (.ref y3)] [(.int (1 : Int32))])
  refine GoH.st (fun _ => XS.ifNo X22.here hx rfl (hb hby at_306) rfl ((if0 _ _).trans (feq (by decide : ¬ ((1 : Int32) = (0 : Int32)))).1)) ?_
  show GoH _ _ _ _ _ _ _ _ _ _  T22 (mkF m 309 #[.val (.int p1), .val (.int p2), .val (.int p3), .val (.int q1), .val (.int q2), .val (.ref x1), .val (.ref x2), .val (.ref d3), .val (.ref y3)] [])
  refine GoH.st (fun _ => XS.iconst X22.here hx rfl (hb hby at_309)) ?_
  refine GoH.st (fun _ => XS.goto X22.here hx rfl (pc0 := 310) (pc' := 314) rfl (hb hby at_310) (by decide) (by decide)) ?_
  show GoH _ _ _ _ _ _ _ _ _ _  T22 (mkF m 314 #[.val (.int p1), .val (.int p2), .val (.int p3), .val (.int q1), .val (.int q2), .val (.ref x1), .val (.ref x2), .val (.ref d3), .val (.ref y3)] [(.int (1 : Int32))])
  refine GoH.retN X22 hS hk rfl hZ hEL HH RR hlk hx (t := .boolean) (z' := (1 : Int32)) Bd.returns (by simp) (hb hby at_314) (by decide) (by decide) rfl ?_
  show Q_rm0 Z _ _ _ _ _ h0 n0 _ T22.heap _
  exact ⟨rfl, N22⟩
theorem comes_1 {Post : Tables → Env → Array Value → State → Outcome → State → Prop} (hpost : ∀ tb e args s v u, (limb_1_1.after args s (.returned v) u = true ∧ limb_1_2.after args s (.returned v) u = true ∧ True) → ReturnedEndW s (.returned v) u (Jvm.fieldLocs frame_1_writes args s ++ Jvm.arrayLocs frame_1_arrays args s ++ Jvm.staticLocs frame_1_statics s) 56 11136 → Post tb e args s (.returned v) u) :
    ArmFor flags0 classFile x code maxLocals ret World_1 tables_1 room_1 Calls_1 rest_1 Pre_1 Post := by
  intro l hfl _ _ p e ha hc hk s m args below hf hA hF happ hP
  obtain ⟨hcalls, hrest, hpre⟩ := hP
  obtain ⟨-, -, -, hnamed, -, -, -, hat⟩ := (Spec.applies_iff hf).mp happ
  obtain ⟨hg, hn⟩ := and_e (Cond.before_iff.mp (show (Jvm.Cond.and given_1 narrow_1).before args s = true from hpre))
  obtain ⟨g1, g2⟩ := and_e hg
  obtain ⟨g3, g4⟩ := and_e g2
  obtain ⟨g5, g6⟩ := and_e g4
  obtain ⟨w0, w1, w2, rfl⟩ : ∃ w0 w1 w2 : Value, args = #[w0, w1, w2] := by
    have hs : args.size = 3 := by simpa [Cond.value, given_1] using g1
    obtain ⟨L⟩ := args
    match L, hs with
    | [w0, w1, w2], _ => exact ⟨w0, w1, w2, rfl⟩
  have hw := fun d (hd : d ∈ tables_1) => atoms_spec (ws := Jvm.Cond.code x code maxLocals ret :: tables_1) hat d (List.mem_cons_of_mem _ hd)
  have hfit : Fit s := fun {y c} hc i hi => by
    obtain ⟨ha, rfl⟩ := Array.getElem?_eq_some_iff.mp hc
    have q := List.all_eq_true.mp ((Array.all_eq_true_iff_forall_mem.mp hF) _ (Array.getElem_mem ha)) i (List.mem_range.mpr hi)
    simpa [Array.getElem?_eq_getElem hi] using q
  obtain ⟨hsets, hown0⟩ := atoms_of _ (rest_1_c_eq ▸ (show rest_1_c.before _ s = true from hrest))
  obtain ⟨i0, ei0⟩ := is_v g3
  obtain rfl : w0 = (.int i0) := Option.some.inj ei0
  obtain ⟨i1, ei1⟩ := is_v g5
  obtain rfl : w1 = (.int i1) := Option.some.inj ei1
  obtain ⟨i2, ei2⟩ := is_v g6
  obtain rfl : w2 = (.int i2) := Option.some.inj ei2
  obtain ⟨zc, ezc⟩ := is_v (Cond.before_iff.mp (hsets _ (List.mem_of_getElem? (i := 1) rfl)))
  have S_COMPACT : Sta s s.heap "java/lang/String" "COMPACT_STRINGS" "Z" (.int zc) := Sta.start ezc (Or.inl (hsets _ (List.mem_of_getElem? (i := 0) rfl)))
  have hcs : ¬ (zc = (0 : Int32)) := gotF (Cond.eq_ints ezc (Term.int_eval (0))) (not_v (Cond.before_iff.mp (hsets _ (List.mem_of_getElem? (i := 2) rfl))))
  obtain ⟨fm, efm, ref_fm⟩ := isR_v (Cond.before_iff.mp (hsets _ (List.mem_of_getElem? (i := 8) rfl)))
  have S_SIO : Sta s s.heap "jdk/internal/util/Preconditions" "SIOOBE_FORMATTER" "Ljava/util/function/BiFunction;" fm := Sta.start efm (Or.inl (hsets _ (List.mem_of_getElem? (i := 7) rfl)))
  have S_ad : Sta s s.heap "java/lang/StringUTF16" "$assertionsDisabled" "Z" (.int 1) := Sta.start (own_eqi (Cond.before_iff.mp (hsets _ (List.mem_of_getElem? (i := 32) rfl)))) (Or.inl (hsets _ (List.mem_of_getElem? (i := 31) rfl)))
  have S_hi : Sta s s.heap "java/lang/StringUTF16" "HI_BYTE_SHIFT" "I" (.int 0) := Sta.start (own_eqi (Cond.before_iff.mp (hsets _ (List.mem_of_getElem? (i := 35) rfl)))) (Or.inl (hsets _ (List.mem_of_getElem? (i := 34) rfl)))
  have S_lo : Sta s s.heap "java/lang/StringUTF16" "LO_BYTE_SHIFT" "I" (.int 8) := Sta.start (own_eqi (Cond.before_iff.mp (hsets _ (List.mem_of_getElem? (i := 38) rfl)))) (Or.inl (hsets _ (List.mem_of_getElem? (i := 37) rfl)))
  have hl : l.stackTraces = true := by unfold Launch.stackTraces; rw [hfl]; decide
  have hr := two_refs hfit (hwi hw 204 rfl) (hwi hw 205 rfl)
  have hEL : EW s _ EL := (EW.cons (hwi hw 61 rfl) (by decide) (EW.cons (hwi hw 109 rfl) (by decide) (EW.cons (hwi hw 247 rfl) (by decide) (EW.cons (hwi hw 248 rfl) (by decide) (EW.cons (hwi hw 34 rfl) (by decide) EW.nil)))))
  have wS : ∀ a ∈ Bundle.stringAtoms, a.before _ s = true := fun d hd => hw d ((by decide +kernel : ∀ d ∈ Bundle.stringAtoms, d ∈ tables_1) d hd)
  have HH : CHv s EL s.vm s.heap := CHv.start hEL (fun q hq => hcalls.2.2.1 q hq) (hsets _ (List.mem_of_getElem? (i := 2) rfl)) (hwi hw 23 rfl) (hwi hw 5 rfl)
  obtain ⟨n, o, h1, h2, h3, _, L, rfl, ⟨rfl, N⟩, hcr, hq⟩ := rm0 l s _ hw tables_1 i0 i1 i2 zc fm s.heap s.heap.size (Old.start s) hEL wS S_COMPACT hcs S_SIO ref_fm S_ad S_hi S_lo hl hr p e ha hc hk s m _ below hf ((Spec.applies_iff_loose hf).mp happ).1 ⟨rfl, State.Warmed39.refl s, rfl, HH, fun _ q => nomatch q⟩ ⟨own_tk hcalls.2.1, own_fk hcalls.1 hf⟩
  refine ⟨n, _, h1, h2, h3, hpost _ _ _ _ _ _ ⟨Cond.after_iff.mpr rfl, Cond.after_iff.mpr (eq_i res_at (Term.int_eval (1)) rfl), trivial⟩ ⟨hq.1, hq.2.1, hq.2.2.1, (hq.2.2.2.sift fun y hy => Or.inr (N y hy)).mono (by decide) (by decide)⟩⟩
theorem main_1_1 : Claimed_1_1 := comes_1 fun _ _ _ _ _ _ h hF => ⟨h.1, hF⟩
theorem main_1_2 : Claimed_1_2 := comes_1 fun _ _ _ _ _ _ h hF => ⟨h.2.1, hF⟩
end Jvm.Pilot.@@N@@
namespace Jvm.Pilot.@@N@@
open Jvm Jvm.ClassFile Sem Op Lib Jvm.Free Jvm.Stand Jvm.Pilot.@@N@@.Jvm.D
/-! MADE BY PROGRAM (witnessworld.py) out of the Statement's table words and the real class files: 42 classes; the members and pool entries that the words name. The judged class is class 1, her method 4. -/
namespace start1
open Jvm.ClassFile
def u (s : String) : CpInfo := .utf8 (stringToUtf16 s)
/-- a pool by its gaps: so many unusable entries, then the entry; so many at the end -/
def gap : Nat → List CpInfo → List CpInfo
  | 0, r => r
  | n + 1, r => .unusable :: gap n r
def poolList (es : List (Nat × CpInfo)) (last : Nat) : List CpInfo := es.foldr (fun e r => gap e.1 (e.2 :: r)) (gap last [])
def pool (es : List (Nat × CpInfo)) (last : Nat) : Array CpInfo := ⟨poolList es last⟩
def fileOf (pool : Array CpInfo) (this : Nat) (attrs : Array Attribute := #[]) (ms : Array MethodInfo := #[]) (fl : Nat := 33) (sup : Nat := 0) (ifs : Array Nat := #[]) (fds : Array FieldInfo := #[]) : ClassFile where
  minorVersion := 0
  majorVersion := 65
  constantPool := pool
  accessFlags := fl
  thisClass := this
  superClass := sup
  interfaces := ifs
  fields := fds
  methods := ms
  attributes := attrs
def plain (name : String) (sup : Option ClassId) : Class where
  name := name
  kind := .ordinary
  loader := none
  accessFlags := 33
  super := sup
  interfaces := #[]
  cf := none
  fields := #[]
  methods := #[]
  instanceTypes := #[]
  staticTypes := #[]
  resolved := #[]
  callSites := []
  init := .initialized
  statics := none
  mirror := none

def pool0 : Array CpInfo := pool [(5, u "<init>"), (0, u "()V"), (1, .class_ 10), (1, u "java/lang/Object"), (85, u "clone"), (0, u "()Ljava/lang/Object;")] 26

def k0c0 : Code := { maxStack := 0, maxLocals := 1, code := object_method_1_code, exceptionTable := #[], attributes := #[] }
def k0m0 : Method := { name := "<init>", desc := "()V", sig := { parameters := [], returnType := none }, accessFlags := 1, code := some k0c0 }
def k0m1 : Method := { name := "clone", desc := "()Ljava/lang/Object;", sig := { parameters := [], returnType := some (.object "java/lang/Object") }, accessFlags := 260, code := none }
/-- java/lang/Object -/
def k0 : Class := { plain "java/lang/Object" none with
  accessFlags := 33
  interfaces := #[]
  cf := some (fileOf pool0 8 #[] #[{ accessFlags := 1, nameIndex := 5, descriptorIndex := 6, attributes := #[] }, { accessFlags := 260, nameIndex := 96, descriptorIndex := 97, attributes := #[] }] 33 0 #[] #[])
  fields := #[]
  methods := #[k0m0, k0m1]
  instanceTypes := #[]
  staticTypes := #[]
  resolved := Array.replicate 124 none
  statics := none }

def pool1 : Array CpInfo := pool [(2, .class_ 4), (1, u "java/lang/Object"), (0, u "<init>"), (0, u "()V"), (0, .class_ 8), (0, u "java/lang/String"), (0, .methodref 7 10), (0, .nameAndType 5 11), (0, u "([C)V"), (0, .string 13), (0, u "resource \""), (0, .methodref 7 15), (0, .nameAndType 16 17), (0, u "charAt"), (0, u "(I)C"), (0, .methodref 7 19), (0, .nameAndType 20 21), (0, u "length"), (0, u "()I"), (0, .string 23), (0, u "\": "), (0, .methodref 25 26), (0, .class_ 27), (0, .nameAndType 28 29), (0, u "com/example/keyset/keyset/query/DeclarationExceptionForResourcePinLaw"), (0, u "exp"), (0, u "(ILjava/lang/String;Ljava/lang/String;)C"), (0, .methodref 25 31), (0, .nameAndType 32 33), (0, u "mk"), (0, u "(II)Ljava/lang/String;"), (0, .methodref 35 36), (0, .class_ 37), (0, .nameAndType 38 39), (0, u "com/example/keyset/keyset/query/DeclarationException"), (0, u "forResource"), (0, u "(Ljava/lang/String;Ljava/lang/String;)Lcom/example/keyset/keyset/query/DeclarationException;"), (0, .methodref 35 41), (0, .nameAndType 42 43), (0, u "getMessage"), (0, u "()Ljava/lang/String;"), (0, .methodref 25 45), (0, .nameAndType 46 47), (0, u "ok"), (0, u "(Ljava/lang/String;ILjava/lang/String;Ljava/lang/String;)Z"), (3, u "law"), (0, u "(III)Z")] 2

def k1m0 : Method := { name := "<init>", desc := "()V", sig := { parameters := [], returnType := none }, accessFlags := 1, code := none }
def k1c1 : Code := { maxStack := 7, maxLocals := 2, code := method_2_code, exceptionTable := #[], attributes := #[] }
def k1m1 : Method := { name := "mk", desc := "(II)Ljava/lang/String;", sig := { parameters := [.int, .int], returnType := some (.object "java/lang/String") }, accessFlags := 10, code := some k1c1 }
def k1c2 : Code := { maxStack := 2, maxLocals := 6, code := method_3_code, exceptionTable := #[], attributes := #[] }
def k1m2 : Method := { name := "exp", desc := "(ILjava/lang/String;Ljava/lang/String;)C", sig := { parameters := [.int, (.object "java/lang/String"), (.object "java/lang/String")], returnType := some .char }, accessFlags := 10, code := some k1c2 }
def k1c3 : Code := { maxStack := 4, maxLocals := 4, code := method_4_code, exceptionTable := #[], attributes := #[] }
def k1m3 : Method := { name := "ok", desc := "(Ljava/lang/String;ILjava/lang/String;Ljava/lang/String;)Z", sig := { parameters := [(.object "java/lang/String"), .int, (.object "java/lang/String"), (.object "java/lang/String")], returnType := some .boolean }, accessFlags := 10, code := some k1c3 }
def k1c4 : Code := { maxStack := 4, maxLocals := 9, code := code, exceptionTable := #[], attributes := #[] }
def k1m4 : Method := { name := "law", desc := "(III)Z", sig := { parameters := [.int, .int, .int], returnType := some .boolean }, accessFlags := 9, code := some k1c4 }
/-- com/example/keyset/keyset/query/DeclarationExceptionForResourcePinLaw -/
def k1 : Class := { plain "com/example/keyset/keyset/query/DeclarationExceptionForResourcePinLaw" (some 0) with
  accessFlags := 49
  interfaces := #[]
  cf := some (fileOf pool1 25 #[] #[{ accessFlags := 1, nameIndex := 5, descriptorIndex := 6, attributes := #[] }, { accessFlags := 10, nameIndex := 32, descriptorIndex := 33, attributes := #[] }, { accessFlags := 10, nameIndex := 28, descriptorIndex := 29, attributes := #[] }, { accessFlags := 10, nameIndex := 46, descriptorIndex := 47, attributes := #[] }, { accessFlags := 9, nameIndex := 51, descriptorIndex := 52, attributes := #[] }] 49 2 #[] #[])
  fields := #[]
  methods := #[k1m0, k1m1, k1m2, k1m3, k1m4]
  instanceTypes := #[]
  staticTypes := #[]
  resolved := Array.replicate 55 none
  statics := none }

def pool2 : Array CpInfo := pool [(1, .class_ 2), (0, u "java/io/Serializable"), (0, .class_ 4), (0, u "java/lang/Object")] 2

/-- java/io/Serializable -/
def k2 : Class := { plain "java/io/Serializable" (some 0) with
  accessFlags := 1537
  interfaces := #[]
  cf := some (fileOf pool2 1 #[] #[] 1537 3 #[] #[])
  fields := #[]
  methods := #[]
  instanceTypes := #[]
  staticTypes := #[]
  resolved := Array.replicate 7 none
  statics := none }

def pool3 : Array CpInfo := pool [(1, .class_ 2), (0, u "java/lang/Comparable"), (0, .class_ 4), (0, u "java/lang/Object")] 7

/-- java/lang/Comparable -/
def k3 : Class := { plain "java/lang/Comparable" (some 0) with
  accessFlags := 1537
  interfaces := #[]
  cf := some (fileOf pool3 1 #[] #[] 1537 3 #[] #[])
  fields := #[]
  methods := #[]
  instanceTypes := #[]
  staticTypes := #[]
  resolved := Array.replicate 12 none
  statics := none }

def pool4 : Array CpInfo := pool [(2, .class_ 4), (1, u "java/lang/CharSequence"), (42, .class_ 48), (0, u "java/lang/CharSequence$1CodePointIterator"), (10, .class_ 60), (0, u "java/lang/CharSequence$1CharIterator"), (5, .class_ 67), (0, u "java/lang/Object")] 63

/-- java/lang/CharSequence -/
def k4 : Class := { plain "java/lang/CharSequence" (some 0) with
  accessFlags := 1537
  interfaces := #[]
  cf := some (fileOf pool4 2 #[.nestMembers #[47, 59]] #[] 1537 66 #[] #[])
  fields := #[]
  methods := #[]
  instanceTypes := #[]
  staticTypes := #[]
  resolved := Array.replicate 131 none
  statics := none }

def pool5 : Array CpInfo := pool [(1, .class_ 2), (0, u "java/lang/constant/Constable"), (0, .class_ 4), (0, u "java/lang/Object")] 6

/-- java/lang/constant/Constable -/
def k5 : Class := { plain "java/lang/constant/Constable" (some 0) with
  accessFlags := 1537
  interfaces := #[]
  cf := some (fileOf pool5 1 #[] #[] 1537 3 #[] #[])
  fields := #[]
  methods := #[]
  instanceTypes := #[]
  staticTypes := #[]
  resolved := Array.replicate 11 none
  statics := none }

def pool6 : Array CpInfo := pool [(1, .class_ 2), (0, u "java/lang/constant/ConstantDesc"), (0, .class_ 4), (0, u "java/lang/Object")] 32

/-- java/lang/constant/ConstantDesc -/
def k6 : Class := { plain "java/lang/constant/ConstantDesc" (some 0) with
  accessFlags := 1537
  interfaces := #[]
  cf := some (fileOf pool6 1 #[] #[] 1537 3 #[] #[])
  fields := #[]
  methods := #[]
  instanceTypes := #[]
  staticTypes := #[]
  resolved := Array.replicate 37 none
  statics := none }

def pool7 : Array CpInfo := pool [(1, .methodref 2 3), (0, .class_ 4), (0, .nameAndType 5 6), (0, u "java/lang/Object"), (0, u "<init>"), (0, u "()V"), (0, .string 8), (0, u ""), (0, .fieldref 10 11), (0, .class_ 12), (0, .nameAndType 13 14), (0, u "java/lang/String"), (0, u "value"), (0, u "[B"), (0, .fieldref 10 16), (0, .nameAndType 17 18), (0, u "coder"), (0, u "B"), (2, u "hash"), (0, u "I"), (2, u "hashIsZero"), (0, u "Z"), (0, .methodref 10 28), (0, .nameAndType 5 29), (0, u "([CIILjava/lang/Void;)V"), (6, u "checkBoundsOffCount"), (0, u "(III)I"), (0, .fieldref 10 39), (0, .nameAndType 40 26), (0, u "COMPACT_STRINGS"), (1, .class_ 44), (1, u "java/lang/StringUTF16"), (0, u "compress"), (1, .methodref 42 48), (0, .nameAndType 49 50), (0, u "coderFromArrayLen"), (0, u "([BI)B"), (3, .methodref 55 56), (0, .class_ 57), (0, .nameAndType 58 59), (0, u "java/util/Arrays"), (0, u "copyOfRange"), (0, u "([BII)[B"), (46, .methodref 107 108), (0, .class_ 109), (0, .nameAndType 110 111), (0, u "java/lang/StringLatin1"), (0, u "inflate"), (0, u "([BI[BII)V"), (30, u "()Z"), (34, .methodref 42 178), (0, .nameAndType 45 179), (0, u "([CII)[B"), (13, .class_ 195), (1, u "java/lang/System"), (16, .methodref 193 213), (0, .nameAndType 214 215), (0, u "arraycopy"), (0, u "(Ljava/lang/Object;ILjava/lang/Object;II)V"), (118, u "()I"), (0, .methodref 10 336), (0, .nameAndType 17 337), (0, u "()B"), (2, u "()[B"), (22, u "([BI)C"), (27, u "(II)V"), (35, u "(I)C"), (61, .methodref 10 490), (0, .nameAndType 5 491), (0, u "(Ljava/lang/AbstractStringBuilder;Ljava/lang/Void;)V"), (0, .methodref 10 493), (0, .nameAndType 494 142), (0, u "isLatin1"), (0, .methodref 107 496), (0, .nameAndType 497 363), (0, u "charAt"), (0, .methodref 42 496), (2, u "checkIndex"), (4, .nameAndType 507 334), (0, u "length"), (24, u "getBytes"), (16, .methodref 550 506), (0, .class_ 551), (0, u "java/lang/AbstractStringBuilder"), (0, .methodref 550 553), (0, .nameAndType 554 340), (0, u "getValue"), (20, .class_ 576), (0, u "java/lang/CharSequence"), (22, u "CASE_INSENSITIVE_ORDER"), (0, u "Ljava/util/Comparator;"), (220, u "([BIB)V"), (188, u "([C)V"), (36, .methodref 550 493), (0, .fieldref 550 1049), (0, .nameAndType 1050 26), (0, u "maybeLatin1"), (2, .fieldref 1054 1055), (0, .class_ 1056), (0, .nameAndType 1057 1058), (0, u "jdk/internal/util/Preconditions"), (0, u "SIOOBE_FORMATTER"), (0, u "Ljava/util/function/BiFunction;"), (0, .methodref 1054 1060), (0, .nameAndType 501 1061), (0, u "(IILjava/util/function/BiFunction;)I"), (2, u "(IIILjava/util/function/BiFunction;)I"), (0, .methodref 1054 1066), (0, .nameAndType 1067 1064), (0, u "checkFromIndexSize"), (33, u "serialPersistentFields"), (0, u "[Ljava/io/ObjectStreamField;"), (0, .class_ 1104), (0, u "java/lang/String$CaseInsensitiveComparator"), (1, .class_ 1107), (0, u "java/io/Serializable"), (0, .class_ 1109), (0, u "java/lang/Comparable"), (0, .class_ 1111), (0, u "java/lang/constant/Constable"), (0, .class_ 1113), (0, u "java/lang/constant/ConstantDesc"), (2, u "serialVersionUID"), (0, u "J"), (3, u "REPL"), (0, u "C"), (2, u "LATIN1"), (1, u "UTF16"), (105, u "(Ljava/lang/StringBuilder;)V")] 217

def k7m0 : Method := { name := "<init>", desc := "()V", sig := { parameters := [], returnType := none }, accessFlags := 1, code := none }
def k7c1 : Code := { maxStack := 5, maxLocals := 2, code := jdk_42_method_3_code, exceptionTable := #[], attributes := #[] }
def k7m1 : Method := { name := "<init>", desc := "([C)V", sig := { parameters := [(.array .char)], returnType := none }, accessFlags := 1, code := some k7c1 }
def k7c2 : Code := { maxStack := 3, maxLocals := 2, code := jdk_42_method_53_code, exceptionTable := #[], attributes := #[] }
def k7m2 : Method := { name := "<init>", desc := "(Ljava/lang/StringBuilder;)V", sig := { parameters := [(.object "java/lang/StringBuilder")], returnType := none }, accessFlags := 1, code := some k7c2 }
def k7c3 : Code := { maxStack := 2, maxLocals := 1, code := jdk_42_method_54_code, exceptionTable := #[], attributes := #[] }
def k7m3 : Method := { name := "length", desc := "()I", sig := { parameters := [], returnType := some .int }, accessFlags := 1, code := some k7c3 }
def k7c4 : Code := { maxStack := 2, maxLocals := 2, code := jdk_42_method_56_code, exceptionTable := #[], attributes := #[] }
def k7m4 : Method := { name := "charAt", desc := "(I)C", sig := { parameters := [.int], returnType := some .char }, accessFlags := 1, code := some k7c4 }
def k7c5 : Code := { maxStack := 5, maxLocals := 4, code := jdk_42_method_147_code, exceptionTable := #[], attributes := #[] }
def k7m5 : Method := { name := "getBytes", desc := "([BIB)V", sig := { parameters := [(.array .byte), .int, .byte], returnType := none }, accessFlags := 0, code := some k7c5 }
def k7c6 : Code := { maxStack := 4, maxLocals := 6, code := jdk_42_method_149_code, exceptionTable := #[], attributes := #[] }
def k7m6 : Method := { name := "<init>", desc := "([CIILjava/lang/Void;)V", sig := { parameters := [(.array .char), .int, .int, (.object "java/lang/Void")], returnType := none }, accessFlags := 2, code := some k7c6 }
def k7c7 : Code := { maxStack := 5, maxLocals := 5, code := jdk_42_method_150_code, exceptionTable := #[], attributes := #[] }
def k7m7 : Method := { name := "<init>", desc := "(Ljava/lang/AbstractStringBuilder;Ljava/lang/Void;)V", sig := { parameters := [(.object "java/lang/AbstractStringBuilder"), (.object "java/lang/Void")], returnType := none }, accessFlags := 0, code := some k7c7 }
def k7c8 : Code := { maxStack := 1, maxLocals := 1, code := jdk_42_method_152_code, exceptionTable := #[], attributes := #[] }
def k7m8 : Method := { name := "coder", desc := "()B", sig := { parameters := [], returnType := some .byte }, accessFlags := 0, code := some k7c8 }
def k7c9 : Code := { maxStack := 1, maxLocals := 1, code := jdk_42_method_154_code, exceptionTable := #[], attributes := #[] }
def k7m9 : Method := { name := "isLatin1", desc := "()Z", sig := { parameters := [], returnType := some .boolean }, accessFlags := 0, code := some k7c9 }
def k7c10 : Code := { maxStack := 3, maxLocals := 2, code := jdk_42_method_155_code, exceptionTable := #[], attributes := #[] }
def k7m10 : Method := { name := "checkIndex", desc := "(II)V", sig := { parameters := [.int, .int], returnType := none }, accessFlags := 8, code := some k7c10 }
def k7c11 : Code := { maxStack := 4, maxLocals := 3, code := jdk_42_method_157_code, exceptionTable := #[], attributes := #[] }
def k7m11 : Method := { name := "checkBoundsOffCount", desc := "(III)I", sig := { parameters := [.int, .int, .int], returnType := some .int }, accessFlags := 8, code := some k7c11 }
/-- java/lang/String -/
def k7 : Class := { plain "java/lang/String" (some 0) with
  accessFlags := 49
  interfaces := #[2, 3, 4, 5, 6]
  cf := some (fileOf pool7 10 #[.nestMembers #[1103]] #[{ accessFlags := 1, nameIndex := 5, descriptorIndex := 6, attributes := #[] }, { accessFlags := 1, nameIndex := 5, descriptorIndex := 1010, attributes := #[] }, { accessFlags := 1, nameIndex := 5, descriptorIndex := 1233, attributes := #[] }, { accessFlags := 1, nameIndex := 507, descriptorIndex := 334, attributes := #[] }, { accessFlags := 1, nameIndex := 497, descriptorIndex := 427, attributes := #[] }, { accessFlags := 0, nameIndex := 532, descriptorIndex := 821, attributes := #[] }, { accessFlags := 2, nameIndex := 5, descriptorIndex := 29, attributes := #[] }, { accessFlags := 0, nameIndex := 5, descriptorIndex := 491, attributes := #[] }, { accessFlags := 0, nameIndex := 17, descriptorIndex := 337, attributes := #[] }, { accessFlags := 0, nameIndex := 494, descriptorIndex := 142, attributes := #[] }, { accessFlags := 8, nameIndex := 501, descriptorIndex := 391, attributes := #[] }, { accessFlags := 8, nameIndex := 36, descriptorIndex := 37, attributes := #[] }] 49 2 #[1106, 1108, 575, 1110, 1112] #[{ accessFlags := 18, nameIndex := 13, descriptorIndex := 14, attributes := #[] }, { accessFlags := 18, nameIndex := 17, descriptorIndex := 18, attributes := #[] }, { accessFlags := 2, nameIndex := 21, descriptorIndex := 22, attributes := #[] }, { accessFlags := 2, nameIndex := 25, descriptorIndex := 26, attributes := #[] }, { accessFlags := 26, nameIndex := 1116, descriptorIndex := 1117, attributes := #[] }, { accessFlags := 24, nameIndex := 40, descriptorIndex := 26, attributes := #[] }, { accessFlags := 26, nameIndex := 1101, descriptorIndex := 1102, attributes := #[] }, { accessFlags := 26, nameIndex := 1121, descriptorIndex := 1122, attributes := #[] }, { accessFlags := 25, nameIndex := 599, descriptorIndex := 600, attributes := #[] }, { accessFlags := 24, nameIndex := 1125, descriptorIndex := 18, attributes := #[] }, { accessFlags := 24, nameIndex := 1127, descriptorIndex := 18, attributes := #[] }])
  fields := #[{ name := "value", type := (.array .byte), accessFlags := 18, slot := 0, constantValue := 0 }, { name := "coder", type := .byte, accessFlags := 18, slot := 1, constantValue := 0 }, { name := "hash", type := .int, accessFlags := 2, slot := 2, constantValue := 0 }, { name := "hashIsZero", type := .boolean, accessFlags := 2, slot := 3, constantValue := 0 }, { name := "serialVersionUID", type := .long, accessFlags := 26, slot := 0, constantValue := 0 }, { name := "COMPACT_STRINGS", type := .boolean, accessFlags := 24, slot := 1, constantValue := 0 }, { name := "serialPersistentFields", type := (.array (.object "java/io/ObjectStreamField")), accessFlags := 26, slot := 2, constantValue := 0 }, { name := "REPL", type := .char, accessFlags := 26, slot := 3, constantValue := 0 }, { name := "CASE_INSENSITIVE_ORDER", type := (.object "java/util/Comparator"), accessFlags := 25, slot := 4, constantValue := 0 }, { name := "LATIN1", type := .byte, accessFlags := 24, slot := 5, constantValue := 0 }, { name := "UTF16", type := .byte, accessFlags := 24, slot := 6, constantValue := 0 }]
  methods := #[k7m0, k7m1, k7m2, k7m3, k7m4, k7m5, k7m6, k7m7, k7m8, k7m9, k7m10, k7m11]
  instanceTypes := #[(.array .byte), .byte, .int, .boolean]
  staticTypes := #[.long, .boolean, (.array (.object "java/io/ObjectStreamField")), .char, (.object "java/util/Comparator"), .byte, .byte]
  resolved := Array.replicate 1451 none
  statics := some 0 }

def pool8 : Array CpInfo := pool [(3, .class_ 4), (0, u "java/lang/String"), (1, .class_ 8), (1, u "java/lang/Object"), (0, u "<init>"), (0, u "()V"), (0, .methodref 12 13), (0, .class_ 14), (0, .nameAndType 15 16), (0, u "java/lang/StringUTF16"), (0, u "newBytesLength"), (0, u "(I)I"), (3, .integer 1073741823), (23, .fieldref 12 45), (0, .nameAndType 46 47), (0, u "$assertionsDisabled"), (0, u "Z"), (0, .methodref 12 49), (0, .nameAndType 50 51), (0, u "length"), (0, u "([B)I"), (7, .fieldref 12 60), (0, .nameAndType 61 62), (0, u "HI_BYTE_SHIFT"), (0, u "I"), (0, .fieldref 12 64), (0, .nameAndType 65 62), (0, u "LO_BYTE_SHIFT"), (1, .methodref 12 68), (0, .nameAndType 69 70), (0, u "checkIndex"), (0, u "(I[B)V"), (0, .methodref 12 72), (0, .nameAndType 73 74), (0, u "getChar"), (0, u "([BI)C"), (24, u "(II[B)V"), (7, .methodref 12 108), (0, .nameAndType 109 110), (0, u "newBytesFor"), (0, u "(I)[B"), (0, .methodref 12 112), (0, .nameAndType 113 114), (0, u "putChar"), (0, u "([BII)V"), (0, .methodref 12 116), (0, .nameAndType 117 118), (0, u "compress"), (0, u "([CI[BII)I"), (0, .methodref 12 120), (0, .nameAndType 121 122), (0, u "toBytes"), (0, u "([CII)[B"), (17, u "inflate"), (0, u "([BI[BII)V"), (31, .methodref 12 174), (0, .nameAndType 175 99), (0, u "checkBoundsOffCount"), (85, u "coderFromArrayLen"), (0, u "([BI)B"), (18, u "(III)I"), (87, .class_ 371), (1, u "java/lang/StringUTF16$LinesSpliterator"), (20, u "charAt"), (21, .methodref 3 415), (0, .nameAndType 69 416), (0, u "(II)V"), (2, .methodref 3 420), (0, .nameAndType 175 281), (9, u "MAX_LENGTH"), (196, .class_ 628), (0, u "java/lang/StringUTF16$CodePointsSpliterator"), (0, .class_ 630), (0, u "java/lang/StringUTF16$CharsSpliterator")] 4

def k8m0 : Method := { name := "<init>", desc := "()V", sig := { parameters := [], returnType := none }, accessFlags := 0, code := none }
def k8c1 : Code := { maxStack := 1, maxLocals := 1, code := jdk_52_method_2_code, exceptionTable := #[], attributes := #[] }
def k8m1 : Method := { name := "newBytesFor", desc := "(I)[B", sig := { parameters := [.int], returnType := some (.array .byte) }, accessFlags := 9, code := some k8c1 }
def k8c2 : Code := { maxStack := 4, maxLocals := 1, code := jdk_52_method_3_code, exceptionTable := #[], attributes := #[] }
def k8m2 : Method := { name := "newBytesLength", desc := "(I)I", sig := { parameters := [.int], returnType := some .int }, accessFlags := 9, code := some k8c2 }
def k8c3 : Code := { maxStack := 4, maxLocals := 3, code := jdk_52_method_4_code, exceptionTable := #[], attributes := #[] }
def k8m3 : Method := { name := "putChar", desc := "([BII)V", sig := { parameters := [(.array .byte), .int, .int], returnType := none }, accessFlags := 8, code := some k8c3 }
def k8c4 : Code := { maxStack := 3, maxLocals := 2, code := jdk_52_method_5_code, exceptionTable := #[], attributes := #[] }
def k8m4 : Method := { name := "getChar", desc := "([BI)C", sig := { parameters := [(.array .byte), .int], returnType := some .char }, accessFlags := 8, code := some k8c4 }
def k8c5 : Code := { maxStack := 2, maxLocals := 1, code := jdk_52_method_6_code, exceptionTable := #[], attributes := #[] }
def k8m5 : Method := { name := "length", desc := "([B)I", sig := { parameters := [(.array .byte)], returnType := some .int }, accessFlags := 9, code := some k8c5 }
def k8c6 : Code := { maxStack := 4, maxLocals := 5, code := jdk_52_method_14_code, exceptionTable := #[], attributes := #[] }
def k8m6 : Method := { name := "toBytes", desc := "([CII)[B", sig := { parameters := [(.array .char), .int, .int], returnType := some (.array .byte) }, accessFlags := 9, code := some k8c6 }
def k8c7 : Code := { maxStack := 2, maxLocals := 2, code := jdk_52_method_15_code, exceptionTable := #[], attributes := #[] }
def k8m7 : Method := { name := "coderFromArrayLen", desc := "([BI)B", sig := { parameters := [(.array .byte), .int], returnType := some .byte }, accessFlags := 8, code := some k8c7 }
def k8c8 : Code := { maxStack := 5, maxLocals := 6, code := jdk_52_method_16_code, exceptionTable := #[], attributes := #[] }
def k8m8 : Method := { name := "compress", desc := "([CII)[B", sig := { parameters := [(.array .char), .int, .int], returnType := some (.array .byte) }, accessFlags := 9, code := some k8c8 }
def k8c9 : Code := { maxStack := 3, maxLocals := 7, code := jdk_52_method_21_code, exceptionTable := #[], attributes := #[] }
def k8m9 : Method := { name := "compress", desc := "([CI[BII)I", sig := { parameters := [(.array .char), .int, (.array .byte), .int, .int], returnType := some .int }, accessFlags := 9, code := some k8c9 }
def k8c10 : Code := { maxStack := 2, maxLocals := 2, code := jdk_52_method_83_code, exceptionTable := #[], attributes := #[] }
def k8m10 : Method := { name := "charAt", desc := "([BI)C", sig := { parameters := [(.array .byte), .int], returnType := some .char }, accessFlags := 9, code := some k8c10 }
def k8c11 : Code := { maxStack := 4, maxLocals := 6, code := jdk_52_method_86_code, exceptionTable := #[], attributes := #[] }
def k8m11 : Method := { name := "inflate", desc := "([BI[BII)V", sig := { parameters := [(.array .byte), .int, (.array .byte), .int, .int], returnType := none }, accessFlags := 9, code := some k8c11 }
def k8c12 : Code := { maxStack := 2, maxLocals := 2, code := jdk_52_method_91_code, exceptionTable := #[], attributes := #[] }
def k8m12 : Method := { name := "checkIndex", desc := "(I[B)V", sig := { parameters := [.int, (.array .byte)], returnType := none }, accessFlags := 9, code := some k8c12 }
def k8c13 : Code := { maxStack := 3, maxLocals := 3, code := jdk_52_method_94_code, exceptionTable := #[], attributes := #[] }
def k8m13 : Method := { name := "checkBoundsOffCount", desc := "(II[B)V", sig := { parameters := [.int, .int, (.array .byte)], returnType := none }, accessFlags := 9, code := some k8c13 }
/-- java/lang/StringUTF16 -/
def k8 : Class := { plain "java/lang/StringUTF16" (some 0) with
  accessFlags := 48
  interfaces := #[]
  cf := some (fileOf pool8 12 #[.nestMembers #[627, 629, 369]] #[{ accessFlags := 0, nameIndex := 9, descriptorIndex := 10, attributes := #[] }, { accessFlags := 9, nameIndex := 109, descriptorIndex := 110, attributes := #[] }, { accessFlags := 9, nameIndex := 15, descriptorIndex := 16, attributes := #[] }, { accessFlags := 8, nameIndex := 113, descriptorIndex := 114, attributes := #[] }, { accessFlags := 8, nameIndex := 73, descriptorIndex := 74, attributes := #[] }, { accessFlags := 9, nameIndex := 50, descriptorIndex := 51, attributes := #[] }, { accessFlags := 9, nameIndex := 121, descriptorIndex := 122, attributes := #[] }, { accessFlags := 8, nameIndex := 261, descriptorIndex := 262, attributes := #[] }, { accessFlags := 9, nameIndex := 117, descriptorIndex := 122, attributes := #[] }, { accessFlags := 9, nameIndex := 117, descriptorIndex := 118, attributes := #[] }, { accessFlags := 9, nameIndex := 392, descriptorIndex := 74, attributes := #[] }, { accessFlags := 9, nameIndex := 140, descriptorIndex := 141, attributes := #[] }, { accessFlags := 9, nameIndex := 69, descriptorIndex := 70, attributes := #[] }, { accessFlags := 9, nameIndex := 175, descriptorIndex := 99, attributes := #[] }] 48 6 #[] #[{ accessFlags := 26, nameIndex := 61, descriptorIndex := 62, attributes := #[] }, { accessFlags := 26, nameIndex := 65, descriptorIndex := 62, attributes := #[] }, { accessFlags := 24, nameIndex := 430, descriptorIndex := 62, attributes := #[] }, { accessFlags := 4120, nameIndex := 46, descriptorIndex := 47, attributes := #[] }])
  fields := #[{ name := "HI_BYTE_SHIFT", type := .int, accessFlags := 26, slot := 0, constantValue := 0 }, { name := "LO_BYTE_SHIFT", type := .int, accessFlags := 26, slot := 1, constantValue := 0 }, { name := "MAX_LENGTH", type := .int, accessFlags := 24, slot := 2, constantValue := 0 }, { name := "$assertionsDisabled", type := .boolean, accessFlags := 4120, slot := 3, constantValue := 0 }]
  methods := #[k8m0, k8m1, k8m2, k8m3, k8m4, k8m5, k8m6, k8m7, k8m8, k8m9, k8m10, k8m11, k8m12, k8m13]
  instanceTypes := #[]
  staticTypes := #[.int, .int, .int, .boolean]
  resolved := Array.replicate 635 none
  statics := some 1 }

def pool9 : Array CpInfo := pool [(1, .methodref 2 3), (0, .class_ 4), (0, .nameAndType 5 6), (0, u "java/lang/Object"), (0, u "<init>"), (0, u "()V"), (0, .fieldref 8 9), (0, .class_ 10), (0, .nameAndType 11 12), (0, u "java/lang/Throwable"), (0, u "cause"), (0, u "Ljava/lang/Throwable;"), (0, .fieldref 8 14), (0, .nameAndType 15 16), (0, u "UNASSIGNED_STACK"), (0, u "[Ljava/lang/StackTraceElement;"), (0, .fieldref 8 18), (0, .nameAndType 19 16), (0, u "stackTrace"), (0, .fieldref 8 21), (0, .nameAndType 22 23), (0, u "SUPPRESSED_SENTINEL"), (0, u "Ljava/util/List;"), (0, .fieldref 8 25), (0, .nameAndType 26 23), (0, u "suppressedExceptions"), (0, .methodref 8 28), (0, .nameAndType 29 30), (0, u "fillInStackTrace"), (0, u "()Ljava/lang/Throwable;"), (0, .fieldref 8 32), (0, .nameAndType 33 34), (0, u "detailMessage"), (0, u "Ljava/lang/String;"), (3, u "()Ljava/lang/String;"), (2, u "getMessage"), (51, .class_ 94), (0, u "java/lang/Throwable$WrappedPrintStream"), (6, .class_ 103), (1, u "java/lang/Throwable$PrintStreamOrWriter"), (61, u "$assertionsDisabled"), (0, u "Z"), (26, .class_ 194), (0, u "java/lang/Throwable$WrappedPrintWriter"), (3, .fieldref 8 199), (0, .nameAndType 200 201), (0, u "backtrace"), (0, u "Ljava/lang/Object;"), (0, .methodref 8 203), (0, .nameAndType 29 204), (0, u "(I)Ljava/lang/Throwable;"), (6, u "depth"), (0, u "I"), (10, u "(Ljava/lang/String;)V"), (45, .class_ 271), (1, u "java/lang/Throwable$SentinelHolder"), (32, u "EMPTY_THROWABLE_ARRAY"), (0, u "[Ljava/lang/Throwable;"), (12, .class_ 319), (0, u "java/io/Serializable"), (0, u "serialVersionUID"), (0, u "J"), (5, u "NULL_CAUSE_MESSAGE"), (0, u "SELF_SUPPRESSION_MESSAGE"), (0, u "CAUSE_CAPTION"), (0, u "SUPPRESSED_CAPTION")] 73

def k9c0 : Code := { maxStack := 2, maxLocals := 1, code := jdk_78_method_1_code, exceptionTable := #[], attributes := #[] }
def k9m0 : Method := { name := "<init>", desc := "()V", sig := { parameters := [], returnType := none }, accessFlags := 1, code := some k9c0 }
def k9c1 : Code := { maxStack := 2, maxLocals := 2, code := jdk_78_method_2_code, exceptionTable := #[], attributes := #[] }
def k9m1 : Method := { name := "<init>", desc := "(Ljava/lang/String;)V", sig := { parameters := [(.object "java/lang/String")], returnType := none }, accessFlags := 1, code := some k9c1 }
def k9c2 : Code := { maxStack := 1, maxLocals := 1, code := jdk_78_method_6_code, exceptionTable := #[], attributes := #[] }
def k9m2 : Method := { name := "getMessage", desc := "()Ljava/lang/String;", sig := { parameters := [], returnType := some (.object "java/lang/String") }, accessFlags := 1, code := some k9c2 }
def k9c3 : Code := { maxStack := 2, maxLocals := 1, code := ⟨#[0x2a, 0xb4, 0x00, 0x11, 0xc7, 0x00, 0x0a, 0x2a, 0xb4, 0x00, 0xc6, 0xc6, 0x00, 0x10, 0x2a, 0x03, 0xb6, 0x00, 0xca, 0x57, 0x2a, 0xb2, 0x00, 0x0d, 0xb5, 0x00, 0x11, 0x2a, 0xb0]⟩, exceptionTable := #[], attributes := #[] }
def k9m3 : Method := { name := "fillInStackTrace", desc := "()Ljava/lang/Throwable;", sig := { parameters := [], returnType := some (.object "java/lang/Throwable") }, accessFlags := 33, code := some k9c3 }
def k9m4 : Method := { name := "fillInStackTrace", desc := "(I)Ljava/lang/Throwable;", sig := { parameters := [.int], returnType := some (.object "java/lang/Throwable") }, accessFlags := 258, code := none }
/-- java/lang/Throwable -/
def k9 : Class := { plain "java/lang/Throwable" (some 0) with
  accessFlags := 33
  interfaces := #[2]
  cf := some (fileOf pool9 8 #[.nestMembers #[193, 93, 101, 269]] #[{ accessFlags := 1, nameIndex := 5, descriptorIndex := 6, attributes := #[] }, { accessFlags := 1, nameIndex := 5, descriptorIndex := 223, attributes := #[] }, { accessFlags := 1, nameIndex := 41, descriptorIndex := 38, attributes := #[] }, { accessFlags := 33, nameIndex := 29, descriptorIndex := 30, attributes := #[] }, { accessFlags := 258, nameIndex := 29, descriptorIndex := 204, attributes := #[] }] 33 2 #[318] #[{ accessFlags := 26, nameIndex := 320, descriptorIndex := 321, attributes := #[] }, { accessFlags := 130, nameIndex := 200, descriptorIndex := 201, attributes := #[] }, { accessFlags := 2, nameIndex := 33, descriptorIndex := 34, attributes := #[] }, { accessFlags := 26, nameIndex := 15, descriptorIndex := 16, attributes := #[] }, { accessFlags := 2, nameIndex := 11, descriptorIndex := 12, attributes := #[] }, { accessFlags := 2, nameIndex := 19, descriptorIndex := 16, attributes := #[] }, { accessFlags := 130, nameIndex := 211, descriptorIndex := 212, attributes := #[] }, { accessFlags := 26, nameIndex := 22, descriptorIndex := 23, attributes := #[] }, { accessFlags := 2, nameIndex := 26, descriptorIndex := 23, attributes := #[] }, { accessFlags := 26, nameIndex := 327, descriptorIndex := 34, attributes := #[] }, { accessFlags := 26, nameIndex := 328, descriptorIndex := 34, attributes := #[] }, { accessFlags := 26, nameIndex := 329, descriptorIndex := 34, attributes := #[] }, { accessFlags := 26, nameIndex := 330, descriptorIndex := 34, attributes := #[] }, { accessFlags := 26, nameIndex := 304, descriptorIndex := 305, attributes := #[] }, { accessFlags := 4120, nameIndex := 165, descriptorIndex := 166, attributes := #[] }])
  fields := #[{ name := "serialVersionUID", type := .long, accessFlags := 26, slot := 0, constantValue := 0 }, { name := "backtrace", type := (.object "java/lang/Object"), accessFlags := 130, slot := 0, constantValue := 0 }, { name := "detailMessage", type := (.object "java/lang/String"), accessFlags := 2, slot := 1, constantValue := 0 }, { name := "UNASSIGNED_STACK", type := (.array (.object "java/lang/StackTraceElement")), accessFlags := 26, slot := 1, constantValue := 0 }, { name := "cause", type := (.object "java/lang/Throwable"), accessFlags := 2, slot := 2, constantValue := 0 }, { name := "stackTrace", type := (.array (.object "java/lang/StackTraceElement")), accessFlags := 2, slot := 3, constantValue := 0 }, { name := "depth", type := .int, accessFlags := 130, slot := 4, constantValue := 0 }, { name := "SUPPRESSED_SENTINEL", type := (.object "java/util/List"), accessFlags := 26, slot := 2, constantValue := 0 }, { name := "suppressedExceptions", type := (.object "java/util/List"), accessFlags := 2, slot := 5, constantValue := 0 }, { name := "NULL_CAUSE_MESSAGE", type := (.object "java/lang/String"), accessFlags := 26, slot := 3, constantValue := 0 }, { name := "SELF_SUPPRESSION_MESSAGE", type := (.object "java/lang/String"), accessFlags := 26, slot := 4, constantValue := 0 }, { name := "CAUSE_CAPTION", type := (.object "java/lang/String"), accessFlags := 26, slot := 5, constantValue := 0 }, { name := "SUPPRESSED_CAPTION", type := (.object "java/lang/String"), accessFlags := 26, slot := 6, constantValue := 0 }, { name := "EMPTY_THROWABLE_ARRAY", type := (.array (.object "java/lang/Throwable")), accessFlags := 26, slot := 7, constantValue := 0 }, { name := "$assertionsDisabled", type := .boolean, accessFlags := 4120, slot := 8, constantValue := 0 }]
  methods := #[k9m0, k9m1, k9m2, k9m3, k9m4]
  instanceTypes := #[(.object "java/lang/Object"), (.object "java/lang/String"), (.object "java/lang/Throwable"), (.array (.object "java/lang/StackTraceElement")), .int, (.object "java/util/List")]
  staticTypes := #[.long, (.array (.object "java/lang/StackTraceElement")), (.object "java/util/List"), (.object "java/lang/String"), (.object "java/lang/String"), (.object "java/lang/String"), (.object "java/lang/String"), (.array (.object "java/lang/Throwable")), .boolean]
  resolved := Array.replicate 404 none
  statics := some 2 }

def pool10 : Array CpInfo := pool [(2, .class_ 4), (1, u "java/lang/Throwable"), (0, u "<init>"), (0, u "()V"), (0, .methodref 2 8), (0, .nameAndType 5 9), (0, u "(Ljava/lang/String;)V"), (9, .class_ 20), (0, u "java/lang/Exception"), (0, u "serialVersionUID"), (0, u "J")] 17

def k10m0 : Method := { name := "<init>", desc := "()V", sig := { parameters := [], returnType := none }, accessFlags := 1, code := none }
def k10c1 : Code := { maxStack := 2, maxLocals := 2, code := jdk_59_method_2_code, exceptionTable := #[], attributes := #[] }
def k10m1 : Method := { name := "<init>", desc := "(Ljava/lang/String;)V", sig := { parameters := [(.object "java/lang/String")], returnType := none }, accessFlags := 1, code := some k10c1 }
/-- java/lang/Exception -/
def k10 : Class := { plain "java/lang/Exception" (some 9) with
  accessFlags := 33
  interfaces := #[]
  cf := some (fileOf pool10 19 #[] #[{ accessFlags := 1, nameIndex := 5, descriptorIndex := 6, attributes := #[] }, { accessFlags := 1, nameIndex := 5, descriptorIndex := 9, attributes := #[] }] 33 2 #[] #[{ accessFlags := 24, nameIndex := 21, descriptorIndex := 22, attributes := #[] }])
  fields := #[{ name := "serialVersionUID", type := .long, accessFlags := 24, slot := 0, constantValue := 0 }]
  methods := #[k10m0, k10m1]
  instanceTypes := #[(.object "java/lang/Object"), (.object "java/lang/String"), (.object "java/lang/Throwable"), (.array (.object "java/lang/StackTraceElement")), .int, (.object "java/util/List")]
  staticTypes := #[.long]
  resolved := Array.replicate 40 none
  statics := none }

def pool11 : Array CpInfo := pool [(2, .class_ 4), (1, u "java/lang/Exception"), (0, u "<init>"), (0, u "()V"), (0, .methodref 2 8), (0, .nameAndType 5 9), (0, u "(Ljava/lang/String;)V"), (9, .class_ 20), (0, u "java/lang/RuntimeException"), (0, u "serialVersionUID"), (0, u "J")] 17

def k11m0 : Method := { name := "<init>", desc := "()V", sig := { parameters := [], returnType := none }, accessFlags := 1, code := none }
def k11c1 : Code := { maxStack := 2, maxLocals := 2, code := jdk_58_method_2_code, exceptionTable := #[], attributes := #[] }
def k11m1 : Method := { name := "<init>", desc := "(Ljava/lang/String;)V", sig := { parameters := [(.object "java/lang/String")], returnType := none }, accessFlags := 1, code := some k11c1 }
/-- java/lang/RuntimeException -/
def k11 : Class := { plain "java/lang/RuntimeException" (some 10) with
  accessFlags := 33
  interfaces := #[]
  cf := some (fileOf pool11 19 #[] #[{ accessFlags := 1, nameIndex := 5, descriptorIndex := 6, attributes := #[] }, { accessFlags := 1, nameIndex := 5, descriptorIndex := 9, attributes := #[] }] 33 2 #[] #[{ accessFlags := 24, nameIndex := 21, descriptorIndex := 22, attributes := #[] }])
  fields := #[{ name := "serialVersionUID", type := .long, accessFlags := 24, slot := 0, constantValue := 0 }]
  methods := #[k11m0, k11m1]
  instanceTypes := #[(.object "java/lang/Object"), (.object "java/lang/String"), (.object "java/lang/Throwable"), (.array (.object "java/lang/StackTraceElement")), .int, (.object "java/util/List")]
  staticTypes := #[.long]
  resolved := Array.replicate 40 none
  statics := none }

def pool12 : Array CpInfo := pool [(1, .methodref 2 3), (0, .class_ 4), (0, .nameAndType 5 6), (0, u "java/lang/RuntimeException"), (0, u "<init>"), (0, u "(Ljava/lang/String;)V"), (0, .class_ 8), (0, u "com/example/keyset/keyset/query/DeclarationException"), (0, .class_ 10), (0, u "java/lang/StringBuilder"), (0, .methodref 9 12), (0, .nameAndType 5 13), (0, u "()V"), (0, .string 15), (0, u "resource \""), (0, .methodref 9 17), (0, .nameAndType 18 19), (0, u "append"), (0, u "(Ljava/lang/String;)Ljava/lang/StringBuilder;"), (0, .string 21), (0, u "\": "), (0, .methodref 9 23), (0, .nameAndType 24 25), (0, u "toString"), (0, u "()Ljava/lang/String;"), (0, .methodref 7 3), (4, u "forResource"), (0, u "(Ljava/lang/String;Ljava/lang/String;)Lcom/example/keyset/keyset/query/DeclarationException;"), (0, u "serialVersionUID"), (0, u "J")] 9

def k12c0 : Code := { maxStack := 2, maxLocals := 2, code := prog_2_method_1_code, exceptionTable := #[], attributes := #[] }
def k12m0 : Method := { name := "<init>", desc := "(Ljava/lang/String;)V", sig := { parameters := [(.object "java/lang/String")], returnType := none }, accessFlags := 1, code := some k12c0 }
def k12c1 : Code := { maxStack := 4, maxLocals := 2, code := prog_2_method_2_code, exceptionTable := #[], attributes := #[] }
def k12m1 : Method := { name := "forResource", desc := "(Ljava/lang/String;Ljava/lang/String;)Lcom/example/keyset/keyset/query/DeclarationException;", sig := { parameters := [(.object "java/lang/String"), (.object "java/lang/String")], returnType := some (.object "com/example/keyset/keyset/query/DeclarationException") }, accessFlags := 9, code := some k12c1 }
/-- com/example/keyset/keyset/query/DeclarationException -/
def k12 : Class := { plain "com/example/keyset/keyset/query/DeclarationException" (some 11) with
  accessFlags := 33
  interfaces := #[]
  cf := some (fileOf pool12 7 #[] #[{ accessFlags := 1, nameIndex := 5, descriptorIndex := 6, attributes := #[] }, { accessFlags := 9, nameIndex := 31, descriptorIndex := 32, attributes := #[] }] 33 2 #[] #[{ accessFlags := 26, nameIndex := 33, descriptorIndex := 34, attributes := #[] }])
  fields := #[{ name := "serialVersionUID", type := .long, accessFlags := 26, slot := 0, constantValue := 0 }]
  methods := #[k12m0, k12m1]
  instanceTypes := #[(.object "java/lang/Object"), (.object "java/lang/String"), (.object "java/lang/Throwable"), (.array (.object "java/lang/StackTraceElement")), .int, (.object "java/util/List")]
  staticTypes := #[.long]
  resolved := Array.replicate 44 none
  statics := none }

def pool13 : Array CpInfo := pool [(1, .class_ 2), (0, u "java/lang/Appendable"), (0, .class_ 4), (0, u "java/lang/Object")] 9

/-- java/lang/Appendable -/
def k13 : Class := { plain "java/lang/Appendable" (some 0) with
  accessFlags := 1537
  interfaces := #[]
  cf := some (fileOf pool13 1 #[] #[] 1537 3 #[] #[])
  fields := #[]
  methods := #[]
  instanceTypes := #[]
  staticTypes := #[]
  resolved := Array.replicate 14 none
  statics := none }

def pool14 : Array CpInfo := pool [(1, .class_ 2), (0, u "java/lang/String"), (0, .methodref 4 5), (0, .class_ 6), (0, .nameAndType 7 8), (0, u "java/lang/Object"), (0, u "<init>"), (0, u "()V"), (1, .class_ 12), (1, u "java/lang/AbstractStringBuilder"), (0, u "EMPTYVALUE"), (0, u "[B"), (0, .fieldref 10 16), (0, .nameAndType 17 14), (0, u "value"), (0, .fieldref 1 19), (0, .nameAndType 20 21), (0, u "COMPACT_STRINGS"), (0, u "Z"), (0, .fieldref 10 23), (0, .nameAndType 24 25), (0, u "coder"), (0, u "B"), (0, .methodref 27 28), (0, .class_ 29), (0, .nameAndType 30 31), (0, u "java/lang/StringUTF16"), (0, u "newBytesFor"), (0, u "(I)[B"), (0, .methodref 1 33), (0, .nameAndType 34 35), (0, u "length"), (0, u "()I"), (3, .integer 2147483647), (0, .methodref 1 41), (0, .nameAndType 24 42), (0, u "()B"), (2, u "append"), (0, u "(Ljava/lang/String;)Ljava/lang/AbstractStringBuilder;"), (1, .class_ 49), (0, u "java/lang/CharSequence"), (19, u "(Ljava/lang/String;)V"), (5, u "maybeLatin1"), (3, .fieldref 10 80), (0, .nameAndType 81 82), (0, u "count"), (0, u "I"), (0, .methodref 10 84), (0, .nameAndType 85 86), (0, u "isLatin1"), (0, u "()Z"), (1, .class_ 90), (1, u "java/lang/StringLatin1"), (9, .methodref 10 101), (0, .nameAndType 102 103), (0, u "ensureCapacityInternal"), (0, u "(I)V"), (0, .methodref 10 105), (0, .nameAndType 106 107), (0, u "newCapacity"), (0, u "(I)I"), (0, .methodref 109 110), (0, .class_ 111), (0, .nameAndType 112 113), (0, u "java/util/Arrays"), (0, u "copyOf"), (0, u "([BI)[B"), (0, .methodref 115 116), (0, .class_ 117), (0, .nameAndType 118 119), (0, u "jdk/internal/util/ArraysSupport"), (0, u "newLength"), (0, u "(III)I"), (5, .methodref 88 126), (0, .nameAndType 127 128), (0, u "inflate"), (0, u "([BI[BII)V"), (66, .methodref 10 196), (0, .nameAndType 127 8), (11, .methodref 10 209), (0, .nameAndType 210 211), (0, u "putStringAt"), (0, u "(ILjava/lang/String;)V"), (5, u "inflateIfNeededFor"), (2, .nameAndType 221 222), (0, u "getBytes"), (0, u "([BIB)V"), (174, .methodref 10 398), (0, .nameAndType 217 69), (0, .methodref 1 220), (3, u "()[B"), (40, .class_ 445), (0, u "java/lang/Appendable"), (106, u "getValue")] 56

def k14m0 : Method := { name := "<init>", desc := "()V", sig := { parameters := [], returnType := none }, accessFlags := 0, code := none }
def k14c1 : Code := { maxStack := 2, maxLocals := 2, code := jdk_68_method_2_code, exceptionTable := #[], attributes := #[] }
def k14m1 : Method := { name := "<init>", desc := "(I)V", sig := { parameters := [.int], returnType := none }, accessFlags := 0, code := some k14c1 }
def k14c2 : Code := { maxStack := 1, maxLocals := 1, code := jdk_68_method_6_code, exceptionTable := #[], attributes := #[] }
def k14m2 : Method := { name := "length", desc := "()I", sig := { parameters := [], returnType := some .int }, accessFlags := 1, code := some k14c2 }
def k14c3 : Code := { maxStack := 4, maxLocals := 3, code := jdk_68_method_9_code, exceptionTable := #[], attributes := #[] }
def k14m3 : Method := { name := "ensureCapacityInternal", desc := "(I)V", sig := { parameters := [.int], returnType := none }, accessFlags := 2, code := some k14c3 }
def k14c4 : Code := { maxStack := 5, maxLocals := 6, code := jdk_68_method_10_code, exceptionTable := #[], attributes := #[] }
def k14m4 : Method := { name := "newCapacity", desc := "(I)I", sig := { parameters := [.int], returnType := some .int }, accessFlags := 2, code := some k14c4 }
def k14c5 : Code := { maxStack := 5, maxLocals := 2, code := jdk_68_method_11_code, exceptionTable := #[], attributes := #[] }
def k14m5 : Method := { name := "inflate", desc := "()V", sig := { parameters := [], returnType := none }, accessFlags := 2, code := some k14c5 }
def k14c6 : Code := { maxStack := 3, maxLocals := 3, code := jdk_68_method_22_code, exceptionTable := #[], attributes := #[] }
def k14m6 : Method := { name := "append", desc := "(Ljava/lang/String;)Ljava/lang/AbstractStringBuilder;", sig := { parameters := [(.object "java/lang/String")], returnType := some (.object "java/lang/AbstractStringBuilder") }, accessFlags := 1, code := some k14c6 }
def k14c7 : Code := { maxStack := 1, maxLocals := 1, code := jdk_68_method_64_code, exceptionTable := #[], attributes := #[] }
def k14m7 : Method := { name := "getValue", desc := "()[B", sig := { parameters := [], returnType := some (.array .byte) }, accessFlags := 16, code := some k14c7 }
def k14c8 : Code := { maxStack := 1, maxLocals := 1, code := jdk_68_method_68_code, exceptionTable := #[], attributes := #[] }
def k14m8 : Method := { name := "isLatin1", desc := "()Z", sig := { parameters := [], returnType := some .boolean }, accessFlags := 16, code := some k14c8 }
def k14c9 : Code := { maxStack := 2, maxLocals := 2, code := jdk_68_method_71_code, exceptionTable := #[], attributes := #[] }
def k14m9 : Method := { name := "inflateIfNeededFor", desc := "(Ljava/lang/String;)V", sig := { parameters := [(.object "java/lang/String")], returnType := none }, accessFlags := 2, code := some k14c9 }
def k14c10 : Code := { maxStack := 4, maxLocals := 3, code := jdk_68_method_73_code, exceptionTable := #[], attributes := #[] }
def k14m10 : Method := { name := "putStringAt", desc := "(ILjava/lang/String;)V", sig := { parameters := [.int, (.object "java/lang/String")], returnType := none }, accessFlags := 2, code := some k14c10 }
/-- java/lang/AbstractStringBuilder -/
def k14 : Class := { plain "java/lang/AbstractStringBuilder" (some 0) with
  accessFlags := 1056
  interfaces := #[13, 4]
  cf := some (fileOf pool14 10 #[] #[{ accessFlags := 0, nameIndex := 7, descriptorIndex := 8, attributes := #[] }, { accessFlags := 0, nameIndex := 7, descriptorIndex := 103, attributes := #[] }, { accessFlags := 1, nameIndex := 34, descriptorIndex := 35, attributes := #[] }, { accessFlags := 2, nameIndex := 102, descriptorIndex := 103, attributes := #[] }, { accessFlags := 2, nameIndex := 106, descriptorIndex := 107, attributes := #[] }, { accessFlags := 2, nameIndex := 127, descriptorIndex := 8, attributes := #[] }, { accessFlags := 1, nameIndex := 45, descriptorIndex := 46, attributes := #[] }, { accessFlags := 16, nameIndex := 552, descriptorIndex := 403, attributes := #[] }, { accessFlags := 16, nameIndex := 85, descriptorIndex := 86, attributes := #[] }, { accessFlags := 2, nameIndex := 217, descriptorIndex := 69, attributes := #[] }, { accessFlags := 2, nameIndex := 210, descriptorIndex := 211, attributes := #[] }] 1056 4 #[444, 48] #[{ accessFlags := 0, nameIndex := 17, descriptorIndex := 14, attributes := #[] }, { accessFlags := 0, nameIndex := 24, descriptorIndex := 25, attributes := #[] }, { accessFlags := 0, nameIndex := 75, descriptorIndex := 21, attributes := #[] }, { accessFlags := 0, nameIndex := 81, descriptorIndex := 82, attributes := #[] }, { accessFlags := 26, nameIndex := 13, descriptorIndex := 14, attributes := #[] }])
  fields := #[{ name := "value", type := (.array .byte), accessFlags := 0, slot := 0, constantValue := 0 }, { name := "coder", type := .byte, accessFlags := 0, slot := 1, constantValue := 0 }, { name := "maybeLatin1", type := .boolean, accessFlags := 0, slot := 2, constantValue := 0 }, { name := "count", type := .int, accessFlags := 0, slot := 3, constantValue := 0 }, { name := "EMPTYVALUE", type := (.array .byte), accessFlags := 26, slot := 0, constantValue := 0 }]
  methods := #[k14m0, k14m1, k14m2, k14m3, k14m4, k14m5, k14m6, k14m7, k14m8, k14m9, k14m10]
  instanceTypes := #[(.array .byte), .byte, .boolean, .int]
  staticTypes := #[(.array .byte)]
  resolved := Array.replicate 609 none
  statics := none }

def pool15 : Array CpInfo := pool [(1, .methodref 2 3), (0, .class_ 4), (0, .nameAndType 5 6), (0, u "java/lang/AbstractStringBuilder"), (0, u "<init>"), (0, u "(I)V"), (11, .class_ 20), (1, u "java/lang/String"), (3, .class_ 26), (1, u "java/lang/StringBuilder"), (0, u "append"), (0, u "(Ljava/lang/String;)Ljava/lang/StringBuilder;"), (0, .methodref 2 30), (0, .nameAndType 27 31), (0, u "(Ljava/lang/String;)Ljava/lang/AbstractStringBuilder;"), (105, .methodref 18 138), (0, .nameAndType 5 139), (0, u "(Ljava/lang/StringBuilder;)V"), (5, u "()V"), (10, u "()I"), (186, .methodref 2 344), (0, .nameAndType 345 156), (0, u "length"), (3, .class_ 350), (0, u "java/lang/Appendable"), (0, .class_ 352), (0, u "java/io/Serializable"), (0, .class_ 354), (0, u "java/lang/Comparable"), (0, .class_ 356), (0, u "java/lang/CharSequence"), (0, u "serialVersionUID"), (0, u "J"), (40, u "toString"), (0, u "()Ljava/lang/String;")] 21

def k15c0 : Code := { maxStack := 2, maxLocals := 1, code := jdk_67_method_1_code, exceptionTable := #[], attributes := #[] }
def k15m0 : Method := { name := "<init>", desc := "()V", sig := { parameters := [], returnType := none }, accessFlags := 1, code := some k15c0 }
def k15c1 : Code := { maxStack := 2, maxLocals := 2, code := jdk_67_method_7_code, exceptionTable := #[], attributes := #[] }
def k15m1 : Method := { name := "append", desc := "(Ljava/lang/String;)Ljava/lang/StringBuilder;", sig := { parameters := [(.object "java/lang/String")], returnType := some (.object "java/lang/StringBuilder") }, accessFlags := 1, code := some k15c1 }
def k15c2 : Code := { maxStack := 3, maxLocals := 1, code := jdk_67_method_42_code, exceptionTable := #[], attributes := #[] }
def k15m2 : Method := { name := "toString", desc := "()Ljava/lang/String;", sig := { parameters := [], returnType := some (.object "java/lang/String") }, accessFlags := 1, code := some k15c2 }
def k15c3 : Code := { maxStack := 1, maxLocals := 1, code := jdk_67_method_93_code, exceptionTable := #[], attributes := #[] }
def k15m3 : Method := { name := "length", desc := "()I", sig := { parameters := [], returnType := some .int }, accessFlags := 4161, code := some k15c3 }
/-- java/lang/StringBuilder -/
def k15 : Class := { plain "java/lang/StringBuilder" (some 14) with
  accessFlags := 49
  interfaces := #[13, 2, 3, 4]
  cf := some (fileOf pool15 24 #[] #[{ accessFlags := 1, nameIndex := 5, descriptorIndex := 145, attributes := #[] }, { accessFlags := 1, nameIndex := 27, descriptorIndex := 28, attributes := #[] }, { accessFlags := 1, nameIndex := 399, descriptorIndex := 400, attributes := #[] }, { accessFlags := 4161, nameIndex := 345, descriptorIndex := 156, attributes := #[] }] 49 2 #[349, 351, 353, 355] #[{ accessFlags := 24, nameIndex := 357, descriptorIndex := 358, attributes := #[] }])
  fields := #[{ name := "serialVersionUID", type := .long, accessFlags := 24, slot := 0, constantValue := 0 }]
  methods := #[k15m0, k15m1, k15m2, k15m3]
  instanceTypes := #[(.array .byte), .byte, .boolean, .int]
  staticTypes := #[.long]
  resolved := Array.replicate 422 none
  statics := none }

def pool16 : Array CpInfo := pool [(2, .class_ 4), (1, u "java/lang/Object"), (0, u "<init>"), (0, u "()V"), (1, .class_ 10), (1, u "java/lang/System"), (0, u "allowSecurityManager"), (0, u "I"), (16, u "cons"), (0, u "Ljava/io/Console;"), (77, .class_ 110), (1, u "java/lang/System$CallersHolder"), (43, u "initialErrStream"), (0, u "Ljava/io/PrintStream;"), (19, u "security"), (0, u "Ljava/lang/SecurityManager;"), (31, .class_ 209), (0, u "java/lang/System$1"), (7, u "props"), (0, u "Ljava/util/Properties;"), (2, u "lineSeparator"), (0, u "Ljava/lang/String;"), (96, .class_ 321), (1, u "java/lang/System$LoggerFinder"), (5, .class_ 328), (0, u "java/lang/System$Logger"), (67, u "err"), (2, u "out"), (91, u "notSupportedJnuEncoding"), (15, u "in"), (17, u "initialIn"), (0, u "Ljava/io/InputStream;"), (35, u "bootLayer"), (0, u "Ljava/lang/ModuleLayer;"), (99, .class_ 664), (0, u "java/lang/System$2"), (9, u "NEVER"), (2, u "MAYBE"), (49, u "arraycopy"), (0, u "(Ljava/lang/Object;ILjava/lang/Object;II)V"), (72, .class_ 802), (0, u "java/lang/System$Logger$Level")] 31

def k16m0 : Method := { name := "<init>", desc := "()V", sig := { parameters := [], returnType := none }, accessFlags := 2, code := none }
def k16m1 : Method := { name := "arraycopy", desc := "(Ljava/lang/Object;ILjava/lang/Object;II)V", sig := { parameters := [(.object "java/lang/Object"), .int, (.object "java/lang/Object"), .int, .int], returnType := none }, accessFlags := 265, code := none }
/-- java/lang/System -/
def k16 : Class := { plain "java/lang/System" (some 0) with
  accessFlags := 49
  interfaces := #[]
  cf := some (fileOf pool16 8 #[.nestMembers #[319, 327, 801, 108, 663, 208]] #[{ accessFlags := 2, nameIndex := 5, descriptorIndex := 6, attributes := #[] }, { accessFlags := 265, nameIndex := 727, descriptorIndex := 728, attributes := #[] }] 49 2 #[] #[{ accessFlags := 25, nameIndex := 507, descriptorIndex := 526, attributes := #[] }, { accessFlags := 25, nameIndex := 399, descriptorIndex := 155, attributes := #[] }, { accessFlags := 25, nameIndex := 396, descriptorIndex := 155, attributes := #[] }, { accessFlags := 10, nameIndex := 525, descriptorIndex := 526, attributes := #[] }, { accessFlags := 26, nameIndex := 674, descriptorIndex := 12, attributes := #[] }, { accessFlags := 26, nameIndex := 677, descriptorIndex := 12, attributes := #[] }, { accessFlags := 10, nameIndex := 11, descriptorIndex := 12, attributes := #[] }, { accessFlags := 74, nameIndex := 175, descriptorIndex := 176, attributes := #[] }, { accessFlags := 10, nameIndex := 491, descriptorIndex := 222, attributes := #[] }, { accessFlags := 74, nameIndex := 29, descriptorIndex := 30, attributes := #[] }, { accessFlags := 74, nameIndex := 154, descriptorIndex := 155, attributes := #[] }, { accessFlags := 10, nameIndex := 217, descriptorIndex := 218, attributes := #[] }, { accessFlags := 10, nameIndex := 221, descriptorIndex := 222, attributes := #[] }, { accessFlags := 8, nameIndex := 562, descriptorIndex := 563, attributes := #[] }])
  fields := #[{ name := "in", type := (.object "java/io/InputStream"), accessFlags := 25, slot := 0, constantValue := 0 }, { name := "out", type := (.object "java/io/PrintStream"), accessFlags := 25, slot := 1, constantValue := 0 }, { name := "err", type := (.object "java/io/PrintStream"), accessFlags := 25, slot := 2, constantValue := 0 }, { name := "initialIn", type := (.object "java/io/InputStream"), accessFlags := 10, slot := 3, constantValue := 0 }, { name := "NEVER", type := .int, accessFlags := 26, slot := 4, constantValue := 0 }, { name := "MAYBE", type := .int, accessFlags := 26, slot := 5, constantValue := 0 }, { name := "allowSecurityManager", type := .int, accessFlags := 10, slot := 6, constantValue := 0 }, { name := "security", type := (.object "java/lang/SecurityManager"), accessFlags := 74, slot := 7, constantValue := 0 }, { name := "notSupportedJnuEncoding", type := (.object "java/lang/String"), accessFlags := 10, slot := 8, constantValue := 0 }, { name := "cons", type := (.object "java/io/Console"), accessFlags := 74, slot := 9, constantValue := 0 }, { name := "initialErrStream", type := (.object "java/io/PrintStream"), accessFlags := 74, slot := 10, constantValue := 0 }, { name := "props", type := (.object "java/util/Properties"), accessFlags := 10, slot := 11, constantValue := 0 }, { name := "lineSeparator", type := (.object "java/lang/String"), accessFlags := 10, slot := 12, constantValue := 0 }, { name := "bootLayer", type := (.object "java/lang/ModuleLayer"), accessFlags := 8, slot := 13, constantValue := 0 }]
  methods := #[k16m0, k16m1]
  instanceTypes := #[]
  staticTypes := #[(.object "java/io/InputStream"), (.object "java/io/PrintStream"), (.object "java/io/PrintStream"), (.object "java/io/InputStream"), .int, .int, .int, (.object "java/lang/SecurityManager"), (.object "java/lang/String"), (.object "java/io/Console"), (.object "java/io/PrintStream"), (.object "java/util/Properties"), (.object "java/lang/String"), (.object "java/lang/ModuleLayer")]
  resolved := Array.replicate 834 none
  statics := none }

def pool17 : Array CpInfo := pool [(2, .class_ 4), (1, u "java/lang/Object"), (0, u "<init>"), (0, u "()V"), (7, .class_ 16), (1, u "java/util/Arrays"), (57, .class_ 76), (1, u "java/util/Arrays$NaturalOrder"), (32, u "()Ljava/lang/Object;"), (3, .class_ 115), (1, u "java/util/Arrays$LegacyMergeSort"), (1, u "Z"), (10, .nameAndType 129 109), (0, u "clone"), (9, u "copyOfRange"), (10, .methodref 151 152), (0, .class_ 153), (0, .nameAndType 154 155), (0, u "java/lang/System"), (0, u "arraycopy"), (0, u "(Ljava/lang/Object;ILjava/lang/Object;II)V"), (146, u "copyOf"), (1, .methodref 305 306), (0, .class_ 307), (0, .nameAndType 308 309), (0, u "java/lang/Math"), (0, u "min"), (0, u "(II)I"), (0, .methodref 311 128), (0, .class_ 312), (0, u "[B"), (26, .methodref 14 340), (0, .nameAndType 341 342), (0, u "copyOfRangeByte"), (0, u "([BII)[B"), (0, .methodref 14 344), (0, .nameAndType 345 346), (0, u "checkLength"), (0, u "(II)V"), (28, .class_ 376), (0, u "java/util/Arrays$ArrayList"), (68, u "$assertionsDisabled"), (269, u "MIN_ARRAY_SORT_GRAN"), (0, u "I"), (2, u "INSERTIONSORT_THRESHOLD"), (149, u "([BI)[B"), (105, .class_ 976), (0, u "java/util/Arrays$ArrayItr")] 52

def k17m0 : Method := { name := "<init>", desc := "()V", sig := { parameters := [], returnType := none }, accessFlags := 2, code := none }
def k17c1 : Code := { maxStack := 6, maxLocals := 3, code := jdk_65_method_121_code, exceptionTable := #[], attributes := #[] }
def k17m1 : Method := { name := "copyOf", desc := "([BI)[B", sig := { parameters := [(.array .byte), .int], returnType := some (.array .byte) }, accessFlags := 9, code := some k17c1 }
def k17c2 : Code := { maxStack := 4, maxLocals := 2, code := jdk_65_method_131_code, exceptionTable := #[], attributes := #[] }
def k17m2 : Method := { name := "checkLength", desc := "(II)V", sig := { parameters := [.int, .int], returnType := none }, accessFlags := 10, code := some k17c2 }
def k17c3 : Code := { maxStack := 3, maxLocals := 3, code := jdk_65_method_132_code, exceptionTable := #[], attributes := #[] }
def k17m3 : Method := { name := "copyOfRange", desc := "([BII)[B", sig := { parameters := [(.array .byte), .int, .int], returnType := some (.array .byte) }, accessFlags := 9, code := some k17c3 }
def k17c4 : Code := { maxStack := 6, maxLocals := 5, code := jdk_65_method_133_code, exceptionTable := #[], attributes := #[] }
def k17m4 : Method := { name := "copyOfRangeByte", desc := "([BII)[B", sig := { parameters := [(.array .byte), .int, .int], returnType := some (.array .byte) }, accessFlags := 10, code := some k17c4 }
/-- java/util/Arrays -/
def k17 : Class := { plain "java/util/Arrays" (some 0) with
  accessFlags := 49
  interfaces := #[]
  cf := some (fileOf pool17 14 #[.nestMembers #[975, 375, 113, 74]] #[{ accessFlags := 2, nameIndex := 5, descriptorIndex := 6, attributes := #[] }, { accessFlags := 9, nameIndex := 302, descriptorIndex := 869, attributes := #[] }, { accessFlags := 10, nameIndex := 345, descriptorIndex := 346, attributes := #[] }, { accessFlags := 9, nameIndex := 139, descriptorIndex := 342, attributes := #[] }, { accessFlags := 10, nameIndex := 341, descriptorIndex := 342, attributes := #[] }] 49 2 #[] #[{ accessFlags := 26, nameIndex := 715, descriptorIndex := 716, attributes := #[] }, { accessFlags := 26, nameIndex := 719, descriptorIndex := 716, attributes := #[] }, { accessFlags := 4120, nameIndex := 445, descriptorIndex := 117, attributes := #[] }])
  fields := #[{ name := "MIN_ARRAY_SORT_GRAN", type := .int, accessFlags := 26, slot := 0, constantValue := 0 }, { name := "INSERTIONSORT_THRESHOLD", type := .int, accessFlags := 26, slot := 1, constantValue := 0 }, { name := "$assertionsDisabled", type := .boolean, accessFlags := 4120, slot := 2, constantValue := 0 }]
  methods := #[k17m0, k17m1, k17m2, k17m3, k17m4]
  instanceTypes := #[]
  staticTypes := #[.int, .int, .boolean]
  resolved := Array.replicate 1029 none
  statics := none }

def pool18 : Array CpInfo := pool [(1, .class_ 2), (0, u "java/lang/Math"), (1, .class_ 6), (1, u "java/lang/Object"), (0, u "<init>"), (0, u "()V"), (89, .class_ 100), (1, u "java/lang/Math$RandomNumberGeneratorHolder"), (71, u "negativeZeroFloatBits"), (0, u "J"), (2, u "negativeZeroDoubleBits"), (21, u "max"), (2, u "min"), (43, u "$assertionsDisabled"), (0, u "Z"), (88, u "(II)I"), (2, u "twoToTheDoubleScaleDown"), (0, u "D"), (4, u "twoToTheDoubleScaleUp"), (9, u "E"), (3, u "PI"), (2, u "TAU"), (2, u "DEGREES_TO_RADIANS"), (0, u "RADIANS_TO_DEGREES")] 94

def k18m0 : Method := { name := "<init>", desc := "()V", sig := { parameters := [], returnType := none }, accessFlags := 2, code := none }
def k18c1 : Code := { maxStack := 2, maxLocals := 2, code := jdk_29_method_65_code, exceptionTable := #[], attributes := #[] }
def k18m1 : Method := { name := "max", desc := "(II)I", sig := { parameters := [.int, .int], returnType := some .int }, accessFlags := 9, code := some k18c1 }
def k18c2 : Code := { maxStack := 2, maxLocals := 2, code := jdk_29_method_69_code, exceptionTable := #[], attributes := #[] }
def k18m2 : Method := { name := "min", desc := "(II)I", sig := { parameters := [.int, .int], returnType := some .int }, accessFlags := 9, code := some k18c2 }
/-- java/lang/Math -/
def k18 : Class := { plain "java/lang/Math" (some 0) with
  accessFlags := 49
  interfaces := #[]
  cf := some (fileOf pool18 1 #[.nestMembers #[98]] #[{ accessFlags := 2, nameIndex := 7, descriptorIndex := 8, attributes := #[] }, { accessFlags := 9, nameIndex := 198, descriptorIndex := 335, attributes := #[] }, { accessFlags := 9, nameIndex := 201, descriptorIndex := 335, attributes := #[] }] 49 4 #[] #[{ accessFlags := 25, nameIndex := 354, descriptorIndex := 339, attributes := #[] }, { accessFlags := 25, nameIndex := 358, descriptorIndex := 339, attributes := #[] }, { accessFlags := 25, nameIndex := 361, descriptorIndex := 339, attributes := #[] }, { accessFlags := 26, nameIndex := 364, descriptorIndex := 339, attributes := #[] }, { accessFlags := 26, nameIndex := 365, descriptorIndex := 339, attributes := #[] }, { accessFlags := 26, nameIndex := 172, descriptorIndex := 173, attributes := #[] }, { accessFlags := 26, nameIndex := 176, descriptorIndex := 173, attributes := #[] }, { accessFlags := 8, nameIndex := 344, descriptorIndex := 339, attributes := #[] }, { accessFlags := 8, nameIndex := 338, descriptorIndex := 339, attributes := #[] }, { accessFlags := 4120, nameIndex := 245, descriptorIndex := 246, attributes := #[] }])
  fields := #[{ name := "E", type := .double, accessFlags := 25, slot := 0, constantValue := 0 }, { name := "PI", type := .double, accessFlags := 25, slot := 1, constantValue := 0 }, { name := "TAU", type := .double, accessFlags := 25, slot := 2, constantValue := 0 }, { name := "DEGREES_TO_RADIANS", type := .double, accessFlags := 26, slot := 3, constantValue := 0 }, { name := "RADIANS_TO_DEGREES", type := .double, accessFlags := 26, slot := 4, constantValue := 0 }, { name := "negativeZeroFloatBits", type := .long, accessFlags := 26, slot := 5, constantValue := 0 }, { name := "negativeZeroDoubleBits", type := .long, accessFlags := 26, slot := 6, constantValue := 0 }, { name := "twoToTheDoubleScaleUp", type := .double, accessFlags := 8, slot := 7, constantValue := 0 }, { name := "twoToTheDoubleScaleDown", type := .double, accessFlags := 8, slot := 8, constantValue := 0 }, { name := "$assertionsDisabled", type := .boolean, accessFlags := 4120, slot := 9, constantValue := 0 }]
  methods := #[k18m0, k18m1, k18m2]
  instanceTypes := #[]
  staticTypes := #[.double, .double, .double, .double, .double, .long, .long, .double, .double, .boolean]
  resolved := Array.replicate 460 none
  statics := none }

def pool19 : Array CpInfo := pool [(1, .class_ 2), (0, u "java/lang/String"), (1, .class_ 6), (1, u "java/lang/Object"), (0, u "<init>"), (0, u "()V"), (0, .methodref 1 10), (0, .nameAndType 11 12), (0, u "checkIndex"), (0, u "(II)V"), (1, .class_ 16), (1, u "java/lang/StringLatin1"), (0, u "inflate"), (2, .class_ 22), (1, u "java/lang/StringUTF16"), (3, .nameAndType 17 27), (0, u "([BI[BII)V"), (25, u "([BI)C"), (67, u "$assertionsDisabled"), (0, u "Z"), (98, .class_ 223), (1, u "java/lang/StringLatin1$LinesSpliterator"), (16, .methodref 20 26), (11, u "charAt"), (137, .class_ 391), (0, u "java/lang/StringLatin1$CharsSpliterator")] 3

def k19m0 : Method := { name := "<init>", desc := "()V", sig := { parameters := [], returnType := none }, accessFlags := 0, code := none }
def k19c1 : Code := { maxStack := 2, maxLocals := 2, code := jdk_43_method_2_code, exceptionTable := #[], attributes := #[] }
def k19m1 : Method := { name := "charAt", desc := "([BI)C", sig := { parameters := [(.array .byte), .int], returnType := some .char }, accessFlags := 9, code := some k19c1 }
def k19c2 : Code := { maxStack := 5, maxLocals := 5, code := jdk_43_method_50_code, exceptionTable := #[], attributes := #[] }
def k19m2 : Method := { name := "inflate", desc := "([BI[BII)V", sig := { parameters := [(.array .byte), .int, (.array .byte), .int, .int], returnType := none }, accessFlags := 9, code := some k19c2 }
/-- java/lang/StringLatin1 -/
def k19 : Class := { plain "java/lang/StringLatin1" (some 0) with
  accessFlags := 48
  interfaces := #[]
  cf := some (fileOf pool19 14 #[.nestMembers #[390, 221]] #[{ accessFlags := 0, nameIndex := 7, descriptorIndex := 8, attributes := #[] }, { accessFlags := 9, nameIndex := 252, descriptorIndex := 53, attributes := #[] }, { accessFlags := 9, nameIndex := 17, descriptorIndex := 27, attributes := #[] }] 48 4 #[] #[{ accessFlags := 4120, nameIndex := 121, descriptorIndex := 122, attributes := #[] }])
  fields := #[{ name := "$assertionsDisabled", type := .boolean, accessFlags := 4120, slot := 0, constantValue := 0 }]
  methods := #[k19m0, k19m1, k19m2]
  instanceTypes := #[]
  staticTypes := #[.boolean]
  resolved := Array.replicate 395 none
  statics := none }

def pool20 : Array CpInfo := pool [(2, .class_ 4), (1, u "java/lang/Object"), (0, u "<init>"), (0, u "()V"), (17, .class_ 26), (1, u "jdk/internal/util/Preconditions"), (6, u "checkIndex"), (15, u "checkFromIndexSize"), (5, .class_ 56), (0, u "jdk/internal/util/Preconditions$4"), (57, .class_ 115), (0, u "jdk/internal/util/Preconditions$1"), (7, u "SIOOBE_FORMATTER"), (0, u "Ljava/util/function/BiFunction;"), (0, .class_ 126), (0, u "jdk/internal/util/Preconditions$2"), (3, u "AIOOBE_FORMATTER"), (0, .class_ 132), (0, u "jdk/internal/util/Preconditions$3"), (3, u "IOOBE_FORMATTER"), (41, u "(IILjava/util/function/BiFunction;)I"), (4, u "(IIILjava/util/function/BiFunction;)I")] 10

def k20m0 : Method := { name := "<init>", desc := "()V", sig := { parameters := [], returnType := none }, accessFlags := 1, code := none }
def k20c1 : Code := { maxStack := 3, maxLocals := 3, code := jdk_41_method_11_code, exceptionTable := #[], attributes := #[] }
def k20m1 : Method := { name := "checkIndex", desc := "(IILjava/util/function/BiFunction;)I", sig := { parameters := [.int, .int, (.object "java/util/function/BiFunction")], returnType := some .int }, accessFlags := 9, code := some k20c1 }
def k20c2 : Code := { maxStack := 4, maxLocals := 4, code := jdk_41_method_13_code, exceptionTable := #[], attributes := #[] }
def k20m2 : Method := { name := "checkFromIndexSize", desc := "(IIILjava/util/function/BiFunction;)I", sig := { parameters := [.int, .int, .int, (.object "java/util/function/BiFunction")], returnType := some .int }, accessFlags := 9, code := some k20c2 }
/-- jdk/internal/util/Preconditions -/
def k20 : Class := { plain "jdk/internal/util/Preconditions" (some 0) with
  accessFlags := 33
  interfaces := #[]
  cf := some (fileOf pool20 24 #[.nestMembers #[55, 131, 125, 114]] #[{ accessFlags := 1, nameIndex := 5, descriptorIndex := 6, attributes := #[] }, { accessFlags := 9, nameIndex := 33, descriptorIndex := 178, attributes := #[] }, { accessFlags := 9, nameIndex := 49, descriptorIndex := 183, attributes := #[] }] 33 2 #[] #[{ accessFlags := 25, nameIndex := 123, descriptorIndex := 124, attributes := #[] }, { accessFlags := 25, nameIndex := 130, descriptorIndex := 124, attributes := #[] }, { accessFlags := 25, nameIndex := 136, descriptorIndex := 124, attributes := #[] }])
  fields := #[{ name := "SIOOBE_FORMATTER", type := (.object "java/util/function/BiFunction"), accessFlags := 25, slot := 0, constantValue := 0 }, { name := "AIOOBE_FORMATTER", type := (.object "java/util/function/BiFunction"), accessFlags := 25, slot := 1, constantValue := 0 }, { name := "IOOBE_FORMATTER", type := (.object "java/util/function/BiFunction"), accessFlags := 25, slot := 2, constantValue := 0 }]
  methods := #[k20m0, k20m1, k20m2]
  instanceTypes := #[]
  staticTypes := #[(.object "java/util/function/BiFunction"), (.object "java/util/function/BiFunction"), (.object "java/util/function/BiFunction")]
  resolved := Array.replicate 194 none
  statics := some 3 }

def pool21 : Array CpInfo := pool [(1, .class_ 2), (0, u "java/lang/Cloneable"), (0, .class_ 4), (0, u "java/lang/Object")] 2

/-- java/lang/Cloneable -/
def k21 : Class := { plain "java/lang/Cloneable" (some 0) with
  accessFlags := 1537
  interfaces := #[]
  cf := some (fileOf pool21 1 #[] #[] 1537 3 #[] #[])
  fields := #[]
  methods := #[]
  instanceTypes := #[]
  staticTypes := #[]
  resolved := Array.replicate 7 none
  statics := none }

def pool22 : Array CpInfo := pool [(9, u "<init>"), (6, .class_ 18), (1, u "java/lang/Object"), (0, u "()V"), (1, .class_ 23), (1, u "jdk/internal/util/ArraysSupport"), (0, u "LOG2_ARRAY_LONG_INDEX_SCALE"), (0, u "I"), (2, u "U"), (0, u "Ljdk/internal/misc/Unsafe;"), (8, u "BIG_ENDIAN"), (0, u "Z"), (8, u "LOG2_BYTE_BIT_SIZE"), (4, u "LOG2_ARRAY_INT_INDEX_SCALE"), (54, u "JLA"), (0, u "Ljdk/internal/access/JavaLangAccess;"), (11, u "LOG2_ARRAY_BOOLEAN_INDEX_SCALE"), (9, u "LOG2_ARRAY_BYTE_INDEX_SCALE"), (5, u "LOG2_ARRAY_CHAR_INDEX_SCALE"), (5, u "LOG2_ARRAY_SHORT_INDEX_SCALE"), (18, u "LOG2_ARRAY_FLOAT_INDEX_SCALE"), (24, u "LOG2_ARRAY_DOUBLE_INDEX_SCALE"), (6, .methodref 195 196), (0, .class_ 197), (0, .nameAndType 198 199), (0, u "java/lang/Math"), (0, u "max"), (0, u "(II)I"), (0, .integer 2147483639), (76, u "T_BOOLEAN"), (2, u "T_CHAR"), (1, u "T_FLOAT"), (1, u "T_DOUBLE"), (1, u "T_BYTE"), (1, u "T_SHORT"), (1, u "T_INT"), (1, u "T_LONG"), (1, u "SOFT_MAX_ARRAY_LENGTH"), (56, u "newLength"), (0, u "(III)I")] 25

def k22m0 : Method := { name := "<init>", desc := "()V", sig := { parameters := [], returnType := none }, accessFlags := 2, code := none }
def k22c1 : Code := { maxStack := 3, maxLocals := 4, code := jdk_48_method_27_code, exceptionTable := #[], attributes := #[] }
def k22m1 : Method := { name := "newLength", desc := "(III)I", sig := { parameters := [.int, .int, .int], returnType := some .int }, accessFlags := 9, code := some k22c1 }
/-- jdk/internal/util/ArraysSupport -/
def k22 : Class := { plain "jdk/internal/util/ArraysSupport" (some 0) with
  accessFlags := 33
  interfaces := #[]
  cf := some (fileOf pool22 21 #[] #[{ accessFlags := 2, nameIndex := 9, descriptorIndex := 19, attributes := #[] }, { accessFlags := 9, nameIndex := 351, descriptorIndex := 352, attributes := #[] }] 33 16 #[] #[{ accessFlags := 24, nameIndex := 28, descriptorIndex := 29, attributes := #[] }, { accessFlags := 26, nameIndex := 38, descriptorIndex := 39, attributes := #[] }, { accessFlags := 25, nameIndex := 121, descriptorIndex := 25, attributes := #[] }, { accessFlags := 25, nameIndex := 131, descriptorIndex := 25, attributes := #[] }, { accessFlags := 25, nameIndex := 137, descriptorIndex := 25, attributes := #[] }, { accessFlags := 25, nameIndex := 143, descriptorIndex := 25, attributes := #[] }, { accessFlags := 25, nameIndex := 53, descriptorIndex := 25, attributes := #[] }, { accessFlags := 25, nameIndex := 24, descriptorIndex := 25, attributes := #[] }, { accessFlags := 25, nameIndex := 162, descriptorIndex := 25, attributes := #[] }, { accessFlags := 25, nameIndex := 187, descriptorIndex := 25, attributes := #[] }, { accessFlags := 26, nameIndex := 48, descriptorIndex := 25, attributes := #[] }, { accessFlags := 25, nameIndex := 277, descriptorIndex := 25, attributes := #[] }, { accessFlags := 25, nameIndex := 280, descriptorIndex := 25, attributes := #[] }, { accessFlags := 25, nameIndex := 282, descriptorIndex := 25, attributes := #[] }, { accessFlags := 25, nameIndex := 284, descriptorIndex := 25, attributes := #[] }, { accessFlags := 25, nameIndex := 286, descriptorIndex := 25, attributes := #[] }, { accessFlags := 25, nameIndex := 288, descriptorIndex := 25, attributes := #[] }, { accessFlags := 25, nameIndex := 290, descriptorIndex := 25, attributes := #[] }, { accessFlags := 25, nameIndex := 292, descriptorIndex := 25, attributes := #[] }, { accessFlags := 26, nameIndex := 108, descriptorIndex := 109, attributes := #[] }, { accessFlags := 25, nameIndex := 294, descriptorIndex := 25, attributes := #[] }])
  fields := #[{ name := "U", type := (.object "jdk/internal/misc/Unsafe"), accessFlags := 24, slot := 0, constantValue := 0 }, { name := "BIG_ENDIAN", type := .boolean, accessFlags := 26, slot := 1, constantValue := 0 }, { name := "LOG2_ARRAY_BOOLEAN_INDEX_SCALE", type := .int, accessFlags := 25, slot := 2, constantValue := 0 }, { name := "LOG2_ARRAY_BYTE_INDEX_SCALE", type := .int, accessFlags := 25, slot := 3, constantValue := 0 }, { name := "LOG2_ARRAY_CHAR_INDEX_SCALE", type := .int, accessFlags := 25, slot := 4, constantValue := 0 }, { name := "LOG2_ARRAY_SHORT_INDEX_SCALE", type := .int, accessFlags := 25, slot := 5, constantValue := 0 }, { name := "LOG2_ARRAY_INT_INDEX_SCALE", type := .int, accessFlags := 25, slot := 6, constantValue := 0 }, { name := "LOG2_ARRAY_LONG_INDEX_SCALE", type := .int, accessFlags := 25, slot := 7, constantValue := 0 }, { name := "LOG2_ARRAY_FLOAT_INDEX_SCALE", type := .int, accessFlags := 25, slot := 8, constantValue := 0 }, { name := "LOG2_ARRAY_DOUBLE_INDEX_SCALE", type := .int, accessFlags := 25, slot := 9, constantValue := 0 }, { name := "LOG2_BYTE_BIT_SIZE", type := .int, accessFlags := 26, slot := 10, constantValue := 0 }, { name := "T_BOOLEAN", type := .int, accessFlags := 25, slot := 11, constantValue := 0 }, { name := "T_CHAR", type := .int, accessFlags := 25, slot := 12, constantValue := 0 }, { name := "T_FLOAT", type := .int, accessFlags := 25, slot := 13, constantValue := 0 }, { name := "T_DOUBLE", type := .int, accessFlags := 25, slot := 14, constantValue := 0 }, { name := "T_BYTE", type := .int, accessFlags := 25, slot := 15, constantValue := 0 }, { name := "T_SHORT", type := .int, accessFlags := 25, slot := 16, constantValue := 0 }, { name := "T_INT", type := .int, accessFlags := 25, slot := 17, constantValue := 0 }, { name := "T_LONG", type := .int, accessFlags := 25, slot := 18, constantValue := 0 }, { name := "JLA", type := (.object "jdk/internal/access/JavaLangAccess"), accessFlags := 26, slot := 19, constantValue := 0 }, { name := "SOFT_MAX_ARRAY_LENGTH", type := .int, accessFlags := 25, slot := 20, constantValue := 0 }]
  methods := #[k22m0, k22m1]
  instanceTypes := #[]
  staticTypes := #[(.object "jdk/internal/misc/Unsafe"), .boolean, .int, .int, .int, .int, .int, .int, .int, .int, .int, .int, .int, .int, .int, .int, .int, .int, .int, (.object "jdk/internal/access/JavaLangAccess"), .int]
  resolved := Array.replicate 378 none
  statics := none }

def pool23 : Array CpInfo := pool [(2, .class_ 4), (1, u "java/lang/Object"), (0, u "<init>"), (0, u "()V"), (12, .class_ 20), (0, u "java/util/Collections"), (63, u "r"), (0, u "Ljava/util/Random;"), (80, .class_ 167), (0, u "java/util/Collections$UnmodifiableCollection"), (6, .class_ 175), (0, u "java/util/Collections$UnmodifiableSequencedCollection"), (6, .class_ 183), (0, u "java/util/Collections$UnmodifiableSet"), (6, .class_ 191), (0, u "java/util/Collections$UnmodifiableSequencedSet"), (6, .class_ 199), (0, u "java/util/Collections$UnmodifiableSortedSet"), (6, .class_ 207), (0, u "java/util/Collections$UnmodifiableNavigableSet"), (4, .class_ 213), (0, u "java/util/Collections$UnmodifiableList"), (1, .class_ 216), (0, u "java/util/Collections$UnmodifiableRandomAccessList"), (6, .class_ 224), (0, u "java/util/Collections$UnmodifiableMap"), (6, .class_ 232), (0, u "java/util/Collections$UnmodifiableSequencedMap"), (4, .class_ 238), (0, u "java/util/Collections$UnmodifiableSortedMap"), (6, .class_ 246), (0, u "java/util/Collections$UnmodifiableNavigableMap"), (3, .class_ 251), (0, u "java/util/Collections$SynchronizedCollection"), (4, .class_ 257), (0, u "java/util/Collections$SynchronizedSet"), (4, .class_ 263), (0, u "java/util/Collections$SynchronizedSortedSet"), (1, .class_ 266), (0, u "java/util/Collections$SynchronizedNavigableSet"), (1, .class_ 269), (0, u "java/util/Collections$SynchronizedRandomAccessList"), (1, .class_ 272), (0, u "java/util/Collections$SynchronizedList"), (5, .class_ 279), (0, u "java/util/Collections$SynchronizedMap"), (1, .class_ 282), (0, u "java/util/Collections$SynchronizedSortedMap"), (1, .class_ 285), (0, u "java/util/Collections$SynchronizedNavigableMap"), (1, .class_ 288), (0, u "java/util/Collections$CheckedCollection"), (11, .class_ 301), (0, u "java/util/Collections$CheckedQueue"), (3, .class_ 306), (0, u "java/util/Collections$CheckedSet"), (3, .class_ 311), (0, u "java/util/Collections$CheckedSortedSet"), (3, .class_ 316), (0, u "java/util/Collections$CheckedNavigableSet"), (3, .class_ 321), (0, u "java/util/Collections$CheckedRandomAccessList"), (3, .class_ 326), (0, u "java/util/Collections$CheckedList"), (1, .class_ 329), (0, u "java/util/Collections$CheckedMap"), (3, .class_ 334), (0, u "java/util/Collections$CheckedSortedMap"), (3, .class_ 339), (0, u "java/util/Collections$CheckedNavigableMap"), (4, .class_ 346), (1, u "java/util/Collections$EmptyIterator"), (3, .class_ 352), (1, u "java/util/Collections$EmptyListIterator"), (2, .class_ 357), (1, u "java/util/Collections$EmptyEnumeration"), (4, u "EMPTY_SET"), (0, u "Ljava/util/Set;"), (6, u "EMPTY_LIST"), (0, u "Ljava/util/List;"), (2, u "EMPTY_MAP"), (0, u "Ljava/util/Map;"), (4, .class_ 381), (0, u "java/util/Collections$SingletonSet"), (2, .class_ 385), (0, u "java/util/Collections$1"), (1, .class_ 388), (0, u "java/util/Collections$2"), (1, .class_ 391), (0, u "java/util/Collections$SingletonList"), (1, .class_ 394), (0, u "java/util/Collections$SingletonMap"), (22, .class_ 418), (0, u "java/util/Collections$CopiesList"), (4, .class_ 425), (1, u "java/util/Collections$ReverseComparator"), (8, .class_ 435), (0, u "java/util/Collections$ReverseComparator2"), (6, .class_ 443), (0, u "java/util/Collections$3"), (25, .class_ 470), (0, u "java/util/Collections$SetFromMap"), (2, .class_ 474), (0, u "java/util/Collections$SequencedSetFromMap"), (3, .class_ 479), (0, u "java/util/Collections$AsLIFOQueue"), (11, .class_ 492), (0, u "java/util/Collections$EmptySet"), (1, .class_ 495), (0, u "java/util/Collections$EmptyList"), (1, .class_ 498), (0, u "java/util/Collections$EmptyMap"), (1, u "BINARYSEARCH_THRESHOLD"), (0, u "I"), (2, u "REVERSE_THRESHOLD"), (1, u "SHUFFLE_THRESHOLD"), (1, u "FILL_THRESHOLD"), (1, u "ROTATE_THRESHOLD"), (1, u "COPY_THRESHOLD"), (1, u "REPLACEALL_THRESHOLD"), (1, u "INDEXOFSUBLIST_THRESHOLD"), (333, .class_ 851), (0, u "java/util/Collections$CheckedMap$CheckedEntrySet"), (0, .class_ 853), (0, u "java/util/Collections$CheckedMap$CheckedEntrySet$CheckedEntry"), (0, .class_ 855), (0, u "java/util/Collections$CheckedMap$CheckedEntrySet$1"), (0, .class_ 857), (0, u "java/util/Collections$CheckedList$1"), (0, .class_ 859), (0, u "java/util/Collections$CheckedCollection$1"), (0, .class_ 861), (0, u "java/util/Collections$UnmodifiableNavigableMap$EmptyNavigableMap"), (0, .class_ 863), (0, u "java/util/Collections$UnmodifiableMap$UnmodifiableEntrySet"), (0, .class_ 865), (0, u "java/util/Collections$UnmodifiableMap$UnmodifiableEntrySet$UnmodifiableEntry"), (0, .class_ 867), (0, u "java/util/Collections$UnmodifiableMap$UnmodifiableEntrySet$UnmodifiableEntrySetSpliterator"), (0, .class_ 869), (0, u "java/util/Collections$UnmodifiableMap$UnmodifiableEntrySet$1"), (0, .class_ 871), (0, u "java/util/Collections$UnmodifiableList$1"), (0, .class_ 873), (0, u "java/util/Collections$UnmodifiableNavigableSet$EmptyNavigableSet"), (0, .class_ 875), (0, u "java/util/Collections$UnmodifiableCollection$1")] 57

def k23m0 : Method := { name := "<init>", desc := "()V", sig := { parameters := [], returnType := none }, accessFlags := 2, code := none }
/-- java/util/Collections -/
def k23 : Class := { plain "java/util/Collections" (some 0) with
  accessFlags := 33
  interfaces := #[]
  cf := some (fileOf pool23 19 #[.nestMembers #[478, 473, 469, 434, 423, 417, 393, 390, 380, 497, 494, 491, 355, 350, 344, 338, 333, 328, 850, 852, 854, 320, 325, 856, 315, 310, 305, 300, 287, 858, 284, 281, 278, 268, 271, 265, 262, 256, 250, 245, 860, 237, 231, 223, 862, 864, 866, 868, 215, 212, 870, 206, 872, 198, 190, 182, 174, 166, 874, 442, 387, 384]] #[{ accessFlags := 2, nameIndex := 5, descriptorIndex := 6, attributes := #[] }] 33 2 #[] #[{ accessFlags := 26, nameIndex := 500, descriptorIndex := 501, attributes := #[] }, { accessFlags := 26, nameIndex := 504, descriptorIndex := 501, attributes := #[] }, { accessFlags := 26, nameIndex := 506, descriptorIndex := 501, attributes := #[] }, { accessFlags := 26, nameIndex := 508, descriptorIndex := 501, attributes := #[] }, { accessFlags := 26, nameIndex := 510, descriptorIndex := 501, attributes := #[] }, { accessFlags := 26, nameIndex := 512, descriptorIndex := 501, attributes := #[] }, { accessFlags := 26, nameIndex := 514, descriptorIndex := 501, attributes := #[] }, { accessFlags := 26, nameIndex := 516, descriptorIndex := 501, attributes := #[] }, { accessFlags := 10, nameIndex := 84, descriptorIndex := 85, attributes := #[] }, { accessFlags := 25, nameIndex := 362, descriptorIndex := 363, attributes := #[] }, { accessFlags := 25, nameIndex := 370, descriptorIndex := 371, attributes := #[] }, { accessFlags := 25, nameIndex := 374, descriptorIndex := 375, attributes := #[] }])
  fields := #[{ name := "BINARYSEARCH_THRESHOLD", type := .int, accessFlags := 26, slot := 0, constantValue := 0 }, { name := "REVERSE_THRESHOLD", type := .int, accessFlags := 26, slot := 1, constantValue := 0 }, { name := "SHUFFLE_THRESHOLD", type := .int, accessFlags := 26, slot := 2, constantValue := 0 }, { name := "FILL_THRESHOLD", type := .int, accessFlags := 26, slot := 3, constantValue := 0 }, { name := "ROTATE_THRESHOLD", type := .int, accessFlags := 26, slot := 4, constantValue := 0 }, { name := "COPY_THRESHOLD", type := .int, accessFlags := 26, slot := 5, constantValue := 0 }, { name := "REPLACEALL_THRESHOLD", type := .int, accessFlags := 26, slot := 6, constantValue := 0 }, { name := "INDEXOFSUBLIST_THRESHOLD", type := .int, accessFlags := 26, slot := 7, constantValue := 0 }, { name := "r", type := (.object "java/util/Random"), accessFlags := 10, slot := 8, constantValue := 0 }, { name := "EMPTY_SET", type := (.object "java/util/Set"), accessFlags := 25, slot := 9, constantValue := 0 }, { name := "EMPTY_LIST", type := (.object "java/util/List"), accessFlags := 25, slot := 10, constantValue := 0 }, { name := "EMPTY_MAP", type := (.object "java/util/Map"), accessFlags := 25, slot := 11, constantValue := 0 }]
  methods := #[k23m0]
  instanceTypes := #[]
  staticTypes := #[.int, .int, .int, .int, .int, .int, .int, .int, (.object "java/util/Random"), (.object "java/util/Set"), (.object "java/util/List"), (.object "java/util/Map")]
  resolved := Array.replicate 933 none
  statics := some 4 }

def pool24 : Array CpInfo := pool [(8, .class_ 10), (1, u "java/lang/Iterable"), (24, .class_ 36), (0, u "java/lang/Object")] 25

/-- java/lang/Iterable -/
def k24 : Class := { plain "java/lang/Iterable" (some 0) with
  accessFlags := 1537
  interfaces := #[]
  cf := some (fileOf pool24 8 #[] #[] 1537 35 #[] #[])
  fields := #[]
  methods := #[]
  instanceTypes := #[]
  staticTypes := #[]
  resolved := Array.replicate 62 none
  statics := none }

def pool25 : Array CpInfo := pool [(10, .class_ 12), (1, u "java/util/Collection"), (47, .class_ 61), (0, u "java/lang/Object"), (0, .class_ 63), (0, u "java/lang/Iterable")] 51

/-- java/util/Collection -/
def k25 : Class := { plain "java/util/Collection" (some 0) with
  accessFlags := 1537
  interfaces := #[24]
  cf := some (fileOf pool25 10 #[] #[] 1537 60 #[62] #[])
  fields := #[]
  methods := #[]
  instanceTypes := #[]
  staticTypes := #[]
  resolved := Array.replicate 115 none
  statics := none }

def pool26 : Array CpInfo := pool [(2, .class_ 4), (1, u "java/lang/Object"), (0, u "<init>"), (0, u "()V"), (1, .class_ 10), (1, u "java/util/AbstractCollection"), (66, .class_ 78), (0, u "java/util/Collection")] 81

def k26m0 : Method := { name := "<init>", desc := "()V", sig := { parameters := [], returnType := none }, accessFlags := 4, code := none }
/-- java/util/AbstractCollection -/
def k26 : Class := { plain "java/util/AbstractCollection" (some 0) with
  accessFlags := 1057
  interfaces := #[25]
  cf := some (fileOf pool26 8 #[] #[{ accessFlags := 4, nameIndex := 5, descriptorIndex := 6, attributes := #[] }] 1057 2 #[77] #[])
  fields := #[]
  methods := #[k26m0]
  instanceTypes := #[]
  staticTypes := #[]
  resolved := Array.replicate 160 none
  statics := none }

def pool27 : Array CpInfo := pool [(8, .class_ 10), (1, u "java/util/SequencedCollection"), (15, .class_ 27), (0, u "java/lang/Object"), (0, .class_ 29), (0, u "java/util/Collection")] 27

/-- java/util/SequencedCollection -/
def k27 : Class := { plain "java/util/SequencedCollection" (some 0) with
  accessFlags := 1537
  interfaces := #[25]
  cf := some (fileOf pool27 8 #[] #[] 1537 26 #[28] #[])
  fields := #[]
  methods := #[]
  instanceTypes := #[]
  staticTypes := #[]
  resolved := Array.replicate 57 none
  statics := none }

def pool28 : Array CpInfo := pool [(8, .class_ 10), (1, u "java/util/List"), (92, .class_ 104), (0, u "java/lang/Object"), (15, .class_ 121), (0, u "java/util/SequencedCollection")] 129

/-- java/util/List -/
def k28 : Class := { plain "java/util/List" (some 0) with
  accessFlags := 1537
  interfaces := #[27]
  cf := some (fileOf pool28 8 #[] #[] 1537 103 #[120] #[])
  fields := #[]
  methods := #[]
  instanceTypes := #[]
  staticTypes := #[]
  resolved := Array.replicate 251 none
  statics := none }

def pool29 : Array CpInfo := pool [(2, .class_ 4), (1, u "java/util/AbstractCollection"), (0, u "<init>"), (0, u "()V"), (1, .class_ 10), (1, u "java/util/AbstractList"), (0, u "modCount"), (0, u "I"), (64, .class_ 78), (0, u "java/util/AbstractList$Itr"), (3, .class_ 83), (0, u "java/util/AbstractList$ListItr"), (9, .class_ 94), (0, u "java/util/AbstractList$RandomAccessSubList"), (3, .class_ 99), (0, u "java/util/AbstractList$SubList"), (33, .class_ 134), (0, u "java/util/List"), (73, .class_ 209), (0, u "java/util/AbstractList$SubList$1"), (0, .class_ 211), (0, u "java/util/AbstractList$RandomAccessSpliterator")] 6

def k29m0 : Method := { name := "<init>", desc := "()V", sig := { parameters := [], returnType := none }, accessFlags := 4, code := none }
/-- java/util/AbstractList -/
def k29 : Class := { plain "java/util/AbstractList" (some 26) with
  accessFlags := 1057
  interfaces := #[28]
  cf := some (fileOf pool29 8 #[.nestMembers #[93, 98, 208, 210, 82, 77]] #[{ accessFlags := 4, nameIndex := 5, descriptorIndex := 6, attributes := #[] }] 1057 2 #[133] #[{ accessFlags := 132, nameIndex := 11, descriptorIndex := 12, attributes := #[] }])
  fields := #[{ name := "modCount", type := .int, accessFlags := 132, slot := 0, constantValue := 0 }]
  methods := #[k29m0]
  instanceTypes := #[.int]
  staticTypes := #[]
  resolved := Array.replicate 218 none
  statics := none }

def pool30 : Array CpInfo := pool [(1, .class_ 2), (0, u "java/util/RandomAccess"), (0, .class_ 4), (0, u "java/lang/Object")] 2

/-- java/util/RandomAccess -/
def k30 : Class := { plain "java/util/RandomAccess" (some 0) with
  accessFlags := 1537
  interfaces := #[]
  cf := some (fileOf pool30 1 #[] #[] 1537 3 #[] #[])
  fields := #[]
  methods := #[]
  instanceTypes := #[]
  staticTypes := #[]
  resolved := Array.replicate 7 none
  statics := none }

def pool31 : Array CpInfo := pool [(2, .class_ 4), (1, u "java/util/AbstractList"), (0, u "<init>"), (0, u "()V"), (1, .class_ 10), (1, u "java/util/Collections"), (54, .class_ 66), (0, u "java/util/Collections$EmptyList"), (0, .class_ 68), (0, u "java/util/RandomAccess"), (0, .class_ 70), (0, u "java/io/Serializable"), (0, u "serialVersionUID"), (0, u "J")] 77

def k31m0 : Method := { name := "<init>", desc := "()V", sig := { parameters := [], returnType := none }, accessFlags := 2, code := none }
/-- java/util/Collections$EmptyList -/
def k31 : Class := { plain "java/util/Collections$EmptyList" (some 29) with
  accessFlags := 32
  interfaces := #[30, 2]
  cf := some (fileOf pool31 65 #[.nestHost 8] #[{ accessFlags := 2, nameIndex := 5, descriptorIndex := 6, attributes := #[] }] 32 2 #[67, 69] #[{ accessFlags := 26, nameIndex := 71, descriptorIndex := 72, attributes := #[] }])
  fields := #[{ name := "serialVersionUID", type := .long, accessFlags := 26, slot := 0, constantValue := 0 }]
  methods := #[k31m0]
  instanceTypes := #[.int]
  staticTypes := #[.long]
  resolved := Array.replicate 150 none
  statics := none }

def pool32 : Array CpInfo := pool [(2, .class_ 4), (1, u "java/lang/StackTraceElement"), (0, u "<init>"), (2, .class_ 10), (1, u "java/lang/Object"), (0, u "()V"), (2, u "format"), (0, u "B"), (2, u "classLoaderName"), (0, u "Ljava/lang/String;"), (2, u "moduleName"), (2, u "moduleVersion"), (12, u "declaringClass"), (4, u "methodName"), (2, u "fileName"), (2, u "lineNumber"), (0, u "I"), (65, u "declaringClassObject"), (0, u "Ljava/lang/Class;"), (33, .class_ 153), (1, u "java/lang/StackTraceElement$HashedModules"), (17, .class_ 172), (0, u "java/io/Serializable"), (0, u "NATIVE_METHOD"), (1, u "UNKNOWN_SOURCE"), (2, u "BUILTIN_CLASS_LOADER"), (1, u "JDK_NON_UPGRADEABLE_MODULE"), (1, u "serialVersionUID"), (0, u "J")] 51

def k32m0 : Method := { name := "<init>", desc := "()V", sig := { parameters := [], returnType := none }, accessFlags := 2, code := none }
/-- java/lang/StackTraceElement -/
def k32 : Class := { plain "java/lang/StackTraceElement" (some 0) with
  accessFlags := 49
  interfaces := #[2]
  cf := some (fileOf pool32 2 #[.nestMembers #[151]] #[{ accessFlags := 2, nameIndex := 5, descriptorIndex := 11, attributes := #[] }] 49 8 #[171] #[{ accessFlags := 26, nameIndex := 173, descriptorIndex := 19, attributes := #[] }, { accessFlags := 26, nameIndex := 175, descriptorIndex := 19, attributes := #[] }, { accessFlags := 130, nameIndex := 116, descriptorIndex := 117, attributes := #[] }, { accessFlags := 2, nameIndex := 18, descriptorIndex := 19, attributes := #[] }, { accessFlags := 2, nameIndex := 22, descriptorIndex := 19, attributes := #[] }, { accessFlags := 2, nameIndex := 25, descriptorIndex := 19, attributes := #[] }, { accessFlags := 2, nameIndex := 38, descriptorIndex := 19, attributes := #[] }, { accessFlags := 2, nameIndex := 43, descriptorIndex := 19, attributes := #[] }, { accessFlags := 2, nameIndex := 46, descriptorIndex := 19, attributes := #[] }, { accessFlags := 2, nameIndex := 49, descriptorIndex := 50, attributes := #[] }, { accessFlags := 2, nameIndex := 14, descriptorIndex := 15, attributes := #[] }, { accessFlags := 26, nameIndex := 178, descriptorIndex := 15, attributes := #[] }, { accessFlags := 26, nameIndex := 180, descriptorIndex := 15, attributes := #[] }, { accessFlags := 26, nameIndex := 182, descriptorIndex := 183, attributes := #[] }])
  fields := #[{ name := "NATIVE_METHOD", type := (.object "java/lang/String"), accessFlags := 26, slot := 0, constantValue := 0 }, { name := "UNKNOWN_SOURCE", type := (.object "java/lang/String"), accessFlags := 26, slot := 1, constantValue := 0 }, { name := "declaringClassObject", type := (.object "java/lang/Class"), accessFlags := 130, slot := 0, constantValue := 0 }, { name := "classLoaderName", type := (.object "java/lang/String"), accessFlags := 2, slot := 1, constantValue := 0 }, { name := "moduleName", type := (.object "java/lang/String"), accessFlags := 2, slot := 2, constantValue := 0 }, { name := "moduleVersion", type := (.object "java/lang/String"), accessFlags := 2, slot := 3, constantValue := 0 }, { name := "declaringClass", type := (.object "java/lang/String"), accessFlags := 2, slot := 4, constantValue := 0 }, { name := "methodName", type := (.object "java/lang/String"), accessFlags := 2, slot := 5, constantValue := 0 }, { name := "fileName", type := (.object "java/lang/String"), accessFlags := 2, slot := 6, constantValue := 0 }, { name := "lineNumber", type := .int, accessFlags := 2, slot := 7, constantValue := 0 }, { name := "format", type := .byte, accessFlags := 2, slot := 8, constantValue := 0 }, { name := "BUILTIN_CLASS_LOADER", type := .byte, accessFlags := 26, slot := 2, constantValue := 0 }, { name := "JDK_NON_UPGRADEABLE_MODULE", type := .byte, accessFlags := 26, slot := 3, constantValue := 0 }, { name := "serialVersionUID", type := .long, accessFlags := 26, slot := 4, constantValue := 0 }]
  methods := #[k32m0]
  instanceTypes := #[(.object "java/lang/Class"), (.object "java/lang/String"), (.object "java/lang/String"), (.object "java/lang/String"), (.object "java/lang/String"), (.object "java/lang/String"), (.object "java/lang/String"), .int, .byte]
  staticTypes := #[(.object "java/lang/String"), (.object "java/lang/String"), .byte, .byte, .long]
  resolved := Array.replicate 235 none
  statics := none }

/-- the primitive byte -/
def k33 : Class := { plain "byte" none with kind := .primitive 'B', accessFlags := 0x411 }
/-- [B -/
def k34 : Class := { plain "[B" (some 0) with kind := .array 33 .byte, interfaces := #[21, 2], accessFlags := 1041 }

/-- the primitive char -/
def k35 : Class := { plain "char" none with kind := .primitive 'C', accessFlags := 0x411 }
/-- [C -/
def k36 : Class := { plain "[C" (some 0) with kind := .array 35 .char, interfaces := #[21, 2], accessFlags := 1041 }

/-- the primitive int -/
def k37 : Class := { plain "int" none with kind := .primitive 'I', accessFlags := 0x411 }
/-- [I -/
def k38 : Class := { plain "[I" (some 0) with kind := .array 37 .int, interfaces := #[21, 2], accessFlags := 1041 }

/-- [Ljava/lang/Object; -/
def k39 : Class := { plain "[Ljava/lang/Object;" (some 0) with kind := .array 0 (.object "java/lang/Object"), interfaces := #[21, 2], accessFlags := 1041 }

/-- [Ljava/lang/StackTraceElement; -/
def k40 : Class := { plain "[Ljava/lang/StackTraceElement;" (some 0) with kind := .array 32 (.object "java/lang/StackTraceElement"), interfaces := #[21, 2], accessFlags := 1041 }

/-- [Ljava/lang/Throwable; -/
def k41 : Class := { plain "[Ljava/lang/Throwable;" (some 0) with kind := .array 9 (.object "java/lang/Throwable"), interfaces := #[21, 2], accessFlags := 1041 }

def heap : Heap := #[{ cls := 7, slots := #[.long 0, .int 1, .null, .int 0, .null, .int 0, .int 0], vm := .statics 7 },
  { cls := 8, slots := #[.int 0, .int 8, .int 0, .int 1], vm := .statics 8 },
  { cls := 9, slots := #[.long 0, .ref 5, .ref 6, .null, .null, .null, .null, .ref 7, .int 1], vm := .statics 9 },
  { cls := 20, slots := #[.null, .null, .null], vm := .statics 20 },
  { cls := 23, slots := #[.int 0, .int 0, .int 0, .int 0, .int 0, .int 0, .int 0, .int 0, .null, .null, .ref 6, .null], vm := .statics 23 },
  { cls := 40, slots := #[], vm := .none },
  { cls := 31, slots := #[.int 0], vm := .none },
  { cls := 41, slots := #[], vm := .none }]
def classes : Array Class := #[k0, k1, k2, k3, k4, k5, k6, k7, k8, k9, k10, k11, k12, k13, k14, k15, k16, k17, k18, k19, k20, k21, k22, k23, k24, k25, k26, k27, k28, k29, k30, k31, k32, k33, k34, k35, k36, k37, k38, k39, k40, k41]
def interned : List (Array UInt16 × Addr) := []
def slotsUsed : Nat := 36
def theMethod : MethodId := ⟨1, 4⟩
def args0 : Array Value := #[.int 97, .int 98, .int 5]
def aboutOver (below : List Frame) : State where
  vm := { classes := classes, interned := interned.toArray }
  heap := heap
  slotsUsed := slotsUsed
  threads := #[{ frames := .invoking theMethod args0 :: below }]
def below0 : List Frame := [.native { method := ⟨0, 0⟩, args := #[] }]
def about1 : State := aboutOver below0
def p0 : Program := .bare "" "" ""
def e0 : Env := launch0.env 0 0 0
theorem w_frames : about1.frames = Frame.invoking theMethod args0 :: below0 := rfl
set_option maxRecDepth 65536 in
theorem w_args : argsFit about1.vm theMethod args0 = true := by decide +kernel
set_option maxRecDepth 65536 in
theorem w_heap : heapFits about1 = true := by decide +kernel
set_option maxRecDepth 65536 in
theorem w_runnable : about1.curStatus? = some .runnable := by decide +kernel
set_option maxRecDepth 65536 in
theorem w_alone : about1.alone = true := by decide +kernel
set_option maxRecDepth 65536 in
theorem w_named : about1.methodNamed? x = some theMethod := by decide +kernel
set_option maxRecDepth 65536 in
theorem w_hears : about1.hears theMethod below0 = true := by decide +kernel
set_option maxRecDepth 65536 in
theorem w_ripe : about1.ripe theMethod args0 below0 = true := by decide +kernel
theorem w_running : about1.status = .running := rfl
set_option maxRecDepth 65536 in
theorem w_room : about1.hasRoom e0.platform room_1 = true :=
  launch0.hasRoom_least _ room_1 (by decide +kernel) (by decide +kernel) (by decide +kernel) (by decide +kernel) (by decide +kernel) (by decide +kernel)
theorem allAtoms_all (ts : List Jvm.Cond) (a : Array Jvm.Value) (st : Jvm.State) : (allAtoms ts).before a st = ts.all (fun c => c.before a st) := by
  induction ts with
  | nil => rfl
  | cons c t ih =>
    show (Jvm.Cond.and c (allAtoms t)).before a st = _
    rw [Jvm.Cond.before_and, ih, List.all_cons]
def words1 : List Jvm.Cond := Jvm.Cond.code x code maxLocals ret :: tables_1
/-- a 'code' word, met by the world's own term for the bytes: nothing is compared byte by byte -/
theorem code_word {y : MethodName} {bytes : ByteArray} {mx : Nat} {rt : Option FieldType} {a : Array Value} {s : State} {m : MethodId} {meth : Method} {c : Code} (h1 : s.methodNamed? y = some m) (h2 : s.vm.method? m = some meth) (h3 : meth.code = some c) (h4 : c.code = bytes)
    (h5 : (c.maxLocals == mx && c.exceptionTable.isEmpty && decide (c.maxStack ≤ mostOperands) && decide (meth.sig.returnType = rt) && !meth.locks && decide (parseMethodDescriptor y.desc = some meth.sig)) = true) : (Jvm.Cond.code y bytes mx rt).before a s = true := by
  simp only [Bool.and_eq_true, beq_iff_eq, Bool.not_eq_true', decide_eq_true_eq] at h5
  obtain ⟨⟨⟨⟨⟨g1, g2⟩, g3⟩, g4⟩, g5⟩, g6⟩ := h5
  simp [Cond.before, Cond.holds, Cond.value, h1, h2, h3, h4, g1, g2, g3, g4, g5, g6]
def isCode : Jvm.Cond → Bool
  | .code _ _ _ _ => true
  | _ => false
theorem all_split {L : List Jvm.Cond} {P : Jvm.Cond → Bool} (h1 : L.all (fun c => isCode c || P c) = true) (h2 : ∀ c ∈ L.filter isCode, P c = true) : L.all P = true := by
  refine List.all_eq_true.mpr fun c hc => ?_
  have h := List.all_eq_true.mp h1 c hc
  rcases Bool.eq_false_or_eq_true (isCode c) with hi | hi
  · exact h2 c (List.mem_filter.mpr ⟨hc, hi⟩)
  · simpa [hi] using h
set_option maxRecDepth 65536 in
theorem w_c0 : (Jvm.Cond.code x code maxLocals ret).before args0 about1 = true := code_word (m := ⟨1, 4⟩) (meth := k1m4) (c := k1c4) (by decide +kernel) rfl rfl rfl (by decide +kernel)
set_option maxRecDepth 65536 in
theorem w_c1 : (Jvm.Cond.code ({ cls := "com/example/keyset/keyset/query/DeclarationExceptionForResourcePinLaw", name := "mk", desc := "(II)Ljava/lang/String;" } : Jvm.MethodName) method_2_code (2 : Nat) (Option.some (Jvm.ClassFile.FieldType.object "java/lang/String"))).before args0 about1 = true := code_word (m := ⟨1, 1⟩) (meth := k1m1) (c := k1c1) (by decide +kernel) rfl rfl rfl (by decide +kernel)
set_option maxRecDepth 65536 in
theorem w_c2 : (Jvm.Cond.code ({ cls := "java/lang/String", name := "<init>", desc := "([C)V" } : Jvm.MethodName) jdk_42_method_3_code (2 : Nat) (Option.none : Option Jvm.ClassFile.FieldType)).before args0 about1 = true := code_word (m := ⟨7, 1⟩) (meth := k7m1) (c := k7c1) (by decide +kernel) rfl rfl rfl (by decide +kernel)
set_option maxRecDepth 65536 in
theorem w_c3 : (Jvm.Cond.code ({ cls := "java/lang/String", name := "<init>", desc := "([CIILjava/lang/Void;)V" } : Jvm.MethodName) jdk_42_method_149_code (6 : Nat) (Option.none : Option Jvm.ClassFile.FieldType)).before args0 about1 = true := code_word (m := ⟨7, 6⟩) (meth := k7m6) (c := k7c6) (by decide +kernel) rfl rfl rfl (by decide +kernel)
set_option maxRecDepth 65536 in
theorem w_c4 : (Jvm.Cond.code ({ cls := "java/lang/Object", name := "<init>", desc := "()V" } : Jvm.MethodName) object_method_1_code (1 : Nat) (Option.none : Option Jvm.ClassFile.FieldType)).before args0 about1 = true := code_word (m := ⟨0, 0⟩) (meth := k0m0) (c := k0c0) (by decide +kernel) rfl rfl rfl (by decide +kernel)
set_option maxRecDepth 65536 in
theorem w_c5 : (Jvm.Cond.code ({ cls := "java/lang/StringUTF16", name := "compress", desc := "([CII)[B" } : Jvm.MethodName) jdk_52_method_16_code (6 : Nat) (Option.some (Jvm.ClassFile.FieldType.array Jvm.ClassFile.FieldType.byte))).before args0 about1 = true := code_word (m := ⟨8, 8⟩) (meth := k8m8) (c := k8c8) (by decide +kernel) rfl rfl rfl (by decide +kernel)
set_option maxRecDepth 65536 in
theorem w_c6 : (Jvm.Cond.code ({ cls := "java/lang/StringUTF16", name := "compress", desc := "([CI[BII)I" } : Jvm.MethodName) jdk_52_method_21_code (7 : Nat) (Option.some Jvm.ClassFile.FieldType.int)).before args0 about1 = true := code_word (m := ⟨8, 9⟩) (meth := k8m9) (c := k8c9) (by decide +kernel) rfl rfl rfl (by decide +kernel)
set_option maxRecDepth 65536 in
theorem w_c7 : (Jvm.Cond.code ({ cls := "java/lang/StringUTF16", name := "coderFromArrayLen", desc := "([BI)B" } : Jvm.MethodName) jdk_52_method_15_code (2 : Nat) (Option.some Jvm.ClassFile.FieldType.byte)).before args0 about1 = true := code_word (m := ⟨8, 7⟩) (meth := k8m7) (c := k8c7) (by decide +kernel) rfl rfl rfl (by decide +kernel)
set_option maxRecDepth 65536 in
theorem w_c8 : (Jvm.Cond.code ({ cls := "com/example/keyset/keyset/query/DeclarationException", name := "forResource", desc := "(Ljava/lang/String;Ljava/lang/String;)Lcom/example/keyset/keyset/query/DeclarationException;" } : Jvm.MethodName) prog_2_method_2_code (2 : Nat) (Option.some (Jvm.ClassFile.FieldType.object "com/example/keyset/keyset/query/DeclarationException"))).before args0 about1 = true := code_word (m := ⟨12, 1⟩) (meth := k12m1) (c := k12c1) (by decide +kernel) rfl rfl rfl (by decide +kernel)
set_option maxRecDepth 65536 in
theorem w_c9 : (Jvm.Cond.code ({ cls := "java/lang/StringBuilder", name := "<init>", desc := "()V" } : Jvm.MethodName) jdk_67_method_1_code (1 : Nat) (Option.none : Option Jvm.ClassFile.FieldType)).before args0 about1 = true := code_word (m := ⟨15, 0⟩) (meth := k15m0) (c := k15c0) (by decide +kernel) rfl rfl rfl (by decide +kernel)
set_option maxRecDepth 65536 in
theorem w_c10 : (Jvm.Cond.code ({ cls := "java/lang/AbstractStringBuilder", name := "<init>", desc := "(I)V" } : Jvm.MethodName) jdk_68_method_2_code (2 : Nat) (Option.none : Option Jvm.ClassFile.FieldType)).before args0 about1 = true := code_word (m := ⟨14, 1⟩) (meth := k14m1) (c := k14c1) (by decide +kernel) rfl rfl rfl (by decide +kernel)
set_option maxRecDepth 65536 in
theorem w_c11 : (Jvm.Cond.code ({ cls := "java/lang/StringBuilder", name := "append", desc := "(Ljava/lang/String;)Ljava/lang/StringBuilder;" } : Jvm.MethodName) jdk_67_method_7_code (2 : Nat) (Option.some (Jvm.ClassFile.FieldType.object "java/lang/StringBuilder"))).before args0 about1 = true := code_word (m := ⟨15, 1⟩) (meth := k15m1) (c := k15c1) (by decide +kernel) rfl rfl rfl (by decide +kernel)
set_option maxRecDepth 65536 in
theorem w_c12 : (Jvm.Cond.code ({ cls := "java/lang/AbstractStringBuilder", name := "append", desc := "(Ljava/lang/String;)Ljava/lang/AbstractStringBuilder;" } : Jvm.MethodName) jdk_68_method_22_code (3 : Nat) (Option.some (Jvm.ClassFile.FieldType.object "java/lang/AbstractStringBuilder"))).before args0 about1 = true := code_word (m := ⟨14, 6⟩) (meth := k14m6) (c := k14c6) (by decide +kernel) rfl rfl rfl (by decide +kernel)
set_option maxRecDepth 65536 in
theorem w_c13 : (Jvm.Cond.code ({ cls := "java/lang/String", name := "length", desc := "()I" } : Jvm.MethodName) jdk_42_method_54_code (1 : Nat) (Option.some Jvm.ClassFile.FieldType.int)).before args0 about1 = true := code_word (m := ⟨7, 3⟩) (meth := k7m3) (c := k7c3) (by decide +kernel) rfl rfl rfl (by decide +kernel)
set_option maxRecDepth 65536 in
theorem w_c14 : (Jvm.Cond.code ({ cls := "java/lang/String", name := "coder", desc := "()B" } : Jvm.MethodName) jdk_42_method_152_code (1 : Nat) (Option.some Jvm.ClassFile.FieldType.byte)).before args0 about1 = true := code_word (m := ⟨7, 8⟩) (meth := k7m8) (c := k7c8) (by decide +kernel) rfl rfl rfl (by decide +kernel)
set_option maxRecDepth 65536 in
theorem w_c15 : (Jvm.Cond.code ({ cls := "java/lang/AbstractStringBuilder", name := "ensureCapacityInternal", desc := "(I)V" } : Jvm.MethodName) jdk_68_method_9_code (3 : Nat) (Option.none : Option Jvm.ClassFile.FieldType)).before args0 about1 = true := code_word (m := ⟨14, 3⟩) (meth := k14m3) (c := k14c3) (by decide +kernel) rfl rfl rfl (by decide +kernel)
set_option maxRecDepth 65536 in
theorem w_c16 : (Jvm.Cond.code ({ cls := "java/lang/AbstractStringBuilder", name := "putStringAt", desc := "(ILjava/lang/String;)V" } : Jvm.MethodName) jdk_68_method_73_code (3 : Nat) (Option.none : Option Jvm.ClassFile.FieldType)).before args0 about1 = true := code_word (m := ⟨14, 10⟩) (meth := k14m10) (c := k14c10) (by decide +kernel) rfl rfl rfl (by decide +kernel)
set_option maxRecDepth 65536 in
theorem w_c17 : (Jvm.Cond.code ({ cls := "java/lang/AbstractStringBuilder", name := "inflateIfNeededFor", desc := "(Ljava/lang/String;)V" } : Jvm.MethodName) jdk_68_method_71_code (2 : Nat) (Option.none : Option Jvm.ClassFile.FieldType)).before args0 about1 = true := code_word (m := ⟨14, 9⟩) (meth := k14m9) (c := k14c9) (by decide +kernel) rfl rfl rfl (by decide +kernel)
set_option maxRecDepth 65536 in
theorem w_c18 : (Jvm.Cond.code ({ cls := "java/lang/String", name := "getBytes", desc := "([BIB)V" } : Jvm.MethodName) jdk_42_method_147_code (4 : Nat) (Option.none : Option Jvm.ClassFile.FieldType)).before args0 about1 = true := code_word (m := ⟨7, 5⟩) (meth := k7m5) (c := k7c5) (by decide +kernel) rfl rfl rfl (by decide +kernel)
set_option maxRecDepth 65536 in
theorem w_c19 : (Jvm.Cond.code ({ cls := "java/lang/StringBuilder", name := "toString", desc := "()Ljava/lang/String;" } : Jvm.MethodName) jdk_67_method_42_code (1 : Nat) (Option.some (Jvm.ClassFile.FieldType.object "java/lang/String"))).before args0 about1 = true := code_word (m := ⟨15, 2⟩) (meth := k15m2) (c := k15c2) (by decide +kernel) rfl rfl rfl (by decide +kernel)
set_option maxRecDepth 65536 in
theorem w_c20 : (Jvm.Cond.code ({ cls := "java/lang/String", name := "<init>", desc := "(Ljava/lang/StringBuilder;)V" } : Jvm.MethodName) jdk_42_method_53_code (2 : Nat) (Option.none : Option Jvm.ClassFile.FieldType)).before args0 about1 = true := code_word (m := ⟨7, 2⟩) (meth := k7m2) (c := k7c2) (by decide +kernel) rfl rfl rfl (by decide +kernel)
set_option maxRecDepth 65536 in
theorem w_c21 : (Jvm.Cond.code ({ cls := "java/lang/String", name := "<init>", desc := "(Ljava/lang/AbstractStringBuilder;Ljava/lang/Void;)V" } : Jvm.MethodName) jdk_42_method_150_code (5 : Nat) (Option.none : Option Jvm.ClassFile.FieldType)).before args0 about1 = true := code_word (m := ⟨7, 7⟩) (meth := k7m7) (c := k7c7) (by decide +kernel) rfl rfl rfl (by decide +kernel)
set_option maxRecDepth 65536 in
theorem w_c22 : (Jvm.Cond.code ({ cls := "java/lang/AbstractStringBuilder", name := "getValue", desc := "()[B" } : Jvm.MethodName) jdk_68_method_64_code (1 : Nat) (Option.some (Jvm.ClassFile.FieldType.array Jvm.ClassFile.FieldType.byte))).before args0 about1 = true := code_word (m := ⟨14, 7⟩) (meth := k14m7) (c := k14c7) (by decide +kernel) rfl rfl rfl (by decide +kernel)
set_option maxRecDepth 65536 in
theorem w_c23 : (Jvm.Cond.code ({ cls := "java/lang/StringBuilder", name := "length", desc := "()I" } : Jvm.MethodName) jdk_67_method_93_code (1 : Nat) (Option.some Jvm.ClassFile.FieldType.int)).before args0 about1 = true := code_word (m := ⟨15, 3⟩) (meth := k15m3) (c := k15c3) (by decide +kernel) rfl rfl rfl (by decide +kernel)
set_option maxRecDepth 65536 in
theorem w_c24 : (Jvm.Cond.code ({ cls := "java/lang/AbstractStringBuilder", name := "length", desc := "()I" } : Jvm.MethodName) jdk_68_method_6_code (1 : Nat) (Option.some Jvm.ClassFile.FieldType.int)).before args0 about1 = true := code_word (m := ⟨14, 2⟩) (meth := k14m2) (c := k14c2) (by decide +kernel) rfl rfl rfl (by decide +kernel)
set_option maxRecDepth 65536 in
theorem w_c25 : (Jvm.Cond.code ({ cls := "java/lang/AbstractStringBuilder", name := "isLatin1", desc := "()Z" } : Jvm.MethodName) jdk_68_method_68_code (1 : Nat) (Option.some Jvm.ClassFile.FieldType.boolean)).before args0 about1 = true := code_word (m := ⟨14, 8⟩) (meth := k14m8) (c := k14c8) (by decide +kernel) rfl rfl rfl (by decide +kernel)
set_option maxRecDepth 65536 in
theorem w_c26 : (Jvm.Cond.code ({ cls := "java/util/Arrays", name := "copyOfRange", desc := "([BII)[B" } : Jvm.MethodName) jdk_65_method_132_code (3 : Nat) (Option.some (Jvm.ClassFile.FieldType.array Jvm.ClassFile.FieldType.byte))).before args0 about1 = true := code_word (m := ⟨17, 3⟩) (meth := k17m3) (c := k17c3) (by decide +kernel) rfl rfl rfl (by decide +kernel)
set_option maxRecDepth 65536 in
theorem w_c27 : (Jvm.Cond.code ({ cls := "java/util/Arrays", name := "copyOfRangeByte", desc := "([BII)[B" } : Jvm.MethodName) jdk_65_method_133_code (5 : Nat) (Option.some (Jvm.ClassFile.FieldType.array Jvm.ClassFile.FieldType.byte))).before args0 about1 = true := code_word (m := ⟨17, 4⟩) (meth := k17m4) (c := k17c4) (by decide +kernel) rfl rfl rfl (by decide +kernel)
set_option maxRecDepth 65536 in
theorem w_c28 : (Jvm.Cond.code ({ cls := "java/util/Arrays", name := "checkLength", desc := "(II)V" } : Jvm.MethodName) jdk_65_method_131_code (2 : Nat) (Option.none : Option Jvm.ClassFile.FieldType)).before args0 about1 = true := code_word (m := ⟨17, 2⟩) (meth := k17m2) (c := k17c2) (by decide +kernel) rfl rfl rfl (by decide +kernel)
set_option maxRecDepth 65536 in
theorem w_c29 : (Jvm.Cond.code ({ cls := "java/lang/Math", name := "min", desc := "(II)I" } : Jvm.MethodName) jdk_29_method_69_code (2 : Nat) (Option.some Jvm.ClassFile.FieldType.int)).before args0 about1 = true := code_word (m := ⟨18, 2⟩) (meth := k18m2) (c := k18c2) (by decide +kernel) rfl rfl rfl (by decide +kernel)
set_option maxRecDepth 65536 in
theorem w_c30 : (Jvm.Cond.code ({ cls := "com/example/keyset/keyset/query/DeclarationException", name := "<init>", desc := "(Ljava/lang/String;)V" } : Jvm.MethodName) prog_2_method_1_code (2 : Nat) (Option.none : Option Jvm.ClassFile.FieldType)).before args0 about1 = true := code_word (m := ⟨12, 0⟩) (meth := k12m0) (c := k12c0) (by decide +kernel) rfl rfl rfl (by decide +kernel)
set_option maxRecDepth 65536 in
theorem w_c31 : (Jvm.Cond.code ({ cls := "java/lang/RuntimeException", name := "<init>", desc := "(Ljava/lang/String;)V" } : Jvm.MethodName) jdk_58_method_2_code (2 : Nat) (Option.none : Option Jvm.ClassFile.FieldType)).before args0 about1 = true := code_word (m := ⟨11, 1⟩) (meth := k11m1) (c := k11c1) (by decide +kernel) rfl rfl rfl (by decide +kernel)
set_option maxRecDepth 65536 in
theorem w_c32 : (Jvm.Cond.code ({ cls := "java/lang/Exception", name := "<init>", desc := "(Ljava/lang/String;)V" } : Jvm.MethodName) jdk_59_method_2_code (2 : Nat) (Option.none : Option Jvm.ClassFile.FieldType)).before args0 about1 = true := code_word (m := ⟨10, 1⟩) (meth := k10m1) (c := k10c1) (by decide +kernel) rfl rfl rfl (by decide +kernel)
set_option maxRecDepth 65536 in
theorem w_c33 : (Jvm.Cond.code ({ cls := "java/lang/Throwable", name := "<init>", desc := "(Ljava/lang/String;)V" } : Jvm.MethodName) jdk_78_method_2_code (2 : Nat) (Option.none : Option Jvm.ClassFile.FieldType)).before args0 about1 = true := code_word (m := ⟨9, 1⟩) (meth := k9m1) (c := k9c1) (by decide +kernel) rfl rfl rfl (by decide +kernel)
set_option maxRecDepth 65536 in
theorem w_c34 : (Jvm.Cond.code ({ cls := "java/lang/Throwable", name := "<init>", desc := "()V" } : Jvm.MethodName) jdk_78_method_1_code (1 : Nat) (Option.none : Option Jvm.ClassFile.FieldType)).before args0 about1 = true := code_word (m := ⟨9, 0⟩) (meth := k9m0) (c := k9c0) (by decide +kernel) rfl rfl rfl (by decide +kernel)
set_option maxRecDepth 65536 in
theorem w_c35 : (Jvm.Cond.code ({ cls := "java/lang/Throwable", name := "getMessage", desc := "()Ljava/lang/String;" } : Jvm.MethodName) jdk_78_method_6_code (1 : Nat) (Option.some (Jvm.ClassFile.FieldType.object "java/lang/String"))).before args0 about1 = true := code_word (m := ⟨9, 2⟩) (meth := k9m2) (c := k9c2) (by decide +kernel) rfl rfl rfl (by decide +kernel)
set_option maxRecDepth 65536 in
theorem w_c36 : (Jvm.Cond.code ({ cls := "com/example/keyset/keyset/query/DeclarationExceptionForResourcePinLaw", name := "ok", desc := "(Ljava/lang/String;ILjava/lang/String;Ljava/lang/String;)Z" } : Jvm.MethodName) method_4_code (4 : Nat) (Option.some Jvm.ClassFile.FieldType.boolean)).before args0 about1 = true := code_word (m := ⟨1, 3⟩) (meth := k1m3) (c := k1c3) (by decide +kernel) rfl rfl rfl (by decide +kernel)
set_option maxRecDepth 65536 in
theorem w_c37 : (Jvm.Cond.code ({ cls := "java/lang/String", name := "charAt", desc := "(I)C" } : Jvm.MethodName) jdk_42_method_56_code (2 : Nat) (Option.some Jvm.ClassFile.FieldType.char)).before args0 about1 = true := code_word (m := ⟨7, 4⟩) (meth := k7m4) (c := k7c4) (by decide +kernel) rfl rfl rfl (by decide +kernel)
set_option maxRecDepth 65536 in
theorem w_c38 : (Jvm.Cond.code ({ cls := "java/lang/String", name := "isLatin1", desc := "()Z" } : Jvm.MethodName) jdk_42_method_154_code (1 : Nat) (Option.some Jvm.ClassFile.FieldType.boolean)).before args0 about1 = true := code_word (m := ⟨7, 9⟩) (meth := k7m9) (c := k7c9) (by decide +kernel) rfl rfl rfl (by decide +kernel)
set_option maxRecDepth 65536 in
theorem w_c39 : (Jvm.Cond.code ({ cls := "java/lang/StringLatin1", name := "charAt", desc := "([BI)C" } : Jvm.MethodName) jdk_43_method_2_code (2 : Nat) (Option.some Jvm.ClassFile.FieldType.char)).before args0 about1 = true := code_word (m := ⟨19, 1⟩) (meth := k19m1) (c := k19c1) (by decide +kernel) rfl rfl rfl (by decide +kernel)
set_option maxRecDepth 65536 in
theorem w_c40 : (Jvm.Cond.code ({ cls := "java/lang/String", name := "checkIndex", desc := "(II)V" } : Jvm.MethodName) jdk_42_method_155_code (2 : Nat) (Option.none : Option Jvm.ClassFile.FieldType)).before args0 about1 = true := code_word (m := ⟨7, 10⟩) (meth := k7m10) (c := k7c10) (by decide +kernel) rfl rfl rfl (by decide +kernel)
set_option maxRecDepth 65536 in
theorem w_c41 : (Jvm.Cond.code ({ cls := "jdk/internal/util/Preconditions", name := "checkIndex", desc := "(IILjava/util/function/BiFunction;)I" } : Jvm.MethodName) jdk_41_method_11_code (3 : Nat) (Option.some Jvm.ClassFile.FieldType.int)).before args0 about1 = true := code_word (m := ⟨20, 1⟩) (meth := k20m1) (c := k20c1) (by decide +kernel) rfl rfl rfl (by decide +kernel)
set_option maxRecDepth 65536 in
theorem w_c42 : (Jvm.Cond.code ({ cls := "com/example/keyset/keyset/query/DeclarationExceptionForResourcePinLaw", name := "exp", desc := "(ILjava/lang/String;Ljava/lang/String;)C" } : Jvm.MethodName) method_3_code (6 : Nat) (Option.some Jvm.ClassFile.FieldType.char)).before args0 about1 = true := code_word (m := ⟨1, 2⟩) (meth := k1m2) (c := k1c2) (by decide +kernel) rfl rfl rfl (by decide +kernel)
set_option maxRecDepth 65536 in
theorem w_c43 : (Jvm.Cond.code ({ cls := "java/lang/StringUTF16", name := "toBytes", desc := "([CII)[B" } : Jvm.MethodName) jdk_52_method_14_code (5 : Nat) (Option.some (Jvm.ClassFile.FieldType.array Jvm.ClassFile.FieldType.byte))).before args0 about1 = true := code_word (m := ⟨8, 6⟩) (meth := k8m6) (c := k8c6) (by decide +kernel) rfl rfl rfl (by decide +kernel)
set_option maxRecDepth 65536 in
theorem w_c44 : (Jvm.Cond.code ({ cls := "java/lang/StringUTF16", name := "newBytesFor", desc := "(I)[B" } : Jvm.MethodName) jdk_52_method_2_code (1 : Nat) (Option.some (Jvm.ClassFile.FieldType.array Jvm.ClassFile.FieldType.byte))).before args0 about1 = true := code_word (m := ⟨8, 1⟩) (meth := k8m1) (c := k8c1) (by decide +kernel) rfl rfl rfl (by decide +kernel)
set_option maxRecDepth 65536 in
theorem w_c45 : (Jvm.Cond.code ({ cls := "java/lang/StringUTF16", name := "newBytesLength", desc := "(I)I" } : Jvm.MethodName) jdk_52_method_3_code (1 : Nat) (Option.some Jvm.ClassFile.FieldType.int)).before args0 about1 = true := code_word (m := ⟨8, 2⟩) (meth := k8m2) (c := k8c2) (by decide +kernel) rfl rfl rfl (by decide +kernel)
set_option maxRecDepth 65536 in
theorem w_c46 : (Jvm.Cond.code ({ cls := "java/lang/StringUTF16", name := "putChar", desc := "([BII)V" } : Jvm.MethodName) jdk_52_method_4_code (3 : Nat) (Option.none : Option Jvm.ClassFile.FieldType)).before args0 about1 = true := code_word (m := ⟨8, 3⟩) (meth := k8m3) (c := k8c3) (by decide +kernel) rfl rfl rfl (by decide +kernel)
set_option maxRecDepth 65536 in
theorem w_c47 : (Jvm.Cond.code ({ cls := "java/lang/StringUTF16", name := "getChar", desc := "([BI)C" } : Jvm.MethodName) jdk_52_method_5_code (2 : Nat) (Option.some Jvm.ClassFile.FieldType.char)).before args0 about1 = true := code_word (m := ⟨8, 4⟩) (meth := k8m4) (c := k8c4) (by decide +kernel) rfl rfl rfl (by decide +kernel)
set_option maxRecDepth 65536 in
theorem w_c48 : (Jvm.Cond.code ({ cls := "java/lang/AbstractStringBuilder", name := "inflate", desc := "()V" } : Jvm.MethodName) jdk_68_method_11_code (2 : Nat) (Option.none : Option Jvm.ClassFile.FieldType)).before args0 about1 = true := code_word (m := ⟨14, 5⟩) (meth := k14m5) (c := k14c5) (by decide +kernel) rfl rfl rfl (by decide +kernel)
set_option maxRecDepth 65536 in
theorem w_c49 : (Jvm.Cond.code ({ cls := "java/lang/StringLatin1", name := "inflate", desc := "([BI[BII)V" } : Jvm.MethodName) jdk_43_method_50_code (5 : Nat) (Option.none : Option Jvm.ClassFile.FieldType)).before args0 about1 = true := code_word (m := ⟨19, 2⟩) (meth := k19m2) (c := k19c2) (by decide +kernel) rfl rfl rfl (by decide +kernel)
set_option maxRecDepth 65536 in
theorem w_c50 : (Jvm.Cond.code ({ cls := "java/lang/StringUTF16", name := "inflate", desc := "([BI[BII)V" } : Jvm.MethodName) jdk_52_method_86_code (6 : Nat) (Option.none : Option Jvm.ClassFile.FieldType)).before args0 about1 = true := code_word (m := ⟨8, 11⟩) (meth := k8m11) (c := k8c11) (by decide +kernel) rfl rfl rfl (by decide +kernel)
set_option maxRecDepth 65536 in
theorem w_c51 : (Jvm.Cond.code ({ cls := "java/lang/StringUTF16", name := "checkBoundsOffCount", desc := "(II[B)V" } : Jvm.MethodName) jdk_52_method_94_code (3 : Nat) (Option.none : Option Jvm.ClassFile.FieldType)).before args0 about1 = true := code_word (m := ⟨8, 13⟩) (meth := k8m13) (c := k8c13) (by decide +kernel) rfl rfl rfl (by decide +kernel)
set_option maxRecDepth 65536 in
theorem w_c52 : (Jvm.Cond.code ({ cls := "java/lang/StringUTF16", name := "length", desc := "([B)I" } : Jvm.MethodName) jdk_52_method_6_code (1 : Nat) (Option.some Jvm.ClassFile.FieldType.int)).before args0 about1 = true := code_word (m := ⟨8, 5⟩) (meth := k8m5) (c := k8c5) (by decide +kernel) rfl rfl rfl (by decide +kernel)
set_option maxRecDepth 65536 in
theorem w_c53 : (Jvm.Cond.code ({ cls := "java/lang/String", name := "checkBoundsOffCount", desc := "(III)I" } : Jvm.MethodName) jdk_42_method_157_code (3 : Nat) (Option.some Jvm.ClassFile.FieldType.int)).before args0 about1 = true := code_word (m := ⟨7, 11⟩) (meth := k7m11) (c := k7c11) (by decide +kernel) rfl rfl rfl (by decide +kernel)
set_option maxRecDepth 65536 in
theorem w_c54 : (Jvm.Cond.code ({ cls := "jdk/internal/util/Preconditions", name := "checkFromIndexSize", desc := "(IIILjava/util/function/BiFunction;)I" } : Jvm.MethodName) jdk_41_method_13_code (4 : Nat) (Option.some Jvm.ClassFile.FieldType.int)).before args0 about1 = true := code_word (m := ⟨20, 2⟩) (meth := k20m2) (c := k20c2) (by decide +kernel) rfl rfl rfl (by decide +kernel)
set_option maxRecDepth 65536 in
theorem w_c55 : (Jvm.Cond.code ({ cls := "java/lang/StringUTF16", name := "charAt", desc := "([BI)C" } : Jvm.MethodName) jdk_52_method_83_code (2 : Nat) (Option.some Jvm.ClassFile.FieldType.char)).before args0 about1 = true := code_word (m := ⟨8, 10⟩) (meth := k8m10) (c := k8c10) (by decide +kernel) rfl rfl rfl (by decide +kernel)
set_option maxRecDepth 65536 in
theorem w_c56 : (Jvm.Cond.code ({ cls := "java/lang/StringUTF16", name := "checkIndex", desc := "(I[B)V" } : Jvm.MethodName) jdk_52_method_91_code (2 : Nat) (Option.none : Option Jvm.ClassFile.FieldType)).before args0 about1 = true := code_word (m := ⟨8, 12⟩) (meth := k8m12) (c := k8c12) (by decide +kernel) rfl rfl rfl (by decide +kernel)
set_option maxRecDepth 65536 in
theorem w_c57 : (Jvm.Cond.code ({ cls := "java/lang/AbstractStringBuilder", name := "newCapacity", desc := "(I)I" } : Jvm.MethodName) jdk_68_method_10_code (6 : Nat) (Option.some Jvm.ClassFile.FieldType.int)).before args0 about1 = true := code_word (m := ⟨14, 4⟩) (meth := k14m4) (c := k14c4) (by decide +kernel) rfl rfl rfl (by decide +kernel)
set_option maxRecDepth 65536 in
theorem w_c58 : (Jvm.Cond.code ({ cls := "jdk/internal/util/ArraysSupport", name := "newLength", desc := "(III)I" } : Jvm.MethodName) jdk_48_method_27_code (4 : Nat) (Option.some Jvm.ClassFile.FieldType.int)).before args0 about1 = true := code_word (m := ⟨22, 1⟩) (meth := k22m1) (c := k22c1) (by decide +kernel) rfl rfl rfl (by decide +kernel)
set_option maxRecDepth 65536 in
theorem w_c59 : (Jvm.Cond.code ({ cls := "java/lang/Math", name := "max", desc := "(II)I" } : Jvm.MethodName) jdk_29_method_65_code (2 : Nat) (Option.some Jvm.ClassFile.FieldType.int)).before args0 about1 = true := code_word (m := ⟨18, 1⟩) (meth := k18m1) (c := k18c1) (by decide +kernel) rfl rfl rfl (by decide +kernel)
set_option maxRecDepth 65536 in
theorem w_c60 : (Jvm.Cond.code ({ cls := "java/util/Arrays", name := "copyOf", desc := "([BI)[B" } : Jvm.MethodName) jdk_65_method_121_code (3 : Nat) (Option.some (Jvm.ClassFile.FieldType.array Jvm.ClassFile.FieldType.byte))).before args0 about1 = true := code_word (m := ⟨17, 1⟩) (meth := k17m1) (c := k17c1) (by decide +kernel) rfl rfl rfl (by decide +kernel)
def codes1 : List Jvm.Cond := [Jvm.Cond.code x code maxLocals ret, Jvm.Cond.code ({ cls := "com/example/keyset/keyset/query/DeclarationExceptionForResourcePinLaw", name := "mk", desc := "(II)Ljava/lang/String;" } : Jvm.MethodName) method_2_code (2 : Nat) (Option.some (Jvm.ClassFile.FieldType.object "java/lang/String")), Jvm.Cond.code ({ cls := "java/lang/String", name := "<init>", desc := "([C)V" } : Jvm.MethodName) jdk_42_method_3_code (2 : Nat) (Option.none : Option Jvm.ClassFile.FieldType), Jvm.Cond.code ({ cls := "java/lang/String", name := "<init>", desc := "([CIILjava/lang/Void;)V" } : Jvm.MethodName) jdk_42_method_149_code (6 : Nat) (Option.none : Option Jvm.ClassFile.FieldType), Jvm.Cond.code ({ cls := "java/lang/Object", name := "<init>", desc := "()V" } : Jvm.MethodName) object_method_1_code (1 : Nat) (Option.none : Option Jvm.ClassFile.FieldType), Jvm.Cond.code ({ cls := "java/lang/StringUTF16", name := "compress", desc := "([CII)[B" } : Jvm.MethodName) jdk_52_method_16_code (6 : Nat) (Option.some (Jvm.ClassFile.FieldType.array Jvm.ClassFile.FieldType.byte)), Jvm.Cond.code ({ cls := "java/lang/StringUTF16", name := "compress", desc := "([CI[BII)I" } : Jvm.MethodName) jdk_52_method_21_code (7 : Nat) (Option.some Jvm.ClassFile.FieldType.int), Jvm.Cond.code ({ cls := "java/lang/StringUTF16", name := "coderFromArrayLen", desc := "([BI)B" } : Jvm.MethodName) jdk_52_method_15_code (2 : Nat) (Option.some Jvm.ClassFile.FieldType.byte), Jvm.Cond.code ({ cls := "com/example/keyset/keyset/query/DeclarationException", name := "forResource", desc := "(Ljava/lang/String;Ljava/lang/String;)Lcom/example/keyset/keyset/query/DeclarationException;" } : Jvm.MethodName) prog_2_method_2_code (2 : Nat) (Option.some (Jvm.ClassFile.FieldType.object "com/example/keyset/keyset/query/DeclarationException")), Jvm.Cond.code ({ cls := "java/lang/StringBuilder", name := "<init>", desc := "()V" } : Jvm.MethodName) jdk_67_method_1_code (1 : Nat) (Option.none : Option Jvm.ClassFile.FieldType), Jvm.Cond.code ({ cls := "java/lang/AbstractStringBuilder", name := "<init>", desc := "(I)V" } : Jvm.MethodName) jdk_68_method_2_code (2 : Nat) (Option.none : Option Jvm.ClassFile.FieldType), Jvm.Cond.code ({ cls := "java/lang/StringBuilder", name := "append", desc := "(Ljava/lang/String;)Ljava/lang/StringBuilder;" } : Jvm.MethodName) jdk_67_method_7_code (2 : Nat) (Option.some (Jvm.ClassFile.FieldType.object "java/lang/StringBuilder")), Jvm.Cond.code ({ cls := "java/lang/AbstractStringBuilder", name := "append", desc := "(Ljava/lang/String;)Ljava/lang/AbstractStringBuilder;" } : Jvm.MethodName) jdk_68_method_22_code (3 : Nat) (Option.some (Jvm.ClassFile.FieldType.object "java/lang/AbstractStringBuilder")), Jvm.Cond.code ({ cls := "java/lang/String", name := "length", desc := "()I" } : Jvm.MethodName) jdk_42_method_54_code (1 : Nat) (Option.some Jvm.ClassFile.FieldType.int), Jvm.Cond.code ({ cls := "java/lang/String", name := "coder", desc := "()B" } : Jvm.MethodName) jdk_42_method_152_code (1 : Nat) (Option.some Jvm.ClassFile.FieldType.byte), Jvm.Cond.code ({ cls := "java/lang/AbstractStringBuilder", name := "ensureCapacityInternal", desc := "(I)V" } : Jvm.MethodName) jdk_68_method_9_code (3 : Nat) (Option.none : Option Jvm.ClassFile.FieldType), Jvm.Cond.code ({ cls := "java/lang/AbstractStringBuilder", name := "putStringAt", desc := "(ILjava/lang/String;)V" } : Jvm.MethodName) jdk_68_method_73_code (3 : Nat) (Option.none : Option Jvm.ClassFile.FieldType), Jvm.Cond.code ({ cls := "java/lang/AbstractStringBuilder", name := "inflateIfNeededFor", desc := "(Ljava/lang/String;)V" } : Jvm.MethodName) jdk_68_method_71_code (2 : Nat) (Option.none : Option Jvm.ClassFile.FieldType), Jvm.Cond.code ({ cls := "java/lang/String", name := "getBytes", desc := "([BIB)V" } : Jvm.MethodName) jdk_42_method_147_code (4 : Nat) (Option.none : Option Jvm.ClassFile.FieldType), Jvm.Cond.code ({ cls := "java/lang/StringBuilder", name := "toString", desc := "()Ljava/lang/String;" } : Jvm.MethodName) jdk_67_method_42_code (1 : Nat) (Option.some (Jvm.ClassFile.FieldType.object "java/lang/String")), Jvm.Cond.code ({ cls := "java/lang/String", name := "<init>", desc := "(Ljava/lang/StringBuilder;)V" } : Jvm.MethodName) jdk_42_method_53_code (2 : Nat) (Option.none : Option Jvm.ClassFile.FieldType), Jvm.Cond.code ({ cls := "java/lang/String", name := "<init>", desc := "(Ljava/lang/AbstractStringBuilder;Ljava/lang/Void;)V" } : Jvm.MethodName) jdk_42_method_150_code (5 : Nat) (Option.none : Option Jvm.ClassFile.FieldType), Jvm.Cond.code ({ cls := "java/lang/AbstractStringBuilder", name := "getValue", desc := "()[B" } : Jvm.MethodName) jdk_68_method_64_code (1 : Nat) (Option.some (Jvm.ClassFile.FieldType.array Jvm.ClassFile.FieldType.byte)), Jvm.Cond.code ({ cls := "java/lang/StringBuilder", name := "length", desc := "()I" } : Jvm.MethodName) jdk_67_method_93_code (1 : Nat) (Option.some Jvm.ClassFile.FieldType.int), Jvm.Cond.code ({ cls := "java/lang/AbstractStringBuilder", name := "length", desc := "()I" } : Jvm.MethodName) jdk_68_method_6_code (1 : Nat) (Option.some Jvm.ClassFile.FieldType.int), Jvm.Cond.code ({ cls := "java/lang/AbstractStringBuilder", name := "isLatin1", desc := "()Z" } : Jvm.MethodName) jdk_68_method_68_code (1 : Nat) (Option.some Jvm.ClassFile.FieldType.boolean), Jvm.Cond.code ({ cls := "java/util/Arrays", name := "copyOfRange", desc := "([BII)[B" } : Jvm.MethodName) jdk_65_method_132_code (3 : Nat) (Option.some (Jvm.ClassFile.FieldType.array Jvm.ClassFile.FieldType.byte)), Jvm.Cond.code ({ cls := "java/util/Arrays", name := "copyOfRangeByte", desc := "([BII)[B" } : Jvm.MethodName) jdk_65_method_133_code (5 : Nat) (Option.some (Jvm.ClassFile.FieldType.array Jvm.ClassFile.FieldType.byte)), Jvm.Cond.code ({ cls := "java/util/Arrays", name := "checkLength", desc := "(II)V" } : Jvm.MethodName) jdk_65_method_131_code (2 : Nat) (Option.none : Option Jvm.ClassFile.FieldType), Jvm.Cond.code ({ cls := "java/lang/Math", name := "min", desc := "(II)I" } : Jvm.MethodName) jdk_29_method_69_code (2 : Nat) (Option.some Jvm.ClassFile.FieldType.int), Jvm.Cond.code ({ cls := "com/example/keyset/keyset/query/DeclarationException", name := "<init>", desc := "(Ljava/lang/String;)V" } : Jvm.MethodName) prog_2_method_1_code (2 : Nat) (Option.none : Option Jvm.ClassFile.FieldType), Jvm.Cond.code ({ cls := "java/lang/RuntimeException", name := "<init>", desc := "(Ljava/lang/String;)V" } : Jvm.MethodName) jdk_58_method_2_code (2 : Nat) (Option.none : Option Jvm.ClassFile.FieldType), Jvm.Cond.code ({ cls := "java/lang/Exception", name := "<init>", desc := "(Ljava/lang/String;)V" } : Jvm.MethodName) jdk_59_method_2_code (2 : Nat) (Option.none : Option Jvm.ClassFile.FieldType), Jvm.Cond.code ({ cls := "java/lang/Throwable", name := "<init>", desc := "(Ljava/lang/String;)V" } : Jvm.MethodName) jdk_78_method_2_code (2 : Nat) (Option.none : Option Jvm.ClassFile.FieldType), Jvm.Cond.code ({ cls := "java/lang/Throwable", name := "<init>", desc := "()V" } : Jvm.MethodName) jdk_78_method_1_code (1 : Nat) (Option.none : Option Jvm.ClassFile.FieldType), Jvm.Cond.code ({ cls := "java/lang/Throwable", name := "getMessage", desc := "()Ljava/lang/String;" } : Jvm.MethodName) jdk_78_method_6_code (1 : Nat) (Option.some (Jvm.ClassFile.FieldType.object "java/lang/String")), Jvm.Cond.code ({ cls := "com/example/keyset/keyset/query/DeclarationExceptionForResourcePinLaw", name := "ok", desc := "(Ljava/lang/String;ILjava/lang/String;Ljava/lang/String;)Z" } : Jvm.MethodName) method_4_code (4 : Nat) (Option.some Jvm.ClassFile.FieldType.boolean), Jvm.Cond.code ({ cls := "java/lang/String", name := "charAt", desc := "(I)C" } : Jvm.MethodName) jdk_42_method_56_code (2 : Nat) (Option.some Jvm.ClassFile.FieldType.char), Jvm.Cond.code ({ cls := "java/lang/String", name := "isLatin1", desc := "()Z" } : Jvm.MethodName) jdk_42_method_154_code (1 : Nat) (Option.some Jvm.ClassFile.FieldType.boolean), Jvm.Cond.code ({ cls := "java/lang/StringLatin1", name := "charAt", desc := "([BI)C" } : Jvm.MethodName) jdk_43_method_2_code (2 : Nat) (Option.some Jvm.ClassFile.FieldType.char), Jvm.Cond.code ({ cls := "java/lang/String", name := "checkIndex", desc := "(II)V" } : Jvm.MethodName) jdk_42_method_155_code (2 : Nat) (Option.none : Option Jvm.ClassFile.FieldType), Jvm.Cond.code ({ cls := "jdk/internal/util/Preconditions", name := "checkIndex", desc := "(IILjava/util/function/BiFunction;)I" } : Jvm.MethodName) jdk_41_method_11_code (3 : Nat) (Option.some Jvm.ClassFile.FieldType.int), Jvm.Cond.code ({ cls := "com/example/keyset/keyset/query/DeclarationExceptionForResourcePinLaw", name := "exp", desc := "(ILjava/lang/String;Ljava/lang/String;)C" } : Jvm.MethodName) method_3_code (6 : Nat) (Option.some Jvm.ClassFile.FieldType.char), Jvm.Cond.code ({ cls := "java/lang/StringUTF16", name := "toBytes", desc := "([CII)[B" } : Jvm.MethodName) jdk_52_method_14_code (5 : Nat) (Option.some (Jvm.ClassFile.FieldType.array Jvm.ClassFile.FieldType.byte)), Jvm.Cond.code ({ cls := "java/lang/StringUTF16", name := "newBytesFor", desc := "(I)[B" } : Jvm.MethodName) jdk_52_method_2_code (1 : Nat) (Option.some (Jvm.ClassFile.FieldType.array Jvm.ClassFile.FieldType.byte)), Jvm.Cond.code ({ cls := "java/lang/StringUTF16", name := "newBytesLength", desc := "(I)I" } : Jvm.MethodName) jdk_52_method_3_code (1 : Nat) (Option.some Jvm.ClassFile.FieldType.int), Jvm.Cond.code ({ cls := "java/lang/StringUTF16", name := "putChar", desc := "([BII)V" } : Jvm.MethodName) jdk_52_method_4_code (3 : Nat) (Option.none : Option Jvm.ClassFile.FieldType), Jvm.Cond.code ({ cls := "java/lang/StringUTF16", name := "getChar", desc := "([BI)C" } : Jvm.MethodName) jdk_52_method_5_code (2 : Nat) (Option.some Jvm.ClassFile.FieldType.char), Jvm.Cond.code ({ cls := "java/lang/AbstractStringBuilder", name := "inflate", desc := "()V" } : Jvm.MethodName) jdk_68_method_11_code (2 : Nat) (Option.none : Option Jvm.ClassFile.FieldType), Jvm.Cond.code ({ cls := "java/lang/StringLatin1", name := "inflate", desc := "([BI[BII)V" } : Jvm.MethodName) jdk_43_method_50_code (5 : Nat) (Option.none : Option Jvm.ClassFile.FieldType), Jvm.Cond.code ({ cls := "java/lang/StringUTF16", name := "inflate", desc := "([BI[BII)V" } : Jvm.MethodName) jdk_52_method_86_code (6 : Nat) (Option.none : Option Jvm.ClassFile.FieldType), Jvm.Cond.code ({ cls := "java/lang/StringUTF16", name := "checkBoundsOffCount", desc := "(II[B)V" } : Jvm.MethodName) jdk_52_method_94_code (3 : Nat) (Option.none : Option Jvm.ClassFile.FieldType), Jvm.Cond.code ({ cls := "java/lang/StringUTF16", name := "length", desc := "([B)I" } : Jvm.MethodName) jdk_52_method_6_code (1 : Nat) (Option.some Jvm.ClassFile.FieldType.int), Jvm.Cond.code ({ cls := "java/lang/String", name := "checkBoundsOffCount", desc := "(III)I" } : Jvm.MethodName) jdk_42_method_157_code (3 : Nat) (Option.some Jvm.ClassFile.FieldType.int), Jvm.Cond.code ({ cls := "jdk/internal/util/Preconditions", name := "checkFromIndexSize", desc := "(IIILjava/util/function/BiFunction;)I" } : Jvm.MethodName) jdk_41_method_13_code (4 : Nat) (Option.some Jvm.ClassFile.FieldType.int), Jvm.Cond.code ({ cls := "java/lang/StringUTF16", name := "charAt", desc := "([BI)C" } : Jvm.MethodName) jdk_52_method_83_code (2 : Nat) (Option.some Jvm.ClassFile.FieldType.char), Jvm.Cond.code ({ cls := "java/lang/StringUTF16", name := "checkIndex", desc := "(I[B)V" } : Jvm.MethodName) jdk_52_method_91_code (2 : Nat) (Option.none : Option Jvm.ClassFile.FieldType), Jvm.Cond.code ({ cls := "java/lang/AbstractStringBuilder", name := "newCapacity", desc := "(I)I" } : Jvm.MethodName) jdk_68_method_10_code (6 : Nat) (Option.some Jvm.ClassFile.FieldType.int), Jvm.Cond.code ({ cls := "jdk/internal/util/ArraysSupport", name := "newLength", desc := "(III)I" } : Jvm.MethodName) jdk_48_method_27_code (4 : Nat) (Option.some Jvm.ClassFile.FieldType.int), Jvm.Cond.code ({ cls := "java/lang/Math", name := "max", desc := "(II)I" } : Jvm.MethodName) jdk_29_method_65_code (2 : Nat) (Option.some Jvm.ClassFile.FieldType.int), Jvm.Cond.code ({ cls := "java/util/Arrays", name := "copyOf", desc := "([BI)[B" } : Jvm.MethodName) jdk_65_method_121_code (3 : Nat) (Option.some (Jvm.ClassFile.FieldType.array Jvm.ClassFile.FieldType.byte))]
set_option maxRecDepth 65536 in
theorem codes_eq : words1.filter isCode = codes1 := rfl
theorem w_codes : ∀ c ∈ words1.filter isCode, c.before args0 about1 = true := by
  rw [codes_eq]
  intro c hc
  simp only [codes1, List.mem_cons, List.not_mem_nil, or_false] at hc
  rcases hc with rfl | rfl | rfl | rfl | rfl | rfl | rfl | rfl | rfl | rfl | rfl | rfl | rfl | rfl | rfl | rfl | rfl | rfl | rfl | rfl | rfl | rfl | rfl | rfl | rfl | rfl | rfl | rfl | rfl | rfl | rfl | rfl | rfl | rfl | rfl | rfl | rfl | rfl | rfl | rfl | rfl | rfl | rfl | rfl | rfl | rfl | rfl | rfl | rfl | rfl | rfl | rfl | rfl | rfl | rfl | rfl | rfl | rfl | rfl | rfl | rfl
  · exact w_c0
  · exact w_c1
  · exact w_c2
  · exact w_c3
  · exact w_c4
  · exact w_c5
  · exact w_c6
  · exact w_c7
  · exact w_c8
  · exact w_c9
  · exact w_c10
  · exact w_c11
  · exact w_c12
  · exact w_c13
  · exact w_c14
  · exact w_c15
  · exact w_c16
  · exact w_c17
  · exact w_c18
  · exact w_c19
  · exact w_c20
  · exact w_c21
  · exact w_c22
  · exact w_c23
  · exact w_c24
  · exact w_c25
  · exact w_c26
  · exact w_c27
  · exact w_c28
  · exact w_c29
  · exact w_c30
  · exact w_c31
  · exact w_c32
  · exact w_c33
  · exact w_c34
  · exact w_c35
  · exact w_c36
  · exact w_c37
  · exact w_c38
  · exact w_c39
  · exact w_c40
  · exact w_c41
  · exact w_c42
  · exact w_c43
  · exact w_c44
  · exact w_c45
  · exact w_c46
  · exact w_c47
  · exact w_c48
  · exact w_c49
  · exact w_c50
  · exact w_c51
  · exact w_c52
  · exact w_c53
  · exact w_c54
  · exact w_c55
  · exact w_c56
  · exact w_c57
  · exact w_c58
  · exact w_c59
  · exact w_c60
set_option maxRecDepth 65536 in
theorem w_t1 : (words1.take 24).all (fun c => isCode c || c.before args0 about1) = true := by decide +kernel
set_option maxRecDepth 65536 in
theorem w_t2 : ((words1.drop 24).take 24).all (fun c => isCode c || c.before args0 about1) = true := by decide +kernel
set_option maxRecDepth 65536 in
theorem w_t3 : (((words1.drop 24).drop 24).take 24).all (fun c => isCode c || c.before args0 about1) = true := by decide +kernel
set_option maxRecDepth 65536 in
theorem w_t4 : ((((words1.drop 24).drop 24).drop 24).take 24).all (fun c => isCode c || c.before args0 about1) = true := by decide +kernel
set_option maxRecDepth 65536 in
theorem w_t5 : (((((words1.drop 24).drop 24).drop 24).drop 24).take 24).all (fun c => isCode c || c.before args0 about1) = true := by decide +kernel
set_option maxRecDepth 65536 in
theorem w_t6 : ((((((words1.drop 24).drop 24).drop 24).drop 24).drop 24).take 24).all (fun c => isCode c || c.before args0 about1) = true := by decide +kernel
set_option maxRecDepth 65536 in
theorem w_t7 : (((((((words1.drop 24).drop 24).drop 24).drop 24).drop 24).drop 24).take 24).all (fun c => isCode c || c.before args0 about1) = true := by decide +kernel
set_option maxRecDepth 65536 in
theorem w_t8 : ((((((((words1.drop 24).drop 24).drop 24).drop 24).drop 24).drop 24).drop 24).take 24).all (fun c => isCode c || c.before args0 about1) = true := by decide +kernel
set_option maxRecDepth 65536 in
theorem w_t9 : (((((((((words1.drop 24).drop 24).drop 24).drop 24).drop 24).drop 24).drop 24).drop 24).take 24).all (fun c => isCode c || c.before args0 about1) = true := by decide +kernel
set_option maxRecDepth 65536 in
theorem w_t10 : ((((((((((words1.drop 24).drop 24).drop 24).drop 24).drop 24).drop 24).drop 24).drop 24).drop 24).take 24).all (fun c => isCode c || c.before args0 about1) = true := by decide +kernel
set_option maxRecDepth 65536 in
theorem w_t11 : (((((((((((words1.drop 24).drop 24).drop 24).drop 24).drop 24).drop 24).drop 24).drop 24).drop 24).drop 24).take 24).all (fun c => isCode c || c.before args0 about1) = true := by decide +kernel
set_option maxRecDepth 65536 in
theorem w_t12 : ((((((((((((words1.drop 24).drop 24).drop 24).drop 24).drop 24).drop 24).drop 24).drop 24).drop 24).drop 24).drop 24).take 24).all (fun c => isCode c || c.before args0 about1) = true := by decide +kernel
set_option maxRecDepth 65536 in
theorem w_t13 : (((((((((((((words1.drop 24).drop 24).drop 24).drop 24).drop 24).drop 24).drop 24).drop 24).drop 24).drop 24).drop 24).drop 24).take 24).all (fun c => isCode c || c.before args0 about1) = true := by decide +kernel
set_option maxRecDepth 65536 in
theorem w_t14 : (((((((((((((words1.drop 24).drop 24).drop 24).drop 24).drop 24).drop 24).drop 24).drop 24).drop 24).drop 24).drop 24).drop 24).drop 24).all (fun c => isCode c || c.before args0 about1) = true := by decide +kernel
theorem w_tables : (allAtoms (Jvm.Cond.code x code maxLocals ret :: tables_1)).before args0 about1 = true := by
  rw [allAtoms_all]
  show words1.all (fun c => c.before args0 about1) = true
  refine all_split ?_ w_codes
  rw [← List.take_append_drop 24 words1, List.all_append, w_t1, ← List.take_append_drop 24 (words1.drop 24), List.all_append, w_t2, ← List.take_append_drop 24 ((words1.drop 24).drop 24), List.all_append, w_t3, ← List.take_append_drop 24 (((words1.drop 24).drop 24).drop 24), List.all_append, w_t4, ← List.take_append_drop 24 ((((words1.drop 24).drop 24).drop 24).drop 24), List.all_append, w_t5, ← List.take_append_drop 24 (((((words1.drop 24).drop 24).drop 24).drop 24).drop 24), List.all_append, w_t6, ← List.take_append_drop 24 ((((((words1.drop 24).drop 24).drop 24).drop 24).drop 24).drop 24), List.all_append, w_t7, ← List.take_append_drop 24 (((((((words1.drop 24).drop 24).drop 24).drop 24).drop 24).drop 24).drop 24), List.all_append, w_t8, ← List.take_append_drop 24 ((((((((words1.drop 24).drop 24).drop 24).drop 24).drop 24).drop 24).drop 24).drop 24), List.all_append, w_t9, ← List.take_append_drop 24 (((((((((words1.drop 24).drop 24).drop 24).drop 24).drop 24).drop 24).drop 24).drop 24).drop 24), List.all_append, w_t10, ← List.take_append_drop 24 ((((((((((words1.drop 24).drop 24).drop 24).drop 24).drop 24).drop 24).drop 24).drop 24).drop 24).drop 24), List.all_append, w_t11, ← List.take_append_drop 24 (((((((((((words1.drop 24).drop 24).drop 24).drop 24).drop 24).drop 24).drop 24).drop 24).drop 24).drop 24).drop 24), List.all_append, w_t12, ← List.take_append_drop 24 ((((((((((((words1.drop 24).drop 24).drop 24).drop 24).drop 24).drop 24).drop 24).drop 24).drop 24).drop 24).drop 24).drop 24), List.all_append, w_t13, w_t14]
  rfl
set_option maxRecDepth 65536 in
theorem w_rest : rest_1_c.before args0 about1 = true := by decide +kernel
set_option maxRecDepth 65536 in
theorem w_case : (Jvm.Cond.and given_1 narrow_1).before args0 about1 = true := by decide +kernel
set_option maxRecDepth 65536 in
theorem w_consts : constsHeld consts_1 about1 := Jvm.Lit.constsHeldB_iff.mp (by decide +kernel)
theorem w_applies : (headSpec (Jvm.Cond.code x code maxLocals ret :: tables_1) room_1).applies x e0.platform about1 = true :=
  (Spec.applies_iff w_frames).mpr ⟨w_running, w_runnable, w_alone, w_named, w_hears, w_ripe, w_room, w_tables⟩
theorem atStart : AtStart classFile x code maxLocals ret World_1 tables_1 room_1 Calls_1 rest_1 Pre_1 launch0 p0 e0 about1 theMethod args0 below0 :=
  ⟨lists_1, trivial, launch0.admits_env _ _ _, launch0.least_env, fairChoices_fair.cas, fairChoices_fair.clock, w_frames, w_args, w_heap, w_applies, ⟨(by decide +kernel : framesKnown about1 = true), ⟨(by decide +kernel : tablesKnown about1 = true), ⟨w_consts, trivial⟩⟩⟩, w_rest, w_case⟩
end start1
theorem witness_1 : WitnessClaimed_1 := ⟨start1.p0, start1.e0, start1.about1, start1.theMethod, start1.args0, start1.below0, start1.atStart⟩
end Jvm.Pilot.@@N@@
