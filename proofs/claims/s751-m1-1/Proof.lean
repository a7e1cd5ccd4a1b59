import JvmDerived
import JvmDerived.Pilot.@@N@@Statement
import JvmDerived.Pilot.@@N@@Code
set_option linter.unusedVariables false
set_option linter.unusedSimpArgs false
namespace Jvm.Pilot.@@N@@
open Jvm Jvm.ClassFile Sem Op Lib Jvm.Free Jvm.Stand Jvm.LawKit Jvm.RoadKit Bundle Jvm.Pilot.@@N@@.Jvm.D
/-! the walk in continuation form: from T with the frame g on top the run comes to an end that says Q -/
def Go (p : Program) (e : Env) (below : List Frame) (s : State) (C S : Nat) (Q : Option Value → Heap → List Loc → Prop) (T : State) (g : JFrame) : Prop :=
  ∃ s₂ o, Steps p.tables e below (T.setTop g) s₂ ∧ s₂.status = .running ∧ Ended s₂ below o ∧ ∃ v L, o = .returned v ∧ Q v s₂.heap L ∧ FrameEnd s o s₂ L C S
section GoKit
variable {p : Program} {l : Launch} {e : Env} {R : Room} {s : State} {m : MethodId} {args : Array Value} {below : List Frame} {meth : Method} {c : Code} {T T' : State} {g g' : JFrame} {locs : List Loc} {cells slots C S : Nat} {Q : Option Value → Heap → List Loc → Prop} {Z : State} {h h' : Heap} {n0 : Nat}
theorem Go.st (st : ∀ t, Steps p.tables e below (T'.setTop g') t → Steps p.tables e below (T.setTop g) t) (k : Go p e below s C S Q T' g') : Go p e below s C S Q T g := by
  obtain ⟨s₂, o, h1, h2⟩ := k; exact ⟨s₂, o, st _ h1, h2⟩
theorem Go.tr (st : Steps p.tables e below (T.setTop g) (T'.setTop g')) (k : Go p e below s C S Q T' g') : Go p e below s C S Q T g := by
  obtain ⟨s₂, o, h1, h2⟩ := k; exact ⟨s₂, o, st.trans h1, h2⟩
theorem Go.eq (q : g = g') (k : Go p e below s C S Q T g') : Go p e below s C S Q T g := q ▸ k
theorem Go.fin (X : Stand p l e R s m args below meth c T locs cells slots) (hlk : meth.locks = false) {v : Option Value} (hv : meth.sig.returnType = none → v = none) (hc : cells ≤ C) (hs : slots ≤ S) (q : Q v T.heap locs)
    (k : ∀ fs, (∀ (f : JFrame) (acts : List Action), f.method = m → f.locked = none → f.entered = [] → (doReturn e (T.setTop f) acts v).1 = T.setFrames fs) → Steps p.tables e below (T.setTop g) (T.setFrames fs)) : Go p e below s C S Q T g := by
  obtain ⟨fs, hr, hrun, hended, hW, hsame⟩ := X.leave (v := v) hv hlk
  exact ⟨_, _, k fs hr, hrun, hended, _, _, rfl, q, ⟨_, rfl⟩, hW, hsame.mono hc hs⟩
theorem Go.retN (X : Stand p l e R s m args below meth c T locs cells slots) (hlk : meth.locks = false) (hx : p.tables.exec = Jvm.exec) {pc : Nat} {Ls : Array Slot} {z z' : Int32} {t : FieldType} {rest : List Value} (hret : meth.sig.returnType = some t) (ht : t = .boolean ∨ t = .byte ∨ t = .char ∨ t = .short)
    (hd : decode c.code pc = .ok (.ireturn, 1)) (hc : cells ≤ C) (hs : slots ≤ S) (hz : nar t z = z') (q : Q (some (.int z')) T.heap locs) : Go p e below s C S Q T (mkF m pc Ls (.int z :: rest)) := by
  subst hz
  exact Go.fin X hlk (fun h => by rw [hret] at h; cases h) hc hs q fun fs hr => Jvm.RoadKit.retN X hx hret ht hd hr
theorem Go.retV (X : Stand p l e R s m args below meth c T locs cells slots) (hlk : meth.locks = false) (hx : p.tables.exec = Jvm.exec) {pc : Nat} {Ls : Array Slot} {w : Value} {t : FieldType} {i : Instr} {rest : List Value} (hret : meth.sig.returnType = some t) (hn : narrow t w = w)
    (hi : (i = .ireturn ∧ (t = .int ∨ t = .boolean ∨ t = .byte ∨ t = .char ∨ t = .short) ∧ ∃ z, w = .int z) ∨ (i = .lreturn ∧ t = .long ∧ ∃ z, w = .long z) ∨ (i = .dreturn ∧ t = .double ∧ ∃ z, w = .double z) ∨ (i = .freturn ∧ t = .float ∧ ∃ z, w = .float z) ∨ (i = .areturn ∧ t.isReference = true ∧ w.isRef = true))
    (hd : decode c.code pc = .ok (i, 1)) (hc : cells ≤ C) (hs : slots ≤ S) (q : Q (some w) T.heap locs) : Go p e below s C S Q T (mkF m pc Ls (w :: rest)) :=
  Go.fin X hlk (fun h => by rw [hret] at h; cases h) hc hs q fun fs hr => Jvm.RoadKit.retOut X hx hret hn hi hd hr
theorem Go.retR (X : Stand p l e R s m args below meth c T locs cells slots) (hlk : meth.locks = false) (hx : p.tables.exec = Jvm.exec) {pc : Nat} {Ls : Array Slot} {w : Value} {t : FieldType} {rest : List Value} (hret : meth.sig.returnType = some t) (ht : t.isReference = true) (hw : w.isRef = true) (hn : narrow t w = w)
    (hd : decode c.code pc = .ok (.areturn, 1)) (hc : cells ≤ C) (hs : slots ≤ S) (q : Q (some w) T.heap locs) : Go p e below s C S Q T (mkF m pc Ls (w :: rest)) :=
  Go.retV X hlk hx hret hn (Or.inr (Or.inr (Or.inr (Or.inr ⟨rfl, ht, hw⟩)))) hd hc hs q
theorem Go.retI (X : Stand p l e R s m args below meth c T locs cells slots) (hlk : meth.locks = false) (hx : p.tables.exec = Jvm.exec) {pc : Nat} {Ls : Array Slot} {z : Int32} {rest : List Value} (hret : meth.sig.returnType = some .int)
    (hd : decode c.code pc = .ok (.ireturn, 1)) (hc : cells ≤ C) (hs : slots ≤ S) (q : Q (some (.int z)) T.heap locs) : Go p e below s C S Q T (mkF m pc Ls (.int z :: rest)) :=
  Go.retV X hlk hx hret rfl (Or.inl ⟨rfl, Or.inl rfl, z, rfl⟩) hd hc hs q
theorem Go.retJ (X : Stand p l e R s m args below meth c T locs cells slots) (hlk : meth.locks = false) (hx : p.tables.exec = Jvm.exec) {pc : Nat} {Ls : Array Slot} {z : Int64} {rest : List Value} (hret : meth.sig.returnType = some .long)
    (hd : decode c.code pc = .ok (.lreturn, 1)) (hc : cells ≤ C) (hs : slots ≤ S) (q : Q (some (.long z)) T.heap locs) : Go p e below s C S Q T (mkF m pc Ls (.long z :: rest)) :=
  Go.retV X hlk hx hret rfl (Or.inr (Or.inl ⟨rfl, rfl, z, rfl⟩)) hd hc hs q
theorem Go.ret0 (X : Stand p l e R s m args below meth c T locs cells slots) (hlk : meth.locks = false) (hx : p.tables.exec = Jvm.exec) {pc : Nat} {Ls : Array Slot} (hret : meth.sig.returnType = none)
    (hd : decode c.code pc = .ok (.return_, 1)) (hc : cells ≤ C) (hs : slots ≤ S) (q : Q none T.heap locs) : Go p e below s C S Q T (mkF m pc Ls []) :=
  Go.fin X hlk (fun _ => rfl) hc hs q fun fs hr => X.returnOut hx hret hd hr
theorem own_le (O : Old Z n0 h) : n0 ≤ h.size := O.1 ▸ O.2.1
theorem own_ext {ws : List Addr} (K : Keep h h' ws) (q : ∀ x ∈ ws, h.size ≤ x) : Ext h h' := ⟨K.1, fun x c r => K.2.1 x c r fun z => absurd (Array.getElem?_eq_some_iff.mp r).1 (Nat.not_lt.mpr (q x z))⟩
theorem own_ext0 (K : Keep h h' []) : Ext h h' := own_ext K all0
theorem own_exr (h : Heap) : Ext h h := ⟨Nat.le_refl _, fun _ _ q => q⟩
theorem own_ext_t {h'' : Heap} (E : Ext h h') (E' : Ext h' h'') : Ext h h'' := ⟨Nat.le_trans E.1 E'.1, fun x c r => E'.2 x c (E.2 x c r)⟩
end GoKit
theorem pn_1 : plainName "com/example/sancho/sancho/model/FieldType" = true := by first | (simp [plainName, overriddenIn]; done) | decide +kernel
theorem ef_rm1 (m : MethodId) (a1 : Addr) : entryFrame m #[(.ref a1)] 1 = mkF m 0 #[.val (.ref a1)] [] := by first | (simp [entryFrame, mkF, argsToLocals, Value.category]; done) | rfl
theorem d1_0 : decode prog_10_method_5_code 0 = .ok (.aload_n 0, 1) := by decide +kernel
theorem d1_1 : decode prog_10_method_5_code 1 = .ok (.getstatic 3, 3) := by decide +kernel
theorem d1_4 : decode prog_10_method_5_code 4 = .ok (.if_acmp .eq 14, 3) := by decide +kernel
theorem d1_18 : decode prog_10_method_5_code 18 = .ok (.iconst 0, 1) := by decide +kernel
theorem d1_19 : decode prog_10_method_5_code 19 = .ok (.ireturn, 1) := by decide +kernel
theorem d1_7 : decode prog_10_method_5_code 7 = .ok (.aload_n 0, 1) := by decide +kernel
theorem d1_8 : decode prog_10_method_5_code 8 = .ok (.getstatic 7, 3) := by decide +kernel
theorem d1_11 : decode prog_10_method_5_code 11 = .ok (.if_acmp .eq 7, 3) := by decide +kernel
theorem d1_14 : decode prog_10_method_5_code 14 = .ok (.iconst 1, 1) := by decide +kernel
theorem d1_15 : decode prog_10_method_5_code 15 = .ok (.goto 4, 3) := by decide +kernel
theorem pn_0 : plainName "com/example/sancho/sancho/model/FieldTypeIsNumericPinLaw" = true := by first | (simp [plainName, overriddenIn]; done) | decide +kernel
theorem ef_rm0 (m : MethodId) (p1 : Int32) : entryFrame m #[(.int p1)] maxLocals = mkF m 0 #[.val (.int p1), .unset, .unset, .unset] [] := by first | (simp [entryFrame, mkF, argsToLocals, Value.category, maxLocals]; done) | rfl
theorem pd___Z : parseMethodDescriptor "()Z" = some ⟨[], some .boolean⟩ := by decide +kernel
def numF (a wT wK : Addr) : Int32 := if a = wT then 0 else if a = wK then 0 else 1

theorem own_eqi {args : Array Value} {Z : State} {t : Term} {k : Int32} (h : (Cond.eq t (Term.int k)).value args Z none Z [] = some true) : t.eval args Z none [] Z = some (.int k) := by
  cases ht : t.eval args Z none [] Z with
  | none => simp [Cond.value, Term.eval, ht] at h
  | some v => cases v <;> simp [Cond.value, Term.eval, ht] at h <;> (try rw [h])
theorem own_en {args : Array Value} {Z : State} {C n d : String} {k : Int32} (hx : (Cond.exactly (Term.static C n d) C).value args Z none Z [] = some true) (hk : (Cond.eq (Term.field (Term.static C n d) "java/lang/Enum" "ordinal" "I") (Term.int k)).value args Z none Z [] = some true)
    (hi : (Cond.initialized C).before args Z = true) (hl : (Cond.laysStatic C n d).before args Z = true) : ∃ w, Sta Z Z.heap C n d (.ref w) ∧ Exa Z Z.heap w C ∧ Fld Z Z.heap w "java/lang/Enum" "ordinal" "I" (.int k) := by
  obtain ⟨w, ew⟩ := exa_v hx
  exact ⟨w, Sta.start ew (Or.inr ⟨hi, hl⟩), Exa.start ew hx, Fld.start (by rw [← fld_at ew]; exact own_eqi hk)⟩

def Q_rm1 (Z : State) (a1 : Addr) (w_TEXT : Addr) (w_KEYWORD : Addr) (h0 : Heap) (n0 : Nat) (v : Option Value) (h : Heap) (L : List Loc) : Prop := v = some (.int (numF a1 w_TEXT w_KEYWORD)) ∧ Fr n0 L ∧ h = h0
set_option maxRecDepth 65536 in
set_option maxHeartbeats 40000000 in
theorem rm1 (l : Launch) (Z : State) (a0 : Array Value) (hw : ∀ d ∈ tables_1, d.before a0 Z = true) (ws : List Jvm.Cond) (a1 : Addr) (w_TEXT : Addr) (w_KEYWORD : Addr) (h0 : Heap) (n0 : Nat) (O : Old Z n0 h0) (S_TEXT : Sta Z Z.heap "com/example/sancho/sancho/model/FieldType" "TEXT" "Lcom/example/sancho/sancho/model/FieldType;" (.ref w_TEXT)) (S_KEYWORD : Sta Z Z.heap "com/example/sancho/sancho/model/FieldType" "KEYWORD" "Lcom/example/sancho/sancho/model/FieldType;" (.ref w_KEYWORD)) :
    MetFree l (⟨"com/example/sancho/sancho/model/FieldType", "isNumeric", "()Z"⟩ : MethodName) (head1 (Jvm.Cond.code (⟨"com/example/sancho/sancho/model/FieldType", "isNumeric", "()Z"⟩ : MethodName) prog_10_method_5_code 1 (some .boolean) :: ws) ({ frames := 0, cells := 0, slots := 0, locals := 0 } : Room)) (fun a U => a = #[(.ref a1)] ∧ Z.Warmed39 U.vm ∧ U.heap = h0) (fun _ _ _ _ _ => True) (fun _ U o U' => ∃ v L, o = .returned v ∧ Q_rm1 Z a1 w_TEXT w_KEYWORD h0 n0 v U'.heap L ∧ FrameEnd U o U' L ({ frames := 0, cells := 0, slots := 0, locals := 0 } : Room).cells ({ frames := 0, cells := 0, slots := 0, locals := 0 } : Room).slots) := by
  refine MetFree.of_bodySF (plainFor_of_name pn_1) hisR ?_
  intro p e s m args below meth c s₁ Bd hml0 hP hK
  obtain ⟨rfl, hZ, hh⟩ := hP
  have hx := Bd.exec
  have hby := Bd.bytes
  have hml : c.maxLocals = 1 := hml0
  have hown : s.vm.findClass "com/example/sancho/sancho/model/FieldType" = some m.cls := findClass_of_methodNamed Bd.named
  have hnm := (name_of_methodNamed Bd.named Bd.method).1
  have hlk : meth.locks = false := BodyLoose.notSynchronized Bd
  have X0 : Stand p l e ({ frames := 0, cells := 0, slots := 0, locals := 0 } : Room) s m #[(.ref a1)] below meth c s₁ [] 0 0 := Stand.of_body Bd
  have e0 : s₁.heap = h0 := by rw [← hh, Bd.state]; rfl
  have N0 := Fr.nil n0
  show Go p e below s ({ frames := 0, cells := 0, slots := 0, locals := 0 } : Room).cells ({ frames := 0, cells := 0, slots := 0, locals := 0 } : Room).slots (Q_rm1 Z a1 w_TEXT w_KEYWORD h0 n0) s₁ (entryFrame m #[(.ref a1)] 1)
  refine Go.eq (ef_rm1 m a1) ?_
  show Go _ _ _ _ _ _ _  s₁ (mkF m 0 #[.val (.ref a1)] [])
  refine Go.st (fun t k => XS.aloadN X0.here hx rfl (hb hby d1_0) rfl rfl  k) ?_
  show Go _ _ _ _ _ _ _  s₁ (mkF m 1 #[.val (.ref a1)] [(.ref a1)])
  obtain ⟨T1, X1, e1, st1⟩ := getS2 X0 hx hZ hown (host := "") (Or.inl (hw _ (List.mem_of_getElem? (i := 9) rfl))) Via.refl e0 (S_TEXT.ext O.2) (g := (mkF m 1 #[.val (.ref a1)] [(.ref a1)])) rfl (hb hby d1_1)
  refine Go.st st1 ?_
  show Go _ _ _ _ _ _ _  T1 (mkF m 4 #[.val (.ref a1)] [(.ref w_TEXT), (.ref a1)])
  by_cases c4_2 : a1 = w_TEXT
  · refine Go.st (fun t k => Jvm.RoadKit.acmp (g := (mkF m 4 #[.val (.ref a1)] [(.ref w_TEXT), (.ref a1)])) X1 hx rfl rfl rfl (pc0 := 4) (pc' := 18) (same := true) rfl (hb hby d1_4) rfl (decide_eq_true (congrArg Value.ref c4_2)) (by decide) (by decide) k) ?_
    show Go _ _ _ _ _ _ _  T1 (mkF m 18 #[.val (.ref a1)] [])
    refine Go.st (fun t k => XS.iconst X1.here hx rfl (hb hby d1_18) k) ?_
    show Go _ _ _ _ _ _ _  T1 (mkF m 19 #[.val (.ref a1)] [(.int (0 : Int32))])
    refine Go.retN X1 hlk hx (t := .boolean) (z' := (0 : Int32)) Bd.returns (by simp) (hb hby d1_19) (by decide) (by decide) rfl ?_
    show Q_rm1 Z a1 w_TEXT w_KEYWORD h0 n0 _ T1.heap _
    rw [e1]
    exact ⟨by simp only [numF, if_pos c4_2], N0, rfl⟩
  · refine Go.st (fun t k => Jvm.RoadKit.acmp (g := (mkF m 4 #[.val (.ref a1)] [(.ref w_TEXT), (.ref a1)])) X1 hx rfl rfl rfl (pc0 := 4) (pc' := 7) (same := false) rfl (hb hby d1_4) rfl (decide_eq_false fun q => c4_2 (Value.ref.inj q)) (by decide) (by decide) k) ?_
    show Go _ _ _ _ _ _ _  T1 (mkF m 7 #[.val (.ref a1)] [])
    refine Go.st (fun t k => XS.aloadN X1.here hx rfl (hb hby d1_7) rfl rfl  k) ?_
    show Go _ _ _ _ _ _ _  T1 (mkF m 8 #[.val (.ref a1)] [(.ref a1)])
    obtain ⟨T3, X3, e3, st3⟩ := getS2 X1 hx hZ hown (host := "") (Or.inl (hw _ (List.mem_of_getElem? (i := 12) rfl))) Via.refl e1 (S_KEYWORD.ext O.2) (g := (mkF m 8 #[.val (.ref a1)] [(.ref a1)])) rfl (hb hby d1_8)
    refine Go.st st3 ?_
    show Go _ _ _ _ _ _ _  T3 (mkF m 11 #[.val (.ref a1)] [(.ref w_KEYWORD), (.ref a1)])
    by_cases c11_4 : a1 = w_KEYWORD
    · refine Go.st (fun t k => Jvm.RoadKit.acmp (g := (mkF m 11 #[.val (.ref a1)] [(.ref w_KEYWORD), (.ref a1)])) X3 hx rfl rfl rfl (pc0 := 11) (pc' := 18) (same := true) rfl (hb hby d1_11) rfl (decide_eq_true (congrArg Value.ref c11_4)) (by decide) (by decide) k) ?_
      show Go _ _ _ _ _ _ _  T3 (mkF m 18 #[.val (.ref a1)] [])
      refine Go.st (fun t k => XS.iconst X3.here hx rfl (hb hby d1_18) k) ?_
      show Go _ _ _ _ _ _ _  T3 (mkF m 19 #[.val (.ref a1)] [(.int (0 : Int32))])
      refine Go.retN X3 hlk hx (t := .boolean) (z' := (0 : Int32)) Bd.returns (by simp) (hb hby d1_19) (by decide) (by decide) rfl ?_
      show Q_rm1 Z a1 w_TEXT w_KEYWORD h0 n0 _ T3.heap _
      rw [e3]
      exact ⟨by simp only [numF, if_neg c4_2, if_pos c11_4], N0, rfl⟩
    · refine Go.st (fun t k => Jvm.RoadKit.acmp (g := (mkF m 11 #[.val (.ref a1)] [(.ref w_KEYWORD), (.ref a1)])) X3 hx rfl rfl rfl (pc0 := 11) (pc' := 14) (same := false) rfl (hb hby d1_11) rfl (decide_eq_false fun q => c11_4 (Value.ref.inj q)) (by decide) (by decide) k) ?_
      show Go _ _ _ _ _ _ _  T3 (mkF m 14 #[.val (.ref a1)] [])
      refine Go.st (fun t k => XS.iconst X3.here hx rfl (hb hby d1_14) k) ?_
      show Go _ _ _ _ _ _ _  T3 (mkF m 15 #[.val (.ref a1)] [(.int (1 : Int32))])
      refine Go.st (fun t k => XS.goto X3.here hx rfl (pc0 := 15) (pc' := 19) rfl (hb hby d1_15) (by decide) (by decide) k) ?_
      show Go _ _ _ _ _ _ _  T3 (mkF m 19 #[.val (.ref a1)] [(.int (1 : Int32))])
      refine Go.retN X3 hlk hx (t := .boolean) (z' := (1 : Int32)) Bd.returns (by simp) (hb hby d1_19) (by decide) (by decide) rfl ?_
      show Q_rm1 Z a1 w_TEXT w_KEYWORD h0 n0 _ T3.heap _
      rw [e3]
      exact ⟨by simp only [numF, if_neg c4_2, if_neg c11_4], N0, rfl⟩
def Q_rm0 (Z : State) (p1 : Int32) (w_TEXT : Addr) (w_KEYWORD : Addr) (w_LONG : Addr) (w_INTEGER : Addr) (w_DOUBLE : Addr) (w_FLOAT : Addr) (h0 : Heap) (n0 : Nat) (v : Option Value) (h : Heap) (L : List Loc) : Prop := v = some (.int (1 : Int32)) ∧ Fr n0 L
set_option maxRecDepth 65536 in
set_option maxHeartbeats 40000000 in
theorem rm0 (l : Launch) (Z : State) (a0 : Array Value) (hw : ∀ d ∈ tables_1, d.before a0 Z = true) (ws : List Jvm.Cond) (p1 : Int32) (w_TEXT : Addr) (w_KEYWORD : Addr) (w_LONG : Addr) (w_INTEGER : Addr) (w_DOUBLE : Addr) (w_FLOAT : Addr) (h0 : Heap) (n0 : Nat) (O : Old Z n0 h0) (S_TEXT : Sta Z Z.heap "com/example/sancho/sancho/model/FieldType" "TEXT" "Lcom/example/sancho/sancho/model/FieldType;" (.ref w_TEXT)) (S_KEYWORD : Sta Z Z.heap "com/example/sancho/sancho/model/FieldType" "KEYWORD" "Lcom/example/sancho/sancho/model/FieldType;" (.ref w_KEYWORD)) (S_LONG : Sta Z Z.heap "com/example/sancho/sancho/model/FieldType" "LONG" "Lcom/example/sancho/sancho/model/FieldType;" (.ref w_LONG)) (S_INTEGER : Sta Z Z.heap "com/example/sancho/sancho/model/FieldType" "INTEGER" "Lcom/example/sancho/sancho/model/FieldType;" (.ref w_INTEGER)) (S_DOUBLE : Sta Z Z.heap "com/example/sancho/sancho/model/FieldType" "DOUBLE" "Lcom/example/sancho/sancho/model/FieldType;" (.ref w_DOUBLE)) (S_FLOAT : Sta Z Z.heap "com/example/sancho/sancho/model/FieldType" "FLOAT" "Lcom/example/sancho/sancho/model/FieldType;" (.ref w_FLOAT)) (E_TEXT : Exa Z Z.heap w_TEXT "com/example/sancho/sancho/model/FieldType") (E_KEYWORD : Exa Z Z.heap w_KEYWORD "com/example/sancho/sancho/model/FieldType") (E_LONG : Exa Z Z.heap w_LONG "com/example/sancho/sancho/model/FieldType") (E_INTEGER : Exa Z Z.heap w_INTEGER "com/example/sancho/sancho/model/FieldType") (E_DOUBLE : Exa Z Z.heap w_DOUBLE "com/example/sancho/sancho/model/FieldType") (E_FLOAT : Exa Z Z.heap w_FLOAT "com/example/sancho/sancho/model/FieldType") (n_KEYWORD_TEXT : w_KEYWORD ≠ w_TEXT) (n_LONG_TEXT : w_LONG ≠ w_TEXT) (n_LONG_KEYWORD : w_LONG ≠ w_KEYWORD) (n_INTEGER_TEXT : w_INTEGER ≠ w_TEXT) (n_INTEGER_KEYWORD : w_INTEGER ≠ w_KEYWORD) (n_DOUBLE_TEXT : w_DOUBLE ≠ w_TEXT) (n_DOUBLE_KEYWORD : w_DOUBLE ≠ w_KEYWORD) (n_FLOAT_TEXT : w_FLOAT ≠ w_TEXT) (n_FLOAT_KEYWORD : w_FLOAT ≠ w_KEYWORD) :
    MetFree l x (head1 (Jvm.Cond.code x code maxLocals ret :: ws) room_1) (fun a U => a = #[(.int p1)] ∧ Z.Warmed39 U.vm ∧ U.heap = h0) (fun _ _ _ _ _ => True) (fun _ U o U' => ∃ v L, o = .returned v ∧ Q_rm0 Z p1 w_TEXT w_KEYWORD w_LONG w_INTEGER w_DOUBLE w_FLOAT h0 n0 v U'.heap L ∧ FrameEnd U o U' L room_1.cells room_1.slots) := by
  refine MetFree.of_bodySF (plainFor_of_name pn_0) hisR ?_
  intro p e s m args below meth c s₁ Bd hml0 hP hK
  obtain ⟨rfl, hZ, hh⟩ := hP
  have hx := Bd.exec
  have hby := Bd.bytes
  have hml : c.maxLocals = 4 := hml0
  have hown : s.vm.findClass "com/example/sancho/sancho/model/FieldTypeIsNumericPinLaw" = some m.cls := findClass_of_methodNamed Bd.named
  have hnm := (name_of_methodNamed Bd.named Bd.method).1
  have hlk : meth.locks = false := BodyLoose.notSynchronized Bd
  have X0 : Stand p l e room_1 s m #[(.int p1)] below meth c s₁ [] 0 0 := Stand.of_body Bd
  have e0 : s₁.heap = h0 := by rw [← hh, Bd.state]; rfl
  have N0 := Fr.nil n0
  show Go p e below s room_1.cells room_1.slots (Q_rm0 Z p1 w_TEXT w_KEYWORD w_LONG w_INTEGER w_DOUBLE w_FLOAT h0 n0) s₁ (entryFrame m #[(.int p1)] maxLocals)
  refine Go.eq (ef_rm0 m p1) ?_
  show Go _ _ _ _ _ _ _  s₁ (mkF m 0 #[.val (.int p1), .unset, .unset, .unset] [])
  refine Go.st (fun t k => XS.iloadN X0.here hx rfl (hb hby at_0) rfl  k) ?_
  show Go _ _ _ _ _ _ _  s₁ (mkF m 1 #[.val (.int p1), .unset, .unset, .unset] [(.int p1)])
  refine Go.st (X0.ldcInt hx hown (mvT hZ (hw _ (List.mem_of_getElem? (i := 0) rfl))) (g := (mkF m 1 #[.val (.int p1), .unset, .unset, .unset] [(.int p1)])) rfl (hb hby at_1)) ?_
  show Go _ _ _ _ _ _ _  s₁ (mkF m 3 #[.val (.int p1), .unset, .unset, .unset] [(.int (2147483647 : Int32)), (.int p1)])
  refine Go.st (fun t k => XS.iand X0.here hx rfl (hb hby at_3) rfl k) ?_
  show Go _ _ _ _ _ _ _  s₁ (mkF m 4 #[.val (.int p1), .unset, .unset, .unset] [(.int (p1 &&& (2147483647 : Int32)))])
  refine Go.st (fun t k => XS.bipush X0.here hx rfl (hb hby at_4) k) ?_
  show Go _ _ _ _ _ _ _  s₁ (mkF m 6 #[.val (.int p1), .unset, .unset, .unset] [(.int (6 : Int32)), (.int (p1 &&& (2147483647 : Int32)))])
  refine Go.st (fun t k => Jvm.RoadKit.iremM X0 hx rfl (hb hby at_6) rfl (by decide) k) ?_
  show Go _ _ _ _ _ _ _  s₁ (mkF m 7 #[.val (.int p1), .unset, .unset, .unset] [(.int ((p1 &&& (2147483647 : Int32)) % (6 : Int32)))])
  refine Go.st (fun t k => XS.istoreN X0.here hx rfl (hb hby at_7) rfl (l' := #[.val (.int p1), .val (.int ((p1 &&& (2147483647 : Int32)) % (6 : Int32))), .unset, .unset]) rfl k) ?_
  show Go _ _ _ _ _ _ _  s₁ (mkF m 8 #[.val (.int p1), .val (.int ((p1 &&& (2147483647 : Int32)) % (6 : Int32))), .unset, .unset] [])
  refine Go.st (fun t k => XS.iloadN X0.here hx rfl (hb hby at_8) rfl  k) ?_
  show Go _ _ _ _ _ _ _  s₁ (mkF m 9 #[.val (.int p1), .val (.int ((p1 &&& (2147483647 : Int32)) % (6 : Int32))), .unset, .unset] [(.int ((p1 &&& (2147483647 : Int32)) % (6 : Int32)))])
  by_cases c9_1 : ((p1 &&& (2147483647 : Int32)) % (6 : Int32)) = (0 : Int32)
  · refine Go.st (fun t k => XS.ifNo X0.here hx rfl (hb hby at_9) rfl ((if0 _ _).trans (teq c9_1).2) k) ?_
    show Go _ _ _ _ _ _ _  s₁ (mkF m 12 #[.val (.int p1), .val (.int ((p1 &&& (2147483647 : Int32)) % (6 : Int32))), .unset, .unset] [])
    obtain ⟨T2, X2, e2, st2⟩ := getS2 X0 hx hZ hown (host := "") (Or.inl (hw _ (List.mem_of_getElem? (i := 1) rfl))) Via.refl e0 (S_TEXT.ext O.2) (g := (mkF m 12 #[.val (.int p1), .val (.int ((p1 &&& (2147483647 : Int32)) % (6 : Int32))), .unset, .unset] [])) rfl (hb hby at_12)
    refine Go.st st2 ?_
    show Go _ _ _ _ _ _ _  T2 (mkF m 15 #[.val (.int p1), .val (.int ((p1 &&& (2147483647 : Int32)) % (6 : Int32))), .unset, .unset] [(.ref w_TEXT)])
    refine Go.st (fun t k => XS.astoreN X2.here hx rfl (hb hby at_15) rfl rfl (l' := #[.val (.int p1), .val (.int ((p1 &&& (2147483647 : Int32)) % (6 : Int32))), .val (.ref w_TEXT), .unset]) rfl k) ?_
    show Go _ _ _ _ _ _ _  T2 (mkF m 16 #[.val (.int p1), .val (.int ((p1 &&& (2147483647 : Int32)) % (6 : Int32))), .val (.ref w_TEXT), .unset] [])
    refine Go.st (fun t k => XS.iconst X2.here hx rfl (hb hby at_16) k) ?_
    show Go _ _ _ _ _ _ _  T2 (mkF m 17 #[.val (.int p1), .val (.int ((p1 &&& (2147483647 : Int32)) % (6 : Int32))), .val (.ref w_TEXT), .unset] [(.int (0 : Int32))])
    refine Go.st (fun t k => XS.istoreN X2.here hx rfl (hb hby at_17) rfl (l' := #[.val (.int p1), .val (.int ((p1 &&& (2147483647 : Int32)) % (6 : Int32))), .val (.ref w_TEXT), .val (.int (0 : Int32))]) rfl k) ?_
    show Go _ _ _ _ _ _ _  T2 (mkF m 18 #[.val (.int p1), .val (.int ((p1 &&& (2147483647 : Int32)) % (6 : Int32))), .val (.ref w_TEXT), .val (.int (0 : Int32))] [])
    refine Go.st (fun t k => XS.goto X2.here hx rfl (pc0 := 18) (pc' := 83) rfl (hb hby at_18) (by decide) (by decide) k) ?_
    show Go _ _ _ _ _ _ _  T2 (mkF m 83 #[.val (.int p1), .val (.int ((p1 &&& (2147483647 : Int32)) % (6 : Int32))), .val (.ref w_TEXT), .val (.int (0 : Int32))] [])
    refine Go.st (fun t k => XS.aloadN X2.here hx rfl (hb hby at_83) rfl rfl  k) ?_
    show Go _ _ _ _ _ _ _  T2 (mkF m 84 #[.val (.int p1), .val (.int ((p1 &&& (2147483647 : Int32)) % (6 : Int32))), .val (.ref w_TEXT), .val (.int (0 : Int32))] [(.ref w_TEXT)])
    obtain ⟨cq3, kq3, q3a, q3b, q3c⟩ := isOf hZ e2 (E_TEXT.ext O.2)
    obtain ⟨_, _, ⟨T3, L3, k3, n3⟩, -, X3, ⟨Lc3, hQ3, l3, y3, z3⟩, st3⟩ := X2.virtualBack hx (y := (⟨"com/example/sancho/sancho/model/FieldType", "isNumeric", "()Z"⟩ : MethodName)) (z := (⟨"com/example/sancho/sancho/model/FieldType", "isNumeric", "()Z"⟩ : MethodName)) hown (mvT hZ (hw _ (List.mem_of_getElem? (i := 4) rfl))) (mvT hZ (hw _ (List.mem_of_getElem? (i := 5) rfl))) (notFace_of_selects (args := #[]) (mvT hZ (hw _ (List.mem_of_getElem? (i := 7) rfl)))) (mvT hZ (hw _ (List.mem_of_getElem? (i := 7) rfl))) (mvT hZ (hw _ (List.mem_of_getElem? (i := 6) rfl))) (by decide) (backOf (W := 0) (rm1 l Z a0 hw [] w_TEXT w_TEXT w_KEYWORD h0 n0 O S_TEXT S_KEYWORD) hZ (hw _ (List.mem_of_getElem? (i := 8) rfl)) (hw _ (List.mem_of_getElem? (i := 2) rfl)) (by decide) (by decide)) q3a q3c (g := (mkF m 84 #[.val (.int p1), .val (.int ((p1 &&& (2147483647 : Int32)) % (6 : Int32))), .val (.ref w_TEXT), .val (.int (0 : Int32))] [(.ref w_TEXT)])) rfl (by rw [hml]; rfl) (Steps.refl _) (argsL := []) (rest := []) (lenOf pd___Z rfl) rfl (by show 2 * 0 + _ ≤ _; exact Nat.le_of_eq rfl) (hb hby at_84) (fun _ _ => ⟨rfl, e2, (by decide : 0 + 0 ≤ _), (by decide : 0 + 0 ≤ _)⟩)
    dsimp only [Pt.U, Pt.locs, Pt.cells, Pt.slots] at X3 l3 y3 z3 st3 hQ3
    subst l3 y3 z3
    obtain ⟨rfl, N3q, e3q⟩ := hQ3
    have N3 := Fr.app N0 N3q
    refine Go.tr st3 ?_
    rw [show numF w_TEXT w_TEXT w_KEYWORD = (0 : Int32) from by simp [numF, n_KEYWORD_TEXT, n_LONG_TEXT, n_LONG_KEYWORD, n_INTEGER_TEXT, n_INTEGER_KEYWORD, n_DOUBLE_TEXT, n_DOUBLE_KEYWORD, n_FLOAT_TEXT, n_FLOAT_KEYWORD]]
    show Go _ _ _ _ _ _ _  T3 (mkF m 87 #[.val (.int p1), .val (.int ((p1 &&& (2147483647 : Int32)) % (6 : Int32))), .val (.ref w_TEXT), .val (.int (0 : Int32))] [(.int (0 : Int32))])
    refine Go.st (fun t k => XS.iloadN X3.here hx rfl (hb hby at_87) rfl  k) ?_
    show Go _ _ _ _ _ _ _  T3 (mkF m 88 #[.val (.int p1), .val (.int ((p1 &&& (2147483647 : Int32)) % (6 : Int32))), .val (.ref w_TEXT), .val (.int (0 : Int32))] [(.int (0 : Int32)), (.int (0 : Int32))])
    refine Go.st (fun t k => XS.icmpNo X3.here hx rfl (hb hby at_88) rfl (teq (rfl : (0 : Int32) = (0 : Int32))).2 k) ?_
    show Go _ _ _ _ _ _ _  T3 (mkF m 91 #[.val (.int p1), .val (.int ((p1 &&& (2147483647 : Int32)) % (6 : Int32))), .val (.ref w_TEXT), .val (.int (0 : Int32))] [])
    refine Go.st (fun t k => XS.iconst X3.here hx rfl (hb hby at_91) k) ?_
    show Go _ _ _ _ _ _ _  T3 (mkF m 92 #[.val (.int p1), .val (.int ((p1 &&& (2147483647 : Int32)) % (6 : Int32))), .val (.ref w_TEXT), .val (.int (0 : Int32))] [(.int (1 : Int32))])
    refine Go.st (fun t k => XS.goto X3.here hx rfl (pc0 := 92) (pc' := 96) rfl (hb hby at_92) (by decide) (by decide) k) ?_
    show Go _ _ _ _ _ _ _  T3 (mkF m 96 #[.val (.int p1), .val (.int ((p1 &&& (2147483647 : Int32)) % (6 : Int32))), .val (.ref w_TEXT), .val (.int (0 : Int32))] [(.int (1 : Int32))])
    refine Go.retN X3 hlk hx (t := .boolean) (z' := (1 : Int32)) Bd.returns (by simp) (hb hby at_96) (by decide) (by decide) rfl ?_
    show Q_rm0 Z p1 w_TEXT w_KEYWORD w_LONG w_INTEGER w_DOUBLE w_FLOAT h0 n0 _ T3.heap _
    rw [e3q]
    exact ⟨rfl, N3⟩
  · refine Go.st (fun t k => XS.ifYes X0.here hx rfl (pc0 := 9) (pc' := 21) rfl (hb hby at_9) rfl ((if0 _ _).trans (feq c9_1).2) (by decide) (by decide) k) ?_
    show Go _ _ _ _ _ _ _  s₁ (mkF m 21 #[.val (.int p1), .val (.int ((p1 &&& (2147483647 : Int32)) % (6 : Int32))), .unset, .unset] [])
    refine Go.st (fun t k => XS.iloadN X0.here hx rfl (hb hby at_21) rfl  k) ?_
    show Go _ _ _ _ _ _ _  s₁ (mkF m 22 #[.val (.int p1), .val (.int ((p1 &&& (2147483647 : Int32)) % (6 : Int32))), .unset, .unset] [(.int ((p1 &&& (2147483647 : Int32)) % (6 : Int32)))])
    refine Go.st (fun t k => XS.iconst X0.here hx rfl (hb hby at_22) k) ?_
    show Go _ _ _ _ _ _ _  s₁ (mkF m 23 #[.val (.int p1), .val (.int ((p1 &&& (2147483647 : Int32)) % (6 : Int32))), .unset, .unset] [(.int (1 : Int32)), (.int ((p1 &&& (2147483647 : Int32)) % (6 : Int32)))])
    by_cases c23_4 : ((p1 &&& (2147483647 : Int32)) % (6 : Int32)) = (1 : Int32)
    · refine Go.st (fun t k => XS.icmpNo X0.here hx rfl (hb hby at_23) rfl (teq c23_4).2 k) ?_
      show Go _ _ _ _ _ _ _  s₁ (mkF m 26 #[.val (.int p1), .val (.int ((p1 &&& (2147483647 : Int32)) % (6 : Int32))), .unset, .unset] [])
      obtain ⟨T5, X5, e5, st5⟩ := getS2 X0 hx hZ hown (host := "") (Or.inl (hw _ (List.mem_of_getElem? (i := 16) rfl))) Via.refl e0 (S_KEYWORD.ext O.2) (g := (mkF m 26 #[.val (.int p1), .val (.int ((p1 &&& (2147483647 : Int32)) % (6 : Int32))), .unset, .unset] [])) rfl (hb hby at_26)
      refine Go.st st5 ?_
      show Go _ _ _ _ _ _ _  T5 (mkF m 29 #[.val (.int p1), .val (.int ((p1 &&& (2147483647 : Int32)) % (6 : Int32))), .unset, .unset] [(.ref w_KEYWORD)])
      refine Go.st (fun t k => XS.astoreN X5.here hx rfl (hb hby at_29) rfl rfl (l' := #[.val (.int p1), .val (.int ((p1 &&& (2147483647 : Int32)) % (6 : Int32))), .val (.ref w_KEYWORD), .unset]) rfl k) ?_
      show Go _ _ _ _ _ _ _  T5 (mkF m 30 #[.val (.int p1), .val (.int ((p1 &&& (2147483647 : Int32)) % (6 : Int32))), .val (.ref w_KEYWORD), .unset] [])
      refine Go.st (fun t k => XS.iconst X5.here hx rfl (hb hby at_30) k) ?_
      show Go _ _ _ _ _ _ _  T5 (mkF m 31 #[.val (.int p1), .val (.int ((p1 &&& (2147483647 : Int32)) % (6 : Int32))), .val (.ref w_KEYWORD), .unset] [(.int (0 : Int32))])
      refine Go.st (fun t k => XS.istoreN X5.here hx rfl (hb hby at_31) rfl (l' := #[.val (.int p1), .val (.int ((p1 &&& (2147483647 : Int32)) % (6 : Int32))), .val (.ref w_KEYWORD), .val (.int (0 : Int32))]) rfl k) ?_
      show Go _ _ _ _ _ _ _  T5 (mkF m 32 #[.val (.int p1), .val (.int ((p1 &&& (2147483647 : Int32)) % (6 : Int32))), .val (.ref w_KEYWORD), .val (.int (0 : Int32))] [])
      refine Go.st (fun t k => XS.goto X5.here hx rfl (pc0 := 32) (pc' := 83) rfl (hb hby at_32) (by decide) (by decide) k) ?_
      show Go _ _ _ _ _ _ _  T5 (mkF m 83 #[.val (.int p1), .val (.int ((p1 &&& (2147483647 : Int32)) % (6 : Int32))), .val (.ref w_KEYWORD), .val (.int (0 : Int32))] [])
      refine Go.st (fun t k => XS.aloadN X5.here hx rfl (hb hby at_83) rfl rfl  k) ?_
      show Go _ _ _ _ _ _ _  T5 (mkF m 84 #[.val (.int p1), .val (.int ((p1 &&& (2147483647 : Int32)) % (6 : Int32))), .val (.ref w_KEYWORD), .val (.int (0 : Int32))] [(.ref w_KEYWORD)])
      obtain ⟨cq6, kq6, q6a, q6b, q6c⟩ := isOf hZ e5 (E_KEYWORD.ext O.2)
      obtain ⟨_, _, ⟨T6, L6, k6, n6⟩, -, X6, ⟨Lc6, hQ6, l6, y6, z6⟩, st6⟩ := X5.virtualBack hx (y := (⟨"com/example/sancho/sancho/model/FieldType", "isNumeric", "()Z"⟩ : MethodName)) (z := (⟨"com/example/sancho/sancho/model/FieldType", "isNumeric", "()Z"⟩ : MethodName)) hown (mvT hZ (hw _ (List.mem_of_getElem? (i := 4) rfl))) (mvT hZ (hw _ (List.mem_of_getElem? (i := 5) rfl))) (notFace_of_selects (args := #[]) (mvT hZ (hw _ (List.mem_of_getElem? (i := 7) rfl)))) (mvT hZ (hw _ (List.mem_of_getElem? (i := 7) rfl))) (mvT hZ (hw _ (List.mem_of_getElem? (i := 6) rfl))) (by decide) (backOf (W := 0) (rm1 l Z a0 hw [] w_KEYWORD w_TEXT w_KEYWORD h0 n0 O S_TEXT S_KEYWORD) hZ (hw _ (List.mem_of_getElem? (i := 8) rfl)) (hw _ (List.mem_of_getElem? (i := 2) rfl)) (by decide) (by decide)) q6a q6c (g := (mkF m 84 #[.val (.int p1), .val (.int ((p1 &&& (2147483647 : Int32)) % (6 : Int32))), .val (.ref w_KEYWORD), .val (.int (0 : Int32))] [(.ref w_KEYWORD)])) rfl (by rw [hml]; rfl) (Steps.refl _) (argsL := []) (rest := []) (lenOf pd___Z rfl) rfl (by show 2 * 0 + _ ≤ _; exact Nat.le_of_eq rfl) (hb hby at_84) (fun _ _ => ⟨rfl, e5, (by decide : 0 + 0 ≤ _), (by decide : 0 + 0 ≤ _)⟩)
      dsimp only [Pt.U, Pt.locs, Pt.cells, Pt.slots] at X6 l6 y6 z6 st6 hQ6
      subst l6 y6 z6
      obtain ⟨rfl, N6q, e6q⟩ := hQ6
      have N6 := Fr.app N0 N6q
      refine Go.tr st6 ?_
      rw [show numF w_KEYWORD w_TEXT w_KEYWORD = (0 : Int32) from by simp [numF, n_KEYWORD_TEXT, n_LONG_TEXT, n_LONG_KEYWORD, n_INTEGER_TEXT, n_INTEGER_KEYWORD, n_DOUBLE_TEXT, n_DOUBLE_KEYWORD, n_FLOAT_TEXT, n_FLOAT_KEYWORD]]
      show Go _ _ _ _ _ _ _  T6 (mkF m 87 #[.val (.int p1), .val (.int ((p1 &&& (2147483647 : Int32)) % (6 : Int32))), .val (.ref w_KEYWORD), .val (.int (0 : Int32))] [(.int (0 : Int32))])
      refine Go.st (fun t k => XS.iloadN X6.here hx rfl (hb hby at_87) rfl  k) ?_
      show Go _ _ _ _ _ _ _  T6 (mkF m 88 #[.val (.int p1), .val (.int ((p1 &&& (2147483647 : Int32)) % (6 : Int32))), .val (.ref w_KEYWORD), .val (.int (0 : Int32))] [(.int (0 : Int32)), (.int (0 : Int32))])
      refine Go.st (fun t k => XS.icmpNo X6.here hx rfl (hb hby at_88) rfl (teq (rfl : (0 : Int32) = (0 : Int32))).2 k) ?_
      show Go _ _ _ _ _ _ _  T6 (mkF m 91 #[.val (.int p1), .val (.int ((p1 &&& (2147483647 : Int32)) % (6 : Int32))), .val (.ref w_KEYWORD), .val (.int (0 : Int32))] [])
      refine Go.st (fun t k => XS.iconst X6.here hx rfl (hb hby at_91) k) ?_
      show Go _ _ _ _ _ _ _  T6 (mkF m 92 #[.val (.int p1), .val (.int ((p1 &&& (2147483647 : Int32)) % (6 : Int32))), .val (.ref w_KEYWORD), .val (.int (0 : Int32))] [(.int (1 : Int32))])
      refine Go.st (fun t k => XS.goto X6.here hx rfl (pc0 := 92) (pc' := 96) rfl (hb hby at_92) (by decide) (by decide) k) ?_
      show Go _ _ _ _ _ _ _  T6 (mkF m 96 #[.val (.int p1), .val (.int ((p1 &&& (2147483647 : Int32)) % (6 : Int32))), .val (.ref w_KEYWORD), .val (.int (0 : Int32))] [(.int (1 : Int32))])
      refine Go.retN X6 hlk hx (t := .boolean) (z' := (1 : Int32)) Bd.returns (by simp) (hb hby at_96) (by decide) (by decide) rfl ?_
      show Q_rm0 Z p1 w_TEXT w_KEYWORD w_LONG w_INTEGER w_DOUBLE w_FLOAT h0 n0 _ T6.heap _
      rw [e6q]
      exact ⟨rfl, N6⟩
    · refine Go.st (fun t k => XS.icmpYes X0.here hx rfl (pc0 := 23) (pc' := 35) rfl (hb hby at_23) rfl (feq c23_4).2 (by decide) (by decide) k) ?_
      show Go _ _ _ _ _ _ _  s₁ (mkF m 35 #[.val (.int p1), .val (.int ((p1 &&& (2147483647 : Int32)) % (6 : Int32))), .unset, .unset] [])
      refine Go.st (fun t k => XS.iloadN X0.here hx rfl (hb hby at_35) rfl  k) ?_
      show Go _ _ _ _ _ _ _  s₁ (mkF m 36 #[.val (.int p1), .val (.int ((p1 &&& (2147483647 : Int32)) % (6 : Int32))), .unset, .unset] [(.int ((p1 &&& (2147483647 : Int32)) % (6 : Int32)))])
      refine Go.st (fun t k => XS.iconst X0.here hx rfl (hb hby at_36) k) ?_
      show Go _ _ _ _ _ _ _  s₁ (mkF m 37 #[.val (.int p1), .val (.int ((p1 &&& (2147483647 : Int32)) % (6 : Int32))), .unset, .unset] [(.int (2 : Int32)), (.int ((p1 &&& (2147483647 : Int32)) % (6 : Int32)))])
      by_cases c37_7 : ((p1 &&& (2147483647 : Int32)) % (6 : Int32)) = (2 : Int32)
      · refine Go.st (fun t k => XS.icmpNo X0.here hx rfl (hb hby at_37) rfl (teq c37_7).2 k) ?_
        show Go _ _ _ _ _ _ _  s₁ (mkF m 40 #[.val (.int p1), .val (.int ((p1 &&& (2147483647 : Int32)) % (6 : Int32))), .unset, .unset] [])
        obtain ⟨T8, X8, e8, st8⟩ := getS2 X0 hx hZ hown (host := "") (Or.inl (hw _ (List.mem_of_getElem? (i := 14) rfl))) Via.refl e0 (S_LONG.ext O.2) (g := (mkF m 40 #[.val (.int p1), .val (.int ((p1 &&& (2147483647 : Int32)) % (6 : Int32))), .unset, .unset] [])) rfl (hb hby at_40)
        refine Go.st st8 ?_
        show Go _ _ _ _ _ _ _  T8 (mkF m 43 #[.val (.int p1), .val (.int ((p1 &&& (2147483647 : Int32)) % (6 : Int32))), .unset, .unset] [(.ref w_LONG)])
        refine Go.st (fun t k => XS.astoreN X8.here hx rfl (hb hby at_43) rfl rfl (l' := #[.val (.int p1), .val (.int ((p1 &&& (2147483647 : Int32)) % (6 : Int32))), .val (.ref w_LONG), .unset]) rfl k) ?_
        show Go _ _ _ _ _ _ _  T8 (mkF m 44 #[.val (.int p1), .val (.int ((p1 &&& (2147483647 : Int32)) % (6 : Int32))), .val (.ref w_LONG), .unset] [])
        refine Go.st (fun t k => XS.iconst X8.here hx rfl (hb hby at_44) k) ?_
        show Go _ _ _ _ _ _ _  T8 (mkF m 45 #[.val (.int p1), .val (.int ((p1 &&& (2147483647 : Int32)) % (6 : Int32))), .val (.ref w_LONG), .unset] [(.int (1 : Int32))])
        refine Go.st (fun t k => XS.istoreN X8.here hx rfl (hb hby at_45) rfl (l' := #[.val (.int p1), .val (.int ((p1 &&& (2147483647 : Int32)) % (6 : Int32))), .val (.ref w_LONG), .val (.int (1 : Int32))]) rfl k) ?_
        show Go _ _ _ _ _ _ _  T8 (mkF m 46 #[.val (.int p1), .val (.int ((p1 &&& (2147483647 : Int32)) % (6 : Int32))), .val (.ref w_LONG), .val (.int (1 : Int32))] [])
        refine Go.st (fun t k => XS.goto X8.here hx rfl (pc0 := 46) (pc' := 83) rfl (hb hby at_46) (by decide) (by decide) k) ?_
        show Go _ _ _ _ _ _ _  T8 (mkF m 83 #[.val (.int p1), .val (.int ((p1 &&& (2147483647 : Int32)) % (6 : Int32))), .val (.ref w_LONG), .val (.int (1 : Int32))] [])
        refine Go.st (fun t k => XS.aloadN X8.here hx rfl (hb hby at_83) rfl rfl  k) ?_
        show Go _ _ _ _ _ _ _  T8 (mkF m 84 #[.val (.int p1), .val (.int ((p1 &&& (2147483647 : Int32)) % (6 : Int32))), .val (.ref w_LONG), .val (.int (1 : Int32))] [(.ref w_LONG)])
        obtain ⟨cq9, kq9, q9a, q9b, q9c⟩ := isOf hZ e8 (E_LONG.ext O.2)
        obtain ⟨_, _, ⟨T9, L9, k9, n9⟩, -, X9, ⟨Lc9, hQ9, l9, y9, z9⟩, st9⟩ := X8.virtualBack hx (y := (⟨"com/example/sancho/sancho/model/FieldType", "isNumeric", "()Z"⟩ : MethodName)) (z := (⟨"com/example/sancho/sancho/model/FieldType", "isNumeric", "()Z"⟩ : MethodName)) hown (mvT hZ (hw _ (List.mem_of_getElem? (i := 4) rfl))) (mvT hZ (hw _ (List.mem_of_getElem? (i := 5) rfl))) (notFace_of_selects (args := #[]) (mvT hZ (hw _ (List.mem_of_getElem? (i := 7) rfl)))) (mvT hZ (hw _ (List.mem_of_getElem? (i := 7) rfl))) (mvT hZ (hw _ (List.mem_of_getElem? (i := 6) rfl))) (by decide) (backOf (W := 0) (rm1 l Z a0 hw [] w_LONG w_TEXT w_KEYWORD h0 n0 O S_TEXT S_KEYWORD) hZ (hw _ (List.mem_of_getElem? (i := 8) rfl)) (hw _ (List.mem_of_getElem? (i := 2) rfl)) (by decide) (by decide)) q9a q9c (g := (mkF m 84 #[.val (.int p1), .val (.int ((p1 &&& (2147483647 : Int32)) % (6 : Int32))), .val (.ref w_LONG), .val (.int (1 : Int32))] [(.ref w_LONG)])) rfl (by rw [hml]; rfl) (Steps.refl _) (argsL := []) (rest := []) (lenOf pd___Z rfl) rfl (by show 2 * 0 + _ ≤ _; exact Nat.le_of_eq rfl) (hb hby at_84) (fun _ _ => ⟨rfl, e8, (by decide : 0 + 0 ≤ _), (by decide : 0 + 0 ≤ _)⟩)
        dsimp only [Pt.U, Pt.locs, Pt.cells, Pt.slots] at X9 l9 y9 z9 st9 hQ9
        subst l9 y9 z9
        obtain ⟨rfl, N9q, e9q⟩ := hQ9
        have N9 := Fr.app N0 N9q
        refine Go.tr st9 ?_
        rw [show numF w_LONG w_TEXT w_KEYWORD = (1 : Int32) from by simp [numF, n_KEYWORD_TEXT, n_LONG_TEXT, n_LONG_KEYWORD, n_INTEGER_TEXT, n_INTEGER_KEYWORD, n_DOUBLE_TEXT, n_DOUBLE_KEYWORD, n_FLOAT_TEXT, n_FLOAT_KEYWORD]]
        show Go _ _ _ _ _ _ _  T9 (mkF m 87 #[.val (.int p1), .val (.int ((p1 &&& (2147483647 : Int32)) % (6 : Int32))), .val (.ref w_LONG), .val (.int (1 : Int32))] [(.int (1 : Int32))])
        refine Go.st (fun t k => XS.iloadN X9.here hx rfl (hb hby at_87) rfl  k) ?_
        show Go _ _ _ _ _ _ _  T9 (mkF m 88 #[.val (.int p1), .val (.int ((p1 &&& (2147483647 : Int32)) % (6 : Int32))), .val (.ref w_LONG), .val (.int (1 : Int32))] [(.int (1 : Int32)), (.int (1 : Int32))])
        refine Go.st (fun t k => XS.icmpNo X9.here hx rfl (hb hby at_88) rfl (teq (rfl : (1 : Int32) = (1 : Int32))).2 k) ?_
        show Go _ _ _ _ _ _ _  T9 (mkF m 91 #[.val (.int p1), .val (.int ((p1 &&& (2147483647 : Int32)) % (6 : Int32))), .val (.ref w_LONG), .val (.int (1 : Int32))] [])
        refine Go.st (fun t k => XS.iconst X9.here hx rfl (hb hby at_91) k) ?_
        show Go _ _ _ _ _ _ _  T9 (mkF m 92 #[.val (.int p1), .val (.int ((p1 &&& (2147483647 : Int32)) % (6 : Int32))), .val (.ref w_LONG), .val (.int (1 : Int32))] [(.int (1 : Int32))])
        refine Go.st (fun t k => XS.goto X9.here hx rfl (pc0 := 92) (pc' := 96) rfl (hb hby at_92) (by decide) (by decide) k) ?_
        show Go _ _ _ _ _ _ _  T9 (mkF m 96 #[.val (.int p1), .val (.int ((p1 &&& (2147483647 : Int32)) % (6 : Int32))), .val (.ref w_LONG), .val (.int (1 : Int32))] [(.int (1 : Int32))])
        refine Go.retN X9 hlk hx (t := .boolean) (z' := (1 : Int32)) Bd.returns (by simp) (hb hby at_96) (by decide) (by decide) rfl ?_
        show Q_rm0 Z p1 w_TEXT w_KEYWORD w_LONG w_INTEGER w_DOUBLE w_FLOAT h0 n0 _ T9.heap _
        rw [e9q]
        exact ⟨rfl, N9⟩
      · refine Go.st (fun t k => XS.icmpYes X0.here hx rfl (pc0 := 37) (pc' := 49) rfl (hb hby at_37) rfl (feq c37_7).2 (by decide) (by decide) k) ?_
        show Go _ _ _ _ _ _ _  s₁ (mkF m 49 #[.val (.int p1), .val (.int ((p1 &&& (2147483647 : Int32)) % (6 : Int32))), .unset, .unset] [])
        refine Go.st (fun t k => XS.iloadN X0.here hx rfl (hb hby at_49) rfl  k) ?_
        show Go _ _ _ _ _ _ _  s₁ (mkF m 50 #[.val (.int p1), .val (.int ((p1 &&& (2147483647 : Int32)) % (6 : Int32))), .unset, .unset] [(.int ((p1 &&& (2147483647 : Int32)) % (6 : Int32)))])
        refine Go.st (fun t k => XS.iconst X0.here hx rfl (hb hby at_50) k) ?_
        show Go _ _ _ _ _ _ _  s₁ (mkF m 51 #[.val (.int p1), .val (.int ((p1 &&& (2147483647 : Int32)) % (6 : Int32))), .unset, .unset] [(.int (3 : Int32)), (.int ((p1 &&& (2147483647 : Int32)) % (6 : Int32)))])
        by_cases c51_10 : ((p1 &&& (2147483647 : Int32)) % (6 : Int32)) = (3 : Int32)
        · refine Go.st (fun t k => XS.icmpNo X0.here hx rfl (hb hby at_51) rfl (teq c51_10).2 k) ?_
          show Go _ _ _ _ _ _ _  s₁ (mkF m 54 #[.val (.int p1), .val (.int ((p1 &&& (2147483647 : Int32)) % (6 : Int32))), .unset, .unset] [])
          obtain ⟨T11, X11, e11, st11⟩ := getS2 X0 hx hZ hown (host := "") (Or.inl (hw _ (List.mem_of_getElem? (i := 10) rfl))) Via.refl e0 (S_INTEGER.ext O.2) (g := (mkF m 54 #[.val (.int p1), .val (.int ((p1 &&& (2147483647 : Int32)) % (6 : Int32))), .unset, .unset] [])) rfl (hb hby at_54)
          refine Go.st st11 ?_
          show Go _ _ _ _ _ _ _  T11 (mkF m 57 #[.val (.int p1), .val (.int ((p1 &&& (2147483647 : Int32)) % (6 : Int32))), .unset, .unset] [(.ref w_INTEGER)])
          refine Go.st (fun t k => XS.astoreN X11.here hx rfl (hb hby at_57) rfl rfl (l' := #[.val (.int p1), .val (.int ((p1 &&& (2147483647 : Int32)) % (6 : Int32))), .val (.ref w_INTEGER), .unset]) rfl k) ?_
          show Go _ _ _ _ _ _ _  T11 (mkF m 58 #[.val (.int p1), .val (.int ((p1 &&& (2147483647 : Int32)) % (6 : Int32))), .val (.ref w_INTEGER), .unset] [])
          refine Go.st (fun t k => XS.iconst X11.here hx rfl (hb hby at_58) k) ?_
          show Go _ _ _ _ _ _ _  T11 (mkF m 59 #[.val (.int p1), .val (.int ((p1 &&& (2147483647 : Int32)) % (6 : Int32))), .val (.ref w_INTEGER), .unset] [(.int (1 : Int32))])
          refine Go.st (fun t k => XS.istoreN X11.here hx rfl (hb hby at_59) rfl (l' := #[.val (.int p1), .val (.int ((p1 &&& (2147483647 : Int32)) % (6 : Int32))), .val (.ref w_INTEGER), .val (.int (1 : Int32))]) rfl k) ?_
          show Go _ _ _ _ _ _ _  T11 (mkF m 60 #[.val (.int p1), .val (.int ((p1 &&& (2147483647 : Int32)) % (6 : Int32))), .val (.ref w_INTEGER), .val (.int (1 : Int32))] [])
          refine Go.st (fun t k => XS.goto X11.here hx rfl (pc0 := 60) (pc' := 83) rfl (hb hby at_60) (by decide) (by decide) k) ?_
          show Go _ _ _ _ _ _ _  T11 (mkF m 83 #[.val (.int p1), .val (.int ((p1 &&& (2147483647 : Int32)) % (6 : Int32))), .val (.ref w_INTEGER), .val (.int (1 : Int32))] [])
          refine Go.st (fun t k => XS.aloadN X11.here hx rfl (hb hby at_83) rfl rfl  k) ?_
          show Go _ _ _ _ _ _ _  T11 (mkF m 84 #[.val (.int p1), .val (.int ((p1 &&& (2147483647 : Int32)) % (6 : Int32))), .val (.ref w_INTEGER), .val (.int (1 : Int32))] [(.ref w_INTEGER)])
          obtain ⟨cq12, kq12, q12a, q12b, q12c⟩ := isOf hZ e11 (E_INTEGER.ext O.2)
          obtain ⟨_, _, ⟨T12, L12, k12, n12⟩, -, X12, ⟨Lc12, hQ12, l12, y12, z12⟩, st12⟩ := X11.virtualBack hx (y := (⟨"com/example/sancho/sancho/model/FieldType", "isNumeric", "()Z"⟩ : MethodName)) (z := (⟨"com/example/sancho/sancho/model/FieldType", "isNumeric", "()Z"⟩ : MethodName)) hown (mvT hZ (hw _ (List.mem_of_getElem? (i := 4) rfl))) (mvT hZ (hw _ (List.mem_of_getElem? (i := 5) rfl))) (notFace_of_selects (args := #[]) (mvT hZ (hw _ (List.mem_of_getElem? (i := 7) rfl)))) (mvT hZ (hw _ (List.mem_of_getElem? (i := 7) rfl))) (mvT hZ (hw _ (List.mem_of_getElem? (i := 6) rfl))) (by decide) (backOf (W := 0) (rm1 l Z a0 hw [] w_INTEGER w_TEXT w_KEYWORD h0 n0 O S_TEXT S_KEYWORD) hZ (hw _ (List.mem_of_getElem? (i := 8) rfl)) (hw _ (List.mem_of_getElem? (i := 2) rfl)) (by decide) (by decide)) q12a q12c (g := (mkF m 84 #[.val (.int p1), .val (.int ((p1 &&& (2147483647 : Int32)) % (6 : Int32))), .val (.ref w_INTEGER), .val (.int (1 : Int32))] [(.ref w_INTEGER)])) rfl (by rw [hml]; rfl) (Steps.refl _) (argsL := []) (rest := []) (lenOf pd___Z rfl) rfl (by show 2 * 0 + _ ≤ _; exact Nat.le_of_eq rfl) (hb hby at_84) (fun _ _ => ⟨rfl, e11, (by decide : 0 + 0 ≤ _), (by decide : 0 + 0 ≤ _)⟩)
          dsimp only [Pt.U, Pt.locs, Pt.cells, Pt.slots] at X12 l12 y12 z12 st12 hQ12
          subst l12 y12 z12
          obtain ⟨rfl, N12q, e12q⟩ := hQ12
          have N12 := Fr.app N0 N12q
          refine Go.tr st12 ?_
          rw [show numF w_INTEGER w_TEXT w_KEYWORD = (1 : Int32) from by simp [numF, n_KEYWORD_TEXT, n_LONG_TEXT, n_LONG_KEYWORD, n_INTEGER_TEXT, n_INTEGER_KEYWORD, n_DOUBLE_TEXT, n_DOUBLE_KEYWORD, n_FLOAT_TEXT, n_FLOAT_KEYWORD]]
          show Go _ _ _ _ _ _ _  T12 (mkF m 87 #[.val (.int p1), .val (.int ((p1 &&& (2147483647 : Int32)) % (6 : Int32))), .val (.ref w_INTEGER), .val (.int (1 : Int32))] [(.int (1 : Int32))])
          refine Go.st (fun t k => XS.iloadN X12.here hx rfl (hb hby at_87) rfl  k) ?_
          show Go _ _ _ _ _ _ _  T12 (mkF m 88 #[.val (.int p1), .val (.int ((p1 &&& (2147483647 : Int32)) % (6 : Int32))), .val (.ref w_INTEGER), .val (.int (1 : Int32))] [(.int (1 : Int32)), (.int (1 : Int32))])
          refine Go.st (fun t k => XS.icmpNo X12.here hx rfl (hb hby at_88) rfl (teq (rfl : (1 : Int32) = (1 : Int32))).2 k) ?_
          show Go _ _ _ _ _ _ _  T12 (mkF m 91 #[.val (.int p1), .val (.int ((p1 &&& (2147483647 : Int32)) % (6 : Int32))), .val (.ref w_INTEGER), .val (.int (1 : Int32))] [])
          refine Go.st (fun t k => XS.iconst X12.here hx rfl (hb hby at_91) k) ?_
          show Go _ _ _ _ _ _ _  T12 (mkF m 92 #[.val (.int p1), .val (.int ((p1 &&& (2147483647 : Int32)) % (6 : Int32))), .val (.ref w_INTEGER), .val (.int (1 : Int32))] [(.int (1 : Int32))])
          refine Go.st (fun t k => XS.goto X12.here hx rfl (pc0 := 92) (pc' := 96) rfl (hb hby at_92) (by decide) (by decide) k) ?_
          show Go _ _ _ _ _ _ _  T12 (mkF m 96 #[.val (.int p1), .val (.int ((p1 &&& (2147483647 : Int32)) % (6 : Int32))), .val (.ref w_INTEGER), .val (.int (1 : Int32))] [(.int (1 : Int32))])
          refine Go.retN X12 hlk hx (t := .boolean) (z' := (1 : Int32)) Bd.returns (by simp) (hb hby at_96) (by decide) (by decide) rfl ?_
          show Q_rm0 Z p1 w_TEXT w_KEYWORD w_LONG w_INTEGER w_DOUBLE w_FLOAT h0 n0 _ T12.heap _
          rw [e12q]
          exact ⟨rfl, N12⟩
        · refine Go.st (fun t k => XS.icmpYes X0.here hx rfl (pc0 := 51) (pc' := 63) rfl (hb hby at_51) rfl (feq c51_10).2 (by decide) (by decide) k) ?_
          show Go _ _ _ _ _ _ _  s₁ (mkF m 63 #[.val (.int p1), .val (.int ((p1 &&& (2147483647 : Int32)) % (6 : Int32))), .unset, .unset] [])
          refine Go.st (fun t k => XS.iloadN X0.here hx rfl (hb hby at_63) rfl  k) ?_
          show Go _ _ _ _ _ _ _  s₁ (mkF m 64 #[.val (.int p1), .val (.int ((p1 &&& (2147483647 : Int32)) % (6 : Int32))), .unset, .unset] [(.int ((p1 &&& (2147483647 : Int32)) % (6 : Int32)))])
          refine Go.st (fun t k => XS.iconst X0.here hx rfl (hb hby at_64) k) ?_
          show Go _ _ _ _ _ _ _  s₁ (mkF m 65 #[.val (.int p1), .val (.int ((p1 &&& (2147483647 : Int32)) % (6 : Int32))), .unset, .unset] [(.int (4 : Int32)), (.int ((p1 &&& (2147483647 : Int32)) % (6 : Int32)))])
          by_cases c65_13 : ((p1 &&& (2147483647 : Int32)) % (6 : Int32)) = (4 : Int32)
          · refine Go.st (fun t k => XS.icmpNo X0.here hx rfl (hb hby at_65) rfl (teq c65_13).2 k) ?_
            show Go _ _ _ _ _ _ _  s₁ (mkF m 68 #[.val (.int p1), .val (.int ((p1 &&& (2147483647 : Int32)) % (6 : Int32))), .unset, .unset] [])
            obtain ⟨T14, X14, e14, st14⟩ := getS2 X0 hx hZ hown (host := "") (Or.inl (hw _ (List.mem_of_getElem? (i := 19) rfl))) Via.refl e0 (S_DOUBLE.ext O.2) (g := (mkF m 68 #[.val (.int p1), .val (.int ((p1 &&& (2147483647 : Int32)) % (6 : Int32))), .unset, .unset] [])) rfl (hb hby at_68)
            refine Go.st st14 ?_
            show Go _ _ _ _ _ _ _  T14 (mkF m 71 #[.val (.int p1), .val (.int ((p1 &&& (2147483647 : Int32)) % (6 : Int32))), .unset, .unset] [(.ref w_DOUBLE)])
            refine Go.st (fun t k => XS.astoreN X14.here hx rfl (hb hby at_71) rfl rfl (l' := #[.val (.int p1), .val (.int ((p1 &&& (2147483647 : Int32)) % (6 : Int32))), .val (.ref w_DOUBLE), .unset]) rfl k) ?_
            show Go _ _ _ _ _ _ _  T14 (mkF m 72 #[.val (.int p1), .val (.int ((p1 &&& (2147483647 : Int32)) % (6 : Int32))), .val (.ref w_DOUBLE), .unset] [])
            refine Go.st (fun t k => XS.iconst X14.here hx rfl (hb hby at_72) k) ?_
            show Go _ _ _ _ _ _ _  T14 (mkF m 73 #[.val (.int p1), .val (.int ((p1 &&& (2147483647 : Int32)) % (6 : Int32))), .val (.ref w_DOUBLE), .unset] [(.int (1 : Int32))])
            refine Go.st (fun t k => XS.istoreN X14.here hx rfl (hb hby at_73) rfl (l' := #[.val (.int p1), .val (.int ((p1 &&& (2147483647 : Int32)) % (6 : Int32))), .val (.ref w_DOUBLE), .val (.int (1 : Int32))]) rfl k) ?_
            show Go _ _ _ _ _ _ _  T14 (mkF m 74 #[.val (.int p1), .val (.int ((p1 &&& (2147483647 : Int32)) % (6 : Int32))), .val (.ref w_DOUBLE), .val (.int (1 : Int32))] [])
            refine Go.st (fun t k => XS.goto X14.here hx rfl (pc0 := 74) (pc' := 83) rfl (hb hby at_74) (by decide) (by decide) k) ?_
            show Go _ _ _ _ _ _ _  T14 (mkF m 83 #[.val (.int p1), .val (.int ((p1 &&& (2147483647 : Int32)) % (6 : Int32))), .val (.ref w_DOUBLE), .val (.int (1 : Int32))] [])
            refine Go.st (fun t k => XS.aloadN X14.here hx rfl (hb hby at_83) rfl rfl  k) ?_
            show Go _ _ _ _ _ _ _  T14 (mkF m 84 #[.val (.int p1), .val (.int ((p1 &&& (2147483647 : Int32)) % (6 : Int32))), .val (.ref w_DOUBLE), .val (.int (1 : Int32))] [(.ref w_DOUBLE)])
            obtain ⟨cq15, kq15, q15a, q15b, q15c⟩ := isOf hZ e14 (E_DOUBLE.ext O.2)
            obtain ⟨_, _, ⟨T15, L15, k15, n15⟩, -, X15, ⟨Lc15, hQ15, l15, y15, z15⟩, st15⟩ := X14.virtualBack hx (y := (⟨"com/example/sancho/sancho/model/FieldType", "isNumeric", "()Z"⟩ : MethodName)) (z := (⟨"com/example/sancho/sancho/model/FieldType", "isNumeric", "()Z"⟩ : MethodName)) hown (mvT hZ (hw _ (List.mem_of_getElem? (i := 4) rfl))) (mvT hZ (hw _ (List.mem_of_getElem? (i := 5) rfl))) (notFace_of_selects (args := #[]) (mvT hZ (hw _ (List.mem_of_getElem? (i := 7) rfl)))) (mvT hZ (hw _ (List.mem_of_getElem? (i := 7) rfl))) (mvT hZ (hw _ (List.mem_of_getElem? (i := 6) rfl))) (by decide) (backOf (W := 0) (rm1 l Z a0 hw [] w_DOUBLE w_TEXT w_KEYWORD h0 n0 O S_TEXT S_KEYWORD) hZ (hw _ (List.mem_of_getElem? (i := 8) rfl)) (hw _ (List.mem_of_getElem? (i := 2) rfl)) (by decide) (by decide)) q15a q15c (g := (mkF m 84 #[.val (.int p1), .val (.int ((p1 &&& (2147483647 : Int32)) % (6 : Int32))), .val (.ref w_DOUBLE), .val (.int (1 : Int32))] [(.ref w_DOUBLE)])) rfl (by rw [hml]; rfl) (Steps.refl _) (argsL := []) (rest := []) (lenOf pd___Z rfl) rfl (by show 2 * 0 + _ ≤ _; exact Nat.le_of_eq rfl) (hb hby at_84) (fun _ _ => ⟨rfl, e14, (by decide : 0 + 0 ≤ _), (by decide : 0 + 0 ≤ _)⟩)
            dsimp only [Pt.U, Pt.locs, Pt.cells, Pt.slots] at X15 l15 y15 z15 st15 hQ15
            subst l15 y15 z15
            obtain ⟨rfl, N15q, e15q⟩ := hQ15
            have N15 := Fr.app N0 N15q
            refine Go.tr st15 ?_
            rw [show numF w_DOUBLE w_TEXT w_KEYWORD = (1 : Int32) from by simp [numF, n_KEYWORD_TEXT, n_LONG_TEXT, n_LONG_KEYWORD, n_INTEGER_TEXT, n_INTEGER_KEYWORD, n_DOUBLE_TEXT, n_DOUBLE_KEYWORD, n_FLOAT_TEXT, n_FLOAT_KEYWORD]]
            show Go _ _ _ _ _ _ _  T15 (mkF m 87 #[.val (.int p1), .val (.int ((p1 &&& (2147483647 : Int32)) % (6 : Int32))), .val (.ref w_DOUBLE), .val (.int (1 : Int32))] [(.int (1 : Int32))])
            refine Go.st (fun t k => XS.iloadN X15.here hx rfl (hb hby at_87) rfl  k) ?_
            show Go _ _ _ _ _ _ _  T15 (mkF m 88 #[.val (.int p1), .val (.int ((p1 &&& (2147483647 : Int32)) % (6 : Int32))), .val (.ref w_DOUBLE), .val (.int (1 : Int32))] [(.int (1 : Int32)), (.int (1 : Int32))])
            refine Go.st (fun t k => XS.icmpNo X15.here hx rfl (hb hby at_88) rfl (teq (rfl : (1 : Int32) = (1 : Int32))).2 k) ?_
            show Go _ _ _ _ _ _ _  T15 (mkF m 91 #[.val (.int p1), .val (.int ((p1 &&& (2147483647 : Int32)) % (6 : Int32))), .val (.ref w_DOUBLE), .val (.int (1 : Int32))] [])
            refine Go.st (fun t k => XS.iconst X15.here hx rfl (hb hby at_91) k) ?_
            show Go _ _ _ _ _ _ _  T15 (mkF m 92 #[.val (.int p1), .val (.int ((p1 &&& (2147483647 : Int32)) % (6 : Int32))), .val (.ref w_DOUBLE), .val (.int (1 : Int32))] [(.int (1 : Int32))])
            refine Go.st (fun t k => XS.goto X15.here hx rfl (pc0 := 92) (pc' := 96) rfl (hb hby at_92) (by decide) (by decide) k) ?_
            show Go _ _ _ _ _ _ _  T15 (mkF m 96 #[.val (.int p1), .val (.int ((p1 &&& (2147483647 : Int32)) % (6 : Int32))), .val (.ref w_DOUBLE), .val (.int (1 : Int32))] [(.int (1 : Int32))])
            refine Go.retN X15 hlk hx (t := .boolean) (z' := (1 : Int32)) Bd.returns (by simp) (hb hby at_96) (by decide) (by decide) rfl ?_
            show Q_rm0 Z p1 w_TEXT w_KEYWORD w_LONG w_INTEGER w_DOUBLE w_FLOAT h0 n0 _ T15.heap _
            rw [e15q]
            exact ⟨rfl, N15⟩
          · refine Go.st (fun t k => XS.icmpYes X0.here hx rfl (pc0 := 65) (pc' := 77) rfl (hb hby at_65) rfl (feq c65_13).2 (by decide) (by decide) k) ?_
            show Go _ _ _ _ _ _ _  s₁ (mkF m 77 #[.val (.int p1), .val (.int ((p1 &&& (2147483647 : Int32)) % (6 : Int32))), .unset, .unset] [])
            obtain ⟨T16, X16, e16, st16⟩ := getS2 X0 hx hZ hown (host := "") (Or.inl (hw _ (List.mem_of_getElem? (i := 17) rfl))) Via.refl e0 (S_FLOAT.ext O.2) (g := (mkF m 77 #[.val (.int p1), .val (.int ((p1 &&& (2147483647 : Int32)) % (6 : Int32))), .unset, .unset] [])) rfl (hb hby at_77)
            refine Go.st st16 ?_
            show Go _ _ _ _ _ _ _  T16 (mkF m 80 #[.val (.int p1), .val (.int ((p1 &&& (2147483647 : Int32)) % (6 : Int32))), .unset, .unset] [(.ref w_FLOAT)])
            refine Go.st (fun t k => XS.astoreN X16.here hx rfl (hb hby at_80) rfl rfl (l' := #[.val (.int p1), .val (.int ((p1 &&& (2147483647 : Int32)) % (6 : Int32))), .val (.ref w_FLOAT), .unset]) rfl k) ?_
            show Go _ _ _ _ _ _ _  T16 (mkF m 81 #[.val (.int p1), .val (.int ((p1 &&& (2147483647 : Int32)) % (6 : Int32))), .val (.ref w_FLOAT), .unset] [])
            refine Go.st (fun t k => XS.iconst X16.here hx rfl (hb hby at_81) k) ?_
            show Go _ _ _ _ _ _ _  T16 (mkF m 82 #[.val (.int p1), .val (.int ((p1 &&& (2147483647 : Int32)) % (6 : Int32))), .val (.ref w_FLOAT), .unset] [(.int (1 : Int32))])
            refine Go.st (fun t k => XS.istoreN X16.here hx rfl (hb hby at_82) rfl (l' := #[.val (.int p1), .val (.int ((p1 &&& (2147483647 : Int32)) % (6 : Int32))), .val (.ref w_FLOAT), .val (.int (1 : Int32))]) rfl k) ?_
            show Go _ _ _ _ _ _ _  T16 (mkF m 83 #[.val (.int p1), .val (.int ((p1 &&& (2147483647 : Int32)) % (6 : Int32))), .val (.ref w_FLOAT), .val (.int (1 : Int32))] [])
            refine Go.st (fun t k => XS.aloadN X16.here hx rfl (hb hby at_83) rfl rfl  k) ?_
            show Go _ _ _ _ _ _ _  T16 (mkF m 84 #[.val (.int p1), .val (.int ((p1 &&& (2147483647 : Int32)) % (6 : Int32))), .val (.ref w_FLOAT), .val (.int (1 : Int32))] [(.ref w_FLOAT)])
            obtain ⟨cq17, kq17, q17a, q17b, q17c⟩ := isOf hZ e16 (E_FLOAT.ext O.2)
            obtain ⟨_, _, ⟨T17, L17, k17, n17⟩, -, X17, ⟨Lc17, hQ17, l17, y17, z17⟩, st17⟩ := X16.virtualBack hx (y := (⟨"com/example/sancho/sancho/model/FieldType", "isNumeric", "()Z"⟩ : MethodName)) (z := (⟨"com/example/sancho/sancho/model/FieldType", "isNumeric", "()Z"⟩ : MethodName)) hown (mvT hZ (hw _ (List.mem_of_getElem? (i := 4) rfl))) (mvT hZ (hw _ (List.mem_of_getElem? (i := 5) rfl))) (notFace_of_selects (args := #[]) (mvT hZ (hw _ (List.mem_of_getElem? (i := 7) rfl)))) (mvT hZ (hw _ (List.mem_of_getElem? (i := 7) rfl))) (mvT hZ (hw _ (List.mem_of_getElem? (i := 6) rfl))) (by decide) (backOf (W := 0) (rm1 l Z a0 hw [] w_FLOAT w_TEXT w_KEYWORD h0 n0 O S_TEXT S_KEYWORD) hZ (hw _ (List.mem_of_getElem? (i := 8) rfl)) (hw _ (List.mem_of_getElem? (i := 2) rfl)) (by decide) (by decide)) q17a q17c (g := (mkF m 84 #[.val (.int p1), .val (.int ((p1 &&& (2147483647 : Int32)) % (6 : Int32))), .val (.ref w_FLOAT), .val (.int (1 : Int32))] [(.ref w_FLOAT)])) rfl (by rw [hml]; rfl) (Steps.refl _) (argsL := []) (rest := []) (lenOf pd___Z rfl) rfl (by show 2 * 0 + _ ≤ _; exact Nat.le_of_eq rfl) (hb hby at_84) (fun _ _ => ⟨rfl, e16, (by decide : 0 + 0 ≤ _), (by decide : 0 + 0 ≤ _)⟩)
            dsimp only [Pt.U, Pt.locs, Pt.cells, Pt.slots] at X17 l17 y17 z17 st17 hQ17
            subst l17 y17 z17
            obtain ⟨rfl, N17q, e17q⟩ := hQ17
            have N17 := Fr.app N0 N17q
            refine Go.tr st17 ?_
            rw [show numF w_FLOAT w_TEXT w_KEYWORD = (1 : Int32) from by simp [numF, n_KEYWORD_TEXT, n_LONG_TEXT, n_LONG_KEYWORD, n_INTEGER_TEXT, n_INTEGER_KEYWORD, n_DOUBLE_TEXT, n_DOUBLE_KEYWORD, n_FLOAT_TEXT, n_FLOAT_KEYWORD]]
            show Go _ _ _ _ _ _ _  T17 (mkF m 87 #[.val (.int p1), .val (.int ((p1 &&& (2147483647 : Int32)) % (6 : Int32))), .val (.ref w_FLOAT), .val (.int (1 : Int32))] [(.int (1 : Int32))])
            refine Go.st (fun t k => XS.iloadN X17.here hx rfl (hb hby at_87) rfl  k) ?_
            show Go _ _ _ _ _ _ _  T17 (mkF m 88 #[.val (.int p1), .val (.int ((p1 &&& (2147483647 : Int32)) % (6 : Int32))), .val (.ref w_FLOAT), .val (.int (1 : Int32))] [(.int (1 : Int32)), (.int (1 : Int32))])
            refine Go.st (fun t k => XS.icmpNo X17.here hx rfl (hb hby at_88) rfl (teq (rfl : (1 : Int32) = (1 : Int32))).2 k) ?_
            show Go _ _ _ _ _ _ _  T17 (mkF m 91 #[.val (.int p1), .val (.int ((p1 &&& (2147483647 : Int32)) % (6 : Int32))), .val (.ref w_FLOAT), .val (.int (1 : Int32))] [])
            refine Go.st (fun t k => XS.iconst X17.here hx rfl (hb hby at_91) k) ?_
            show Go _ _ _ _ _ _ _  T17 (mkF m 92 #[.val (.int p1), .val (.int ((p1 &&& (2147483647 : Int32)) % (6 : Int32))), .val (.ref w_FLOAT), .val (.int (1 : Int32))] [(.int (1 : Int32))])
            refine Go.st (fun t k => XS.goto X17.here hx rfl (pc0 := 92) (pc' := 96) rfl (hb hby at_92) (by decide) (by decide) k) ?_
            show Go _ _ _ _ _ _ _  T17 (mkF m 96 #[.val (.int p1), .val (.int ((p1 &&& (2147483647 : Int32)) % (6 : Int32))), .val (.ref w_FLOAT), .val (.int (1 : Int32))] [(.int (1 : Int32))])
            refine Go.retN X17 hlk hx (t := .boolean) (z' := (1 : Int32)) Bd.returns (by simp) (hb hby at_96) (by decide) (by decide) rfl ?_
            show Q_rm0 Z p1 w_TEXT w_KEYWORD w_LONG w_INTEGER w_DOUBLE w_FLOAT h0 n0 _ T17.heap _
            rw [e17q]
            exact ⟨rfl, N17⟩
set_option maxRecDepth 65536 in
set_option maxHeartbeats 40000000 in
theorem comes_1 {Post : Tables → Env → Array Value → State → Outcome → State → Prop} (hpost : ∀ tb e args s v u, (limb_1_1.after args s (.returned v) u = true ∧ limb_1_2.after args s (.returned v) u = true ∧ True) → FrameEnd s (.returned v) u (Jvm.fieldLocs frame_1_writes args s ++ Jvm.arrayLocs frame_1_arrays args s ++ Jvm.staticLocs frame_1_statics s) 0 0 → Post tb e args s (.returned v) u) :
    ArmFor flags0 classFile x code maxLocals ret World_1 tables_1 room_1 Calls_1 rest_1 Pre_1 Post := by
  intro l hfl _ _ p e ha hc hk s m args below hf hA hF happ hP
  obtain ⟨hcalls, hrest, hpre⟩ := hP
  obtain ⟨-, -, -, hnamed, -, -, -, hat⟩ := (Spec.applies_iff hf).mp happ
  obtain ⟨hg, hn⟩ := and_e (Cond.before_iff.mp (show (Jvm.Cond.and given_1 narrow_1).before args s = true from hpre))
  obtain ⟨g1, g2⟩ := and_e hg
  obtain ⟨w0, rfl⟩ : ∃ w0 : Value, args = #[w0] := by
    have hs : args.size = 1 := by simpa [Cond.value, given_1] using g1
    obtain ⟨L⟩ := args
    match L, hs with
    | [w0], _ => exact ⟨w0, rfl⟩
  have hw := fun d (hd : d ∈ tables_1) => atoms_spec (ws := Jvm.Cond.code x code maxLocals ret :: tables_1) hat d (List.mem_cons_of_mem _ hd)
  have hfit : Fit s := fun {y c} hc i hi => by
    obtain ⟨ha, rfl⟩ := Array.getElem?_eq_some_iff.mp hc
    have q := List.all_eq_true.mp ((Array.all_eq_true_iff_forall_mem.mp hF) _ (Array.getElem_mem ha)) i (List.mem_range.mpr hi)
    simpa [Array.getElem?_eq_getElem hi] using q
  obtain ⟨i0, ei0⟩ := is_v g2
  obtain rfl : w0 = (.int i0) := Option.some.inj ei0
  obtain ⟨nr1, nr2⟩ := and_e hn
  obtain ⟨nr3, nr4⟩ := and_e nr2
  obtain ⟨nr5, nr6⟩ := and_e nr4
  obtain ⟨nr7, nr8⟩ := and_e nr6
  obtain ⟨nr9, nr10⟩ := and_e nr8
  obtain ⟨nr11, nr12⟩ := and_e nr10
  obtain ⟨nr13, nr14⟩ := and_e nr12
  obtain ⟨nr15, nr16⟩ := and_e nr14
  obtain ⟨nr17, nr18⟩ := and_e nr16
  obtain ⟨nr19, nr20⟩ := and_e nr18
  obtain ⟨nr21, nr22⟩ := and_e nr20
  obtain ⟨w_TEXT, S_TEXT, E_TEXT, O_TEXT⟩ := own_en nr1 nr7 (hw _ (List.mem_of_getElem? (i := 2) rfl)) (hw _ (List.mem_of_getElem? (i := 3) rfl))
  obtain ⟨w_KEYWORD, S_KEYWORD, E_KEYWORD, O_KEYWORD⟩ := own_en nr9 nr11 (hw _ (List.mem_of_getElem? (i := 2) rfl)) (hw _ (List.mem_of_getElem? (i := 13) rfl))
  obtain ⟨w_LONG, S_LONG, E_LONG, O_LONG⟩ := own_en nr13 nr15 (hw _ (List.mem_of_getElem? (i := 2) rfl)) (hw _ (List.mem_of_getElem? (i := 15) rfl))
  obtain ⟨w_INTEGER, S_INTEGER, E_INTEGER, O_INTEGER⟩ := own_en nr3 nr5 (hw _ (List.mem_of_getElem? (i := 2) rfl)) (hw _ (List.mem_of_getElem? (i := 11) rfl))
  obtain ⟨w_DOUBLE, S_DOUBLE, E_DOUBLE, O_DOUBLE⟩ := own_en nr21 nr22 (hw _ (List.mem_of_getElem? (i := 2) rfl)) (hw _ (List.mem_of_getElem? (i := 20) rfl))
  obtain ⟨w_FLOAT, S_FLOAT, E_FLOAT, O_FLOAT⟩ := own_en nr17 nr19 (hw _ (List.mem_of_getElem? (i := 2) rfl)) (hw _ (List.mem_of_getElem? (i := 18) rfl))
  obtain ⟨n, o, h1, h2, h3, _, L, rfl, ⟨rfl, N⟩, hq⟩ := rm0 l s _ hw tables_1 i0 w_TEXT w_KEYWORD w_LONG w_INTEGER w_DOUBLE w_FLOAT s.heap s.heap.size (Old.start s) S_TEXT S_KEYWORD S_LONG S_INTEGER S_DOUBLE S_FLOAT E_TEXT E_KEYWORD E_LONG E_INTEGER E_DOUBLE E_FLOAT (O_KEYWORD.ne O_TEXT (by simp)) (O_LONG.ne O_TEXT (by simp)) (O_LONG.ne O_KEYWORD (by simp)) (O_INTEGER.ne O_TEXT (by simp)) (O_INTEGER.ne O_KEYWORD (by simp)) (O_DOUBLE.ne O_TEXT (by simp)) (O_DOUBLE.ne O_KEYWORD (by simp)) (O_FLOAT.ne O_TEXT (by simp)) (O_FLOAT.ne O_KEYWORD (by simp)) p e ha hc hk s m _ below hf ((Spec.applies_iff_loose hf).mp happ).1 ⟨rfl, State.Warmed39.refl s, rfl⟩ trivial
  refine ⟨n, _, h1, h2, h3, hpost _ _ _ _ _ _ ⟨Cond.after_iff.mpr rfl, Cond.after_iff.mpr (eq_i res_at (Term.int_eval (1)) rfl), trivial⟩ ⟨hq.1, hq.2.1, (hq.2.2.sift fun y hy => Or.inr (N y hy)).mono (by decide) (by decide)⟩⟩
theorem main_1_1 : Claimed_1_1 := comes_1 fun _ _ _ _ _ _ h hF => ⟨h.1, hF⟩
theorem main_1_2 : Claimed_1_2 := comes_1 fun _ _ _ _ _ _ h hF => ⟨h.2.1, hF⟩
end Jvm.Pilot.@@N@@
namespace Jvm.Pilot.@@N@@
open Jvm Jvm.ClassFile Sem Op Lib Jvm.Free Jvm.Stand Jvm.Pilot.@@N@@.Jvm.D
/-! MADE BY PROGRAM (witnessworld.py) out of the Statement's table words and the real class files: 13 classes; the members and pool entries that the words name. The judged class is class 1, her method 1. -/
namespace start1
open Jvm.ClassFile
def u (s : String) : CpInfo := .utf8 (stringToUtf16 s)
/-- a pool by its gaps: so many unusable entries, then the entry; so many at the end -/
def gap : Nat → List CpInfo → List CpInfo
  | 0, r => r
  | n + 1, r => .unusable :: gap n r
def poolList (es : List (Nat × CpInfo)) (last : Nat) : List CpInfo := es.foldr (fun e r => gap e.1 (e.2 :: r)) (gap last [])
def pool (es : List (Nat × CpInfo)) (last : Nat) : Array CpInfo := ⟨poolList es last⟩
def fileOf (pool : Array CpInfo) (this : Nat) (attrs : Array Attribute := #[]) (ms : Array MethodInfo := #[]) (fl : Nat := 33) (sup : Nat := 0) (ifs : Array Nat := #[]) (fds : Array FieldInfo := #[]) : ClassFile where
  minorVersion := 0
  majorVersion := 65
  constantPool := pool
  accessFlags := fl
  thisClass := this
  superClass := sup
  interfaces := ifs
  fields := fds
  methods := ms
  attributes := attrs
def plain (name : String) (sup : Option ClassId) : Class where
  name := name
  kind := .ordinary
  loader := none
  accessFlags := 33
  super := sup
  interfaces := #[]
  cf := none
  fields := #[]
  methods := #[]
  instanceTypes := #[]
  staticTypes := #[]
  resolved := #[]
  callSites := []
  init := .initialized
  statics := none
  mirror := none

def pool0 : Array CpInfo := pool [(5, u "<init>"), (0, u "()V"), (1, .class_ 10), (1, u "java/lang/Object")] 113

def k0m0 : Method := { name := "<init>", desc := "()V", sig := { parameters := [], returnType := none }, accessFlags := 1, code := none }
/-- java/lang/Object -/
def k0 : Class := { plain "java/lang/Object" none with
  accessFlags := 33
  interfaces := #[]
  cf := some (fileOf pool0 8 #[] #[{ accessFlags := 1, nameIndex := 5, descriptorIndex := 6, attributes := #[] }] 33 0 #[] #[])
  fields := #[]
  methods := #[k0m0]
  instanceTypes := #[]
  staticTypes := #[]
  resolved := Array.replicate 124 none
  statics := none }

def pool1 : Array CpInfo := pool [(2, .class_ 4), (1, u "java/lang/Object"), (0, u "<init>"), (0, u "()V"), (0, .integer 2147483647), (0, .fieldref 9 10), (0, .class_ 11), (0, .nameAndType 12 13), (0, u "com/example/sancho/sancho/model/FieldType"), (0, u "TEXT"), (0, u "Lcom/example/sancho/sancho/model/FieldType;"), (0, .fieldref 9 15), (0, .nameAndType 16 13), (0, u "KEYWORD"), (0, .fieldref 9 18), (0, .nameAndType 19 13), (0, u "LONG"), (0, .fieldref 9 21), (0, .nameAndType 22 13), (0, u "INTEGER"), (0, .fieldref 9 24), (0, .nameAndType 25 13), (0, u "DOUBLE"), (0, .fieldref 9 27), (0, .nameAndType 28 13), (0, u "FLOAT"), (0, .methodref 9 30), (0, .nameAndType 31 32), (0, u "isNumeric"), (0, u "()Z"), (0, .class_ 34), (0, u "com/example/sancho/sancho/model/FieldTypeIsNumericPinLaw"), (2, u "law"), (0, u "(I)Z")] 3

def k1m0 : Method := { name := "<init>", desc := "()V", sig := { parameters := [], returnType := none }, accessFlags := 2, code := none }
def k1c1 : Code := { maxStack := 2, maxLocals := 4, code := code, exceptionTable := #[], attributes := #[] }
def k1m1 : Method := { name := "law", desc := "(I)Z", sig := { parameters := [.int], returnType := some .boolean }, accessFlags := 9, code := some k1c1 }
/-- com/example/sancho/sancho/model/FieldTypeIsNumericPinLaw -/
def k1 : Class := { plain "com/example/sancho/sancho/model/FieldTypeIsNumericPinLaw" (some 0) with
  accessFlags := 49
  interfaces := #[]
  cf := some (fileOf pool1 33 #[] #[{ accessFlags := 2, nameIndex := 5, descriptorIndex := 6, attributes := #[] }, { accessFlags := 9, nameIndex := 37, descriptorIndex := 38, attributes := #[] }] 49 2 #[] #[])
  fields := #[]
  methods := #[k1m0, k1m1]
  instanceTypes := #[]
  staticTypes := #[]
  resolved := Array.replicate 42 none
  statics := none }

def pool2 : Array CpInfo := pool [(1, .class_ 2), (0, u "java/lang/constant/Constable"), (0, .class_ 4), (0, u "java/lang/Object")] 6

/-- java/lang/constant/Constable -/
def k2 : Class := { plain "java/lang/constant/Constable" (some 0) with
  accessFlags := 1537
  interfaces := #[]
  cf := some (fileOf pool2 1 #[] #[] 1537 3 #[] #[])
  fields := #[]
  methods := #[]
  instanceTypes := #[]
  staticTypes := #[]
  resolved := Array.replicate 11 none
  statics := none }

def pool3 : Array CpInfo := pool [(1, .class_ 2), (0, u "java/lang/Comparable"), (0, .class_ 4), (0, u "java/lang/Object")] 7

/-- java/lang/Comparable -/
def k3 : Class := { plain "java/lang/Comparable" (some 0) with
  accessFlags := 1537
  interfaces := #[]
  cf := some (fileOf pool3 1 #[] #[] 1537 3 #[] #[])
  fields := #[]
  methods := #[]
  instanceTypes := #[]
  staticTypes := #[]
  resolved := Array.replicate 12 none
  statics := none }

def pool4 : Array CpInfo := pool [(1, .class_ 2), (0, u "java/io/Serializable"), (0, .class_ 4), (0, u "java/lang/Object")] 2

/-- java/io/Serializable -/
def k4 : Class := { plain "java/io/Serializable" (some 0) with
  accessFlags := 1537
  interfaces := #[]
  cf := some (fileOf pool4 1 #[] #[] 1537 3 #[] #[])
  fields := #[]
  methods := #[]
  instanceTypes := #[]
  staticTypes := #[]
  resolved := Array.replicate 7 none
  statics := none }

def pool5 : Array CpInfo := pool [(2, .class_ 4), (1, u "java/lang/Enum"), (0, u "name"), (0, u "Ljava/lang/String;"), (2, u "ordinal"), (0, u "I"), (1, .class_ 14), (1, u "java/lang/Object"), (4, u "hash"), (86, .class_ 108), (1, u "java/lang/Enum$EnumDesc"), (2, .class_ 112), (0, u "java/lang/constant/Constable"), (0, .class_ 114), (0, u "java/lang/Comparable"), (0, .class_ 116), (0, u "java/io/Serializable")] 87

/-- java/lang/Enum -/
def k5 : Class := { plain "java/lang/Enum" (some 0) with
  accessFlags := 1057
  interfaces := #[2, 3, 4]
  cf := some (fileOf pool5 2 #[.nestMembers #[106]] #[] 1057 12 #[111, 113, 115] #[{ accessFlags := 18, nameIndex := 5, descriptorIndex := 6, attributes := #[] }, { accessFlags := 18, nameIndex := 9, descriptorIndex := 10, attributes := #[] }, { accessFlags := 2, nameIndex := 19, descriptorIndex := 10, attributes := #[] }])
  fields := #[{ name := "name", type := (.object "java/lang/String"), accessFlags := 18, slot := 0, constantValue := 0 }, { name := "ordinal", type := .int, accessFlags := 18, slot := 1, constantValue := 0 }, { name := "hash", type := .int, accessFlags := 2, slot := 2, constantValue := 0 }]
  methods := #[]
  instanceTypes := #[(.object "java/lang/String"), .int, .int]
  staticTypes := #[]
  resolved := Array.replicate 204 none
  statics := none }

def pool6 : Array CpInfo := pool [(2, .class_ 4), (1, u "com/example/sancho/sancho/model/JsonNamed"), (32, .class_ 38), (0, u "java/lang/Object")] 13

/-- com/example/sancho/sancho/model/JsonNamed -/
def k6 : Class := { plain "com/example/sancho/sancho/model/JsonNamed" (some 0) with
  accessFlags := 1537
  interfaces := #[]
  cf := some (fileOf pool6 2 #[] #[] 1537 37 #[] #[])
  fields := #[]
  methods := #[]
  instanceTypes := #[]
  staticTypes := #[]
  resolved := Array.replicate 52 none
  statics := none }

def pool7 : Array CpInfo := pool [(1, .class_ 2), (0, u "com/example/sancho/sancho/model/FieldType"), (0, .fieldref 1 4), (0, .nameAndType 5 6), (0, u "TEXT"), (0, u "Lcom/example/sancho/sancho/model/FieldType;"), (0, .fieldref 1 8), (0, .nameAndType 9 6), (0, u "KEYWORD"), (2, u "LONG"), (2, u "INTEGER"), (2, u "DOUBLE"), (2, u "FLOAT"), (2, u "$VALUES"), (0, u "[Lcom/example/sancho/sancho/model/FieldType;"), (6, .class_ 34), (1, u "java/lang/Enum"), (8, u "jsonName"), (0, u "Ljava/lang/String;"), (25, .class_ 71), (0, u "com/example/sancho/sancho/model/JsonNamed"), (8, u "isNumeric"), (0, u "()Z")] 6

def k7c0 : Code := { maxStack := 2, maxLocals := 1, code := prog_10_method_5_code, exceptionTable := #[], attributes := #[] }
def k7m0 : Method := { name := "isNumeric", desc := "()Z", sig := { parameters := [], returnType := some .boolean }, accessFlags := 1, code := some k7c0 }
/-- com/example/sancho/sancho/model/FieldType -/
def k7 : Class := { plain "com/example/sancho/sancho/model/FieldType" (some 5) with
  accessFlags := 16433
  interfaces := #[6]
  cf := some (fileOf pool7 1 #[] #[{ accessFlags := 1, nameIndex := 80, descriptorIndex := 81, attributes := #[] }] 16433 32 #[70] #[{ accessFlags := 16409, nameIndex := 5, descriptorIndex := 6, attributes := #[] }, { accessFlags := 16409, nameIndex := 9, descriptorIndex := 6, attributes := #[] }, { accessFlags := 16409, nameIndex := 12, descriptorIndex := 6, attributes := #[] }, { accessFlags := 16409, nameIndex := 15, descriptorIndex := 6, attributes := #[] }, { accessFlags := 16409, nameIndex := 18, descriptorIndex := 6, attributes := #[] }, { accessFlags := 16409, nameIndex := 21, descriptorIndex := 6, attributes := #[] }, { accessFlags := 18, nameIndex := 43, descriptorIndex := 44, attributes := #[] }, { accessFlags := 4122, nameIndex := 24, descriptorIndex := 25, attributes := #[] }])
  fields := #[{ name := "TEXT", type := (.object "com/example/sancho/sancho/model/FieldType"), accessFlags := 16409, slot := 0, constantValue := 0 }, { name := "KEYWORD", type := (.object "com/example/sancho/sancho/model/FieldType"), accessFlags := 16409, slot := 1, constantValue := 0 }, { name := "LONG", type := (.object "com/example/sancho/sancho/model/FieldType"), accessFlags := 16409, slot := 2, constantValue := 0 }, { name := "INTEGER", type := (.object "com/example/sancho/sancho/model/FieldType"), accessFlags := 16409, slot := 3, constantValue := 0 }, { name := "DOUBLE", type := (.object "com/example/sancho/sancho/model/FieldType"), accessFlags := 16409, slot := 4, constantValue := 0 }, { name := "FLOAT", type := (.object "com/example/sancho/sancho/model/FieldType"), accessFlags := 16409, slot := 5, constantValue := 0 }, { name := "jsonName", type := (.object "java/lang/String"), accessFlags := 18, slot := 3, constantValue := 0 }, { name := "$VALUES", type := (.array (.object "com/example/sancho/sancho/model/FieldType")), accessFlags := 4122, slot := 6, constantValue := 0 }]
  methods := #[k7m0]
  instanceTypes := #[(.object "java/lang/String"), .int, .int, (.object "java/lang/String")]
  staticTypes := #[(.object "com/example/sancho/sancho/model/FieldType"), (.object "com/example/sancho/sancho/model/FieldType"), (.object "com/example/sancho/sancho/model/FieldType"), (.object "com/example/sancho/sancho/model/FieldType"), (.object "com/example/sancho/sancho/model/FieldType"), (.object "com/example/sancho/sancho/model/FieldType"), (.array (.object "com/example/sancho/sancho/model/FieldType"))]
  resolved := Array.replicate 88 none
  statics := some 0 }

def pool8 : Array CpInfo := pool [(1, u "java/lang/Cloneable"), (0, .class_ 1), (0, u "java/lang/Object"), (0, .class_ 3)] 3

/-- java/lang/Cloneable -/
def k8 : Class := { plain "java/lang/Cloneable" (some 0) with
  accessFlags := 1537
  interfaces := #[]
  cf := some (fileOf pool8 2 #[] #[] 1537 4 #[] #[])
  fields := #[]
  methods := #[]
  instanceTypes := #[]
  staticTypes := #[]
  resolved := Array.replicate 8 none
  statics := none }

/-- the primitive byte -/
def k9 : Class := { plain "byte" none with kind := .primitive 'B', accessFlags := 0x411 }
/-- [B -/
def k10 : Class := { plain "[B" (some 0) with kind := .array 9 .byte, interfaces := #[8, 4], accessFlags := 1041 }

/-- the primitive int -/
def k11 : Class := { plain "int" none with kind := .primitive 'I', accessFlags := 0x411 }
/-- [I -/
def k12 : Class := { plain "[I" (some 0) with kind := .array 11 .int, interfaces := #[8, 4], accessFlags := 1041 }

def heap : Heap := #[{ cls := 7, slots := #[.ref 1, .ref 2, .ref 3, .ref 4, .ref 5, .ref 6, .null], vm := .statics 7 },
  { cls := 7, slots := #[.null, .int 0, .int 0, .null], vm := .none },
  { cls := 7, slots := #[.null, .int 1, .int 0, .null], vm := .none },
  { cls := 7, slots := #[.null, .int 2, .int 0, .null], vm := .none },
  { cls := 7, slots := #[.null, .int 3, .int 0, .null], vm := .none },
  { cls := 7, slots := #[.null, .int 4, .int 0, .null], vm := .none },
  { cls := 7, slots := #[.null, .int 5, .int 0, .null], vm := .none }]
def classes : Array Class := #[k0, k1, k2, k3, k4, k5, k6, k7, k8, k9, k10, k11, k12]
def interned : List (Array UInt16 × Addr) := []
def slotsUsed : Nat := 31
def theMethod : MethodId := ⟨1, 1⟩
def args0 : Array Value := #[.int 5]
def aboutOver (below : List Frame) : State where
  vm := { classes := classes, interned := interned.toArray }
  heap := heap
  slotsUsed := slotsUsed
  threads := #[{ frames := .invoking theMethod args0 :: below }]
def below0 : List Frame := [.native { method := ⟨0, 0⟩, args := #[] }]
def about1 : State := aboutOver below0
def p0 : Program := .bare "" "" ""
def e0 : Env := launch0.env 0 0 0
theorem w_frames : about1.frames = Frame.invoking theMethod args0 :: below0 := rfl
set_option maxRecDepth 65536 in
theorem w_args : argsFit about1.vm theMethod args0 = true := by decide +kernel
set_option maxRecDepth 65536 in
theorem w_heap : heapFits about1 = true := by decide +kernel
set_option maxRecDepth 65536 in
theorem w_runnable : about1.curStatus? = some .runnable := by decide +kernel
set_option maxRecDepth 65536 in
theorem w_alone : about1.alone = true := by decide +kernel
set_option maxRecDepth 65536 in
theorem w_named : about1.methodNamed? x = some theMethod := by decide +kernel
set_option maxRecDepth 65536 in
theorem w_hears : about1.hears theMethod below0 = true := by decide +kernel
set_option maxRecDepth 65536 in
theorem w_ripe : about1.ripe theMethod args0 below0 = true := by decide +kernel
theorem w_running : about1.status = .running := rfl
set_option maxRecDepth 65536 in
theorem w_room : about1.hasRoom e0.platform room_1 = true :=
  launch0.hasRoom_least _ room_1 (by decide +kernel) (by decide +kernel) (by decide +kernel) (by decide +kernel) (by decide +kernel) (by decide +kernel)
theorem allAtoms_all (ts : List Jvm.Cond) (a : Array Jvm.Value) (st : Jvm.State) : (allAtoms ts).before a st = ts.all (fun c => c.before a st) := by
  induction ts with
  | nil => rfl
  | cons c t ih =>
    show (Jvm.Cond.and c (allAtoms t)).before a st = _
    rw [Jvm.Cond.before_and, ih, List.all_cons]
def words1 : List Jvm.Cond := Jvm.Cond.code x code maxLocals ret :: tables_1
/-- a 'code' word, met by the world's own term for the bytes: nothing is compared byte by byte -/
theorem code_word {y : MethodName} {bytes : ByteArray} {mx : Nat} {rt : Option FieldType} {a : Array Value} {s : State} {m : MethodId} {meth : Method} {c : Code} (h1 : s.methodNamed? y = some m) (h2 : s.vm.method? m = some meth) (h3 : meth.code = some c) (h4 : c.code = bytes)
    (h5 : (c.maxLocals == mx && c.exceptionTable.isEmpty && decide (c.maxStack ≤ mostOperands) && decide (meth.sig.returnType = rt) && !meth.locks && decide (parseMethodDescriptor y.desc = some meth.sig)) = true) : (Jvm.Cond.code y bytes mx rt).before a s = true := by
  simp only [Bool.and_eq_true, beq_iff_eq, Bool.not_eq_true', decide_eq_true_eq] at h5
  obtain ⟨⟨⟨⟨⟨g1, g2⟩, g3⟩, g4⟩, g5⟩, g6⟩ := h5
  simp [Cond.before, Cond.holds, Cond.value, h1, h2, h3, h4, g1, g2, g3, g4, g5, g6]
def isCode : Jvm.Cond → Bool
  | .code _ _ _ _ => true
  | _ => false
theorem all_split {L : List Jvm.Cond} {P : Jvm.Cond → Bool} (h1 : L.all (fun c => isCode c || P c) = true) (h2 : ∀ c ∈ L.filter isCode, P c = true) : L.all P = true := by
  refine List.all_eq_true.mpr fun c hc => ?_
  have h := List.all_eq_true.mp h1 c hc
  rcases Bool.eq_false_or_eq_true (isCode c) with hi | hi
  · exact h2 c (List.mem_filter.mpr ⟨hc, hi⟩)
  · simpa [hi] using h
set_option maxRecDepth 65536 in
theorem w_c0 : (Jvm.Cond.code x code maxLocals ret).before args0 about1 = true := code_word (m := ⟨1, 1⟩) (meth := k1m1) (c := k1c1) (by decide +kernel) rfl rfl rfl (by decide +kernel)
set_option maxRecDepth 65536 in
theorem w_c1 : (Jvm.Cond.code ({ cls := "com/example/sancho/sancho/model/FieldType", name := "isNumeric", desc := "()Z" } : Jvm.MethodName) prog_10_method_5_code (1 : Nat) (Option.some Jvm.ClassFile.FieldType.boolean)).before args0 about1 = true := code_word (m := ⟨7, 0⟩) (meth := k7m0) (c := k7c0) (by decide +kernel) rfl rfl rfl (by decide +kernel)
def codes1 : List Jvm.Cond := [Jvm.Cond.code x code maxLocals ret, Jvm.Cond.code ({ cls := "com/example/sancho/sancho/model/FieldType", name := "isNumeric", desc := "()Z" } : Jvm.MethodName) prog_10_method_5_code (1 : Nat) (Option.some Jvm.ClassFile.FieldType.boolean)]
set_option maxRecDepth 65536 in
theorem codes_eq : words1.filter isCode = codes1 := rfl
theorem w_codes : ∀ c ∈ words1.filter isCode, c.before args0 about1 = true := by
  rw [codes_eq]
  intro c hc
  simp only [codes1, List.mem_cons, List.not_mem_nil, or_false] at hc
  rcases hc with rfl | rfl
  · exact w_c0
  · exact w_c1
set_option maxRecDepth 65536 in
theorem w_t1 : words1.all (fun c => isCode c || c.before args0 about1) = true := by decide +kernel
theorem w_tables : (allAtoms (Jvm.Cond.code x code maxLocals ret :: tables_1)).before args0 about1 = true := by
  rw [allAtoms_all]
  show words1.all (fun c => c.before args0 about1) = true
  refine all_split ?_ w_codes
  rw [w_t1]
set_option maxRecDepth 65536 in
theorem w_case : (Jvm.Cond.and given_1 narrow_1).before args0 about1 = true := by decide +kernel
theorem w_applies : (headSpec (Jvm.Cond.code x code maxLocals ret :: tables_1) room_1).applies x e0.platform about1 = true :=
  (Spec.applies_iff w_frames).mpr ⟨w_running, w_runnable, w_alone, w_named, w_hears, w_ripe, w_room, w_tables⟩
theorem atStart : AtStart classFile x code maxLocals ret World_1 tables_1 room_1 Calls_1 rest_1 Pre_1 launch0 p0 e0 about1 theMethod args0 below0 :=
  ⟨lists_1, trivial, launch0.admits_env _ _ _, launch0.least_env, fairChoices_fair.cas, fairChoices_fair.clock, w_frames, w_args, w_heap, w_applies, trivial, trivial, w_case⟩
end start1
theorem witness_1 : WitnessClaimed_1 := ⟨start1.p0, start1.e0, start1.about1, start1.theMethod, start1.args0, start1.below0, start1.atStart⟩
end Jvm.Pilot.@@N@@
