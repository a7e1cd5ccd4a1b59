import JvmDerived
import JvmDerived.Pilot.@@N@@Statement
import JvmDerived.Pilot.@@N@@Code
set_option linter.unusedVariables false
set_option linter.unusedSimpArgs false
namespace Jvm.Pilot.@@N@@
open Jvm Jvm.ClassFile Sem Op Lib Jvm.Free Jvm.Stand Jvm.LawKit Jvm.RoadKit Bundle Jvm.Pilot.@@N@@.Jvm.D
/-! the walk in continuation form: from T with the frame g on top the run comes to an end that says Q -/
def Go (p : Program) (e : Env) (below : List Frame) (s : State) (C S : Nat) (Q : Option Value → Heap → List Loc → Prop) (T : State) (g : JFrame) : Prop :=
  ∃ s₂ o, Steps p.tables e below (T.setTop g) s₂ ∧ s₂.status = .running ∧ Ended s₂ below o ∧ ∃ v L, o = .returned v ∧ Q v s₂.heap L ∧ FrameEnd s o s₂ L C S
section GoKit
variable {p : Program} {l : Launch} {e : Env} {R : Room} {s : State} {m : MethodId} {args : Array Value} {below : List Frame} {meth : Method} {c : Code} {T T' : State} {g g' : JFrame} {locs : List Loc} {cells slots C S : Nat} {Q : Option Value → Heap → List Loc → Prop} {Z : State} {h h' : Heap} {n0 : Nat}
theorem Go.st (st : ∀ t, Steps p.tables e below (T'.setTop g') t → Steps p.tables e below (T.setTop g) t) (k : Go p e below s C S Q T' g') : Go p e below s C S Q T g := by
  obtain ⟨s₂, o, h1, h2⟩ := k; exact ⟨s₂, o, st _ h1, h2⟩
theorem Go.tr (st : Steps p.tables e below (T.setTop g) (T'.setTop g')) (k : Go p e below s C S Q T' g') : Go p e below s C S Q T g := by
  obtain ⟨s₂, o, h1, h2⟩ := k; exact ⟨s₂, o, st.trans h1, h2⟩
theorem Go.eq (q : g = g') (k : Go p e below s C S Q T g') : Go p e below s C S Q T g := q ▸ k
theorem Go.fin (X : Stand p l e R s m args below meth c T locs cells slots) (hlk : meth.locks = false) {v : Option Value} (hv : meth.sig.returnType = none → v = none) (hc : cells ≤ C) (hs : slots ≤ S) (q : Q v T.heap locs)
    (k : ∀ fs, (∀ (f : JFrame) (acts : List Action), f.method = m → f.locked = none → f.entered = [] → (doReturn e (T.setTop f) acts v).1 = T.setFrames fs) → Steps p.tables e below (T.setTop g) (T.setFrames fs)) : Go p e below s C S Q T g := by
  obtain ⟨fs, hr, hrun, hended, hW, hsame⟩ := X.leave (v := v) hv hlk
  exact ⟨_, _, k fs hr, hrun, hended, _, _, rfl, q, ⟨_, rfl⟩, hW, hsame.mono hc hs⟩
theorem Go.retN (X : Stand p l e R s m args below meth c T locs cells slots) (hlk : meth.locks = false) (hx : p.tables.exec = Jvm.exec) {pc : Nat} {Ls : Array Slot} {z z' : Int32} {t : FieldType} {rest : List Value} (hret : meth.sig.returnType = some t) (ht : t = .boolean ∨ t = .byte ∨ t = .char ∨ t = .short)
    (hd : decode c.code pc = .ok (.ireturn, 1)) (hc : cells ≤ C) (hs : slots ≤ S) (hz : nar t z = z') (q : Q (some (.int z')) T.heap locs) : Go p e below s C S Q T (mkF m pc Ls (.int z :: rest)) := by
  subst hz
  exact Go.fin X hlk (fun h => by rw [hret] at h; cases h) hc hs q fun fs hr => Jvm.RoadKit.retN X hx hret ht hd hr
theorem Go.retV (X : Stand p l e R s m args below meth c T locs cells slots) (hlk : meth.locks = false) (hx : p.tables.exec = Jvm.exec) {pc : Nat} {Ls : Array Slot} {w : Value} {t : FieldType} {i : Instr} {rest : List Value} (hret : meth.sig.returnType = some t) (hn : narrow t w = w)
    (hi : (i = .ireturn ∧ (t = .int ∨ t = .boolean ∨ t = .byte ∨ t = .char ∨ t = .short) ∧ ∃ z, w = .int z) ∨ (i = .lreturn ∧ t = .long ∧ ∃ z, w = .long z) ∨ (i = .dreturn ∧ t = .double ∧ ∃ z, w = .double z) ∨ (i = .freturn ∧ t = .float ∧ ∃ z, w = .float z) ∨ (i = .areturn ∧ t.isReference = true ∧ w.isRef = true))
    (hd : decode c.code pc = .ok (i, 1)) (hc : cells ≤ C) (hs : slots ≤ S) (q : Q (some w) T.heap locs) : Go p e below s C S Q T (mkF m pc Ls (w :: rest)) :=
  Go.fin X hlk (fun h => by rw [hret] at h; cases h) hc hs q fun fs hr => Jvm.RoadKit.retOut X hx hret hn hi hd hr
theorem Go.retR (X : Stand p l e R s m args below meth c T locs cells slots) (hlk : meth.locks = false) (hx : p.tables.exec = Jvm.exec) {pc : Nat} {Ls : Array Slot} {w : Value} {t : FieldType} {rest : List Value} (hret : meth.sig.returnType = some t) (ht : t.isReference = true) (hw : w.isRef = true) (hn : narrow t w = w)
    (hd : decode c.code pc = .ok (.areturn, 1)) (hc : cells ≤ C) (hs : slots ≤ S) (q : Q (some w) T.heap locs) : Go p e below s C S Q T (mkF m pc Ls (w :: rest)) :=
  Go.retV X hlk hx hret hn (Or.inr (Or.inr (Or.inr (Or.inr ⟨rfl, ht, hw⟩)))) hd hc hs q
theorem Go.retI (X : Stand p l e R s m args below meth c T locs cells slots) (hlk : meth.locks = false) (hx : p.tables.exec = Jvm.exec) {pc : Nat} {Ls : Array Slot} {z : Int32} {rest : List Value} (hret : meth.sig.returnType = some .int)
    (hd : decode c.code pc = .ok (.ireturn, 1)) (hc : cells ≤ C) (hs : slots ≤ S) (q : Q (some (.int z)) T.heap locs) : Go p e below s C S Q T (mkF m pc Ls (.int z :: rest)) :=
  Go.retV X hlk hx hret rfl (Or.inl ⟨rfl, Or.inl rfl, z, rfl⟩) hd hc hs q
theorem Go.retJ (X : Stand p l e R s m args below meth c T locs cells slots) (hlk : meth.locks = false) (hx : p.tables.exec = Jvm.exec) {pc : Nat} {Ls : Array Slot} {z : Int64} {rest : List Value} (hret : meth.sig.returnType = some .long)
    (hd : decode c.code pc = .ok (.lreturn, 1)) (hc : cells ≤ C) (hs : slots ≤ S) (q : Q (some (.long z)) T.heap locs) : Go p e below s C S Q T (mkF m pc Ls (.long z :: rest)) :=
  Go.retV X hlk hx hret rfl (Or.inr (Or.inl ⟨rfl, rfl, z, rfl⟩)) hd hc hs q
theorem Go.ret0 (X : Stand p l e R s m args below meth c T locs cells slots) (hlk : meth.locks = false) (hx : p.tables.exec = Jvm.exec) {pc : Nat} {Ls : Array Slot} (hret : meth.sig.returnType = none)
    (hd : decode c.code pc = .ok (.return_, 1)) (hc : cells ≤ C) (hs : slots ≤ S) (q : Q none T.heap locs) : Go p e below s C S Q T (mkF m pc Ls []) :=
  Go.fin X hlk (fun _ => rfl) hc hs q fun fs hr => X.returnOut hx hret hd hr
theorem own_le (O : Old Z n0 h) : n0 ≤ h.size := O.1 ▸ O.2.1
theorem own_ext {ws : List Addr} (K : Keep h h' ws) (q : ∀ x ∈ ws, h.size ≤ x) : Ext h h' := ⟨K.1, fun x c r => K.2.1 x c r fun z => absurd (Array.getElem?_eq_some_iff.mp r).1 (Nat.not_lt.mpr (q x z))⟩
theorem own_ext0 (K : Keep h h' []) : Ext h h' := own_ext K all0
theorem own_exr (h : Heap) : Ext h h := ⟨Nat.le_refl _, fun _ _ q => q⟩
theorem own_ext_t {h'' : Heap} (E : Ext h h') (E' : Ext h' h'') : Ext h h'' := ⟨Nat.le_trans E.1 E'.1, fun x c r => E'.2 x c (E.2 x c r)⟩
end GoKit
theorem pn_1 : plainName "com/example/keywarden/keywarden/core/Clustering" = true := by first | (simp [plainName, overriddenIn]; done) | decide +kernel
theorem ef_rm1 (m : MethodId) (a1 : Addr) (p2 : Int32) : entryFrame m #[(.ref a1), (.int p2)] 2 = mkF m 0 #[.val (.ref a1), .val (.int p2)] [] := by first | (simp [entryFrame, mkF, argsToLocals, Value.category]; done) | rfl
theorem d1_0 : decode prog_11_method_4_code 0 = .ok (.aload_n 0, 1) := by decide +kernel
theorem d1_1 : decode prog_11_method_4_code 1 = .ok (.getstatic 7, 3) := by decide +kernel
theorem d1_4 : decode prog_11_method_4_code 4 = .ok (.if_acmp .eq 14, 3) := by decide +kernel
theorem d1_18 : decode prog_11_method_4_code 18 = .ok (.iconst 1, 1) := by decide +kernel
theorem d1_19 : decode prog_11_method_4_code 19 = .ok (.goto 4, 3) := by decide +kernel
theorem d1_23 : decode prog_11_method_4_code 23 = .ok (.ireturn, 1) := by decide +kernel
theorem d1_7 : decode prog_11_method_4_code 7 = .ok (.aload_n 0, 1) := by decide +kernel
theorem d1_8 : decode prog_11_method_4_code 8 = .ok (.getstatic 3, 3) := by decide +kernel
theorem d1_11 : decode prog_11_method_4_code 11 = .ok (.if_acmp .ne 11, 3) := by decide +kernel
theorem d1_14 : decode prog_11_method_4_code 14 = .ok (.iload_n 1, 1) := by decide +kernel
theorem d1_15 : decode prog_11_method_4_code 15 = .ok (.ifCond .eq 7, 3) := by decide +kernel
theorem d1_22 : decode prog_11_method_4_code 22 = .ok (.iconst 0, 1) := by decide +kernel
theorem pn_0 : plainName "com/example/keywarden/keywarden/core/ClusteringClusteredPinLaw" = true := by first | (simp [plainName, overriddenIn]; done) | decide +kernel
theorem ef_rm0 (m : MethodId) (p1 : Int32) : entryFrame m #[(.int p1)] maxLocals = mkF m 0 #[.val (.int p1), .unset, .unset, .unset, .unset] [] := by first | (simp [entryFrame, mkF, argsToLocals, Value.category, maxLocals]; done) | rfl
theorem pd__Z_Z : parseMethodDescriptor "(Z)Z" = some ⟨[.boolean], some .boolean⟩ := by decide +kernel
def clF (a wC wU : Addr) (u : Int32) : Int32 := if a = wC then 1 else if a = wU then (if u = 0 then 0 else 1) else 0

theorem own_eqi {args : Array Value} {Z : State} {t : Term} {k : Int32} (h : (Cond.eq t (Term.int k)).value args Z none Z [] = some true) : t.eval args Z none [] Z = some (.int k) := by
  cases ht : t.eval args Z none [] Z with
  | none => simp [Cond.value, Term.eval, ht] at h
  | some v => cases v <;> simp [Cond.value, Term.eval, ht] at h <;> (try rw [h])
theorem own_en {args : Array Value} {Z : State} {C n d : String} {k : Int32} (hx : (Cond.exactly (Term.static C n d) C).value args Z none Z [] = some true) (hk : (Cond.eq (Term.field (Term.static C n d) "java/lang/Enum" "ordinal" "I") (Term.int k)).value args Z none Z [] = some true)
    (hi : (Cond.initialized C).before args Z = true) (hl : (Cond.laysStatic C n d).before args Z = true) : ∃ w, Sta Z Z.heap C n d (.ref w) ∧ Exa Z Z.heap w C ∧ Fld Z Z.heap w "java/lang/Enum" "ordinal" "I" (.int k) := by
  obtain ⟨w, ew⟩ := exa_v hx
  exact ⟨w, Sta.start ew (Or.inr ⟨hi, hl⟩), Exa.start ew hx, Fld.start (by rw [← fld_at ew]; exact own_eqi hk)⟩

def Q_rm1 (Z : State) (a1 : Addr) (p2 : Int32) (w_CLUSTERED : Addr) (w_UNDECLARED : Addr) (h0 : Heap) (n0 : Nat) (v : Option Value) (h : Heap) (L : List Loc) : Prop := v = some (.int (clF a1 w_CLUSTERED w_UNDECLARED p2)) ∧ Fr n0 L ∧ h = h0
set_option maxRecDepth 65536 in
set_option maxHeartbeats 40000000 in
theorem rm1 (l : Launch) (Z : State) (a0 : Array Value) (hw : ∀ d ∈ tables_1, d.before a0 Z = true) (ws : List Jvm.Cond) (a1 : Addr) (p2 : Int32) (w_CLUSTERED : Addr) (w_UNDECLARED : Addr) (h0 : Heap) (n0 : Nat) (O : Old Z n0 h0) (S_CLUSTERED : Sta Z Z.heap "com/example/keywarden/keywarden/core/Clustering" "CLUSTERED" "Lcom/example/keywarden/keywarden/core/Clustering;" (.ref w_CLUSTERED)) (S_UNDECLARED : Sta Z Z.heap "com/example/keywarden/keywarden/core/Clustering" "UNDECLARED" "Lcom/example/keywarden/keywarden/core/Clustering;" (.ref w_UNDECLARED)) :
    MetFree l (⟨"com/example/keywarden/keywarden/core/Clustering", "clustered", "(Z)Z"⟩ : MethodName) (head1 (Jvm.Cond.code (⟨"com/example/keywarden/keywarden/core/Clustering", "clustered", "(Z)Z"⟩ : MethodName) prog_11_method_4_code 2 (some .boolean) :: ws) ({ frames := 0, cells := 0, slots := 0, locals := 0 } : Room)) (fun a U => a = #[(.ref a1), (.int p2)] ∧ Z.Warmed39 U.vm ∧ U.heap = h0) (fun _ _ _ _ _ => True) (fun _ U o U' => ∃ v L, o = .returned v ∧ Q_rm1 Z a1 p2 w_CLUSTERED w_UNDECLARED h0 n0 v U'.heap L ∧ FrameEnd U o U' L ({ frames := 0, cells := 0, slots := 0, locals := 0 } : Room).cells ({ frames := 0, cells := 0, slots := 0, locals := 0 } : Room).slots) := by
  refine MetFree.of_bodySF (plainFor_of_name pn_1) hisR ?_
  intro p e s m args below meth c s₁ Bd hml0 hP hK
  obtain ⟨rfl, hZ, hh⟩ := hP
  have hx := Bd.exec
  have hby := Bd.bytes
  have hml : c.maxLocals = 2 := hml0
  have hown : s.vm.findClass "com/example/keywarden/keywarden/core/Clustering" = some m.cls := findClass_of_methodNamed Bd.named
  have hnm := (name_of_methodNamed Bd.named Bd.method).1
  have hlk : meth.locks = false := BodyLoose.notSynchronized Bd
  have X0 : Stand p l e ({ frames := 0, cells := 0, slots := 0, locals := 0 } : Room) s m #[(.ref a1), (.int p2)] below meth c s₁ [] 0 0 := Stand.of_body Bd
  have e0 : s₁.heap = h0 := by rw [← hh, Bd.state]; rfl
  have N0 := Fr.nil n0
  show Go p e below s ({ frames := 0, cells := 0, slots := 0, locals := 0 } : Room).cells ({ frames := 0, cells := 0, slots := 0, locals := 0 } : Room).slots (Q_rm1 Z a1 p2 w_CLUSTERED w_UNDECLARED h0 n0) s₁ (entryFrame m #[(.ref a1), (.int p2)] 2)
  refine Go.eq (ef_rm1 m a1 p2) ?_
  show Go _ _ _ _ _ _ _  s₁ (mkF m 0 #[.val (.ref a1), .val (.int p2)] [])
  refine Go.st (fun t k => XS.aloadN X0.here hx rfl (hb hby d1_0) rfl rfl  k) ?_
  show Go _ _ _ _ _ _ _  s₁ (mkF m 1 #[.val (.ref a1), .val (.int p2)] [(.ref a1)])
  obtain ⟨T1, X1, e1, st1⟩ := getS2 X0 hx hZ hown (host := "") (Or.inl (hw _ (List.mem_of_getElem? (i := 8) rfl))) Via.refl e0 (S_CLUSTERED.ext O.2) (g := (mkF m 1 #[.val (.ref a1), .val (.int p2)] [(.ref a1)])) rfl (hb hby d1_1)
  refine Go.st st1 ?_
  show Go _ _ _ _ _ _ _  T1 (mkF m 4 #[.val (.ref a1), .val (.int p2)] [(.ref w_CLUSTERED), (.ref a1)])
  by_cases c4_2 : a1 = w_CLUSTERED
  · refine Go.st (fun t k => Jvm.RoadKit.acmp (g := (mkF m 4 #[.val (.ref a1), .val (.int p2)] [(.ref w_CLUSTERED), (.ref a1)])) X1 hx rfl rfl rfl (pc0 := 4) (pc' := 18) (same := true) rfl (hb hby d1_4) rfl (decide_eq_true (congrArg Value.ref c4_2)) (by decide) (by decide) k) ?_
    show Go _ _ _ _ _ _ _  T1 (mkF m 18 #[.val (.ref a1), .val (.int p2)] [])
    refine Go.st (fun t k => XS.iconst X1.here hx rfl (hb hby d1_18) k) ?_
    show Go _ _ _ _ _ _ _  T1 (mkF m 19 #[.val (.ref a1), .val (.int p2)] [(.int (1 : Int32))])
    refine Go.st (fun t k => XS.goto X1.here hx rfl (pc0 := 19) (pc' := 23) rfl (hb hby d1_19) (by decide) (by decide) k) ?_
    show Go _ _ _ _ _ _ _  T1 (mkF m 23 #[.val (.ref a1), .val (.int p2)] [(.int (1 : Int32))])
    refine Go.retN X1 hlk hx (t := .boolean) (z' := (1 : Int32)) Bd.returns (by simp) (hb hby d1_23) (by decide) (by decide) rfl ?_
    show Q_rm1 Z a1 p2 w_CLUSTERED w_UNDECLARED h0 n0 _ T1.heap _
    rw [e1]
    exact ⟨by simp only [clF, if_pos c4_2], N0, rfl⟩
  · refine Go.st (fun t k => Jvm.RoadKit.acmp (g := (mkF m 4 #[.val (.ref a1), .val (.int p2)] [(.ref w_CLUSTERED), (.ref a1)])) X1 hx rfl rfl rfl (pc0 := 4) (pc' := 7) (same := false) rfl (hb hby d1_4) rfl (decide_eq_false fun q => c4_2 (Value.ref.inj q)) (by decide) (by decide) k) ?_
    show Go _ _ _ _ _ _ _  T1 (mkF m 7 #[.val (.ref a1), .val (.int p2)] [])
    refine Go.st (fun t k => XS.aloadN X1.here hx rfl (hb hby d1_7) rfl rfl  k) ?_
    show Go _ _ _ _ _ _ _  T1 (mkF m 8 #[.val (.ref a1), .val (.int p2)] [(.ref a1)])
    obtain ⟨T3, X3, e3, st3⟩ := getS2 X1 hx hZ hown (host := "") (Or.inl (hw _ (List.mem_of_getElem? (i := 10) rfl))) Via.refl e1 (S_UNDECLARED.ext O.2) (g := (mkF m 8 #[.val (.ref a1), .val (.int p2)] [(.ref a1)])) rfl (hb hby d1_8)
    refine Go.st st3 ?_
    show Go _ _ _ _ _ _ _  T3 (mkF m 11 #[.val (.ref a1), .val (.int p2)] [(.ref w_UNDECLARED), (.ref a1)])
    by_cases c11_4 : a1 = w_UNDECLARED
    · refine Go.st (fun t k => Jvm.RoadKit.acmp (g := (mkF m 11 #[.val (.ref a1), .val (.int p2)] [(.ref w_UNDECLARED), (.ref a1)])) X3 hx rfl rfl rfl (pc0 := 11) (pc' := 14) (same := true) rfl (hb hby d1_11) rfl (decide_eq_true (congrArg Value.ref c11_4)) (by decide) (by decide) k) ?_
      show Go _ _ _ _ _ _ _  T3 (mkF m 14 #[.val (.ref a1), .val (.int p2)] [])
      refine Go.st (fun t k => XS.iloadN X3.here hx rfl (hb hby d1_14) rfl  k) ?_
      show Go _ _ _ _ _ _ _  T3 (mkF m 15 #[.val (.ref a1), .val (.int p2)] [(.int p2)])
      by_cases c15_5 : p2 = (0 : Int32)
      · refine Go.st (fun t k => XS.ifYes X3.here hx rfl (pc0 := 15) (pc' := 22) rfl (hb hby d1_15) rfl ((if0 _ _).trans (teq c15_5).1) (by decide) (by decide) k) ?_
        show Go _ _ _ _ _ _ _  T3 (mkF m 22 #[.val (.ref a1), .val (.int p2)] [])
        refine Go.st (fun t k => XS.iconst X3.here hx rfl (hb hby d1_22) k) ?_
        show Go _ _ _ _ _ _ _  T3 (mkF m 23 #[.val (.ref a1), .val (.int p2)] [(.int (0 : Int32))])
        refine Go.retN X3 hlk hx (t := .boolean) (z' := (0 : Int32)) Bd.returns (by simp) (hb hby d1_23) (by decide) (by decide) rfl ?_
        show Q_rm1 Z a1 p2 w_CLUSTERED w_UNDECLARED h0 n0 _ T3.heap _
        rw [e3]
        exact ⟨by simp only [clF, if_neg c4_2, if_pos c11_4, if_pos c15_5], N0, rfl⟩
      · refine Go.st (fun t k => XS.ifNo X3.here hx rfl (hb hby d1_15) rfl ((if0 _ _).trans (feq c15_5).1) k) ?_
        show Go _ _ _ _ _ _ _  T3 (mkF m 18 #[.val (.ref a1), .val (.int p2)] [])
        refine Go.st (fun t k => XS.iconst X3.here hx rfl (hb hby d1_18) k) ?_
        show Go _ _ _ _ _ _ _  T3 (mkF m 19 #[.val (.ref a1), .val (.int p2)] [(.int (1 : Int32))])
        refine Go.st (fun t k => XS.goto X3.here hx rfl (pc0 := 19) (pc' := 23) rfl (hb hby d1_19) (by decide) (by decide) k) ?_
        show Go _ _ _ _ _ _ _  T3 (mkF m 23 #[.val (.ref a1), .val (.int p2)] [(.int (1 : Int32))])
        refine Go.retN X3 hlk hx (t := .boolean) (z' := (1 : Int32)) Bd.returns (by simp) (hb hby d1_23) (by decide) (by decide) rfl ?_
        show Q_rm1 Z a1 p2 w_CLUSTERED w_UNDECLARED h0 n0 _ T3.heap _
        rw [e3]
        exact ⟨by simp only [clF, if_neg c4_2, if_pos c11_4, if_neg c15_5], N0, rfl⟩
    · refine Go.st (fun t k => Jvm.RoadKit.acmp (g := (mkF m 11 #[.val (.ref a1), .val (.int p2)] [(.ref w_UNDECLARED), (.ref a1)])) X3 hx rfl rfl rfl (pc0 := 11) (pc' := 22) (same := false) rfl (hb hby d1_11) rfl (decide_eq_false fun q => c11_4 (Value.ref.inj q)) (by decide) (by decide) k) ?_
      show Go _ _ _ _ _ _ _  T3 (mkF m 22 #[.val (.ref a1), .val (.int p2)] [])
      refine Go.st (fun t k => XS.iconst X3.here hx rfl (hb hby d1_22) k) ?_
      show Go _ _ _ _ _ _ _  T3 (mkF m 23 #[.val (.ref a1), .val (.int p2)] [(.int (0 : Int32))])
      refine Go.retN X3 hlk hx (t := .boolean) (z' := (0 : Int32)) Bd.returns (by simp) (hb hby d1_23) (by decide) (by decide) rfl ?_
      show Q_rm1 Z a1 p2 w_CLUSTERED w_UNDECLARED h0 n0 _ T3.heap _
      rw [e3]
      exact ⟨by simp only [clF, if_neg c4_2, if_neg c11_4], N0, rfl⟩
def Q_rm0 (Z : State) (p1 : Int32) (w_UNDECLARED : Addr) (w_CLUSTERED : Addr) (w_NONCLUSTERED : Addr) (h0 : Heap) (n0 : Nat) (v : Option Value) (h : Heap) (L : List Loc) : Prop := v = some (.int (1 : Int32)) ∧ Fr n0 L
set_option maxRecDepth 65536 in
set_option maxHeartbeats 40000000 in
theorem rm0 (l : Launch) (Z : State) (a0 : Array Value) (hw : ∀ d ∈ tables_1, d.before a0 Z = true) (ws : List Jvm.Cond) (p1 : Int32) (w_UNDECLARED : Addr) (w_CLUSTERED : Addr) (w_NONCLUSTERED : Addr) (h0 : Heap) (n0 : Nat) (O : Old Z n0 h0) (S_UNDECLARED : Sta Z Z.heap "com/example/keywarden/keywarden/core/Clustering" "UNDECLARED" "Lcom/example/keywarden/keywarden/core/Clustering;" (.ref w_UNDECLARED)) (S_CLUSTERED : Sta Z Z.heap "com/example/keywarden/keywarden/core/Clustering" "CLUSTERED" "Lcom/example/keywarden/keywarden/core/Clustering;" (.ref w_CLUSTERED)) (S_NONCLUSTERED : Sta Z Z.heap "com/example/keywarden/keywarden/core/Clustering" "NONCLUSTERED" "Lcom/example/keywarden/keywarden/core/Clustering;" (.ref w_NONCLUSTERED)) (E_UNDECLARED : Exa Z Z.heap w_UNDECLARED "com/example/keywarden/keywarden/core/Clustering") (E_CLUSTERED : Exa Z Z.heap w_CLUSTERED "com/example/keywarden/keywarden/core/Clustering") (E_NONCLUSTERED : Exa Z Z.heap w_NONCLUSTERED "com/example/keywarden/keywarden/core/Clustering") (n1 : w_UNDECLARED ≠ w_CLUSTERED) (n2 : w_UNDECLARED ≠ w_NONCLUSTERED) (n3 : w_CLUSTERED ≠ w_NONCLUSTERED) :
    MetFree l x (head1 (Jvm.Cond.code x code maxLocals ret :: ws) room_1) (fun a U => a = #[(.int p1)] ∧ Z.Warmed39 U.vm ∧ U.heap = h0) (fun _ _ _ _ _ => True) (fun _ U o U' => ∃ v L, o = .returned v ∧ Q_rm0 Z p1 w_UNDECLARED w_CLUSTERED w_NONCLUSTERED h0 n0 v U'.heap L ∧ FrameEnd U o U' L room_1.cells room_1.slots) := by
  refine MetFree.of_bodySF (plainFor_of_name pn_0) hisR ?_
  intro p e s m args below meth c s₁ Bd hml0 hP hK
  obtain ⟨rfl, hZ, hh⟩ := hP
  have hx := Bd.exec
  have hby := Bd.bytes
  have hml : c.maxLocals = 5 := hml0
  have hown : s.vm.findClass "com/example/keywarden/keywarden/core/ClusteringClusteredPinLaw" = some m.cls := findClass_of_methodNamed Bd.named
  have hnm := (name_of_methodNamed Bd.named Bd.method).1
  have hlk : meth.locks = false := BodyLoose.notSynchronized Bd
  have X0 : Stand p l e room_1 s m #[(.int p1)] below meth c s₁ [] 0 0 := Stand.of_body Bd
  have e0 : s₁.heap = h0 := by rw [← hh, Bd.state]; rfl
  have N0 := Fr.nil n0
  show Go p e below s room_1.cells room_1.slots (Q_rm0 Z p1 w_UNDECLARED w_CLUSTERED w_NONCLUSTERED h0 n0) s₁ (entryFrame m #[(.int p1)] maxLocals)
  refine Go.eq (ef_rm0 m p1) ?_
  show Go _ _ _ _ _ _ _  s₁ (mkF m 0 #[.val (.int p1), .unset, .unset, .unset, .unset] [])
  refine Go.st (fun t k => XS.iloadN X0.here hx rfl (hb hby at_0) rfl  k) ?_
  show Go _ _ _ _ _ _ _  s₁ (mkF m 1 #[.val (.int p1), .unset, .unset, .unset, .unset] [(.int p1)])
  refine Go.st (fun t k => XS.iconst X0.here hx rfl (hb hby at_1) k) ?_
  show Go _ _ _ _ _ _ _  s₁ (mkF m 2 #[.val (.int p1), .unset, .unset, .unset, .unset] [(.int (1 : Int32)), (.int p1)])
  refine Go.st (fun t k => XS.iand X0.here hx rfl (hb hby at_2) rfl k) ?_
  show Go _ _ _ _ _ _ _  s₁ (mkF m 3 #[.val (.int p1), .unset, .unset, .unset, .unset] [(.int (p1 &&& (1 : Int32)))])
  by_cases c3_1 : (p1 &&& (1 : Int32)) = (0 : Int32)
  · refine Go.st (fun t k => XS.ifYes X0.here hx rfl (pc0 := 3) (pc' := 10) rfl (hb hby at_3) rfl ((if0 _ _).trans (teq c3_1).1) (by decide) (by decide) k) ?_
    show Go _ _ _ _ _ _ _  s₁ (mkF m 10 #[.val (.int p1), .unset, .unset, .unset, .unset] [])
    refine Go.st (fun t k => XS.iconst X0.here hx rfl (hb hby at_10) k) ?_
    show Go _ _ _ _ _ _ _  s₁ (mkF m 11 #[.val (.int p1), .unset, .unset, .unset, .unset] [(.int (0 : Int32))])
    refine Go.st (fun t k => XS.istoreN X0.here hx rfl (hb hby at_11) rfl (l' := #[.val (.int p1), .val (.int (0 : Int32)), .unset, .unset, .unset]) rfl k) ?_
    show Go _ _ _ _ _ _ _  s₁ (mkF m 12 #[.val (.int p1), .val (.int (0 : Int32)), .unset, .unset, .unset] [])
    obtain ⟨T2, X2, e2, st2⟩ := getS2 X0 hx hZ hown (host := "") (Or.inl (hw _ (List.mem_of_getElem? (i := 0) rfl))) Via.refl e0 (S_UNDECLARED.ext O.2) (g := (mkF m 12 #[.val (.int p1), .val (.int (0 : Int32)), .unset, .unset, .unset] [])) rfl (hb hby at_12)
    refine Go.st st2 ?_
    show Go _ _ _ _ _ _ _  T2 (mkF m 15 #[.val (.int p1), .val (.int (0 : Int32)), .unset, .unset, .unset] [(.ref w_UNDECLARED)])
    refine Go.st (fun t k => XS.iloadN X2.here hx rfl (hb hby at_15) rfl  k) ?_
    show Go _ _ _ _ _ _ _  T2 (mkF m 16 #[.val (.int p1), .val (.int (0 : Int32)), .unset, .unset, .unset] [(.int (0 : Int32)), (.ref w_UNDECLARED)])
    obtain ⟨cq3, kq3, q3a, q3b, q3c⟩ := isOf hZ e2 (E_UNDECLARED.ext O.2)
    obtain ⟨_, _, ⟨T3, L3, k3, n3⟩, -, X3, ⟨Lc3, hQ3, l3, y3, z3⟩, st3⟩ := X2.virtualBack hx (y := (⟨"com/example/keywarden/keywarden/core/Clustering", "clustered", "(Z)Z"⟩ : MethodName)) (z := (⟨"com/example/keywarden/keywarden/core/Clustering", "clustered", "(Z)Z"⟩ : MethodName)) hown (mvT hZ (hw _ (List.mem_of_getElem? (i := 3) rfl))) (mvT hZ (hw _ (List.mem_of_getElem? (i := 4) rfl))) (notFace_of_selects (args := #[]) (mvT hZ (hw _ (List.mem_of_getElem? (i := 6) rfl)))) (mvT hZ (hw _ (List.mem_of_getElem? (i := 6) rfl))) (mvT hZ (hw _ (List.mem_of_getElem? (i := 5) rfl))) (by decide) (backOf (W := 0) (rm1 l Z a0 hw [] w_UNDECLARED (0 : Int32) w_CLUSTERED w_UNDECLARED h0 n0 O S_CLUSTERED S_UNDECLARED) hZ (hw _ (List.mem_of_getElem? (i := 7) rfl)) (hw _ (List.mem_of_getElem? (i := 1) rfl)) (by decide) (by decide)) q3a q3c (g := (mkF m 16 #[.val (.int p1), .val (.int (0 : Int32)), .unset, .unset, .unset] [(.int (0 : Int32)), (.ref w_UNDECLARED)])) rfl (by rw [hml]; rfl) (Steps.refl _) (argsL := [(.int (0 : Int32))]) (rest := []) (lenOf pd__Z_Z rfl) rfl (by show 2 * 0 + _ ≤ _; exact Nat.le_of_eq rfl) (hb hby at_16) (fun _ _ => ⟨rfl, e2, (by decide : 0 + 0 ≤ _), (by decide : 0 + 0 ≤ _)⟩)
    dsimp only [Pt.U, Pt.locs, Pt.cells, Pt.slots] at X3 l3 y3 z3 st3 hQ3
    subst l3 y3 z3
    obtain ⟨rfl, N3q, e3q⟩ := hQ3
    have N3 := Fr.app N0 N3q
    refine Go.tr st3 ?_
    rw [show clF w_UNDECLARED w_CLUSTERED w_UNDECLARED (0 : Int32) = (0 : Int32) from by simp [clF, n1, n2, n3, n1.symm, n2.symm, n3.symm]]
    show Go _ _ _ _ _ _ _  T3 (mkF m 19 #[.val (.int p1), .val (.int (0 : Int32)), .unset, .unset, .unset] [(.int (0 : Int32))])
    refine Go.st (fun t k => XS.istoreN X3.here hx rfl (hb hby at_19) rfl (l' := #[.val (.int p1), .val (.int (0 : Int32)), .val (.int (0 : Int32)), .unset, .unset]) rfl k) ?_
    show Go _ _ _ _ _ _ _  T3 (mkF m 20 #[.val (.int p1), .val (.int (0 : Int32)), .val (.int (0 : Int32)), .unset, .unset] [])
    obtain ⟨T4, X4, e4, st4⟩ := getS2 X3 hx hZ hown (host := "") (Or.inl (hw _ (List.mem_of_getElem? (i := 11) rfl))) Via.refl e3q (S_CLUSTERED.ext O.2) (g := (mkF m 20 #[.val (.int p1), .val (.int (0 : Int32)), .val (.int (0 : Int32)), .unset, .unset] [])) rfl (hb hby at_20)
    refine Go.st st4 ?_
    show Go _ _ _ _ _ _ _  T4 (mkF m 23 #[.val (.int p1), .val (.int (0 : Int32)), .val (.int (0 : Int32)), .unset, .unset] [(.ref w_CLUSTERED)])
    refine Go.st (fun t k => XS.iloadN X4.here hx rfl (hb hby at_23) rfl  k) ?_
    show Go _ _ _ _ _ _ _  T4 (mkF m 24 #[.val (.int p1), .val (.int (0 : Int32)), .val (.int (0 : Int32)), .unset, .unset] [(.int (0 : Int32)), (.ref w_CLUSTERED)])
    obtain ⟨cq5, kq5, q5a, q5b, q5c⟩ := isOf hZ e4 (E_CLUSTERED.ext O.2)
    obtain ⟨_, _, ⟨T5, L5, k5, n5⟩, -, X5, ⟨Lc5, hQ5, l5, y5, z5⟩, st5⟩ := X4.virtualBack hx (y := (⟨"com/example/keywarden/keywarden/core/Clustering", "clustered", "(Z)Z"⟩ : MethodName)) (z := (⟨"com/example/keywarden/keywarden/core/Clustering", "clustered", "(Z)Z"⟩ : MethodName)) hown (mvT hZ (hw _ (List.mem_of_getElem? (i := 3) rfl))) (mvT hZ (hw _ (List.mem_of_getElem? (i := 4) rfl))) (notFace_of_selects (args := #[]) (mvT hZ (hw _ (List.mem_of_getElem? (i := 6) rfl)))) (mvT hZ (hw _ (List.mem_of_getElem? (i := 6) rfl))) (mvT hZ (hw _ (List.mem_of_getElem? (i := 5) rfl))) (by decide) (backOf (W := 0) (rm1 l Z a0 hw [] w_CLUSTERED (0 : Int32) w_CLUSTERED w_UNDECLARED h0 n0 O S_CLUSTERED S_UNDECLARED) hZ (hw _ (List.mem_of_getElem? (i := 7) rfl)) (hw _ (List.mem_of_getElem? (i := 1) rfl)) (by decide) (by decide)) q5a q5c (g := (mkF m 24 #[.val (.int p1), .val (.int (0 : Int32)), .val (.int (0 : Int32)), .unset, .unset] [(.int (0 : Int32)), (.ref w_CLUSTERED)])) rfl (by rw [hml]; rfl) (Steps.refl _) (argsL := [(.int (0 : Int32))]) (rest := []) (lenOf pd__Z_Z rfl) rfl (by show 2 * 0 + _ ≤ _; exact Nat.le_of_eq rfl) (hb hby at_24) (fun _ _ => ⟨rfl, e4, (by decide : 0 + 0 ≤ _), (by decide : 0 + 0 ≤ _)⟩)
    dsimp only [Pt.U, Pt.locs, Pt.cells, Pt.slots] at X5 l5 y5 z5 st5 hQ5
    subst l5 y5 z5
    obtain ⟨rfl, N5q, e5q⟩ := hQ5
    have N5 := Fr.app N3 N5q
    refine Go.tr st5 ?_
    rw [show clF w_CLUSTERED w_CLUSTERED w_UNDECLARED (0 : Int32) = (1 : Int32) from by simp [clF, n1, n2, n3, n1.symm, n2.symm, n3.symm]]
    show Go _ _ _ _ _ _ _  T5 (mkF m 27 #[.val (.int p1), .val (.int (0 : Int32)), .val (.int (0 : Int32)), .unset, .unset] [(.int (1 : Int32))])
    refine Go.st (fun t k => XS.istoreN X5.here hx rfl (hb hby at_27) rfl (l' := #[.val (.int p1), .val (.int (0 : Int32)), .val (.int (0 : Int32)), .val (.int (1 : Int32)), .unset]) rfl k) ?_
    show Go _ _ _ _ _ _ _  T5 (mkF m 28 #[.val (.int p1), .val (.int (0 : Int32)), .val (.int (0 : Int32)), .val (.int (1 : Int32)), .unset] [])
    obtain ⟨T6, X6, e6, st6⟩ := getS2 X5 hx hZ hown (host := "") (Or.inl (hw _ (List.mem_of_getElem? (i := 12) rfl))) Via.refl e5q (S_NONCLUSTERED.ext O.2) (g := (mkF m 28 #[.val (.int p1), .val (.int (0 : Int32)), .val (.int (0 : Int32)), .val (.int (1 : Int32)), .unset] [])) rfl (hb hby at_28)
    refine Go.st st6 ?_
    show Go _ _ _ _ _ _ _  T6 (mkF m 31 #[.val (.int p1), .val (.int (0 : Int32)), .val (.int (0 : Int32)), .val (.int (1 : Int32)), .unset] [(.ref w_NONCLUSTERED)])
    refine Go.st (fun t k => XS.iloadN X6.here hx rfl (hb hby at_31) rfl  k) ?_
    show Go _ _ _ _ _ _ _  T6 (mkF m 32 #[.val (.int p1), .val (.int (0 : Int32)), .val (.int (0 : Int32)), .val (.int (1 : Int32)), .unset] [(.int (0 : Int32)), (.ref w_NONCLUSTERED)])
    obtain ⟨cq7, kq7, q7a, q7b, q7c⟩ := isOf hZ e6 (E_NONCLUSTERED.ext O.2)
    obtain ⟨_, _, ⟨T7, L7, k7, n7⟩, -, X7, ⟨Lc7, hQ7, l7, y7, z7⟩, st7⟩ := X6.virtualBack hx (y := (⟨"com/example/keywarden/keywarden/core/Clustering", "clustered", "(Z)Z"⟩ : MethodName)) (z := (⟨"com/example/keywarden/keywarden/core/Clustering", "clustered", "(Z)Z"⟩ : MethodName)) hown (mvT hZ (hw _ (List.mem_of_getElem? (i := 3) rfl))) (mvT hZ (hw _ (List.mem_of_getElem? (i := 4) rfl))) (notFace_of_selects (args := #[]) (mvT hZ (hw _ (List.mem_of_getElem? (i := 6) rfl)))) (mvT hZ (hw _ (List.mem_of_getElem? (i := 6) rfl))) (mvT hZ (hw _ (List.mem_of_getElem? (i := 5) rfl))) (by decide) (backOf (W := 0) (rm1 l Z a0 hw [] w_NONCLUSTERED (0 : Int32) w_CLUSTERED w_UNDECLARED h0 n0 O S_CLUSTERED S_UNDECLARED) hZ (hw _ (List.mem_of_getElem? (i := 7) rfl)) (hw _ (List.mem_of_getElem? (i := 1) rfl)) (by decide) (by decide)) q7a q7c (g := (mkF m 32 #[.val (.int p1), .val (.int (0 : Int32)), .val (.int (0 : Int32)), .val (.int (1 : Int32)), .unset] [(.int (0 : Int32)), (.ref w_NONCLUSTERED)])) rfl (by rw [hml]; rfl) (Steps.refl _) (argsL := [(.int (0 : Int32))]) (rest := []) (lenOf pd__Z_Z rfl) rfl (by show 2 * 0 + _ ≤ _; exact Nat.le_of_eq rfl) (hb hby at_32) (fun _ _ => ⟨rfl, e6, (by decide : 0 + 0 ≤ _), (by decide : 0 + 0 ≤ _)⟩)
    dsimp only [Pt.U, Pt.locs, Pt.cells, Pt.slots] at X7 l7 y7 z7 st7 hQ7
    subst l7 y7 z7
    obtain ⟨rfl, N7q, e7q⟩ := hQ7
    have N7 := Fr.app N5 N7q
    refine Go.tr st7 ?_
    rw [show clF w_NONCLUSTERED w_CLUSTERED w_UNDECLARED (0 : Int32) = (0 : Int32) from by simp [clF, n1, n2, n3, n1.symm, n2.symm, n3.symm]]
    show Go _ _ _ _ _ _ _  T7 (mkF m 35 #[.val (.int p1), .val (.int (0 : Int32)), .val (.int (0 : Int32)), .val (.int (1 : Int32)), .unset] [(.int (0 : Int32))])
    refine Go.st (fun t k => XS.istore X7.here hx rfl (hb hby at_35) rfl (l' := #[.val (.int p1), .val (.int (0 : Int32)), .val (.int (0 : Int32)), .val (.int (1 : Int32)), .val (.int (0 : Int32))]) rfl k) ?_
    show Go _ _ _ _ _ _ _  T7 (mkF m 37 #[.val (.int p1), .val (.int (0 : Int32)), .val (.int (0 : Int32)), .val (.int (1 : Int32)), .val (.int (0 : Int32))] [])
    refine Go.st (fun t k => XS.iloadN X7.here hx rfl (hb hby at_37) rfl  k) ?_
    show Go _ _ _ _ _ _ _  T7 (mkF m 38 #[.val (.int p1), .val (.int (0 : Int32)), .val (.int (0 : Int32)), .val (.int (1 : Int32)), .val (.int (0 : Int32))] [(.int (0 : Int32))])
    refine Go.st (fun t k => XS.iloadN X7.here hx rfl (hb hby at_38) rfl  k) ?_
    show Go _ _ _ _ _ _ _  T7 (mkF m 39 #[.val (.int p1), .val (.int (0 : Int32)), .val (.int (0 : Int32)), .val (.int (1 : Int32)), .val (.int (0 : Int32))] [(.int (0 : Int32)), (.int (0 : Int32))])
    refine Go.st (fun t k => XS.icmpNo X7.here hx rfl (hb hby at_39) rfl (teq (rfl : (0 : Int32) = (0 : Int32))).2 k) ?_
    show Go _ _ _ _ _ _ _  T7 (mkF m 42 #[.val (.int p1), .val (.int (0 : Int32)), .val (.int (0 : Int32)), .val (.int (1 : Int32)), .val (.int (0 : Int32))] [])
    refine Go.st (fun t k => XS.iloadN X7.here hx rfl (hb hby at_42) rfl  k) ?_
    show Go _ _ _ _ _ _ _  T7 (mkF m 43 #[.val (.int p1), .val (.int (0 : Int32)), .val (.int (0 : Int32)), .val (.int (1 : Int32)), .val (.int (0 : Int32))] [(.int (1 : Int32))])
    refine Go.st (fun t k => XS.ifNo X7.here hx rfl (hb hby at_43) rfl ((if0 _ _).trans (feq (by decide : ¬ ((1 : Int32) = (0 : Int32)))).1) k) ?_
    show Go _ _ _ _ _ _ _  T7 (mkF m 46 #[.val (.int p1), .val (.int (0 : Int32)), .val (.int (0 : Int32)), .val (.int (1 : Int32)), .val (.int (0 : Int32))] [])
    refine Go.st (fun t k => XS.iload X7.here hx rfl (hb hby at_46) rfl  k) ?_
    show Go _ _ _ _ _ _ _  T7 (mkF m 48 #[.val (.int p1), .val (.int (0 : Int32)), .val (.int (0 : Int32)), .val (.int (1 : Int32)), .val (.int (0 : Int32))] [(.int (0 : Int32))])
    refine Go.st (fun t k => XS.ifNo X7.here hx rfl (hb hby at_48) rfl ((if0 _ _).trans (teq (rfl : (0 : Int32) = (0 : Int32))).2) k) ?_
    show Go _ _ _ _ _ _ _  T7 (mkF m 51 #[.val (.int p1), .val (.int (0 : Int32)), .val (.int (0 : Int32)), .val (.int (1 : Int32)), .val (.int (0 : Int32))] [])
    refine Go.st (fun t k => XS.iconst X7.here hx rfl (hb hby at_51) k) ?_
    show Go _ _ _ _ _ _ _  T7 (mkF m 52 #[.val (.int p1), .val (.int (0 : Int32)), .val (.int (0 : Int32)), .val (.int (1 : Int32)), .val (.int (0 : Int32))] [(.int (1 : Int32))])
    refine Go.st (fun t k => XS.goto X7.here hx rfl (pc0 := 52) (pc' := 56) rfl (hb hby at_52) (by decide) (by decide) k) ?_
    show Go _ _ _ _ _ _ _  T7 (mkF m 56 #[.val (.int p1), .val (.int (0 : Int32)), .val (.int (0 : Int32)), .val (.int (1 : Int32)), .val (.int (0 : Int32))] [(.int (1 : Int32))])
    refine Go.retN X7 hlk hx (t := .boolean) (z' := (1 : Int32)) Bd.returns (by simp) (hb hby at_56) (by decide) (by decide) rfl ?_
    show Q_rm0 Z p1 w_UNDECLARED w_CLUSTERED w_NONCLUSTERED h0 n0 _ T7.heap _
    rw [e7q]
    exact ⟨rfl, N7⟩
  · refine Go.st (fun t k => XS.ifNo X0.here hx rfl (hb hby at_3) rfl ((if0 _ _).trans (feq c3_1).1) k) ?_
    show Go _ _ _ _ _ _ _  s₁ (mkF m 6 #[.val (.int p1), .unset, .unset, .unset, .unset] [])
    refine Go.st (fun t k => XS.iconst X0.here hx rfl (hb hby at_6) k) ?_
    show Go _ _ _ _ _ _ _  s₁ (mkF m 7 #[.val (.int p1), .unset, .unset, .unset, .unset] [(.int (1 : Int32))])
    refine Go.st (fun t k => XS.goto X0.here hx rfl (pc0 := 7) (pc' := 11) rfl (hb hby at_7) (by decide) (by decide) k) ?_
    show Go _ _ _ _ _ _ _  s₁ (mkF m 11 #[.val (.int p1), .unset, .unset, .unset, .unset] [(.int (1 : Int32))])
    refine Go.st (fun t k => XS.istoreN X0.here hx rfl (hb hby at_11) rfl (l' := #[.val (.int p1), .val (.int (1 : Int32)), .unset, .unset, .unset]) rfl k) ?_
    show Go _ _ _ _ _ _ _  s₁ (mkF m 12 #[.val (.int p1), .val (.int (1 : Int32)), .unset, .unset, .unset] [])
    obtain ⟨T8, X8, e8, st8⟩ := getS2 X0 hx hZ hown (host := "") (Or.inl (hw _ (List.mem_of_getElem? (i := 0) rfl))) Via.refl e0 (S_UNDECLARED.ext O.2) (g := (mkF m 12 #[.val (.int p1), .val (.int (1 : Int32)), .unset, .unset, .unset] [])) rfl (hb hby at_12)
    refine Go.st st8 ?_
    show Go _ _ _ _ _ _ _  T8 (mkF m 15 #[.val (.int p1), .val (.int (1 : Int32)), .unset, .unset, .unset] [(.ref w_UNDECLARED)])
    refine Go.st (fun t k => XS.iloadN X8.here hx rfl (hb hby at_15) rfl  k) ?_
    show Go _ _ _ _ _ _ _  T8 (mkF m 16 #[.val (.int p1), .val (.int (1 : Int32)), .unset, .unset, .unset] [(.int (1 : Int32)), (.ref w_UNDECLARED)])
    obtain ⟨cq9, kq9, q9a, q9b, q9c⟩ := isOf hZ e8 (E_UNDECLARED.ext O.2)
    obtain ⟨_, _, ⟨T9, L9, k9, n9⟩, -, X9, ⟨Lc9, hQ9, l9, y9, z9⟩, st9⟩ := X8.virtualBack hx (y := (⟨"com/example/keywarden/keywarden/core/Clustering", "clustered", "(Z)Z"⟩ : MethodName)) (z := (⟨"com/example/keywarden/keywarden/core/Clustering", "clustered", "(Z)Z"⟩ : MethodName)) hown (mvT hZ (hw _ (List.mem_of_getElem? (i := 3) rfl))) (mvT hZ (hw _ (List.mem_of_getElem? (i := 4) rfl))) (notFace_of_selects (args := #[]) (mvT hZ (hw _ (List.mem_of_getElem? (i := 6) rfl)))) (mvT hZ (hw _ (List.mem_of_getElem? (i := 6) rfl))) (mvT hZ (hw _ (List.mem_of_getElem? (i := 5) rfl))) (by decide) (backOf (W := 0) (rm1 l Z a0 hw [] w_UNDECLARED (1 : Int32) w_CLUSTERED w_UNDECLARED h0 n0 O S_CLUSTERED S_UNDECLARED) hZ (hw _ (List.mem_of_getElem? (i := 7) rfl)) (hw _ (List.mem_of_getElem? (i := 1) rfl)) (by decide) (by decide)) q9a q9c (g := (mkF m 16 #[.val (.int p1), .val (.int (1 : Int32)), .unset, .unset, .unset] [(.int (1 : Int32)), (.ref w_UNDECLARED)])) rfl (by rw [hml]; rfl) (Steps.refl _) (argsL := [(.int (1 : Int32))]) (rest := []) (lenOf pd__Z_Z rfl) rfl (by show 2 * 0 + _ ≤ _; exact Nat.le_of_eq rfl) (hb hby at_16) (fun _ _ => ⟨rfl, e8, (by decide : 0 + 0 ≤ _), (by decide : 0 + 0 ≤ _)⟩)
    dsimp only [Pt.U, Pt.locs, Pt.cells, Pt.slots] at X9 l9 y9 z9 st9 hQ9
    subst l9 y9 z9
    obtain ⟨rfl, N9q, e9q⟩ := hQ9
    have N9 := Fr.app N0 N9q
    refine Go.tr st9 ?_
    rw [show clF w_UNDECLARED w_CLUSTERED w_UNDECLARED (1 : Int32) = (1 : Int32) from by simp [clF, n1, n2, n3, n1.symm, n2.symm, n3.symm]]
    show Go _ _ _ _ _ _ _  T9 (mkF m 19 #[.val (.int p1), .val (.int (1 : Int32)), .unset, .unset, .unset] [(.int (1 : Int32))])
    refine Go.st (fun t k => XS.istoreN X9.here hx rfl (hb hby at_19) rfl (l' := #[.val (.int p1), .val (.int (1 : Int32)), .val (.int (1 : Int32)), .unset, .unset]) rfl k) ?_
    show Go _ _ _ _ _ _ _  T9 (mkF m 20 #[.val (.int p1), .val (.int (1 : Int32)), .val (.int (1 : Int32)), .unset, .unset] [])
    obtain ⟨T10, X10, e10, st10⟩ := getS2 X9 hx hZ hown (host := "") (Or.inl (hw _ (List.mem_of_getElem? (i := 11) rfl))) Via.refl e9q (S_CLUSTERED.ext O.2) (g := (mkF m 20 #[.val (.int p1), .val (.int (1 : Int32)), .val (.int (1 : Int32)), .unset, .unset] [])) rfl (hb hby at_20)
    refine Go.st st10 ?_
    show Go _ _ _ _ _ _ _  T10 (mkF m 23 #[.val (.int p1), .val (.int (1 : Int32)), .val (.int (1 : Int32)), .unset, .unset] [(.ref w_CLUSTERED)])
    refine Go.st (fun t k => XS.iloadN X10.here hx rfl (hb hby at_23) rfl  k) ?_
    show Go _ _ _ _ _ _ _  T10 (mkF m 24 #[.val (.int p1), .val (.int (1 : Int32)), .val (.int (1 : Int32)), .unset, .unset] [(.int (1 : Int32)), (.ref w_CLUSTERED)])
    obtain ⟨cq11, kq11, q11a, q11b, q11c⟩ := isOf hZ e10 (E_CLUSTERED.ext O.2)
    obtain ⟨_, _, ⟨T11, L11, k11, n11⟩, -, X11, ⟨Lc11, hQ11, l11, y11, z11⟩, st11⟩ := X10.virtualBack hx (y := (⟨"com/example/keywarden/keywarden/core/Clustering", "clustered", "(Z)Z"⟩ : MethodName)) (z := (⟨"com/example/keywarden/keywarden/core/Clustering", "clustered", "(Z)Z"⟩ : MethodName)) hown (mvT hZ (hw _ (List.mem_of_getElem? (i := 3) rfl))) (mvT hZ (hw _ (List.mem_of_getElem? (i := 4) rfl))) (notFace_of_selects (args := #[]) (mvT hZ (hw _ (List.mem_of_getElem? (i := 6) rfl)))) (mvT hZ (hw _ (List.mem_of_getElem? (i := 6) rfl))) (mvT hZ (hw _ (List.mem_of_getElem? (i := 5) rfl))) (by decide) (backOf (W := 0) (rm1 l Z a0 hw [] w_CLUSTERED (1 : Int32) w_CLUSTERED w_UNDECLARED h0 n0 O S_CLUSTERED S_UNDECLARED) hZ (hw _ (List.mem_of_getElem? (i := 7) rfl)) (hw _ (List.mem_of_getElem? (i := 1) rfl)) (by decide) (by decide)) q11a q11c (g := (mkF m 24 #[.val (.int p1), .val (.int (1 : Int32)), .val (.int (1 : Int32)), .unset, .unset] [(.int (1 : Int32)), (.ref w_CLUSTERED)])) rfl (by rw [hml]; rfl) (Steps.refl _) (argsL := [(.int (1 : Int32))]) (rest := []) (lenOf pd__Z_Z rfl) rfl (by show 2 * 0 + _ ≤ _; exact Nat.le_of_eq rfl) (hb hby at_24) (fun _ _ => ⟨rfl, e10, (by decide : 0 + 0 ≤ _), (by decide : 0 + 0 ≤ _)⟩)
    dsimp only [Pt.U, Pt.locs, Pt.cells, Pt.slots] at X11 l11 y11 z11 st11 hQ11
    subst l11 y11 z11
    obtain ⟨rfl, N11q, e11q⟩ := hQ11
    have N11 := Fr.app N9 N11q
    refine Go.tr st11 ?_
    rw [show clF w_CLUSTERED w_CLUSTERED w_UNDECLARED (1 : Int32) = (1 : Int32) from by simp [clF, n1, n2, n3, n1.symm, n2.symm, n3.symm]]
    show Go _ _ _ _ _ _ _  T11 (mkF m 27 #[.val (.int p1), .val (.int (1 : Int32)), .val (.int (1 : Int32)), .unset, .unset] [(.int (1 : Int32))])
    refine Go.st (fun t k => XS.istoreN X11.here hx rfl (hb hby at_27) rfl (l' := #[.val (.int p1), .val (.int (1 : Int32)), .val (.int (1 : Int32)), .val (.int (1 : Int32)), .unset]) rfl k) ?_
    show Go _ _ _ _ _ _ _  T11 (mkF m 28 #[.val (.int p1), .val (.int (1 : Int32)), .val (.int (1 : Int32)), .val (.int (1 : Int32)), .unset] [])
    obtain ⟨T12, X12, e12, st12⟩ := getS2 X11 hx hZ hown (host := "") (Or.inl (hw _ (List.mem_of_getElem? (i := 12) rfl))) Via.refl e11q (S_NONCLUSTERED.ext O.2) (g := (mkF m 28 #[.val (.int p1), .val (.int (1 : Int32)), .val (.int (1 : Int32)), .val (.int (1 : Int32)), .unset] [])) rfl (hb hby at_28)
    refine Go.st st12 ?_
    show Go _ _ _ _ _ _ _  T12 (mkF m 31 #[.val (.int p1), .val (.int (1 : Int32)), .val (.int (1 : Int32)), .val (.int (1 : Int32)), .unset] [(.ref w_NONCLUSTERED)])
    refine Go.st (fun t k => XS.iloadN X12.here hx rfl (hb hby at_31) rfl  k) ?_
    show Go _ _ _ _ _ _ _  T12 (mkF m 32 #[.val (.int p1), .val (.int (1 : Int32)), .val (.int (1 : Int32)), .val (.int (1 : Int32)), .unset] [(.int (1 : Int32)), (.ref w_NONCLUSTERED)])
    obtain ⟨cq13, kq13, q13a, q13b, q13c⟩ := isOf hZ e12 (E_NONCLUSTERED.ext O.2)
    obtain ⟨_, _, ⟨T13, L13, k13, n13⟩, -, X13, ⟨Lc13, hQ13, l13, y13, z13⟩, st13⟩ := X12.virtualBack hx (y := (⟨"com/example/keywarden/keywarden/core/Clustering", "clustered", "(Z)Z"⟩ : MethodName)) (z := (⟨"com/example/keywarden/keywarden/core/Clustering", "clustered", "(Z)Z"⟩ : MethodName)) hown (mvT hZ (hw _ (List.mem_of_getElem? (i := 3) rfl))) (mvT hZ (hw _ (List.mem_of_getElem? (i := 4) rfl))) (notFace_of_selects (args := #[]) (mvT hZ (hw _ (List.mem_of_getElem? (i := 6) rfl)))) (mvT hZ (hw _ (List.mem_of_getElem? (i := 6) rfl))) (mvT hZ (hw _ (List.mem_of_getElem? (i := 5) rfl))) (by decide) (backOf (W := 0) (rm1 l Z a0 hw [] w_NONCLUSTERED (1 : Int32) w_CLUSTERED w_UNDECLARED h0 n0 O S_CLUSTERED S_UNDECLARED) hZ (hw _ (List.mem_of_getElem? (i := 7) rfl)) (hw _ (List.mem_of_getElem? (i := 1) rfl)) (by decide) (by decide)) q13a q13c (g := (mkF m 32 #[.val (.int p1), .val (.int (1 : Int32)), .val (.int (1 : Int32)), .val (.int (1 : Int32)), .unset] [(.int (1 : Int32)), (.ref w_NONCLUSTERED)])) rfl (by rw [hml]; rfl) (Steps.refl _) (argsL := [(.int (1 : Int32))]) (rest := []) (lenOf pd__Z_Z rfl) rfl (by show 2 * 0 + _ ≤ _; exact Nat.le_of_eq rfl) (hb hby at_32) (fun _ _ => ⟨rfl, e12, (by decide : 0 + 0 ≤ _), (by decide : 0 + 0 ≤ _)⟩)
    dsimp only [Pt.U, Pt.locs, Pt.cells, Pt.slots] at X13 l13 y13 z13 st13 hQ13
    subst l13 y13 z13
    obtain ⟨rfl, N13q, e13q⟩ := hQ13
    have N13 := Fr.app N11 N13q
    refine Go.tr st13 ?_
    rw [show clF w_NONCLUSTERED w_CLUSTERED w_UNDECLARED (1 : Int32) = (0 : Int32) from by simp [clF, n1, n2, n3, n1.symm, n2.symm, n3.symm]]
    show Go _ _ _ _ _ _ _  T13 (mkF m 35 #[.val (.int p1), .val (.int (1 : Int32)), .val (.int (1 : Int32)), .val (.int (1 : Int32)), .unset] [(.int (0 : Int32))])
    refine Go.st (fun t k => XS.istore X13.here hx rfl (hb hby at_35) rfl (l' := #[.val (.int p1), .val (.int (1 : Int32)), .val (.int (1 : Int32)), .val (.int (1 : Int32)), .val (.int (0 : Int32))]) rfl k) ?_
    show Go _ _ _ _ _ _ _  T13 (mkF m 37 #[.val (.int p1), .val (.int (1 : Int32)), .val (.int (1 : Int32)), .val (.int (1 : Int32)), .val (.int (0 : Int32))] [])
    refine Go.st (fun t k => XS.iloadN X13.here hx rfl (hb hby at_37) rfl  k) ?_
    show Go _ _ _ _ _ _ _  T13 (mkF m 38 #[.val (.int p1), .val (.int (1 : Int32)), .val (.int (1 : Int32)), .val (.int (1 : Int32)), .val (.int (0 : Int32))] [(.int (1 : Int32))])
    refine Go.st (fun t k => XS.iloadN X13.here hx rfl (hb hby at_38) rfl  k) ?_
    show Go _ _ _ _ _ _ _  T13 (mkF m 39 #[.val (.int p1), .val (.int (1 : Int32)), .val (.int (1 : Int32)), .val (.int (1 : Int32)), .val (.int (0 : Int32))] [(.int (1 : Int32)), (.int (1 : Int32))])
    refine Go.st (fun t k => XS.icmpNo X13.here hx rfl (hb hby at_39) rfl (teq (rfl : (1 : Int32) = (1 : Int32))).2 k) ?_
    show Go _ _ _ _ _ _ _  T13 (mkF m 42 #[.val (.int p1), .val (.int (1 : Int32)), .val (.int (1 : Int32)), .val (.int (1 : Int32)), .val (.int (0 : Int32))] [])
    refine Go.st (fun t k => XS.iloadN X13.here hx rfl (hb hby at_42) rfl  k) ?_
    show Go _ _ _ _ _ _ _  T13 (mkF m 43 #[.val (.int p1), .val (.int (1 : Int32)), .val (.int (1 : Int32)), .val (.int (1 : Int32)), .val (.int (0 : Int32))] [(.int (1 : Int32))])
    refine Go.st (fun t k => XS.ifNo X13.here hx rfl (hb hby at_43) rfl ((if0 _ _).trans (feq (by decide : ¬ ((1 : Int32) = (0 : Int32)))).1) k) ?_
    show Go _ _ _ _ _ _ _  T13 (mkF m 46 #[.val (.int p1), .val (.int (1 : Int32)), .val (.int (1 : Int32)), .val (.int (1 : Int32)), .val (.int (0 : Int32))] [])
    refine Go.st (fun t k => XS.iload X13.here hx rfl (hb hby at_46) rfl  k) ?_
    show Go _ _ _ _ _ _ _  T13 (mkF m 48 #[.val (.int p1), .val (.int (1 : Int32)), .val (.int (1 : Int32)), .val (.int (1 : Int32)), .val (.int (0 : Int32))] [(.int (0 : Int32))])
    refine Go.st (fun t k => XS.ifNo X13.here hx rfl (hb hby at_48) rfl ((if0 _ _).trans (teq (rfl : (0 : Int32) = (0 : Int32))).2) k) ?_
    show Go _ _ _ _ _ _ _  T13 (mkF m 51 #[.val (.int p1), .val (.int (1 : Int32)), .val (.int (1 : Int32)), .val (.int (1 : Int32)), .val (.int (0 : Int32))] [])
    refine Go.st (fun t k => XS.iconst X13.here hx rfl (hb hby at_51) k) ?_
    show Go _ _ _ _ _ _ _  T13 (mkF m 52 #[.val (.int p1), .val (.int (1 : Int32)), .val (.int (1 : Int32)), .val (.int (1 : Int32)), .val (.int (0 : Int32))] [(.int (1 : Int32))])
    refine Go.st (fun t k => XS.goto X13.here hx rfl (pc0 := 52) (pc' := 56) rfl (hb hby at_52) (by decide) (by decide) k) ?_
    show Go _ _ _ _ _ _ _  T13 (mkF m 56 #[.val (.int p1), .val (.int (1 : Int32)), .val (.int (1 : Int32)), .val (.int (1 : Int32)), .val (.int (0 : Int32))] [(.int (1 : Int32))])
    refine Go.retN X13 hlk hx (t := .boolean) (z' := (1 : Int32)) Bd.returns (by simp) (hb hby at_56) (by decide) (by decide) rfl ?_
    show Q_rm0 Z p1 w_UNDECLARED w_CLUSTERED w_NONCLUSTERED h0 n0 _ T13.heap _
    rw [e13q]
    exact ⟨rfl, N13⟩
set_option maxRecDepth 65536 in
set_option maxHeartbeats 40000000 in
theorem comes_1 {Post : Tables → Env → Array Value → State → Outcome → State → Prop} (hpost : ∀ tb e args s v u, (limb_1_1.after args s (.returned v) u = true ∧ limb_1_2.after args s (.returned v) u = true ∧ True) → FrameEnd s (.returned v) u (Jvm.fieldLocs frame_1_writes args s ++ Jvm.arrayLocs frame_1_arrays args s ++ Jvm.staticLocs frame_1_statics s) 0 0 → Post tb e args s (.returned v) u) :
    ArmFor flags0 classFile x code maxLocals ret World_1 tables_1 room_1 Calls_1 rest_1 Pre_1 Post := by
  intro l hfl _ _ p e ha hc hk s m args below hf hA hF happ hP
  obtain ⟨hcalls, hrest, hpre⟩ := hP
  obtain ⟨-, -, -, hnamed, -, -, -, hat⟩ := (Spec.applies_iff hf).mp happ
  obtain ⟨hg, hn⟩ := and_e (Cond.before_iff.mp (show (Jvm.Cond.and given_1 narrow_1).before args s = true from hpre))
  obtain ⟨g1, g2⟩ := and_e hg
  obtain ⟨w0, rfl⟩ : ∃ w0 : Value, args = #[w0] := by
    have hs : args.size = 1 := by simpa [Cond.value, given_1] using g1
    obtain ⟨L⟩ := args
    match L, hs with
    | [w0], _ => exact ⟨w0, rfl⟩
  have hw := fun d (hd : d ∈ tables_1) => atoms_spec (ws := Jvm.Cond.code x code maxLocals ret :: tables_1) hat d (List.mem_cons_of_mem _ hd)
  have hfit : Fit s := fun {y c} hc i hi => by
    obtain ⟨ha, rfl⟩ := Array.getElem?_eq_some_iff.mp hc
    have q := List.all_eq_true.mp ((Array.all_eq_true_iff_forall_mem.mp hF) _ (Array.getElem_mem ha)) i (List.mem_range.mpr hi)
    simpa [Array.getElem?_eq_getElem hi] using q
  obtain ⟨i0, ei0⟩ := is_v g2
  obtain rfl : w0 = (.int i0) := Option.some.inj ei0
  obtain ⟨nr1, nr2⟩ := and_e hn
  obtain ⟨nr3, nr4⟩ := and_e nr2
  obtain ⟨nr5, nr6⟩ := and_e nr4
  obtain ⟨nr7, nr8⟩ := and_e nr6
  obtain ⟨nr9, nr10⟩ := and_e nr8
  obtain ⟨w_UNDECLARED, S_UNDECLARED, E_UNDECLARED, O_UNDECLARED⟩ := own_en nr1 nr5 (hw _ (List.mem_of_getElem? (i := 1) rfl)) (hw _ (List.mem_of_getElem? (i := 2) rfl))
  obtain ⟨w_CLUSTERED, S_CLUSTERED, E_CLUSTERED, O_CLUSTERED⟩ := own_en nr3 nr7 (hw _ (List.mem_of_getElem? (i := 1) rfl)) (hw _ (List.mem_of_getElem? (i := 9) rfl))
  obtain ⟨w_NONCLUSTERED, S_NONCLUSTERED, E_NONCLUSTERED, O_NONCLUSTERED⟩ := own_en nr9 nr10 (hw _ (List.mem_of_getElem? (i := 1) rfl)) (hw _ (List.mem_of_getElem? (i := 13) rfl))
  obtain ⟨n, o, h1, h2, h3, _, L, rfl, ⟨rfl, N⟩, hq⟩ := rm0 l s _ hw tables_1 i0 w_UNDECLARED w_CLUSTERED w_NONCLUSTERED s.heap s.heap.size (Old.start s) S_UNDECLARED S_CLUSTERED S_NONCLUSTERED E_UNDECLARED E_CLUSTERED E_NONCLUSTERED (O_UNDECLARED.ne O_CLUSTERED (by simp)) (O_UNDECLARED.ne O_NONCLUSTERED (by simp)) (O_CLUSTERED.ne O_NONCLUSTERED (by simp)) p e ha hc hk s m _ below hf ((Spec.applies_iff_loose hf).mp happ).1 ⟨rfl, State.Warmed39.refl s, rfl⟩ trivial
  refine ⟨n, _, h1, h2, h3, hpost _ _ _ _ _ _ ⟨Cond.after_iff.mpr rfl, Cond.after_iff.mpr (eq_i res_at (Term.int_eval (1)) rfl), trivial⟩ ⟨hq.1, hq.2.1, (hq.2.2.sift fun y hy => Or.inr (N y hy)).mono (by decide) (by decide)⟩⟩
theorem main_1_1 : Claimed_1_1 := comes_1 fun _ _ _ _ _ _ h hF => ⟨h.1, hF⟩
theorem main_1_2 : Claimed_1_2 := comes_1 fun _ _ _ _ _ _ h hF => ⟨h.2.1, hF⟩
end Jvm.Pilot.@@N@@
namespace Jvm.Pilot.@@N@@
open Jvm Jvm.ClassFile Sem Op Lib Jvm.Free Jvm.Stand Jvm.Pilot.@@N@@.Jvm.D
/-! MADE BY PROGRAM (witnessworld.py) out of the Statement's table words and the real class files: 12 classes; the members and pool entries that the words name. The judged class is class 1, her method 1. -/
namespace start1
open Jvm.ClassFile
def u (s : String) : CpInfo := .utf8 (stringToUtf16 s)
/-- a pool by its gaps: so many unusable entries, then the entry; so many at the end -/
def gap : Nat → List CpInfo → List CpInfo
  | 0, r => r
  | n + 1, r => .unusable :: gap n r
def poolList (es : List (Nat × CpInfo)) (last : Nat) : List CpInfo := es.foldr (fun e r => gap e.1 (e.2 :: r)) (gap last [])
def pool (es : List (Nat × CpInfo)) (last : Nat) : Array CpInfo := ⟨poolList es last⟩
def fileOf (pool : Array CpInfo) (this : Nat) (attrs : Array Attribute := #[]) (ms : Array MethodInfo := #[]) (fl : Nat := 33) (sup : Nat := 0) (ifs : Array Nat := #[]) (fds : Array FieldInfo := #[]) : ClassFile where
  minorVersion := 0
  majorVersion := 65
  constantPool := pool
  accessFlags := fl
  thisClass := this
  superClass := sup
  interfaces := ifs
  fields := fds
  methods := ms
  attributes := attrs
def plain (name : String) (sup : Option ClassId) : Class where
  name := name
  kind := .ordinary
  loader := none
  accessFlags := 33
  super := sup
  interfaces := #[]
  cf := none
  fields := #[]
  methods := #[]
  instanceTypes := #[]
  staticTypes := #[]
  resolved := #[]
  callSites := []
  init := .initialized
  statics := none
  mirror := none

def pool0 : Array CpInfo := pool [(5, u "<init>"), (0, u "()V"), (1, .class_ 10), (1, u "java/lang/Object")] 113

def k0m0 : Method := { name := "<init>", desc := "()V", sig := { parameters := [], returnType := none }, accessFlags := 1, code := none }
/-- java/lang/Object -/
def k0 : Class := { plain "java/lang/Object" none with
  accessFlags := 33
  interfaces := #[]
  cf := some (fileOf pool0 8 #[] #[{ accessFlags := 1, nameIndex := 5, descriptorIndex := 6, attributes := #[] }] 33 0 #[] #[])
  fields := #[]
  methods := #[k0m0]
  instanceTypes := #[]
  staticTypes := #[]
  resolved := Array.replicate 124 none
  statics := none }

def pool1 : Array CpInfo := pool [(2, .class_ 4), (1, u "java/lang/Object"), (0, u "<init>"), (0, u "()V"), (0, .fieldref 8 9), (0, .class_ 10), (0, .nameAndType 11 12), (0, u "com/example/keywarden/keywarden/core/Clustering"), (0, u "UNDECLARED"), (0, u "Lcom/example/keywarden/keywarden/core/Clustering;"), (0, .methodref 8 14), (0, .nameAndType 15 16), (0, u "clustered"), (0, u "(Z)Z"), (0, .fieldref 8 18), (0, .nameAndType 19 12), (0, u "CLUSTERED"), (0, .fieldref 8 21), (0, .nameAndType 22 12), (0, u "NONCLUSTERED"), (0, .class_ 24), (0, u "com/example/keywarden/keywarden/core/ClusteringClusteredPinLaw"), (2, u "law"), (0, u "(I)Z")] 3

def k1m0 : Method := { name := "<init>", desc := "()V", sig := { parameters := [], returnType := none }, accessFlags := 1, code := none }
def k1c1 : Code := { maxStack := 2, maxLocals := 5, code := code, exceptionTable := #[], attributes := #[] }
def k1m1 : Method := { name := "law", desc := "(I)Z", sig := { parameters := [.int], returnType := some .boolean }, accessFlags := 9, code := some k1c1 }
/-- com/example/keywarden/keywarden/core/ClusteringClusteredPinLaw -/
def k1 : Class := { plain "com/example/keywarden/keywarden/core/ClusteringClusteredPinLaw" (some 0) with
  accessFlags := 49
  interfaces := #[]
  cf := some (fileOf pool1 23 #[] #[{ accessFlags := 1, nameIndex := 5, descriptorIndex := 6, attributes := #[] }, { accessFlags := 9, nameIndex := 27, descriptorIndex := 28, attributes := #[] }] 49 2 #[] #[])
  fields := #[]
  methods := #[k1m0, k1m1]
  instanceTypes := #[]
  staticTypes := #[]
  resolved := Array.replicate 32 none
  statics := none }

def pool2 : Array CpInfo := pool [(1, .class_ 2), (0, u "java/lang/constant/Constable"), (0, .class_ 4), (0, u "java/lang/Object")] 6

/-- java/lang/constant/Constable -/
def k2 : Class := { plain "java/lang/constant/Constable" (some 0) with
  accessFlags := 1537
  interfaces := #[]
  cf := some (fileOf pool2 1 #[] #[] 1537 3 #[] #[])
  fields := #[]
  methods := #[]
  instanceTypes := #[]
  staticTypes := #[]
  resolved := Array.replicate 11 none
  statics := none }

def pool3 : Array CpInfo := pool [(1, .class_ 2), (0, u "java/lang/Comparable"), (0, .class_ 4), (0, u "java/lang/Object")] 7

/-- java/lang/Comparable -/
def k3 : Class := { plain "java/lang/Comparable" (some 0) with
  accessFlags := 1537
  interfaces := #[]
  cf := some (fileOf pool3 1 #[] #[] 1537 3 #[] #[])
  fields := #[]
  methods := #[]
  instanceTypes := #[]
  staticTypes := #[]
  resolved := Array.replicate 12 none
  statics := none }

def pool4 : Array CpInfo := pool [(1, .class_ 2), (0, u "java/io/Serializable"), (0, .class_ 4), (0, u "java/lang/Object")] 2

/-- java/io/Serializable -/
def k4 : Class := { plain "java/io/Serializable" (some 0) with
  accessFlags := 1537
  interfaces := #[]
  cf := some (fileOf pool4 1 #[] #[] 1537 3 #[] #[])
  fields := #[]
  methods := #[]
  instanceTypes := #[]
  staticTypes := #[]
  resolved := Array.replicate 7 none
  statics := none }

def pool5 : Array CpInfo := pool [(2, .class_ 4), (1, u "java/lang/Enum"), (0, u "name"), (0, u "Ljava/lang/String;"), (2, u "ordinal"), (0, u "I"), (1, .class_ 14), (1, u "java/lang/Object"), (4, u "hash"), (86, .class_ 108), (1, u "java/lang/Enum$EnumDesc"), (2, .class_ 112), (0, u "java/lang/constant/Constable"), (0, .class_ 114), (0, u "java/lang/Comparable"), (0, .class_ 116), (0, u "java/io/Serializable")] 87

/-- java/lang/Enum -/
def k5 : Class := { plain "java/lang/Enum" (some 0) with
  accessFlags := 1057
  interfaces := #[2, 3, 4]
  cf := some (fileOf pool5 2 #[.nestMembers #[106]] #[] 1057 12 #[111, 113, 115] #[{ accessFlags := 18, nameIndex := 5, descriptorIndex := 6, attributes := #[] }, { accessFlags := 18, nameIndex := 9, descriptorIndex := 10, attributes := #[] }, { accessFlags := 2, nameIndex := 19, descriptorIndex := 10, attributes := #[] }])
  fields := #[{ name := "name", type := (.object "java/lang/String"), accessFlags := 18, slot := 0, constantValue := 0 }, { name := "ordinal", type := .int, accessFlags := 18, slot := 1, constantValue := 0 }, { name := "hash", type := .int, accessFlags := 2, slot := 2, constantValue := 0 }]
  methods := #[]
  instanceTypes := #[(.object "java/lang/String"), .int, .int]
  staticTypes := #[]
  resolved := Array.replicate 204 none
  statics := none }

def pool6 : Array CpInfo := pool [(1, .class_ 2), (0, u "com/example/keywarden/keywarden/core/Clustering"), (0, .fieldref 1 4), (0, .nameAndType 5 6), (0, u "UNDECLARED"), (0, u "Lcom/example/keywarden/keywarden/core/Clustering;"), (0, .fieldref 1 8), (0, .nameAndType 9 6), (0, u "CLUSTERED"), (2, u "NONCLUSTERED"), (2, u "$VALUES"), (0, u "[Lcom/example/keywarden/keywarden/core/Clustering;"), (6, .class_ 25), (1, u "java/lang/Enum"), (21, u "clustered"), (0, u "(Z)Z")] 5

def k6c0 : Code := { maxStack := 2, maxLocals := 2, code := prog_11_method_4_code, exceptionTable := #[], attributes := #[] }
def k6m0 : Method := { name := "clustered", desc := "(Z)Z", sig := { parameters := [.boolean], returnType := some .boolean }, accessFlags := 0, code := some k6c0 }
/-- com/example/keywarden/keywarden/core/Clustering -/
def k6 : Class := { plain "com/example/keywarden/keywarden/core/Clustering" (some 5) with
  accessFlags := 16433
  interfaces := #[]
  cf := some (fileOf pool6 1 #[] #[{ accessFlags := 0, nameIndex := 47, descriptorIndex := 48, attributes := #[] }] 16433 23 #[] #[{ accessFlags := 16409, nameIndex := 5, descriptorIndex := 6, attributes := #[] }, { accessFlags := 16409, nameIndex := 9, descriptorIndex := 6, attributes := #[] }, { accessFlags := 16409, nameIndex := 12, descriptorIndex := 6, attributes := #[] }, { accessFlags := 4122, nameIndex := 15, descriptorIndex := 16, attributes := #[] }])
  fields := #[{ name := "UNDECLARED", type := (.object "com/example/keywarden/keywarden/core/Clustering"), accessFlags := 16409, slot := 0, constantValue := 0 }, { name := "CLUSTERED", type := (.object "com/example/keywarden/keywarden/core/Clustering"), accessFlags := 16409, slot := 1, constantValue := 0 }, { name := "NONCLUSTERED", type := (.object "com/example/keywarden/keywarden/core/Clustering"), accessFlags := 16409, slot := 2, constantValue := 0 }, { name := "$VALUES", type := (.array (.object "com/example/keywarden/keywarden/core/Clustering")), accessFlags := 4122, slot := 3, constantValue := 0 }]
  methods := #[k6m0]
  instanceTypes := #[(.object "java/lang/String"), .int, .int]
  staticTypes := #[(.object "com/example/keywarden/keywarden/core/Clustering"), (.object "com/example/keywarden/keywarden/core/Clustering"), (.object "com/example/keywarden/keywarden/core/Clustering"), (.array (.object "com/example/keywarden/keywarden/core/Clustering"))]
  resolved := Array.replicate 54 none
  statics := some 0 }

def pool7 : Array CpInfo := pool [(1, u "java/lang/Cloneable"), (0, .class_ 1), (0, u "java/lang/Object"), (0, .class_ 3)] 3

/-- java/lang/Cloneable -/
def k7 : Class := { plain "java/lang/Cloneable" (some 0) with
  accessFlags := 1537
  interfaces := #[]
  cf := some (fileOf pool7 2 #[] #[] 1537 4 #[] #[])
  fields := #[]
  methods := #[]
  instanceTypes := #[]
  staticTypes := #[]
  resolved := Array.replicate 8 none
  statics := none }

/-- the primitive byte -/
def k8 : Class := { plain "byte" none with kind := .primitive 'B', accessFlags := 0x411 }
/-- [B -/
def k9 : Class := { plain "[B" (some 0) with kind := .array 8 .byte, interfaces := #[7, 4], accessFlags := 1041 }

/-- the primitive int -/
def k10 : Class := { plain "int" none with kind := .primitive 'I', accessFlags := 0x411 }
/-- [I -/
def k11 : Class := { plain "[I" (some 0) with kind := .array 10 .int, interfaces := #[7, 4], accessFlags := 1041 }

def heap : Heap := #[{ cls := 6, slots := #[.ref 1, .ref 2, .ref 3, .null], vm := .statics 6 },
  { cls := 6, slots := #[.null, .int 0, .int 0], vm := .none },
  { cls := 6, slots := #[.null, .int 1, .int 0], vm := .none },
  { cls := 6, slots := #[.null, .int 2, .int 0], vm := .none }]
def classes : Array Class := #[k0, k1, k2, k3, k4, k5, k6, k7, k8, k9, k10, k11]
def interned : List (Array UInt16 × Addr) := []
def slotsUsed : Nat := 13
def theMethod : MethodId := ⟨1, 1⟩
def args0 : Array Value := #[.int 5]
def aboutOver (below : List Frame) : State where
  vm := { classes := classes, interned := interned.toArray }
  heap := heap
  slotsUsed := slotsUsed
  threads := #[{ frames := .invoking theMethod args0 :: below }]
def below0 : List Frame := [.native { method := ⟨0, 0⟩, args := #[] }]
def about1 : State := aboutOver below0
def p0 : Program := .bare "" "" ""
def e0 : Env := launch0.env 0 0 0
theorem w_frames : about1.frames = Frame.invoking theMethod args0 :: below0 := rfl
set_option maxRecDepth 65536 in
theorem w_args : argsFit about1.vm theMethod args0 = true := by decide +kernel
set_option maxRecDepth 65536 in
theorem w_heap : heapFits about1 = true := by decide +kernel
set_option maxRecDepth 65536 in
theorem w_runnable : about1.curStatus? = some .runnable := by decide +kernel
set_option maxRecDepth 65536 in
theorem w_alone : about1.alone = true := by decide +kernel
set_option maxRecDepth 65536 in
theorem w_named : about1.methodNamed? x = some theMethod := by decide +kernel
set_option maxRecDepth 65536 in
theorem w_hears : about1.hears theMethod below0 = true := by decide +kernel
set_option maxRecDepth 65536 in
theorem w_ripe : about1.ripe theMethod args0 below0 = true := by decide +kernel
theorem w_running : about1.status = .running := rfl
set_option maxRecDepth 65536 in
theorem w_room : about1.hasRoom e0.platform room_1 = true :=
  launch0.hasRoom_least _ room_1 (by decide +kernel) (by decide +kernel) (by decide +kernel) (by decide +kernel) (by decide +kernel) (by decide +kernel)
theorem allAtoms_all (ts : List Jvm.Cond) (a : Array Jvm.Value) (st : Jvm.State) : (allAtoms ts).before a st = ts.all (fun c => c.before a st) := by
  induction ts with
  | nil => rfl
  | cons c t ih =>
    show (Jvm.Cond.and c (allAtoms t)).before a st = _
    rw [Jvm.Cond.before_and, ih, List.all_cons]
def words1 : List Jvm.Cond := Jvm.Cond.code x code maxLocals ret :: tables_1
/-- a 'code' word, met by the world's own term for the bytes: nothing is compared byte by byte -/
theorem code_word {y : MethodName} {bytes : ByteArray} {mx : Nat} {rt : Option FieldType} {a : Array Value} {s : State} {m : MethodId} {meth : Method} {c : Code} (h1 : s.methodNamed? y = some m) (h2 : s.vm.method? m = some meth) (h3 : meth.code = some c) (h4 : c.code = bytes)
    (h5 : (c.maxLocals == mx && c.exceptionTable.isEmpty && decide (c.maxStack ≤ mostOperands) && decide (meth.sig.returnType = rt) && !meth.locks && decide (parseMethodDescriptor y.desc = some meth.sig)) = true) : (Jvm.Cond.code y bytes mx rt).before a s = true := by
  simp only [Bool.and_eq_true, beq_iff_eq, Bool.not_eq_true', decide_eq_true_eq] at h5
  obtain ⟨⟨⟨⟨⟨g1, g2⟩, g3⟩, g4⟩, g5⟩, g6⟩ := h5
  simp [Cond.before, Cond.holds, Cond.value, h1, h2, h3, h4, g1, g2, g3, g4, g5, g6]
def isCode : Jvm.Cond → Bool
  | .code _ _ _ _ => true
  | _ => false
theorem all_split {L : List Jvm.Cond} {P : Jvm.Cond → Bool} (h1 : L.all (fun c => isCode c || P c) = true) (h2 : ∀ c ∈ L.filter isCode, P c = true) : L.all P = true := by
  refine List.all_eq_true.mpr fun c hc => ?_
  have h := List.all_eq_true.mp h1 c hc
  rcases Bool.eq_false_or_eq_true (isCode c) with hi | hi
  · exact h2 c (List.mem_filter.mpr ⟨hc, hi⟩)
  · simpa [hi] using h
set_option maxRecDepth 65536 in
theorem w_c0 : (Jvm.Cond.code x code maxLocals ret).before args0 about1 = true := code_word (m := ⟨1, 1⟩) (meth := k1m1) (c := k1c1) (by decide +kernel) rfl rfl rfl (by decide +kernel)
set_option maxRecDepth 65536 in
theorem w_c1 : (Jvm.Cond.code ({ cls := "com/example/keywarden/keywarden/core/Clustering", name := "clustered", desc := "(Z)Z" } : Jvm.MethodName) prog_11_method_4_code (2 : Nat) (Option.some Jvm.ClassFile.FieldType.boolean)).before args0 about1 = true := code_word (m := ⟨6, 0⟩) (meth := k6m0) (c := k6c0) (by decide +kernel) rfl rfl rfl (by decide +kernel)
def codes1 : List Jvm.Cond := [Jvm.Cond.code x code maxLocals ret, Jvm.Cond.code ({ cls := "com/example/keywarden/keywarden/core/Clustering", name := "clustered", desc := "(Z)Z" } : Jvm.MethodName) prog_11_method_4_code (2 : Nat) (Option.some Jvm.ClassFile.FieldType.boolean)]
set_option maxRecDepth 65536 in
theorem codes_eq : words1.filter isCode = codes1 := rfl
theorem w_codes : ∀ c ∈ words1.filter isCode, c.before args0 about1 = true := by
  rw [codes_eq]
  intro c hc
  simp only [codes1, List.mem_cons, List.not_mem_nil, or_false] at hc
  rcases hc with rfl | rfl
  · exact w_c0
  · exact w_c1
set_option maxRecDepth 65536 in
theorem w_t1 : words1.all (fun c => isCode c || c.before args0 about1) = true := by decide +kernel
theorem w_tables : (allAtoms (Jvm.Cond.code x code maxLocals ret :: tables_1)).before args0 about1 = true := by
  rw [allAtoms_all]
  show words1.all (fun c => c.before args0 about1) = true
  refine all_split ?_ w_codes
  rw [w_t1]
set_option maxRecDepth 65536 in
theorem w_case : (Jvm.Cond.and given_1 narrow_1).before args0 about1 = true := by decide +kernel
theorem w_applies : (headSpec (Jvm.Cond.code x code maxLocals ret :: tables_1) room_1).applies x e0.platform about1 = true :=
  (Spec.applies_iff w_frames).mpr ⟨w_running, w_runnable, w_alone, w_named, w_hears, w_ripe, w_room, w_tables⟩
theorem atStart : AtStart classFile x code maxLocals ret World_1 tables_1 room_1 Calls_1 rest_1 Pre_1 launch0 p0 e0 about1 theMethod args0 below0 :=
  ⟨lists_1, trivial, launch0.admits_env _ _ _, launch0.least_env, fairChoices_fair.cas, fairChoices_fair.clock, w_frames, w_args, w_heap, w_applies, trivial, trivial, w_case⟩
end start1
theorem witness_1 : WitnessClaimed_1 := ⟨start1.p0, start1.e0, start1.about1, start1.theMethod, start1.args0, start1.below0, start1.atStart⟩
end Jvm.Pilot.@@N@@
