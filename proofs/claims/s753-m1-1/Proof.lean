import JvmDerived
import JvmDerived.Pilot.@@N@@Statement
import JvmDerived.Pilot.@@N@@Code
set_option linter.unusedVariables false
set_option linter.unusedSimpArgs false
@@BLOCK:NumsL.lean.txt@@
namespace Jvm.Pilot.@@N@@
open Jvm Jvm.ClassFile Sem Op Lib Jvm.Free Jvm.Stand Jvm.LawKit Jvm.RoadKit Bundle Jvm.Pilot.@@N@@.Jvm.D
/-! the walk in continuation form: from T with the frame g on top the run comes to an end that says Q -/
def Go (p : Program) (e : Env) (below : List Frame) (s : State) (C S : Nat) (Q : Option Value → Heap → List Loc → Prop) (T : State) (g : JFrame) : Prop :=
  ∃ s₂ o, Steps p.tables e below (T.setTop g) s₂ ∧ s₂.status = .running ∧ Ended s₂ below o ∧ ∃ v L, o = .returned v ∧ Q v s₂.heap L ∧ FrameEnd s o s₂ L C S
section GoKit
variable {p : Program} {l : Launch} {e : Env} {R : Room} {s : State} {m : MethodId} {args : Array Value} {below : List Frame} {meth : Method} {c : Code} {T T' : State} {g g' : JFrame} {locs : List Loc} {cells slots C S : Nat} {Q : Option Value → Heap → List Loc → Prop} {Z : State} {h h' : Heap} {n0 : Nat}
theorem Go.st (st : ∀ t, Steps p.tables e below (T'.setTop g') t → Steps p.tables e below (T.setTop g) t) (k : Go p e below s C S Q T' g') : Go p e below s C S Q T g := by
  obtain ⟨s₂, o, h1, h2⟩ := k; exact ⟨s₂, o, st _ h1, h2⟩
theorem Go.tr (st : Steps p.tables e below (T.setTop g) (T'.setTop g')) (k : Go p e below s C S Q T' g') : Go p e below s C S Q T g := by
  obtain ⟨s₂, o, h1, h2⟩ := k; exact ⟨s₂, o, st.trans h1, h2⟩
theorem Go.eq (q : g = g') (k : Go p e below s C S Q T g') : Go p e below s C S Q T g := q ▸ k
theorem Go.fin (X : Stand p l e R s m args below meth c T locs cells slots) (hlk : meth.locks = false) {v : Option Value} (hv : meth.sig.returnType = none → v = none) (hc : cells ≤ C) (hs : slots ≤ S) (q : Q v T.heap locs)
    (k : ∀ fs, (∀ (f : JFrame) (acts : List Action), f.method = m → f.locked = none → f.entered = [] → (doReturn e (T.setTop f) acts v).1 = T.setFrames fs) → Steps p.tables e below (T.setTop g) (T.setFrames fs)) : Go p e below s C S Q T g := by
  obtain ⟨fs, hr, hrun, hended, hW, hsame⟩ := X.leave (v := v) hv hlk
  exact ⟨_, _, k fs hr, hrun, hended, _, _, rfl, q, ⟨_, rfl⟩, hW, hsame.mono hc hs⟩
theorem Go.retN (X : Stand p l e R s m args below meth c T locs cells slots) (hlk : meth.locks = false) (hx : p.tables.exec = Jvm.exec) {pc : Nat} {Ls : Array Slot} {z z' : Int32} {t : FieldType} {rest : List Value} (hret : meth.sig.returnType = some t) (ht : t = .boolean ∨ t = .byte ∨ t = .char ∨ t = .short)
    (hd : decode c.code pc = .ok (.ireturn, 1)) (hc : cells ≤ C) (hs : slots ≤ S) (hz : nar t z = z') (q : Q (some (.int z')) T.heap locs) : Go p e below s C S Q T (mkF m pc Ls (.int z :: rest)) := by
  subst hz
  exact Go.fin X hlk (fun h => by rw [hret] at h; cases h) hc hs q fun fs hr => Jvm.RoadKit.retN X hx hret ht hd hr
theorem Go.retV (X : Stand p l e R s m args below meth c T locs cells slots) (hlk : meth.locks = false) (hx : p.tables.exec = Jvm.exec) {pc : Nat} {Ls : Array Slot} {w : Value} {t : FieldType} {i : Instr} {rest : List Value} (hret : meth.sig.returnType = some t) (hn : narrow t w = w)
    (hi : (i = .ireturn ∧ (t = .int ∨ t = .boolean ∨ t = .byte ∨ t = .char ∨ t = .short) ∧ ∃ z, w = .int z) ∨ (i = .lreturn ∧ t = .long ∧ ∃ z, w = .long z) ∨ (i = .dreturn ∧ t = .double ∧ ∃ z, w = .double z) ∨ (i = .freturn ∧ t = .float ∧ ∃ z, w = .float z) ∨ (i = .areturn ∧ t.isReference = true ∧ w.isRef = true))
    (hd : decode c.code pc = .ok (i, 1)) (hc : cells ≤ C) (hs : slots ≤ S) (q : Q (some w) T.heap locs) : Go p e below s C S Q T (mkF m pc Ls (w :: rest)) :=
  Go.fin X hlk (fun h => by rw [hret] at h; cases h) hc hs q fun fs hr => Jvm.RoadKit.retOut X hx hret hn hi hd hr
theorem Go.retR (X : Stand p l e R s m args below meth c T locs cells slots) (hlk : meth.locks = false) (hx : p.tables.exec = Jvm.exec) {pc : Nat} {Ls : Array Slot} {w : Value} {t : FieldType} {rest : List Value} (hret : meth.sig.returnType = some t) (ht : t.isReference = true) (hw : w.isRef = true) (hn : narrow t w = w)
    (hd : decode c.code pc = .ok (.areturn, 1)) (hc : cells ≤ C) (hs : slots ≤ S) (q : Q (some w) T.heap locs) : Go p e below s C S Q T (mkF m pc Ls (w :: rest)) :=
  Go.retV X hlk hx hret hn (Or.inr (Or.inr (Or.inr (Or.inr ⟨rfl, ht, hw⟩)))) hd hc hs q
theorem Go.retI (X : Stand p l e R s m args below meth c T locs cells slots) (hlk : meth.locks = false) (hx : p.tables.exec = Jvm.exec) {pc : Nat} {Ls : Array Slot} {z : Int32} {rest : List Value} (hret : meth.sig.returnType = some .int)
    (hd : decode c.code pc = .ok (.ireturn, 1)) (hc : cells ≤ C) (hs : slots ≤ S) (q : Q (some (.int z)) T.heap locs) : Go p e below s C S Q T (mkF m pc Ls (.int z :: rest)) :=
  Go.retV X hlk hx hret rfl (Or.inl ⟨rfl, Or.inl rfl, z, rfl⟩) hd hc hs q
theorem Go.retJ (X : Stand p l e R s m args below meth c T locs cells slots) (hlk : meth.locks = false) (hx : p.tables.exec = Jvm.exec) {pc : Nat} {Ls : Array Slot} {z : Int64} {rest : List Value} (hret : meth.sig.returnType = some .long)
    (hd : decode c.code pc = .ok (.lreturn, 1)) (hc : cells ≤ C) (hs : slots ≤ S) (q : Q (some (.long z)) T.heap locs) : Go p e below s C S Q T (mkF m pc Ls (.long z :: rest)) :=
  Go.retV X hlk hx hret rfl (Or.inr (Or.inl ⟨rfl, rfl, z, rfl⟩)) hd hc hs q
theorem Go.ret0 (X : Stand p l e R s m args below meth c T locs cells slots) (hlk : meth.locks = false) (hx : p.tables.exec = Jvm.exec) {pc : Nat} {Ls : Array Slot} (hret : meth.sig.returnType = none)
    (hd : decode c.code pc = .ok (.return_, 1)) (hc : cells ≤ C) (hs : slots ≤ S) (q : Q none T.heap locs) : Go p e below s C S Q T (mkF m pc Ls []) :=
  Go.fin X hlk (fun _ => rfl) hc hs q fun fs hr => X.returnOut hx hret hd hr
theorem own_le (O : Old Z n0 h) : n0 ≤ h.size := O.1 ▸ O.2.1
theorem own_ext {ws : List Addr} (K : Keep h h' ws) (q : ∀ x ∈ ws, h.size ≤ x) : Ext h h' := ⟨K.1, fun x c r => K.2.1 x c r fun z => absurd (Array.getElem?_eq_some_iff.mp r).1 (Nat.not_lt.mpr (q x z))⟩
theorem own_ext0 (K : Keep h h' []) : Ext h h' := own_ext K all0
theorem own_exr (h : Heap) : Ext h h := ⟨Nat.le_refl _, fun _ _ q => q⟩
theorem own_ext_t {h'' : Heap} (E : Ext h h') (E' : Ext h' h'') : Ext h h'' := ⟨Nat.le_trans E.1 E'.1, fun x c r => E'.2 x c (E.2 x c r)⟩
end GoKit
theorem pn_1 : plainName "com/example/wellness_on_record/wellnessonrecord/store/DocumentStatusCanBecomePinLaw" = true := by first | (simp [plainName, overriddenIn]; done) | decide +kernel
theorem ef_rmP (m : MethodId) (p1 : Int32) : entryFrame m #[(.int p1)] 1 = mkF m 0 #[.val (.int p1)] [] := by first | (simp [entryFrame, mkF, argsToLocals, Value.category]; done) | rfl
theorem d1_0 : decode method_2_code 0 = .ok (.iload_n 0, 1) := by decide +kernel
theorem d1_1 : decode method_2_code 1 = .ok (.ifCond .ne 7, 3) := by decide +kernel
theorem d1_4 : decode method_2_code 4 = .ok (.getstatic 7, 3) := by decide +kernel
theorem d1_7 : decode method_2_code 7 = .ok (.areturn, 1) := by decide +kernel
theorem d1_8 : decode method_2_code 8 = .ok (.iload_n 0, 1) := by decide +kernel
theorem d1_9 : decode method_2_code 9 = .ok (.iconst 1, 1) := by decide +kernel
theorem d1_10 : decode method_2_code 10 = .ok (.if_icmp .ne 7, 3) := by decide +kernel
theorem d1_13 : decode method_2_code 13 = .ok (.getstatic 13, 3) := by decide +kernel
theorem d1_16 : decode method_2_code 16 = .ok (.areturn, 1) := by decide +kernel
theorem d1_17 : decode method_2_code 17 = .ok (.getstatic 16, 3) := by decide +kernel
theorem d1_20 : decode method_2_code 20 = .ok (.areturn, 1) := by decide +kernel
theorem pn_2 : plainName "com/example/wellness_on_record/wellnessonrecord/store/DocumentStatus" = true := by first | (simp [plainName, overriddenIn]; done) | decide +kernel
theorem ef_rmC (m : MethodId) (a1 : Addr) (a2 : Addr) : entryFrame m #[(.ref a1), (.ref a2)] 2 = mkF m 0 #[.val (.ref a1), .val (.ref a2)] [] := by first | (simp [entryFrame, mkF, argsToLocals, Value.category]; done) | rfl
theorem d2_0 : decode prog_56_method_5_code 0 = .ok (.aload_n 1, 1) := by decide +kernel
theorem d2_1 : decode prog_56_method_5_code 1 = .ok (.aload_n 0, 1) := by decide +kernel
theorem d2_2 : decode prog_56_method_5_code 2 = .ok (.if_acmp .eq 21, 3) := by decide +kernel
theorem d2_23 : decode prog_56_method_5_code 23 = .ok (.iconst 0, 1) := by decide +kernel
theorem d2_24 : decode prog_56_method_5_code 24 = .ok (.ireturn, 1) := by decide +kernel
theorem d2_5 : decode prog_56_method_5_code 5 = .ok (.aload_n 0, 1) := by decide +kernel
theorem d2_6 : decode prog_56_method_5_code 6 = .ok (.getstatic 3, 3) := by decide +kernel
theorem d2_9 : decode prog_56_method_5_code 9 = .ok (.if_acmp .eq 10, 3) := by decide +kernel
theorem d2_19 : decode prog_56_method_5_code 19 = .ok (.iconst 1, 1) := by decide +kernel
theorem d2_20 : decode prog_56_method_5_code 20 = .ok (.goto 4, 3) := by decide +kernel
theorem d2_12 : decode prog_56_method_5_code 12 = .ok (.aload_n 1, 1) := by decide +kernel
theorem d2_13 : decode prog_56_method_5_code 13 = .ok (.getstatic 3, 3) := by decide +kernel
theorem d2_16 : decode prog_56_method_5_code 16 = .ok (.if_acmp .ne 7, 3) := by decide +kernel
theorem pn_0 : plainName "com/example/wellness_on_record/wellnessonrecord/store/DocumentStatusCanBecomePinLaw" = true := by first | (simp [plainName, overriddenIn]; done) | decide +kernel
theorem ef_rm0 (m : MethodId) (p1 : Int32) (p2 : Int32) : entryFrame m #[(.int p1), (.int p2)] maxLocals = mkF m 0 #[.val (.int p1), .val (.int p2), .unset, .unset, .unset, .unset, .unset, .unset] [] := by first | (simp [entryFrame, mkF, argsToLocals, Value.category, maxLocals]; done) | rfl
theorem pd__I_Lcom_example_wellness_on_record_wellnessonrecord_store_DocumentStatus_ : parseMethodDescriptor "(I)Lcom/example/wellness_on_record/wellnessonrecord/store/DocumentStatus;" = some ⟨[.int], some (.object "com/example/wellness_on_record/wellnessonrecord/store/DocumentStatus")⟩ := by decide +kernel
theorem pd__Lcom_example_wellness_on_record_wellnessonrecord_store_DocumentStatus__Z : parseMethodDescriptor "(Lcom/example/wellness_on_record/wellnessonrecord/store/DocumentStatus;)Z" = some ⟨[(.object "com/example/wellness_on_record/wellnessonrecord/store/DocumentStatus")], some .boolean⟩ := by decide +kernel
def pickF (k : Int32) (wA wR wV : Addr) : Addr := if k = 0 then wA else if k = 1 then wR else wV
def canF (a b wA : Addr) : Int32 := if b = a then 0 else if a = wA then 1 else if b = wA then 1 else 0

theorem own_eqi {args : Array Value} {Z : State} {t : Term} {k : Int32} (h : (Cond.eq t (Term.int k)).value args Z none Z [] = some true) : t.eval args Z none [] Z = some (.int k) := by
  cases ht : t.eval args Z none [] Z with
  | none => simp [Cond.value, Term.eval, ht] at h
  | some v => cases v <;> simp [Cond.value, Term.eval, ht] at h <;> (try rw [h])
theorem own_en {args : Array Value} {Z : State} {C n d : String} {k : Int32} (hx : (Cond.exactly (Term.static C n d) C).value args Z none Z [] = some true) (hk : (Cond.eq (Term.field (Term.static C n d) "java/lang/Enum" "ordinal" "I") (Term.int k)).value args Z none Z [] = some true)
    (hi : (Cond.initialized C).before args Z = true) (hl : (Cond.laysStatic C n d).before args Z = true) : ∃ w, Sta Z Z.heap C n d (.ref w) ∧ Exa Z Z.heap w C ∧ Fld Z Z.heap w "java/lang/Enum" "ordinal" "I" (.int k) := by
  obtain ⟨w, ew⟩ := exa_v hx
  exact ⟨w, Sta.start ew (Or.inr ⟨hi, hl⟩), Exa.start ew hx, Fld.start (by rw [← fld_at ew]; exact own_eqi hk)⟩

theorem own_mod (a n : Int32) (hn : 0 < n.toInt) : 0 ≤ ((a &&& 2147483647) % n).toInt ∧ ((a &&& 2147483647) % n).toInt < n.toInt := by
  have e1 : (a &&& 2147483647).toInt = a.toInt % 2 ^ 31 := Jvm.Kit.i32_mask a 2147483647 (k := 31) (by decide) (by decide)
  rw [Int32.toInt_mod, e1]
  have p0 : 0 ≤ a.toInt % 2 ^ 31 := Int.emod_nonneg _ (by decide)
  rw [Int.tmod_eq_emod_of_nonneg p0]
  exact ⟨Int.emod_nonneg _ (by omega), Int.emod_lt_of_pos _ hn⟩

theorem own_mod3 (a : Int32) : (a &&& 2147483647) % 3 = 0 ∨ (a &&& 2147483647) % 3 = 1 ∨ (a &&& 2147483647) % 3 = 2 := by
  have h := own_mod a 3 (by decide)
  have e : (3 : Int32).toInt = 3 := rfl
  rw [e] at h
  have : ((a &&& 2147483647) % 3).toInt = 0 ∨ ((a &&& 2147483647) % 3).toInt = 1 ∨ ((a &&& 2147483647) % 3).toInt = 2 := by omega
  rcases this with h | h | h <;> simp [← Int32.toInt_inj, h]

def Q_rmP (Z : State) (p1 : Int32) (w_ACTIVE : Addr) (w_ARCHIVED : Addr) (w_VOID : Addr) (h0 : Heap) (n0 : Nat) (v : Option Value) (h : Heap) (L : List Loc) : Prop := v = some (.ref (pickF p1 w_ACTIVE w_ARCHIVED w_VOID)) ∧ Fr n0 L ∧ h = h0
set_option maxRecDepth 65536 in
set_option maxHeartbeats 40000000 in
theorem rmP (l : Launch) (Z : State) (a0 : Array Value) (hw : ∀ d ∈ tables_1, d.before a0 Z = true) (ws : List Jvm.Cond) (p1 : Int32) (w_ACTIVE : Addr) (w_ARCHIVED : Addr) (w_VOID : Addr) (h0 : Heap) (n0 : Nat) (O : Old Z n0 h0) (S_ACTIVE : Sta Z Z.heap "com/example/wellness_on_record/wellnessonrecord/store/DocumentStatus" "ACTIVE" "Lcom/example/wellness_on_record/wellnessonrecord/store/DocumentStatus;" (.ref w_ACTIVE)) (S_ARCHIVED : Sta Z Z.heap "com/example/wellness_on_record/wellnessonrecord/store/DocumentStatus" "ARCHIVED" "Lcom/example/wellness_on_record/wellnessonrecord/store/DocumentStatus;" (.ref w_ARCHIVED)) (S_VOID : Sta Z Z.heap "com/example/wellness_on_record/wellnessonrecord/store/DocumentStatus" "VOID" "Lcom/example/wellness_on_record/wellnessonrecord/store/DocumentStatus;" (.ref w_VOID)) :
    MetFree l (⟨"com/example/wellness_on_record/wellnessonrecord/store/DocumentStatusCanBecomePinLaw", "pick", "(I)Lcom/example/wellness_on_record/wellnessonrecord/store/DocumentStatus;"⟩ : MethodName) (head1 (Jvm.Cond.code (⟨"com/example/wellness_on_record/wellnessonrecord/store/DocumentStatusCanBecomePinLaw", "pick", "(I)Lcom/example/wellness_on_record/wellnessonrecord/store/DocumentStatus;"⟩ : MethodName) method_2_code 1 (some (.object "com/example/wellness_on_record/wellnessonrecord/store/DocumentStatus")) :: ws) ({ frames := 0, cells := 0, slots := 0, locals := 0 } : Room)) (fun a U => a = #[(.int p1)] ∧ Z.Warmed39 U.vm ∧ U.heap = h0) (fun _ _ _ _ _ => True) (fun _ U o U' => ∃ v L, o = .returned v ∧ Q_rmP Z p1 w_ACTIVE w_ARCHIVED w_VOID h0 n0 v U'.heap L ∧ FrameEnd U o U' L ({ frames := 0, cells := 0, slots := 0, locals := 0 } : Room).cells ({ frames := 0, cells := 0, slots := 0, locals := 0 } : Room).slots) := by
  refine MetFree.of_bodySF (plainFor_of_name pn_1) hisR ?_
  intro p e s m args below meth c s₁ Bd hml0 hP hK
  obtain ⟨rfl, hZ, hh⟩ := hP
  have hx := Bd.exec
  have hby := Bd.bytes
  have hml : c.maxLocals = 1 := hml0
  have hown : s.vm.findClass "com/example/wellness_on_record/wellnessonrecord/store/DocumentStatusCanBecomePinLaw" = some m.cls := findClass_of_methodNamed Bd.named
  have hnm := (name_of_methodNamed Bd.named Bd.method).1
  have hlk : meth.locks = false := BodyLoose.notSynchronized Bd
  have X0 : Stand p l e ({ frames := 0, cells := 0, slots := 0, locals := 0 } : Room) s m #[(.int p1)] below meth c s₁ [] 0 0 := Stand.of_body Bd
  have e0 : s₁.heap = h0 := by rw [← hh, Bd.state]; rfl
  have N0 := Fr.nil n0
  show Go p e below s ({ frames := 0, cells := 0, slots := 0, locals := 0 } : Room).cells ({ frames := 0, cells := 0, slots := 0, locals := 0 } : Room).slots (Q_rmP Z p1 w_ACTIVE w_ARCHIVED w_VOID h0 n0) s₁ (entryFrame m #[(.int p1)] 1)
  refine Go.eq (ef_rmP m p1) ?_
  show Go _ _ _ _ _ _ _  s₁ (mkF m 0 #[.val (.int p1)] [])
  refine Go.st (fun t k => XS.iloadN X0.here hx rfl (hb hby d1_0) rfl  k) ?_
  show Go _ _ _ _ _ _ _  s₁ (mkF m 1 #[.val (.int p1)] [(.int p1)])
  by_cases c1_1 : p1 = (0 : Int32)
  · refine Go.st (fun t k => XS.ifNo X0.here hx rfl (hb hby d1_1) rfl ((if0 _ _).trans (teq c1_1).2) k) ?_
    show Go _ _ _ _ _ _ _  s₁ (mkF m 4 #[.val (.int p1)] [])
    obtain ⟨T2, X2, e2, st2⟩ := getS2 X0 hx hZ hown (host := "") (Or.inl (hw _ (List.mem_of_getElem? (i := 5) rfl))) Via.refl e0 (S_ACTIVE.ext O.2) (g := (mkF m 4 #[.val (.int p1)] [])) rfl (hb hby d1_4)
    refine Go.st st2 ?_
    show Go _ _ _ _ _ _ _  T2 (mkF m 7 #[.val (.int p1)] [(.ref w_ACTIVE)])
    refine Go.retR X2 hlk hx Bd.returns rfl rfl rfl (hb hby d1_7) (by decide) (by decide) ?_
    show Q_rmP Z p1 w_ACTIVE w_ARCHIVED w_VOID h0 n0 _ T2.heap _
    rw [e2]
    exact ⟨by simp only [pickF, if_pos c1_1], N0, rfl⟩
  · refine Go.st (fun t k => XS.ifYes X0.here hx rfl (pc0 := 1) (pc' := 8) rfl (hb hby d1_1) rfl ((if0 _ _).trans (feq c1_1).2) (by decide) (by decide) k) ?_
    show Go _ _ _ _ _ _ _  s₁ (mkF m 8 #[.val (.int p1)] [])
    refine Go.st (fun t k => XS.iloadN X0.here hx rfl (hb hby d1_8) rfl  k) ?_
    show Go _ _ _ _ _ _ _  s₁ (mkF m 9 #[.val (.int p1)] [(.int p1)])
    refine Go.st (fun t k => XS.iconst X0.here hx rfl (hb hby d1_9) k) ?_
    show Go _ _ _ _ _ _ _  s₁ (mkF m 10 #[.val (.int p1)] [(.int (1 : Int32)), (.int p1)])
    by_cases c10_3 : p1 = (1 : Int32)
    · refine Go.st (fun t k => XS.icmpNo X0.here hx rfl (hb hby d1_10) rfl (teq c10_3).2 k) ?_
      show Go _ _ _ _ _ _ _  s₁ (mkF m 13 #[.val (.int p1)] [])
      obtain ⟨T4, X4, e4, st4⟩ := getS2 X0 hx hZ hown (host := "") (Or.inl (hw _ (List.mem_of_getElem? (i := 15) rfl))) Via.refl e0 (S_ARCHIVED.ext O.2) (g := (mkF m 13 #[.val (.int p1)] [])) rfl (hb hby d1_13)
      refine Go.st st4 ?_
      show Go _ _ _ _ _ _ _  T4 (mkF m 16 #[.val (.int p1)] [(.ref w_ARCHIVED)])
      refine Go.retR X4 hlk hx Bd.returns rfl rfl rfl (hb hby d1_16) (by decide) (by decide) ?_
      show Q_rmP Z p1 w_ACTIVE w_ARCHIVED w_VOID h0 n0 _ T4.heap _
      rw [e4]
      exact ⟨by simp only [pickF, if_neg c1_1, if_pos c10_3], N0, rfl⟩
    · refine Go.st (fun t k => XS.icmpYes X0.here hx rfl (pc0 := 10) (pc' := 17) rfl (hb hby d1_10) rfl (feq c10_3).2 (by decide) (by decide) k) ?_
      show Go _ _ _ _ _ _ _  s₁ (mkF m 17 #[.val (.int p1)] [])
      obtain ⟨T5, X5, e5, st5⟩ := getS2 X0 hx hZ hown (host := "") (Or.inl (hw _ (List.mem_of_getElem? (i := 13) rfl))) Via.refl e0 (S_VOID.ext O.2) (g := (mkF m 17 #[.val (.int p1)] [])) rfl (hb hby d1_17)
      refine Go.st st5 ?_
      show Go _ _ _ _ _ _ _  T5 (mkF m 20 #[.val (.int p1)] [(.ref w_VOID)])
      refine Go.retR X5 hlk hx Bd.returns rfl rfl rfl (hb hby d1_20) (by decide) (by decide) ?_
      show Q_rmP Z p1 w_ACTIVE w_ARCHIVED w_VOID h0 n0 _ T5.heap _
      rw [e5]
      exact ⟨by simp only [pickF, if_neg c1_1, if_neg c10_3], N0, rfl⟩
def Q_rmC (Z : State) (a1 : Addr) (a2 : Addr) (w_ACTIVE : Addr) (h0 : Heap) (n0 : Nat) (v : Option Value) (h : Heap) (L : List Loc) : Prop := v = some (.int (canF a1 a2 w_ACTIVE)) ∧ Fr n0 L ∧ h = h0
set_option maxRecDepth 65536 in
set_option maxHeartbeats 40000000 in
theorem rmC (l : Launch) (Z : State) (a0 : Array Value) (hw : ∀ d ∈ tables_1, d.before a0 Z = true) (ws : List Jvm.Cond) (a1 : Addr) (a2 : Addr) (w_ACTIVE : Addr) (h0 : Heap) (n0 : Nat) (O : Old Z n0 h0) (S_ACTIVE : Sta Z Z.heap "com/example/wellness_on_record/wellnessonrecord/store/DocumentStatus" "ACTIVE" "Lcom/example/wellness_on_record/wellnessonrecord/store/DocumentStatus;" (.ref w_ACTIVE)) :
    MetFree l (⟨"com/example/wellness_on_record/wellnessonrecord/store/DocumentStatus", "canBecome", "(Lcom/example/wellness_on_record/wellnessonrecord/store/DocumentStatus;)Z"⟩ : MethodName) (head1 (Jvm.Cond.code (⟨"com/example/wellness_on_record/wellnessonrecord/store/DocumentStatus", "canBecome", "(Lcom/example/wellness_on_record/wellnessonrecord/store/DocumentStatus;)Z"⟩ : MethodName) prog_56_method_5_code 2 (some .boolean) :: ws) ({ frames := 0, cells := 0, slots := 0, locals := 0 } : Room)) (fun a U => a = #[(.ref a1), (.ref a2)] ∧ Z.Warmed39 U.vm ∧ U.heap = h0) (fun _ _ _ _ _ => True) (fun _ U o U' => ∃ v L, o = .returned v ∧ Q_rmC Z a1 a2 w_ACTIVE h0 n0 v U'.heap L ∧ FrameEnd U o U' L ({ frames := 0, cells := 0, slots := 0, locals := 0 } : Room).cells ({ frames := 0, cells := 0, slots := 0, locals := 0 } : Room).slots) := by
  refine MetFree.of_bodySF (plainFor_of_name pn_2) hisR ?_
  intro p e s m args below meth c s₁ Bd hml0 hP hK
  obtain ⟨rfl, hZ, hh⟩ := hP
  have hx := Bd.exec
  have hby := Bd.bytes
  have hml : c.maxLocals = 2 := hml0
  have hown : s.vm.findClass "com/example/wellness_on_record/wellnessonrecord/store/DocumentStatus" = some m.cls := findClass_of_methodNamed Bd.named
  have hnm := (name_of_methodNamed Bd.named Bd.method).1
  have hlk : meth.locks = false := BodyLoose.notSynchronized Bd
  have X0 : Stand p l e ({ frames := 0, cells := 0, slots := 0, locals := 0 } : Room) s m #[(.ref a1), (.ref a2)] below meth c s₁ [] 0 0 := Stand.of_body Bd
  have e0 : s₁.heap = h0 := by rw [← hh, Bd.state]; rfl
  have N0 := Fr.nil n0
  show Go p e below s ({ frames := 0, cells := 0, slots := 0, locals := 0 } : Room).cells ({ frames := 0, cells := 0, slots := 0, locals := 0 } : Room).slots (Q_rmC Z a1 a2 w_ACTIVE h0 n0) s₁ (entryFrame m #[(.ref a1), (.ref a2)] 2)
  refine Go.eq (ef_rmC m a1 a2) ?_
  show Go _ _ _ _ _ _ _  s₁ (mkF m 0 #[.val (.ref a1), .val (.ref a2)] [])
  refine Go.st (fun t k => XS.aloadN X0.here hx rfl (hb hby d2_0) rfl rfl  k) ?_
  show Go _ _ _ _ _ _ _  s₁ (mkF m 1 #[.val (.ref a1), .val (.ref a2)] [(.ref a2)])
  refine Go.st (fun t k => XS.aloadN X0.here hx rfl (hb hby d2_1) rfl rfl  k) ?_
  show Go _ _ _ _ _ _ _  s₁ (mkF m 2 #[.val (.ref a1), .val (.ref a2)] [(.ref a1), (.ref a2)])
  by_cases c2_1 : a2 = a1
  · refine Go.st (fun t k => Jvm.RoadKit.acmp (g := (mkF m 2 #[.val (.ref a1), .val (.ref a2)] [(.ref a1), (.ref a2)])) X0 hx rfl rfl rfl (pc0 := 2) (pc' := 23) (same := true) rfl (hb hby d2_2) rfl (decide_eq_true (congrArg Value.ref c2_1)) (by decide) (by decide) k) ?_
    show Go _ _ _ _ _ _ _  s₁ (mkF m 23 #[.val (.ref a1), .val (.ref a2)] [])
    refine Go.st (fun t k => XS.iconst X0.here hx rfl (hb hby d2_23) k) ?_
    show Go _ _ _ _ _ _ _  s₁ (mkF m 24 #[.val (.ref a1), .val (.ref a2)] [(.int (0 : Int32))])
    refine Go.retN X0 hlk hx (t := .boolean) (z' := (0 : Int32)) Bd.returns (by simp) (hb hby d2_24) (by decide) (by decide) rfl ?_
    show Q_rmC Z a1 a2 w_ACTIVE h0 n0 _ s₁.heap _
    rw [e0]
    exact ⟨by simp only [canF, if_pos c2_1], N0, rfl⟩
  · refine Go.st (fun t k => Jvm.RoadKit.acmp (g := (mkF m 2 #[.val (.ref a1), .val (.ref a2)] [(.ref a1), (.ref a2)])) X0 hx rfl rfl rfl (pc0 := 2) (pc' := 5) (same := false) rfl (hb hby d2_2) rfl (decide_eq_false fun q => c2_1 (Value.ref.inj q)) (by decide) (by decide) k) ?_
    show Go _ _ _ _ _ _ _  s₁ (mkF m 5 #[.val (.ref a1), .val (.ref a2)] [])
    refine Go.st (fun t k => XS.aloadN X0.here hx rfl (hb hby d2_5) rfl rfl  k) ?_
    show Go _ _ _ _ _ _ _  s₁ (mkF m 6 #[.val (.ref a1), .val (.ref a2)] [(.ref a1)])
    obtain ⟨T2, X2, e2, st2⟩ := getS2 X0 hx hZ hown (host := "") (Or.inl (hw _ (List.mem_of_getElem? (i := 17) rfl))) Via.refl e0 (S_ACTIVE.ext O.2) (g := (mkF m 6 #[.val (.ref a1), .val (.ref a2)] [(.ref a1)])) rfl (hb hby d2_6)
    refine Go.st st2 ?_
    show Go _ _ _ _ _ _ _  T2 (mkF m 9 #[.val (.ref a1), .val (.ref a2)] [(.ref w_ACTIVE), (.ref a1)])
    by_cases c9_3 : a1 = w_ACTIVE
    · refine Go.st (fun t k => Jvm.RoadKit.acmp (g := (mkF m 9 #[.val (.ref a1), .val (.ref a2)] [(.ref w_ACTIVE), (.ref a1)])) X2 hx rfl rfl rfl (pc0 := 9) (pc' := 19) (same := true) rfl (hb hby d2_9) rfl (decide_eq_true (congrArg Value.ref c9_3)) (by decide) (by decide) k) ?_
      show Go _ _ _ _ _ _ _  T2 (mkF m 19 #[.val (.ref a1), .val (.ref a2)] [])
      refine Go.st (fun t k => XS.iconst X2.here hx rfl (hb hby d2_19) k) ?_
      show Go _ _ _ _ _ _ _  T2 (mkF m 20 #[.val (.ref a1), .val (.ref a2)] [(.int (1 : Int32))])
      refine Go.st (fun t k => XS.goto X2.here hx rfl (pc0 := 20) (pc' := 24) rfl (hb hby d2_20) (by decide) (by decide) k) ?_
      show Go _ _ _ _ _ _ _  T2 (mkF m 24 #[.val (.ref a1), .val (.ref a2)] [(.int (1 : Int32))])
      refine Go.retN X2 hlk hx (t := .boolean) (z' := (1 : Int32)) Bd.returns (by simp) (hb hby d2_24) (by decide) (by decide) rfl ?_
      show Q_rmC Z a1 a2 w_ACTIVE h0 n0 _ T2.heap _
      rw [e2]
      exact ⟨by simp only [canF, if_neg c2_1, if_pos c9_3], N0, rfl⟩
    · refine Go.st (fun t k => Jvm.RoadKit.acmp (g := (mkF m 9 #[.val (.ref a1), .val (.ref a2)] [(.ref w_ACTIVE), (.ref a1)])) X2 hx rfl rfl rfl (pc0 := 9) (pc' := 12) (same := false) rfl (hb hby d2_9) rfl (decide_eq_false fun q => c9_3 (Value.ref.inj q)) (by decide) (by decide) k) ?_
      show Go _ _ _ _ _ _ _  T2 (mkF m 12 #[.val (.ref a1), .val (.ref a2)] [])
      refine Go.st (fun t k => XS.aloadN X2.here hx rfl (hb hby d2_12) rfl rfl  k) ?_
      show Go _ _ _ _ _ _ _  T2 (mkF m 13 #[.val (.ref a1), .val (.ref a2)] [(.ref a2)])
      obtain ⟨T4, X4, e4, st4⟩ := getS2 X2 hx hZ hown (host := "") (Or.inl (hw _ (List.mem_of_getElem? (i := 17) rfl))) Via.refl e2 (S_ACTIVE.ext O.2) (g := (mkF m 13 #[.val (.ref a1), .val (.ref a2)] [(.ref a2)])) rfl (hb hby d2_13)
      refine Go.st st4 ?_
      show Go _ _ _ _ _ _ _  T4 (mkF m 16 #[.val (.ref a1), .val (.ref a2)] [(.ref w_ACTIVE), (.ref a2)])
      by_cases c16_5 : a2 = w_ACTIVE
      · refine Go.st (fun t k => Jvm.RoadKit.acmp (g := (mkF m 16 #[.val (.ref a1), .val (.ref a2)] [(.ref w_ACTIVE), (.ref a2)])) X4 hx rfl rfl rfl (pc0 := 16) (pc' := 19) (same := true) rfl (hb hby d2_16) rfl (decide_eq_true (congrArg Value.ref c16_5)) (by decide) (by decide) k) ?_
        show Go _ _ _ _ _ _ _  T4 (mkF m 19 #[.val (.ref a1), .val (.ref a2)] [])
        refine Go.st (fun t k => XS.iconst X4.here hx rfl (hb hby d2_19) k) ?_
        show Go _ _ _ _ _ _ _  T4 (mkF m 20 #[.val (.ref a1), .val (.ref a2)] [(.int (1 : Int32))])
        refine Go.st (fun t k => XS.goto X4.here hx rfl (pc0 := 20) (pc' := 24) rfl (hb hby d2_20) (by decide) (by decide) k) ?_
        show Go _ _ _ _ _ _ _  T4 (mkF m 24 #[.val (.ref a1), .val (.ref a2)] [(.int (1 : Int32))])
        refine Go.retN X4 hlk hx (t := .boolean) (z' := (1 : Int32)) Bd.returns (by simp) (hb hby d2_24) (by decide) (by decide) rfl ?_
        show Q_rmC Z a1 a2 w_ACTIVE h0 n0 _ T4.heap _
        rw [e4]
        exact ⟨by simp only [canF, if_neg c2_1, if_neg c9_3, if_pos c16_5], N0, rfl⟩
      · refine Go.st (fun t k => Jvm.RoadKit.acmp (g := (mkF m 16 #[.val (.ref a1), .val (.ref a2)] [(.ref w_ACTIVE), (.ref a2)])) X4 hx rfl rfl rfl (pc0 := 16) (pc' := 23) (same := false) rfl (hb hby d2_16) rfl (decide_eq_false fun q => c16_5 (Value.ref.inj q)) (by decide) (by decide) k) ?_
        show Go _ _ _ _ _ _ _  T4 (mkF m 23 #[.val (.ref a1), .val (.ref a2)] [])
        refine Go.st (fun t k => XS.iconst X4.here hx rfl (hb hby d2_23) k) ?_
        show Go _ _ _ _ _ _ _  T4 (mkF m 24 #[.val (.ref a1), .val (.ref a2)] [(.int (0 : Int32))])
        refine Go.retN X4 hlk hx (t := .boolean) (z' := (0 : Int32)) Bd.returns (by simp) (hb hby d2_24) (by decide) (by decide) rfl ?_
        show Q_rmC Z a1 a2 w_ACTIVE h0 n0 _ T4.heap _
        rw [e4]
        exact ⟨by simp only [canF, if_neg c2_1, if_neg c9_3, if_neg c16_5], N0, rfl⟩
def Q_rm0 (Z : State) (p1 : Int32) (p2 : Int32) (w_ACTIVE : Addr) (w_ARCHIVED : Addr) (w_VOID : Addr) (h0 : Heap) (n0 : Nat) (v : Option Value) (h : Heap) (L : List Loc) : Prop := v = some (.int (1 : Int32)) ∧ Fr n0 L
set_option maxRecDepth 65536 in
set_option maxHeartbeats 40000000 in
theorem rm0 (l : Launch) (Z : State) (a0 : Array Value) (hw : ∀ d ∈ tables_1, d.before a0 Z = true) (ws : List Jvm.Cond) (p1 : Int32) (p2 : Int32) (w_ACTIVE : Addr) (w_ARCHIVED : Addr) (w_VOID : Addr) (h0 : Heap) (n0 : Nat) (O : Old Z n0 h0) (S_ACTIVE : Sta Z Z.heap "com/example/wellness_on_record/wellnessonrecord/store/DocumentStatus" "ACTIVE" "Lcom/example/wellness_on_record/wellnessonrecord/store/DocumentStatus;" (.ref w_ACTIVE)) (S_ARCHIVED : Sta Z Z.heap "com/example/wellness_on_record/wellnessonrecord/store/DocumentStatus" "ARCHIVED" "Lcom/example/wellness_on_record/wellnessonrecord/store/DocumentStatus;" (.ref w_ARCHIVED)) (S_VOID : Sta Z Z.heap "com/example/wellness_on_record/wellnessonrecord/store/DocumentStatus" "VOID" "Lcom/example/wellness_on_record/wellnessonrecord/store/DocumentStatus;" (.ref w_VOID)) (E_ACTIVE : Exa Z Z.heap w_ACTIVE "com/example/wellness_on_record/wellnessonrecord/store/DocumentStatus") (E_ARCHIVED : Exa Z Z.heap w_ARCHIVED "com/example/wellness_on_record/wellnessonrecord/store/DocumentStatus") (E_VOID : Exa Z Z.heap w_VOID "com/example/wellness_on_record/wellnessonrecord/store/DocumentStatus") (n_ACTIVE_ARCHIVED : w_ACTIVE ≠ w_ARCHIVED) (n_ACTIVE_VOID : w_ACTIVE ≠ w_VOID) (n_ARCHIVED_ACTIVE : w_ARCHIVED ≠ w_ACTIVE) (n_ARCHIVED_VOID : w_ARCHIVED ≠ w_VOID) (n_VOID_ACTIVE : w_VOID ≠ w_ACTIVE) (n_VOID_ARCHIVED : w_VOID ≠ w_ARCHIVED) :
    MetFree l x (head1 (Jvm.Cond.code x code maxLocals ret :: ws) room_1) (fun a U => a = #[(.int p1), (.int p2)] ∧ Z.Warmed39 U.vm ∧ U.heap = h0) (fun _ _ _ _ _ => True) (fun _ U o U' => ∃ v L, o = .returned v ∧ Q_rm0 Z p1 p2 w_ACTIVE w_ARCHIVED w_VOID h0 n0 v U'.heap L ∧ FrameEnd U o U' L room_1.cells room_1.slots) := by
  refine MetFree.of_bodySF (plainFor_of_name pn_0) hisR ?_
  intro p e s m args below meth c s₁ Bd hml0 hP hK
  obtain ⟨rfl, hZ, hh⟩ := hP
  have hx := Bd.exec
  have hby := Bd.bytes
  have hml : c.maxLocals = 8 := hml0
  have hown : s.vm.findClass "com/example/wellness_on_record/wellnessonrecord/store/DocumentStatusCanBecomePinLaw" = some m.cls := findClass_of_methodNamed Bd.named
  have hnm := (name_of_methodNamed Bd.named Bd.method).1
  have hlk : meth.locks = false := BodyLoose.notSynchronized Bd
  have X0 : Stand p l e room_1 s m #[(.int p1), (.int p2)] below meth c s₁ [] 0 0 := Stand.of_body Bd
  have e0 : s₁.heap = h0 := by rw [← hh, Bd.state]; rfl
  have N0 := Fr.nil n0
  show Go p e below s room_1.cells room_1.slots (Q_rm0 Z p1 p2 w_ACTIVE w_ARCHIVED w_VOID h0 n0) s₁ (entryFrame m #[(.int p1), (.int p2)] maxLocals)
  refine Go.eq (ef_rm0 m p1 p2) ?_
  show Go _ _ _ _ _ _ _  s₁ (mkF m 0 #[.val (.int p1), .val (.int p2), .unset, .unset, .unset, .unset, .unset, .unset] [])
  refine Go.st (fun t k => XS.iloadN X0.here hx rfl (hb hby at_0) rfl  k) ?_
  show Go _ _ _ _ _ _ _  s₁ (mkF m 1 #[.val (.int p1), .val (.int p2), .unset, .unset, .unset, .unset, .unset, .unset] [(.int p1)])
  refine Go.st (X0.ldcInt hx hown (mvT hZ (hw _ (List.mem_of_getElem? (i := 0) rfl))) (g := (mkF m 1 #[.val (.int p1), .val (.int p2), .unset, .unset, .unset, .unset, .unset, .unset] [(.int p1)])) rfl (hb hby at_1)) ?_
  show Go _ _ _ _ _ _ _  s₁ (mkF m 3 #[.val (.int p1), .val (.int p2), .unset, .unset, .unset, .unset, .unset, .unset] [(.int (2147483647 : Int32)), (.int p1)])
  refine Go.st (fun t k => XS.iand X0.here hx rfl (hb hby at_3) rfl k) ?_
  show Go _ _ _ _ _ _ _  s₁ (mkF m 4 #[.val (.int p1), .val (.int p2), .unset, .unset, .unset, .unset, .unset, .unset] [(.int (p1 &&& (2147483647 : Int32)))])
  refine Go.st (fun t k => XS.iconst X0.here hx rfl (hb hby at_4) k) ?_
  show Go _ _ _ _ _ _ _  s₁ (mkF m 5 #[.val (.int p1), .val (.int p2), .unset, .unset, .unset, .unset, .unset, .unset] [(.int (3 : Int32)), (.int (p1 &&& (2147483647 : Int32)))])
  refine Go.st (fun t k => Jvm.RoadKit.iremM X0 hx rfl (hb hby at_5) rfl (by decide) k) ?_
  show Go _ _ _ _ _ _ _  s₁ (mkF m 6 #[.val (.int p1), .val (.int p2), .unset, .unset, .unset, .unset, .unset, .unset] [(.int ((p1 &&& (2147483647 : Int32)) % (3 : Int32)))])
  refine Go.st (fun t k => XS.istoreN X0.here hx rfl (hb hby at_6) rfl (l' := #[.val (.int p1), .val (.int p2), .val (.int ((p1 &&& (2147483647 : Int32)) % (3 : Int32))), .unset, .unset, .unset, .unset, .unset]) rfl k) ?_
  show Go _ _ _ _ _ _ _  s₁ (mkF m 7 #[.val (.int p1), .val (.int p2), .val (.int ((p1 &&& (2147483647 : Int32)) % (3 : Int32))), .unset, .unset, .unset, .unset, .unset] [])
  rcases own_mod3 p1 with sp1 | sp1 | sp1
  · rw [sp1]
    show Go _ _ _ _ _ _ _  s₁ (mkF m 7 #[.val (.int p1), .val (.int p2), .val (.int (0 : Int32)), .unset, .unset, .unset, .unset, .unset] [])
    refine Go.st (fun t k => XS.iloadN X0.here hx rfl (hb hby at_7) rfl  k) ?_
    show Go _ _ _ _ _ _ _  s₁ (mkF m 8 #[.val (.int p1), .val (.int p2), .val (.int (0 : Int32)), .unset, .unset, .unset, .unset, .unset] [(.int p2)])
    refine Go.st (X0.ldcInt hx hown (mvT hZ (hw _ (List.mem_of_getElem? (i := 0) rfl))) (g := (mkF m 8 #[.val (.int p1), .val (.int p2), .val (.int (0 : Int32)), .unset, .unset, .unset, .unset, .unset] [(.int p2)])) rfl (hb hby at_8)) ?_
    show Go _ _ _ _ _ _ _  s₁ (mkF m 10 #[.val (.int p1), .val (.int p2), .val (.int (0 : Int32)), .unset, .unset, .unset, .unset, .unset] [(.int (2147483647 : Int32)), (.int p2)])
    refine Go.st (fun t k => XS.iand X0.here hx rfl (hb hby at_10) rfl k) ?_
    show Go _ _ _ _ _ _ _  s₁ (mkF m 11 #[.val (.int p1), .val (.int p2), .val (.int (0 : Int32)), .unset, .unset, .unset, .unset, .unset] [(.int (p2 &&& (2147483647 : Int32)))])
    refine Go.st (fun t k => XS.iconst X0.here hx rfl (hb hby at_11) k) ?_
    show Go _ _ _ _ _ _ _  s₁ (mkF m 12 #[.val (.int p1), .val (.int p2), .val (.int (0 : Int32)), .unset, .unset, .unset, .unset, .unset] [(.int (3 : Int32)), (.int (p2 &&& (2147483647 : Int32)))])
    refine Go.st (fun t k => Jvm.RoadKit.iremM X0 hx rfl (hb hby at_12) rfl (by decide) k) ?_
    show Go _ _ _ _ _ _ _  s₁ (mkF m 13 #[.val (.int p1), .val (.int p2), .val (.int (0 : Int32)), .unset, .unset, .unset, .unset, .unset] [(.int ((p2 &&& (2147483647 : Int32)) % (3 : Int32)))])
    refine Go.st (fun t k => XS.istoreN X0.here hx rfl (hb hby at_13) rfl (l' := #[.val (.int p1), .val (.int p2), .val (.int (0 : Int32)), .val (.int ((p2 &&& (2147483647 : Int32)) % (3 : Int32))), .unset, .unset, .unset, .unset]) rfl k) ?_
    show Go _ _ _ _ _ _ _  s₁ (mkF m 14 #[.val (.int p1), .val (.int p2), .val (.int (0 : Int32)), .val (.int ((p2 &&& (2147483647 : Int32)) % (3 : Int32))), .unset, .unset, .unset, .unset] [])
    rcases own_mod3 p2 with sp2 | sp2 | sp2
    · rw [sp2]
      show Go _ _ _ _ _ _ _  s₁ (mkF m 14 #[.val (.int p1), .val (.int p2), .val (.int (0 : Int32)), .val (.int (0 : Int32)), .unset, .unset, .unset, .unset] [])
      refine Go.st (fun t k => XS.iloadN X0.here hx rfl (hb hby at_14) rfl  k) ?_
      show Go _ _ _ _ _ _ _  s₁ (mkF m 15 #[.val (.int p1), .val (.int p2), .val (.int (0 : Int32)), .val (.int (0 : Int32)), .unset, .unset, .unset, .unset] [(.int (0 : Int32))])
      obtain ⟨_, _, ⟨T3, L3, k3, n3⟩, -, X3, ⟨Lc3, hQ3, l3, y3, z3⟩, st3⟩ := Jvm.LawKit.callS X0 hx (y := (⟨"com/example/wellness_on_record/wellnessonrecord/store/DocumentStatusCanBecomePinLaw", "pick", "(I)Lcom/example/wellness_on_record/wellnessonrecord/store/DocumentStatus;"⟩ : MethodName)) hown (mvT hZ (hw _ (List.mem_of_getElem? (i := 1) rfl))) (mvT hZ (hw _ (List.mem_of_getElem? (i := 2) rfl))) (mvT hZ (hw _ (List.mem_of_getElem? (i := 3) rfl))) (mvT hZ (hw _ (List.mem_of_getElem? (i := 4) rfl))) (by decide) (backOf (W := 0) (rmP l Z a0 hw [] (0 : Int32) w_ACTIVE w_ARCHIVED w_VOID h0 n0 O S_ACTIVE S_ARCHIVED S_VOID) hZ (hw _ (List.mem_of_getElem? (i := 4) rfl)) (hw _ (List.mem_of_getElem? (i := 3) rfl)) (by decide) (by decide)) (g := (mkF m 15 #[.val (.int p1), .val (.int p2), .val (.int (0 : Int32)), .val (.int (0 : Int32)), .unset, .unset, .unset, .unset] [(.int (0 : Int32))])) rfl (by rw [hml]; rfl) (argsL := [(.int (0 : Int32))]) (rest := []) (lenOf pd__I_Lcom_example_wellness_on_record_wellnessonrecord_store_DocumentStatus_ rfl) rfl (by show 2 * 0 + _ ≤ _; exact Nat.le_of_eq rfl) (hb hby at_15) (fun _ _ => ⟨rfl, e0, (by decide : 0 + 0 ≤ _), (by decide : 0 + 0 ≤ _)⟩)
      dsimp only [Pt.U, Pt.locs, Pt.cells, Pt.slots] at X3 l3 y3 z3 st3 hQ3
      subst l3 y3 z3
      obtain ⟨rfl, N3q, e3q⟩ := hQ3
      have N3 := Fr.app N0 N3q
      refine Go.st st3 ?_
      rw [show pickF (0 : Int32) w_ACTIVE w_ARCHIVED w_VOID = w_ACTIVE from by simp [pickF]]
      show Go _ _ _ _ _ _ _  T3 (mkF m 18 #[.val (.int p1), .val (.int p2), .val (.int (0 : Int32)), .val (.int (0 : Int32)), .unset, .unset, .unset, .unset] [(.ref w_ACTIVE)])
      refine Go.st (fun t k => XS.astore X3.here hx rfl (hb hby at_18) rfl rfl (l' := #[.val (.int p1), .val (.int p2), .val (.int (0 : Int32)), .val (.int (0 : Int32)), .val (.ref w_ACTIVE), .unset, .unset, .unset]) rfl k) ?_
      show Go _ _ _ _ _ _ _  T3 (mkF m 20 #[.val (.int p1), .val (.int p2), .val (.int (0 : Int32)), .val (.int (0 : Int32)), .val (.ref w_ACTIVE), .unset, .unset, .unset] [])
      refine Go.st (fun t k => XS.iloadN X3.here hx rfl (hb hby at_20) rfl  k) ?_
      show Go _ _ _ _ _ _ _  T3 (mkF m 21 #[.val (.int p1), .val (.int p2), .val (.int (0 : Int32)), .val (.int (0 : Int32)), .val (.ref w_ACTIVE), .unset, .unset, .unset] [(.int (0 : Int32))])
      obtain ⟨_, _, ⟨T4, L4, k4, n4⟩, -, X4, ⟨Lc4, hQ4, l4, y4, z4⟩, st4⟩ := Jvm.LawKit.callS X3 hx (y := (⟨"com/example/wellness_on_record/wellnessonrecord/store/DocumentStatusCanBecomePinLaw", "pick", "(I)Lcom/example/wellness_on_record/wellnessonrecord/store/DocumentStatus;"⟩ : MethodName)) hown (mvT hZ (hw _ (List.mem_of_getElem? (i := 1) rfl))) (mvT hZ (hw _ (List.mem_of_getElem? (i := 2) rfl))) (mvT hZ (hw _ (List.mem_of_getElem? (i := 3) rfl))) (mvT hZ (hw _ (List.mem_of_getElem? (i := 4) rfl))) (by decide) (backOf (W := 0) (rmP l Z a0 hw [] (0 : Int32) w_ACTIVE w_ARCHIVED w_VOID h0 n0 O S_ACTIVE S_ARCHIVED S_VOID) hZ (hw _ (List.mem_of_getElem? (i := 4) rfl)) (hw _ (List.mem_of_getElem? (i := 3) rfl)) (by decide) (by decide)) (g := (mkF m 21 #[.val (.int p1), .val (.int p2), .val (.int (0 : Int32)), .val (.int (0 : Int32)), .val (.ref w_ACTIVE), .unset, .unset, .unset] [(.int (0 : Int32))])) rfl (by rw [hml]; rfl) (argsL := [(.int (0 : Int32))]) (rest := []) (lenOf pd__I_Lcom_example_wellness_on_record_wellnessonrecord_store_DocumentStatus_ rfl) rfl (by show 2 * 0 + _ ≤ _; exact Nat.le_of_eq rfl) (hb hby at_21) (fun _ _ => ⟨rfl, e3q, (by decide : 0 + 0 ≤ _), (by decide : 0 + 0 ≤ _)⟩)
      dsimp only [Pt.U, Pt.locs, Pt.cells, Pt.slots] at X4 l4 y4 z4 st4 hQ4
      subst l4 y4 z4
      obtain ⟨rfl, N4q, e4q⟩ := hQ4
      have N4 := Fr.app N3 N4q
      refine Go.st st4 ?_
      rw [show pickF (0 : Int32) w_ACTIVE w_ARCHIVED w_VOID = w_ACTIVE from by simp [pickF]]
      show Go _ _ _ _ _ _ _  T4 (mkF m 24 #[.val (.int p1), .val (.int p2), .val (.int (0 : Int32)), .val (.int (0 : Int32)), .val (.ref w_ACTIVE), .unset, .unset, .unset] [(.ref w_ACTIVE)])
      refine Go.st (fun t k => XS.astore X4.here hx rfl (hb hby at_24) rfl rfl (l' := #[.val (.int p1), .val (.int p2), .val (.int (0 : Int32)), .val (.int (0 : Int32)), .val (.ref w_ACTIVE), .val (.ref w_ACTIVE), .unset, .unset]) rfl k) ?_
      show Go _ _ _ _ _ _ _  T4 (mkF m 26 #[.val (.int p1), .val (.int p2), .val (.int (0 : Int32)), .val (.int (0 : Int32)), .val (.ref w_ACTIVE), .val (.ref w_ACTIVE), .unset, .unset] [])
      refine Go.st (fun t k => XS.bipush X4.here hx rfl (hb hby at_26) k) ?_
      show Go _ _ _ _ _ _ _  T4 (mkF m 28 #[.val (.int p1), .val (.int p2), .val (.int (0 : Int32)), .val (.int (0 : Int32)), .val (.ref w_ACTIVE), .val (.ref w_ACTIVE), .unset, .unset] [(.int (78 : Int32))])
      refine Go.st (fun t k => XS.istore X4.here hx rfl (hb hby at_28) rfl (l' := #[.val (.int p1), .val (.int p2), .val (.int (0 : Int32)), .val (.int (0 : Int32)), .val (.ref w_ACTIVE), .val (.ref w_ACTIVE), .val (.int (78 : Int32)), .unset]) rfl k) ?_
      show Go _ _ _ _ _ _ _  T4 (mkF m 30 #[.val (.int p1), .val (.int p2), .val (.int (0 : Int32)), .val (.int (0 : Int32)), .val (.ref w_ACTIVE), .val (.ref w_ACTIVE), .val (.int (78 : Int32)), .unset] [])
      refine Go.st (fun t k => XS.iload X4.here hx rfl (hb hby at_30) rfl  k) ?_
      show Go _ _ _ _ _ _ _  T4 (mkF m 32 #[.val (.int p1), .val (.int p2), .val (.int (0 : Int32)), .val (.int (0 : Int32)), .val (.ref w_ACTIVE), .val (.ref w_ACTIVE), .val (.int (78 : Int32)), .unset] [(.int (78 : Int32))])
      refine Go.st (fun t k => XS.iloadN X4.here hx rfl (hb hby at_32) rfl  k) ?_
      show Go _ _ _ _ _ _ _  T4 (mkF m 33 #[.val (.int p1), .val (.int p2), .val (.int (0 : Int32)), .val (.int (0 : Int32)), .val (.ref w_ACTIVE), .val (.ref w_ACTIVE), .val (.int (78 : Int32)), .unset] [(.int (0 : Int32)), (.int (78 : Int32))])
      refine Go.st (fun t k => XS.iconst X4.here hx rfl (hb hby at_33) k) ?_
      show Go _ _ _ _ _ _ _  T4 (mkF m 34 #[.val (.int p1), .val (.int p2), .val (.int (0 : Int32)), .val (.int (0 : Int32)), .val (.ref w_ACTIVE), .val (.ref w_ACTIVE), .val (.int (78 : Int32)), .unset] [(.int (3 : Int32)), (.int (0 : Int32)), (.int (78 : Int32))])
      refine Go.st (fun t k => XS.imul X4.here hx rfl (hb hby at_34) rfl k) ?_
      show Go _ _ _ _ _ _ _  T4 (mkF m 35 #[.val (.int p1), .val (.int p2), .val (.int (0 : Int32)), .val (.int (0 : Int32)), .val (.ref w_ACTIVE), .val (.ref w_ACTIVE), .val (.int (78 : Int32)), .unset] [(.int ((0 : Int32) * (3 : Int32))), (.int (78 : Int32))])
      refine Go.st (fun t k => XS.iloadN X4.here hx rfl (hb hby at_35) rfl  k) ?_
      show Go _ _ _ _ _ _ _  T4 (mkF m 36 #[.val (.int p1), .val (.int p2), .val (.int (0 : Int32)), .val (.int (0 : Int32)), .val (.ref w_ACTIVE), .val (.ref w_ACTIVE), .val (.int (78 : Int32)), .unset] [(.int (0 : Int32)), (.int ((0 : Int32) * (3 : Int32))), (.int (78 : Int32))])
      refine Go.st (fun t k => XS.iadd X4.here hx rfl (hb hby at_36) rfl k) ?_
      show Go _ _ _ _ _ _ _  T4 (mkF m 37 #[.val (.int p1), .val (.int p2), .val (.int (0 : Int32)), .val (.int (0 : Int32)), .val (.ref w_ACTIVE), .val (.ref w_ACTIVE), .val (.int (78 : Int32)), .unset] [(.int (((0 : Int32) * (3 : Int32)) + (0 : Int32))), (.int (78 : Int32))])
      refine Go.st (fun t k => XS.ishr X4.here hx rfl (hb hby at_37) rfl k) ?_
      show Go _ _ _ _ _ _ _  T4 (mkF m 38 #[.val (.int p1), .val (.int p2), .val (.int (0 : Int32)), .val (.int (0 : Int32)), .val (.ref w_ACTIVE), .val (.ref w_ACTIVE), .val (.int (78 : Int32)), .unset] [(.int ((78 : Int32) >>> ((((0 : Int32) * (3 : Int32)) + (0 : Int32)) &&& 31)))])
      refine Go.st (fun t k => XS.iconst X4.here hx rfl (hb hby at_38) k) ?_
      show Go _ _ _ _ _ _ _  T4 (mkF m 39 #[.val (.int p1), .val (.int p2), .val (.int (0 : Int32)), .val (.int (0 : Int32)), .val (.ref w_ACTIVE), .val (.ref w_ACTIVE), .val (.int (78 : Int32)), .unset] [(.int (1 : Int32)), (.int ((78 : Int32) >>> ((((0 : Int32) * (3 : Int32)) + (0 : Int32)) &&& 31)))])
      refine Go.st (fun t k => XS.iand X4.here hx rfl (hb hby at_39) rfl k) ?_
      show Go _ _ _ _ _ _ _  T4 (mkF m 40 #[.val (.int p1), .val (.int p2), .val (.int (0 : Int32)), .val (.int (0 : Int32)), .val (.ref w_ACTIVE), .val (.ref w_ACTIVE), .val (.int (78 : Int32)), .unset] [(.int (((78 : Int32) >>> ((((0 : Int32) * (3 : Int32)) + (0 : Int32)) &&& 31)) &&& (1 : Int32)))])
      refine Go.st (fun t k => XS.ifYes X4.here hx rfl (pc0 := 40) (pc' := 47) rfl (hb hby at_40) rfl ((if0 _ _).trans (teq (by decide : (((78 : Int32) >>> ((((0 : Int32) * (3 : Int32)) + (0 : Int32)) &&& 31)) &&& (1 : Int32)) = (0 : Int32))).1) (by decide) (by decide) k) ?_
      show Go _ _ _ _ _ _ _  T4 (mkF m 47 #[.val (.int p1), .val (.int p2), .val (.int (0 : Int32)), .val (.int (0 : Int32)), .val (.ref w_ACTIVE), .val (.ref w_ACTIVE), .val (.int (78 : Int32)), .unset] [])
      refine Go.st (fun t k => XS.iconst X4.here hx rfl (hb hby at_47) k) ?_
      show Go _ _ _ _ _ _ _  T4 (mkF m 48 #[.val (.int p1), .val (.int p2), .val (.int (0 : Int32)), .val (.int (0 : Int32)), .val (.ref w_ACTIVE), .val (.ref w_ACTIVE), .val (.int (78 : Int32)), .unset] [(.int (0 : Int32))])
      refine Go.st (fun t k => XS.istore X4.here hx rfl (hb hby at_48) rfl (l' := #[.val (.int p1), .val (.int p2), .val (.int (0 : Int32)), .val (.int (0 : Int32)), .val (.ref w_ACTIVE), .val (.ref w_ACTIVE), .val (.int (78 : Int32)), .val (.int (0 : Int32))]) rfl k) ?_
      show Go _ _ _ _ _ _ _  T4 (mkF m 50 #[.val (.int p1), .val (.int p2), .val (.int (0 : Int32)), .val (.int (0 : Int32)), .val (.ref w_ACTIVE), .val (.ref w_ACTIVE), .val (.int (78 : Int32)), .val (.int (0 : Int32))] [])
      refine Go.st (fun t k => XS.aload X4.here hx rfl (hb hby at_50) rfl rfl  k) ?_
      show Go _ _ _ _ _ _ _  T4 (mkF m 52 #[.val (.int p1), .val (.int p2), .val (.int (0 : Int32)), .val (.int (0 : Int32)), .val (.ref w_ACTIVE), .val (.ref w_ACTIVE), .val (.int (78 : Int32)), .val (.int (0 : Int32))] [(.ref w_ACTIVE)])
      refine Go.st (fun t k => XS.aload X4.here hx rfl (hb hby at_52) rfl rfl  k) ?_
      show Go _ _ _ _ _ _ _  T4 (mkF m 54 #[.val (.int p1), .val (.int p2), .val (.int (0 : Int32)), .val (.int (0 : Int32)), .val (.ref w_ACTIVE), .val (.ref w_ACTIVE), .val (.int (78 : Int32)), .val (.int (0 : Int32))] [(.ref w_ACTIVE), (.ref w_ACTIVE)])
      obtain ⟨cq5, kq5, q5a, q5b, q5c⟩ := isOf hZ e4q (E_ACTIVE.ext O.2)
      obtain ⟨_, _, ⟨T5, L5, k5, n5⟩, -, X5, ⟨Lc5, hQ5, l5, y5, z5⟩, st5⟩ := X4.virtualBack hx (y := (⟨"com/example/wellness_on_record/wellnessonrecord/store/DocumentStatus", "canBecome", "(Lcom/example/wellness_on_record/wellnessonrecord/store/DocumentStatus;)Z"⟩ : MethodName)) (z := (⟨"com/example/wellness_on_record/wellnessonrecord/store/DocumentStatus", "canBecome", "(Lcom/example/wellness_on_record/wellnessonrecord/store/DocumentStatus;)Z"⟩ : MethodName)) hown (mvT hZ (hw _ (List.mem_of_getElem? (i := 8) rfl))) (mvT hZ (hw _ (List.mem_of_getElem? (i := 9) rfl))) (notFace_of_selects (args := #[]) (mvT hZ (hw _ (List.mem_of_getElem? (i := 11) rfl)))) (mvT hZ (hw _ (List.mem_of_getElem? (i := 11) rfl))) (mvT hZ (hw _ (List.mem_of_getElem? (i := 10) rfl))) (by decide) (backOf (W := 0) (rmC l Z a0 hw [] w_ACTIVE w_ACTIVE w_ACTIVE h0 n0 O S_ACTIVE) hZ (hw _ (List.mem_of_getElem? (i := 12) rfl)) (hw _ (List.mem_of_getElem? (i := 6) rfl)) (by decide) (by decide)) q5a q5c (g := (mkF m 54 #[.val (.int p1), .val (.int p2), .val (.int (0 : Int32)), .val (.int (0 : Int32)), .val (.ref w_ACTIVE), .val (.ref w_ACTIVE), .val (.int (78 : Int32)), .val (.int (0 : Int32))] [(.ref w_ACTIVE), (.ref w_ACTIVE)])) rfl (by rw [hml]; rfl) (Steps.refl _) (argsL := [(.ref w_ACTIVE)]) (rest := []) (lenOf pd__Lcom_example_wellness_on_record_wellnessonrecord_store_DocumentStatus__Z rfl) rfl (by show 2 * 0 + _ ≤ _; exact Nat.le_of_eq rfl) (hb hby at_54) (fun _ _ => ⟨rfl, e4q, (by decide : 0 + 0 ≤ _), (by decide : 0 + 0 ≤ _)⟩)
      dsimp only [Pt.U, Pt.locs, Pt.cells, Pt.slots] at X5 l5 y5 z5 st5 hQ5
      subst l5 y5 z5
      obtain ⟨rfl, N5q, e5q⟩ := hQ5
      have N5 := Fr.app N4 N5q
      refine Go.tr st5 ?_
      rw [show canF w_ACTIVE w_ACTIVE w_ACTIVE = (0 : Int32) from by simp [canF, n_ACTIVE_ARCHIVED, n_ACTIVE_VOID, n_ARCHIVED_ACTIVE, n_ARCHIVED_VOID, n_VOID_ACTIVE, n_VOID_ARCHIVED]]
      show Go _ _ _ _ _ _ _  T5 (mkF m 57 #[.val (.int p1), .val (.int p2), .val (.int (0 : Int32)), .val (.int (0 : Int32)), .val (.ref w_ACTIVE), .val (.ref w_ACTIVE), .val (.int (78 : Int32)), .val (.int (0 : Int32))] [(.int (0 : Int32))])
      refine Go.st (fun t k => XS.iload X5.here hx rfl (hb hby at_57) rfl  k) ?_
      show Go _ _ _ _ _ _ _  T5 (mkF m 59 #[.val (.int p1), .val (.int p2), .val (.int (0 : Int32)), .val (.int (0 : Int32)), .val (.ref w_ACTIVE), .val (.ref w_ACTIVE), .val (.int (78 : Int32)), .val (.int (0 : Int32))] [(.int (0 : Int32)), (.int (0 : Int32))])
      refine Go.st (fun t k => XS.icmpNo X5.here hx rfl (hb hby at_59) rfl (teq (rfl : (0 : Int32) = (0 : Int32))).2 k) ?_
      show Go _ _ _ _ _ _ _  T5 (mkF m 62 #[.val (.int p1), .val (.int p2), .val (.int (0 : Int32)), .val (.int (0 : Int32)), .val (.ref w_ACTIVE), .val (.ref w_ACTIVE), .val (.int (78 : Int32)), .val (.int (0 : Int32))] [])
      refine Go.st (fun t k => XS.iconst X5.here hx rfl (hb hby at_62) k) ?_
      show Go _ _ _ _ _ _ _  T5 (mkF m 63 #[.val (.int p1), .val (.int p2), .val (.int (0 : Int32)), .val (.int (0 : Int32)), .val (.ref w_ACTIVE), .val (.ref w_ACTIVE), .val (.int (78 : Int32)), .val (.int (0 : Int32))] [(.int (1 : Int32))])
      refine Go.st (fun t k => XS.goto X5.here hx rfl (pc0 := 63) (pc' := 67) rfl (hb hby at_63) (by decide) (by decide) k) ?_
      show Go _ _ _ _ _ _ _  T5 (mkF m 67 #[.val (.int p1), .val (.int p2), .val (.int (0 : Int32)), .val (.int (0 : Int32)), .val (.ref w_ACTIVE), .val (.ref w_ACTIVE), .val (.int (78 : Int32)), .val (.int (0 : Int32))] [(.int (1 : Int32))])
      refine Go.retN X5 hlk hx (t := .boolean) (z' := (1 : Int32)) Bd.returns (by simp) (hb hby at_67) (by decide) (by decide) rfl ?_
      show Q_rm0 Z p1 p2 w_ACTIVE w_ARCHIVED w_VOID h0 n0 _ T5.heap _
      rw [e5q]
      exact ⟨rfl, N5⟩
    · rw [sp2]
      show Go _ _ _ _ _ _ _  s₁ (mkF m 14 #[.val (.int p1), .val (.int p2), .val (.int (0 : Int32)), .val (.int (1 : Int32)), .unset, .unset, .unset, .unset] [])
      refine Go.st (fun t k => XS.iloadN X0.here hx rfl (hb hby at_14) rfl  k) ?_
      show Go _ _ _ _ _ _ _  s₁ (mkF m 15 #[.val (.int p1), .val (.int p2), .val (.int (0 : Int32)), .val (.int (1 : Int32)), .unset, .unset, .unset, .unset] [(.int (0 : Int32))])
      obtain ⟨_, _, ⟨T6, L6, k6, n6⟩, -, X6, ⟨Lc6, hQ6, l6, y6, z6⟩, st6⟩ := Jvm.LawKit.callS X0 hx (y := (⟨"com/example/wellness_on_record/wellnessonrecord/store/DocumentStatusCanBecomePinLaw", "pick", "(I)Lcom/example/wellness_on_record/wellnessonrecord/store/DocumentStatus;"⟩ : MethodName)) hown (mvT hZ (hw _ (List.mem_of_getElem? (i := 1) rfl))) (mvT hZ (hw _ (List.mem_of_getElem? (i := 2) rfl))) (mvT hZ (hw _ (List.mem_of_getElem? (i := 3) rfl))) (mvT hZ (hw _ (List.mem_of_getElem? (i := 4) rfl))) (by decide) (backOf (W := 0) (rmP l Z a0 hw [] (0 : Int32) w_ACTIVE w_ARCHIVED w_VOID h0 n0 O S_ACTIVE S_ARCHIVED S_VOID) hZ (hw _ (List.mem_of_getElem? (i := 4) rfl)) (hw _ (List.mem_of_getElem? (i := 3) rfl)) (by decide) (by decide)) (g := (mkF m 15 #[.val (.int p1), .val (.int p2), .val (.int (0 : Int32)), .val (.int (1 : Int32)), .unset, .unset, .unset, .unset] [(.int (0 : Int32))])) rfl (by rw [hml]; rfl) (argsL := [(.int (0 : Int32))]) (rest := []) (lenOf pd__I_Lcom_example_wellness_on_record_wellnessonrecord_store_DocumentStatus_ rfl) rfl (by show 2 * 0 + _ ≤ _; exact Nat.le_of_eq rfl) (hb hby at_15) (fun _ _ => ⟨rfl, e0, (by decide : 0 + 0 ≤ _), (by decide : 0 + 0 ≤ _)⟩)
      dsimp only [Pt.U, Pt.locs, Pt.cells, Pt.slots] at X6 l6 y6 z6 st6 hQ6
      subst l6 y6 z6
      obtain ⟨rfl, N6q, e6q⟩ := hQ6
      have N6 := Fr.app N0 N6q
      refine Go.st st6 ?_
      rw [show pickF (0 : Int32) w_ACTIVE w_ARCHIVED w_VOID = w_ACTIVE from by simp [pickF]]
      show Go _ _ _ _ _ _ _  T6 (mkF m 18 #[.val (.int p1), .val (.int p2), .val (.int (0 : Int32)), .val (.int (1 : Int32)), .unset, .unset, .unset, .unset] [(.ref w_ACTIVE)])
      refine Go.st (fun t k => XS.astore X6.here hx rfl (hb hby at_18) rfl rfl (l' := #[.val (.int p1), .val (.int p2), .val (.int (0 : Int32)), .val (.int (1 : Int32)), .val (.ref w_ACTIVE), .unset, .unset, .unset]) rfl k) ?_
      show Go _ _ _ _ _ _ _  T6 (mkF m 20 #[.val (.int p1), .val (.int p2), .val (.int (0 : Int32)), .val (.int (1 : Int32)), .val (.ref w_ACTIVE), .unset, .unset, .unset] [])
      refine Go.st (fun t k => XS.iloadN X6.here hx rfl (hb hby at_20) rfl  k) ?_
      show Go _ _ _ _ _ _ _  T6 (mkF m 21 #[.val (.int p1), .val (.int p2), .val (.int (0 : Int32)), .val (.int (1 : Int32)), .val (.ref w_ACTIVE), .unset, .unset, .unset] [(.int (1 : Int32))])
      obtain ⟨_, _, ⟨T7, L7, k7, n7⟩, -, X7, ⟨Lc7, hQ7, l7, y7, z7⟩, st7⟩ := Jvm.LawKit.callS X6 hx (y := (⟨"com/example/wellness_on_record/wellnessonrecord/store/DocumentStatusCanBecomePinLaw", "pick", "(I)Lcom/example/wellness_on_record/wellnessonrecord/store/DocumentStatus;"⟩ : MethodName)) hown (mvT hZ (hw _ (List.mem_of_getElem? (i := 1) rfl))) (mvT hZ (hw _ (List.mem_of_getElem? (i := 2) rfl))) (mvT hZ (hw _ (List.mem_of_getElem? (i := 3) rfl))) (mvT hZ (hw _ (List.mem_of_getElem? (i := 4) rfl))) (by decide) (backOf (W := 0) (rmP l Z a0 hw [] (1 : Int32) w_ACTIVE w_ARCHIVED w_VOID h0 n0 O S_ACTIVE S_ARCHIVED S_VOID) hZ (hw _ (List.mem_of_getElem? (i := 4) rfl)) (hw _ (List.mem_of_getElem? (i := 3) rfl)) (by decide) (by decide)) (g := (mkF m 21 #[.val (.int p1), .val (.int p2), .val (.int (0 : Int32)), .val (.int (1 : Int32)), .val (.ref w_ACTIVE), .unset, .unset, .unset] [(.int (1 : Int32))])) rfl (by rw [hml]; rfl) (argsL := [(.int (1 : Int32))]) (rest := []) (lenOf pd__I_Lcom_example_wellness_on_record_wellnessonrecord_store_DocumentStatus_ rfl) rfl (by show 2 * 0 + _ ≤ _; exact Nat.le_of_eq rfl) (hb hby at_21) (fun _ _ => ⟨rfl, e6q, (by decide : 0 + 0 ≤ _), (by decide : 0 + 0 ≤ _)⟩)
      dsimp only [Pt.U, Pt.locs, Pt.cells, Pt.slots] at X7 l7 y7 z7 st7 hQ7
      subst l7 y7 z7
      obtain ⟨rfl, N7q, e7q⟩ := hQ7
      have N7 := Fr.app N6 N7q
      refine Go.st st7 ?_
      rw [show pickF (1 : Int32) w_ACTIVE w_ARCHIVED w_VOID = w_ARCHIVED from by simp [pickF]]
      show Go _ _ _ _ _ _ _  T7 (mkF m 24 #[.val (.int p1), .val (.int p2), .val (.int (0 : Int32)), .val (.int (1 : Int32)), .val (.ref w_ACTIVE), .unset, .unset, .unset] [(.ref w_ARCHIVED)])
      refine Go.st (fun t k => XS.astore X7.here hx rfl (hb hby at_24) rfl rfl (l' := #[.val (.int p1), .val (.int p2), .val (.int (0 : Int32)), .val (.int (1 : Int32)), .val (.ref w_ACTIVE), .val (.ref w_ARCHIVED), .unset, .unset]) rfl k) ?_
      show Go _ _ _ _ _ _ _  T7 (mkF m 26 #[.val (.int p1), .val (.int p2), .val (.int (0 : Int32)), .val (.int (1 : Int32)), .val (.ref w_ACTIVE), .val (.ref w_ARCHIVED), .unset, .unset] [])
      refine Go.st (fun t k => XS.bipush X7.here hx rfl (hb hby at_26) k) ?_
      show Go _ _ _ _ _ _ _  T7 (mkF m 28 #[.val (.int p1), .val (.int p2), .val (.int (0 : Int32)), .val (.int (1 : Int32)), .val (.ref w_ACTIVE), .val (.ref w_ARCHIVED), .unset, .unset] [(.int (78 : Int32))])
      refine Go.st (fun t k => XS.istore X7.here hx rfl (hb hby at_28) rfl (l' := #[.val (.int p1), .val (.int p2), .val (.int (0 : Int32)), .val (.int (1 : Int32)), .val (.ref w_ACTIVE), .val (.ref w_ARCHIVED), .val (.int (78 : Int32)), .unset]) rfl k) ?_
      show Go _ _ _ _ _ _ _  T7 (mkF m 30 #[.val (.int p1), .val (.int p2), .val (.int (0 : Int32)), .val (.int (1 : Int32)), .val (.ref w_ACTIVE), .val (.ref w_ARCHIVED), .val (.int (78 : Int32)), .unset] [])
      refine Go.st (fun t k => XS.iload X7.here hx rfl (hb hby at_30) rfl  k) ?_
      show Go _ _ _ _ _ _ _  T7 (mkF m 32 #[.val (.int p1), .val (.int p2), .val (.int (0 : Int32)), .val (.int (1 : Int32)), .val (.ref w_ACTIVE), .val (.ref w_ARCHIVED), .val (.int (78 : Int32)), .unset] [(.int (78 : Int32))])
      refine Go.st (fun t k => XS.iloadN X7.here hx rfl (hb hby at_32) rfl  k) ?_
      show Go _ _ _ _ _ _ _  T7 (mkF m 33 #[.val (.int p1), .val (.int p2), .val (.int (0 : Int32)), .val (.int (1 : Int32)), .val (.ref w_ACTIVE), .val (.ref w_ARCHIVED), .val (.int (78 : Int32)), .unset] [(.int (0 : Int32)), (.int (78 : Int32))])
      refine Go.st (fun t k => XS.iconst X7.here hx rfl (hb hby at_33) k) ?_
      show Go _ _ _ _ _ _ _  T7 (mkF m 34 #[.val (.int p1), .val (.int p2), .val (.int (0 : Int32)), .val (.int (1 : Int32)), .val (.ref w_ACTIVE), .val (.ref w_ARCHIVED), .val (.int (78 : Int32)), .unset] [(.int (3 : Int32)), (.int (0 : Int32)), (.int (78 : Int32))])
      refine Go.st (fun t k => XS.imul X7.here hx rfl (hb hby at_34) rfl k) ?_
      show Go _ _ _ _ _ _ _  T7 (mkF m 35 #[.val (.int p1), .val (.int p2), .val (.int (0 : Int32)), .val (.int (1 : Int32)), .val (.ref w_ACTIVE), .val (.ref w_ARCHIVED), .val (.int (78 : Int32)), .unset] [(.int ((0 : Int32) * (3 : Int32))), (.int (78 : Int32))])
      refine Go.st (fun t k => XS.iloadN X7.here hx rfl (hb hby at_35) rfl  k) ?_
      show Go _ _ _ _ _ _ _  T7 (mkF m 36 #[.val (.int p1), .val (.int p2), .val (.int (0 : Int32)), .val (.int (1 : Int32)), .val (.ref w_ACTIVE), .val (.ref w_ARCHIVED), .val (.int (78 : Int32)), .unset] [(.int (1 : Int32)), (.int ((0 : Int32) * (3 : Int32))), (.int (78 : Int32))])
      refine Go.st (fun t k => XS.iadd X7.here hx rfl (hb hby at_36) rfl k) ?_
      show Go _ _ _ _ _ _ _  T7 (mkF m 37 #[.val (.int p1), .val (.int p2), .val (.int (0 : Int32)), .val (.int (1 : Int32)), .val (.ref w_ACTIVE), .val (.ref w_ARCHIVED), .val (.int (78 : Int32)), .unset] [(.int (((0 : Int32) * (3 : Int32)) + (1 : Int32))), (.int (78 : Int32))])
      refine Go.st (fun t k => XS.ishr X7.here hx rfl (hb hby at_37) rfl k) ?_
      show Go _ _ _ _ _ _ _  T7 (mkF m 38 #[.val (.int p1), .val (.int p2), .val (.int (0 : Int32)), .val (.int (1 : Int32)), .val (.ref w_ACTIVE), .val (.ref w_ARCHIVED), .val (.int (78 : Int32)), .unset] [(.int ((78 : Int32) >>> ((((0 : Int32) * (3 : Int32)) + (1 : Int32)) &&& 31)))])
      refine Go.st (fun t k => XS.iconst X7.here hx rfl (hb hby at_38) k) ?_
      show Go _ _ _ _ _ _ _  T7 (mkF m 39 #[.val (.int p1), .val (.int p2), .val (.int (0 : Int32)), .val (.int (1 : Int32)), .val (.ref w_ACTIVE), .val (.ref w_ARCHIVED), .val (.int (78 : Int32)), .unset] [(.int (1 : Int32)), (.int ((78 : Int32) >>> ((((0 : Int32) * (3 : Int32)) + (1 : Int32)) &&& 31)))])
      refine Go.st (fun t k => XS.iand X7.here hx rfl (hb hby at_39) rfl k) ?_
      show Go _ _ _ _ _ _ _  T7 (mkF m 40 #[.val (.int p1), .val (.int p2), .val (.int (0 : Int32)), .val (.int (1 : Int32)), .val (.ref w_ACTIVE), .val (.ref w_ARCHIVED), .val (.int (78 : Int32)), .unset] [(.int (((78 : Int32) >>> ((((0 : Int32) * (3 : Int32)) + (1 : Int32)) &&& 31)) &&& (1 : Int32)))])
      refine Go.st (fun t k => XS.ifNo X7.here hx rfl (hb hby at_40) rfl ((if0 _ _).trans (feq (by decide : ¬ ((((78 : Int32) >>> ((((0 : Int32) * (3 : Int32)) + (1 : Int32)) &&& 31)) &&& (1 : Int32)) = (0 : Int32)))).1) k) ?_
      show Go _ _ _ _ _ _ _  T7 (mkF m 43 #[.val (.int p1), .val (.int p2), .val (.int (0 : Int32)), .val (.int (1 : Int32)), .val (.ref w_ACTIVE), .val (.ref w_ARCHIVED), .val (.int (78 : Int32)), .unset] [])
      refine Go.st (fun t k => XS.iconst X7.here hx rfl (hb hby at_43) k) ?_
      show Go _ _ _ _ _ _ _  T7 (mkF m 44 #[.val (.int p1), .val (.int p2), .val (.int (0 : Int32)), .val (.int (1 : Int32)), .val (.ref w_ACTIVE), .val (.ref w_ARCHIVED), .val (.int (78 : Int32)), .unset] [(.int (1 : Int32))])
      refine Go.st (fun t k => XS.goto X7.here hx rfl (pc0 := 44) (pc' := 48) rfl (hb hby at_44) (by decide) (by decide) k) ?_
      show Go _ _ _ _ _ _ _  T7 (mkF m 48 #[.val (.int p1), .val (.int p2), .val (.int (0 : Int32)), .val (.int (1 : Int32)), .val (.ref w_ACTIVE), .val (.ref w_ARCHIVED), .val (.int (78 : Int32)), .unset] [(.int (1 : Int32))])
      refine Go.st (fun t k => XS.istore X7.here hx rfl (hb hby at_48) rfl (l' := #[.val (.int p1), .val (.int p2), .val (.int (0 : Int32)), .val (.int (1 : Int32)), .val (.ref w_ACTIVE), .val (.ref w_ARCHIVED), .val (.int (78 : Int32)), .val (.int (1 : Int32))]) rfl k) ?_
      show Go _ _ _ _ _ _ _  T7 (mkF m 50 #[.val (.int p1), .val (.int p2), .val (.int (0 : Int32)), .val (.int (1 : Int32)), .val (.ref w_ACTIVE), .val (.ref w_ARCHIVED), .val (.int (78 : Int32)), .val (.int (1 : Int32))] [])
      refine Go.st (fun t k => XS.aload X7.here hx rfl (hb hby at_50) rfl rfl  k) ?_
      show Go _ _ _ _ _ _ _  T7 (mkF m 52 #[.val (.int p1), .val (.int p2), .val (.int (0 : Int32)), .val (.int (1 : Int32)), .val (.ref w_ACTIVE), .val (.ref w_ARCHIVED), .val (.int (78 : Int32)), .val (.int (1 : Int32))] [(.ref w_ACTIVE)])
      refine Go.st (fun t k => XS.aload X7.here hx rfl (hb hby at_52) rfl rfl  k) ?_
      show Go _ _ _ _ _ _ _  T7 (mkF m 54 #[.val (.int p1), .val (.int p2), .val (.int (0 : Int32)), .val (.int (1 : Int32)), .val (.ref w_ACTIVE), .val (.ref w_ARCHIVED), .val (.int (78 : Int32)), .val (.int (1 : Int32))] [(.ref w_ARCHIVED), (.ref w_ACTIVE)])
      obtain ⟨cq8, kq8, q8a, q8b, q8c⟩ := isOf hZ e7q (E_ACTIVE.ext O.2)
      obtain ⟨_, _, ⟨T8, L8, k8, n8⟩, -, X8, ⟨Lc8, hQ8, l8, y8, z8⟩, st8⟩ := X7.virtualBack hx (y := (⟨"com/example/wellness_on_record/wellnessonrecord/store/DocumentStatus", "canBecome", "(Lcom/example/wellness_on_record/wellnessonrecord/store/DocumentStatus;)Z"⟩ : MethodName)) (z := (⟨"com/example/wellness_on_record/wellnessonrecord/store/DocumentStatus", "canBecome", "(Lcom/example/wellness_on_record/wellnessonrecord/store/DocumentStatus;)Z"⟩ : MethodName)) hown (mvT hZ (hw _ (List.mem_of_getElem? (i := 8) rfl))) (mvT hZ (hw _ (List.mem_of_getElem? (i := 9) rfl))) (notFace_of_selects (args := #[]) (mvT hZ (hw _ (List.mem_of_getElem? (i := 11) rfl)))) (mvT hZ (hw _ (List.mem_of_getElem? (i := 11) rfl))) (mvT hZ (hw _ (List.mem_of_getElem? (i := 10) rfl))) (by decide) (backOf (W := 0) (rmC l Z a0 hw [] w_ACTIVE w_ARCHIVED w_ACTIVE h0 n0 O S_ACTIVE) hZ (hw _ (List.mem_of_getElem? (i := 12) rfl)) (hw _ (List.mem_of_getElem? (i := 6) rfl)) (by decide) (by decide)) q8a q8c (g := (mkF m 54 #[.val (.int p1), .val (.int p2), .val (.int (0 : Int32)), .val (.int (1 : Int32)), .val (.ref w_ACTIVE), .val (.ref w_ARCHIVED), .val (.int (78 : Int32)), .val (.int (1 : Int32))] [(.ref w_ARCHIVED), (.ref w_ACTIVE)])) rfl (by rw [hml]; rfl) (Steps.refl _) (argsL := [(.ref w_ARCHIVED)]) (rest := []) (lenOf pd__Lcom_example_wellness_on_record_wellnessonrecord_store_DocumentStatus__Z rfl) rfl (by show 2 * 0 + _ ≤ _; exact Nat.le_of_eq rfl) (hb hby at_54) (fun _ _ => ⟨rfl, e7q, (by decide : 0 + 0 ≤ _), (by decide : 0 + 0 ≤ _)⟩)
      dsimp only [Pt.U, Pt.locs, Pt.cells, Pt.slots] at X8 l8 y8 z8 st8 hQ8
      subst l8 y8 z8
      obtain ⟨rfl, N8q, e8q⟩ := hQ8
      have N8 := Fr.app N7 N8q
      refine Go.tr st8 ?_
      rw [show canF w_ACTIVE w_ARCHIVED w_ACTIVE = (1 : Int32) from by simp [canF, n_ACTIVE_ARCHIVED, n_ACTIVE_VOID, n_ARCHIVED_ACTIVE, n_ARCHIVED_VOID, n_VOID_ACTIVE, n_VOID_ARCHIVED]]
      show Go _ _ _ _ _ _ _  T8 (mkF m 57 #[.val (.int p1), .val (.int p2), .val (.int (0 : Int32)), .val (.int (1 : Int32)), .val (.ref w_ACTIVE), .val (.ref w_ARCHIVED), .val (.int (78 : Int32)), .val (.int (1 : Int32))] [(.int (1 : Int32))])
      refine Go.st (fun t k => XS.iload X8.here hx rfl (hb hby at_57) rfl  k) ?_
      show Go _ _ _ _ _ _ _  T8 (mkF m 59 #[.val (.int p1), .val (.int p2), .val (.int (0 : Int32)), .val (.int (1 : Int32)), .val (.ref w_ACTIVE), .val (.ref w_ARCHIVED), .val (.int (78 : Int32)), .val (.int (1 : Int32))] [(.int (1 : Int32)), (.int (1 : Int32))])
      refine Go.st (fun t k => XS.icmpNo X8.here hx rfl (hb hby at_59) rfl (teq (rfl : (1 : Int32) = (1 : Int32))).2 k) ?_
      show Go _ _ _ _ _ _ _  T8 (mkF m 62 #[.val (.int p1), .val (.int p2), .val (.int (0 : Int32)), .val (.int (1 : Int32)), .val (.ref w_ACTIVE), .val (.ref w_ARCHIVED), .val (.int (78 : Int32)), .val (.int (1 : Int32))] [])
      refine Go.st (fun t k => XS.iconst X8.here hx rfl (hb hby at_62) k) ?_
      show Go _ _ _ _ _ _ _  T8 (mkF m 63 #[.val (.int p1), .val (.int p2), .val (.int (0 : Int32)), .val (.int (1 : Int32)), .val (.ref w_ACTIVE), .val (.ref w_ARCHIVED), .val (.int (78 : Int32)), .val (.int (1 : Int32))] [(.int (1 : Int32))])
      refine Go.st (fun t k => XS.goto X8.here hx rfl (pc0 := 63) (pc' := 67) rfl (hb hby at_63) (by decide) (by decide) k) ?_
      show Go _ _ _ _ _ _ _  T8 (mkF m 67 #[.val (.int p1), .val (.int p2), .val (.int (0 : Int32)), .val (.int (1 : Int32)), .val (.ref w_ACTIVE), .val (.ref w_ARCHIVED), .val (.int (78 : Int32)), .val (.int (1 : Int32))] [(.int (1 : Int32))])
      refine Go.retN X8 hlk hx (t := .boolean) (z' := (1 : Int32)) Bd.returns (by simp) (hb hby at_67) (by decide) (by decide) rfl ?_
      show Q_rm0 Z p1 p2 w_ACTIVE w_ARCHIVED w_VOID h0 n0 _ T8.heap _
      rw [e8q]
      exact ⟨rfl, N8⟩
    · rw [sp2]
      show Go _ _ _ _ _ _ _  s₁ (mkF m 14 #[.val (.int p1), .val (.int p2), .val (.int (0 : Int32)), .val (.int (2 : Int32)), .unset, .unset, .unset, .unset] [])
      refine Go.st (fun t k => XS.iloadN X0.here hx rfl (hb hby at_14) rfl  k) ?_
      show Go _ _ _ _ _ _ _  s₁ (mkF m 15 #[.val (.int p1), .val (.int p2), .val (.int (0 : Int32)), .val (.int (2 : Int32)), .unset, .unset, .unset, .unset] [(.int (0 : Int32))])
      obtain ⟨_, _, ⟨T9, L9, k9, n9⟩, -, X9, ⟨Lc9, hQ9, l9, y9, z9⟩, st9⟩ := Jvm.LawKit.callS X0 hx (y := (⟨"com/example/wellness_on_record/wellnessonrecord/store/DocumentStatusCanBecomePinLaw", "pick", "(I)Lcom/example/wellness_on_record/wellnessonrecord/store/DocumentStatus;"⟩ : MethodName)) hown (mvT hZ (hw _ (List.mem_of_getElem? (i := 1) rfl))) (mvT hZ (hw _ (List.mem_of_getElem? (i := 2) rfl))) (mvT hZ (hw _ (List.mem_of_getElem? (i := 3) rfl))) (mvT hZ (hw _ (List.mem_of_getElem? (i := 4) rfl))) (by decide) (backOf (W := 0) (rmP l Z a0 hw [] (0 : Int32) w_ACTIVE w_ARCHIVED w_VOID h0 n0 O S_ACTIVE S_ARCHIVED S_VOID) hZ (hw _ (List.mem_of_getElem? (i := 4) rfl)) (hw _ (List.mem_of_getElem? (i := 3) rfl)) (by decide) (by decide)) (g := (mkF m 15 #[.val (.int p1), .val (.int p2), .val (.int (0 : Int32)), .val (.int (2 : Int32)), .unset, .unset, .unset, .unset] [(.int (0 : Int32))])) rfl (by rw [hml]; rfl) (argsL := [(.int (0 : Int32))]) (rest := []) (lenOf pd__I_Lcom_example_wellness_on_record_wellnessonrecord_store_DocumentStatus_ rfl) rfl (by show 2 * 0 + _ ≤ _; exact Nat.le_of_eq rfl) (hb hby at_15) (fun _ _ => ⟨rfl, e0, (by decide : 0 + 0 ≤ _), (by decide : 0 + 0 ≤ _)⟩)
      dsimp only [Pt.U, Pt.locs, Pt.cells, Pt.slots] at X9 l9 y9 z9 st9 hQ9
      subst l9 y9 z9
      obtain ⟨rfl, N9q, e9q⟩ := hQ9
      have N9 := Fr.app N0 N9q
      refine Go.st st9 ?_
      rw [show pickF (0 : Int32) w_ACTIVE w_ARCHIVED w_VOID = w_ACTIVE from by simp [pickF]]
      show Go _ _ _ _ _ _ _  T9 (mkF m 18 #[.val (.int p1), .val (.int p2), .val (.int (0 : Int32)), .val (.int (2 : Int32)), .unset, .unset, .unset, .unset] [(.ref w_ACTIVE)])
      refine Go.st (fun t k => XS.astore X9.here hx rfl (hb hby at_18) rfl rfl (l' := #[.val (.int p1), .val (.int p2), .val (.int (0 : Int32)), .val (.int (2 : Int32)), .val (.ref w_ACTIVE), .unset, .unset, .unset]) rfl k) ?_
      show Go _ _ _ _ _ _ _  T9 (mkF m 20 #[.val (.int p1), .val (.int p2), .val (.int (0 : Int32)), .val (.int (2 : Int32)), .val (.ref w_ACTIVE), .unset, .unset, .unset] [])
      refine Go.st (fun t k => XS.iloadN X9.here hx rfl (hb hby at_20) rfl  k) ?_
      show Go _ _ _ _ _ _ _  T9 (mkF m 21 #[.val (.int p1), .val (.int p2), .val (.int (0 : Int32)), .val (.int (2 : Int32)), .val (.ref w_ACTIVE), .unset, .unset, .unset] [(.int (2 : Int32))])
      obtain ⟨_, _, ⟨T10, L10, k10, n10⟩, -, X10, ⟨Lc10, hQ10, l10, y10, z10⟩, st10⟩ := Jvm.LawKit.callS X9 hx (y := (⟨"com/example/wellness_on_record/wellnessonrecord/store/DocumentStatusCanBecomePinLaw", "pick", "(I)Lcom/example/wellness_on_record/wellnessonrecord/store/DocumentStatus;"⟩ : MethodName)) hown (mvT hZ (hw _ (List.mem_of_getElem? (i := 1) rfl))) (mvT hZ (hw _ (List.mem_of_getElem? (i := 2) rfl))) (mvT hZ (hw _ (List.mem_of_getElem? (i := 3) rfl))) (mvT hZ (hw _ (List.mem_of_getElem? (i := 4) rfl))) (by decide) (backOf (W := 0) (rmP l Z a0 hw [] (2 : Int32) w_ACTIVE w_ARCHIVED w_VOID h0 n0 O S_ACTIVE S_ARCHIVED S_VOID) hZ (hw _ (List.mem_of_getElem? (i := 4) rfl)) (hw _ (List.mem_of_getElem? (i := 3) rfl)) (by decide) (by decide)) (g := (mkF m 21 #[.val (.int p1), .val (.int p2), .val (.int (0 : Int32)), .val (.int (2 : Int32)), .val (.ref w_ACTIVE), .unset, .unset, .unset] [(.int (2 : Int32))])) rfl (by rw [hml]; rfl) (argsL := [(.int (2 : Int32))]) (rest := []) (lenOf pd__I_Lcom_example_wellness_on_record_wellnessonrecord_store_DocumentStatus_ rfl) rfl (by show 2 * 0 + _ ≤ _; exact Nat.le_of_eq rfl) (hb hby at_21) (fun _ _ => ⟨rfl, e9q, (by decide : 0 + 0 ≤ _), (by decide : 0 + 0 ≤ _)⟩)
      dsimp only [Pt.U, Pt.locs, Pt.cells, Pt.slots] at X10 l10 y10 z10 st10 hQ10
      subst l10 y10 z10
      obtain ⟨rfl, N10q, e10q⟩ := hQ10
      have N10 := Fr.app N9 N10q
      refine Go.st st10 ?_
      rw [show pickF (2 : Int32) w_ACTIVE w_ARCHIVED w_VOID = w_VOID from by simp [pickF]]
      show Go _ _ _ _ _ _ _  T10 (mkF m 24 #[.val (.int p1), .val (.int p2), .val (.int (0 : Int32)), .val (.int (2 : Int32)), .val (.ref w_ACTIVE), .unset, .unset, .unset] [(.ref w_VOID)])
      refine Go.st (fun t k => XS.astore X10.here hx rfl (hb hby at_24) rfl rfl (l' := #[.val (.int p1), .val (.int p2), .val (.int (0 : Int32)), .val (.int (2 : Int32)), .val (.ref w_ACTIVE), .val (.ref w_VOID), .unset, .unset]) rfl k) ?_
      show Go _ _ _ _ _ _ _  T10 (mkF m 26 #[.val (.int p1), .val (.int p2), .val (.int (0 : Int32)), .val (.int (2 : Int32)), .val (.ref w_ACTIVE), .val (.ref w_VOID), .unset, .unset] [])
      refine Go.st (fun t k => XS.bipush X10.here hx rfl (hb hby at_26) k) ?_
      show Go _ _ _ _ _ _ _  T10 (mkF m 28 #[.val (.int p1), .val (.int p2), .val (.int (0 : Int32)), .val (.int (2 : Int32)), .val (.ref w_ACTIVE), .val (.ref w_VOID), .unset, .unset] [(.int (78 : Int32))])
      refine Go.st (fun t k => XS.istore X10.here hx rfl (hb hby at_28) rfl (l' := #[.val (.int p1), .val (.int p2), .val (.int (0 : Int32)), .val (.int (2 : Int32)), .val (.ref w_ACTIVE), .val (.ref w_VOID), .val (.int (78 : Int32)), .unset]) rfl k) ?_
      show Go _ _ _ _ _ _ _  T10 (mkF m 30 #[.val (.int p1), .val (.int p2), .val (.int (0 : Int32)), .val (.int (2 : Int32)), .val (.ref w_ACTIVE), .val (.ref w_VOID), .val (.int (78 : Int32)), .unset] [])
      refine Go.st (fun t k => XS.iload X10.here hx rfl (hb hby at_30) rfl  k) ?_
      show Go _ _ _ _ _ _ _  T10 (mkF m 32 #[.val (.int p1), .val (.int p2), .val (.int (0 : Int32)), .val (.int (2 : Int32)), .val (.ref w_ACTIVE), .val (.ref w_VOID), .val (.int (78 : Int32)), .unset] [(.int (78 : Int32))])
      refine Go.st (fun t k => XS.iloadN X10.here hx rfl (hb hby at_32) rfl  k) ?_
      show Go _ _ _ _ _ _ _  T10 (mkF m 33 #[.val (.int p1), .val (.int p2), .val (.int (0 : Int32)), .val (.int (2 : Int32)), .val (.ref w_ACTIVE), .val (.ref w_VOID), .val (.int (78 : Int32)), .unset] [(.int (0 : Int32)), (.int (78 : Int32))])
      refine Go.st (fun t k => XS.iconst X10.here hx rfl (hb hby at_33) k) ?_
      show Go _ _ _ _ _ _ _  T10 (mkF m 34 #[.val (.int p1), .val (.int p2), .val (.int (0 : Int32)), .val (.int (2 : Int32)), .val (.ref w_ACTIVE), .val (.ref w_VOID), .val (.int (78 : Int32)), .unset] [(.int (3 : Int32)), (.int (0 : Int32)), (.int (78 : Int32))])
      refine Go.st (fun t k => XS.imul X10.here hx rfl (hb hby at_34) rfl k) ?_
      show Go _ _ _ _ _ _ _  T10 (mkF m 35 #[.val (.int p1), .val (.int p2), .val (.int (0 : Int32)), .val (.int (2 : Int32)), .val (.ref w_ACTIVE), .val (.ref w_VOID), .val (.int (78 : Int32)), .unset] [(.int ((0 : Int32) * (3 : Int32))), (.int (78 : Int32))])
      refine Go.st (fun t k => XS.iloadN X10.here hx rfl (hb hby at_35) rfl  k) ?_
      show Go _ _ _ _ _ _ _  T10 (mkF m 36 #[.val (.int p1), .val (.int p2), .val (.int (0 : Int32)), .val (.int (2 : Int32)), .val (.ref w_ACTIVE), .val (.ref w_VOID), .val (.int (78 : Int32)), .unset] [(.int (2 : Int32)), (.int ((0 : Int32) * (3 : Int32))), (.int (78 : Int32))])
      refine Go.st (fun t k => XS.iadd X10.here hx rfl (hb hby at_36) rfl k) ?_
      show Go _ _ _ _ _ _ _  T10 (mkF m 37 #[.val (.int p1), .val (.int p2), .val (.int (0 : Int32)), .val (.int (2 : Int32)), .val (.ref w_ACTIVE), .val (.ref w_VOID), .val (.int (78 : Int32)), .unset] [(.int (((0 : Int32) * (3 : Int32)) + (2 : Int32))), (.int (78 : Int32))])
      refine Go.st (fun t k => XS.ishr X10.here hx rfl (hb hby at_37) rfl k) ?_
      show Go _ _ _ _ _ _ _  T10 (mkF m 38 #[.val (.int p1), .val (.int p2), .val (.int (0 : Int32)), .val (.int (2 : Int32)), .val (.ref w_ACTIVE), .val (.ref w_VOID), .val (.int (78 : Int32)), .unset] [(.int ((78 : Int32) >>> ((((0 : Int32) * (3 : Int32)) + (2 : Int32)) &&& 31)))])
      refine Go.st (fun t k => XS.iconst X10.here hx rfl (hb hby at_38) k) ?_
      show Go _ _ _ _ _ _ _  T10 (mkF m 39 #[.val (.int p1), .val (.int p2), .val (.int (0 : Int32)), .val (.int (2 : Int32)), .val (.ref w_ACTIVE), .val (.ref w_VOID), .val (.int (78 : Int32)), .unset] [(.int (1 : Int32)), (.int ((78 : Int32) >>> ((((0 : Int32) * (3 : Int32)) + (2 : Int32)) &&& 31)))])
      refine Go.st (fun t k => XS.iand X10.here hx rfl (hb hby at_39) rfl k) ?_
      show Go _ _ _ _ _ _ _  T10 (mkF m 40 #[.val (.int p1), .val (.int p2), .val (.int (0 : Int32)), .val (.int (2 : Int32)), .val (.ref w_ACTIVE), .val (.ref w_VOID), .val (.int (78 : Int32)), .unset] [(.int (((78 : Int32) >>> ((((0 : Int32) * (3 : Int32)) + (2 : Int32)) &&& 31)) &&& (1 : Int32)))])
      refine Go.st (fun t k => XS.ifNo X10.here hx rfl (hb hby at_40) rfl ((if0 _ _).trans (feq (by decide : ¬ ((((78 : Int32) >>> ((((0 : Int32) * (3 : Int32)) + (2 : Int32)) &&& 31)) &&& (1 : Int32)) = (0 : Int32)))).1) k) ?_
      show Go _ _ _ _ _ _ _  T10 (mkF m 43 #[.val (.int p1), .val (.int p2), .val (.int (0 : Int32)), .val (.int (2 : Int32)), .val (.ref w_ACTIVE), .val (.ref w_VOID), .val (.int (78 : Int32)), .unset] [])
      refine Go.st (fun t k => XS.iconst X10.here hx rfl (hb hby at_43) k) ?_
      show Go _ _ _ _ _ _ _  T10 (mkF m 44 #[.val (.int p1), .val (.int p2), .val (.int (0 : Int32)), .val (.int (2 : Int32)), .val (.ref w_ACTIVE), .val (.ref w_VOID), .val (.int (78 : Int32)), .unset] [(.int (1 : Int32))])
      refine Go.st (fun t k => XS.goto X10.here hx rfl (pc0 := 44) (pc' := 48) rfl (hb hby at_44) (by decide) (by decide) k) ?_
      show Go _ _ _ _ _ _ _  T10 (mkF m 48 #[.val (.int p1), .val (.int p2), .val (.int (0 : Int32)), .val (.int (2 : Int32)), .val (.ref w_ACTIVE), .val (.ref w_VOID), .val (.int (78 : Int32)), .unset] [(.int (1 : Int32))])
      refine Go.st (fun t k => XS.istore X10.here hx rfl (hb hby at_48) rfl (l' := #[.val (.int p1), .val (.int p2), .val (.int (0 : Int32)), .val (.int (2 : Int32)), .val (.ref w_ACTIVE), .val (.ref w_VOID), .val (.int (78 : Int32)), .val (.int (1 : Int32))]) rfl k) ?_
      show Go _ _ _ _ _ _ _  T10 (mkF m 50 #[.val (.int p1), .val (.int p2), .val (.int (0 : Int32)), .val (.int (2 : Int32)), .val (.ref w_ACTIVE), .val (.ref w_VOID), .val (.int (78 : Int32)), .val (.int (1 : Int32))] [])
      refine Go.st (fun t k => XS.aload X10.here hx rfl (hb hby at_50) rfl rfl  k) ?_
      show Go _ _ _ _ _ _ _  T10 (mkF m 52 #[.val (.int p1), .val (.int p2), .val (.int (0 : Int32)), .val (.int (2 : Int32)), .val (.ref w_ACTIVE), .val (.ref w_VOID), .val (.int (78 : Int32)), .val (.int (1 : Int32))] [(.ref w_ACTIVE)])
      refine Go.st (fun t k => XS.aload X10.here hx rfl (hb hby at_52) rfl rfl  k) ?_
      show Go _ _ _ _ _ _ _  T10 (mkF m 54 #[.val (.int p1), .val (.int p2), .val (.int (0 : Int32)), .val (.int (2 : Int32)), .val (.ref w_ACTIVE), .val (.ref w_VOID), .val (.int (78 : Int32)), .val (.int (1 : Int32))] [(.ref w_VOID), (.ref w_ACTIVE)])
      obtain ⟨cq11, kq11, q11a, q11b, q11c⟩ := isOf hZ e10q (E_ACTIVE.ext O.2)
      obtain ⟨_, _, ⟨T11, L11, k11, n11⟩, -, X11, ⟨Lc11, hQ11, l11, y11, z11⟩, st11⟩ := X10.virtualBack hx (y := (⟨"com/example/wellness_on_record/wellnessonrecord/store/DocumentStatus", "canBecome", "(Lcom/example/wellness_on_record/wellnessonrecord/store/DocumentStatus;)Z"⟩ : MethodName)) (z := (⟨"com/example/wellness_on_record/wellnessonrecord/store/DocumentStatus", "canBecome", "(Lcom/example/wellness_on_record/wellnessonrecord/store/DocumentStatus;)Z"⟩ : MethodName)) hown (mvT hZ (hw _ (List.mem_of_getElem? (i := 8) rfl))) (mvT hZ (hw _ (List.mem_of_getElem? (i := 9) rfl))) (notFace_of_selects (args := #[]) (mvT hZ (hw _ (List.mem_of_getElem? (i := 11) rfl)))) (mvT hZ (hw _ (List.mem_of_getElem? (i := 11) rfl))) (mvT hZ (hw _ (List.mem_of_getElem? (i := 10) rfl))) (by decide) (backOf (W := 0) (rmC l Z a0 hw [] w_ACTIVE w_VOID w_ACTIVE h0 n0 O S_ACTIVE) hZ (hw _ (List.mem_of_getElem? (i := 12) rfl)) (hw _ (List.mem_of_getElem? (i := 6) rfl)) (by decide) (by decide)) q11a q11c (g := (mkF m 54 #[.val (.int p1), .val (.int p2), .val (.int (0 : Int32)), .val (.int (2 : Int32)), .val (.ref w_ACTIVE), .val (.ref w_VOID), .val (.int (78 : Int32)), .val (.int (1 : Int32))] [(.ref w_VOID), (.ref w_ACTIVE)])) rfl (by rw [hml]; rfl) (Steps.refl _) (argsL := [(.ref w_VOID)]) (rest := []) (lenOf pd__Lcom_example_wellness_on_record_wellnessonrecord_store_DocumentStatus__Z rfl) rfl (by show 2 * 0 + _ ≤ _; exact Nat.le_of_eq rfl) (hb hby at_54) (fun _ _ => ⟨rfl, e10q, (by decide : 0 + 0 ≤ _), (by decide : 0 + 0 ≤ _)⟩)
      dsimp only [Pt.U, Pt.locs, Pt.cells, Pt.slots] at X11 l11 y11 z11 st11 hQ11
      subst l11 y11 z11
      obtain ⟨rfl, N11q, e11q⟩ := hQ11
      have N11 := Fr.app N10 N11q
      refine Go.tr st11 ?_
      rw [show canF w_ACTIVE w_VOID w_ACTIVE = (1 : Int32) from by simp [canF, n_ACTIVE_ARCHIVED, n_ACTIVE_VOID, n_ARCHIVED_ACTIVE, n_ARCHIVED_VOID, n_VOID_ACTIVE, n_VOID_ARCHIVED]]
      show Go _ _ _ _ _ _ _  T11 (mkF m 57 #[.val (.int p1), .val (.int p2), .val (.int (0 : Int32)), .val (.int (2 : Int32)), .val (.ref w_ACTIVE), .val (.ref w_VOID), .val (.int (78 : Int32)), .val (.int (1 : Int32))] [(.int (1 : Int32))])
      refine Go.st (fun t k => XS.iload X11.here hx rfl (hb hby at_57) rfl  k) ?_
      show Go _ _ _ _ _ _ _  T11 (mkF m 59 #[.val (.int p1), .val (.int p2), .val (.int (0 : Int32)), .val (.int (2 : Int32)), .val (.ref w_ACTIVE), .val (.ref w_VOID), .val (.int (78 : Int32)), .val (.int (1 : Int32))] [(.int (1 : Int32)), (.int (1 : Int32))])
      refine Go.st (fun t k => XS.icmpNo X11.here hx rfl (hb hby at_59) rfl (teq (rfl : (1 : Int32) = (1 : Int32))).2 k) ?_
      show Go _ _ _ _ _ _ _  T11 (mkF m 62 #[.val (.int p1), .val (.int p2), .val (.int (0 : Int32)), .val (.int (2 : Int32)), .val (.ref w_ACTIVE), .val (.ref w_VOID), .val (.int (78 : Int32)), .val (.int (1 : Int32))] [])
      refine Go.st (fun t k => XS.iconst X11.here hx rfl (hb hby at_62) k) ?_
      show Go _ _ _ _ _ _ _  T11 (mkF m 63 #[.val (.int p1), .val (.int p2), .val (.int (0 : Int32)), .val (.int (2 : Int32)), .val (.ref w_ACTIVE), .val (.ref w_VOID), .val (.int (78 : Int32)), .val (.int (1 : Int32))] [(.int (1 : Int32))])
      refine Go.st (fun t k => XS.goto X11.here hx rfl (pc0 := 63) (pc' := 67) rfl (hb hby at_63) (by decide) (by decide) k) ?_
      show Go _ _ _ _ _ _ _  T11 (mkF m 67 #[.val (.int p1), .val (.int p2), .val (.int (0 : Int32)), .val (.int (2 : Int32)), .val (.ref w_ACTIVE), .val (.ref w_VOID), .val (.int (78 : Int32)), .val (.int (1 : Int32))] [(.int (1 : Int32))])
      refine Go.retN X11 hlk hx (t := .boolean) (z' := (1 : Int32)) Bd.returns (by simp) (hb hby at_67) (by decide) (by decide) rfl ?_
      show Q_rm0 Z p1 p2 w_ACTIVE w_ARCHIVED w_VOID h0 n0 _ T11.heap _
      rw [e11q]
      exact ⟨rfl, N11⟩
  · rw [sp1]
    show Go _ _ _ _ _ _ _  s₁ (mkF m 7 #[.val (.int p1), .val (.int p2), .val (.int (1 : Int32)), .unset, .unset, .unset, .unset, .unset] [])
    refine Go.st (fun t k => XS.iloadN X0.here hx rfl (hb hby at_7) rfl  k) ?_
    show Go _ _ _ _ _ _ _  s₁ (mkF m 8 #[.val (.int p1), .val (.int p2), .val (.int (1 : Int32)), .unset, .unset, .unset, .unset, .unset] [(.int p2)])
    refine Go.st (X0.ldcInt hx hown (mvT hZ (hw _ (List.mem_of_getElem? (i := 0) rfl))) (g := (mkF m 8 #[.val (.int p1), .val (.int p2), .val (.int (1 : Int32)), .unset, .unset, .unset, .unset, .unset] [(.int p2)])) rfl (hb hby at_8)) ?_
    show Go _ _ _ _ _ _ _  s₁ (mkF m 10 #[.val (.int p1), .val (.int p2), .val (.int (1 : Int32)), .unset, .unset, .unset, .unset, .unset] [(.int (2147483647 : Int32)), (.int p2)])
    refine Go.st (fun t k => XS.iand X0.here hx rfl (hb hby at_10) rfl k) ?_
    show Go _ _ _ _ _ _ _  s₁ (mkF m 11 #[.val (.int p1), .val (.int p2), .val (.int (1 : Int32)), .unset, .unset, .unset, .unset, .unset] [(.int (p2 &&& (2147483647 : Int32)))])
    refine Go.st (fun t k => XS.iconst X0.here hx rfl (hb hby at_11) k) ?_
    show Go _ _ _ _ _ _ _  s₁ (mkF m 12 #[.val (.int p1), .val (.int p2), .val (.int (1 : Int32)), .unset, .unset, .unset, .unset, .unset] [(.int (3 : Int32)), (.int (p2 &&& (2147483647 : Int32)))])
    refine Go.st (fun t k => Jvm.RoadKit.iremM X0 hx rfl (hb hby at_12) rfl (by decide) k) ?_
    show Go _ _ _ _ _ _ _  s₁ (mkF m 13 #[.val (.int p1), .val (.int p2), .val (.int (1 : Int32)), .unset, .unset, .unset, .unset, .unset] [(.int ((p2 &&& (2147483647 : Int32)) % (3 : Int32)))])
    refine Go.st (fun t k => XS.istoreN X0.here hx rfl (hb hby at_13) rfl (l' := #[.val (.int p1), .val (.int p2), .val (.int (1 : Int32)), .val (.int ((p2 &&& (2147483647 : Int32)) % (3 : Int32))), .unset, .unset, .unset, .unset]) rfl k) ?_
    show Go _ _ _ _ _ _ _  s₁ (mkF m 14 #[.val (.int p1), .val (.int p2), .val (.int (1 : Int32)), .val (.int ((p2 &&& (2147483647 : Int32)) % (3 : Int32))), .unset, .unset, .unset, .unset] [])
    rcases own_mod3 p2 with sp12 | sp12 | sp12
    · rw [sp12]
      show Go _ _ _ _ _ _ _  s₁ (mkF m 14 #[.val (.int p1), .val (.int p2), .val (.int (1 : Int32)), .val (.int (0 : Int32)), .unset, .unset, .unset, .unset] [])
      refine Go.st (fun t k => XS.iloadN X0.here hx rfl (hb hby at_14) rfl  k) ?_
      show Go _ _ _ _ _ _ _  s₁ (mkF m 15 #[.val (.int p1), .val (.int p2), .val (.int (1 : Int32)), .val (.int (0 : Int32)), .unset, .unset, .unset, .unset] [(.int (1 : Int32))])
      obtain ⟨_, _, ⟨T13, L13, k13, n13⟩, -, X13, ⟨Lc13, hQ13, l13, y13, z13⟩, st13⟩ := Jvm.LawKit.callS X0 hx (y := (⟨"com/example/wellness_on_record/wellnessonrecord/store/DocumentStatusCanBecomePinLaw", "pick", "(I)Lcom/example/wellness_on_record/wellnessonrecord/store/DocumentStatus;"⟩ : MethodName)) hown (mvT hZ (hw _ (List.mem_of_getElem? (i := 1) rfl))) (mvT hZ (hw _ (List.mem_of_getElem? (i := 2) rfl))) (mvT hZ (hw _ (List.mem_of_getElem? (i := 3) rfl))) (mvT hZ (hw _ (List.mem_of_getElem? (i := 4) rfl))) (by decide) (backOf (W := 0) (rmP l Z a0 hw [] (1 : Int32) w_ACTIVE w_ARCHIVED w_VOID h0 n0 O S_ACTIVE S_ARCHIVED S_VOID) hZ (hw _ (List.mem_of_getElem? (i := 4) rfl)) (hw _ (List.mem_of_getElem? (i := 3) rfl)) (by decide) (by decide)) (g := (mkF m 15 #[.val (.int p1), .val (.int p2), .val (.int (1 : Int32)), .val (.int (0 : Int32)), .unset, .unset, .unset, .unset] [(.int (1 : Int32))])) rfl (by rw [hml]; rfl) (argsL := [(.int (1 : Int32))]) (rest := []) (lenOf pd__I_Lcom_example_wellness_on_record_wellnessonrecord_store_DocumentStatus_ rfl) rfl (by show 2 * 0 + _ ≤ _; exact Nat.le_of_eq rfl) (hb hby at_15) (fun _ _ => ⟨rfl, e0, (by decide : 0 + 0 ≤ _), (by decide : 0 + 0 ≤ _)⟩)
      dsimp only [Pt.U, Pt.locs, Pt.cells, Pt.slots] at X13 l13 y13 z13 st13 hQ13
      subst l13 y13 z13
      obtain ⟨rfl, N13q, e13q⟩ := hQ13
      have N13 := Fr.app N0 N13q
      refine Go.st st13 ?_
      rw [show pickF (1 : Int32) w_ACTIVE w_ARCHIVED w_VOID = w_ARCHIVED from by simp [pickF]]
      show Go _ _ _ _ _ _ _  T13 (mkF m 18 #[.val (.int p1), .val (.int p2), .val (.int (1 : Int32)), .val (.int (0 : Int32)), .unset, .unset, .unset, .unset] [(.ref w_ARCHIVED)])
      refine Go.st (fun t k => XS.astore X13.here hx rfl (hb hby at_18) rfl rfl (l' := #[.val (.int p1), .val (.int p2), .val (.int (1 : Int32)), .val (.int (0 : Int32)), .val (.ref w_ARCHIVED), .unset, .unset, .unset]) rfl k) ?_
      show Go _ _ _ _ _ _ _  T13 (mkF m 20 #[.val (.int p1), .val (.int p2), .val (.int (1 : Int32)), .val (.int (0 : Int32)), .val (.ref w_ARCHIVED), .unset, .unset, .unset] [])
      refine Go.st (fun t k => XS.iloadN X13.here hx rfl (hb hby at_20) rfl  k) ?_
      show Go _ _ _ _ _ _ _  T13 (mkF m 21 #[.val (.int p1), .val (.int p2), .val (.int (1 : Int32)), .val (.int (0 : Int32)), .val (.ref w_ARCHIVED), .unset, .unset, .unset] [(.int (0 : Int32))])
      obtain ⟨_, _, ⟨T14, L14, k14, n14⟩, -, X14, ⟨Lc14, hQ14, l14, y14, z14⟩, st14⟩ := Jvm.LawKit.callS X13 hx (y := (⟨"com/example/wellness_on_record/wellnessonrecord/store/DocumentStatusCanBecomePinLaw", "pick", "(I)Lcom/example/wellness_on_record/wellnessonrecord/store/DocumentStatus;"⟩ : MethodName)) hown (mvT hZ (hw _ (List.mem_of_getElem? (i := 1) rfl))) (mvT hZ (hw _ (List.mem_of_getElem? (i := 2) rfl))) (mvT hZ (hw _ (List.mem_of_getElem? (i := 3) rfl))) (mvT hZ (hw _ (List.mem_of_getElem? (i := 4) rfl))) (by decide) (backOf (W := 0) (rmP l Z a0 hw [] (0 : Int32) w_ACTIVE w_ARCHIVED w_VOID h0 n0 O S_ACTIVE S_ARCHIVED S_VOID) hZ (hw _ (List.mem_of_getElem? (i := 4) rfl)) (hw _ (List.mem_of_getElem? (i := 3) rfl)) (by decide) (by decide)) (g := (mkF m 21 #[.val (.int p1), .val (.int p2), .val (.int (1 : Int32)), .val (.int (0 : Int32)), .val (.ref w_ARCHIVED), .unset, .unset, .unset] [(.int (0 : Int32))])) rfl (by rw [hml]; rfl) (argsL := [(.int (0 : Int32))]) (rest := []) (lenOf pd__I_Lcom_example_wellness_on_record_wellnessonrecord_store_DocumentStatus_ rfl) rfl (by show 2 * 0 + _ ≤ _; exact Nat.le_of_eq rfl) (hb hby at_21) (fun _ _ => ⟨rfl, e13q, (by decide : 0 + 0 ≤ _), (by decide : 0 + 0 ≤ _)⟩)
      dsimp only [Pt.U, Pt.locs, Pt.cells, Pt.slots] at X14 l14 y14 z14 st14 hQ14
      subst l14 y14 z14
      obtain ⟨rfl, N14q, e14q⟩ := hQ14
      have N14 := Fr.app N13 N14q
      refine Go.st st14 ?_
      rw [show pickF (0 : Int32) w_ACTIVE w_ARCHIVED w_VOID = w_ACTIVE from by simp [pickF]]
      show Go _ _ _ _ _ _ _  T14 (mkF m 24 #[.val (.int p1), .val (.int p2), .val (.int (1 : Int32)), .val (.int (0 : Int32)), .val (.ref w_ARCHIVED), .unset, .unset, .unset] [(.ref w_ACTIVE)])
      refine Go.st (fun t k => XS.astore X14.here hx rfl (hb hby at_24) rfl rfl (l' := #[.val (.int p1), .val (.int p2), .val (.int (1 : Int32)), .val (.int (0 : Int32)), .val (.ref w_ARCHIVED), .val (.ref w_ACTIVE), .unset, .unset]) rfl k) ?_
      show Go _ _ _ _ _ _ _  T14 (mkF m 26 #[.val (.int p1), .val (.int p2), .val (.int (1 : Int32)), .val (.int (0 : Int32)), .val (.ref w_ARCHIVED), .val (.ref w_ACTIVE), .unset, .unset] [])
      refine Go.st (fun t k => XS.bipush X14.here hx rfl (hb hby at_26) k) ?_
      show Go _ _ _ _ _ _ _  T14 (mkF m 28 #[.val (.int p1), .val (.int p2), .val (.int (1 : Int32)), .val (.int (0 : Int32)), .val (.ref w_ARCHIVED), .val (.ref w_ACTIVE), .unset, .unset] [(.int (78 : Int32))])
      refine Go.st (fun t k => XS.istore X14.here hx rfl (hb hby at_28) rfl (l' := #[.val (.int p1), .val (.int p2), .val (.int (1 : Int32)), .val (.int (0 : Int32)), .val (.ref w_ARCHIVED), .val (.ref w_ACTIVE), .val (.int (78 : Int32)), .unset]) rfl k) ?_
      show Go _ _ _ _ _ _ _  T14 (mkF m 30 #[.val (.int p1), .val (.int p2), .val (.int (1 : Int32)), .val (.int (0 : Int32)), .val (.ref w_ARCHIVED), .val (.ref w_ACTIVE), .val (.int (78 : Int32)), .unset] [])
      refine Go.st (fun t k => XS.iload X14.here hx rfl (hb hby at_30) rfl  k) ?_
      show Go _ _ _ _ _ _ _  T14 (mkF m 32 #[.val (.int p1), .val (.int p2), .val (.int (1 : Int32)), .val (.int (0 : Int32)), .val (.ref w_ARCHIVED), .val (.ref w_ACTIVE), .val (.int (78 : Int32)), .unset] [(.int (78 : Int32))])
      refine Go.st (fun t k => XS.iloadN X14.here hx rfl (hb hby at_32) rfl  k) ?_
      show Go _ _ _ _ _ _ _  T14 (mkF m 33 #[.val (.int p1), .val (.int p2), .val (.int (1 : Int32)), .val (.int (0 : Int32)), .val (.ref w_ARCHIVED), .val (.ref w_ACTIVE), .val (.int (78 : Int32)), .unset] [(.int (1 : Int32)), (.int (78 : Int32))])
      refine Go.st (fun t k => XS.iconst X14.here hx rfl (hb hby at_33) k) ?_
      show Go _ _ _ _ _ _ _  T14 (mkF m 34 #[.val (.int p1), .val (.int p2), .val (.int (1 : Int32)), .val (.int (0 : Int32)), .val (.ref w_ARCHIVED), .val (.ref w_ACTIVE), .val (.int (78 : Int32)), .unset] [(.int (3 : Int32)), (.int (1 : Int32)), (.int (78 : Int32))])
      refine Go.st (fun t k => XS.imul X14.here hx rfl (hb hby at_34) rfl k) ?_
      show Go _ _ _ _ _ _ _  T14 (mkF m 35 #[.val (.int p1), .val (.int p2), .val (.int (1 : Int32)), .val (.int (0 : Int32)), .val (.ref w_ARCHIVED), .val (.ref w_ACTIVE), .val (.int (78 : Int32)), .unset] [(.int ((1 : Int32) * (3 : Int32))), (.int (78 : Int32))])
      refine Go.st (fun t k => XS.iloadN X14.here hx rfl (hb hby at_35) rfl  k) ?_
      show Go _ _ _ _ _ _ _  T14 (mkF m 36 #[.val (.int p1), .val (.int p2), .val (.int (1 : Int32)), .val (.int (0 : Int32)), .val (.ref w_ARCHIVED), .val (.ref w_ACTIVE), .val (.int (78 : Int32)), .unset] [(.int (0 : Int32)), (.int ((1 : Int32) * (3 : Int32))), (.int (78 : Int32))])
      refine Go.st (fun t k => XS.iadd X14.here hx rfl (hb hby at_36) rfl k) ?_
      show Go _ _ _ _ _ _ _  T14 (mkF m 37 #[.val (.int p1), .val (.int p2), .val (.int (1 : Int32)), .val (.int (0 : Int32)), .val (.ref w_ARCHIVED), .val (.ref w_ACTIVE), .val (.int (78 : Int32)), .unset] [(.int (((1 : Int32) * (3 : Int32)) + (0 : Int32))), (.int (78 : Int32))])
      refine Go.st (fun t k => XS.ishr X14.here hx rfl (hb hby at_37) rfl k) ?_
      show Go _ _ _ _ _ _ _  T14 (mkF m 38 #[.val (.int p1), .val (.int p2), .val (.int (1 : Int32)), .val (.int (0 : Int32)), .val (.ref w_ARCHIVED), .val (.ref w_ACTIVE), .val (.int (78 : Int32)), .unset] [(.int ((78 : Int32) >>> ((((1 : Int32) * (3 : Int32)) + (0 : Int32)) &&& 31)))])
      refine Go.st (fun t k => XS.iconst X14.here hx rfl (hb hby at_38) k) ?_
      show Go _ _ _ _ _ _ _  T14 (mkF m 39 #[.val (.int p1), .val (.int p2), .val (.int (1 : Int32)), .val (.int (0 : Int32)), .val (.ref w_ARCHIVED), .val (.ref w_ACTIVE), .val (.int (78 : Int32)), .unset] [(.int (1 : Int32)), (.int ((78 : Int32) >>> ((((1 : Int32) * (3 : Int32)) + (0 : Int32)) &&& 31)))])
      refine Go.st (fun t k => XS.iand X14.here hx rfl (hb hby at_39) rfl k) ?_
      show Go _ _ _ _ _ _ _  T14 (mkF m 40 #[.val (.int p1), .val (.int p2), .val (.int (1 : Int32)), .val (.int (0 : Int32)), .val (.ref w_ARCHIVED), .val (.ref w_ACTIVE), .val (.int (78 : Int32)), .unset] [(.int (((78 : Int32) >>> ((((1 : Int32) * (3 : Int32)) + (0 : Int32)) &&& 31)) &&& (1 : Int32)))])
      refine Go.st (fun t k => XS.ifNo X14.here hx rfl (hb hby at_40) rfl ((if0 _ _).trans (feq (by decide : ¬ ((((78 : Int32) >>> ((((1 : Int32) * (3 : Int32)) + (0 : Int32)) &&& 31)) &&& (1 : Int32)) = (0 : Int32)))).1) k) ?_
      show Go _ _ _ _ _ _ _  T14 (mkF m 43 #[.val (.int p1), .val (.int p2), .val (.int (1 : Int32)), .val (.int (0 : Int32)), .val (.ref w_ARCHIVED), .val (.ref w_ACTIVE), .val (.int (78 : Int32)), .unset] [])
      refine Go.st (fun t k => XS.iconst X14.here hx rfl (hb hby at_43) k) ?_
      show Go _ _ _ _ _ _ _  T14 (mkF m 44 #[.val (.int p1), .val (.int p2), .val (.int (1 : Int32)), .val (.int (0 : Int32)), .val (.ref w_ARCHIVED), .val (.ref w_ACTIVE), .val (.int (78 : Int32)), .unset] [(.int (1 : Int32))])
      refine Go.st (fun t k => XS.goto X14.here hx rfl (pc0 := 44) (pc' := 48) rfl (hb hby at_44) (by decide) (by decide) k) ?_
      show Go _ _ _ _ _ _ _  T14 (mkF m 48 #[.val (.int p1), .val (.int p2), .val (.int (1 : Int32)), .val (.int (0 : Int32)), .val (.ref w_ARCHIVED), .val (.ref w_ACTIVE), .val (.int (78 : Int32)), .unset] [(.int (1 : Int32))])
      refine Go.st (fun t k => XS.istore X14.here hx rfl (hb hby at_48) rfl (l' := #[.val (.int p1), .val (.int p2), .val (.int (1 : Int32)), .val (.int (0 : Int32)), .val (.ref w_ARCHIVED), .val (.ref w_ACTIVE), .val (.int (78 : Int32)), .val (.int (1 : Int32))]) rfl k) ?_
      show Go _ _ _ _ _ _ _  T14 (mkF m 50 #[.val (.int p1), .val (.int p2), .val (.int (1 : Int32)), .val (.int (0 : Int32)), .val (.ref w_ARCHIVED), .val (.ref w_ACTIVE), .val (.int (78 : Int32)), .val (.int (1 : Int32))] [])
      refine Go.st (fun t k => XS.aload X14.here hx rfl (hb hby at_50) rfl rfl  k) ?_
      show Go _ _ _ _ _ _ _  T14 (mkF m 52 #[.val (.int p1), .val (.int p2), .val (.int (1 : Int32)), .val (.int (0 : Int32)), .val (.ref w_ARCHIVED), .val (.ref w_ACTIVE), .val (.int (78 : Int32)), .val (.int (1 : Int32))] [(.ref w_ARCHIVED)])
      refine Go.st (fun t k => XS.aload X14.here hx rfl (hb hby at_52) rfl rfl  k) ?_
      show Go _ _ _ _ _ _ _  T14 (mkF m 54 #[.val (.int p1), .val (.int p2), .val (.int (1 : Int32)), .val (.int (0 : Int32)), .val (.ref w_ARCHIVED), .val (.ref w_ACTIVE), .val (.int (78 : Int32)), .val (.int (1 : Int32))] [(.ref w_ACTIVE), (.ref w_ARCHIVED)])
      obtain ⟨cq15, kq15, q15a, q15b, q15c⟩ := isOf hZ e14q (E_ARCHIVED.ext O.2)
      obtain ⟨_, _, ⟨T15, L15, k15, n15⟩, -, X15, ⟨Lc15, hQ15, l15, y15, z15⟩, st15⟩ := X14.virtualBack hx (y := (⟨"com/example/wellness_on_record/wellnessonrecord/store/DocumentStatus", "canBecome", "(Lcom/example/wellness_on_record/wellnessonrecord/store/DocumentStatus;)Z"⟩ : MethodName)) (z := (⟨"com/example/wellness_on_record/wellnessonrecord/store/DocumentStatus", "canBecome", "(Lcom/example/wellness_on_record/wellnessonrecord/store/DocumentStatus;)Z"⟩ : MethodName)) hown (mvT hZ (hw _ (List.mem_of_getElem? (i := 8) rfl))) (mvT hZ (hw _ (List.mem_of_getElem? (i := 9) rfl))) (notFace_of_selects (args := #[]) (mvT hZ (hw _ (List.mem_of_getElem? (i := 11) rfl)))) (mvT hZ (hw _ (List.mem_of_getElem? (i := 11) rfl))) (mvT hZ (hw _ (List.mem_of_getElem? (i := 10) rfl))) (by decide) (backOf (W := 0) (rmC l Z a0 hw [] w_ARCHIVED w_ACTIVE w_ACTIVE h0 n0 O S_ACTIVE) hZ (hw _ (List.mem_of_getElem? (i := 12) rfl)) (hw _ (List.mem_of_getElem? (i := 6) rfl)) (by decide) (by decide)) q15a q15c (g := (mkF m 54 #[.val (.int p1), .val (.int p2), .val (.int (1 : Int32)), .val (.int (0 : Int32)), .val (.ref w_ARCHIVED), .val (.ref w_ACTIVE), .val (.int (78 : Int32)), .val (.int (1 : Int32))] [(.ref w_ACTIVE), (.ref w_ARCHIVED)])) rfl (by rw [hml]; rfl) (Steps.refl _) (argsL := [(.ref w_ACTIVE)]) (rest := []) (lenOf pd__Lcom_example_wellness_on_record_wellnessonrecord_store_DocumentStatus__Z rfl) rfl (by show 2 * 0 + _ ≤ _; exact Nat.le_of_eq rfl) (hb hby at_54) (fun _ _ => ⟨rfl, e14q, (by decide : 0 + 0 ≤ _), (by decide : 0 + 0 ≤ _)⟩)
      dsimp only [Pt.U, Pt.locs, Pt.cells, Pt.slots] at X15 l15 y15 z15 st15 hQ15
      subst l15 y15 z15
      obtain ⟨rfl, N15q, e15q⟩ := hQ15
      have N15 := Fr.app N14 N15q
      refine Go.tr st15 ?_
      rw [show canF w_ARCHIVED w_ACTIVE w_ACTIVE = (1 : Int32) from by simp [canF, n_ACTIVE_ARCHIVED, n_ACTIVE_VOID, n_ARCHIVED_ACTIVE, n_ARCHIVED_VOID, n_VOID_ACTIVE, n_VOID_ARCHIVED]]
      show Go _ _ _ _ _ _ _  T15 (mkF m 57 #[.val (.int p1), .val (.int p2), .val (.int (1 : Int32)), .val (.int (0 : Int32)), .val (.ref w_ARCHIVED), .val (.ref w_ACTIVE), .val (.int (78 : Int32)), .val (.int (1 : Int32))] [(.int (1 : Int32))])
      refine Go.st (fun t k => XS.iload X15.here hx rfl (hb hby at_57) rfl  k) ?_
      show Go _ _ _ _ _ _ _  T15 (mkF m 59 #[.val (.int p1), .val (.int p2), .val (.int (1 : Int32)), .val (.int (0 : Int32)), .val (.ref w_ARCHIVED), .val (.ref w_ACTIVE), .val (.int (78 : Int32)), .val (.int (1 : Int32))] [(.int (1 : Int32)), (.int (1 : Int32))])
      refine Go.st (fun t k => XS.icmpNo X15.here hx rfl (hb hby at_59) rfl (teq (rfl : (1 : Int32) = (1 : Int32))).2 k) ?_
      show Go _ _ _ _ _ _ _  T15 (mkF m 62 #[.val (.int p1), .val (.int p2), .val (.int (1 : Int32)), .val (.int (0 : Int32)), .val (.ref w_ARCHIVED), .val (.ref w_ACTIVE), .val (.int (78 : Int32)), .val (.int (1 : Int32))] [])
      refine Go.st (fun t k => XS.iconst X15.here hx rfl (hb hby at_62) k) ?_
      show Go _ _ _ _ _ _ _  T15 (mkF m 63 #[.val (.int p1), .val (.int p2), .val (.int (1 : Int32)), .val (.int (0 : Int32)), .val (.ref w_ARCHIVED), .val (.ref w_ACTIVE), .val (.int (78 : Int32)), .val (.int (1 : Int32))] [(.int (1 : Int32))])
      refine Go.st (fun t k => XS.goto X15.here hx rfl (pc0 := 63) (pc' := 67) rfl (hb hby at_63) (by decide) (by decide) k) ?_
      show Go _ _ _ _ _ _ _  T15 (mkF m 67 #[.val (.int p1), .val (.int p2), .val (.int (1 : Int32)), .val (.int (0 : Int32)), .val (.ref w_ARCHIVED), .val (.ref w_ACTIVE), .val (.int (78 : Int32)), .val (.int (1 : Int32))] [(.int (1 : Int32))])
      refine Go.retN X15 hlk hx (t := .boolean) (z' := (1 : Int32)) Bd.returns (by simp) (hb hby at_67) (by decide) (by decide) rfl ?_
      show Q_rm0 Z p1 p2 w_ACTIVE w_ARCHIVED w_VOID h0 n0 _ T15.heap _
      rw [e15q]
      exact ⟨rfl, N15⟩
    · rw [sp12]
      show Go _ _ _ _ _ _ _  s₁ (mkF m 14 #[.val (.int p1), .val (.int p2), .val (.int (1 : Int32)), .val (.int (1 : Int32)), .unset, .unset, .unset, .unset] [])
      refine Go.st (fun t k => XS.iloadN X0.here hx rfl (hb hby at_14) rfl  k) ?_
      show Go _ _ _ _ _ _ _  s₁ (mkF m 15 #[.val (.int p1), .val (.int p2), .val (.int (1 : Int32)), .val (.int (1 : Int32)), .unset, .unset, .unset, .unset] [(.int (1 : Int32))])
      obtain ⟨_, _, ⟨T16, L16, k16, n16⟩, -, X16, ⟨Lc16, hQ16, l16, y16, z16⟩, st16⟩ := Jvm.LawKit.callS X0 hx (y := (⟨"com/example/wellness_on_record/wellnessonrecord/store/DocumentStatusCanBecomePinLaw", "pick", "(I)Lcom/example/wellness_on_record/wellnessonrecord/store/DocumentStatus;"⟩ : MethodName)) hown (mvT hZ (hw _ (List.mem_of_getElem? (i := 1) rfl))) (mvT hZ (hw _ (List.mem_of_getElem? (i := 2) rfl))) (mvT hZ (hw _ (List.mem_of_getElem? (i := 3) rfl))) (mvT hZ (hw _ (List.mem_of_getElem? (i := 4) rfl))) (by decide) (backOf (W := 0) (rmP l Z a0 hw [] (1 : Int32) w_ACTIVE w_ARCHIVED w_VOID h0 n0 O S_ACTIVE S_ARCHIVED S_VOID) hZ (hw _ (List.mem_of_getElem? (i := 4) rfl)) (hw _ (List.mem_of_getElem? (i := 3) rfl)) (by decide) (by decide)) (g := (mkF m 15 #[.val (.int p1), .val (.int p2), .val (.int (1 : Int32)), .val (.int (1 : Int32)), .unset, .unset, .unset, .unset] [(.int (1 : Int32))])) rfl (by rw [hml]; rfl) (argsL := [(.int (1 : Int32))]) (rest := []) (lenOf pd__I_Lcom_example_wellness_on_record_wellnessonrecord_store_DocumentStatus_ rfl) rfl (by show 2 * 0 + _ ≤ _; exact Nat.le_of_eq rfl) (hb hby at_15) (fun _ _ => ⟨rfl, e0, (by decide : 0 + 0 ≤ _), (by decide : 0 + 0 ≤ _)⟩)
      dsimp only [Pt.U, Pt.locs, Pt.cells, Pt.slots] at X16 l16 y16 z16 st16 hQ16
      subst l16 y16 z16
      obtain ⟨rfl, N16q, e16q⟩ := hQ16
      have N16 := Fr.app N0 N16q
      refine Go.st st16 ?_
      rw [show pickF (1 : Int32) w_ACTIVE w_ARCHIVED w_VOID = w_ARCHIVED from by simp [pickF]]
      show Go _ _ _ _ _ _ _  T16 (mkF m 18 #[.val (.int p1), .val (.int p2), .val (.int (1 : Int32)), .val (.int (1 : Int32)), .unset, .unset, .unset, .unset] [(.ref w_ARCHIVED)])
      refine Go.st (fun t k => XS.astore X16.here hx rfl (hb hby at_18) rfl rfl (l' := #[.val (.int p1), .val (.int p2), .val (.int (1 : Int32)), .val (.int (1 : Int32)), .val (.ref w_ARCHIVED), .unset, .unset, .unset]) rfl k) ?_
      show Go _ _ _ _ _ _ _  T16 (mkF m 20 #[.val (.int p1), .val (.int p2), .val (.int (1 : Int32)), .val (.int (1 : Int32)), .val (.ref w_ARCHIVED), .unset, .unset, .unset] [])
      refine Go.st (fun t k => XS.iloadN X16.here hx rfl (hb hby at_20) rfl  k) ?_
      show Go _ _ _ _ _ _ _  T16 (mkF m 21 #[.val (.int p1), .val (.int p2), .val (.int (1 : Int32)), .val (.int (1 : Int32)), .val (.ref w_ARCHIVED), .unset, .unset, .unset] [(.int (1 : Int32))])
      obtain ⟨_, _, ⟨T17, L17, k17, n17⟩, -, X17, ⟨Lc17, hQ17, l17, y17, z17⟩, st17⟩ := Jvm.LawKit.callS X16 hx (y := (⟨"com/example/wellness_on_record/wellnessonrecord/store/DocumentStatusCanBecomePinLaw", "pick", "(I)Lcom/example/wellness_on_record/wellnessonrecord/store/DocumentStatus;"⟩ : MethodName)) hown (mvT hZ (hw _ (List.mem_of_getElem? (i := 1) rfl))) (mvT hZ (hw _ (List.mem_of_getElem? (i := 2) rfl))) (mvT hZ (hw _ (List.mem_of_getElem? (i := 3) rfl))) (mvT hZ (hw _ (List.mem_of_getElem? (i := 4) rfl))) (by decide) (backOf (W := 0) (rmP l Z a0 hw [] (1 : Int32) w_ACTIVE w_ARCHIVED w_VOID h0 n0 O S_ACTIVE S_ARCHIVED S_VOID) hZ (hw _ (List.mem_of_getElem? (i := 4) rfl)) (hw _ (List.mem_of_getElem? (i := 3) rfl)) (by decide) (by decide)) (g := (mkF m 21 #[.val (.int p1), .val (.int p2), .val (.int (1 : Int32)), .val (.int (1 : Int32)), .val (.ref w_ARCHIVED), .unset, .unset, .unset] [(.int (1 : Int32))])) rfl (by rw [hml]; rfl) (argsL := [(.int (1 : Int32))]) (rest := []) (lenOf pd__I_Lcom_example_wellness_on_record_wellnessonrecord_store_DocumentStatus_ rfl) rfl (by show 2 * 0 + _ ≤ _; exact Nat.le_of_eq rfl) (hb hby at_21) (fun _ _ => ⟨rfl, e16q, (by decide : 0 + 0 ≤ _), (by decide : 0 + 0 ≤ _)⟩)
      dsimp only [Pt.U, Pt.locs, Pt.cells, Pt.slots] at X17 l17 y17 z17 st17 hQ17
      subst l17 y17 z17
      obtain ⟨rfl, N17q, e17q⟩ := hQ17
      have N17 := Fr.app N16 N17q
      refine Go.st st17 ?_
      rw [show pickF (1 : Int32) w_ACTIVE w_ARCHIVED w_VOID = w_ARCHIVED from by simp [pickF]]
      show Go _ _ _ _ _ _ _  T17 (mkF m 24 #[.val (.int p1), .val (.int p2), .val (.int (1 : Int32)), .val (.int (1 : Int32)), .val (.ref w_ARCHIVED), .unset, .unset, .unset] [(.ref w_ARCHIVED)])
      refine Go.st (fun t k => XS.astore X17.here hx rfl (hb hby at_24) rfl rfl (l' := #[.val (.int p1), .val (.int p2), .val (.int (1 : Int32)), .val (.int (1 : Int32)), .val (.ref w_ARCHIVED), .val (.ref w_ARCHIVED), .unset, .unset]) rfl k) ?_
      show Go _ _ _ _ _ _ _  T17 (mkF m 26 #[.val (.int p1), .val (.int p2), .val (.int (1 : Int32)), .val (.int (1 : Int32)), .val (.ref w_ARCHIVED), .val (.ref w_ARCHIVED), .unset, .unset] [])
      refine Go.st (fun t k => XS.bipush X17.here hx rfl (hb hby at_26) k) ?_
      show Go _ _ _ _ _ _ _  T17 (mkF m 28 #[.val (.int p1), .val (.int p2), .val (.int (1 : Int32)), .val (.int (1 : Int32)), .val (.ref w_ARCHIVED), .val (.ref w_ARCHIVED), .unset, .unset] [(.int (78 : Int32))])
      refine Go.st (fun t k => XS.istore X17.here hx rfl (hb hby at_28) rfl (l' := #[.val (.int p1), .val (.int p2), .val (.int (1 : Int32)), .val (.int (1 : Int32)), .val (.ref w_ARCHIVED), .val (.ref w_ARCHIVED), .val (.int (78 : Int32)), .unset]) rfl k) ?_
      show Go _ _ _ _ _ _ _  T17 (mkF m 30 #[.val (.int p1), .val (.int p2), .val (.int (1 : Int32)), .val (.int (1 : Int32)), .val (.ref w_ARCHIVED), .val (.ref w_ARCHIVED), .val (.int (78 : Int32)), .unset] [])
      refine Go.st (fun t k => XS.iload X17.here hx rfl (hb hby at_30) rfl  k) ?_
      show Go _ _ _ _ _ _ _  T17 (mkF m 32 #[.val (.int p1), .val (.int p2), .val (.int (1 : Int32)), .val (.int (1 : Int32)), .val (.ref w_ARCHIVED), .val (.ref w_ARCHIVED), .val (.int (78 : Int32)), .unset] [(.int (78 : Int32))])
      refine Go.st (fun t k => XS.iloadN X17.here hx rfl (hb hby at_32) rfl  k) ?_
      show Go _ _ _ _ _ _ _  T17 (mkF m 33 #[.val (.int p1), .val (.int p2), .val (.int (1 : Int32)), .val (.int (1 : Int32)), .val (.ref w_ARCHIVED), .val (.ref w_ARCHIVED), .val (.int (78 : Int32)), .unset] [(.int (1 : Int32)), (.int (78 : Int32))])
      refine Go.st (fun t k => XS.iconst X17.here hx rfl (hb hby at_33) k) ?_
      show Go _ _ _ _ _ _ _  T17 (mkF m 34 #[.val (.int p1), .val (.int p2), .val (.int (1 : Int32)), .val (.int (1 : Int32)), .val (.ref w_ARCHIVED), .val (.ref w_ARCHIVED), .val (.int (78 : Int32)), .unset] [(.int (3 : Int32)), (.int (1 : Int32)), (.int (78 : Int32))])
      refine Go.st (fun t k => XS.imul X17.here hx rfl (hb hby at_34) rfl k) ?_
      show Go _ _ _ _ _ _ _  T17 (mkF m 35 #[.val (.int p1), .val (.int p2), .val (.int (1 : Int32)), .val (.int (1 : Int32)), .val (.ref w_ARCHIVED), .val (.ref w_ARCHIVED), .val (.int (78 : Int32)), .unset] [(.int ((1 : Int32) * (3 : Int32))), (.int (78 : Int32))])
      refine Go.st (fun t k => XS.iloadN X17.here hx rfl (hb hby at_35) rfl  k) ?_
      show Go _ _ _ _ _ _ _  T17 (mkF m 36 #[.val (.int p1), .val (.int p2), .val (.int (1 : Int32)), .val (.int (1 : Int32)), .val (.ref w_ARCHIVED), .val (.ref w_ARCHIVED), .val (.int (78 : Int32)), .unset] [(.int (1 : Int32)), (.int ((1 : Int32) * (3 : Int32))), (.int (78 : Int32))])
      refine Go.st (fun t k => XS.iadd X17.here hx rfl (hb hby at_36) rfl k) ?_
      show Go _ _ _ _ _ _ _  T17 (mkF m 37 #[.val (.int p1), .val (.int p2), .val (.int (1 : Int32)), .val (.int (1 : Int32)), .val (.ref w_ARCHIVED), .val (.ref w_ARCHIVED), .val (.int (78 : Int32)), .unset] [(.int (((1 : Int32) * (3 : Int32)) + (1 : Int32))), (.int (78 : Int32))])
      refine Go.st (fun t k => XS.ishr X17.here hx rfl (hb hby at_37) rfl k) ?_
      show Go _ _ _ _ _ _ _  T17 (mkF m 38 #[.val (.int p1), .val (.int p2), .val (.int (1 : Int32)), .val (.int (1 : Int32)), .val (.ref w_ARCHIVED), .val (.ref w_ARCHIVED), .val (.int (78 : Int32)), .unset] [(.int ((78 : Int32) >>> ((((1 : Int32) * (3 : Int32)) + (1 : Int32)) &&& 31)))])
      refine Go.st (fun t k => XS.iconst X17.here hx rfl (hb hby at_38) k) ?_
      show Go _ _ _ _ _ _ _  T17 (mkF m 39 #[.val (.int p1), .val (.int p2), .val (.int (1 : Int32)), .val (.int (1 : Int32)), .val (.ref w_ARCHIVED), .val (.ref w_ARCHIVED), .val (.int (78 : Int32)), .unset] [(.int (1 : Int32)), (.int ((78 : Int32) >>> ((((1 : Int32) * (3 : Int32)) + (1 : Int32)) &&& 31)))])
      refine Go.st (fun t k => XS.iand X17.here hx rfl (hb hby at_39) rfl k) ?_
      show Go _ _ _ _ _ _ _  T17 (mkF m 40 #[.val (.int p1), .val (.int p2), .val (.int (1 : Int32)), .val (.int (1 : Int32)), .val (.ref w_ARCHIVED), .val (.ref w_ARCHIVED), .val (.int (78 : Int32)), .unset] [(.int (((78 : Int32) >>> ((((1 : Int32) * (3 : Int32)) + (1 : Int32)) &&& 31)) &&& (1 : Int32)))])
      refine Go.st (fun t k => XS.ifYes X17.here hx rfl (pc0 := 40) (pc' := 47) rfl (hb hby at_40) rfl ((if0 _ _).trans (teq (by decide : (((78 : Int32) >>> ((((1 : Int32) * (3 : Int32)) + (1 : Int32)) &&& 31)) &&& (1 : Int32)) = (0 : Int32))).1) (by decide) (by decide) k) ?_
      show Go _ _ _ _ _ _ _  T17 (mkF m 47 #[.val (.int p1), .val (.int p2), .val (.int (1 : Int32)), .val (.int (1 : Int32)), .val (.ref w_ARCHIVED), .val (.ref w_ARCHIVED), .val (.int (78 : Int32)), .unset] [])
      refine Go.st (fun t k => XS.iconst X17.here hx rfl (hb hby at_47) k) ?_
      show Go _ _ _ _ _ _ _  T17 (mkF m 48 #[.val (.int p1), .val (.int p2), .val (.int (1 : Int32)), .val (.int (1 : Int32)), .val (.ref w_ARCHIVED), .val (.ref w_ARCHIVED), .val (.int (78 : Int32)), .unset] [(.int (0 : Int32))])
      refine Go.st (fun t k => XS.istore X17.here hx rfl (hb hby at_48) rfl (l' := #[.val (.int p1), .val (.int p2), .val (.int (1 : Int32)), .val (.int (1 : Int32)), .val (.ref w_ARCHIVED), .val (.ref w_ARCHIVED), .val (.int (78 : Int32)), .val (.int (0 : Int32))]) rfl k) ?_
      show Go _ _ _ _ _ _ _  T17 (mkF m 50 #[.val (.int p1), .val (.int p2), .val (.int (1 : Int32)), .val (.int (1 : Int32)), .val (.ref w_ARCHIVED), .val (.ref w_ARCHIVED), .val (.int (78 : Int32)), .val (.int (0 : Int32))] [])
      refine Go.st (fun t k => XS.aload X17.here hx rfl (hb hby at_50) rfl rfl  k) ?_
      show Go _ _ _ _ _ _ _  T17 (mkF m 52 #[.val (.int p1), .val (.int p2), .val (.int (1 : Int32)), .val (.int (1 : Int32)), .val (.ref w_ARCHIVED), .val (.ref w_ARCHIVED), .val (.int (78 : Int32)), .val (.int (0 : Int32))] [(.ref w_ARCHIVED)])
      refine Go.st (fun t k => XS.aload X17.here hx rfl (hb hby at_52) rfl rfl  k) ?_
      show Go _ _ _ _ _ _ _  T17 (mkF m 54 #[.val (.int p1), .val (.int p2), .val (.int (1 : Int32)), .val (.int (1 : Int32)), .val (.ref w_ARCHIVED), .val (.ref w_ARCHIVED), .val (.int (78 : Int32)), .val (.int (0 : Int32))] [(.ref w_ARCHIVED), (.ref w_ARCHIVED)])
      obtain ⟨cq18, kq18, q18a, q18b, q18c⟩ := isOf hZ e17q (E_ARCHIVED.ext O.2)
      obtain ⟨_, _, ⟨T18, L18, k18, n18⟩, -, X18, ⟨Lc18, hQ18, l18, y18, z18⟩, st18⟩ := X17.virtualBack hx (y := (⟨"com/example/wellness_on_record/wellnessonrecord/store/DocumentStatus", "canBecome", "(Lcom/example/wellness_on_record/wellnessonrecord/store/DocumentStatus;)Z"⟩ : MethodName)) (z := (⟨"com/example/wellness_on_record/wellnessonrecord/store/DocumentStatus", "canBecome", "(Lcom/example/wellness_on_record/wellnessonrecord/store/DocumentStatus;)Z"⟩ : MethodName)) hown (mvT hZ (hw _ (List.mem_of_getElem? (i := 8) rfl))) (mvT hZ (hw _ (List.mem_of_getElem? (i := 9) rfl))) (notFace_of_selects (args := #[]) (mvT hZ (hw _ (List.mem_of_getElem? (i := 11) rfl)))) (mvT hZ (hw _ (List.mem_of_getElem? (i := 11) rfl))) (mvT hZ (hw _ (List.mem_of_getElem? (i := 10) rfl))) (by decide) (backOf (W := 0) (rmC l Z a0 hw [] w_ARCHIVED w_ARCHIVED w_ACTIVE h0 n0 O S_ACTIVE) hZ (hw _ (List.mem_of_getElem? (i := 12) rfl)) (hw _ (List.mem_of_getElem? (i := 6) rfl)) (by decide) (by decide)) q18a q18c (g := (mkF m 54 #[.val (.int p1), .val (.int p2), .val (.int (1 : Int32)), .val (.int (1 : Int32)), .val (.ref w_ARCHIVED), .val (.ref w_ARCHIVED), .val (.int (78 : Int32)), .val (.int (0 : Int32))] [(.ref w_ARCHIVED), (.ref w_ARCHIVED)])) rfl (by rw [hml]; rfl) (Steps.refl _) (argsL := [(.ref w_ARCHIVED)]) (rest := []) (lenOf pd__Lcom_example_wellness_on_record_wellnessonrecord_store_DocumentStatus__Z rfl) rfl (by show 2 * 0 + _ ≤ _; exact Nat.le_of_eq rfl) (hb hby at_54) (fun _ _ => ⟨rfl, e17q, (by decide : 0 + 0 ≤ _), (by decide : 0 + 0 ≤ _)⟩)
      dsimp only [Pt.U, Pt.locs, Pt.cells, Pt.slots] at X18 l18 y18 z18 st18 hQ18
      subst l18 y18 z18
      obtain ⟨rfl, N18q, e18q⟩ := hQ18
      have N18 := Fr.app N17 N18q
      refine Go.tr st18 ?_
      rw [show canF w_ARCHIVED w_ARCHIVED w_ACTIVE = (0 : Int32) from by simp [canF, n_ACTIVE_ARCHIVED, n_ACTIVE_VOID, n_ARCHIVED_ACTIVE, n_ARCHIVED_VOID, n_VOID_ACTIVE, n_VOID_ARCHIVED]]
      show Go _ _ _ _ _ _ _  T18 (mkF m 57 #[.val (.int p1), .val (.int p2), .val (.int (1 : Int32)), .val (.int (1 : Int32)), .val (.ref w_ARCHIVED), .val (.ref w_ARCHIVED), .val (.int (78 : Int32)), .val (.int (0 : Int32))] [(.int (0 : Int32))])
      refine Go.st (fun t k => XS.iload X18.here hx rfl (hb hby at_57) rfl  k) ?_
      show Go _ _ _ _ _ _ _  T18 (mkF m 59 #[.val (.int p1), .val (.int p2), .val (.int (1 : Int32)), .val (.int (1 : Int32)), .val (.ref w_ARCHIVED), .val (.ref w_ARCHIVED), .val (.int (78 : Int32)), .val (.int (0 : Int32))] [(.int (0 : Int32)), (.int (0 : Int32))])
      refine Go.st (fun t k => XS.icmpNo X18.here hx rfl (hb hby at_59) rfl (teq (rfl : (0 : Int32) = (0 : Int32))).2 k) ?_
      show Go _ _ _ _ _ _ _  T18 (mkF m 62 #[.val (.int p1), .val (.int p2), .val (.int (1 : Int32)), .val (.int (1 : Int32)), .val (.ref w_ARCHIVED), .val (.ref w_ARCHIVED), .val (.int (78 : Int32)), .val (.int (0 : Int32))] [])
      refine Go.st (fun t k => XS.iconst X18.here hx rfl (hb hby at_62) k) ?_
      show Go _ _ _ _ _ _ _  T18 (mkF m 63 #[.val (.int p1), .val (.int p2), .val (.int (1 : Int32)), .val (.int (1 : Int32)), .val (.ref w_ARCHIVED), .val (.ref w_ARCHIVED), .val (.int (78 : Int32)), .val (.int (0 : Int32))] [(.int (1 : Int32))])
      refine Go.st (fun t k => XS.goto X18.here hx rfl (pc0 := 63) (pc' := 67) rfl (hb hby at_63) (by decide) (by decide) k) ?_
      show Go _ _ _ _ _ _ _  T18 (mkF m 67 #[.val (.int p1), .val (.int p2), .val (.int (1 : Int32)), .val (.int (1 : Int32)), .val (.ref w_ARCHIVED), .val (.ref w_ARCHIVED), .val (.int (78 : Int32)), .val (.int (0 : Int32))] [(.int (1 : Int32))])
      refine Go.retN X18 hlk hx (t := .boolean) (z' := (1 : Int32)) Bd.returns (by simp) (hb hby at_67) (by decide) (by decide) rfl ?_
      show Q_rm0 Z p1 p2 w_ACTIVE w_ARCHIVED w_VOID h0 n0 _ T18.heap _
      rw [e18q]
      exact ⟨rfl, N18⟩
    · rw [sp12]
      show Go _ _ _ _ _ _ _  s₁ (mkF m 14 #[.val (.int p1), .val (.int p2), .val (.int (1 : Int32)), .val (.int (2 : Int32)), .unset, .unset, .unset, .unset] [])
      refine Go.st (fun t k => XS.iloadN X0.here hx rfl (hb hby at_14) rfl  k) ?_
      show Go _ _ _ _ _ _ _  s₁ (mkF m 15 #[.val (.int p1), .val (.int p2), .val (.int (1 : Int32)), .val (.int (2 : Int32)), .unset, .unset, .unset, .unset] [(.int (1 : Int32))])
      obtain ⟨_, _, ⟨T19, L19, k19, n19⟩, -, X19, ⟨Lc19, hQ19, l19, y19, z19⟩, st19⟩ := Jvm.LawKit.callS X0 hx (y := (⟨"com/example/wellness_on_record/wellnessonrecord/store/DocumentStatusCanBecomePinLaw", "pick", "(I)Lcom/example/wellness_on_record/wellnessonrecord/store/DocumentStatus;"⟩ : MethodName)) hown (mvT hZ (hw _ (List.mem_of_getElem? (i := 1) rfl))) (mvT hZ (hw _ (List.mem_of_getElem? (i := 2) rfl))) (mvT hZ (hw _ (List.mem_of_getElem? (i := 3) rfl))) (mvT hZ (hw _ (List.mem_of_getElem? (i := 4) rfl))) (by decide) (backOf (W := 0) (rmP l Z a0 hw [] (1 : Int32) w_ACTIVE w_ARCHIVED w_VOID h0 n0 O S_ACTIVE S_ARCHIVED S_VOID) hZ (hw _ (List.mem_of_getElem? (i := 4) rfl)) (hw _ (List.mem_of_getElem? (i := 3) rfl)) (by decide) (by decide)) (g := (mkF m 15 #[.val (.int p1), .val (.int p2), .val (.int (1 : Int32)), .val (.int (2 : Int32)), .unset, .unset, .unset, .unset] [(.int (1 : Int32))])) rfl (by rw [hml]; rfl) (argsL := [(.int (1 : Int32))]) (rest := []) (lenOf pd__I_Lcom_example_wellness_on_record_wellnessonrecord_store_DocumentStatus_ rfl) rfl (by show 2 * 0 + _ ≤ _; exact Nat.le_of_eq rfl) (hb hby at_15) (fun _ _ => ⟨rfl, e0, (by decide : 0 + 0 ≤ _), (by decide : 0 + 0 ≤ _)⟩)
      dsimp only [Pt.U, Pt.locs, Pt.cells, Pt.slots] at X19 l19 y19 z19 st19 hQ19
      subst l19 y19 z19
      obtain ⟨rfl, N19q, e19q⟩ := hQ19
      have N19 := Fr.app N0 N19q
      refine Go.st st19 ?_
      rw [show pickF (1 : Int32) w_ACTIVE w_ARCHIVED w_VOID = w_ARCHIVED from by simp [pickF]]
      show Go _ _ _ _ _ _ _  T19 (mkF m 18 #[.val (.int p1), .val (.int p2), .val (.int (1 : Int32)), .val (.int (2 : Int32)), .unset, .unset, .unset, .unset] [(.ref w_ARCHIVED)])
      refine Go.st (fun t k => XS.astore X19.here hx rfl (hb hby at_18) rfl rfl (l' := #[.val (.int p1), .val (.int p2), .val (.int (1 : Int32)), .val (.int (2 : Int32)), .val (.ref w_ARCHIVED), .unset, .unset, .unset]) rfl k) ?_
      show Go _ _ _ _ _ _ _  T19 (mkF m 20 #[.val (.int p1), .val (.int p2), .val (.int (1 : Int32)), .val (.int (2 : Int32)), .val (.ref w_ARCHIVED), .unset, .unset, .unset] [])
      refine Go.st (fun t k => XS.iloadN X19.here hx rfl (hb hby at_20) rfl  k) ?_
      show Go _ _ _ _ _ _ _  T19 (mkF m 21 #[.val (.int p1), .val (.int p2), .val (.int (1 : Int32)), .val (.int (2 : Int32)), .val (.ref w_ARCHIVED), .unset, .unset, .unset] [(.int (2 : Int32))])
      obtain ⟨_, _, ⟨T20, L20, k20, n20⟩, -, X20, ⟨Lc20, hQ20, l20, y20, z20⟩, st20⟩ := Jvm.LawKit.callS X19 hx (y := (⟨"com/example/wellness_on_record/wellnessonrecord/store/DocumentStatusCanBecomePinLaw", "pick", "(I)Lcom/example/wellness_on_record/wellnessonrecord/store/DocumentStatus;"⟩ : MethodName)) hown (mvT hZ (hw _ (List.mem_of_getElem? (i := 1) rfl))) (mvT hZ (hw _ (List.mem_of_getElem? (i := 2) rfl))) (mvT hZ (hw _ (List.mem_of_getElem? (i := 3) rfl))) (mvT hZ (hw _ (List.mem_of_getElem? (i := 4) rfl))) (by decide) (backOf (W := 0) (rmP l Z a0 hw [] (2 : Int32) w_ACTIVE w_ARCHIVED w_VOID h0 n0 O S_ACTIVE S_ARCHIVED S_VOID) hZ (hw _ (List.mem_of_getElem? (i := 4) rfl)) (hw _ (List.mem_of_getElem? (i := 3) rfl)) (by decide) (by decide)) (g := (mkF m 21 #[.val (.int p1), .val (.int p2), .val (.int (1 : Int32)), .val (.int (2 : Int32)), .val (.ref w_ARCHIVED), .unset, .unset, .unset] [(.int (2 : Int32))])) rfl (by rw [hml]; rfl) (argsL := [(.int (2 : Int32))]) (rest := []) (lenOf pd__I_Lcom_example_wellness_on_record_wellnessonrecord_store_DocumentStatus_ rfl) rfl (by show 2 * 0 + _ ≤ _; exact Nat.le_of_eq rfl) (hb hby at_21) (fun _ _ => ⟨rfl, e19q, (by decide : 0 + 0 ≤ _), (by decide : 0 + 0 ≤ _)⟩)
      dsimp only [Pt.U, Pt.locs, Pt.cells, Pt.slots] at X20 l20 y20 z20 st20 hQ20
      subst l20 y20 z20
      obtain ⟨rfl, N20q, e20q⟩ := hQ20
      have N20 := Fr.app N19 N20q
      refine Go.st st20 ?_
      rw [show pickF (2 : Int32) w_ACTIVE w_ARCHIVED w_VOID = w_VOID from by simp [pickF]]
      show Go _ _ _ _ _ _ _  T20 (mkF m 24 #[.val (.int p1), .val (.int p2), .val (.int (1 : Int32)), .val (.int (2 : Int32)), .val (.ref w_ARCHIVED), .unset, .unset, .unset] [(.ref w_VOID)])
      refine Go.st (fun t k => XS.astore X20.here hx rfl (hb hby at_24) rfl rfl (l' := #[.val (.int p1), .val (.int p2), .val (.int (1 : Int32)), .val (.int (2 : Int32)), .val (.ref w_ARCHIVED), .val (.ref w_VOID), .unset, .unset]) rfl k) ?_
      show Go _ _ _ _ _ _ _  T20 (mkF m 26 #[.val (.int p1), .val (.int p2), .val (.int (1 : Int32)), .val (.int (2 : Int32)), .val (.ref w_ARCHIVED), .val (.ref w_VOID), .unset, .unset] [])
      refine Go.st (fun t k => XS.bipush X20.here hx rfl (hb hby at_26) k) ?_
      show Go _ _ _ _ _ _ _  T20 (mkF m 28 #[.val (.int p1), .val (.int p2), .val (.int (1 : Int32)), .val (.int (2 : Int32)), .val (.ref w_ARCHIVED), .val (.ref w_VOID), .unset, .unset] [(.int (78 : Int32))])
      refine Go.st (fun t k => XS.istore X20.here hx rfl (hb hby at_28) rfl (l' := #[.val (.int p1), .val (.int p2), .val (.int (1 : Int32)), .val (.int (2 : Int32)), .val (.ref w_ARCHIVED), .val (.ref w_VOID), .val (.int (78 : Int32)), .unset]) rfl k) ?_
      show Go _ _ _ _ _ _ _  T20 (mkF m 30 #[.val (.int p1), .val (.int p2), .val (.int (1 : Int32)), .val (.int (2 : Int32)), .val (.ref w_ARCHIVED), .val (.ref w_VOID), .val (.int (78 : Int32)), .unset] [])
      refine Go.st (fun t k => XS.iload X20.here hx rfl (hb hby at_30) rfl  k) ?_
      show Go _ _ _ _ _ _ _  T20 (mkF m 32 #[.val (.int p1), .val (.int p2), .val (.int (1 : Int32)), .val (.int (2 : Int32)), .val (.ref w_ARCHIVED), .val (.ref w_VOID), .val (.int (78 : Int32)), .unset] [(.int (78 : Int32))])
      refine Go.st (fun t k => XS.iloadN X20.here hx rfl (hb hby at_32) rfl  k) ?_
      show Go _ _ _ _ _ _ _  T20 (mkF m 33 #[.val (.int p1), .val (.int p2), .val (.int (1 : Int32)), .val (.int (2 : Int32)), .val (.ref w_ARCHIVED), .val (.ref w_VOID), .val (.int (78 : Int32)), .unset] [(.int (1 : Int32)), (.int (78 : Int32))])
      refine Go.st (fun t k => XS.iconst X20.here hx rfl (hb hby at_33) k) ?_
      show Go _ _ _ _ _ _ _  T20 (mkF m 34 #[.val (.int p1), .val (.int p2), .val (.int (1 : Int32)), .val (.int (2 : Int32)), .val (.ref w_ARCHIVED), .val (.ref w_VOID), .val (.int (78 : Int32)), .unset] [(.int (3 : Int32)), (.int (1 : Int32)), (.int (78 : Int32))])
      refine Go.st (fun t k => XS.imul X20.here hx rfl (hb hby at_34) rfl k) ?_
      show Go _ _ _ _ _ _ _  T20 (mkF m 35 #[.val (.int p1), .val (.int p2), .val (.int (1 : Int32)), .val (.int (2 : Int32)), .val (.ref w_ARCHIVED), .val (.ref w_VOID), .val (.int (78 : Int32)), .unset] [(.int ((1 : Int32) * (3 : Int32))), (.int (78 : Int32))])
      refine Go.st (fun t k => XS.iloadN X20.here hx rfl (hb hby at_35) rfl  k) ?_
      show Go _ _ _ _ _ _ _  T20 (mkF m 36 #[.val (.int p1), .val (.int p2), .val (.int (1 : Int32)), .val (.int (2 : Int32)), .val (.ref w_ARCHIVED), .val (.ref w_VOID), .val (.int (78 : Int32)), .unset] [(.int (2 : Int32)), (.int ((1 : Int32) * (3 : Int32))), (.int (78 : Int32))])
      refine Go.st (fun t k => XS.iadd X20.here hx rfl (hb hby at_36) rfl k) ?_
      show Go _ _ _ _ _ _ _  T20 (mkF m 37 #[.val (.int p1), .val (.int p2), .val (.int (1 : Int32)), .val (.int (2 : Int32)), .val (.ref w_ARCHIVED), .val (.ref w_VOID), .val (.int (78 : Int32)), .unset] [(.int (((1 : Int32) * (3 : Int32)) + (2 : Int32))), (.int (78 : Int32))])
      refine Go.st (fun t k => XS.ishr X20.here hx rfl (hb hby at_37) rfl k) ?_
      show Go _ _ _ _ _ _ _  T20 (mkF m 38 #[.val (.int p1), .val (.int p2), .val (.int (1 : Int32)), .val (.int (2 : Int32)), .val (.ref w_ARCHIVED), .val (.ref w_VOID), .val (.int (78 : Int32)), .unset] [(.int ((78 : Int32) >>> ((((1 : Int32) * (3 : Int32)) + (2 : Int32)) &&& 31)))])
      refine Go.st (fun t k => XS.iconst X20.here hx rfl (hb hby at_38) k) ?_
      show Go _ _ _ _ _ _ _  T20 (mkF m 39 #[.val (.int p1), .val (.int p2), .val (.int (1 : Int32)), .val (.int (2 : Int32)), .val (.ref w_ARCHIVED), .val (.ref w_VOID), .val (.int (78 : Int32)), .unset] [(.int (1 : Int32)), (.int ((78 : Int32) >>> ((((1 : Int32) * (3 : Int32)) + (2 : Int32)) &&& 31)))])
      refine Go.st (fun t k => XS.iand X20.here hx rfl (hb hby at_39) rfl k) ?_
      show Go _ _ _ _ _ _ _  T20 (mkF m 40 #[.val (.int p1), .val (.int p2), .val (.int (1 : Int32)), .val (.int (2 : Int32)), .val (.ref w_ARCHIVED), .val (.ref w_VOID), .val (.int (78 : Int32)), .unset] [(.int (((78 : Int32) >>> ((((1 : Int32) * (3 : Int32)) + (2 : Int32)) &&& 31)) &&& (1 : Int32)))])
      refine Go.st (fun t k => XS.ifYes X20.here hx rfl (pc0 := 40) (pc' := 47) rfl (hb hby at_40) rfl ((if0 _ _).trans (teq (by decide : (((78 : Int32) >>> ((((1 : Int32) * (3 : Int32)) + (2 : Int32)) &&& 31)) &&& (1 : Int32)) = (0 : Int32))).1) (by decide) (by decide) k) ?_
      show Go _ _ _ _ _ _ _  T20 (mkF m 47 #[.val (.int p1), .val (.int p2), .val (.int (1 : Int32)), .val (.int (2 : Int32)), .val (.ref w_ARCHIVED), .val (.ref w_VOID), .val (.int (78 : Int32)), .unset] [])
      refine Go.st (fun t k => XS.iconst X20.here hx rfl (hb hby at_47) k) ?_
      show Go _ _ _ _ _ _ _  T20 (mkF m 48 #[.val (.int p1), .val (.int p2), .val (.int (1 : Int32)), .val (.int (2 : Int32)), .val (.ref w_ARCHIVED), .val (.ref w_VOID), .val (.int (78 : Int32)), .unset] [(.int (0 : Int32))])
      refine Go.st (fun t k => XS.istore X20.here hx rfl (hb hby at_48) rfl (l' := #[.val (.int p1), .val (.int p2), .val (.int (1 : Int32)), .val (.int (2 : Int32)), .val (.ref w_ARCHIVED), .val (.ref w_VOID), .val (.int (78 : Int32)), .val (.int (0 : Int32))]) rfl k) ?_
      show Go _ _ _ _ _ _ _  T20 (mkF m 50 #[.val (.int p1), .val (.int p2), .val (.int (1 : Int32)), .val (.int (2 : Int32)), .val (.ref w_ARCHIVED), .val (.ref w_VOID), .val (.int (78 : Int32)), .val (.int (0 : Int32))] [])
      refine Go.st (fun t k => XS.aload X20.here hx rfl (hb hby at_50) rfl rfl  k) ?_
      show Go _ _ _ _ _ _ _  T20 (mkF m 52 #[.val (.int p1), .val (.int p2), .val (.int (1 : Int32)), .val (.int (2 : Int32)), .val (.ref w_ARCHIVED), .val (.ref w_VOID), .val (.int (78 : Int32)), .val (.int (0 : Int32))] [(.ref w_ARCHIVED)])
      refine Go.st (fun t k => XS.aload X20.here hx rfl (hb hby at_52) rfl rfl  k) ?_
      show Go _ _ _ _ _ _ _  T20 (mkF m 54 #[.val (.int p1), .val (.int p2), .val (.int (1 : Int32)), .val (.int (2 : Int32)), .val (.ref w_ARCHIVED), .val (.ref w_VOID), .val (.int (78 : Int32)), .val (.int (0 : Int32))] [(.ref w_VOID), (.ref w_ARCHIVED)])
      obtain ⟨cq21, kq21, q21a, q21b, q21c⟩ := isOf hZ e20q (E_ARCHIVED.ext O.2)
      obtain ⟨_, _, ⟨T21, L21, k21, n21⟩, -, X21, ⟨Lc21, hQ21, l21, y21, z21⟩, st21⟩ := X20.virtualBack hx (y := (⟨"com/example/wellness_on_record/wellnessonrecord/store/DocumentStatus", "canBecome", "(Lcom/example/wellness_on_record/wellnessonrecord/store/DocumentStatus;)Z"⟩ : MethodName)) (z := (⟨"com/example/wellness_on_record/wellnessonrecord/store/DocumentStatus", "canBecome", "(Lcom/example/wellness_on_record/wellnessonrecord/store/DocumentStatus;)Z"⟩ : MethodName)) hown (mvT hZ (hw _ (List.mem_of_getElem? (i := 8) rfl))) (mvT hZ (hw _ (List.mem_of_getElem? (i := 9) rfl))) (notFace_of_selects (args := #[]) (mvT hZ (hw _ (List.mem_of_getElem? (i := 11) rfl)))) (mvT hZ (hw _ (List.mem_of_getElem? (i := 11) rfl))) (mvT hZ (hw _ (List.mem_of_getElem? (i := 10) rfl))) (by decide) (backOf (W := 0) (rmC l Z a0 hw [] w_ARCHIVED w_VOID w_ACTIVE h0 n0 O S_ACTIVE) hZ (hw _ (List.mem_of_getElem? (i := 12) rfl)) (hw _ (List.mem_of_getElem? (i := 6) rfl)) (by decide) (by decide)) q21a q21c (g := (mkF m 54 #[.val (.int p1), .val (.int p2), .val (.int (1 : Int32)), .val (.int (2 : Int32)), .val (.ref w_ARCHIVED), .val (.ref w_VOID), .val (.int (78 : Int32)), .val (.int (0 : Int32))] [(.ref w_VOID), (.ref w_ARCHIVED)])) rfl (by rw [hml]; rfl) (Steps.refl _) (argsL := [(.ref w_VOID)]) (rest := []) (lenOf pd__Lcom_example_wellness_on_record_wellnessonrecord_store_DocumentStatus__Z rfl) rfl (by show 2 * 0 + _ ≤ _; exact Nat.le_of_eq rfl) (hb hby at_54) (fun _ _ => ⟨rfl, e20q, (by decide : 0 + 0 ≤ _), (by decide : 0 + 0 ≤ _)⟩)
      dsimp only [Pt.U, Pt.locs, Pt.cells, Pt.slots] at X21 l21 y21 z21 st21 hQ21
      subst l21 y21 z21
      obtain ⟨rfl, N21q, e21q⟩ := hQ21
      have N21 := Fr.app N20 N21q
      refine Go.tr st21 ?_
      rw [show canF w_ARCHIVED w_VOID w_ACTIVE = (0 : Int32) from by simp [canF, n_ACTIVE_ARCHIVED, n_ACTIVE_VOID, n_ARCHIVED_ACTIVE, n_ARCHIVED_VOID, n_VOID_ACTIVE, n_VOID_ARCHIVED]]
      show Go _ _ _ _ _ _ _  T21 (mkF m 57 #[.val (.int p1), .val (.int p2), .val (.int (1 : Int32)), .val (.int (2 : Int32)), .val (.ref w_ARCHIVED), .val (.ref w_VOID), .val (.int (78 : Int32)), .val (.int (0 : Int32))] [(.int (0 : Int32))])
      refine Go.st (fun t k => XS.iload X21.here hx rfl (hb hby at_57) rfl  k) ?_
      show Go _ _ _ _ _ _ _  T21 (mkF m 59 #[.val (.int p1), .val (.int p2), .val (.int (1 : Int32)), .val (.int (2 : Int32)), .val (.ref w_ARCHIVED), .val (.ref w_VOID), .val (.int (78 : Int32)), .val (.int (0 : Int32))] [(.int (0 : Int32)), (.int (0 : Int32))])
      refine Go.st (fun t k => XS.icmpNo X21.here hx rfl (hb hby at_59) rfl (teq (rfl : (0 : Int32) = (0 : Int32))).2 k) ?_
      show Go _ _ _ _ _ _ _  T21 (mkF m 62 #[.val (.int p1), .val (.int p2), .val (.int (1 : Int32)), .val (.int (2 : Int32)), .val (.ref w_ARCHIVED), .val (.ref w_VOID), .val (.int (78 : Int32)), .val (.int (0 : Int32))] [])
      refine Go.st (fun t k => XS.iconst X21.here hx rfl (hb hby at_62) k) ?_
      show Go _ _ _ _ _ _ _  T21 (mkF m 63 #[.val (.int p1), .val (.int p2), .val (.int (1 : Int32)), .val (.int (2 : Int32)), .val (.ref w_ARCHIVED), .val (.ref w_VOID), .val (.int (78 : Int32)), .val (.int (0 : Int32))] [(.int (1 : Int32))])
      refine Go.st (fun t k => XS.goto X21.here hx rfl (pc0 := 63) (pc' := 67) rfl (hb hby at_63) (by decide) (by decide) k) ?_
      show Go _ _ _ _ _ _ _  T21 (mkF m 67 #[.val (.int p1), .val (.int p2), .val (.int (1 : Int32)), .val (.int (2 : Int32)), .val (.ref w_ARCHIVED), .val (.ref w_VOID), .val (.int (78 : Int32)), .val (.int (0 : Int32))] [(.int (1 : Int32))])
      refine Go.retN X21 hlk hx (t := .boolean) (z' := (1 : Int32)) Bd.returns (by simp) (hb hby at_67) (by decide) (by decide) rfl ?_
      show Q_rm0 Z p1 p2 w_ACTIVE w_ARCHIVED w_VOID h0 n0 _ T21.heap _
      rw [e21q]
      exact ⟨rfl, N21⟩
  · rw [sp1]
    show Go _ _ _ _ _ _ _  s₁ (mkF m 7 #[.val (.int p1), .val (.int p2), .val (.int (2 : Int32)), .unset, .unset, .unset, .unset, .unset] [])
    refine Go.st (fun t k => XS.iloadN X0.here hx rfl (hb hby at_7) rfl  k) ?_
    show Go _ _ _ _ _ _ _  s₁ (mkF m 8 #[.val (.int p1), .val (.int p2), .val (.int (2 : Int32)), .unset, .unset, .unset, .unset, .unset] [(.int p2)])
    refine Go.st (X0.ldcInt hx hown (mvT hZ (hw _ (List.mem_of_getElem? (i := 0) rfl))) (g := (mkF m 8 #[.val (.int p1), .val (.int p2), .val (.int (2 : Int32)), .unset, .unset, .unset, .unset, .unset] [(.int p2)])) rfl (hb hby at_8)) ?_
    show Go _ _ _ _ _ _ _  s₁ (mkF m 10 #[.val (.int p1), .val (.int p2), .val (.int (2 : Int32)), .unset, .unset, .unset, .unset, .unset] [(.int (2147483647 : Int32)), (.int p2)])
    refine Go.st (fun t k => XS.iand X0.here hx rfl (hb hby at_10) rfl k) ?_
    show Go _ _ _ _ _ _ _  s₁ (mkF m 11 #[.val (.int p1), .val (.int p2), .val (.int (2 : Int32)), .unset, .unset, .unset, .unset, .unset] [(.int (p2 &&& (2147483647 : Int32)))])
    refine Go.st (fun t k => XS.iconst X0.here hx rfl (hb hby at_11) k) ?_
    show Go _ _ _ _ _ _ _  s₁ (mkF m 12 #[.val (.int p1), .val (.int p2), .val (.int (2 : Int32)), .unset, .unset, .unset, .unset, .unset] [(.int (3 : Int32)), (.int (p2 &&& (2147483647 : Int32)))])
    refine Go.st (fun t k => Jvm.RoadKit.iremM X0 hx rfl (hb hby at_12) rfl (by decide) k) ?_
    show Go _ _ _ _ _ _ _  s₁ (mkF m 13 #[.val (.int p1), .val (.int p2), .val (.int (2 : Int32)), .unset, .unset, .unset, .unset, .unset] [(.int ((p2 &&& (2147483647 : Int32)) % (3 : Int32)))])
    refine Go.st (fun t k => XS.istoreN X0.here hx rfl (hb hby at_13) rfl (l' := #[.val (.int p1), .val (.int p2), .val (.int (2 : Int32)), .val (.int ((p2 &&& (2147483647 : Int32)) % (3 : Int32))), .unset, .unset, .unset, .unset]) rfl k) ?_
    show Go _ _ _ _ _ _ _  s₁ (mkF m 14 #[.val (.int p1), .val (.int p2), .val (.int (2 : Int32)), .val (.int ((p2 &&& (2147483647 : Int32)) % (3 : Int32))), .unset, .unset, .unset, .unset] [])
    rcases own_mod3 p2 with sp22 | sp22 | sp22
    · rw [sp22]
      show Go _ _ _ _ _ _ _  s₁ (mkF m 14 #[.val (.int p1), .val (.int p2), .val (.int (2 : Int32)), .val (.int (0 : Int32)), .unset, .unset, .unset, .unset] [])
      refine Go.st (fun t k => XS.iloadN X0.here hx rfl (hb hby at_14) rfl  k) ?_
      show Go _ _ _ _ _ _ _  s₁ (mkF m 15 #[.val (.int p1), .val (.int p2), .val (.int (2 : Int32)), .val (.int (0 : Int32)), .unset, .unset, .unset, .unset] [(.int (2 : Int32))])
      obtain ⟨_, _, ⟨T23, L23, k23, n23⟩, -, X23, ⟨Lc23, hQ23, l23, y23, z23⟩, st23⟩ := Jvm.LawKit.callS X0 hx (y := (⟨"com/example/wellness_on_record/wellnessonrecord/store/DocumentStatusCanBecomePinLaw", "pick", "(I)Lcom/example/wellness_on_record/wellnessonrecord/store/DocumentStatus;"⟩ : MethodName)) hown (mvT hZ (hw _ (List.mem_of_getElem? (i := 1) rfl))) (mvT hZ (hw _ (List.mem_of_getElem? (i := 2) rfl))) (mvT hZ (hw _ (List.mem_of_getElem? (i := 3) rfl))) (mvT hZ (hw _ (List.mem_of_getElem? (i := 4) rfl))) (by decide) (backOf (W := 0) (rmP l Z a0 hw [] (2 : Int32) w_ACTIVE w_ARCHIVED w_VOID h0 n0 O S_ACTIVE S_ARCHIVED S_VOID) hZ (hw _ (List.mem_of_getElem? (i := 4) rfl)) (hw _ (List.mem_of_getElem? (i := 3) rfl)) (by decide) (by decide)) (g := (mkF m 15 #[.val (.int p1), .val (.int p2), .val (.int (2 : Int32)), .val (.int (0 : Int32)), .unset, .unset, .unset, .unset] [(.int (2 : Int32))])) rfl (by rw [hml]; rfl) (argsL := [(.int (2 : Int32))]) (rest := []) (lenOf pd__I_Lcom_example_wellness_on_record_wellnessonrecord_store_DocumentStatus_ rfl) rfl (by show 2 * 0 + _ ≤ _; exact Nat.le_of_eq rfl) (hb hby at_15) (fun _ _ => ⟨rfl, e0, (by decide : 0 + 0 ≤ _), (by decide : 0 + 0 ≤ _)⟩)
      dsimp only [Pt.U, Pt.locs, Pt.cells, Pt.slots] at X23 l23 y23 z23 st23 hQ23
      subst l23 y23 z23
      obtain ⟨rfl, N23q, e23q⟩ := hQ23
      have N23 := Fr.app N0 N23q
      refine Go.st st23 ?_
      rw [show pickF (2 : Int32) w_ACTIVE w_ARCHIVED w_VOID = w_VOID from by simp [pickF]]
      show Go _ _ _ _ _ _ _  T23 (mkF m 18 #[.val (.int p1), .val (.int p2), .val (.int (2 : Int32)), .val (.int (0 : Int32)), .unset, .unset, .unset, .unset] [(.ref w_VOID)])
      refine Go.st (fun t k => XS.astore X23.here hx rfl (hb hby at_18) rfl rfl (l' := #[.val (.int p1), .val (.int p2), .val (.int (2 : Int32)), .val (.int (0 : Int32)), .val (.ref w_VOID), .unset, .unset, .unset]) rfl k) ?_
      show Go _ _ _ _ _ _ _  T23 (mkF m 20 #[.val (.int p1), .val (.int p2), .val (.int (2 : Int32)), .val (.int (0 : Int32)), .val (.ref w_VOID), .unset, .unset, .unset] [])
      refine Go.st (fun t k => XS.iloadN X23.here hx rfl (hb hby at_20) rfl  k) ?_
      show Go _ _ _ _ _ _ _  T23 (mkF m 21 #[.val (.int p1), .val (.int p2), .val (.int (2 : Int32)), .val (.int (0 : Int32)), .val (.ref w_VOID), .unset, .unset, .unset] [(.int (0 : Int32))])
      obtain ⟨_, _, ⟨T24, L24, k24, n24⟩, -, X24, ⟨Lc24, hQ24, l24, y24, z24⟩, st24⟩ := Jvm.LawKit.callS X23 hx (y := (⟨"com/example/wellness_on_record/wellnessonrecord/store/DocumentStatusCanBecomePinLaw", "pick", "(I)Lcom/example/wellness_on_record/wellnessonrecord/store/DocumentStatus;"⟩ : MethodName)) hown (mvT hZ (hw _ (List.mem_of_getElem? (i := 1) rfl))) (mvT hZ (hw _ (List.mem_of_getElem? (i := 2) rfl))) (mvT hZ (hw _ (List.mem_of_getElem? (i := 3) rfl))) (mvT hZ (hw _ (List.mem_of_getElem? (i := 4) rfl))) (by decide) (backOf (W := 0) (rmP l Z a0 hw [] (0 : Int32) w_ACTIVE w_ARCHIVED w_VOID h0 n0 O S_ACTIVE S_ARCHIVED S_VOID) hZ (hw _ (List.mem_of_getElem? (i := 4) rfl)) (hw _ (List.mem_of_getElem? (i := 3) rfl)) (by decide) (by decide)) (g := (mkF m 21 #[.val (.int p1), .val (.int p2), .val (.int (2 : Int32)), .val (.int (0 : Int32)), .val (.ref w_VOID), .unset, .unset, .unset] [(.int (0 : Int32))])) rfl (by rw [hml]; rfl) (argsL := [(.int (0 : Int32))]) (rest := []) (lenOf pd__I_Lcom_example_wellness_on_record_wellnessonrecord_store_DocumentStatus_ rfl) rfl (by show 2 * 0 + _ ≤ _; exact Nat.le_of_eq rfl) (hb hby at_21) (fun _ _ => ⟨rfl, e23q, (by decide : 0 + 0 ≤ _), (by decide : 0 + 0 ≤ _)⟩)
      dsimp only [Pt.U, Pt.locs, Pt.cells, Pt.slots] at X24 l24 y24 z24 st24 hQ24
      subst l24 y24 z24
      obtain ⟨rfl, N24q, e24q⟩ := hQ24
      have N24 := Fr.app N23 N24q
      refine Go.st st24 ?_
      rw [show pickF (0 : Int32) w_ACTIVE w_ARCHIVED w_VOID = w_ACTIVE from by simp [pickF]]
      show Go _ _ _ _ _ _ _  T24 (mkF m 24 #[.val (.int p1), .val (.int p2), .val (.int (2 : Int32)), .val (.int (0 : Int32)), .val (.ref w_VOID), .unset, .unset, .unset] [(.ref w_ACTIVE)])
      refine Go.st (fun t k => XS.astore X24.here hx rfl (hb hby at_24) rfl rfl (l' := #[.val (.int p1), .val (.int p2), .val (.int (2 : Int32)), .val (.int (0 : Int32)), .val (.ref w_VOID), .val (.ref w_ACTIVE), .unset, .unset]) rfl k) ?_
      show Go _ _ _ _ _ _ _  T24 (mkF m 26 #[.val (.int p1), .val (.int p2), .val (.int (2 : Int32)), .val (.int (0 : Int32)), .val (.ref w_VOID), .val (.ref w_ACTIVE), .unset, .unset] [])
      refine Go.st (fun t k => XS.bipush X24.here hx rfl (hb hby at_26) k) ?_
      show Go _ _ _ _ _ _ _  T24 (mkF m 28 #[.val (.int p1), .val (.int p2), .val (.int (2 : Int32)), .val (.int (0 : Int32)), .val (.ref w_VOID), .val (.ref w_ACTIVE), .unset, .unset] [(.int (78 : Int32))])
      refine Go.st (fun t k => XS.istore X24.here hx rfl (hb hby at_28) rfl (l' := #[.val (.int p1), .val (.int p2), .val (.int (2 : Int32)), .val (.int (0 : Int32)), .val (.ref w_VOID), .val (.ref w_ACTIVE), .val (.int (78 : Int32)), .unset]) rfl k) ?_
      show Go _ _ _ _ _ _ _  T24 (mkF m 30 #[.val (.int p1), .val (.int p2), .val (.int (2 : Int32)), .val (.int (0 : Int32)), .val (.ref w_VOID), .val (.ref w_ACTIVE), .val (.int (78 : Int32)), .unset] [])
      refine Go.st (fun t k => XS.iload X24.here hx rfl (hb hby at_30) rfl  k) ?_
      show Go _ _ _ _ _ _ _  T24 (mkF m 32 #[.val (.int p1), .val (.int p2), .val (.int (2 : Int32)), .val (.int (0 : Int32)), .val (.ref w_VOID), .val (.ref w_ACTIVE), .val (.int (78 : Int32)), .unset] [(.int (78 : Int32))])
      refine Go.st (fun t k => XS.iloadN X24.here hx rfl (hb hby at_32) rfl  k) ?_
      show Go _ _ _ _ _ _ _  T24 (mkF m 33 #[.val (.int p1), .val (.int p2), .val (.int (2 : Int32)), .val (.int (0 : Int32)), .val (.ref w_VOID), .val (.ref w_ACTIVE), .val (.int (78 : Int32)), .unset] [(.int (2 : Int32)), (.int (78 : Int32))])
      refine Go.st (fun t k => XS.iconst X24.here hx rfl (hb hby at_33) k) ?_
      show Go _ _ _ _ _ _ _  T24 (mkF m 34 #[.val (.int p1), .val (.int p2), .val (.int (2 : Int32)), .val (.int (0 : Int32)), .val (.ref w_VOID), .val (.ref w_ACTIVE), .val (.int (78 : Int32)), .unset] [(.int (3 : Int32)), (.int (2 : Int32)), (.int (78 : Int32))])
      refine Go.st (fun t k => XS.imul X24.here hx rfl (hb hby at_34) rfl k) ?_
      show Go _ _ _ _ _ _ _  T24 (mkF m 35 #[.val (.int p1), .val (.int p2), .val (.int (2 : Int32)), .val (.int (0 : Int32)), .val (.ref w_VOID), .val (.ref w_ACTIVE), .val (.int (78 : Int32)), .unset] [(.int ((2 : Int32) * (3 : Int32))), (.int (78 : Int32))])
      refine Go.st (fun t k => XS.iloadN X24.here hx rfl (hb hby at_35) rfl  k) ?_
      show Go _ _ _ _ _ _ _  T24 (mkF m 36 #[.val (.int p1), .val (.int p2), .val (.int (2 : Int32)), .val (.int (0 : Int32)), .val (.ref w_VOID), .val (.ref w_ACTIVE), .val (.int (78 : Int32)), .unset] [(.int (0 : Int32)), (.int ((2 : Int32) * (3 : Int32))), (.int (78 : Int32))])
      refine Go.st (fun t k => XS.iadd X24.here hx rfl (hb hby at_36) rfl k) ?_
      show Go _ _ _ _ _ _ _  T24 (mkF m 37 #[.val (.int p1), .val (.int p2), .val (.int (2 : Int32)), .val (.int (0 : Int32)), .val (.ref w_VOID), .val (.ref w_ACTIVE), .val (.int (78 : Int32)), .unset] [(.int (((2 : Int32) * (3 : Int32)) + (0 : Int32))), (.int (78 : Int32))])
      refine Go.st (fun t k => XS.ishr X24.here hx rfl (hb hby at_37) rfl k) ?_
      show Go _ _ _ _ _ _ _  T24 (mkF m 38 #[.val (.int p1), .val (.int p2), .val (.int (2 : Int32)), .val (.int (0 : Int32)), .val (.ref w_VOID), .val (.ref w_ACTIVE), .val (.int (78 : Int32)), .unset] [(.int ((78 : Int32) >>> ((((2 : Int32) * (3 : Int32)) + (0 : Int32)) &&& 31)))])
      refine Go.st (fun t k => XS.iconst X24.here hx rfl (hb hby at_38) k) ?_
      show Go _ _ _ _ _ _ _  T24 (mkF m 39 #[.val (.int p1), .val (.int p2), .val (.int (2 : Int32)), .val (.int (0 : Int32)), .val (.ref w_VOID), .val (.ref w_ACTIVE), .val (.int (78 : Int32)), .unset] [(.int (1 : Int32)), (.int ((78 : Int32) >>> ((((2 : Int32) * (3 : Int32)) + (0 : Int32)) &&& 31)))])
      refine Go.st (fun t k => XS.iand X24.here hx rfl (hb hby at_39) rfl k) ?_
      show Go _ _ _ _ _ _ _  T24 (mkF m 40 #[.val (.int p1), .val (.int p2), .val (.int (2 : Int32)), .val (.int (0 : Int32)), .val (.ref w_VOID), .val (.ref w_ACTIVE), .val (.int (78 : Int32)), .unset] [(.int (((78 : Int32) >>> ((((2 : Int32) * (3 : Int32)) + (0 : Int32)) &&& 31)) &&& (1 : Int32)))])
      refine Go.st (fun t k => XS.ifNo X24.here hx rfl (hb hby at_40) rfl ((if0 _ _).trans (feq (by decide : ¬ ((((78 : Int32) >>> ((((2 : Int32) * (3 : Int32)) + (0 : Int32)) &&& 31)) &&& (1 : Int32)) = (0 : Int32)))).1) k) ?_
      show Go _ _ _ _ _ _ _  T24 (mkF m 43 #[.val (.int p1), .val (.int p2), .val (.int (2 : Int32)), .val (.int (0 : Int32)), .val (.ref w_VOID), .val (.ref w_ACTIVE), .val (.int (78 : Int32)), .unset] [])
      refine Go.st (fun t k => XS.iconst X24.here hx rfl (hb hby at_43) k) ?_
      show Go _ _ _ _ _ _ _  T24 (mkF m 44 #[.val (.int p1), .val (.int p2), .val (.int (2 : Int32)), .val (.int (0 : Int32)), .val (.ref w_VOID), .val (.ref w_ACTIVE), .val (.int (78 : Int32)), .unset] [(.int (1 : Int32))])
      refine Go.st (fun t k => XS.goto X24.here hx rfl (pc0 := 44) (pc' := 48) rfl (hb hby at_44) (by decide) (by decide) k) ?_
      show Go _ _ _ _ _ _ _  T24 (mkF m 48 #[.val (.int p1), .val (.int p2), .val (.int (2 : Int32)), .val (.int (0 : Int32)), .val (.ref w_VOID), .val (.ref w_ACTIVE), .val (.int (78 : Int32)), .unset] [(.int (1 : Int32))])
      refine Go.st (fun t k => XS.istore X24.here hx rfl (hb hby at_48) rfl (l' := #[.val (.int p1), .val (.int p2), .val (.int (2 : Int32)), .val (.int (0 : Int32)), .val (.ref w_VOID), .val (.ref w_ACTIVE), .val (.int (78 : Int32)), .val (.int (1 : Int32))]) rfl k) ?_
      show Go _ _ _ _ _ _ _  T24 (mkF m 50 #[.val (.int p1), .val (.int p2), .val (.int (2 : Int32)), .val (.int (0 : Int32)), .val (.ref w_VOID), .val (.ref w_ACTIVE), .val (.int (78 : Int32)), .val (.int (1 : Int32))] [])
      refine Go.st (fun t k => XS.aload X24.here hx rfl (hb hby at_50) rfl rfl  k) ?_
      show Go _ _ _ _ _ _ _  T24 (mkF m 52 #[.val (.int p1), .val (.int p2), .val (.int (2 : Int32)), .val (.int (0 : Int32)), .val (.ref w_VOID), .val (.ref w_ACTIVE), .val (.int (78 : Int32)), .val (.int (1 : Int32))] [(.ref w_VOID)])
      refine Go.st (fun t k => XS.aload X24.here hx rfl (hb hby at_52) rfl rfl  k) ?_
      show Go _ _ _ _ _ _ _  T24 (mkF m 54 #[.val (.int p1), .val (.int p2), .val (.int (2 : Int32)), .val (.int (0 : Int32)), .val (.ref w_VOID), .val (.ref w_ACTIVE), .val (.int (78 : Int32)), .val (.int (1 : Int32))] [(.ref w_ACTIVE), (.ref w_VOID)])
      obtain ⟨cq25, kq25, q25a, q25b, q25c⟩ := isOf hZ e24q (E_VOID.ext O.2)
      obtain ⟨_, _, ⟨T25, L25, k25, n25⟩, -, X25, ⟨Lc25, hQ25, l25, y25, z25⟩, st25⟩ := X24.virtualBack hx (y := (⟨"com/example/wellness_on_record/wellnessonrecord/store/DocumentStatus", "canBecome", "(Lcom/example/wellness_on_record/wellnessonrecord/store/DocumentStatus;)Z"⟩ : MethodName)) (z := (⟨"com/example/wellness_on_record/wellnessonrecord/store/DocumentStatus", "canBecome", "(Lcom/example/wellness_on_record/wellnessonrecord/store/DocumentStatus;)Z"⟩ : MethodName)) hown (mvT hZ (hw _ (List.mem_of_getElem? (i := 8) rfl))) (mvT hZ (hw _ (List.mem_of_getElem? (i := 9) rfl))) (notFace_of_selects (args := #[]) (mvT hZ (hw _ (List.mem_of_getElem? (i := 11) rfl)))) (mvT hZ (hw _ (List.mem_of_getElem? (i := 11) rfl))) (mvT hZ (hw _ (List.mem_of_getElem? (i := 10) rfl))) (by decide) (backOf (W := 0) (rmC l Z a0 hw [] w_VOID w_ACTIVE w_ACTIVE h0 n0 O S_ACTIVE) hZ (hw _ (List.mem_of_getElem? (i := 12) rfl)) (hw _ (List.mem_of_getElem? (i := 6) rfl)) (by decide) (by decide)) q25a q25c (g := (mkF m 54 #[.val (.int p1), .val (.int p2), .val (.int (2 : Int32)), .val (.int (0 : Int32)), .val (.ref w_VOID), .val (.ref w_ACTIVE), .val (.int (78 : Int32)), .val (.int (1 : Int32))] [(.ref w_ACTIVE), (.ref w_VOID)])) rfl (by rw [hml]; rfl) (Steps.refl _) (argsL := [(.ref w_ACTIVE)]) (rest := []) (lenOf pd__Lcom_example_wellness_on_record_wellnessonrecord_store_DocumentStatus__Z rfl) rfl (by show 2 * 0 + _ ≤ _; exact Nat.le_of_eq rfl) (hb hby at_54) (fun _ _ => ⟨rfl, e24q, (by decide : 0 + 0 ≤ _), (by decide : 0 + 0 ≤ _)⟩)
      dsimp only [Pt.U, Pt.locs, Pt.cells, Pt.slots] at X25 l25 y25 z25 st25 hQ25
      subst l25 y25 z25
      obtain ⟨rfl, N25q, e25q⟩ := hQ25
      have N25 := Fr.app N24 N25q
      refine Go.tr st25 ?_
      rw [show canF w_VOID w_ACTIVE w_ACTIVE = (1 : Int32) from by simp [canF, n_ACTIVE_ARCHIVED, n_ACTIVE_VOID, n_ARCHIVED_ACTIVE, n_ARCHIVED_VOID, n_VOID_ACTIVE, n_VOID_ARCHIVED]]
      show Go _ _ _ _ _ _ _  T25 (mkF m 57 #[.val (.int p1), .val (.int p2), .val (.int (2 : Int32)), .val (.int (0 : Int32)), .val (.ref w_VOID), .val (.ref w_ACTIVE), .val (.int (78 : Int32)), .val (.int (1 : Int32))] [(.int (1 : Int32))])
      refine Go.st (fun t k => XS.iload X25.here hx rfl (hb hby at_57) rfl  k) ?_
      show Go _ _ _ _ _ _ _  T25 (mkF m 59 #[.val (.int p1), .val (.int p2), .val (.int (2 : Int32)), .val (.int (0 : Int32)), .val (.ref w_VOID), .val (.ref w_ACTIVE), .val (.int (78 : Int32)), .val (.int (1 : Int32))] [(.int (1 : Int32)), (.int (1 : Int32))])
      refine Go.st (fun t k => XS.icmpNo X25.here hx rfl (hb hby at_59) rfl (teq (rfl : (1 : Int32) = (1 : Int32))).2 k) ?_
      show Go _ _ _ _ _ _ _  T25 (mkF m 62 #[.val (.int p1), .val (.int p2), .val (.int (2 : Int32)), .val (.int (0 : Int32)), .val (.ref w_VOID), .val (.ref w_ACTIVE), .val (.int (78 : Int32)), .val (.int (1 : Int32))] [])
      refine Go.st (fun t k => XS.iconst X25.here hx rfl (hb hby at_62) k) ?_
      show Go _ _ _ _ _ _ _  T25 (mkF m 63 #[.val (.int p1), .val (.int p2), .val (.int (2 : Int32)), .val (.int (0 : Int32)), .val (.ref w_VOID), .val (.ref w_ACTIVE), .val (.int (78 : Int32)), .val (.int (1 : Int32))] [(.int (1 : Int32))])
      refine Go.st (fun t k => XS.goto X25.here hx rfl (pc0 := 63) (pc' := 67) rfl (hb hby at_63) (by decide) (by decide) k) ?_
      show Go _ _ _ _ _ _ _  T25 (mkF m 67 #[.val (.int p1), .val (.int p2), .val (.int (2 : Int32)), .val (.int (0 : Int32)), .val (.ref w_VOID), .val (.ref w_ACTIVE), .val (.int (78 : Int32)), .val (.int (1 : Int32))] [(.int (1 : Int32))])
      refine Go.retN X25 hlk hx (t := .boolean) (z' := (1 : Int32)) Bd.returns (by simp) (hb hby at_67) (by decide) (by decide) rfl ?_
      show Q_rm0 Z p1 p2 w_ACTIVE w_ARCHIVED w_VOID h0 n0 _ T25.heap _
      rw [e25q]
      exact ⟨rfl, N25⟩
    · rw [sp22]
      show Go _ _ _ _ _ _ _  s₁ (mkF m 14 #[.val (.int p1), .val (.int p2), .val (.int (2 : Int32)), .val (.int (1 : Int32)), .unset, .unset, .unset, .unset] [])
      refine Go.st (fun t k => XS.iloadN X0.here hx rfl (hb hby at_14) rfl  k) ?_
      show Go _ _ _ _ _ _ _  s₁ (mkF m 15 #[.val (.int p1), .val (.int p2), .val (.int (2 : Int32)), .val (.int (1 : Int32)), .unset, .unset, .unset, .unset] [(.int (2 : Int32))])
      obtain ⟨_, _, ⟨T26, L26, k26, n26⟩, -, X26, ⟨Lc26, hQ26, l26, y26, z26⟩, st26⟩ := Jvm.LawKit.callS X0 hx (y := (⟨"com/example/wellness_on_record/wellnessonrecord/store/DocumentStatusCanBecomePinLaw", "pick", "(I)Lcom/example/wellness_on_record/wellnessonrecord/store/DocumentStatus;"⟩ : MethodName)) hown (mvT hZ (hw _ (List.mem_of_getElem? (i := 1) rfl))) (mvT hZ (hw _ (List.mem_of_getElem? (i := 2) rfl))) (mvT hZ (hw _ (List.mem_of_getElem? (i := 3) rfl))) (mvT hZ (hw _ (List.mem_of_getElem? (i := 4) rfl))) (by decide) (backOf (W := 0) (rmP l Z a0 hw [] (2 : Int32) w_ACTIVE w_ARCHIVED w_VOID h0 n0 O S_ACTIVE S_ARCHIVED S_VOID) hZ (hw _ (List.mem_of_getElem? (i := 4) rfl)) (hw _ (List.mem_of_getElem? (i := 3) rfl)) (by decide) (by decide)) (g := (mkF m 15 #[.val (.int p1), .val (.int p2), .val (.int (2 : Int32)), .val (.int (1 : Int32)), .unset, .unset, .unset, .unset] [(.int (2 : Int32))])) rfl (by rw [hml]; rfl) (argsL := [(.int (2 : Int32))]) (rest := []) (lenOf pd__I_Lcom_example_wellness_on_record_wellnessonrecord_store_DocumentStatus_ rfl) rfl (by show 2 * 0 + _ ≤ _; exact Nat.le_of_eq rfl) (hb hby at_15) (fun _ _ => ⟨rfl, e0, (by decide : 0 + 0 ≤ _), (by decide : 0 + 0 ≤ _)⟩)
      dsimp only [Pt.U, Pt.locs, Pt.cells, Pt.slots] at X26 l26 y26 z26 st26 hQ26
      subst l26 y26 z26
      obtain ⟨rfl, N26q, e26q⟩ := hQ26
      have N26 := Fr.app N0 N26q
      refine Go.st st26 ?_
      rw [show pickF (2 : Int32) w_ACTIVE w_ARCHIVED w_VOID = w_VOID from by simp [pickF]]
      show Go _ _ _ _ _ _ _  T26 (mkF m 18 #[.val (.int p1), .val (.int p2), .val (.int (2 : Int32)), .val (.int (1 : Int32)), .unset, .unset, .unset, .unset] [(.ref w_VOID)])
      refine Go.st (fun t k => XS.astore X26.here hx rfl (hb hby at_18) rfl rfl (l' := #[.val (.int p1), .val (.int p2), .val (.int (2 : Int32)), .val (.int (1 : Int32)), .val (.ref w_VOID), .unset, .unset, .unset]) rfl k) ?_
      show Go _ _ _ _ _ _ _  T26 (mkF m 20 #[.val (.int p1), .val (.int p2), .val (.int (2 : Int32)), .val (.int (1 : Int32)), .val (.ref w_VOID), .unset, .unset, .unset] [])
      refine Go.st (fun t k => XS.iloadN X26.here hx rfl (hb hby at_20) rfl  k) ?_
      show Go _ _ _ _ _ _ _  T26 (mkF m 21 #[.val (.int p1), .val (.int p2), .val (.int (2 : Int32)), .val (.int (1 : Int32)), .val (.ref w_VOID), .unset, .unset, .unset] [(.int (1 : Int32))])
      obtain ⟨_, _, ⟨T27, L27, k27, n27⟩, -, X27, ⟨Lc27, hQ27, l27, y27, z27⟩, st27⟩ := Jvm.LawKit.callS X26 hx (y := (⟨"com/example/wellness_on_record/wellnessonrecord/store/DocumentStatusCanBecomePinLaw", "pick", "(I)Lcom/example/wellness_on_record/wellnessonrecord/store/DocumentStatus;"⟩ : MethodName)) hown (mvT hZ (hw _ (List.mem_of_getElem? (i := 1) rfl))) (mvT hZ (hw _ (List.mem_of_getElem? (i := 2) rfl))) (mvT hZ (hw _ (List.mem_of_getElem? (i := 3) rfl))) (mvT hZ (hw _ (List.mem_of_getElem? (i := 4) rfl))) (by decide) (backOf (W := 0) (rmP l Z a0 hw [] (1 : Int32) w_ACTIVE w_ARCHIVED w_VOID h0 n0 O S_ACTIVE S_ARCHIVED S_VOID) hZ (hw _ (List.mem_of_getElem? (i := 4) rfl)) (hw _ (List.mem_of_getElem? (i := 3) rfl)) (by decide) (by decide)) (g := (mkF m 21 #[.val (.int p1), .val (.int p2), .val (.int (2 : Int32)), .val (.int (1 : Int32)), .val (.ref w_VOID), .unset, .unset, .unset] [(.int (1 : Int32))])) rfl (by rw [hml]; rfl) (argsL := [(.int (1 : Int32))]) (rest := []) (lenOf pd__I_Lcom_example_wellness_on_record_wellnessonrecord_store_DocumentStatus_ rfl) rfl (by show 2 * 0 + _ ≤ _; exact Nat.le_of_eq rfl) (hb hby at_21) (fun _ _ => ⟨rfl, e26q, (by decide : 0 + 0 ≤ _), (by decide : 0 + 0 ≤ _)⟩)
      dsimp only [Pt.U, Pt.locs, Pt.cells, Pt.slots] at X27 l27 y27 z27 st27 hQ27
      subst l27 y27 z27
      obtain ⟨rfl, N27q, e27q⟩ := hQ27
      have N27 := Fr.app N26 N27q
      refine Go.st st27 ?_
      rw [show pickF (1 : Int32) w_ACTIVE w_ARCHIVED w_VOID = w_ARCHIVED from by simp [pickF]]
      show Go _ _ _ _ _ _ _  T27 (mkF m 24 #[.val (.int p1), .val (.int p2), .val (.int (2 : Int32)), .val (.int (1 : Int32)), .val (.ref w_VOID), .unset, .unset, .unset] [(.ref w_ARCHIVED)])
      refine Go.st (fun t k => XS.astore X27.here hx rfl (hb hby at_24) rfl rfl (l' := #[.val (.int p1), .val (.int p2), .val (.int (2 : Int32)), .val (.int (1 : Int32)), .val (.ref w_VOID), .val (.ref w_ARCHIVED), .unset, .unset]) rfl k) ?_
      show Go _ _ _ _ _ _ _  T27 (mkF m 26 #[.val (.int p1), .val (.int p2), .val (.int (2 : Int32)), .val (.int (1 : Int32)), .val (.ref w_VOID), .val (.ref w_ARCHIVED), .unset, .unset] [])
      refine Go.st (fun t k => XS.bipush X27.here hx rfl (hb hby at_26) k) ?_
      show Go _ _ _ _ _ _ _  T27 (mkF m 28 #[.val (.int p1), .val (.int p2), .val (.int (2 : Int32)), .val (.int (1 : Int32)), .val (.ref w_VOID), .val (.ref w_ARCHIVED), .unset, .unset] [(.int (78 : Int32))])
      refine Go.st (fun t k => XS.istore X27.here hx rfl (hb hby at_28) rfl (l' := #[.val (.int p1), .val (.int p2), .val (.int (2 : Int32)), .val (.int (1 : Int32)), .val (.ref w_VOID), .val (.ref w_ARCHIVED), .val (.int (78 : Int32)), .unset]) rfl k) ?_
      show Go _ _ _ _ _ _ _  T27 (mkF m 30 #[.val (.int p1), .val (.int p2), .val (.int (2 : Int32)), .val (.int (1 : Int32)), .val (.ref w_VOID), .val (.ref w_ARCHIVED), .val (.int (78 : Int32)), .unset] [])
      refine Go.st (fun t k => XS.iload X27.here hx rfl (hb hby at_30) rfl  k) ?_
      show Go _ _ _ _ _ _ _  T27 (mkF m 32 #[.val (.int p1), .val (.int p2), .val (.int (2 : Int32)), .val (.int (1 : Int32)), .val (.ref w_VOID), .val (.ref w_ARCHIVED), .val (.int (78 : Int32)), .unset] [(.int (78 : Int32))])
      refine Go.st (fun t k => XS.iloadN X27.here hx rfl (hb hby at_32) rfl  k) ?_
      show Go _ _ _ _ _ _ _  T27 (mkF m 33 #[.val (.int p1), .val (.int p2), .val (.int (2 : Int32)), .val (.int (1 : Int32)), .val (.ref w_VOID), .val (.ref w_ARCHIVED), .val (.int (78 : Int32)), .unset] [(.int (2 : Int32)), (.int (78 : Int32))])
      refine Go.st (fun t k => XS.iconst X27.here hx rfl (hb hby at_33) k) ?_
      show Go _ _ _ _ _ _ _  T27 (mkF m 34 #[.val (.int p1), .val (.int p2), .val (.int (2 : Int32)), .val (.int (1 : Int32)), .val (.ref w_VOID), .val (.ref w_ARCHIVED), .val (.int (78 : Int32)), .unset] [(.int (3 : Int32)), (.int (2 : Int32)), (.int (78 : Int32))])
      refine Go.st (fun t k => XS.imul X27.here hx rfl (hb hby at_34) rfl k) ?_
      show Go _ _ _ _ _ _ _  T27 (mkF m 35 #[.val (.int p1), .val (.int p2), .val (.int (2 : Int32)), .val (.int (1 : Int32)), .val (.ref w_VOID), .val (.ref w_ARCHIVED), .val (.int (78 : Int32)), .unset] [(.int ((2 : Int32) * (3 : Int32))), (.int (78 : Int32))])
      refine Go.st (fun t k => XS.iloadN X27.here hx rfl (hb hby at_35) rfl  k) ?_
      show Go _ _ _ _ _ _ _  T27 (mkF m 36 #[.val (.int p1), .val (.int p2), .val (.int (2 : Int32)), .val (.int (1 : Int32)), .val (.ref w_VOID), .val (.ref w_ARCHIVED), .val (.int (78 : Int32)), .unset] [(.int (1 : Int32)), (.int ((2 : Int32) * (3 : Int32))), (.int (78 : Int32))])
      refine Go.st (fun t k => XS.iadd X27.here hx rfl (hb hby at_36) rfl k) ?_
      show Go _ _ _ _ _ _ _  T27 (mkF m 37 #[.val (.int p1), .val (.int p2), .val (.int (2 : Int32)), .val (.int (1 : Int32)), .val (.ref w_VOID), .val (.ref w_ARCHIVED), .val (.int (78 : Int32)), .unset] [(.int (((2 : Int32) * (3 : Int32)) + (1 : Int32))), (.int (78 : Int32))])
      refine Go.st (fun t k => XS.ishr X27.here hx rfl (hb hby at_37) rfl k) ?_
      show Go _ _ _ _ _ _ _  T27 (mkF m 38 #[.val (.int p1), .val (.int p2), .val (.int (2 : Int32)), .val (.int (1 : Int32)), .val (.ref w_VOID), .val (.ref w_ARCHIVED), .val (.int (78 : Int32)), .unset] [(.int ((78 : Int32) >>> ((((2 : Int32) * (3 : Int32)) + (1 : Int32)) &&& 31)))])
      refine Go.st (fun t k => XS.iconst X27.here hx rfl (hb hby at_38) k) ?_
      show Go _ _ _ _ _ _ _  T27 (mkF m 39 #[.val (.int p1), .val (.int p2), .val (.int (2 : Int32)), .val (.int (1 : Int32)), .val (.ref w_VOID), .val (.ref w_ARCHIVED), .val (.int (78 : Int32)), .unset] [(.int (1 : Int32)), (.int ((78 : Int32) >>> ((((2 : Int32) * (3 : Int32)) + (1 : Int32)) &&& 31)))])
      refine Go.st (fun t k => XS.iand X27.here hx rfl (hb hby at_39) rfl k) ?_
      show Go _ _ _ _ _ _ _  T27 (mkF m 40 #[.val (.int p1), .val (.int p2), .val (.int (2 : Int32)), .val (.int (1 : Int32)), .val (.ref w_VOID), .val (.ref w_ARCHIVED), .val (.int (78 : Int32)), .unset] [(.int (((78 : Int32) >>> ((((2 : Int32) * (3 : Int32)) + (1 : Int32)) &&& 31)) &&& (1 : Int32)))])
      refine Go.st (fun t k => XS.ifYes X27.here hx rfl (pc0 := 40) (pc' := 47) rfl (hb hby at_40) rfl ((if0 _ _).trans (teq (by decide : (((78 : Int32) >>> ((((2 : Int32) * (3 : Int32)) + (1 : Int32)) &&& 31)) &&& (1 : Int32)) = (0 : Int32))).1) (by decide) (by decide) k) ?_
      show Go _ _ _ _ _ _ _  T27 (mkF m 47 #[.val (.int p1), .val (.int p2), .val (.int (2 : Int32)), .val (.int (1 : Int32)), .val (.ref w_VOID), .val (.ref w_ARCHIVED), .val (.int (78 : Int32)), .unset] [])
      refine Go.st (fun t k => XS.iconst X27.here hx rfl (hb hby at_47) k) ?_
      show Go _ _ _ _ _ _ _  T27 (mkF m 48 #[.val (.int p1), .val (.int p2), .val (.int (2 : Int32)), .val (.int (1 : Int32)), .val (.ref w_VOID), .val (.ref w_ARCHIVED), .val (.int (78 : Int32)), .unset] [(.int (0 : Int32))])
      refine Go.st (fun t k => XS.istore X27.here hx rfl (hb hby at_48) rfl (l' := #[.val (.int p1), .val (.int p2), .val (.int (2 : Int32)), .val (.int (1 : Int32)), .val (.ref w_VOID), .val (.ref w_ARCHIVED), .val (.int (78 : Int32)), .val (.int (0 : Int32))]) rfl k) ?_
      show Go _ _ _ _ _ _ _  T27 (mkF m 50 #[.val (.int p1), .val (.int p2), .val (.int (2 : Int32)), .val (.int (1 : Int32)), .val (.ref w_VOID), .val (.ref w_ARCHIVED), .val (.int (78 : Int32)), .val (.int (0 : Int32))] [])
      refine Go.st (fun t k => XS.aload X27.here hx rfl (hb hby at_50) rfl rfl  k) ?_
      show Go _ _ _ _ _ _ _  T27 (mkF m 52 #[.val (.int p1), .val (.int p2), .val (.int (2 : Int32)), .val (.int (1 : Int32)), .val (.ref w_VOID), .val (.ref w_ARCHIVED), .val (.int (78 : Int32)), .val (.int (0 : Int32))] [(.ref w_VOID)])
      refine Go.st (fun t k => XS.aload X27.here hx rfl (hb hby at_52) rfl rfl  k) ?_
      show Go _ _ _ _ _ _ _  T27 (mkF m 54 #[.val (.int p1), .val (.int p2), .val (.int (2 : Int32)), .val (.int (1 : Int32)), .val (.ref w_VOID), .val (.ref w_ARCHIVED), .val (.int (78 : Int32)), .val (.int (0 : Int32))] [(.ref w_ARCHIVED), (.ref w_VOID)])
      obtain ⟨cq28, kq28, q28a, q28b, q28c⟩ := isOf hZ e27q (E_VOID.ext O.2)
      obtain ⟨_, _, ⟨T28, L28, k28, n28⟩, -, X28, ⟨Lc28, hQ28, l28, y28, z28⟩, st28⟩ := X27.virtualBack hx (y := (⟨"com/example/wellness_on_record/wellnessonrecord/store/DocumentStatus", "canBecome", "(Lcom/example/wellness_on_record/wellnessonrecord/store/DocumentStatus;)Z"⟩ : MethodName)) (z := (⟨"com/example/wellness_on_record/wellnessonrecord/store/DocumentStatus", "canBecome", "(Lcom/example/wellness_on_record/wellnessonrecord/store/DocumentStatus;)Z"⟩ : MethodName)) hown (mvT hZ (hw _ (List.mem_of_getElem? (i := 8) rfl))) (mvT hZ (hw _ (List.mem_of_getElem? (i := 9) rfl))) (notFace_of_selects (args := #[]) (mvT hZ (hw _ (List.mem_of_getElem? (i := 11) rfl)))) (mvT hZ (hw _ (List.mem_of_getElem? (i := 11) rfl))) (mvT hZ (hw _ (List.mem_of_getElem? (i := 10) rfl))) (by decide) (backOf (W := 0) (rmC l Z a0 hw [] w_VOID w_ARCHIVED w_ACTIVE h0 n0 O S_ACTIVE) hZ (hw _ (List.mem_of_getElem? (i := 12) rfl)) (hw _ (List.mem_of_getElem? (i := 6) rfl)) (by decide) (by decide)) q28a q28c (g := (mkF m 54 #[.val (.int p1), .val (.int p2), .val (.int (2 : Int32)), .val (.int (1 : Int32)), .val (.ref w_VOID), .val (.ref w_ARCHIVED), .val (.int (78 : Int32)), .val (.int (0 : Int32))] [(.ref w_ARCHIVED), (.ref w_VOID)])) rfl (by rw [hml]; rfl) (Steps.refl _) (argsL := [(.ref w_ARCHIVED)]) (rest := []) (lenOf pd__Lcom_example_wellness_on_record_wellnessonrecord_store_DocumentStatus__Z rfl) rfl (by show 2 * 0 + _ ≤ _; exact Nat.le_of_eq rfl) (hb hby at_54) (fun _ _ => ⟨rfl, e27q, (by decide : 0 + 0 ≤ _), (by decide : 0 + 0 ≤ _)⟩)
      dsimp only [Pt.U, Pt.locs, Pt.cells, Pt.slots] at X28 l28 y28 z28 st28 hQ28
      subst l28 y28 z28
      obtain ⟨rfl, N28q, e28q⟩ := hQ28
      have N28 := Fr.app N27 N28q
      refine Go.tr st28 ?_
      rw [show canF w_VOID w_ARCHIVED w_ACTIVE = (0 : Int32) from by simp [canF, n_ACTIVE_ARCHIVED, n_ACTIVE_VOID, n_ARCHIVED_ACTIVE, n_ARCHIVED_VOID, n_VOID_ACTIVE, n_VOID_ARCHIVED]]
      show Go _ _ _ _ _ _ _  T28 (mkF m 57 #[.val (.int p1), .val (.int p2), .val (.int (2 : Int32)), .val (.int (1 : Int32)), .val (.ref w_VOID), .val (.ref w_ARCHIVED), .val (.int (78 : Int32)), .val (.int (0 : Int32))] [(.int (0 : Int32))])
      refine Go.st (fun t k => XS.iload X28.here hx rfl (hb hby at_57) rfl  k) ?_
      show Go _ _ _ _ _ _ _  T28 (mkF m 59 #[.val (.int p1), .val (.int p2), .val (.int (2 : Int32)), .val (.int (1 : Int32)), .val (.ref w_VOID), .val (.ref w_ARCHIVED), .val (.int (78 : Int32)), .val (.int (0 : Int32))] [(.int (0 : Int32)), (.int (0 : Int32))])
      refine Go.st (fun t k => XS.icmpNo X28.here hx rfl (hb hby at_59) rfl (teq (rfl : (0 : Int32) = (0 : Int32))).2 k) ?_
      show Go _ _ _ _ _ _ _  T28 (mkF m 62 #[.val (.int p1), .val (.int p2), .val (.int (2 : Int32)), .val (.int (1 : Int32)), .val (.ref w_VOID), .val (.ref w_ARCHIVED), .val (.int (78 : Int32)), .val (.int (0 : Int32))] [])
      refine Go.st (fun t k => XS.iconst X28.here hx rfl (hb hby at_62) k) ?_
      show Go _ _ _ _ _ _ _  T28 (mkF m 63 #[.val (.int p1), .val (.int p2), .val (.int (2 : Int32)), .val (.int (1 : Int32)), .val (.ref w_VOID), .val (.ref w_ARCHIVED), .val (.int (78 : Int32)), .val (.int (0 : Int32))] [(.int (1 : Int32))])
      refine Go.st (fun t k => XS.goto X28.here hx rfl (pc0 := 63) (pc' := 67) rfl (hb hby at_63) (by decide) (by decide) k) ?_
      show Go _ _ _ _ _ _ _  T28 (mkF m 67 #[.val (.int p1), .val (.int p2), .val (.int (2 : Int32)), .val (.int (1 : Int32)), .val (.ref w_VOID), .val (.ref w_ARCHIVED), .val (.int (78 : Int32)), .val (.int (0 : Int32))] [(.int (1 : Int32))])
      refine Go.retN X28 hlk hx (t := .boolean) (z' := (1 : Int32)) Bd.returns (by simp) (hb hby at_67) (by decide) (by decide) rfl ?_
      show Q_rm0 Z p1 p2 w_ACTIVE w_ARCHIVED w_VOID h0 n0 _ T28.heap _
      rw [e28q]
      exact ⟨rfl, N28⟩
    · rw [sp22]
      show Go _ _ _ _ _ _ _  s₁ (mkF m 14 #[.val (.int p1), .val (.int p2), .val (.int (2 : Int32)), .val (.int (2 : Int32)), .unset, .unset, .unset, .unset] [])
      refine Go.st (fun t k => XS.iloadN X0.here hx rfl (hb hby at_14) rfl  k) ?_
      show Go _ _ _ _ _ _ _  s₁ (mkF m 15 #[.val (.int p1), .val (.int p2), .val (.int (2 : Int32)), .val (.int (2 : Int32)), .unset, .unset, .unset, .unset] [(.int (2 : Int32))])
      obtain ⟨_, _, ⟨T29, L29, k29, n29⟩, -, X29, ⟨Lc29, hQ29, l29, y29, z29⟩, st29⟩ := Jvm.LawKit.callS X0 hx (y := (⟨"com/example/wellness_on_record/wellnessonrecord/store/DocumentStatusCanBecomePinLaw", "pick", "(I)Lcom/example/wellness_on_record/wellnessonrecord/store/DocumentStatus;"⟩ : MethodName)) hown (mvT hZ (hw _ (List.mem_of_getElem? (i := 1) rfl))) (mvT hZ (hw _ (List.mem_of_getElem? (i := 2) rfl))) (mvT hZ (hw _ (List.mem_of_getElem? (i := 3) rfl))) (mvT hZ (hw _ (List.mem_of_getElem? (i := 4) rfl))) (by decide) (backOf (W := 0) (rmP l Z a0 hw [] (2 : Int32) w_ACTIVE w_ARCHIVED w_VOID h0 n0 O S_ACTIVE S_ARCHIVED S_VOID) hZ (hw _ (List.mem_of_getElem? (i := 4) rfl)) (hw _ (List.mem_of_getElem? (i := 3) rfl)) (by decide) (by decide)) (g := (mkF m 15 #[.val (.int p1), .val (.int p2), .val (.int (2 : Int32)), .val (.int (2 : Int32)), .unset, .unset, .unset, .unset] [(.int (2 : Int32))])) rfl (by rw [hml]; rfl) (argsL := [(.int (2 : Int32))]) (rest := []) (lenOf pd__I_Lcom_example_wellness_on_record_wellnessonrecord_store_DocumentStatus_ rfl) rfl (by show 2 * 0 + _ ≤ _; exact Nat.le_of_eq rfl) (hb hby at_15) (fun _ _ => ⟨rfl, e0, (by decide : 0 + 0 ≤ _), (by decide : 0 + 0 ≤ _)⟩)
      dsimp only [Pt.U, Pt.locs, Pt.cells, Pt.slots] at X29 l29 y29 z29 st29 hQ29
      subst l29 y29 z29
      obtain ⟨rfl, N29q, e29q⟩ := hQ29
      have N29 := Fr.app N0 N29q
      refine Go.st st29 ?_
      rw [show pickF (2 : Int32) w_ACTIVE w_ARCHIVED w_VOID = w_VOID from by simp [pickF]]
      show Go _ _ _ _ _ _ _  T29 (mkF m 18 #[.val (.int p1), .val (.int p2), .val (.int (2 : Int32)), .val (.int (2 : Int32)), .unset, .unset, .unset, .unset] [(.ref w_VOID)])
      refine Go.st (fun t k => XS.astore X29.here hx rfl (hb hby at_18) rfl rfl (l' := #[.val (.int p1), .val (.int p2), .val (.int (2 : Int32)), .val (.int (2 : Int32)), .val (.ref w_VOID), .unset, .unset, .unset]) rfl k) ?_
      show Go _ _ _ _ _ _ _  T29 (mkF m 20 #[.val (.int p1), .val (.int p2), .val (.int (2 : Int32)), .val (.int (2 : Int32)), .val (.ref w_VOID), .unset, .unset, .unset] [])
      refine Go.st (fun t k => XS.iloadN X29.here hx rfl (hb hby at_20) rfl  k) ?_
      show Go _ _ _ _ _ _ _  T29 (mkF m 21 #[.val (.int p1), .val (.int p2), .val (.int (2 : Int32)), .val (.int (2 : Int32)), .val (.ref w_VOID), .unset, .unset, .unset] [(.int (2 : Int32))])
      obtain ⟨_, _, ⟨T30, L30, k30, n30⟩, -, X30, ⟨Lc30, hQ30, l30, y30, z30⟩, st30⟩ := Jvm.LawKit.callS X29 hx (y := (⟨"com/example/wellness_on_record/wellnessonrecord/store/DocumentStatusCanBecomePinLaw", "pick", "(I)Lcom/example/wellness_on_record/wellnessonrecord/store/DocumentStatus;"⟩ : MethodName)) hown (mvT hZ (hw _ (List.mem_of_getElem? (i := 1) rfl))) (mvT hZ (hw _ (List.mem_of_getElem? (i := 2) rfl))) (mvT hZ (hw _ (List.mem_of_getElem? (i := 3) rfl))) (mvT hZ (hw _ (List.mem_of_getElem? (i := 4) rfl))) (by decide) (backOf (W := 0) (rmP l Z a0 hw [] (2 : Int32) w_ACTIVE w_ARCHIVED w_VOID h0 n0 O S_ACTIVE S_ARCHIVED S_VOID) hZ (hw _ (List.mem_of_getElem? (i := 4) rfl)) (hw _ (List.mem_of_getElem? (i := 3) rfl)) (by decide) (by decide)) (g := (mkF m 21 #[.val (.int p1), .val (.int p2), .val (.int (2 : Int32)), .val (.int (2 : Int32)), .val (.ref w_VOID), .unset, .unset, .unset] [(.int (2 : Int32))])) rfl (by rw [hml]; rfl) (argsL := [(.int (2 : Int32))]) (rest := []) (lenOf pd__I_Lcom_example_wellness_on_record_wellnessonrecord_store_DocumentStatus_ rfl) rfl (by show 2 * 0 + _ ≤ _; exact Nat.le_of_eq rfl) (hb hby at_21) (fun _ _ => ⟨rfl, e29q, (by decide : 0 + 0 ≤ _), (by decide : 0 + 0 ≤ _)⟩)
      dsimp only [Pt.U, Pt.locs, Pt.cells, Pt.slots] at X30 l30 y30 z30 st30 hQ30
      subst l30 y30 z30
      obtain ⟨rfl, N30q, e30q⟩ := hQ30
      have N30 := Fr.app N29 N30q
      refine Go.st st30 ?_
      rw [show pickF (2 : Int32) w_ACTIVE w_ARCHIVED w_VOID = w_VOID from by simp [pickF]]
      show Go _ _ _ _ _ _ _  T30 (mkF m 24 #[.val (.int p1), .val (.int p2), .val (.int (2 : Int32)), .val (.int (2 : Int32)), .val (.ref w_VOID), .unset, .unset, .unset] [(.ref w_VOID)])
      refine Go.st (fun t k => XS.astore X30.here hx rfl (hb hby at_24) rfl rfl (l' := #[.val (.int p1), .val (.int p2), .val (.int (2 : Int32)), .val (.int (2 : Int32)), .val (.ref w_VOID), .val (.ref w_VOID), .unset, .unset]) rfl k) ?_
      show Go _ _ _ _ _ _ _  T30 (mkF m 26 #[.val (.int p1), .val (.int p2), .val (.int (2 : Int32)), .val (.int (2 : Int32)), .val (.ref w_VOID), .val (.ref w_VOID), .unset, .unset] [])
      refine Go.st (fun t k => XS.bipush X30.here hx rfl (hb hby at_26) k) ?_
      show Go _ _ _ _ _ _ _  T30 (mkF m 28 #[.val (.int p1), .val (.int p2), .val (.int (2 : Int32)), .val (.int (2 : Int32)), .val (.ref w_VOID), .val (.ref w_VOID), .unset, .unset] [(.int (78 : Int32))])
      refine Go.st (fun t k => XS.istore X30.here hx rfl (hb hby at_28) rfl (l' := #[.val (.int p1), .val (.int p2), .val (.int (2 : Int32)), .val (.int (2 : Int32)), .val (.ref w_VOID), .val (.ref w_VOID), .val (.int (78 : Int32)), .unset]) rfl k) ?_
      show Go _ _ _ _ _ _ _  T30 (mkF m 30 #[.val (.int p1), .val (.int p2), .val (.int (2 : Int32)), .val (.int (2 : Int32)), .val (.ref w_VOID), .val (.ref w_VOID), .val (.int (78 : Int32)), .unset] [])
      refine Go.st (fun t k => XS.iload X30.here hx rfl (hb hby at_30) rfl  k) ?_
      show Go _ _ _ _ _ _ _  T30 (mkF m 32 #[.val (.int p1), .val (.int p2), .val (.int (2 : Int32)), .val (.int (2 : Int32)), .val (.ref w_VOID), .val (.ref w_VOID), .val (.int (78 : Int32)), .unset] [(.int (78 : Int32))])
      refine Go.st (fun t k => XS.iloadN X30.here hx rfl (hb hby at_32) rfl  k) ?_
      show Go _ _ _ _ _ _ _  T30 (mkF m 33 #[.val (.int p1), .val (.int p2), .val (.int (2 : Int32)), .val (.int (2 : Int32)), .val (.ref w_VOID), .val (.ref w_VOID), .val (.int (78 : Int32)), .unset] [(.int (2 : Int32)), (.int (78 : Int32))])
      refine Go.st (fun t k => XS.iconst X30.here hx rfl (hb hby at_33) k) ?_
      show Go _ _ _ _ _ _ _  T30 (mkF m 34 #[.val (.int p1), .val (.int p2), .val (.int (2 : Int32)), .val (.int (2 : Int32)), .val (.ref w_VOID), .val (.ref w_VOID), .val (.int (78 : Int32)), .unset] [(.int (3 : Int32)), (.int (2 : Int32)), (.int (78 : Int32))])
      refine Go.st (fun t k => XS.imul X30.here hx rfl (hb hby at_34) rfl k) ?_
      show Go _ _ _ _ _ _ _  T30 (mkF m 35 #[.val (.int p1), .val (.int p2), .val (.int (2 : Int32)), .val (.int (2 : Int32)), .val (.ref w_VOID), .val (.ref w_VOID), .val (.int (78 : Int32)), .unset] [(.int ((2 : Int32) * (3 : Int32))), (.int (78 : Int32))])
      refine Go.st (fun t k => XS.iloadN X30.here hx rfl (hb hby at_35) rfl  k) ?_
      show Go _ _ _ _ _ _ _  T30 (mkF m 36 #[.val (.int p1), .val (.int p2), .val (.int (2 : Int32)), .val (.int (2 : Int32)), .val (.ref w_VOID), .val (.ref w_VOID), .val (.int (78 : Int32)), .unset] [(.int (2 : Int32)), (.int ((2 : Int32) * (3 : Int32))), (.int (78 : Int32))])
      refine Go.st (fun t k => XS.iadd X30.here hx rfl (hb hby at_36) rfl k) ?_
      show Go _ _ _ _ _ _ _  T30 (mkF m 37 #[.val (.int p1), .val (.int p2), .val (.int (2 : Int32)), .val (.int (2 : Int32)), .val (.ref w_VOID), .val (.ref w_VOID), .val (.int (78 : Int32)), .unset] [(.int (((2 : Int32) * (3 : Int32)) + (2 : Int32))), (.int (78 : Int32))])
      refine Go.st (fun t k => XS.ishr X30.here hx rfl (hb hby at_37) rfl k) ?_
      show Go _ _ _ _ _ _ _  T30 (mkF m 38 #[.val (.int p1), .val (.int p2), .val (.int (2 : Int32)), .val (.int (2 : Int32)), .val (.ref w_VOID), .val (.ref w_VOID), .val (.int (78 : Int32)), .unset] [(.int ((78 : Int32) >>> ((((2 : Int32) * (3 : Int32)) + (2 : Int32)) &&& 31)))])
      refine Go.st (fun t k => XS.iconst X30.here hx rfl (hb hby at_38) k) ?_
      show Go _ _ _ _ _ _ _  T30 (mkF m 39 #[.val (.int p1), .val (.int p2), .val (.int (2 : Int32)), .val (.int (2 : Int32)), .val (.ref w_VOID), .val (.ref w_VOID), .val (.int (78 : Int32)), .unset] [(.int (1 : Int32)), (.int ((78 : Int32) >>> ((((2 : Int32) * (3 : Int32)) + (2 : Int32)) &&& 31)))])
      refine Go.st (fun t k => XS.iand X30.here hx rfl (hb hby at_39) rfl k) ?_
      show Go _ _ _ _ _ _ _  T30 (mkF m 40 #[.val (.int p1), .val (.int p2), .val (.int (2 : Int32)), .val (.int (2 : Int32)), .val (.ref w_VOID), .val (.ref w_VOID), .val (.int (78 : Int32)), .unset] [(.int (((78 : Int32) >>> ((((2 : Int32) * (3 : Int32)) + (2 : Int32)) &&& 31)) &&& (1 : Int32)))])
      refine Go.st (fun t k => XS.ifYes X30.here hx rfl (pc0 := 40) (pc' := 47) rfl (hb hby at_40) rfl ((if0 _ _).trans (teq (by decide : (((78 : Int32) >>> ((((2 : Int32) * (3 : Int32)) + (2 : Int32)) &&& 31)) &&& (1 : Int32)) = (0 : Int32))).1) (by decide) (by decide) k) ?_
      show Go _ _ _ _ _ _ _  T30 (mkF m 47 #[.val (.int p1), .val (.int p2), .val (.int (2 : Int32)), .val (.int (2 : Int32)), .val (.ref w_VOID), .val (.ref w_VOID), .val (.int (78 : Int32)), .unset] [])
      refine Go.st (fun t k => XS.iconst X30.here hx rfl (hb hby at_47) k) ?_
      show Go _ _ _ _ _ _ _  T30 (mkF m 48 #[.val (.int p1), .val (.int p2), .val (.int (2 : Int32)), .val (.int (2 : Int32)), .val (.ref w_VOID), .val (.ref w_VOID), .val (.int (78 : Int32)), .unset] [(.int (0 : Int32))])
      refine Go.st (fun t k => XS.istore X30.here hx rfl (hb hby at_48) rfl (l' := #[.val (.int p1), .val (.int p2), .val (.int (2 : Int32)), .val (.int (2 : Int32)), .val (.ref w_VOID), .val (.ref w_VOID), .val (.int (78 : Int32)), .val (.int (0 : Int32))]) rfl k) ?_
      show Go _ _ _ _ _ _ _  T30 (mkF m 50 #[.val (.int p1), .val (.int p2), .val (.int (2 : Int32)), .val (.int (2 : Int32)), .val (.ref w_VOID), .val (.ref w_VOID), .val (.int (78 : Int32)), .val (.int (0 : Int32))] [])
      refine Go.st (fun t k => XS.aload X30.here hx rfl (hb hby at_50) rfl rfl  k) ?_
      show Go _ _ _ _ _ _ _  T30 (mkF m 52 #[.val (.int p1), .val (.int p2), .val (.int (2 : Int32)), .val (.int (2 : Int32)), .val (.ref w_VOID), .val (.ref w_VOID), .val (.int (78 : Int32)), .val (.int (0 : Int32))] [(.ref w_VOID)])
      refine Go.st (fun t k => XS.aload X30.here hx rfl (hb hby at_52) rfl rfl  k) ?_
      show Go _ _ _ _ _ _ _  T30 (mkF m 54 #[.val (.int p1), .val (.int p2), .val (.int (2 : Int32)), .val (.int (2 : Int32)), .val (.ref w_VOID), .val (.ref w_VOID), .val (.int (78 : Int32)), .val (.int (0 : Int32))] [(.ref w_VOID), (.ref w_VOID)])
      obtain ⟨cq31, kq31, q31a, q31b, q31c⟩ := isOf hZ e30q (E_VOID.ext O.2)
      obtain ⟨_, _, ⟨T31, L31, k31, n31⟩, -, X31, ⟨Lc31, hQ31, l31, y31, z31⟩, st31⟩ := X30.virtualBack hx (y := (⟨"com/example/wellness_on_record/wellnessonrecord/store/DocumentStatus", "canBecome", "(Lcom/example/wellness_on_record/wellnessonrecord/store/DocumentStatus;)Z"⟩ : MethodName)) (z := (⟨"com/example/wellness_on_record/wellnessonrecord/store/DocumentStatus", "canBecome", "(Lcom/example/wellness_on_record/wellnessonrecord/store/DocumentStatus;)Z"⟩ : MethodName)) hown (mvT hZ (hw _ (List.mem_of_getElem? (i := 8) rfl))) (mvT hZ (hw _ (List.mem_of_getElem? (i := 9) rfl))) (notFace_of_selects (args := #[]) (mvT hZ (hw _ (List.mem_of_getElem? (i := 11) rfl)))) (mvT hZ (hw _ (List.mem_of_getElem? (i := 11) rfl))) (mvT hZ (hw _ (List.mem_of_getElem? (i := 10) rfl))) (by decide) (backOf (W := 0) (rmC l Z a0 hw [] w_VOID w_VOID w_ACTIVE h0 n0 O S_ACTIVE) hZ (hw _ (List.mem_of_getElem? (i := 12) rfl)) (hw _ (List.mem_of_getElem? (i := 6) rfl)) (by decide) (by decide)) q31a q31c (g := (mkF m 54 #[.val (.int p1), .val (.int p2), .val (.int (2 : Int32)), .val (.int (2 : Int32)), .val (.ref w_VOID), .val (.ref w_VOID), .val (.int (78 : Int32)), .val (.int (0 : Int32))] [(.ref w_VOID), (.ref w_VOID)])) rfl (by rw [hml]; rfl) (Steps.refl _) (argsL := [(.ref w_VOID)]) (rest := []) (lenOf pd__Lcom_example_wellness_on_record_wellnessonrecord_store_DocumentStatus__Z rfl) rfl (by show 2 * 0 + _ ≤ _; exact Nat.le_of_eq rfl) (hb hby at_54) (fun _ _ => ⟨rfl, e30q, (by decide : 0 + 0 ≤ _), (by decide : 0 + 0 ≤ _)⟩)
      dsimp only [Pt.U, Pt.locs, Pt.cells, Pt.slots] at X31 l31 y31 z31 st31 hQ31
      subst l31 y31 z31
      obtain ⟨rfl, N31q, e31q⟩ := hQ31
      have N31 := Fr.app N30 N31q
      refine Go.tr st31 ?_
      rw [show canF w_VOID w_VOID w_ACTIVE = (0 : Int32) from by simp [canF, n_ACTIVE_ARCHIVED, n_ACTIVE_VOID, n_ARCHIVED_ACTIVE, n_ARCHIVED_VOID, n_VOID_ACTIVE, n_VOID_ARCHIVED]]
      show Go _ _ _ _ _ _ _  T31 (mkF m 57 #[.val (.int p1), .val (.int p2), .val (.int (2 : Int32)), .val (.int (2 : Int32)), .val (.ref w_VOID), .val (.ref w_VOID), .val (.int (78 : Int32)), .val (.int (0 : Int32))] [(.int (0 : Int32))])
      refine Go.st (fun t k => XS.iload X31.here hx rfl (hb hby at_57) rfl  k) ?_
      show Go _ _ _ _ _ _ _  T31 (mkF m 59 #[.val (.int p1), .val (.int p2), .val (.int (2 : Int32)), .val (.int (2 : Int32)), .val (.ref w_VOID), .val (.ref w_VOID), .val (.int (78 : Int32)), .val (.int (0 : Int32))] [(.int (0 : Int32)), (.int (0 : Int32))])
      refine Go.st (fun t k => XS.icmpNo X31.here hx rfl (hb hby at_59) rfl (teq (rfl : (0 : Int32) = (0 : Int32))).2 k) ?_
      show Go _ _ _ _ _ _ _  T31 (mkF m 62 #[.val (.int p1), .val (.int p2), .val (.int (2 : Int32)), .val (.int (2 : Int32)), .val (.ref w_VOID), .val (.ref w_VOID), .val (.int (78 : Int32)), .val (.int (0 : Int32))] [])
      refine Go.st (fun t k => XS.iconst X31.here hx rfl (hb hby at_62) k) ?_
      show Go _ _ _ _ _ _ _  T31 (mkF m 63 #[.val (.int p1), .val (.int p2), .val (.int (2 : Int32)), .val (.int (2 : Int32)), .val (.ref w_VOID), .val (.ref w_VOID), .val (.int (78 : Int32)), .val (.int (0 : Int32))] [(.int (1 : Int32))])
      refine Go.st (fun t k => XS.goto X31.here hx rfl (pc0 := 63) (pc' := 67) rfl (hb hby at_63) (by decide) (by decide) k) ?_
      show Go _ _ _ _ _ _ _  T31 (mkF m 67 #[.val (.int p1), .val (.int p2), .val (.int (2 : Int32)), .val (.int (2 : Int32)), .val (.ref w_VOID), .val (.ref w_VOID), .val (.int (78 : Int32)), .val (.int (0 : Int32))] [(.int (1 : Int32))])
      refine Go.retN X31 hlk hx (t := .boolean) (z' := (1 : Int32)) Bd.returns (by simp) (hb hby at_67) (by decide) (by decide) rfl ?_
      show Q_rm0 Z p1 p2 w_ACTIVE w_ARCHIVED w_VOID h0 n0 _ T31.heap _
      rw [e31q]
      exact ⟨rfl, N31⟩
set_option maxRecDepth 65536 in
set_option maxHeartbeats 40000000 in
theorem comes_1 {Post : Tables → Env → Array Value → State → Outcome → State → Prop} (hpost : ∀ tb e args s v u, (limb_1_1.after args s (.returned v) u = true ∧ limb_1_2.after args s (.returned v) u = true ∧ True) → FrameEnd s (.returned v) u (Jvm.fieldLocs frame_1_writes args s ++ Jvm.arrayLocs frame_1_arrays args s ++ Jvm.staticLocs frame_1_statics s) 0 0 → Post tb e args s (.returned v) u) :
    ArmFor flags0 classFile x code maxLocals ret World_1 tables_1 room_1 Calls_1 rest_1 Pre_1 Post := by
  intro l hfl _ _ p e ha hc hk s m args below hf hA hF happ hP
  obtain ⟨hcalls, hrest, hpre⟩ := hP
  obtain ⟨-, -, -, hnamed, -, -, -, hat⟩ := (Spec.applies_iff hf).mp happ
  obtain ⟨hg, hn⟩ := and_e (Cond.before_iff.mp (show (Jvm.Cond.and given_1 narrow_1).before args s = true from hpre))
  obtain ⟨g1, g2⟩ := and_e hg
  obtain ⟨g3, g4⟩ := and_e g2
  obtain ⟨w0, w1, rfl⟩ : ∃ w0 w1 : Value, args = #[w0, w1] := by
    have hs : args.size = 2 := by simpa [Cond.value, given_1] using g1
    obtain ⟨L⟩ := args
    match L, hs with
    | [w0, w1], _ => exact ⟨w0, w1, rfl⟩
  have hw := fun d (hd : d ∈ tables_1) => atoms_spec (ws := Jvm.Cond.code x code maxLocals ret :: tables_1) hat d (List.mem_cons_of_mem _ hd)
  have hfit : Fit s := fun {y c} hc i hi => by
    obtain ⟨ha, rfl⟩ := Array.getElem?_eq_some_iff.mp hc
    have q := List.all_eq_true.mp ((Array.all_eq_true_iff_forall_mem.mp hF) _ (Array.getElem_mem ha)) i (List.mem_range.mpr hi)
    simpa [Array.getElem?_eq_getElem hi] using q
  obtain ⟨i0, ei0⟩ := is_v g3
  obtain rfl : w0 = (.int i0) := Option.some.inj ei0
  obtain ⟨i1, ei1⟩ := is_v g4
  obtain rfl : w1 = (.int i1) := Option.some.inj ei1
  obtain ⟨nr1, nr2⟩ := and_e hn
  obtain ⟨nr3, nr4⟩ := and_e nr2
  obtain ⟨nr5, nr6⟩ := and_e nr4
  obtain ⟨nr7, nr8⟩ := and_e nr6
  obtain ⟨nr9, nr10⟩ := and_e nr8
  obtain ⟨w_ACTIVE, S_ACTIVE, E_ACTIVE, O_ACTIVE⟩ := own_en nr1 nr10 (hw _ (List.mem_of_getElem? (i := 6) rfl)) (hw _ (List.mem_of_getElem? (i := 7) rfl))
  obtain ⟨w_ARCHIVED, S_ARCHIVED, E_ARCHIVED, O_ARCHIVED⟩ := own_en nr5 nr7 (hw _ (List.mem_of_getElem? (i := 6) rfl)) (hw _ (List.mem_of_getElem? (i := 16) rfl))
  obtain ⟨w_VOID, S_VOID, E_VOID, O_VOID⟩ := own_en nr3 nr9 (hw _ (List.mem_of_getElem? (i := 6) rfl)) (hw _ (List.mem_of_getElem? (i := 14) rfl))
  obtain ⟨n, o, h1, h2, h3, _, L, rfl, ⟨rfl, N⟩, hq⟩ := rm0 l s _ hw tables_1 i0 i1 w_ACTIVE w_ARCHIVED w_VOID s.heap s.heap.size (Old.start s) S_ACTIVE S_ARCHIVED S_VOID E_ACTIVE E_ARCHIVED E_VOID (O_ACTIVE.ne O_ARCHIVED (by simp)) (O_ACTIVE.ne O_VOID (by simp)) (O_ARCHIVED.ne O_ACTIVE (by simp)) (O_ARCHIVED.ne O_VOID (by simp)) (O_VOID.ne O_ACTIVE (by simp)) (O_VOID.ne O_ARCHIVED (by simp)) p e ha hc hk s m _ below hf ((Spec.applies_iff_loose hf).mp happ).1 ⟨rfl, State.Warmed39.refl s, rfl⟩ trivial
  refine ⟨n, _, h1, h2, h3, hpost _ _ _ _ _ _ ⟨Cond.after_iff.mpr rfl, Cond.after_iff.mpr (eq_i res_at (Term.int_eval (1)) rfl), trivial⟩ ⟨hq.1, hq.2.1, (hq.2.2.sift fun y hy => Or.inr (N y hy)).mono (by decide) (by decide)⟩⟩
theorem main_1_1 : Claimed_1_1 := comes_1 fun _ _ _ _ _ _ h hF => ⟨h.1, hF⟩
theorem main_1_2 : Claimed_1_2 := comes_1 fun _ _ _ _ _ _ h hF => ⟨h.2.1, hF⟩
end Jvm.Pilot.@@N@@
namespace Jvm.Pilot.@@N@@
open Jvm Jvm.ClassFile Sem Op Lib Jvm.Free Jvm.Stand Jvm.Pilot.@@N@@.Jvm.D
/-! MADE BY PROGRAM (witnessworld.py) out of the Statement's table words and the real class files: 12 classes; the members and pool entries that the words name. The judged class is class 1, her method 2. -/
namespace start1
open Jvm.ClassFile
def u (s : String) : CpInfo := .utf8 (stringToUtf16 s)
/-- a pool by its gaps: so many unusable entries, then the entry; so many at the end -/
def gap : Nat → List CpInfo → List CpInfo
  | 0, r => r
  | n + 1, r => .unusable :: gap n r
def poolList (es : List (Nat × CpInfo)) (last : Nat) : List CpInfo := es.foldr (fun e r => gap e.1 (e.2 :: r)) (gap last [])
def pool (es : List (Nat × CpInfo)) (last : Nat) : Array CpInfo := ⟨poolList es last⟩
def fileOf (pool : Array CpInfo) (this : Nat) (attrs : Array Attribute := #[]) (ms : Array MethodInfo := #[]) (fl : Nat := 33) (sup : Nat := 0) (ifs : Array Nat := #[]) (fds : Array FieldInfo := #[]) : ClassFile where
  minorVersion := 0
  majorVersion := 65
  constantPool := pool
  accessFlags := fl
  thisClass := this
  superClass := sup
  interfaces := ifs
  fields := fds
  methods := ms
  attributes := attrs
def plain (name : String) (sup : Option ClassId) : Class where
  name := name
  kind := .ordinary
  loader := none
  accessFlags := 33
  super := sup
  interfaces := #[]
  cf := none
  fields := #[]
  methods := #[]
  instanceTypes := #[]
  staticTypes := #[]
  resolved := #[]
  callSites := []
  init := .initialized
  statics := none
  mirror := none

def pool0 : Array CpInfo := pool [(5, u "<init>"), (0, u "()V"), (1, .class_ 10), (1, u "java/lang/Object")] 113

def k0m0 : Method := { name := "<init>", desc := "()V", sig := { parameters := [], returnType := none }, accessFlags := 1, code := none }
/-- java/lang/Object -/
def k0 : Class := { plain "java/lang/Object" none with
  accessFlags := 33
  interfaces := #[]
  cf := some (fileOf pool0 8 #[] #[{ accessFlags := 1, nameIndex := 5, descriptorIndex := 6, attributes := #[] }] 33 0 #[] #[])
  fields := #[]
  methods := #[k0m0]
  instanceTypes := #[]
  staticTypes := #[]
  resolved := Array.replicate 124 none
  statics := none }

def pool1 : Array CpInfo := pool [(2, .class_ 4), (1, u "java/lang/Object"), (0, u "<init>"), (0, u "()V"), (0, .fieldref 8 9), (0, .class_ 10), (0, .nameAndType 11 12), (0, u "com/example/wellness_on_record/wellnessonrecord/store/DocumentStatus"), (0, u "ACTIVE"), (0, u "Lcom/example/wellness_on_record/wellnessonrecord/store/DocumentStatus;"), (0, .fieldref 8 14), (0, .nameAndType 15 12), (0, u "ARCHIVED"), (0, .fieldref 8 17), (0, .nameAndType 18 12), (0, u "VOID"), (0, .integer 2147483647), (0, .methodref 21 22), (0, .class_ 23), (0, .nameAndType 24 25), (0, u "com/example/wellness_on_record/wellnessonrecord/store/DocumentStatusCanBecomePinLaw"), (0, u "pick"), (0, u "(I)Lcom/example/wellness_on_record/wellnessonrecord/store/DocumentStatus;"), (0, .methodref 8 27), (0, .nameAndType 28 29), (0, u "canBecome"), (0, u "(Lcom/example/wellness_on_record/wellnessonrecord/store/DocumentStatus;)Z"), (3, u "law"), (0, u "(II)Z")] 2

def k1m0 : Method := { name := "<init>", desc := "()V", sig := { parameters := [], returnType := none }, accessFlags := 1, code := none }
def k1c1 : Code := { maxStack := 2, maxLocals := 1, code := method_2_code, exceptionTable := #[], attributes := #[] }
def k1m1 : Method := { name := "pick", desc := "(I)Lcom/example/wellness_on_record/wellnessonrecord/store/DocumentStatus;", sig := { parameters := [.int], returnType := some (.object "com/example/wellness_on_record/wellnessonrecord/store/DocumentStatus") }, accessFlags := 10, code := some k1c1 }
def k1c2 : Code := { maxStack := 3, maxLocals := 8, code := code, exceptionTable := #[], attributes := #[] }
def k1m2 : Method := { name := "law", desc := "(II)Z", sig := { parameters := [.int, .int], returnType := some .boolean }, accessFlags := 9, code := some k1c2 }
/-- com/example/wellness_on_record/wellnessonrecord/store/DocumentStatusCanBecomePinLaw -/
def k1 : Class := { plain "com/example/wellness_on_record/wellnessonrecord/store/DocumentStatusCanBecomePinLaw" (some 0) with
  accessFlags := 49
  interfaces := #[]
  cf := some (fileOf pool1 21 #[] #[{ accessFlags := 1, nameIndex := 5, descriptorIndex := 6, attributes := #[] }, { accessFlags := 10, nameIndex := 24, descriptorIndex := 25, attributes := #[] }, { accessFlags := 9, nameIndex := 33, descriptorIndex := 34, attributes := #[] }] 49 2 #[] #[])
  fields := #[]
  methods := #[k1m0, k1m1, k1m2]
  instanceTypes := #[]
  staticTypes := #[]
  resolved := Array.replicate 37 none
  statics := none }

def pool2 : Array CpInfo := pool [(1, .class_ 2), (0, u "java/lang/constant/Constable"), (0, .class_ 4), (0, u "java/lang/Object")] 6

/-- java/lang/constant/Constable -/
def k2 : Class := { plain "java/lang/constant/Constable" (some 0) with
  accessFlags := 1537
  interfaces := #[]
  cf := some (fileOf pool2 1 #[] #[] 1537 3 #[] #[])
  fields := #[]
  methods := #[]
  instanceTypes := #[]
  staticTypes := #[]
  resolved := Array.replicate 11 none
  statics := none }

def pool3 : Array CpInfo := pool [(1, .class_ 2), (0, u "java/lang/Comparable"), (0, .class_ 4), (0, u "java/lang/Object")] 7

/-- java/lang/Comparable -/
def k3 : Class := { plain "java/lang/Comparable" (some 0) with
  accessFlags := 1537
  interfaces := #[]
  cf := some (fileOf pool3 1 #[] #[] 1537 3 #[] #[])
  fields := #[]
  methods := #[]
  instanceTypes := #[]
  staticTypes := #[]
  resolved := Array.replicate 12 none
  statics := none }

def pool4 : Array CpInfo := pool [(1, .class_ 2), (0, u "java/io/Serializable"), (0, .class_ 4), (0, u "java/lang/Object")] 2

/-- java/io/Serializable -/
def k4 : Class := { plain "java/io/Serializable" (some 0) with
  accessFlags := 1537
  interfaces := #[]
  cf := some (fileOf pool4 1 #[] #[] 1537 3 #[] #[])
  fields := #[]
  methods := #[]
  instanceTypes := #[]
  staticTypes := #[]
  resolved := Array.replicate 7 none
  statics := none }

def pool5 : Array CpInfo := pool [(2, .class_ 4), (1, u "java/lang/Enum"), (0, u "name"), (0, u "Ljava/lang/String;"), (2, u "ordinal"), (0, u "I"), (1, .class_ 14), (1, u "java/lang/Object"), (4, u "hash"), (86, .class_ 108), (1, u "java/lang/Enum$EnumDesc"), (2, .class_ 112), (0, u "java/lang/constant/Constable"), (0, .class_ 114), (0, u "java/lang/Comparable"), (0, .class_ 116), (0, u "java/io/Serializable")] 87

/-- java/lang/Enum -/
def k5 : Class := { plain "java/lang/Enum" (some 0) with
  accessFlags := 1057
  interfaces := #[2, 3, 4]
  cf := some (fileOf pool5 2 #[.nestMembers #[106]] #[] 1057 12 #[111, 113, 115] #[{ accessFlags := 18, nameIndex := 5, descriptorIndex := 6, attributes := #[] }, { accessFlags := 18, nameIndex := 9, descriptorIndex := 10, attributes := #[] }, { accessFlags := 2, nameIndex := 19, descriptorIndex := 10, attributes := #[] }])
  fields := #[{ name := "name", type := (.object "java/lang/String"), accessFlags := 18, slot := 0, constantValue := 0 }, { name := "ordinal", type := .int, accessFlags := 18, slot := 1, constantValue := 0 }, { name := "hash", type := .int, accessFlags := 2, slot := 2, constantValue := 0 }]
  methods := #[]
  instanceTypes := #[(.object "java/lang/String"), .int, .int]
  staticTypes := #[]
  resolved := Array.replicate 204 none
  statics := none }

def pool6 : Array CpInfo := pool [(1, .class_ 2), (0, u "com/example/wellness_on_record/wellnessonrecord/store/DocumentStatus"), (0, .fieldref 1 4), (0, .nameAndType 5 6), (0, u "ACTIVE"), (0, u "Lcom/example/wellness_on_record/wellnessonrecord/store/DocumentStatus;"), (2, u "ARCHIVED"), (2, u "VOID"), (2, u "$VALUES"), (0, u "[Lcom/example/wellness_on_record/wellnessonrecord/store/DocumentStatus;"), (6, .class_ 25), (1, u "java/lang/Enum"), (8, u "text"), (0, u "Ljava/lang/String;"), (40, u "canBecome"), (0, u "(Lcom/example/wellness_on_record/wellnessonrecord/store/DocumentStatus;)Z")] 22

def k6c0 : Code := { maxStack := 2, maxLocals := 2, code := prog_56_method_5_code, exceptionTable := #[], attributes := #[] }
def k6m0 : Method := { name := "canBecome", desc := "(Lcom/example/wellness_on_record/wellnessonrecord/store/DocumentStatus;)Z", sig := { parameters := [(.object "com/example/wellness_on_record/wellnessonrecord/store/DocumentStatus")], returnType := some .boolean }, accessFlags := 1, code := some k6c0 }
/-- com/example/wellness_on_record/wellnessonrecord/store/DocumentStatus -/
def k6 : Class := { plain "com/example/wellness_on_record/wellnessonrecord/store/DocumentStatus" (some 5) with
  accessFlags := 16433
  interfaces := #[]
  cf := some (fileOf pool6 1 #[] #[{ accessFlags := 1, nameIndex := 76, descriptorIndex := 77, attributes := #[] }] 16433 23 #[] #[{ accessFlags := 16409, nameIndex := 5, descriptorIndex := 6, attributes := #[] }, { accessFlags := 16409, nameIndex := 9, descriptorIndex := 6, attributes := #[] }, { accessFlags := 16409, nameIndex := 12, descriptorIndex := 6, attributes := #[] }, { accessFlags := 18, nameIndex := 34, descriptorIndex := 35, attributes := #[] }, { accessFlags := 4122, nameIndex := 15, descriptorIndex := 16, attributes := #[] }])
  fields := #[{ name := "ACTIVE", type := (.object "com/example/wellness_on_record/wellnessonrecord/store/DocumentStatus"), accessFlags := 16409, slot := 0, constantValue := 0 }, { name := "ARCHIVED", type := (.object "com/example/wellness_on_record/wellnessonrecord/store/DocumentStatus"), accessFlags := 16409, slot := 1, constantValue := 0 }, { name := "VOID", type := (.object "com/example/wellness_on_record/wellnessonrecord/store/DocumentStatus"), accessFlags := 16409, slot := 2, constantValue := 0 }, { name := "text", type := (.object "java/lang/String"), accessFlags := 18, slot := 3, constantValue := 0 }, { name := "$VALUES", type := (.array (.object "com/example/wellness_on_record/wellnessonrecord/store/DocumentStatus")), accessFlags := 4122, slot := 3, constantValue := 0 }]
  methods := #[k6m0]
  instanceTypes := #[(.object "java/lang/String"), .int, .int, (.object "java/lang/String")]
  staticTypes := #[(.object "com/example/wellness_on_record/wellnessonrecord/store/DocumentStatus"), (.object "com/example/wellness_on_record/wellnessonrecord/store/DocumentStatus"), (.object "com/example/wellness_on_record/wellnessonrecord/store/DocumentStatus"), (.array (.object "com/example/wellness_on_record/wellnessonrecord/store/DocumentStatus"))]
  resolved := Array.replicate 100 none
  statics := some 0 }

def pool7 : Array CpInfo := pool [(1, u "java/lang/Cloneable"), (0, .class_ 1), (0, u "java/lang/Object"), (0, .class_ 3)] 3

/-- java/lang/Cloneable -/
def k7 : Class := { plain "java/lang/Cloneable" (some 0) with
  accessFlags := 1537
  interfaces := #[]
  cf := some (fileOf pool7 2 #[] #[] 1537 4 #[] #[])
  fields := #[]
  methods := #[]
  instanceTypes := #[]
  staticTypes := #[]
  resolved := Array.replicate 8 none
  statics := none }

/-- the primitive byte -/
def k8 : Class := { plain "byte" none with kind := .primitive 'B', accessFlags := 0x411 }
/-- [B -/
def k9 : Class := { plain "[B" (some 0) with kind := .array 8 .byte, interfaces := #[7, 4], accessFlags := 1041 }

/-- the primitive int -/
def k10 : Class := { plain "int" none with kind := .primitive 'I', accessFlags := 0x411 }
/-- [I -/
def k11 : Class := { plain "[I" (some 0) with kind := .array 10 .int, interfaces := #[7, 4], accessFlags := 1041 }

def heap : Heap := #[{ cls := 6, slots := #[.ref 1, .ref 2, .ref 3, .null], vm := .statics 6 },
  { cls := 6, slots := #[.null, .int 0, .int 0, .null], vm := .none },
  { cls := 6, slots := #[.null, .int 1, .int 0, .null], vm := .none },
  { cls := 6, slots := #[.null, .int 2, .int 0, .null], vm := .none }]
def classes : Array Class := #[k0, k1, k2, k3, k4, k5, k6, k7, k8, k9, k10, k11]
def interned : List (Array UInt16 × Addr) := []
def slotsUsed : Nat := 16
def theMethod : MethodId := ⟨1, 2⟩
def args0 : Array Value := #[.int 5, .int 7]
def aboutOver (below : List Frame) : State where
  vm := { classes := classes, interned := interned.toArray }
  heap := heap
  slotsUsed := slotsUsed
  threads := #[{ frames := .invoking theMethod args0 :: below }]
def below0 : List Frame := [.native { method := ⟨0, 0⟩, args := #[] }]
def about1 : State := aboutOver below0
def p0 : Program := .bare "" "" ""
def e0 : Env := launch0.env 0 0 0
theorem w_frames : about1.frames = Frame.invoking theMethod args0 :: below0 := rfl
set_option maxRecDepth 65536 in
theorem w_args : argsFit about1.vm theMethod args0 = true := by decide +kernel
set_option maxRecDepth 65536 in
theorem w_heap : heapFits about1 = true := by decide +kernel
set_option maxRecDepth 65536 in
theorem w_runnable : about1.curStatus? = some .runnable := by decide +kernel
set_option maxRecDepth 65536 in
theorem w_alone : about1.alone = true := by decide +kernel
set_option maxRecDepth 65536 in
theorem w_named : about1.methodNamed? x = some theMethod := by decide +kernel
set_option maxRecDepth 65536 in
theorem w_hears : about1.hears theMethod below0 = true := by decide +kernel
set_option maxRecDepth 65536 in
theorem w_ripe : about1.ripe theMethod args0 below0 = true := by decide +kernel
theorem w_running : about1.status = .running := rfl
set_option maxRecDepth 65536 in
theorem w_room : about1.hasRoom e0.platform room_1 = true :=
  launch0.hasRoom_least _ room_1 (by decide +kernel) (by decide +kernel) (by decide +kernel) (by decide +kernel) (by decide +kernel) (by decide +kernel)
theorem allAtoms_all (ts : List Jvm.Cond) (a : Array Jvm.Value) (st : Jvm.State) : (allAtoms ts).before a st = ts.all (fun c => c.before a st) := by
  induction ts with
  | nil => rfl
  | cons c t ih =>
    show (Jvm.Cond.and c (allAtoms t)).before a st = _
    rw [Jvm.Cond.before_and, ih, List.all_cons]
def words1 : List Jvm.Cond := Jvm.Cond.code x code maxLocals ret :: tables_1
/-- a 'code' word, met by the world's own term for the bytes: nothing is compared byte by byte -/
theorem code_word {y : MethodName} {bytes : ByteArray} {mx : Nat} {rt : Option FieldType} {a : Array Value} {s : State} {m : MethodId} {meth : Method} {c : Code} (h1 : s.methodNamed? y = some m) (h2 : s.vm.method? m = some meth) (h3 : meth.code = some c) (h4 : c.code = bytes)
    (h5 : (c.maxLocals == mx && c.exceptionTable.isEmpty && decide (c.maxStack ≤ mostOperands) && decide (meth.sig.returnType = rt) && !meth.locks && decide (parseMethodDescriptor y.desc = some meth.sig)) = true) : (Jvm.Cond.code y bytes mx rt).before a s = true := by
  simp only [Bool.and_eq_true, beq_iff_eq, Bool.not_eq_true', decide_eq_true_eq] at h5
  obtain ⟨⟨⟨⟨⟨g1, g2⟩, g3⟩, g4⟩, g5⟩, g6⟩ := h5
  simp [Cond.before, Cond.holds, Cond.value, h1, h2, h3, h4, g1, g2, g3, g4, g5, g6]
def isCode : Jvm.Cond → Bool
  | .code _ _ _ _ => true
  | _ => false
theorem all_split {L : List Jvm.Cond} {P : Jvm.Cond → Bool} (h1 : L.all (fun c => isCode c || P c) = true) (h2 : ∀ c ∈ L.filter isCode, P c = true) : L.all P = true := by
  refine List.all_eq_true.mpr fun c hc => ?_
  have h := List.all_eq_true.mp h1 c hc
  rcases Bool.eq_false_or_eq_true (isCode c) with hi | hi
  · exact h2 c (List.mem_filter.mpr ⟨hc, hi⟩)
  · simpa [hi] using h
set_option maxRecDepth 65536 in
theorem w_c0 : (Jvm.Cond.code x code maxLocals ret).before args0 about1 = true := code_word (m := ⟨1, 2⟩) (meth := k1m2) (c := k1c2) (by decide +kernel) rfl rfl rfl (by decide +kernel)
set_option maxRecDepth 65536 in
theorem w_c1 : (Jvm.Cond.code ({ cls := "com/example/wellness_on_record/wellnessonrecord/store/DocumentStatusCanBecomePinLaw", name := "pick", desc := "(I)Lcom/example/wellness_on_record/wellnessonrecord/store/DocumentStatus;" } : Jvm.MethodName) method_2_code (1 : Nat) (Option.some (Jvm.ClassFile.FieldType.object "com/example/wellness_on_record/wellnessonrecord/store/DocumentStatus"))).before args0 about1 = true := code_word (m := ⟨1, 1⟩) (meth := k1m1) (c := k1c1) (by decide +kernel) rfl rfl rfl (by decide +kernel)
set_option maxRecDepth 65536 in
theorem w_c2 : (Jvm.Cond.code ({ cls := "com/example/wellness_on_record/wellnessonrecord/store/DocumentStatus", name := "canBecome", desc := "(Lcom/example/wellness_on_record/wellnessonrecord/store/DocumentStatus;)Z" } : Jvm.MethodName) prog_56_method_5_code (2 : Nat) (Option.some Jvm.ClassFile.FieldType.boolean)).before args0 about1 = true := code_word (m := ⟨6, 0⟩) (meth := k6m0) (c := k6c0) (by decide +kernel) rfl rfl rfl (by decide +kernel)
def codes1 : List Jvm.Cond := [Jvm.Cond.code x code maxLocals ret, Jvm.Cond.code ({ cls := "com/example/wellness_on_record/wellnessonrecord/store/DocumentStatusCanBecomePinLaw", name := "pick", desc := "(I)Lcom/example/wellness_on_record/wellnessonrecord/store/DocumentStatus;" } : Jvm.MethodName) method_2_code (1 : Nat) (Option.some (Jvm.ClassFile.FieldType.object "com/example/wellness_on_record/wellnessonrecord/store/DocumentStatus")), Jvm.Cond.code ({ cls := "com/example/wellness_on_record/wellnessonrecord/store/DocumentStatus", name := "canBecome", desc := "(Lcom/example/wellness_on_record/wellnessonrecord/store/DocumentStatus;)Z" } : Jvm.MethodName) prog_56_method_5_code (2 : Nat) (Option.some Jvm.ClassFile.FieldType.boolean)]
set_option maxRecDepth 65536 in
theorem codes_eq : words1.filter isCode = codes1 := rfl
theorem w_codes : ∀ c ∈ words1.filter isCode, c.before args0 about1 = true := by
  rw [codes_eq]
  intro c hc
  simp only [codes1, List.mem_cons, List.not_mem_nil, or_false] at hc
  rcases hc with rfl | rfl | rfl
  · exact w_c0
  · exact w_c1
  · exact w_c2
set_option maxRecDepth 65536 in
theorem w_t1 : words1.all (fun c => isCode c || c.before args0 about1) = true := by decide +kernel
theorem w_tables : (allAtoms (Jvm.Cond.code x code maxLocals ret :: tables_1)).before args0 about1 = true := by
  rw [allAtoms_all]
  show words1.all (fun c => c.before args0 about1) = true
  refine all_split ?_ w_codes
  rw [w_t1]
set_option maxRecDepth 65536 in
theorem w_case : (Jvm.Cond.and given_1 narrow_1).before args0 about1 = true := by decide +kernel
theorem w_applies : (headSpec (Jvm.Cond.code x code maxLocals ret :: tables_1) room_1).applies x e0.platform about1 = true :=
  (Spec.applies_iff w_frames).mpr ⟨w_running, w_runnable, w_alone, w_named, w_hears, w_ripe, w_room, w_tables⟩
theorem atStart : AtStart classFile x code maxLocals ret World_1 tables_1 room_1 Calls_1 rest_1 Pre_1 launch0 p0 e0 about1 theMethod args0 below0 :=
  ⟨lists_1, trivial, launch0.admits_env _ _ _, launch0.least_env, fairChoices_fair.cas, fairChoices_fair.clock, w_frames, w_args, w_heap, w_applies, trivial, trivial, w_case⟩
end start1
theorem witness_1 : WitnessClaimed_1 := ⟨start1.p0, start1.e0, start1.about1, start1.theMethod, start1.args0, start1.below0, start1.atStart⟩
end Jvm.Pilot.@@N@@
