import JvmDerived
import JvmDerived.Pilot.@@N@@Statement
import JvmDerived.Pilot.@@N@@Code
set_option linter.unusedVariables false
set_option linter.unusedSimpArgs false
@@BLOCK:NumsL.lean.txt@@
namespace Jvm.Pilot.@@N@@
open Jvm Jvm.ClassFile Sem Op Lib Jvm.Free Jvm.Stand Jvm.LawKit Jvm.RoadKit Bundle Jvm.Pilot.@@N@@.Jvm.D
/-! the walk in continuation form: from T with the frame g on top the run comes to an end that says Q -/
def Go (p : Program) (e : Env) (below : List Frame) (s : State) (C S : Nat) (Q : Option Value → Heap → List Loc → Prop) (T : State) (g : JFrame) : Prop :=
  ∃ s₂ o, Steps p.tables e below (T.setTop g) s₂ ∧ s₂.status = .running ∧ Ended s₂ below o ∧ ∃ v L, o = .returned v ∧ Q v s₂.heap L ∧ FrameEnd s o s₂ L C S
section GoKit
variable {p : Program} {l : Launch} {e : Env} {R : Room} {s : State} {m : MethodId} {args : Array Value} {below : List Frame} {meth : Method} {c : Code} {T T' : State} {g g' : JFrame} {locs : List Loc} {cells slots C S : Nat} {Q : Option Value → Heap → List Loc → Prop} {Z : State} {h h' : Heap} {n0 : Nat}
theorem Go.st (st : ∀ t, Steps p.tables e below (T'.setTop g') t → Steps p.tables e below (T.setTop g) t) (k : Go p e below s C S Q T' g') : Go p e below s C S Q T g := by
  obtain ⟨s₂, o, h1, h2⟩ := k; exact ⟨s₂, o, st _ h1, h2⟩
theorem Go.tr (st : Steps p.tables e below (T.setTop g) (T'.setTop g')) (k : Go p e below s C S Q T' g') : Go p e below s C S Q T g := by
  obtain ⟨s₂, o, h1, h2⟩ := k; exact ⟨s₂, o, st.trans h1, h2⟩
theorem Go.eq (q : g = g') (k : Go p e below s C S Q T g') : Go p e below s C S Q T g := q ▸ k
theorem Go.fin (X : Stand p l e R s m args below meth c T locs cells slots) (hlk : meth.locks = false) {v : Option Value} (hv : meth.sig.returnType = none → v = none) (hc : cells ≤ C) (hs : slots ≤ S) (q : Q v T.heap locs)
    (k : ∀ fs, (∀ (f : JFrame) (acts : List Action), f.method = m → f.locked = none → f.entered = [] → (doReturn e (T.setTop f) acts v).1 = T.setFrames fs) → Steps p.tables e below (T.setTop g) (T.setFrames fs)) : Go p e below s C S Q T g := by
  obtain ⟨fs, hr, hrun, hended, hW, hsame⟩ := X.leave (v := v) hv hlk
  exact ⟨_, _, k fs hr, hrun, hended, _, _, rfl, q, ⟨_, rfl⟩, hW, hsame.mono hc hs⟩
theorem Go.retN (X : Stand p l e R s m args below meth c T locs cells slots) (hlk : meth.locks = false) (hx : p.tables.exec = Jvm.exec) {pc : Nat} {Ls : Array Slot} {z z' : Int32} {t : FieldType} {rest : List Value} (hret : meth.sig.returnType = some t) (ht : t = .boolean ∨ t = .byte ∨ t = .char ∨ t = .short)
    (hd : decode c.code pc = .ok (.ireturn, 1)) (hc : cells ≤ C) (hs : slots ≤ S) (hz : nar t z = z') (q : Q (some (.int z')) T.heap locs) : Go p e below s C S Q T (mkF m pc Ls (.int z :: rest)) := by
  subst hz
  exact Go.fin X hlk (fun h => by rw [hret] at h; cases h) hc hs q fun fs hr => Jvm.RoadKit.retN X hx hret ht hd hr
theorem Go.retV (X : Stand p l e R s m args below meth c T locs cells slots) (hlk : meth.locks = false) (hx : p.tables.exec = Jvm.exec) {pc : Nat} {Ls : Array Slot} {w : Value} {t : FieldType} {i : Instr} {rest : List Value} (hret : meth.sig.returnType = some t) (hn : narrow t w = w)
    (hi : (i = .ireturn ∧ (t = .int ∨ t = .boolean ∨ t = .byte ∨ t = .char ∨ t = .short) ∧ ∃ z, w = .int z) ∨ (i = .lreturn ∧ t = .long ∧ ∃ z, w = .long z) ∨ (i = .dreturn ∧ t = .double ∧ ∃ z, w = .double z) ∨ (i = .freturn ∧ t = .float ∧ ∃ z, w = .float z) ∨ (i = .areturn ∧ t.isReference = true ∧ w.isRef = true))
    (hd : decode c.code pc = .ok (i, 1)) (hc : cells ≤ C) (hs : slots ≤ S) (q : Q (some w) T.heap locs) : Go p e below s C S Q T (mkF m pc Ls (w :: rest)) :=
  Go.fin X hlk (fun h => by rw [hret] at h; cases h) hc hs q fun fs hr => Jvm.RoadKit.retOut X hx hret hn hi hd hr
theorem Go.retR (X : Stand p l e R s m args below meth c T locs cells slots) (hlk : meth.locks = false) (hx : p.tables.exec = Jvm.exec) {pc : Nat} {Ls : Array Slot} {w : Value} {t : FieldType} {rest : List Value} (hret : meth.sig.returnType = some t) (ht : t.isReference = true) (hw : w.isRef = true) (hn : narrow t w = w)
    (hd : decode c.code pc = .ok (.areturn, 1)) (hc : cells ≤ C) (hs : slots ≤ S) (q : Q (some w) T.heap locs) : Go p e below s C S Q T (mkF m pc Ls (w :: rest)) :=
  Go.retV X hlk hx hret hn (Or.inr (Or.inr (Or.inr (Or.inr ⟨rfl, ht, hw⟩)))) hd hc hs q
theorem Go.retI (X : Stand p l e R s m args below meth c T locs cells slots) (hlk : meth.locks = false) (hx : p.tables.exec = Jvm.exec) {pc : Nat} {Ls : Array Slot} {z : Int32} {rest : List Value} (hret : meth.sig.returnType = some .int)
    (hd : decode c.code pc = .ok (.ireturn, 1)) (hc : cells ≤ C) (hs : slots ≤ S) (q : Q (some (.int z)) T.heap locs) : Go p e below s C S Q T (mkF m pc Ls (.int z :: rest)) :=
  Go.retV X hlk hx hret rfl (Or.inl ⟨rfl, Or.inl rfl, z, rfl⟩) hd hc hs q
theorem Go.retJ (X : Stand p l e R s m args below meth c T locs cells slots) (hlk : meth.locks = false) (hx : p.tables.exec = Jvm.exec) {pc : Nat} {Ls : Array Slot} {z : Int64} {rest : List Value} (hret : meth.sig.returnType = some .long)
    (hd : decode c.code pc = .ok (.lreturn, 1)) (hc : cells ≤ C) (hs : slots ≤ S) (q : Q (some (.long z)) T.heap locs) : Go p e below s C S Q T (mkF m pc Ls (.long z :: rest)) :=
  Go.retV X hlk hx hret rfl (Or.inr (Or.inl ⟨rfl, rfl, z, rfl⟩)) hd hc hs q
theorem Go.ret0 (X : Stand p l e R s m args below meth c T locs cells slots) (hlk : meth.locks = false) (hx : p.tables.exec = Jvm.exec) {pc : Nat} {Ls : Array Slot} (hret : meth.sig.returnType = none)
    (hd : decode c.code pc = .ok (.return_, 1)) (hc : cells ≤ C) (hs : slots ≤ S) (q : Q none T.heap locs) : Go p e below s C S Q T (mkF m pc Ls []) :=
  Go.fin X hlk (fun _ => rfl) hc hs q fun fs hr => X.returnOut hx hret hd hr
theorem own_le (O : Old Z n0 h) : n0 ≤ h.size := O.1 ▸ O.2.1
theorem own_ext {ws : List Addr} (K : Keep h h' ws) (q : ∀ x ∈ ws, h.size ≤ x) : Ext h h' := ⟨K.1, fun x c r => K.2.1 x c r fun z => absurd (Array.getElem?_eq_some_iff.mp r).1 (Nat.not_lt.mpr (q x z))⟩
theorem own_ext0 (K : Keep h h' []) : Ext h h' := own_ext K all0
theorem own_exr (h : Heap) : Ext h h := ⟨Nat.le_refl _, fun _ _ q => q⟩
theorem own_ext_t {h'' : Heap} (E : Ext h h') (E' : Ext h' h'') : Ext h h'' := ⟨Nat.le_trans E.1 E'.1, fun x c r => E'.2 x c (E.2 x c r)⟩
end GoKit
theorem pn_1 : plainName "com/example/nodewell/nodewell/store/ComparisonPassesPinLaw" = true := by first | (simp [plainName, overriddenIn]; done) | decide +kernel
theorem ef_rmP (m : MethodId) (p1 : Int32) : entryFrame m #[(.int p1)] 1 = mkF m 0 #[.val (.int p1)] [] := by first | (simp [entryFrame, mkF, argsToLocals, Value.category]; done) | rfl
theorem d1_0 : decode method_2_code 0 = .ok (.iload_n 0, 1) := by decide +kernel
theorem d1_1 : decode method_2_code 1 = .ok (.ifCond .ne 7, 3) := by decide +kernel
theorem d1_4 : decode method_2_code 4 = .ok (.getstatic 7, 3) := by decide +kernel
theorem d1_7 : decode method_2_code 7 = .ok (.areturn, 1) := by decide +kernel
theorem d1_8 : decode method_2_code 8 = .ok (.iload_n 0, 1) := by decide +kernel
theorem d1_9 : decode method_2_code 9 = .ok (.iconst 1, 1) := by decide +kernel
theorem d1_10 : decode method_2_code 10 = .ok (.if_icmp .ne 7, 3) := by decide +kernel
theorem d1_13 : decode method_2_code 13 = .ok (.getstatic 13, 3) := by decide +kernel
theorem d1_16 : decode method_2_code 16 = .ok (.areturn, 1) := by decide +kernel
theorem d1_17 : decode method_2_code 17 = .ok (.iload_n 0, 1) := by decide +kernel
theorem d1_18 : decode method_2_code 18 = .ok (.iconst 2, 1) := by decide +kernel
theorem d1_19 : decode method_2_code 19 = .ok (.if_icmp .ne 7, 3) := by decide +kernel
theorem d1_22 : decode method_2_code 22 = .ok (.getstatic 16, 3) := by decide +kernel
theorem d1_25 : decode method_2_code 25 = .ok (.areturn, 1) := by decide +kernel
theorem d1_26 : decode method_2_code 26 = .ok (.iload_n 0, 1) := by decide +kernel
theorem d1_27 : decode method_2_code 27 = .ok (.iconst 3, 1) := by decide +kernel
theorem d1_28 : decode method_2_code 28 = .ok (.if_icmp .ne 7, 3) := by decide +kernel
theorem d1_31 : decode method_2_code 31 = .ok (.getstatic 19, 3) := by decide +kernel
theorem d1_34 : decode method_2_code 34 = .ok (.areturn, 1) := by decide +kernel
theorem d1_35 : decode method_2_code 35 = .ok (.getstatic 22, 3) := by decide +kernel
theorem d1_38 : decode method_2_code 38 = .ok (.areturn, 1) := by decide +kernel
theorem pn_3 : plainName "java/lang/Enum" = true := by first | (simp [plainName, overriddenIn]; done) | decide +kernel
theorem ef_rmO (m : MethodId) (a1 : Addr) : entryFrame m #[(.ref a1)] 1 = mkF m 0 #[.val (.ref a1)] [] := by first | (simp [entryFrame, mkF, argsToLocals, Value.category]; done) | rfl
theorem d3_0 : decode jdk_37_method_2_code 0 = .ok (.aload_n 0, 1) := by decide +kernel
theorem d3_1 : decode jdk_37_method_2_code 1 = .ok (.getfield 7, 3) := by decide +kernel
theorem d3_4 : decode jdk_37_method_2_code 4 = .ok (.ireturn, 1) := by decide +kernel
theorem pn_2 : plainName "com/example/nodewell/nodewell/store/ValueTest$Comparison" = true := by first | (simp [plainName, overriddenIn]; done) | decide +kernel
theorem ef_rmS (m : MethodId) (a1 : Addr) (p2 : Int32) : entryFrame m #[(.ref a1), (.int p2)] 2 = mkF m 0 #[.val (.ref a1), .val (.int p2)] [] := by first | (simp [entryFrame, mkF, argsToLocals, Value.category]; done) | rfl
theorem d2_0 : decode prog_113_method_5_code 0 = .ok (.aload_n 0, 1) := by decide +kernel
theorem d2_1 : decode prog_113_method_5_code 1 = .ok (.invokevirtual 62, 3) := by decide +kernel
theorem pd___I : parseMethodDescriptor "()I" = some ⟨[], some .int⟩ := by decide +kernel
theorem d2_4 : decode prog_113_method_5_code 4 = .ok (.tableswitch 72 0 3 #[32, 42, 52, 62], 32) := by decide +kernel
theorem d2_36 : decode prog_113_method_5_code 36 = .ok (.iload_n 1, 1) := by decide +kernel
theorem d2_37 : decode prog_113_method_5_code 37 = .ok (.ifCond .ne 7, 3) := by decide +kernel
theorem d2_40 : decode prog_113_method_5_code 40 = .ok (.iconst 1, 1) := by decide +kernel
theorem d2_41 : decode prog_113_method_5_code 41 = .ok (.goto 4, 3) := by decide +kernel
theorem d2_45 : decode prog_113_method_5_code 45 = .ok (.ireturn, 1) := by decide +kernel
theorem d2_44 : decode prog_113_method_5_code 44 = .ok (.iconst 0, 1) := by decide +kernel
theorem d2_46 : decode prog_113_method_5_code 46 = .ok (.iload_n 1, 1) := by decide +kernel
theorem d2_47 : decode prog_113_method_5_code 47 = .ok (.ifCond .ge 7, 3) := by decide +kernel
theorem d2_50 : decode prog_113_method_5_code 50 = .ok (.iconst 1, 1) := by decide +kernel
theorem d2_51 : decode prog_113_method_5_code 51 = .ok (.goto 4, 3) := by decide +kernel
theorem d2_55 : decode prog_113_method_5_code 55 = .ok (.ireturn, 1) := by decide +kernel
theorem d2_54 : decode prog_113_method_5_code 54 = .ok (.iconst 0, 1) := by decide +kernel
theorem d2_56 : decode prog_113_method_5_code 56 = .ok (.iload_n 1, 1) := by decide +kernel
theorem d2_57 : decode prog_113_method_5_code 57 = .ok (.ifCond .gt 7, 3) := by decide +kernel
theorem d2_64 : decode prog_113_method_5_code 64 = .ok (.iconst 0, 1) := by decide +kernel
theorem d2_65 : decode prog_113_method_5_code 65 = .ok (.ireturn, 1) := by decide +kernel
theorem d2_60 : decode prog_113_method_5_code 60 = .ok (.iconst 1, 1) := by decide +kernel
theorem d2_61 : decode prog_113_method_5_code 61 = .ok (.goto 4, 3) := by decide +kernel
theorem d2_66 : decode prog_113_method_5_code 66 = .ok (.iload_n 1, 1) := by decide +kernel
theorem d2_67 : decode prog_113_method_5_code 67 = .ok (.ifCond .le 7, 3) := by decide +kernel
theorem d2_70 : decode prog_113_method_5_code 70 = .ok (.iconst 1, 1) := by decide +kernel
theorem d2_71 : decode prog_113_method_5_code 71 = .ok (.goto 4, 3) := by decide +kernel
theorem d2_75 : decode prog_113_method_5_code 75 = .ok (.ireturn, 1) := by decide +kernel
theorem d2_74 : decode prog_113_method_5_code 74 = .ok (.iconst 0, 1) := by decide +kernel
theorem d2_76 : decode prog_113_method_5_code 76 = .ok (.iload_n 1, 1) := by decide +kernel
theorem d2_77 : decode prog_113_method_5_code 77 = .ok (.ifCond .lt 7, 3) := by decide +kernel
theorem d2_84 : decode prog_113_method_5_code 84 = .ok (.iconst 0, 1) := by decide +kernel
theorem d2_85 : decode prog_113_method_5_code 85 = .ok (.ireturn, 1) := by decide +kernel
theorem d2_80 : decode prog_113_method_5_code 80 = .ok (.iconst 1, 1) := by decide +kernel
theorem d2_81 : decode prog_113_method_5_code 81 = .ok (.goto 4, 3) := by decide +kernel
theorem pn_0 : plainName "com/example/nodewell/nodewell/store/ComparisonPassesPinLaw" = true := by first | (simp [plainName, overriddenIn]; done) | decide +kernel
theorem ef_rm0 (m : MethodId) (p1 : Int32) (p2 : Int32) : entryFrame m #[(.int p1), (.int p2)] maxLocals = mkF m 0 #[.val (.int p1), .val (.int p2), .unset, .unset, .unset, .unset, .unset] [] := by first | (simp [entryFrame, mkF, argsToLocals, Value.category, maxLocals]; done) | rfl
theorem pd__I_Lcom_example_nodewell_nodewell_store_ValueTest_Comparison_ : parseMethodDescriptor "(I)Lcom/example/nodewell/nodewell/store/ValueTest$Comparison;" = some ⟨[.int], some (.object "com/example/nodewell/nodewell/store/ValueTest$Comparison")⟩ := by decide +kernel
theorem pd__I_Z : parseMethodDescriptor "(I)Z" = some ⟨[.int], some .boolean⟩ := by decide +kernel
def pickF (k : Int32) (w0 w1 w2 w3 w4 : Addr) : Addr := if k = 0 then w0 else if k = 1 then w1 else if k = 2 then w2 else if k = 3 then w3 else w4
def passF (k c : Int32) : Int32 := if k = 0 then (if c = 0 then 1 else 0) else if k = 1 then (if c < 0 then 1 else 0) else if k = 2 then (if 0 < c then 0 else 1) else if k = 3 then (if 0 < c then 1 else 0) else (if c < 0 then 0 else 1)

theorem own_eqi {args : Array Value} {Z : State} {t : Term} {k : Int32} (h : (Cond.eq t (Term.int k)).value args Z none Z [] = some true) : t.eval args Z none [] Z = some (.int k) := by
  cases ht : t.eval args Z none [] Z with
  | none => simp [Cond.value, Term.eval, ht] at h
  | some v => cases v <;> simp [Cond.value, Term.eval, ht] at h <;> (try rw [h])
theorem own_en {args : Array Value} {Z : State} {C n d : String} {k : Int32} (hx : (Cond.exactly (Term.static C n d) C).value args Z none Z [] = some true) (hk : (Cond.eq (Term.field (Term.static C n d) "java/lang/Enum" "ordinal" "I") (Term.int k)).value args Z none Z [] = some true)
    (hi : (Cond.initialized C).before args Z = true) (hl : (Cond.laysStatic C n d).before args Z = true) : ∃ w, Sta Z Z.heap C n d (.ref w) ∧ Exa Z Z.heap w C ∧ Fld Z Z.heap w "java/lang/Enum" "ordinal" "I" (.int k) := by
  obtain ⟨w, ew⟩ := exa_v hx
  exact ⟨w, Sta.start ew (Or.inr ⟨hi, hl⟩), Exa.start ew hx, Fld.start (by rw [← fld_at ew]; exact own_eqi hk)⟩

theorem own_mod (a n : Int32) (hn : 0 < n.toInt) : 0 ≤ ((a &&& 2147483647) % n).toInt ∧ ((a &&& 2147483647) % n).toInt < n.toInt := by
  have e1 : (a &&& 2147483647).toInt = a.toInt % 2 ^ 31 := Jvm.Kit.i32_mask a 2147483647 (k := 31) (by decide) (by decide)
  rw [Int32.toInt_mod, e1]
  have p0 : 0 ≤ a.toInt % 2 ^ 31 := Int.emod_nonneg _ (by decide)
  rw [Int.tmod_eq_emod_of_nonneg p0]
  exact ⟨Int.emod_nonneg _ (by omega), Int.emod_lt_of_pos _ hn⟩

theorem own_mod5 (a : Int32) : (a &&& 2147483647) % 5 = 0 ∨ (a &&& 2147483647) % 5 = 1 ∨ (a &&& 2147483647) % 5 = 2 ∨ (a &&& 2147483647) % 5 = 3 ∨ (a &&& 2147483647) % 5 = 4 := by
  have h := own_mod a 5 (by decide)
  have e : (5 : Int32).toInt = 5 := rfl
  rw [e] at h
  have : ((a &&& 2147483647) % 5).toInt = 0 ∨ ((a &&& 2147483647) % 5).toInt = 1 ∨ ((a &&& 2147483647) % 5).toInt = 2 ∨ ((a &&& 2147483647) % 5).toInt = 3 ∨ ((a &&& 2147483647) % 5).toInt = 4 := by omega
  rcases this with h | h | h | h | h <;> simp [← Int32.toInt_inj, h]

theorem own_neg {c : Int32} (h : c < 0) : ¬ (c = 0) ∧ ¬ (0 < c) := by
  rw [Int32.lt_iff_toInt_lt] at h; have e : (0 : Int32).toInt = 0 := rfl
  exact ⟨fun q => by subst q; omega, fun q => by rw [Int32.lt_iff_toInt_lt] at q; omega⟩
theorem own_zer {c : Int32} (h : c = 0) : ¬ (c < 0) ∧ ¬ (0 < c) := by subst h; decide
theorem own_pos {c : Int32} (h : 0 < c) : ¬ (c = 0) ∧ ¬ (c < 0) := by
  rw [Int32.lt_iff_toInt_lt] at h; have e : (0 : Int32).toInt = 0 := rfl
  exact ⟨fun q => by subst q; omega, fun q => by rw [Int32.lt_iff_toInt_lt] at q; omega⟩
theorem own_posOf {c : Int32} (h1 : ¬ (c < 0)) (h2 : ¬ (c = 0)) : 0 < c := by
  have e : (0 : Int32).toInt = 0 := rfl
  rw [Int32.lt_iff_toInt_lt] at *; rw [← Int32.toInt_inj] at h2; omega

theorem own_pass00 {c : Int32} (h : c < 0) : passF 0 c = 0 := by
  have q := own_neg h
  simp [passF, *]
theorem own_pass01 {c : Int32} (h : c = 0) : passF 0 c = 1 := by
  have q := own_zer h
  simp [passF, *]
theorem own_pass02 {c : Int32} (h : 0 < c) : passF 0 c = 0 := by
  have q := own_pos h
  simp [passF, *]
theorem own_pass10 {c : Int32} (h : c < 0) : passF 1 c = 1 := by
  have q := own_neg h
  simp [passF, *]
theorem own_pass11 {c : Int32} (h : c = 0) : passF 1 c = 0 := by
  have q := own_zer h
  simp [passF, *]
theorem own_pass12 {c : Int32} (h : 0 < c) : passF 1 c = 0 := by
  have q := own_pos h
  simp [passF, *]
theorem own_pass20 {c : Int32} (h : c < 0) : passF 2 c = 1 := by
  have q := own_neg h
  simp [passF, *]
theorem own_pass21 {c : Int32} (h : c = 0) : passF 2 c = 1 := by
  have q := own_zer h
  simp [passF, *]
theorem own_pass22 {c : Int32} (h : 0 < c) : passF 2 c = 0 := by
  have q := own_pos h
  simp [passF, *]
theorem own_pass30 {c : Int32} (h : c < 0) : passF 3 c = 0 := by
  have q := own_neg h
  simp [passF, *]
theorem own_pass31 {c : Int32} (h : c = 0) : passF 3 c = 0 := by
  have q := own_zer h
  simp [passF, *]
theorem own_pass32 {c : Int32} (h : 0 < c) : passF 3 c = 1 := by
  have q := own_pos h
  simp [passF, *]
theorem own_pass40 {c : Int32} (h : c < 0) : passF 4 c = 0 := by
  have q := own_neg h
  simp [passF, *]
theorem own_pass41 {c : Int32} (h : c = 0) : passF 4 c = 1 := by
  have q := own_zer h
  simp [passF, *]
theorem own_pass42 {c : Int32} (h : 0 < c) : passF 4 c = 1 := by
  have q := own_pos h
  simp [passF, *]
def Q_rmP (Z : State) (p1 : Int32) (w_EQUAL : Addr) (w_LESS : Addr) (w_LESS_OR_EQUAL : Addr) (w_GREATER : Addr) (w_GREATER_OR_EQUAL : Addr) (h0 : Heap) (n0 : Nat) (v : Option Value) (h : Heap) (L : List Loc) : Prop := v = some (.ref (pickF p1 w_EQUAL w_LESS w_LESS_OR_EQUAL w_GREATER w_GREATER_OR_EQUAL)) ∧ Fr n0 L ∧ h = h0
set_option maxRecDepth 65536 in
set_option maxHeartbeats 40000000 in
theorem rmP (l : Launch) (Z : State) (a0 : Array Value) (hw : ∀ d ∈ tables_1, d.before a0 Z = true) (ws : List Jvm.Cond) (p1 : Int32) (w_EQUAL : Addr) (w_LESS : Addr) (w_LESS_OR_EQUAL : Addr) (w_GREATER : Addr) (w_GREATER_OR_EQUAL : Addr) (h0 : Heap) (n0 : Nat) (O : Old Z n0 h0) (S_EQUAL : Sta Z Z.heap "com/example/nodewell/nodewell/store/ValueTest$Comparison" "EQUAL" "Lcom/example/nodewell/nodewell/store/ValueTest$Comparison;" (.ref w_EQUAL)) (S_LESS : Sta Z Z.heap "com/example/nodewell/nodewell/store/ValueTest$Comparison" "LESS" "Lcom/example/nodewell/nodewell/store/ValueTest$Comparison;" (.ref w_LESS)) (S_LESS_OR_EQUAL : Sta Z Z.heap "com/example/nodewell/nodewell/store/ValueTest$Comparison" "LESS_OR_EQUAL" "Lcom/example/nodewell/nodewell/store/ValueTest$Comparison;" (.ref w_LESS_OR_EQUAL)) (S_GREATER : Sta Z Z.heap "com/example/nodewell/nodewell/store/ValueTest$Comparison" "GREATER" "Lcom/example/nodewell/nodewell/store/ValueTest$Comparison;" (.ref w_GREATER)) (S_GREATER_OR_EQUAL : Sta Z Z.heap "com/example/nodewell/nodewell/store/ValueTest$Comparison" "GREATER_OR_EQUAL" "Lcom/example/nodewell/nodewell/store/ValueTest$Comparison;" (.ref w_GREATER_OR_EQUAL)) :
    MetFree l (⟨"com/example/nodewell/nodewell/store/ComparisonPassesPinLaw", "pick", "(I)Lcom/example/nodewell/nodewell/store/ValueTest$Comparison;"⟩ : MethodName) (head1 (Jvm.Cond.code (⟨"com/example/nodewell/nodewell/store/ComparisonPassesPinLaw", "pick", "(I)Lcom/example/nodewell/nodewell/store/ValueTest$Comparison;"⟩ : MethodName) method_2_code 1 (some (.object "com/example/nodewell/nodewell/store/ValueTest$Comparison")) :: ws) ({ frames := 0, cells := 0, slots := 0, locals := 0 } : Room)) (fun a U => a = #[(.int p1)] ∧ Z.Warmed39 U.vm ∧ U.heap = h0) (fun _ _ _ _ _ => True) (fun _ U o U' => ∃ v L, o = .returned v ∧ Q_rmP Z p1 w_EQUAL w_LESS w_LESS_OR_EQUAL w_GREATER w_GREATER_OR_EQUAL h0 n0 v U'.heap L ∧ FrameEnd U o U' L ({ frames := 0, cells := 0, slots := 0, locals := 0 } : Room).cells ({ frames := 0, cells := 0, slots := 0, locals := 0 } : Room).slots) := by
  refine MetFree.of_bodySF (plainFor_of_name pn_1) hisR ?_
  intro p e s m args below meth c s₁ Bd hml0 hP hK
  obtain ⟨rfl, hZ, hh⟩ := hP
  have hx := Bd.exec
  have hby := Bd.bytes
  have hml : c.maxLocals = 1 := hml0
  have hown : s.vm.findClass "com/example/nodewell/nodewell/store/ComparisonPassesPinLaw" = some m.cls := findClass_of_methodNamed Bd.named
  have hnm := (name_of_methodNamed Bd.named Bd.method).1
  have hlk : meth.locks = false := BodyLoose.notSynchronized Bd
  have X0 : Stand p l e ({ frames := 0, cells := 0, slots := 0, locals := 0 } : Room) s m #[(.int p1)] below meth c s₁ [] 0 0 := Stand.of_body Bd
  have e0 : s₁.heap = h0 := by rw [← hh, Bd.state]; rfl
  have N0 := Fr.nil n0
  show Go p e below s ({ frames := 0, cells := 0, slots := 0, locals := 0 } : Room).cells ({ frames := 0, cells := 0, slots := 0, locals := 0 } : Room).slots (Q_rmP Z p1 w_EQUAL w_LESS w_LESS_OR_EQUAL w_GREATER w_GREATER_OR_EQUAL h0 n0) s₁ (entryFrame m #[(.int p1)] 1)
  refine Go.eq (ef_rmP m p1) ?_
  show Go _ _ _ _ _ _ _  s₁ (mkF m 0 #[.val (.int p1)] [])
  refine Go.st (fun t k => XS.iloadN X0.here hx rfl (hb hby d1_0) rfl  k) ?_
  show Go _ _ _ _ _ _ _  s₁ (mkF m 1 #[.val (.int p1)] [(.int p1)])
  by_cases c1_1 : p1 = (0 : Int32)
  · refine Go.st (fun t k => XS.ifNo X0.here hx rfl (hb hby d1_1) rfl ((if0 _ _).trans (teq c1_1).2) k) ?_
    show Go _ _ _ _ _ _ _  s₁ (mkF m 4 #[.val (.int p1)] [])
    obtain ⟨T2, X2, e2, st2⟩ := getS2 X0 hx hZ hown (host := "") (Or.inl (hw _ (List.mem_of_getElem? (i := 6) rfl))) Via.refl e0 (S_EQUAL.ext O.2) (g := (mkF m 4 #[.val (.int p1)] [])) rfl (hb hby d1_4)
    refine Go.st st2 ?_
    show Go _ _ _ _ _ _ _  T2 (mkF m 7 #[.val (.int p1)] [(.ref w_EQUAL)])
    refine Go.retR X2 hlk hx Bd.returns rfl rfl rfl (hb hby d1_7) (by decide) (by decide) ?_
    show Q_rmP Z _ _ _ _ _ _ h0 n0 _ T2.heap _
    rw [e2]
    exact ⟨by simp only [pickF, if_pos c1_1], N0, rfl⟩
  · refine Go.st (fun t k => XS.ifYes X0.here hx rfl (pc0 := 1) (pc' := 8) rfl (hb hby d1_1) rfl ((if0 _ _).trans (feq c1_1).2) (by decide) (by decide) k) ?_
    show Go _ _ _ _ _ _ _  s₁ (mkF m 8 #[.val (.int p1)] [])
    refine Go.st (fun t k => XS.iloadN X0.here hx rfl (hb hby d1_8) rfl  k) ?_
    show Go _ _ _ _ _ _ _  s₁ (mkF m 9 #[.val (.int p1)] [(.int p1)])
    refine Go.st (fun t k => XS.iconst X0.here hx rfl (hb hby d1_9) k) ?_
    show Go _ _ _ _ _ _ _  s₁ (mkF m 10 #[.val (.int p1)] [(.int (1 : Int32)), (.int p1)])
    by_cases c10_3 : p1 = (1 : Int32)
    · refine Go.st (fun t k => XS.icmpNo X0.here hx rfl (hb hby d1_10) rfl (teq c10_3).2 k) ?_
      show Go _ _ _ _ _ _ _  s₁ (mkF m 13 #[.val (.int p1)] [])
      obtain ⟨T4, X4, e4, st4⟩ := getS2 X0 hx hZ hown (host := "") (Or.inl (hw _ (List.mem_of_getElem? (i := 27) rfl))) Via.refl e0 (S_LESS.ext O.2) (g := (mkF m 13 #[.val (.int p1)] [])) rfl (hb hby d1_13)
      refine Go.st st4 ?_
      show Go _ _ _ _ _ _ _  T4 (mkF m 16 #[.val (.int p1)] [(.ref w_LESS)])
      refine Go.retR X4 hlk hx Bd.returns rfl rfl rfl (hb hby d1_16) (by decide) (by decide) ?_
      show Q_rmP Z _ _ _ _ _ _ h0 n0 _ T4.heap _
      rw [e4]
      exact ⟨by simp only [pickF, if_neg c1_1, if_pos c10_3], N0, rfl⟩
    · refine Go.st (fun t k => XS.icmpYes X0.here hx rfl (pc0 := 10) (pc' := 17) rfl (hb hby d1_10) rfl (feq c10_3).2 (by decide) (by decide) k) ?_
      show Go _ _ _ _ _ _ _  s₁ (mkF m 17 #[.val (.int p1)] [])
      refine Go.st (fun t k => XS.iloadN X0.here hx rfl (hb hby d1_17) rfl  k) ?_
      show Go _ _ _ _ _ _ _  s₁ (mkF m 18 #[.val (.int p1)] [(.int p1)])
      refine Go.st (fun t k => XS.iconst X0.here hx rfl (hb hby d1_18) k) ?_
      show Go _ _ _ _ _ _ _  s₁ (mkF m 19 #[.val (.int p1)] [(.int (2 : Int32)), (.int p1)])
      by_cases c19_5 : p1 = (2 : Int32)
      · refine Go.st (fun t k => XS.icmpNo X0.here hx rfl (hb hby d1_19) rfl (teq c19_5).2 k) ?_
        show Go _ _ _ _ _ _ _  s₁ (mkF m 22 #[.val (.int p1)] [])
        obtain ⟨T6, X6, e6, st6⟩ := getS2 X0 hx hZ hown (host := "") (Or.inl (hw _ (List.mem_of_getElem? (i := 29) rfl))) Via.refl e0 (S_LESS_OR_EQUAL.ext O.2) (g := (mkF m 22 #[.val (.int p1)] [])) rfl (hb hby d1_22)
        refine Go.st st6 ?_
        show Go _ _ _ _ _ _ _  T6 (mkF m 25 #[.val (.int p1)] [(.ref w_LESS_OR_EQUAL)])
        refine Go.retR X6 hlk hx Bd.returns rfl rfl rfl (hb hby d1_25) (by decide) (by decide) ?_
        show Q_rmP Z _ _ _ _ _ _ h0 n0 _ T6.heap _
        rw [e6]
        exact ⟨by simp only [pickF, if_neg c1_1, if_neg c10_3, if_pos c19_5], N0, rfl⟩
      · refine Go.st (fun t k => XS.icmpYes X0.here hx rfl (pc0 := 19) (pc' := 26) rfl (hb hby d1_19) rfl (feq c19_5).2 (by decide) (by decide) k) ?_
        show Go _ _ _ _ _ _ _  s₁ (mkF m 26 #[.val (.int p1)] [])
        refine Go.st (fun t k => XS.iloadN X0.here hx rfl (hb hby d1_26) rfl  k) ?_
        show Go _ _ _ _ _ _ _  s₁ (mkF m 27 #[.val (.int p1)] [(.int p1)])
        refine Go.st (fun t k => XS.iconst X0.here hx rfl (hb hby d1_27) k) ?_
        show Go _ _ _ _ _ _ _  s₁ (mkF m 28 #[.val (.int p1)] [(.int (3 : Int32)), (.int p1)])
        by_cases c28_7 : p1 = (3 : Int32)
        · refine Go.st (fun t k => XS.icmpNo X0.here hx rfl (hb hby d1_28) rfl (teq c28_7).2 k) ?_
          show Go _ _ _ _ _ _ _  s₁ (mkF m 31 #[.val (.int p1)] [])
          obtain ⟨T8, X8, e8, st8⟩ := getS2 X0 hx hZ hown (host := "") (Or.inl (hw _ (List.mem_of_getElem? (i := 25) rfl))) Via.refl e0 (S_GREATER.ext O.2) (g := (mkF m 31 #[.val (.int p1)] [])) rfl (hb hby d1_31)
          refine Go.st st8 ?_
          show Go _ _ _ _ _ _ _  T8 (mkF m 34 #[.val (.int p1)] [(.ref w_GREATER)])
          refine Go.retR X8 hlk hx Bd.returns rfl rfl rfl (hb hby d1_34) (by decide) (by decide) ?_
          show Q_rmP Z _ _ _ _ _ _ h0 n0 _ T8.heap _
          rw [e8]
          exact ⟨by simp only [pickF, if_neg c1_1, if_neg c10_3, if_neg c19_5, if_pos c28_7], N0, rfl⟩
        · refine Go.st (fun t k => XS.icmpYes X0.here hx rfl (pc0 := 28) (pc' := 35) rfl (hb hby d1_28) rfl (feq c28_7).2 (by decide) (by decide) k) ?_
          show Go _ _ _ _ _ _ _  s₁ (mkF m 35 #[.val (.int p1)] [])
          obtain ⟨T9, X9, e9, st9⟩ := getS2 X0 hx hZ hown (host := "") (Or.inl (hw _ (List.mem_of_getElem? (i := 23) rfl))) Via.refl e0 (S_GREATER_OR_EQUAL.ext O.2) (g := (mkF m 35 #[.val (.int p1)] [])) rfl (hb hby d1_35)
          refine Go.st st9 ?_
          show Go _ _ _ _ _ _ _  T9 (mkF m 38 #[.val (.int p1)] [(.ref w_GREATER_OR_EQUAL)])
          refine Go.retR X9 hlk hx Bd.returns rfl rfl rfl (hb hby d1_38) (by decide) (by decide) ?_
          show Q_rmP Z _ _ _ _ _ _ h0 n0 _ T9.heap _
          rw [e9]
          exact ⟨by simp only [pickF, if_neg c1_1, if_neg c10_3, if_neg c19_5, if_neg c28_7], N0, rfl⟩
def Q_rmO (Z : State) (a1 : Addr) (k : Int32) (h0 : Heap) (n0 : Nat) (v : Option Value) (h : Heap) (L : List Loc) : Prop := v = some (.int k) ∧ Fr n0 L ∧ h = h0
set_option maxRecDepth 65536 in
set_option maxHeartbeats 40000000 in
theorem rmO (l : Launch) (Z : State) (a0 : Array Value) (hw : ∀ d ∈ tables_1, d.before a0 Z = true) (ws : List Jvm.Cond) (a1 : Addr) (k : Int32) (h0 : Heap) (n0 : Nat) (O : Old Z n0 h0) (F1 : Fld Z Z.heap a1 "java/lang/Enum" "ordinal" "I" (.int k)) :
    MetFree l (⟨"java/lang/Enum", "ordinal", "()I"⟩ : MethodName) (head1 (Jvm.Cond.code (⟨"java/lang/Enum", "ordinal", "()I"⟩ : MethodName) jdk_37_method_2_code 1 (some .int) :: ws) ({ frames := 0, cells := 0, slots := 0, locals := 0 } : Room)) (fun a U => a = #[(.ref a1)] ∧ Z.Warmed39 U.vm ∧ U.heap = h0) (fun _ _ _ _ _ => True) (fun _ U o U' => ∃ v L, o = .returned v ∧ Q_rmO Z a1 k h0 n0 v U'.heap L ∧ FrameEnd U o U' L ({ frames := 0, cells := 0, slots := 0, locals := 0 } : Room).cells ({ frames := 0, cells := 0, slots := 0, locals := 0 } : Room).slots) := by
  refine MetFree.of_bodySF (plainFor_of_name pn_3) hisR ?_
  intro p e s m args below meth c s₁ Bd hml0 hP hK
  obtain ⟨rfl, hZ, hh⟩ := hP
  have hx := Bd.exec
  have hby := Bd.bytes
  have hml : c.maxLocals = 1 := hml0
  have hown : s.vm.findClass "java/lang/Enum" = some m.cls := findClass_of_methodNamed Bd.named
  have hnm := (name_of_methodNamed Bd.named Bd.method).1
  have hlk : meth.locks = false := BodyLoose.notSynchronized Bd
  have X0 : Stand p l e ({ frames := 0, cells := 0, slots := 0, locals := 0 } : Room) s m #[(.ref a1)] below meth c s₁ [] 0 0 := Stand.of_body Bd
  have e0 : s₁.heap = h0 := by rw [← hh, Bd.state]; rfl
  have N0 := Fr.nil n0
  show Go p e below s ({ frames := 0, cells := 0, slots := 0, locals := 0 } : Room).cells ({ frames := 0, cells := 0, slots := 0, locals := 0 } : Room).slots (Q_rmO Z a1 k h0 n0) s₁ (entryFrame m #[(.ref a1)] 1)
  refine Go.eq (ef_rmO m a1) ?_
  show Go _ _ _ _ _ _ _  s₁ (mkF m 0 #[.val (.ref a1)] [])
  refine Go.st (fun t k => XS.aloadN X0.here hx rfl (hb hby d3_0) rfl rfl  k) ?_
  show Go _ _ _ _ _ _ _  s₁ (mkF m 1 #[.val (.ref a1)] [(.ref a1)])
  obtain ⟨T1, X1, e1, st1⟩ := getF X0 hx hZ hown (host := "") (Or.inl (hw _ (List.mem_of_getElem? (i := 21) rfl))) Via.refl e0 (F1.ext O.2) (g := (mkF m 1 #[.val (.ref a1)] [(.ref a1)])) rfl rfl (hb hby d3_1)
  refine Go.st st1 ?_
  show Go _ _ _ _ _ _ _  T1 (mkF m 4 #[.val (.ref a1)] [(.int k)])
  refine Go.retI X1 hlk hx Bd.returns (hb hby d3_4) (by decide) (by decide) ?_
  show Q_rmO Z _ _ h0 n0 _ T1.heap _
  rw [e1]
  exact ⟨rfl, N0, rfl⟩
def Q_rmS (Z : State) (a1 : Addr) (p2 : Int32) (k : Int32) (h0 : Heap) (n0 : Nat) (v : Option Value) (h : Heap) (L : List Loc) : Prop := v = some (.int (passF k p2)) ∧ Fr n0 L ∧ h = h0
set_option maxRecDepth 65536 in
set_option maxHeartbeats 40000000 in
theorem rmS (l : Launch) (Z : State) (a0 : Array Value) (hw : ∀ d ∈ tables_1, d.before a0 Z = true) (ws : List Jvm.Cond) (a1 : Addr) (p2 : Int32) (k : Int32) (h0 : Heap) (n0 : Nat) (O : Old Z n0 h0) (F1 : Fld Z Z.heap a1 "java/lang/Enum" "ordinal" "I" (.int k)) (E1 : Exa Z Z.heap a1 "com/example/nodewell/nodewell/store/ValueTest$Comparison") (hk : k = 0 ∨ k = 1 ∨ k = 2 ∨ k = 3 ∨ k = 4) :
    MetFree l (⟨"com/example/nodewell/nodewell/store/ValueTest$Comparison", "passes", "(I)Z"⟩ : MethodName) (head1 (Jvm.Cond.code (⟨"com/example/nodewell/nodewell/store/ValueTest$Comparison", "passes", "(I)Z"⟩ : MethodName) prog_113_method_5_code 2 (some .boolean) :: ws) ({ frames := 1, cells := 0, slots := 0, locals := 12 } : Room)) (fun a U => a = #[(.ref a1), (.int p2)] ∧ Z.Warmed39 U.vm ∧ U.heap = h0) (fun _ _ _ _ _ => True) (fun _ U o U' => ∃ v L, o = .returned v ∧ Q_rmS Z a1 p2 k h0 n0 v U'.heap L ∧ FrameEnd U o U' L ({ frames := 1, cells := 0, slots := 0, locals := 12 } : Room).cells ({ frames := 1, cells := 0, slots := 0, locals := 12 } : Room).slots) := by
  refine MetFree.of_bodySF (plainFor_of_name pn_2) hisR ?_
  intro p e s m args below meth c s₁ Bd hml0 hP hK
  obtain ⟨rfl, hZ, hh⟩ := hP
  have hx := Bd.exec
  have hby := Bd.bytes
  have hml : c.maxLocals = 2 := hml0
  have hown : s.vm.findClass "com/example/nodewell/nodewell/store/ValueTest$Comparison" = some m.cls := findClass_of_methodNamed Bd.named
  have hnm := (name_of_methodNamed Bd.named Bd.method).1
  have hlk : meth.locks = false := BodyLoose.notSynchronized Bd
  have X0 : Stand p l e ({ frames := 1, cells := 0, slots := 0, locals := 12 } : Room) s m #[(.ref a1), (.int p2)] below meth c s₁ [] 0 0 := Stand.of_body Bd
  have e0 : s₁.heap = h0 := by rw [← hh, Bd.state]; rfl
  have N0 := Fr.nil n0
  show Go p e below s ({ frames := 1, cells := 0, slots := 0, locals := 12 } : Room).cells ({ frames := 1, cells := 0, slots := 0, locals := 12 } : Room).slots (Q_rmS Z a1 p2 k h0 n0) s₁ (entryFrame m #[(.ref a1), (.int p2)] 2)
  refine Go.eq (ef_rmS m a1 p2) ?_
  show Go _ _ _ _ _ _ _  s₁ (mkF m 0 #[.val (.ref a1), .val (.int p2)] [])
  refine Go.st (fun t k => XS.aloadN X0.here hx rfl (hb hby d2_0) rfl rfl  k) ?_
  show Go _ _ _ _ _ _ _  s₁ (mkF m 1 #[.val (.ref a1), .val (.int p2)] [(.ref a1)])
  obtain ⟨cq1, kq1, q1a, q1b, q1c⟩ := isOf hZ e0 (E1.ext O.2)
  obtain ⟨_, _, ⟨T1, L1, k1, n1⟩, -, X1, ⟨Lc1, hQ1, l1, y1, z1⟩, st1⟩ := X0.virtualBackUp hx (x := (⟨"com/example/nodewell/nodewell/store/ValueTest$Comparison", "ordinal", "()I"⟩ : MethodName)) (y := (⟨"java/lang/Enum", "ordinal", "()I"⟩ : MethodName)) (owner := "java/lang/Enum") hown (mvT hZ (hw _ (List.mem_of_getElem? (i := 14) rfl))) (mvT hZ (hw _ (List.mem_of_getElem? (i := 15) rfl))) (mvT hZ (hw _ (List.mem_of_getElem? (i := 16) rfl))) (by decide) (mvT hZ (hw _ (List.mem_of_getElem? (i := 18) rfl))) (mvT hZ (hw _ (List.mem_of_getElem? (i := 17) rfl))) (backOf (W := 0) (rmO l Z a0 hw [] a1 k h0 n0 O F1) hZ (hw _ (List.mem_of_getElem? (i := 20) rfl)) (hw _ (List.mem_of_getElem? (i := 19) rfl)) (by decide) (by decide)) q1a q1c (g := (mkF m 1 #[.val (.ref a1), .val (.int p2)] [(.ref a1)])) rfl (by rw [hml]; rfl) (Steps.refl _) (argsL := []) (rest := []) (lenOf pd___I rfl) rfl (by show 2 * 0 + _ ≤ _; exact Nat.le_of_eq rfl) (hb hby d2_1) (fun _ _ => ⟨rfl, e0, (by decide : 0 + 0 ≤ _), (by decide : 0 + 0 ≤ _)⟩)
  dsimp only [Pt.U, Pt.locs, Pt.cells, Pt.slots] at X1 l1 y1 z1 st1 hQ1
  subst l1 y1 z1
  obtain ⟨rfl, N1q, e1q⟩ := hQ1
  have N1 := Fr.app N0 N1q
  refine Go.tr st1 ?_
  rcases hk with hk | hk | hk | hk | hk
  · rw [hk]
    show Go _ _ _ _ _ _ _  T1 (mkF m 4 #[.val (.ref a1), .val (.int p2)] [(.int (0 : Int32))])
    refine Go.st (fun t k => XS.tswIn X1.here hx rfl (pc0 := 4) (pc' := 36) (o := 32) rfl (hb hby d2_4) rfl (by decide) (by decide) (by decide) (by decide) k) ?_
    show Go _ _ _ _ _ _ _  T1 (mkF m 36 #[.val (.ref a1), .val (.int p2)] [])
    refine Go.st (fun t k => XS.iloadN X1.here hx rfl (hb hby d2_36) rfl  k) ?_
    show Go _ _ _ _ _ _ _  T1 (mkF m 37 #[.val (.ref a1), .val (.int p2)] [(.int p2)])
    by_cases c37_2 : p2 = (0 : Int32)
    · refine Go.st (fun t k => XS.ifNo X1.here hx rfl (hb hby d2_37) rfl ((if0 _ _).trans (teq c37_2).2) k) ?_
      show Go _ _ _ _ _ _ _  T1 (mkF m 40 #[.val (.ref a1), .val (.int p2)] [])
      refine Go.st (fun t k => XS.iconst X1.here hx rfl (hb hby d2_40) k) ?_
      show Go _ _ _ _ _ _ _  T1 (mkF m 41 #[.val (.ref a1), .val (.int p2)] [(.int (1 : Int32))])
      refine Go.st (fun t k => XS.goto X1.here hx rfl (pc0 := 41) (pc' := 45) rfl (hb hby d2_41) (by decide) (by decide) k) ?_
      show Go _ _ _ _ _ _ _  T1 (mkF m 45 #[.val (.ref a1), .val (.int p2)] [(.int (1 : Int32))])
      refine Go.retN X1 hlk hx (t := .boolean) (z' := (1 : Int32)) Bd.returns (by simp) (hb hby d2_45) (by decide) (by decide) rfl ?_
      show Q_rmS Z _ _ _ h0 n0 _ T1.heap _
      rw [e1q]
      exact ⟨by simp [passF, hk, c37_2], N1, rfl⟩
    · refine Go.st (fun t k => XS.ifYes X1.here hx rfl (pc0 := 37) (pc' := 44) rfl (hb hby d2_37) rfl ((if0 _ _).trans (feq c37_2).2) (by decide) (by decide) k) ?_
      show Go _ _ _ _ _ _ _  T1 (mkF m 44 #[.val (.ref a1), .val (.int p2)] [])
      refine Go.st (fun t k => XS.iconst X1.here hx rfl (hb hby d2_44) k) ?_
      show Go _ _ _ _ _ _ _  T1 (mkF m 45 #[.val (.ref a1), .val (.int p2)] [(.int (0 : Int32))])
      refine Go.retN X1 hlk hx (t := .boolean) (z' := (0 : Int32)) Bd.returns (by simp) (hb hby d2_45) (by decide) (by decide) rfl ?_
      show Q_rmS Z _ _ _ h0 n0 _ T1.heap _
      rw [e1q]
      exact ⟨by simp [passF, hk, c37_2], N1, rfl⟩
  · rw [hk]
    show Go _ _ _ _ _ _ _  T1 (mkF m 4 #[.val (.ref a1), .val (.int p2)] [(.int (1 : Int32))])
    refine Go.st (fun t k => XS.tswIn X1.here hx rfl (pc0 := 4) (pc' := 46) (o := 42) rfl (hb hby d2_4) rfl (by decide) (by decide) (by decide) (by decide) k) ?_
    show Go _ _ _ _ _ _ _  T1 (mkF m 46 #[.val (.ref a1), .val (.int p2)] [])
    refine Go.st (fun t k => XS.iloadN X1.here hx rfl (hb hby d2_46) rfl  k) ?_
    show Go _ _ _ _ _ _ _  T1 (mkF m 47 #[.val (.ref a1), .val (.int p2)] [(.int p2)])
    by_cases c47_3 : p2 < (0 : Int32)
    · refine Go.st (fun t k => XS.ifNo X1.here hx rfl (hb hby d2_47) rfl ((if0 _ _).trans (tlt c47_3).2.1) k) ?_
      show Go _ _ _ _ _ _ _  T1 (mkF m 50 #[.val (.ref a1), .val (.int p2)] [])
      refine Go.st (fun t k => XS.iconst X1.here hx rfl (hb hby d2_50) k) ?_
      show Go _ _ _ _ _ _ _  T1 (mkF m 51 #[.val (.ref a1), .val (.int p2)] [(.int (1 : Int32))])
      refine Go.st (fun t k => XS.goto X1.here hx rfl (pc0 := 51) (pc' := 55) rfl (hb hby d2_51) (by decide) (by decide) k) ?_
      show Go _ _ _ _ _ _ _  T1 (mkF m 55 #[.val (.ref a1), .val (.int p2)] [(.int (1 : Int32))])
      refine Go.retN X1 hlk hx (t := .boolean) (z' := (1 : Int32)) Bd.returns (by simp) (hb hby d2_55) (by decide) (by decide) rfl ?_
      show Q_rmS Z _ _ _ h0 n0 _ T1.heap _
      rw [e1q]
      exact ⟨by simp [passF, hk, c47_3], N1, rfl⟩
    · refine Go.st (fun t k => XS.ifYes X1.here hx rfl (pc0 := 47) (pc' := 54) rfl (hb hby d2_47) rfl ((if0 _ _).trans (flt c47_3).2.1) (by decide) (by decide) k) ?_
      show Go _ _ _ _ _ _ _  T1 (mkF m 54 #[.val (.ref a1), .val (.int p2)] [])
      refine Go.st (fun t k => XS.iconst X1.here hx rfl (hb hby d2_54) k) ?_
      show Go _ _ _ _ _ _ _  T1 (mkF m 55 #[.val (.ref a1), .val (.int p2)] [(.int (0 : Int32))])
      refine Go.retN X1 hlk hx (t := .boolean) (z' := (0 : Int32)) Bd.returns (by simp) (hb hby d2_55) (by decide) (by decide) rfl ?_
      show Q_rmS Z _ _ _ h0 n0 _ T1.heap _
      rw [e1q]
      exact ⟨by simp [passF, hk, c47_3], N1, rfl⟩
  · rw [hk]
    show Go _ _ _ _ _ _ _  T1 (mkF m 4 #[.val (.ref a1), .val (.int p2)] [(.int (2 : Int32))])
    refine Go.st (fun t k => XS.tswIn X1.here hx rfl (pc0 := 4) (pc' := 56) (o := 52) rfl (hb hby d2_4) rfl (by decide) (by decide) (by decide) (by decide) k) ?_
    show Go _ _ _ _ _ _ _  T1 (mkF m 56 #[.val (.ref a1), .val (.int p2)] [])
    refine Go.st (fun t k => XS.iloadN X1.here hx rfl (hb hby d2_56) rfl  k) ?_
    show Go _ _ _ _ _ _ _  T1 (mkF m 57 #[.val (.ref a1), .val (.int p2)] [(.int p2)])
    by_cases c57_4 : (0 : Int32) < p2
    · refine Go.st (fun t k => XS.ifYes X1.here hx rfl (pc0 := 57) (pc' := 64) rfl (hb hby d2_57) rfl ((if0 _ _).trans (tlt c57_4).2.2.1) (by decide) (by decide) k) ?_
      show Go _ _ _ _ _ _ _  T1 (mkF m 64 #[.val (.ref a1), .val (.int p2)] [])
      refine Go.st (fun t k => XS.iconst X1.here hx rfl (hb hby d2_64) k) ?_
      show Go _ _ _ _ _ _ _  T1 (mkF m 65 #[.val (.ref a1), .val (.int p2)] [(.int (0 : Int32))])
      refine Go.retN X1 hlk hx (t := .boolean) (z' := (0 : Int32)) Bd.returns (by simp) (hb hby d2_65) (by decide) (by decide) rfl ?_
      show Q_rmS Z _ _ _ h0 n0 _ T1.heap _
      rw [e1q]
      exact ⟨by simp [passF, hk, c57_4], N1, rfl⟩
    · refine Go.st (fun t k => XS.ifNo X1.here hx rfl (hb hby d2_57) rfl ((if0 _ _).trans (flt c57_4).2.2.1) k) ?_
      show Go _ _ _ _ _ _ _  T1 (mkF m 60 #[.val (.ref a1), .val (.int p2)] [])
      refine Go.st (fun t k => XS.iconst X1.here hx rfl (hb hby d2_60) k) ?_
      show Go _ _ _ _ _ _ _  T1 (mkF m 61 #[.val (.ref a1), .val (.int p2)] [(.int (1 : Int32))])
      refine Go.st (fun t k => XS.goto X1.here hx rfl (pc0 := 61) (pc' := 65) rfl (hb hby d2_61) (by decide) (by decide) k) ?_
      show Go _ _ _ _ _ _ _  T1 (mkF m 65 #[.val (.ref a1), .val (.int p2)] [(.int (1 : Int32))])
      refine Go.retN X1 hlk hx (t := .boolean) (z' := (1 : Int32)) Bd.returns (by simp) (hb hby d2_65) (by decide) (by decide) rfl ?_
      show Q_rmS Z _ _ _ h0 n0 _ T1.heap _
      rw [e1q]
      exact ⟨by simp [passF, hk, c57_4], N1, rfl⟩
  · rw [hk]
    show Go _ _ _ _ _ _ _  T1 (mkF m 4 #[.val (.ref a1), .val (.int p2)] [(.int (3 : Int32))])
    refine Go.st (fun t k => XS.tswIn X1.here hx rfl (pc0 := 4) (pc' := 66) (o := 62) rfl (hb hby d2_4) rfl (by decide) (by decide) (by decide) (by decide) k) ?_
    show Go _ _ _ _ _ _ _  T1 (mkF m 66 #[.val (.ref a1), .val (.int p2)] [])
    refine Go.st (fun t k => XS.iloadN X1.here hx rfl (hb hby d2_66) rfl  k) ?_
    show Go _ _ _ _ _ _ _  T1 (mkF m 67 #[.val (.ref a1), .val (.int p2)] [(.int p2)])
    by_cases c67_5 : (0 : Int32) < p2
    · refine Go.st (fun t k => XS.ifNo X1.here hx rfl (hb hby d2_67) rfl ((if0 _ _).trans (tlt c67_5).2.2.2) k) ?_
      show Go _ _ _ _ _ _ _  T1 (mkF m 70 #[.val (.ref a1), .val (.int p2)] [])
      refine Go.st (fun t k => XS.iconst X1.here hx rfl (hb hby d2_70) k) ?_
      show Go _ _ _ _ _ _ _  T1 (mkF m 71 #[.val (.ref a1), .val (.int p2)] [(.int (1 : Int32))])
      refine Go.st (fun t k => XS.goto X1.here hx rfl (pc0 := 71) (pc' := 75) rfl (hb hby d2_71) (by decide) (by decide) k) ?_
      show Go _ _ _ _ _ _ _  T1 (mkF m 75 #[.val (.ref a1), .val (.int p2)] [(.int (1 : Int32))])
      refine Go.retN X1 hlk hx (t := .boolean) (z' := (1 : Int32)) Bd.returns (by simp) (hb hby d2_75) (by decide) (by decide) rfl ?_
      show Q_rmS Z _ _ _ h0 n0 _ T1.heap _
      rw [e1q]
      exact ⟨by simp [passF, hk, c67_5], N1, rfl⟩
    · refine Go.st (fun t k => XS.ifYes X1.here hx rfl (pc0 := 67) (pc' := 74) rfl (hb hby d2_67) rfl ((if0 _ _).trans (flt c67_5).2.2.2) (by decide) (by decide) k) ?_
      show Go _ _ _ _ _ _ _  T1 (mkF m 74 #[.val (.ref a1), .val (.int p2)] [])
      refine Go.st (fun t k => XS.iconst X1.here hx rfl (hb hby d2_74) k) ?_
      show Go _ _ _ _ _ _ _  T1 (mkF m 75 #[.val (.ref a1), .val (.int p2)] [(.int (0 : Int32))])
      refine Go.retN X1 hlk hx (t := .boolean) (z' := (0 : Int32)) Bd.returns (by simp) (hb hby d2_75) (by decide) (by decide) rfl ?_
      show Q_rmS Z _ _ _ h0 n0 _ T1.heap _
      rw [e1q]
      exact ⟨by simp [passF, hk, c67_5], N1, rfl⟩
  · rw [hk]
    show Go _ _ _ _ _ _ _  T1 (mkF m 4 #[.val (.ref a1), .val (.int p2)] [(.int (4 : Int32))])
    refine Go.st (fun t k => XS.tswOut X1.here hx rfl (pc0 := 4) (pc' := 76) rfl (hb hby d2_4) rfl (by decide) (by decide) (by decide) k) ?_
    show Go _ _ _ _ _ _ _  T1 (mkF m 76 #[.val (.ref a1), .val (.int p2)] [])
    refine Go.st (fun t k => XS.iloadN X1.here hx rfl (hb hby d2_76) rfl  k) ?_
    show Go _ _ _ _ _ _ _  T1 (mkF m 77 #[.val (.ref a1), .val (.int p2)] [(.int p2)])
    by_cases c77_6 : p2 < (0 : Int32)
    · refine Go.st (fun t k => XS.ifYes X1.here hx rfl (pc0 := 77) (pc' := 84) rfl (hb hby d2_77) rfl ((if0 _ _).trans (tlt c77_6).1) (by decide) (by decide) k) ?_
      show Go _ _ _ _ _ _ _  T1 (mkF m 84 #[.val (.ref a1), .val (.int p2)] [])
      refine Go.st (fun t k => XS.iconst X1.here hx rfl (hb hby d2_84) k) ?_
      show Go _ _ _ _ _ _ _  T1 (mkF m 85 #[.val (.ref a1), .val (.int p2)] [(.int (0 : Int32))])
      refine Go.retN X1 hlk hx (t := .boolean) (z' := (0 : Int32)) Bd.returns (by simp) (hb hby d2_85) (by decide) (by decide) rfl ?_
      show Q_rmS Z _ _ _ h0 n0 _ T1.heap _
      rw [e1q]
      exact ⟨by simp [passF, hk, c77_6], N1, rfl⟩
    · refine Go.st (fun t k => XS.ifNo X1.here hx rfl (hb hby d2_77) rfl ((if0 _ _).trans (flt c77_6).1) k) ?_
      show Go _ _ _ _ _ _ _  T1 (mkF m 80 #[.val (.ref a1), .val (.int p2)] [])
      refine Go.st (fun t k => XS.iconst X1.here hx rfl (hb hby d2_80) k) ?_
      show Go _ _ _ _ _ _ _  T1 (mkF m 81 #[.val (.ref a1), .val (.int p2)] [(.int (1 : Int32))])
      refine Go.st (fun t k => XS.goto X1.here hx rfl (pc0 := 81) (pc' := 85) rfl (hb hby d2_81) (by decide) (by decide) k) ?_
      show Go _ _ _ _ _ _ _  T1 (mkF m 85 #[.val (.ref a1), .val (.int p2)] [(.int (1 : Int32))])
      refine Go.retN X1 hlk hx (t := .boolean) (z' := (1 : Int32)) Bd.returns (by simp) (hb hby d2_85) (by decide) (by decide) rfl ?_
      show Q_rmS Z _ _ _ h0 n0 _ T1.heap _
      rw [e1q]
      exact ⟨by simp [passF, hk, c77_6], N1, rfl⟩
def Q_rm0 (Z : State) (p1 : Int32) (p2 : Int32) (w_EQUAL : Addr) (w_LESS : Addr) (w_LESS_OR_EQUAL : Addr) (w_GREATER : Addr) (w_GREATER_OR_EQUAL : Addr) (h0 : Heap) (n0 : Nat) (v : Option Value) (h : Heap) (L : List Loc) : Prop := v = some (.int (1 : Int32)) ∧ Fr n0 L
set_option maxRecDepth 65536 in
set_option maxHeartbeats 40000000 in
theorem rm0 (l : Launch) (Z : State) (a0 : Array Value) (hw : ∀ d ∈ tables_1, d.before a0 Z = true) (ws : List Jvm.Cond) (p1 : Int32) (p2 : Int32) (w_EQUAL : Addr) (w_LESS : Addr) (w_LESS_OR_EQUAL : Addr) (w_GREATER : Addr) (w_GREATER_OR_EQUAL : Addr) (h0 : Heap) (n0 : Nat) (O : Old Z n0 h0) (S_EQUAL : Sta Z Z.heap "com/example/nodewell/nodewell/store/ValueTest$Comparison" "EQUAL" "Lcom/example/nodewell/nodewell/store/ValueTest$Comparison;" (.ref w_EQUAL)) (S_LESS : Sta Z Z.heap "com/example/nodewell/nodewell/store/ValueTest$Comparison" "LESS" "Lcom/example/nodewell/nodewell/store/ValueTest$Comparison;" (.ref w_LESS)) (S_LESS_OR_EQUAL : Sta Z Z.heap "com/example/nodewell/nodewell/store/ValueTest$Comparison" "LESS_OR_EQUAL" "Lcom/example/nodewell/nodewell/store/ValueTest$Comparison;" (.ref w_LESS_OR_EQUAL)) (S_GREATER : Sta Z Z.heap "com/example/nodewell/nodewell/store/ValueTest$Comparison" "GREATER" "Lcom/example/nodewell/nodewell/store/ValueTest$Comparison;" (.ref w_GREATER)) (S_GREATER_OR_EQUAL : Sta Z Z.heap "com/example/nodewell/nodewell/store/ValueTest$Comparison" "GREATER_OR_EQUAL" "Lcom/example/nodewell/nodewell/store/ValueTest$Comparison;" (.ref w_GREATER_OR_EQUAL)) (E_EQUAL : Exa Z Z.heap w_EQUAL "com/example/nodewell/nodewell/store/ValueTest$Comparison") (E_LESS : Exa Z Z.heap w_LESS "com/example/nodewell/nodewell/store/ValueTest$Comparison") (E_LESS_OR_EQUAL : Exa Z Z.heap w_LESS_OR_EQUAL "com/example/nodewell/nodewell/store/ValueTest$Comparison") (E_GREATER : Exa Z Z.heap w_GREATER "com/example/nodewell/nodewell/store/ValueTest$Comparison") (E_GREATER_OR_EQUAL : Exa Z Z.heap w_GREATER_OR_EQUAL "com/example/nodewell/nodewell/store/ValueTest$Comparison") (O_EQUAL : Fld Z Z.heap w_EQUAL "java/lang/Enum" "ordinal" "I" (.int 0)) (O_LESS : Fld Z Z.heap w_LESS "java/lang/Enum" "ordinal" "I" (.int 1)) (O_LESS_OR_EQUAL : Fld Z Z.heap w_LESS_OR_EQUAL "java/lang/Enum" "ordinal" "I" (.int 2)) (O_GREATER : Fld Z Z.heap w_GREATER "java/lang/Enum" "ordinal" "I" (.int 3)) (O_GREATER_OR_EQUAL : Fld Z Z.heap w_GREATER_OR_EQUAL "java/lang/Enum" "ordinal" "I" (.int 4)) :
    MetFree l x (head1 (Jvm.Cond.code x code maxLocals ret :: ws) room_1) (fun a U => a = #[(.int p1), (.int p2)] ∧ Z.Warmed39 U.vm ∧ U.heap = h0) (fun _ _ _ _ _ => True) (fun _ U o U' => ∃ v L, o = .returned v ∧ Q_rm0 Z p1 p2 w_EQUAL w_LESS w_LESS_OR_EQUAL w_GREATER w_GREATER_OR_EQUAL h0 n0 v U'.heap L ∧ FrameEnd U o U' L room_1.cells room_1.slots) := by
  refine MetFree.of_bodySF (plainFor_of_name pn_0) hisR ?_
  intro p e s m args below meth c s₁ Bd hml0 hP hK
  obtain ⟨rfl, hZ, hh⟩ := hP
  have hx := Bd.exec
  have hby := Bd.bytes
  have hml : c.maxLocals = 7 := hml0
  have hown : s.vm.findClass "com/example/nodewell/nodewell/store/ComparisonPassesPinLaw" = some m.cls := findClass_of_methodNamed Bd.named
  have hnm := (name_of_methodNamed Bd.named Bd.method).1
  have hlk : meth.locks = false := BodyLoose.notSynchronized Bd
  have X0 : Stand p l e room_1 s m #[(.int p1), (.int p2)] below meth c s₁ [] 0 0 := Stand.of_body Bd
  have e0 : s₁.heap = h0 := by rw [← hh, Bd.state]; rfl
  have N0 := Fr.nil n0
  show Go p e below s room_1.cells room_1.slots (Q_rm0 Z p1 p2 w_EQUAL w_LESS w_LESS_OR_EQUAL w_GREATER w_GREATER_OR_EQUAL h0 n0) s₁ (entryFrame m #[(.int p1), (.int p2)] maxLocals)
  refine Go.eq (ef_rm0 m p1 p2) ?_
  show Go _ _ _ _ _ _ _  s₁ (mkF m 0 #[.val (.int p1), .val (.int p2), .unset, .unset, .unset, .unset, .unset] [])
  refine Go.st (fun t k => XS.iloadN X0.here hx rfl (hb hby at_0) rfl  k) ?_
  show Go _ _ _ _ _ _ _  s₁ (mkF m 1 #[.val (.int p1), .val (.int p2), .unset, .unset, .unset, .unset, .unset] [(.int p1)])
  refine Go.st (X0.ldcInt hx hown (mvT hZ (hw _ (List.mem_of_getElem? (i := 0) rfl))) (g := (mkF m 1 #[.val (.int p1), .val (.int p2), .unset, .unset, .unset, .unset, .unset] [(.int p1)])) rfl (hb hby at_1)) ?_
  show Go _ _ _ _ _ _ _  s₁ (mkF m 3 #[.val (.int p1), .val (.int p2), .unset, .unset, .unset, .unset, .unset] [(.int (2147483647 : Int32)), (.int p1)])
  refine Go.st (fun t k => XS.iand X0.here hx rfl (hb hby at_3) rfl k) ?_
  show Go _ _ _ _ _ _ _  s₁ (mkF m 4 #[.val (.int p1), .val (.int p2), .unset, .unset, .unset, .unset, .unset] [(.int (p1 &&& (2147483647 : Int32)))])
  refine Go.st (fun t k => XS.iconst X0.here hx rfl (hb hby at_4) k) ?_
  show Go _ _ _ _ _ _ _  s₁ (mkF m 5 #[.val (.int p1), .val (.int p2), .unset, .unset, .unset, .unset, .unset] [(.int (5 : Int32)), (.int (p1 &&& (2147483647 : Int32)))])
  refine Go.st (fun t k => Jvm.RoadKit.iremM X0 hx rfl (hb hby at_5) rfl (by decide) k) ?_
  show Go _ _ _ _ _ _ _  s₁ (mkF m 6 #[.val (.int p1), .val (.int p2), .unset, .unset, .unset, .unset, .unset] [(.int ((p1 &&& (2147483647 : Int32)) % (5 : Int32)))])
  refine Go.st (fun t k => XS.istoreN X0.here hx rfl (hb hby at_6) rfl (l' := #[.val (.int p1), .val (.int p2), .val (.int ((p1 &&& (2147483647 : Int32)) % (5 : Int32))), .unset, .unset, .unset, .unset]) rfl k) ?_
  show Go _ _ _ _ _ _ _  s₁ (mkF m 7 #[.val (.int p1), .val (.int p2), .val (.int ((p1 &&& (2147483647 : Int32)) % (5 : Int32))), .unset, .unset, .unset, .unset] [])
  refine Go.st (fun t k => XS.iconst X0.here hx rfl (hb hby at_7) k) ?_
  show Go _ _ _ _ _ _ _  s₁ (mkF m 8 #[.val (.int p1), .val (.int p2), .val (.int ((p1 &&& (2147483647 : Int32)) % (5 : Int32))), .unset, .unset, .unset, .unset] [(.int (5 : Int32))])
  obtain ⟨T1, h1, k1, X1, e1, E1, A1, st1⟩ := newP X0 hx hZ (hw _ (List.mem_of_getElem? (i := 1) rfl)) e0 (g := (mkF m 8 #[.val (.int p1), .val (.int p2), .val (.int ((p1 &&& (2147483647 : Int32)) % (5 : Int32))), .unset, .unset, .unset, .unset] [(.int (5 : Int32))])) rfl (hb hby at_8) rfl (by decide) (cap := 5) (by decide) (by decide) (by decide) (by decide)
  obtain ⟨b1, g1⟩ : ∃ z, z = h0.size := ⟨_, rfl⟩
  rw [← g1] at A1 st1
  refine Go.st st1 ?_
  have g_b1 : n0 ≤ b1 := by rw [g1]; exact own_le O
  have O := O.ext E1
  have V_b1 : Arv Z h1 b1 k1 .int (5 : Int32) [(.int (0 : Int32)), (.int (0 : Int32)), (.int (0 : Int32)), (.int (0 : Int32)), (.int (0 : Int32))] (.int (0 : Int32)) := (Arv.new A1 (by decide)).pad (pad_rep [] (.int (0 : Int32)) 5)
  show Go _ _ _ _ _ _ _  T1 (mkF m 10 #[.val (.int p1), .val (.int p2), .val (.int ((p1 &&& (2147483647 : Int32)) % (5 : Int32))), .unset, .unset, .unset, .unset] [(.ref b1)])
  refine Go.st (fun t k => XS.dup X1.here hx rfl (hb hby at_10) rfl rfl k) ?_
  show Go _ _ _ _ _ _ _  T1 (mkF m 11 #[.val (.int p1), .val (.int p2), .val (.int ((p1 &&& (2147483647 : Int32)) % (5 : Int32))), .unset, .unset, .unset, .unset] [(.ref b1), (.ref b1)])
  refine Go.st (fun t k => XS.iconst X1.here hx rfl (hb hby at_11) k) ?_
  show Go _ _ _ _ _ _ _  T1 (mkF m 12 #[.val (.int p1), .val (.int p2), .val (.int ((p1 &&& (2147483647 : Int32)) % (5 : Int32))), .unset, .unset, .unset, .unset] [(.int (0 : Int32)), (.ref b1), (.ref b1)])
  refine Go.st (fun t k => XS.iconst X1.here hx rfl (hb hby at_12) k) ?_
  show Go _ _ _ _ _ _ _  T1 (mkF m 13 #[.val (.int p1), .val (.int p2), .val (.int ((p1 &&& (2147483647 : Int32)) % (5 : Int32))), .unset, .unset, .unset, .unset] [(.int (2 : Int32)), (.int (0 : Int32)), (.ref b1), (.ref b1)])
  obtain ⟨cl2, Ar2, q2, S2, M2, Hh2, G2⟩ := V_b1
  obtain ⟨T3, h3, X3, e3, W3, st3⟩ := stI X1 hx hZ e1 Ar2 (j := (0 : Int32)) (inb_of S2 ⟨by decide, by decide⟩) (g := (mkF m 13 #[.val (.int p1), .val (.int p2), .val (.int ((p1 &&& (2147483647 : Int32)) % (5 : Int32))), .unset, .unset, .unset, .unset] [(.int (2 : Int32)), (.int (0 : Int32)), (.ref b1), (.ref b1)])) rfl rfl (hb hby at_13)
  refine Go.st st3 ?_
  have V_b1 : Arv Z h3 b1 k1 .int (5 : Int32) [(.int (2 : Int32)), (.int (0 : Int32)), (.int (0 : Int32)), (.int (0 : Int32)), (.int (0 : Int32))] (.int (0 : Int32)) := Arv.set Ar2 q2 S2 M2 Hh2 G2 rfl W3 0 rfl (Nat.le_of_ble_eq_true rfl)
  have N3 := Fr.snoc X3 N0 g_b1
  have O := O.wr W3 g_b1
  show Go _ _ _ _ _ _ _  T3 (mkF m 14 #[.val (.int p1), .val (.int p2), .val (.int ((p1 &&& (2147483647 : Int32)) % (5 : Int32))), .unset, .unset, .unset, .unset] [(.ref b1)])
  refine Go.st (fun t k => XS.dup X3.here hx rfl (hb hby at_14) rfl rfl k) ?_
  show Go _ _ _ _ _ _ _  T3 (mkF m 15 #[.val (.int p1), .val (.int p2), .val (.int ((p1 &&& (2147483647 : Int32)) % (5 : Int32))), .unset, .unset, .unset, .unset] [(.ref b1), (.ref b1)])
  refine Go.st (fun t k => XS.iconst X3.here hx rfl (hb hby at_15) k) ?_
  show Go _ _ _ _ _ _ _  T3 (mkF m 16 #[.val (.int p1), .val (.int p2), .val (.int ((p1 &&& (2147483647 : Int32)) % (5 : Int32))), .unset, .unset, .unset, .unset] [(.int (1 : Int32)), (.ref b1), (.ref b1)])
  refine Go.st (fun t k => XS.iconst X3.here hx rfl (hb hby at_16) k) ?_
  show Go _ _ _ _ _ _ _  T3 (mkF m 17 #[.val (.int p1), .val (.int p2), .val (.int ((p1 &&& (2147483647 : Int32)) % (5 : Int32))), .unset, .unset, .unset, .unset] [(.int (1 : Int32)), (.int (1 : Int32)), (.ref b1), (.ref b1)])
  obtain ⟨cl4, Ar4, q4, S4, M4, Hh4, G4⟩ := V_b1
  obtain ⟨T5, h5, X5, e5, W5, st5⟩ := stI X3 hx hZ e3 Ar4 (j := (1 : Int32)) (inb_of S4 ⟨by decide, by decide⟩) (g := (mkF m 17 #[.val (.int p1), .val (.int p2), .val (.int ((p1 &&& (2147483647 : Int32)) % (5 : Int32))), .unset, .unset, .unset, .unset] [(.int (1 : Int32)), (.int (1 : Int32)), (.ref b1), (.ref b1)])) rfl rfl (hb hby at_17)
  refine Go.st st5 ?_
  have V_b1 : Arv Z h5 b1 k1 .int (5 : Int32) [(.int (2 : Int32)), (.int (1 : Int32)), (.int (0 : Int32)), (.int (0 : Int32)), (.int (0 : Int32))] (.int (0 : Int32)) := Arv.set Ar4 q4 S4 M4 Hh4 G4 rfl W5 1 rfl (Nat.le_of_ble_eq_true rfl)
  have N5 := Fr.snoc X5 N3 g_b1
  have O := O.wr W5 g_b1
  show Go _ _ _ _ _ _ _  T5 (mkF m 18 #[.val (.int p1), .val (.int p2), .val (.int ((p1 &&& (2147483647 : Int32)) % (5 : Int32))), .unset, .unset, .unset, .unset] [(.ref b1)])
  refine Go.st (fun t k => XS.dup X5.here hx rfl (hb hby at_18) rfl rfl k) ?_
  show Go _ _ _ _ _ _ _  T5 (mkF m 19 #[.val (.int p1), .val (.int p2), .val (.int ((p1 &&& (2147483647 : Int32)) % (5 : Int32))), .unset, .unset, .unset, .unset] [(.ref b1), (.ref b1)])
  refine Go.st (fun t k => XS.iconst X5.here hx rfl (hb hby at_19) k) ?_
  show Go _ _ _ _ _ _ _  T5 (mkF m 20 #[.val (.int p1), .val (.int p2), .val (.int ((p1 &&& (2147483647 : Int32)) % (5 : Int32))), .unset, .unset, .unset, .unset] [(.int (2 : Int32)), (.ref b1), (.ref b1)])
  refine Go.st (fun t k => XS.iconst X5.here hx rfl (hb hby at_20) k) ?_
  show Go _ _ _ _ _ _ _  T5 (mkF m 21 #[.val (.int p1), .val (.int p2), .val (.int ((p1 &&& (2147483647 : Int32)) % (5 : Int32))), .unset, .unset, .unset, .unset] [(.int (3 : Int32)), (.int (2 : Int32)), (.ref b1), (.ref b1)])
  obtain ⟨cl6, Ar6, q6, S6, M6, Hh6, G6⟩ := V_b1
  obtain ⟨T7, h7, X7, e7, W7, st7⟩ := stI X5 hx hZ e5 Ar6 (j := (2 : Int32)) (inb_of S6 ⟨by decide, by decide⟩) (g := (mkF m 21 #[.val (.int p1), .val (.int p2), .val (.int ((p1 &&& (2147483647 : Int32)) % (5 : Int32))), .unset, .unset, .unset, .unset] [(.int (3 : Int32)), (.int (2 : Int32)), (.ref b1), (.ref b1)])) rfl rfl (hb hby at_21)
  refine Go.st st7 ?_
  have V_b1 : Arv Z h7 b1 k1 .int (5 : Int32) [(.int (2 : Int32)), (.int (1 : Int32)), (.int (3 : Int32)), (.int (0 : Int32)), (.int (0 : Int32))] (.int (0 : Int32)) := Arv.set Ar6 q6 S6 M6 Hh6 G6 rfl W7 2 rfl (Nat.le_of_ble_eq_true rfl)
  have N7 := Fr.snoc X7 N5 g_b1
  have O := O.wr W7 g_b1
  show Go _ _ _ _ _ _ _  T7 (mkF m 22 #[.val (.int p1), .val (.int p2), .val (.int ((p1 &&& (2147483647 : Int32)) % (5 : Int32))), .unset, .unset, .unset, .unset] [(.ref b1)])
  refine Go.st (fun t k => XS.dup X7.here hx rfl (hb hby at_22) rfl rfl k) ?_
  show Go _ _ _ _ _ _ _  T7 (mkF m 23 #[.val (.int p1), .val (.int p2), .val (.int ((p1 &&& (2147483647 : Int32)) % (5 : Int32))), .unset, .unset, .unset, .unset] [(.ref b1), (.ref b1)])
  refine Go.st (fun t k => XS.iconst X7.here hx rfl (hb hby at_23) k) ?_
  show Go _ _ _ _ _ _ _  T7 (mkF m 24 #[.val (.int p1), .val (.int p2), .val (.int ((p1 &&& (2147483647 : Int32)) % (5 : Int32))), .unset, .unset, .unset, .unset] [(.int (3 : Int32)), (.ref b1), (.ref b1)])
  refine Go.st (fun t k => XS.iconst X7.here hx rfl (hb hby at_24) k) ?_
  show Go _ _ _ _ _ _ _  T7 (mkF m 25 #[.val (.int p1), .val (.int p2), .val (.int ((p1 &&& (2147483647 : Int32)) % (5 : Int32))), .unset, .unset, .unset, .unset] [(.int (4 : Int32)), (.int (3 : Int32)), (.ref b1), (.ref b1)])
  obtain ⟨cl8, Ar8, q8, S8, M8, Hh8, G8⟩ := V_b1
  obtain ⟨T9, h9, X9, e9, W9, st9⟩ := stI X7 hx hZ e7 Ar8 (j := (3 : Int32)) (inb_of S8 ⟨by decide, by decide⟩) (g := (mkF m 25 #[.val (.int p1), .val (.int p2), .val (.int ((p1 &&& (2147483647 : Int32)) % (5 : Int32))), .unset, .unset, .unset, .unset] [(.int (4 : Int32)), (.int (3 : Int32)), (.ref b1), (.ref b1)])) rfl rfl (hb hby at_25)
  refine Go.st st9 ?_
  have V_b1 : Arv Z h9 b1 k1 .int (5 : Int32) [(.int (2 : Int32)), (.int (1 : Int32)), (.int (3 : Int32)), (.int (4 : Int32)), (.int (0 : Int32))] (.int (0 : Int32)) := Arv.set Ar8 q8 S8 M8 Hh8 G8 rfl W9 3 rfl (Nat.le_of_ble_eq_true rfl)
  have N9 := Fr.snoc X9 N7 g_b1
  have O := O.wr W9 g_b1
  show Go _ _ _ _ _ _ _  T9 (mkF m 26 #[.val (.int p1), .val (.int p2), .val (.int ((p1 &&& (2147483647 : Int32)) % (5 : Int32))), .unset, .unset, .unset, .unset] [(.ref b1)])
  refine Go.st (fun t k => XS.dup X9.here hx rfl (hb hby at_26) rfl rfl k) ?_
  show Go _ _ _ _ _ _ _  T9 (mkF m 27 #[.val (.int p1), .val (.int p2), .val (.int ((p1 &&& (2147483647 : Int32)) % (5 : Int32))), .unset, .unset, .unset, .unset] [(.ref b1), (.ref b1)])
  refine Go.st (fun t k => XS.iconst X9.here hx rfl (hb hby at_27) k) ?_
  show Go _ _ _ _ _ _ _  T9 (mkF m 28 #[.val (.int p1), .val (.int p2), .val (.int ((p1 &&& (2147483647 : Int32)) % (5 : Int32))), .unset, .unset, .unset, .unset] [(.int (4 : Int32)), (.ref b1), (.ref b1)])
  refine Go.st (fun t k => XS.bipush X9.here hx rfl (hb hby at_28) k) ?_
  show Go _ _ _ _ _ _ _  T9 (mkF m 30 #[.val (.int p1), .val (.int p2), .val (.int ((p1 &&& (2147483647 : Int32)) % (5 : Int32))), .unset, .unset, .unset, .unset] [(.int (6 : Int32)), (.int (4 : Int32)), (.ref b1), (.ref b1)])
  obtain ⟨cl10, Ar10, q10, S10, M10, Hh10, G10⟩ := V_b1
  obtain ⟨T11, h11, X11, e11, W11, st11⟩ := stI X9 hx hZ e9 Ar10 (j := (4 : Int32)) (inb_of S10 ⟨by decide, by decide⟩) (g := (mkF m 30 #[.val (.int p1), .val (.int p2), .val (.int ((p1 &&& (2147483647 : Int32)) % (5 : Int32))), .unset, .unset, .unset, .unset] [(.int (6 : Int32)), (.int (4 : Int32)), (.ref b1), (.ref b1)])) rfl rfl (hb hby at_30)
  refine Go.st st11 ?_
  have V_b1 : Arv Z h11 b1 k1 .int (5 : Int32) [(.int (2 : Int32)), (.int (1 : Int32)), (.int (3 : Int32)), (.int (4 : Int32)), (.int (6 : Int32))] (.int (0 : Int32)) := Arv.set Ar10 q10 S10 M10 Hh10 G10 rfl W11 4 rfl (Nat.le_of_ble_eq_true rfl)
  have N11 := Fr.snoc X11 N9 g_b1
  have O := O.wr W11 g_b1
  show Go _ _ _ _ _ _ _  T11 (mkF m 31 #[.val (.int p1), .val (.int p2), .val (.int ((p1 &&& (2147483647 : Int32)) % (5 : Int32))), .unset, .unset, .unset, .unset] [(.ref b1)])
  refine Go.st (fun t k => XS.astoreN X11.here hx rfl (hb hby at_31) rfl rfl (l' := #[.val (.int p1), .val (.int p2), .val (.int ((p1 &&& (2147483647 : Int32)) % (5 : Int32))), .val (.ref b1), .unset, .unset, .unset]) rfl k) ?_
  show Go _ _ _ _ _ _ _  T11 (mkF m 32 #[.val (.int p1), .val (.int p2), .val (.int ((p1 &&& (2147483647 : Int32)) % (5 : Int32))), .val (.ref b1), .unset, .unset, .unset] [])
  refine Go.st (fun t k => XS.iloadN X11.here hx rfl (hb hby at_32) rfl  k) ?_
  show Go _ _ _ _ _ _ _  T11 (mkF m 33 #[.val (.int p1), .val (.int p2), .val (.int ((p1 &&& (2147483647 : Int32)) % (5 : Int32))), .val (.ref b1), .unset, .unset, .unset] [(.int p2)])
  by_cases c33_12 : p2 < (0 : Int32)
  · refine Go.st (fun t k => XS.ifNo X11.here hx rfl (hb hby at_33) rfl ((if0 _ _).trans (tlt c33_12).2.1) k) ?_
    show Go _ _ _ _ _ _ _  T11 (mkF m 36 #[.val (.int p1), .val (.int p2), .val (.int ((p1 &&& (2147483647 : Int32)) % (5 : Int32))), .val (.ref b1), .unset, .unset, .unset] [])
    refine Go.st (fun t k => XS.iconst X11.here hx rfl (hb hby at_36) k) ?_
    show Go _ _ _ _ _ _ _  T11 (mkF m 37 #[.val (.int p1), .val (.int p2), .val (.int ((p1 &&& (2147483647 : Int32)) % (5 : Int32))), .val (.ref b1), .unset, .unset, .unset] [(.int (0 : Int32))])
    refine Go.st (fun t k => XS.istore X11.here hx rfl (hb hby at_37) rfl (l' := #[.val (.int p1), .val (.int p2), .val (.int ((p1 &&& (2147483647 : Int32)) % (5 : Int32))), .val (.ref b1), .val (.int (0 : Int32)), .unset, .unset]) rfl k) ?_
    show Go _ _ _ _ _ _ _  T11 (mkF m 39 #[.val (.int p1), .val (.int p2), .val (.int ((p1 &&& (2147483647 : Int32)) % (5 : Int32))), .val (.ref b1), .val (.int (0 : Int32)), .unset, .unset] [])
    refine Go.st (fun t k => XS.goto X11.here hx rfl (pc0 := 39) (pc' := 55) rfl (hb hby at_39) (by decide) (by decide) k) ?_
    show Go _ _ _ _ _ _ _  T11 (mkF m 55 #[.val (.int p1), .val (.int p2), .val (.int ((p1 &&& (2147483647 : Int32)) % (5 : Int32))), .val (.ref b1), .val (.int (0 : Int32)), .unset, .unset] [])
    have hs : p2 < (0 : Int32) := c33_12
    rcases own_mod5 p1 with sp13 | sp13 | sp13 | sp13 | sp13
    · rw [sp13]
      show Go _ _ _ _ _ _ _  T11 (mkF m 55 #[.val (.int p1), .val (.int p2), .val (.int (0 : Int32)), .val (.ref b1), .val (.int (0 : Int32)), .unset, .unset] [])
      refine Go.st (fun t k => XS.aloadN X11.here hx rfl (hb hby at_55) rfl rfl  k) ?_
      show Go _ _ _ _ _ _ _  T11 (mkF m 56 #[.val (.int p1), .val (.int p2), .val (.int (0 : Int32)), .val (.ref b1), .val (.int (0 : Int32)), .unset, .unset] [(.ref b1)])
      refine Go.st (fun t k => XS.iloadN X11.here hx rfl (hb hby at_56) rfl  k) ?_
      show Go _ _ _ _ _ _ _  T11 (mkF m 57 #[.val (.int p1), .val (.int p2), .val (.int (0 : Int32)), .val (.ref b1), .val (.int (0 : Int32)), .unset, .unset] [(.int (0 : Int32)), (.ref b1)])
      obtain ⟨cl14, Ar14, q14, S14, M14, Hh14, G14⟩ := id V_b1
      refine Go.st (X11.iaload hx (j := (0 : Int32)) (v := (.int (2 : Int32))) (by rw [e11]; exact Ar14.1) (State.isArrayOf_alike hZ.alike Ar14.2.1) Ar14.2.2 (inb_of S14 ⟨by decide, by decide⟩) (Hh14.at (inb_of S14 ⟨by decide, by decide⟩) rfl) (g := (mkF m 57 #[.val (.int p1), .val (.int p2), .val (.int (0 : Int32)), .val (.ref b1), .val (.int (0 : Int32)), .unset, .unset] [(.int (0 : Int32)), (.ref b1)])) rfl rfl (hb hby at_57)) ?_
      show Go _ _ _ _ _ _ _  T11 (mkF m 58 #[.val (.int p1), .val (.int p2), .val (.int (0 : Int32)), .val (.ref b1), .val (.int (0 : Int32)), .unset, .unset] [(.int (2 : Int32))])
      refine Go.st (fun t k => XS.iload X11.here hx rfl (hb hby at_58) rfl  k) ?_
      show Go _ _ _ _ _ _ _  T11 (mkF m 60 #[.val (.int p1), .val (.int p2), .val (.int (0 : Int32)), .val (.ref b1), .val (.int (0 : Int32)), .unset, .unset] [(.int (0 : Int32)), (.int (2 : Int32))])
      refine Go.st (fun t k => XS.ishr X11.here hx rfl (hb hby at_60) rfl k) ?_
      show Go _ _ _ _ _ _ _  T11 (mkF m 61 #[.val (.int p1), .val (.int p2), .val (.int (0 : Int32)), .val (.ref b1), .val (.int (0 : Int32)), .unset, .unset] [(.int ((2 : Int32) >>> ((0 : Int32) &&& 31)))])
      refine Go.st (fun t k => XS.iconst X11.here hx rfl (hb hby at_61) k) ?_
      show Go _ _ _ _ _ _ _  T11 (mkF m 62 #[.val (.int p1), .val (.int p2), .val (.int (0 : Int32)), .val (.ref b1), .val (.int (0 : Int32)), .unset, .unset] [(.int (1 : Int32)), (.int ((2 : Int32) >>> ((0 : Int32) &&& 31)))])
      refine Go.st (fun t k => XS.iand X11.here hx rfl (hb hby at_62) rfl k) ?_
      show Go _ _ _ _ _ _ _  T11 (mkF m 63 #[.val (.int p1), .val (.int p2), .val (.int (0 : Int32)), .val (.ref b1), .val (.int (0 : Int32)), .unset, .unset] [(.int (((2 : Int32) >>> ((0 : Int32) &&& 31)) &&& (1 : Int32)))])
      refine Go.st (fun t k => XS.ifYes X11.here hx rfl (pc0 := 63) (pc' := 70) rfl (hb hby at_63) rfl ((if0 _ _).trans (teq (by decide : (((2 : Int32) >>> ((0 : Int32) &&& 31)) &&& (1 : Int32)) = (0 : Int32))).1) (by decide) (by decide) k) ?_
      show Go _ _ _ _ _ _ _  T11 (mkF m 70 #[.val (.int p1), .val (.int p2), .val (.int (0 : Int32)), .val (.ref b1), .val (.int (0 : Int32)), .unset, .unset] [])
      refine Go.st (fun t k => XS.iconst X11.here hx rfl (hb hby at_70) k) ?_
      show Go _ _ _ _ _ _ _  T11 (mkF m 71 #[.val (.int p1), .val (.int p2), .val (.int (0 : Int32)), .val (.ref b1), .val (.int (0 : Int32)), .unset, .unset] [(.int (0 : Int32))])
      refine Go.st (fun t k => XS.istore X11.here hx rfl (hb hby at_71) rfl (l' := #[.val (.int p1), .val (.int p2), .val (.int (0 : Int32)), .val (.ref b1), .val (.int (0 : Int32)), .val (.int (0 : Int32)), .unset]) rfl k) ?_
      show Go _ _ _ _ _ _ _  T11 (mkF m 73 #[.val (.int p1), .val (.int p2), .val (.int (0 : Int32)), .val (.ref b1), .val (.int (0 : Int32)), .val (.int (0 : Int32)), .unset] [])
      refine Go.st (fun t k => XS.iloadN X11.here hx rfl (hb hby at_73) rfl  k) ?_
      show Go _ _ _ _ _ _ _  T11 (mkF m 74 #[.val (.int p1), .val (.int p2), .val (.int (0 : Int32)), .val (.ref b1), .val (.int (0 : Int32)), .val (.int (0 : Int32)), .unset] [(.int (0 : Int32))])
      obtain ⟨_, _, ⟨T15, L15, k15, n15⟩, -, X15, ⟨Lc15, hQ15, l15, y15, z15⟩, st15⟩ := Jvm.LawKit.callS X11 hx (y := (⟨"com/example/nodewell/nodewell/store/ComparisonPassesPinLaw", "pick", "(I)Lcom/example/nodewell/nodewell/store/ValueTest$Comparison;"⟩ : MethodName)) hown (mvT hZ (hw _ (List.mem_of_getElem? (i := 2) rfl))) (mvT hZ (hw _ (List.mem_of_getElem? (i := 3) rfl))) (mvT hZ (hw _ (List.mem_of_getElem? (i := 4) rfl))) (mvT hZ (hw _ (List.mem_of_getElem? (i := 5) rfl))) (by decide) (backOf (W := 0) (rmP l Z a0 hw [] (0 : Int32) w_EQUAL w_LESS w_LESS_OR_EQUAL w_GREATER w_GREATER_OR_EQUAL h11 n0 O S_EQUAL S_LESS S_LESS_OR_EQUAL S_GREATER S_GREATER_OR_EQUAL) hZ (hw _ (List.mem_of_getElem? (i := 5) rfl)) (hw _ (List.mem_of_getElem? (i := 4) rfl)) (by decide) (by decide)) (g := (mkF m 74 #[.val (.int p1), .val (.int p2), .val (.int (0 : Int32)), .val (.ref b1), .val (.int (0 : Int32)), .val (.int (0 : Int32)), .unset] [(.int (0 : Int32))])) rfl (by rw [hml]; rfl) (argsL := [(.int (0 : Int32))]) (rest := []) (lenOf pd__I_Lcom_example_nodewell_nodewell_store_ValueTest_Comparison_ rfl) rfl (by show 2 * 0 + _ ≤ _; exact Nat.le_of_eq rfl) (hb hby at_74) (fun _ _ => ⟨rfl, e11, (by decide : 1 + 0 ≤ _), (by decide : 5 + 0 ≤ _)⟩)
      dsimp only [Pt.U, Pt.locs, Pt.cells, Pt.slots] at X15 l15 y15 z15 st15 hQ15
      subst l15 y15 z15
      obtain ⟨rfl, N15q, e15q⟩ := hQ15
      have N15 := Fr.app N11 N15q
      refine Go.st st15 ?_
      rw [show pickF (0 : Int32) w_EQUAL w_LESS w_LESS_OR_EQUAL w_GREATER w_GREATER_OR_EQUAL = w_EQUAL from by simp [pickF]]
      show Go _ _ _ _ _ _ _  T15 (mkF m 77 #[.val (.int p1), .val (.int p2), .val (.int (0 : Int32)), .val (.ref b1), .val (.int (0 : Int32)), .val (.int (0 : Int32)), .unset] [(.ref w_EQUAL)])
      refine Go.st (fun t k => XS.astore X15.here hx rfl (hb hby at_77) rfl rfl (l' := #[.val (.int p1), .val (.int p2), .val (.int (0 : Int32)), .val (.ref b1), .val (.int (0 : Int32)), .val (.int (0 : Int32)), .val (.ref w_EQUAL)]) rfl k) ?_
      show Go _ _ _ _ _ _ _  T15 (mkF m 79 #[.val (.int p1), .val (.int p2), .val (.int (0 : Int32)), .val (.ref b1), .val (.int (0 : Int32)), .val (.int (0 : Int32)), .val (.ref w_EQUAL)] [])
      refine Go.st (fun t k => XS.aload X15.here hx rfl (hb hby at_79) rfl rfl  k) ?_
      show Go _ _ _ _ _ _ _  T15 (mkF m 81 #[.val (.int p1), .val (.int p2), .val (.int (0 : Int32)), .val (.ref b1), .val (.int (0 : Int32)), .val (.int (0 : Int32)), .val (.ref w_EQUAL)] [(.ref w_EQUAL)])
      refine Go.st (fun t k => XS.iloadN X15.here hx rfl (hb hby at_81) rfl  k) ?_
      show Go _ _ _ _ _ _ _  T15 (mkF m 82 #[.val (.int p1), .val (.int p2), .val (.int (0 : Int32)), .val (.ref b1), .val (.int (0 : Int32)), .val (.int (0 : Int32)), .val (.ref w_EQUAL)] [(.int p2), (.ref w_EQUAL)])
      obtain ⟨cq16, kq16, q16a, q16b, q16c⟩ := isOf hZ e15q (E_EQUAL.ext O.2)
      obtain ⟨_, _, ⟨T16, L16, k16, n16⟩, -, X16, ⟨Lc16, hQ16, l16, y16, z16⟩, st16⟩ := X15.virtualBack hx (y := (⟨"com/example/nodewell/nodewell/store/ValueTest$Comparison", "passes", "(I)Z"⟩ : MethodName)) (z := (⟨"com/example/nodewell/nodewell/store/ValueTest$Comparison", "passes", "(I)Z"⟩ : MethodName)) hown (mvT hZ (hw _ (List.mem_of_getElem? (i := 9) rfl))) (mvT hZ (hw _ (List.mem_of_getElem? (i := 10) rfl))) (notFace_of_selects (args := #[]) (mvT hZ (hw _ (List.mem_of_getElem? (i := 12) rfl)))) (mvT hZ (hw _ (List.mem_of_getElem? (i := 12) rfl))) (mvT hZ (hw _ (List.mem_of_getElem? (i := 11) rfl))) (by decide) (backOf (W := 0) (rmS l Z a0 hw [] w_EQUAL p2 0 h11 n0 O O_EQUAL E_EQUAL (by decide)) hZ (hw _ (List.mem_of_getElem? (i := 13) rfl)) (hw _ (List.mem_of_getElem? (i := 7) rfl)) (by decide) (by decide)) q16a q16c (g := (mkF m 82 #[.val (.int p1), .val (.int p2), .val (.int (0 : Int32)), .val (.ref b1), .val (.int (0 : Int32)), .val (.int (0 : Int32)), .val (.ref w_EQUAL)] [(.int p2), (.ref w_EQUAL)])) rfl (by rw [hml]; rfl) (Steps.refl _) (argsL := [(.int p2)]) (rest := []) (lenOf pd__I_Z rfl) rfl (by show 2 * 0 + _ ≤ _; exact Nat.le_of_eq rfl) (hb hby at_82) (fun _ _ => ⟨rfl, e15q, (by decide : 1 + 0 ≤ _), (by decide : 5 + 0 ≤ _)⟩)
      dsimp only [Pt.U, Pt.locs, Pt.cells, Pt.slots] at X16 l16 y16 z16 st16 hQ16
      subst l16 y16 z16
      obtain ⟨rfl, N16q, e16q⟩ := hQ16
      have N16 := Fr.app N15 N16q
      refine Go.tr st16 ?_
      rw [show passF 0 p2 = (0 : Int32) from own_pass00 hs]
      show Go _ _ _ _ _ _ _  T16 (mkF m 85 #[.val (.int p1), .val (.int p2), .val (.int (0 : Int32)), .val (.ref b1), .val (.int (0 : Int32)), .val (.int (0 : Int32)), .val (.ref w_EQUAL)] [(.int (0 : Int32))])
      refine Go.st (fun t k => XS.iload X16.here hx rfl (hb hby at_85) rfl  k) ?_
      show Go _ _ _ _ _ _ _  T16 (mkF m 87 #[.val (.int p1), .val (.int p2), .val (.int (0 : Int32)), .val (.ref b1), .val (.int (0 : Int32)), .val (.int (0 : Int32)), .val (.ref w_EQUAL)] [(.int (0 : Int32)), (.int (0 : Int32))])
      refine Go.st (fun t k => XS.icmpNo X16.here hx rfl (hb hby at_87) rfl (teq (rfl : (0 : Int32) = (0 : Int32))).2 k) ?_
      show Go _ _ _ _ _ _ _  T16 (mkF m 90 #[.val (.int p1), .val (.int p2), .val (.int (0 : Int32)), .val (.ref b1), .val (.int (0 : Int32)), .val (.int (0 : Int32)), .val (.ref w_EQUAL)] [])
      refine Go.st (fun t k => XS.iconst X16.here hx rfl (hb hby at_90) k) ?_
      show Go _ _ _ _ _ _ _  T16 (mkF m 91 #[.val (.int p1), .val (.int p2), .val (.int (0 : Int32)), .val (.ref b1), .val (.int (0 : Int32)), .val (.int (0 : Int32)), .val (.ref w_EQUAL)] [(.int (1 : Int32))])
      refine Go.st (fun t k => XS.goto X16.here hx rfl (pc0 := 91) (pc' := 95) rfl (hb hby at_91) (by decide) (by decide) k) ?_
      show Go _ _ _ _ _ _ _  T16 (mkF m 95 #[.val (.int p1), .val (.int p2), .val (.int (0 : Int32)), .val (.ref b1), .val (.int (0 : Int32)), .val (.int (0 : Int32)), .val (.ref w_EQUAL)] [(.int (1 : Int32))])
      refine Go.retN X16 hlk hx (t := .boolean) (z' := (1 : Int32)) Bd.returns (by simp) (hb hby at_95) (by decide) (by decide) rfl ?_
      show Q_rm0 Z _ _ _ _ _ _ _ h0 n0 _ T16.heap _
      rw [e16q]
      exact ⟨rfl, N16⟩
    · rw [sp13]
      show Go _ _ _ _ _ _ _  T11 (mkF m 55 #[.val (.int p1), .val (.int p2), .val (.int (1 : Int32)), .val (.ref b1), .val (.int (0 : Int32)), .unset, .unset] [])
      refine Go.st (fun t k => XS.aloadN X11.here hx rfl (hb hby at_55) rfl rfl  k) ?_
      show Go _ _ _ _ _ _ _  T11 (mkF m 56 #[.val (.int p1), .val (.int p2), .val (.int (1 : Int32)), .val (.ref b1), .val (.int (0 : Int32)), .unset, .unset] [(.ref b1)])
      refine Go.st (fun t k => XS.iloadN X11.here hx rfl (hb hby at_56) rfl  k) ?_
      show Go _ _ _ _ _ _ _  T11 (mkF m 57 #[.val (.int p1), .val (.int p2), .val (.int (1 : Int32)), .val (.ref b1), .val (.int (0 : Int32)), .unset, .unset] [(.int (1 : Int32)), (.ref b1)])
      obtain ⟨cl17, Ar17, q17, S17, M17, Hh17, G17⟩ := id V_b1
      refine Go.st (X11.iaload hx (j := (1 : Int32)) (v := (.int (1 : Int32))) (by rw [e11]; exact Ar17.1) (State.isArrayOf_alike hZ.alike Ar17.2.1) Ar17.2.2 (inb_of S17 ⟨by decide, by decide⟩) (Hh17.at (inb_of S17 ⟨by decide, by decide⟩) rfl) (g := (mkF m 57 #[.val (.int p1), .val (.int p2), .val (.int (1 : Int32)), .val (.ref b1), .val (.int (0 : Int32)), .unset, .unset] [(.int (1 : Int32)), (.ref b1)])) rfl rfl (hb hby at_57)) ?_
      show Go _ _ _ _ _ _ _  T11 (mkF m 58 #[.val (.int p1), .val (.int p2), .val (.int (1 : Int32)), .val (.ref b1), .val (.int (0 : Int32)), .unset, .unset] [(.int (1 : Int32))])
      refine Go.st (fun t k => XS.iload X11.here hx rfl (hb hby at_58) rfl  k) ?_
      show Go _ _ _ _ _ _ _  T11 (mkF m 60 #[.val (.int p1), .val (.int p2), .val (.int (1 : Int32)), .val (.ref b1), .val (.int (0 : Int32)), .unset, .unset] [(.int (0 : Int32)), (.int (1 : Int32))])
      refine Go.st (fun t k => XS.ishr X11.here hx rfl (hb hby at_60) rfl k) ?_
      show Go _ _ _ _ _ _ _  T11 (mkF m 61 #[.val (.int p1), .val (.int p2), .val (.int (1 : Int32)), .val (.ref b1), .val (.int (0 : Int32)), .unset, .unset] [(.int ((1 : Int32) >>> ((0 : Int32) &&& 31)))])
      refine Go.st (fun t k => XS.iconst X11.here hx rfl (hb hby at_61) k) ?_
      show Go _ _ _ _ _ _ _  T11 (mkF m 62 #[.val (.int p1), .val (.int p2), .val (.int (1 : Int32)), .val (.ref b1), .val (.int (0 : Int32)), .unset, .unset] [(.int (1 : Int32)), (.int ((1 : Int32) >>> ((0 : Int32) &&& 31)))])
      refine Go.st (fun t k => XS.iand X11.here hx rfl (hb hby at_62) rfl k) ?_
      show Go _ _ _ _ _ _ _  T11 (mkF m 63 #[.val (.int p1), .val (.int p2), .val (.int (1 : Int32)), .val (.ref b1), .val (.int (0 : Int32)), .unset, .unset] [(.int (((1 : Int32) >>> ((0 : Int32) &&& 31)) &&& (1 : Int32)))])
      refine Go.st (fun t k => XS.ifNo X11.here hx rfl (hb hby at_63) rfl ((if0 _ _).trans (feq (by decide : ¬ ((((1 : Int32) >>> ((0 : Int32) &&& 31)) &&& (1 : Int32)) = (0 : Int32)))).1) k) ?_
      show Go _ _ _ _ _ _ _  T11 (mkF m 66 #[.val (.int p1), .val (.int p2), .val (.int (1 : Int32)), .val (.ref b1), .val (.int (0 : Int32)), .unset, .unset] [])
      refine Go.st (fun t k => XS.iconst X11.here hx rfl (hb hby at_66) k) ?_
      show Go _ _ _ _ _ _ _  T11 (mkF m 67 #[.val (.int p1), .val (.int p2), .val (.int (1 : Int32)), .val (.ref b1), .val (.int (0 : Int32)), .unset, .unset] [(.int (1 : Int32))])
      refine Go.st (fun t k => XS.goto X11.here hx rfl (pc0 := 67) (pc' := 71) rfl (hb hby at_67) (by decide) (by decide) k) ?_
      show Go _ _ _ _ _ _ _  T11 (mkF m 71 #[.val (.int p1), .val (.int p2), .val (.int (1 : Int32)), .val (.ref b1), .val (.int (0 : Int32)), .unset, .unset] [(.int (1 : Int32))])
      refine Go.st (fun t k => XS.istore X11.here hx rfl (hb hby at_71) rfl (l' := #[.val (.int p1), .val (.int p2), .val (.int (1 : Int32)), .val (.ref b1), .val (.int (0 : Int32)), .val (.int (1 : Int32)), .unset]) rfl k) ?_
      show Go _ _ _ _ _ _ _  T11 (mkF m 73 #[.val (.int p1), .val (.int p2), .val (.int (1 : Int32)), .val (.ref b1), .val (.int (0 : Int32)), .val (.int (1 : Int32)), .unset] [])
      refine Go.st (fun t k => XS.iloadN X11.here hx rfl (hb hby at_73) rfl  k) ?_
      show Go _ _ _ _ _ _ _  T11 (mkF m 74 #[.val (.int p1), .val (.int p2), .val (.int (1 : Int32)), .val (.ref b1), .val (.int (0 : Int32)), .val (.int (1 : Int32)), .unset] [(.int (1 : Int32))])
      obtain ⟨_, _, ⟨T18, L18, k18, n18⟩, -, X18, ⟨Lc18, hQ18, l18, y18, z18⟩, st18⟩ := Jvm.LawKit.callS X11 hx (y := (⟨"com/example/nodewell/nodewell/store/ComparisonPassesPinLaw", "pick", "(I)Lcom/example/nodewell/nodewell/store/ValueTest$Comparison;"⟩ : MethodName)) hown (mvT hZ (hw _ (List.mem_of_getElem? (i := 2) rfl))) (mvT hZ (hw _ (List.mem_of_getElem? (i := 3) rfl))) (mvT hZ (hw _ (List.mem_of_getElem? (i := 4) rfl))) (mvT hZ (hw _ (List.mem_of_getElem? (i := 5) rfl))) (by decide) (backOf (W := 0) (rmP l Z a0 hw [] (1 : Int32) w_EQUAL w_LESS w_LESS_OR_EQUAL w_GREATER w_GREATER_OR_EQUAL h11 n0 O S_EQUAL S_LESS S_LESS_OR_EQUAL S_GREATER S_GREATER_OR_EQUAL) hZ (hw _ (List.mem_of_getElem? (i := 5) rfl)) (hw _ (List.mem_of_getElem? (i := 4) rfl)) (by decide) (by decide)) (g := (mkF m 74 #[.val (.int p1), .val (.int p2), .val (.int (1 : Int32)), .val (.ref b1), .val (.int (0 : Int32)), .val (.int (1 : Int32)), .unset] [(.int (1 : Int32))])) rfl (by rw [hml]; rfl) (argsL := [(.int (1 : Int32))]) (rest := []) (lenOf pd__I_Lcom_example_nodewell_nodewell_store_ValueTest_Comparison_ rfl) rfl (by show 2 * 0 + _ ≤ _; exact Nat.le_of_eq rfl) (hb hby at_74) (fun _ _ => ⟨rfl, e11, (by decide : 1 + 0 ≤ _), (by decide : 5 + 0 ≤ _)⟩)
      dsimp only [Pt.U, Pt.locs, Pt.cells, Pt.slots] at X18 l18 y18 z18 st18 hQ18
      subst l18 y18 z18
      obtain ⟨rfl, N18q, e18q⟩ := hQ18
      have N18 := Fr.app N11 N18q
      refine Go.st st18 ?_
      rw [show pickF (1 : Int32) w_EQUAL w_LESS w_LESS_OR_EQUAL w_GREATER w_GREATER_OR_EQUAL = w_LESS from by simp [pickF]]
      show Go _ _ _ _ _ _ _  T18 (mkF m 77 #[.val (.int p1), .val (.int p2), .val (.int (1 : Int32)), .val (.ref b1), .val (.int (0 : Int32)), .val (.int (1 : Int32)), .unset] [(.ref w_LESS)])
      refine Go.st (fun t k => XS.astore X18.here hx rfl (hb hby at_77) rfl rfl (l' := #[.val (.int p1), .val (.int p2), .val (.int (1 : Int32)), .val (.ref b1), .val (.int (0 : Int32)), .val (.int (1 : Int32)), .val (.ref w_LESS)]) rfl k) ?_
      show Go _ _ _ _ _ _ _  T18 (mkF m 79 #[.val (.int p1), .val (.int p2), .val (.int (1 : Int32)), .val (.ref b1), .val (.int (0 : Int32)), .val (.int (1 : Int32)), .val (.ref w_LESS)] [])
      refine Go.st (fun t k => XS.aload X18.here hx rfl (hb hby at_79) rfl rfl  k) ?_
      show Go _ _ _ _ _ _ _  T18 (mkF m 81 #[.val (.int p1), .val (.int p2), .val (.int (1 : Int32)), .val (.ref b1), .val (.int (0 : Int32)), .val (.int (1 : Int32)), .val (.ref w_LESS)] [(.ref w_LESS)])
      refine Go.st (fun t k => XS.iloadN X18.here hx rfl (hb hby at_81) rfl  k) ?_
      show Go _ _ _ _ _ _ _  T18 (mkF m 82 #[.val (.int p1), .val (.int p2), .val (.int (1 : Int32)), .val (.ref b1), .val (.int (0 : Int32)), .val (.int (1 : Int32)), .val (.ref w_LESS)] [(.int p2), (.ref w_LESS)])
      obtain ⟨cq19, kq19, q19a, q19b, q19c⟩ := isOf hZ e18q (E_LESS.ext O.2)
      obtain ⟨_, _, ⟨T19, L19, k19, n19⟩, -, X19, ⟨Lc19, hQ19, l19, y19, z19⟩, st19⟩ := X18.virtualBack hx (y := (⟨"com/example/nodewell/nodewell/store/ValueTest$Comparison", "passes", "(I)Z"⟩ : MethodName)) (z := (⟨"com/example/nodewell/nodewell/store/ValueTest$Comparison", "passes", "(I)Z"⟩ : MethodName)) hown (mvT hZ (hw _ (List.mem_of_getElem? (i := 9) rfl))) (mvT hZ (hw _ (List.mem_of_getElem? (i := 10) rfl))) (notFace_of_selects (args := #[]) (mvT hZ (hw _ (List.mem_of_getElem? (i := 12) rfl)))) (mvT hZ (hw _ (List.mem_of_getElem? (i := 12) rfl))) (mvT hZ (hw _ (List.mem_of_getElem? (i := 11) rfl))) (by decide) (backOf (W := 0) (rmS l Z a0 hw [] w_LESS p2 1 h11 n0 O O_LESS E_LESS (by decide)) hZ (hw _ (List.mem_of_getElem? (i := 13) rfl)) (hw _ (List.mem_of_getElem? (i := 7) rfl)) (by decide) (by decide)) q19a q19c (g := (mkF m 82 #[.val (.int p1), .val (.int p2), .val (.int (1 : Int32)), .val (.ref b1), .val (.int (0 : Int32)), .val (.int (1 : Int32)), .val (.ref w_LESS)] [(.int p2), (.ref w_LESS)])) rfl (by rw [hml]; rfl) (Steps.refl _) (argsL := [(.int p2)]) (rest := []) (lenOf pd__I_Z rfl) rfl (by show 2 * 0 + _ ≤ _; exact Nat.le_of_eq rfl) (hb hby at_82) (fun _ _ => ⟨rfl, e18q, (by decide : 1 + 0 ≤ _), (by decide : 5 + 0 ≤ _)⟩)
      dsimp only [Pt.U, Pt.locs, Pt.cells, Pt.slots] at X19 l19 y19 z19 st19 hQ19
      subst l19 y19 z19
      obtain ⟨rfl, N19q, e19q⟩ := hQ19
      have N19 := Fr.app N18 N19q
      refine Go.tr st19 ?_
      rw [show passF 1 p2 = (1 : Int32) from own_pass10 hs]
      show Go _ _ _ _ _ _ _  T19 (mkF m 85 #[.val (.int p1), .val (.int p2), .val (.int (1 : Int32)), .val (.ref b1), .val (.int (0 : Int32)), .val (.int (1 : Int32)), .val (.ref w_LESS)] [(.int (1 : Int32))])
      refine Go.st (fun t k => XS.iload X19.here hx rfl (hb hby at_85) rfl  k) ?_
      show Go _ _ _ _ _ _ _  T19 (mkF m 87 #[.val (.int p1), .val (.int p2), .val (.int (1 : Int32)), .val (.ref b1), .val (.int (0 : Int32)), .val (.int (1 : Int32)), .val (.ref w_LESS)] [(.int (1 : Int32)), (.int (1 : Int32))])
      refine Go.st (fun t k => XS.icmpNo X19.here hx rfl (hb hby at_87) rfl (teq (rfl : (1 : Int32) = (1 : Int32))).2 k) ?_
      show Go _ _ _ _ _ _ _  T19 (mkF m 90 #[.val (.int p1), .val (.int p2), .val (.int (1 : Int32)), .val (.ref b1), .val (.int (0 : Int32)), .val (.int (1 : Int32)), .val (.ref w_LESS)] [])
      refine Go.st (fun t k => XS.iconst X19.here hx rfl (hb hby at_90) k) ?_
      show Go _ _ _ _ _ _ _  T19 (mkF m 91 #[.val (.int p1), .val (.int p2), .val (.int (1 : Int32)), .val (.ref b1), .val (.int (0 : Int32)), .val (.int (1 : Int32)), .val (.ref w_LESS)] [(.int (1 : Int32))])
      refine Go.st (fun t k => XS.goto X19.here hx rfl (pc0 := 91) (pc' := 95) rfl (hb hby at_91) (by decide) (by decide) k) ?_
      show Go _ _ _ _ _ _ _  T19 (mkF m 95 #[.val (.int p1), .val (.int p2), .val (.int (1 : Int32)), .val (.ref b1), .val (.int (0 : Int32)), .val (.int (1 : Int32)), .val (.ref w_LESS)] [(.int (1 : Int32))])
      refine Go.retN X19 hlk hx (t := .boolean) (z' := (1 : Int32)) Bd.returns (by simp) (hb hby at_95) (by decide) (by decide) rfl ?_
      show Q_rm0 Z _ _ _ _ _ _ _ h0 n0 _ T19.heap _
      rw [e19q]
      exact ⟨rfl, N19⟩
    · rw [sp13]
      show Go _ _ _ _ _ _ _  T11 (mkF m 55 #[.val (.int p1), .val (.int p2), .val (.int (2 : Int32)), .val (.ref b1), .val (.int (0 : Int32)), .unset, .unset] [])
      refine Go.st (fun t k => XS.aloadN X11.here hx rfl (hb hby at_55) rfl rfl  k) ?_
      show Go _ _ _ _ _ _ _  T11 (mkF m 56 #[.val (.int p1), .val (.int p2), .val (.int (2 : Int32)), .val (.ref b1), .val (.int (0 : Int32)), .unset, .unset] [(.ref b1)])
      refine Go.st (fun t k => XS.iloadN X11.here hx rfl (hb hby at_56) rfl  k) ?_
      show Go _ _ _ _ _ _ _  T11 (mkF m 57 #[.val (.int p1), .val (.int p2), .val (.int (2 : Int32)), .val (.ref b1), .val (.int (0 : Int32)), .unset, .unset] [(.int (2 : Int32)), (.ref b1)])
      obtain ⟨cl20, Ar20, q20, S20, M20, Hh20, G20⟩ := id V_b1
      refine Go.st (X11.iaload hx (j := (2 : Int32)) (v := (.int (3 : Int32))) (by rw [e11]; exact Ar20.1) (State.isArrayOf_alike hZ.alike Ar20.2.1) Ar20.2.2 (inb_of S20 ⟨by decide, by decide⟩) (Hh20.at (inb_of S20 ⟨by decide, by decide⟩) rfl) (g := (mkF m 57 #[.val (.int p1), .val (.int p2), .val (.int (2 : Int32)), .val (.ref b1), .val (.int (0 : Int32)), .unset, .unset] [(.int (2 : Int32)), (.ref b1)])) rfl rfl (hb hby at_57)) ?_
      show Go _ _ _ _ _ _ _  T11 (mkF m 58 #[.val (.int p1), .val (.int p2), .val (.int (2 : Int32)), .val (.ref b1), .val (.int (0 : Int32)), .unset, .unset] [(.int (3 : Int32))])
      refine Go.st (fun t k => XS.iload X11.here hx rfl (hb hby at_58) rfl  k) ?_
      show Go _ _ _ _ _ _ _  T11 (mkF m 60 #[.val (.int p1), .val (.int p2), .val (.int (2 : Int32)), .val (.ref b1), .val (.int (0 : Int32)), .unset, .unset] [(.int (0 : Int32)), (.int (3 : Int32))])
      refine Go.st (fun t k => XS.ishr X11.here hx rfl (hb hby at_60) rfl k) ?_
      show Go _ _ _ _ _ _ _  T11 (mkF m 61 #[.val (.int p1), .val (.int p2), .val (.int (2 : Int32)), .val (.ref b1), .val (.int (0 : Int32)), .unset, .unset] [(.int ((3 : Int32) >>> ((0 : Int32) &&& 31)))])
      refine Go.st (fun t k => XS.iconst X11.here hx rfl (hb hby at_61) k) ?_
      show Go _ _ _ _ _ _ _  T11 (mkF m 62 #[.val (.int p1), .val (.int p2), .val (.int (2 : Int32)), .val (.ref b1), .val (.int (0 : Int32)), .unset, .unset] [(.int (1 : Int32)), (.int ((3 : Int32) >>> ((0 : Int32) &&& 31)))])
      refine Go.st (fun t k => XS.iand X11.here hx rfl (hb hby at_62) rfl k) ?_
      show Go _ _ _ _ _ _ _  T11 (mkF m 63 #[.val (.int p1), .val (.int p2), .val (.int (2 : Int32)), .val (.ref b1), .val (.int (0 : Int32)), .unset, .unset] [(.int (((3 : Int32) >>> ((0 : Int32) &&& 31)) &&& (1 : Int32)))])
      refine Go.st (fun t k => XS.ifNo X11.here hx rfl (hb hby at_63) rfl ((if0 _ _).trans (feq (by decide : ¬ ((((3 : Int32) >>> ((0 : Int32) &&& 31)) &&& (1 : Int32)) = (0 : Int32)))).1) k) ?_
      show Go _ _ _ _ _ _ _  T11 (mkF m 66 #[.val (.int p1), .val (.int p2), .val (.int (2 : Int32)), .val (.ref b1), .val (.int (0 : Int32)), .unset, .unset] [])
      refine Go.st (fun t k => XS.iconst X11.here hx rfl (hb hby at_66) k) ?_
      show Go _ _ _ _ _ _ _  T11 (mkF m 67 #[.val (.int p1), .val (.int p2), .val (.int (2 : Int32)), .val (.ref b1), .val (.int (0 : Int32)), .unset, .unset] [(.int (1 : Int32))])
      refine Go.st (fun t k => XS.goto X11.here hx rfl (pc0 := 67) (pc' := 71) rfl (hb hby at_67) (by decide) (by decide) k) ?_
      show Go _ _ _ _ _ _ _  T11 (mkF m 71 #[.val (.int p1), .val (.int p2), .val (.int (2 : Int32)), .val (.ref b1), .val (.int (0 : Int32)), .unset, .unset] [(.int (1 : Int32))])
      refine Go.st (fun t k => XS.istore X11.here hx rfl (hb hby at_71) rfl (l' := #[.val (.int p1), .val (.int p2), .val (.int (2 : Int32)), .val (.ref b1), .val (.int (0 : Int32)), .val (.int (1 : Int32)), .unset]) rfl k) ?_
      show Go _ _ _ _ _ _ _  T11 (mkF m 73 #[.val (.int p1), .val (.int p2), .val (.int (2 : Int32)), .val (.ref b1), .val (.int (0 : Int32)), .val (.int (1 : Int32)), .unset] [])
      refine Go.st (fun t k => XS.iloadN X11.here hx rfl (hb hby at_73) rfl  k) ?_
      show Go _ _ _ _ _ _ _  T11 (mkF m 74 #[.val (.int p1), .val (.int p2), .val (.int (2 : Int32)), .val (.ref b1), .val (.int (0 : Int32)), .val (.int (1 : Int32)), .unset] [(.int (2 : Int32))])
      obtain ⟨_, _, ⟨T21, L21, k21, n21⟩, -, X21, ⟨Lc21, hQ21, l21, y21, z21⟩, st21⟩ := Jvm.LawKit.callS X11 hx (y := (⟨"com/example/nodewell/nodewell/store/ComparisonPassesPinLaw", "pick", "(I)Lcom/example/nodewell/nodewell/store/ValueTest$Comparison;"⟩ : MethodName)) hown (mvT hZ (hw _ (List.mem_of_getElem? (i := 2) rfl))) (mvT hZ (hw _ (List.mem_of_getElem? (i := 3) rfl))) (mvT hZ (hw _ (List.mem_of_getElem? (i := 4) rfl))) (mvT hZ (hw _ (List.mem_of_getElem? (i := 5) rfl))) (by decide) (backOf (W := 0) (rmP l Z a0 hw [] (2 : Int32) w_EQUAL w_LESS w_LESS_OR_EQUAL w_GREATER w_GREATER_OR_EQUAL h11 n0 O S_EQUAL S_LESS S_LESS_OR_EQUAL S_GREATER S_GREATER_OR_EQUAL) hZ (hw _ (List.mem_of_getElem? (i := 5) rfl)) (hw _ (List.mem_of_getElem? (i := 4) rfl)) (by decide) (by decide)) (g := (mkF m 74 #[.val (.int p1), .val (.int p2), .val (.int (2 : Int32)), .val (.ref b1), .val (.int (0 : Int32)), .val (.int (1 : Int32)), .unset] [(.int (2 : Int32))])) rfl (by rw [hml]; rfl) (argsL := [(.int (2 : Int32))]) (rest := []) (lenOf pd__I_Lcom_example_nodewell_nodewell_store_ValueTest_Comparison_ rfl) rfl (by show 2 * 0 + _ ≤ _; exact Nat.le_of_eq rfl) (hb hby at_74) (fun _ _ => ⟨rfl, e11, (by decide : 1 + 0 ≤ _), (by decide : 5 + 0 ≤ _)⟩)
      dsimp only [Pt.U, Pt.locs, Pt.cells, Pt.slots] at X21 l21 y21 z21 st21 hQ21
      subst l21 y21 z21
      obtain ⟨rfl, N21q, e21q⟩ := hQ21
      have N21 := Fr.app N11 N21q
      refine Go.st st21 ?_
      rw [show pickF (2 : Int32) w_EQUAL w_LESS w_LESS_OR_EQUAL w_GREATER w_GREATER_OR_EQUAL = w_LESS_OR_EQUAL from by simp [pickF]]
      show Go _ _ _ _ _ _ _  T21 (mkF m 77 #[.val (.int p1), .val (.int p2), .val (.int (2 : Int32)), .val (.ref b1), .val (.int (0 : Int32)), .val (.int (1 : Int32)), .unset] [(.ref w_LESS_OR_EQUAL)])
      refine Go.st (fun t k => XS.astore X21.here hx rfl (hb hby at_77) rfl rfl (l' := #[.val (.int p1), .val (.int p2), .val (.int (2 : Int32)), .val (.ref b1), .val (.int (0 : Int32)), .val (.int (1 : Int32)), .val (.ref w_LESS_OR_EQUAL)]) rfl k) ?_
      show Go _ _ _ _ _ _ _  T21 (mkF m 79 #[.val (.int p1), .val (.int p2), .val (.int (2 : Int32)), .val (.ref b1), .val (.int (0 : Int32)), .val (.int (1 : Int32)), .val (.ref w_LESS_OR_EQUAL)] [])
      refine Go.st (fun t k => XS.aload X21.here hx rfl (hb hby at_79) rfl rfl  k) ?_
      show Go _ _ _ _ _ _ _  T21 (mkF m 81 #[.val (.int p1), .val (.int p2), .val (.int (2 : Int32)), .val (.ref b1), .val (.int (0 : Int32)), .val (.int (1 : Int32)), .val (.ref w_LESS_OR_EQUAL)] [(.ref w_LESS_OR_EQUAL)])
      refine Go.st (fun t k => XS.iloadN X21.here hx rfl (hb hby at_81) rfl  k) ?_
      show Go _ _ _ _ _ _ _  T21 (mkF m 82 #[.val (.int p1), .val (.int p2), .val (.int (2 : Int32)), .val (.ref b1), .val (.int (0 : Int32)), .val (.int (1 : Int32)), .val (.ref w_LESS_OR_EQUAL)] [(.int p2), (.ref w_LESS_OR_EQUAL)])
      obtain ⟨cq22, kq22, q22a, q22b, q22c⟩ := isOf hZ e21q (E_LESS_OR_EQUAL.ext O.2)
      obtain ⟨_, _, ⟨T22, L22, k22, n22⟩, -, X22, ⟨Lc22, hQ22, l22, y22, z22⟩, st22⟩ := X21.virtualBack hx (y := (⟨"com/example/nodewell/nodewell/store/ValueTest$Comparison", "passes", "(I)Z"⟩ : MethodName)) (z := (⟨"com/example/nodewell/nodewell/store/ValueTest$Comparison", "passes", "(I)Z"⟩ : MethodName)) hown (mvT hZ (hw _ (List.mem_of_getElem? (i := 9) rfl))) (mvT hZ (hw _ (List.mem_of_getElem? (i := 10) rfl))) (notFace_of_selects (args := #[]) (mvT hZ (hw _ (List.mem_of_getElem? (i := 12) rfl)))) (mvT hZ (hw _ (List.mem_of_getElem? (i := 12) rfl))) (mvT hZ (hw _ (List.mem_of_getElem? (i := 11) rfl))) (by decide) (backOf (W := 0) (rmS l Z a0 hw [] w_LESS_OR_EQUAL p2 2 h11 n0 O O_LESS_OR_EQUAL E_LESS_OR_EQUAL (by decide)) hZ (hw _ (List.mem_of_getElem? (i := 13) rfl)) (hw _ (List.mem_of_getElem? (i := 7) rfl)) (by decide) (by decide)) q22a q22c (g := (mkF m 82 #[.val (.int p1), .val (.int p2), .val (.int (2 : Int32)), .val (.ref b1), .val (.int (0 : Int32)), .val (.int (1 : Int32)), .val (.ref w_LESS_OR_EQUAL)] [(.int p2), (.ref w_LESS_OR_EQUAL)])) rfl (by rw [hml]; rfl) (Steps.refl _) (argsL := [(.int p2)]) (rest := []) (lenOf pd__I_Z rfl) rfl (by show 2 * 0 + _ ≤ _; exact Nat.le_of_eq rfl) (hb hby at_82) (fun _ _ => ⟨rfl, e21q, (by decide : 1 + 0 ≤ _), (by decide : 5 + 0 ≤ _)⟩)
      dsimp only [Pt.U, Pt.locs, Pt.cells, Pt.slots] at X22 l22 y22 z22 st22 hQ22
      subst l22 y22 z22
      obtain ⟨rfl, N22q, e22q⟩ := hQ22
      have N22 := Fr.app N21 N22q
      refine Go.tr st22 ?_
      rw [show passF 2 p2 = (1 : Int32) from own_pass20 hs]
      show Go _ _ _ _ _ _ _  T22 (mkF m 85 #[.val (.int p1), .val (.int p2), .val (.int (2 : Int32)), .val (.ref b1), .val (.int (0 : Int32)), .val (.int (1 : Int32)), .val (.ref w_LESS_OR_EQUAL)] [(.int (1 : Int32))])
      refine Go.st (fun t k => XS.iload X22.here hx rfl (hb hby at_85) rfl  k) ?_
      show Go _ _ _ _ _ _ _  T22 (mkF m 87 #[.val (.int p1), .val (.int p2), .val (.int (2 : Int32)), .val (.ref b1), .val (.int (0 : Int32)), .val (.int (1 : Int32)), .val (.ref w_LESS_OR_EQUAL)] [(.int (1 : Int32)), (.int (1 : Int32))])
      refine Go.st (fun t k => XS.icmpNo X22.here hx rfl (hb hby at_87) rfl (teq (rfl : (1 : Int32) = (1 : Int32))).2 k) ?_
      show Go _ _ _ _ _ _ _  T22 (mkF m 90 #[.val (.int p1), .val (.int p2), .val (.int (2 : Int32)), .val (.ref b1), .val (.int (0 : Int32)), .val (.int (1 : Int32)), .val (.ref w_LESS_OR_EQUAL)] [])
      refine Go.st (fun t k => XS.iconst X22.here hx rfl (hb hby at_90) k) ?_
      show Go _ _ _ _ _ _ _  T22 (mkF m 91 #[.val (.int p1), .val (.int p2), .val (.int (2 : Int32)), .val (.ref b1), .val (.int (0 : Int32)), .val (.int (1 : Int32)), .val (.ref w_LESS_OR_EQUAL)] [(.int (1 : Int32))])
      refine Go.st (fun t k => XS.goto X22.here hx rfl (pc0 := 91) (pc' := 95) rfl (hb hby at_91) (by decide) (by decide) k) ?_
      show Go _ _ _ _ _ _ _  T22 (mkF m 95 #[.val (.int p1), .val (.int p2), .val (.int (2 : Int32)), .val (.ref b1), .val (.int (0 : Int32)), .val (.int (1 : Int32)), .val (.ref w_LESS_OR_EQUAL)] [(.int (1 : Int32))])
      refine Go.retN X22 hlk hx (t := .boolean) (z' := (1 : Int32)) Bd.returns (by simp) (hb hby at_95) (by decide) (by decide) rfl ?_
      show Q_rm0 Z _ _ _ _ _ _ _ h0 n0 _ T22.heap _
      rw [e22q]
      exact ⟨rfl, N22⟩
    · rw [sp13]
      show Go _ _ _ _ _ _ _  T11 (mkF m 55 #[.val (.int p1), .val (.int p2), .val (.int (3 : Int32)), .val (.ref b1), .val (.int (0 : Int32)), .unset, .unset] [])
      refine Go.st (fun t k => XS.aloadN X11.here hx rfl (hb hby at_55) rfl rfl  k) ?_
      show Go _ _ _ _ _ _ _  T11 (mkF m 56 #[.val (.int p1), .val (.int p2), .val (.int (3 : Int32)), .val (.ref b1), .val (.int (0 : Int32)), .unset, .unset] [(.ref b1)])
      refine Go.st (fun t k => XS.iloadN X11.here hx rfl (hb hby at_56) rfl  k) ?_
      show Go _ _ _ _ _ _ _  T11 (mkF m 57 #[.val (.int p1), .val (.int p2), .val (.int (3 : Int32)), .val (.ref b1), .val (.int (0 : Int32)), .unset, .unset] [(.int (3 : Int32)), (.ref b1)])
      obtain ⟨cl23, Ar23, q23, S23, M23, Hh23, G23⟩ := id V_b1
      refine Go.st (X11.iaload hx (j := (3 : Int32)) (v := (.int (4 : Int32))) (by rw [e11]; exact Ar23.1) (State.isArrayOf_alike hZ.alike Ar23.2.1) Ar23.2.2 (inb_of S23 ⟨by decide, by decide⟩) (Hh23.at (inb_of S23 ⟨by decide, by decide⟩) rfl) (g := (mkF m 57 #[.val (.int p1), .val (.int p2), .val (.int (3 : Int32)), .val (.ref b1), .val (.int (0 : Int32)), .unset, .unset] [(.int (3 : Int32)), (.ref b1)])) rfl rfl (hb hby at_57)) ?_
      show Go _ _ _ _ _ _ _  T11 (mkF m 58 #[.val (.int p1), .val (.int p2), .val (.int (3 : Int32)), .val (.ref b1), .val (.int (0 : Int32)), .unset, .unset] [(.int (4 : Int32))])
      refine Go.st (fun t k => XS.iload X11.here hx rfl (hb hby at_58) rfl  k) ?_
      show Go _ _ _ _ _ _ _  T11 (mkF m 60 #[.val (.int p1), .val (.int p2), .val (.int (3 : Int32)), .val (.ref b1), .val (.int (0 : Int32)), .unset, .unset] [(.int (0 : Int32)), (.int (4 : Int32))])
      refine Go.st (fun t k => XS.ishr X11.here hx rfl (hb hby at_60) rfl k) ?_
      show Go _ _ _ _ _ _ _  T11 (mkF m 61 #[.val (.int p1), .val (.int p2), .val (.int (3 : Int32)), .val (.ref b1), .val (.int (0 : Int32)), .unset, .unset] [(.int ((4 : Int32) >>> ((0 : Int32) &&& 31)))])
      refine Go.st (fun t k => XS.iconst X11.here hx rfl (hb hby at_61) k) ?_
      show Go _ _ _ _ _ _ _  T11 (mkF m 62 #[.val (.int p1), .val (.int p2), .val (.int (3 : Int32)), .val (.ref b1), .val (.int (0 : Int32)), .unset, .unset] [(.int (1 : Int32)), (.int ((4 : Int32) >>> ((0 : Int32) &&& 31)))])
      refine Go.st (fun t k => XS.iand X11.here hx rfl (hb hby at_62) rfl k) ?_
      show Go _ _ _ _ _ _ _  T11 (mkF m 63 #[.val (.int p1), .val (.int p2), .val (.int (3 : Int32)), .val (.ref b1), .val (.int (0 : Int32)), .unset, .unset] [(.int (((4 : Int32) >>> ((0 : Int32) &&& 31)) &&& (1 : Int32)))])
      refine Go.st (fun t k => XS.ifYes X11.here hx rfl (pc0 := 63) (pc' := 70) rfl (hb hby at_63) rfl ((if0 _ _).trans (teq (by decide : (((4 : Int32) >>> ((0 : Int32) &&& 31)) &&& (1 : Int32)) = (0 : Int32))).1) (by decide) (by decide) k) ?_
      show Go _ _ _ _ _ _ _  T11 (mkF m 70 #[.val (.int p1), .val (.int p2), .val (.int (3 : Int32)), .val (.ref b1), .val (.int (0 : Int32)), .unset, .unset] [])
      refine Go.st (fun t k => XS.iconst X11.here hx rfl (hb hby at_70) k) ?_
      show Go _ _ _ _ _ _ _  T11 (mkF m 71 #[.val (.int p1), .val (.int p2), .val (.int (3 : Int32)), .val (.ref b1), .val (.int (0 : Int32)), .unset, .unset] [(.int (0 : Int32))])
      refine Go.st (fun t k => XS.istore X11.here hx rfl (hb hby at_71) rfl (l' := #[.val (.int p1), .val (.int p2), .val (.int (3 : Int32)), .val (.ref b1), .val (.int (0 : Int32)), .val (.int (0 : Int32)), .unset]) rfl k) ?_
      show Go _ _ _ _ _ _ _  T11 (mkF m 73 #[.val (.int p1), .val (.int p2), .val (.int (3 : Int32)), .val (.ref b1), .val (.int (0 : Int32)), .val (.int (0 : Int32)), .unset] [])
      refine Go.st (fun t k => XS.iloadN X11.here hx rfl (hb hby at_73) rfl  k) ?_
      show Go _ _ _ _ _ _ _  T11 (mkF m 74 #[.val (.int p1), .val (.int p2), .val (.int (3 : Int32)), .val (.ref b1), .val (.int (0 : Int32)), .val (.int (0 : Int32)), .unset] [(.int (3 : Int32))])
      obtain ⟨_, _, ⟨T24, L24, k24, n24⟩, -, X24, ⟨Lc24, hQ24, l24, y24, z24⟩, st24⟩ := Jvm.LawKit.callS X11 hx (y := (⟨"com/example/nodewell/nodewell/store/ComparisonPassesPinLaw", "pick", "(I)Lcom/example/nodewell/nodewell/store/ValueTest$Comparison;"⟩ : MethodName)) hown (mvT hZ (hw _ (List.mem_of_getElem? (i := 2) rfl))) (mvT hZ (hw _ (List.mem_of_getElem? (i := 3) rfl))) (mvT hZ (hw _ (List.mem_of_getElem? (i := 4) rfl))) (mvT hZ (hw _ (List.mem_of_getElem? (i := 5) rfl))) (by decide) (backOf (W := 0) (rmP l Z a0 hw [] (3 : Int32) w_EQUAL w_LESS w_LESS_OR_EQUAL w_GREATER w_GREATER_OR_EQUAL h11 n0 O S_EQUAL S_LESS S_LESS_OR_EQUAL S_GREATER S_GREATER_OR_EQUAL) hZ (hw _ (List.mem_of_getElem? (i := 5) rfl)) (hw _ (List.mem_of_getElem? (i := 4) rfl)) (by decide) (by decide)) (g := (mkF m 74 #[.val (.int p1), .val (.int p2), .val (.int (3 : Int32)), .val (.ref b1), .val (.int (0 : Int32)), .val (.int (0 : Int32)), .unset] [(.int (3 : Int32))])) rfl (by rw [hml]; rfl) (argsL := [(.int (3 : Int32))]) (rest := []) (lenOf pd__I_Lcom_example_nodewell_nodewell_store_ValueTest_Comparison_ rfl) rfl (by show 2 * 0 + _ ≤ _; exact Nat.le_of_eq rfl) (hb hby at_74) (fun _ _ => ⟨rfl, e11, (by decide : 1 + 0 ≤ _), (by decide : 5 + 0 ≤ _)⟩)
      dsimp only [Pt.U, Pt.locs, Pt.cells, Pt.slots] at X24 l24 y24 z24 st24 hQ24
      subst l24 y24 z24
      obtain ⟨rfl, N24q, e24q⟩ := hQ24
      have N24 := Fr.app N11 N24q
      refine Go.st st24 ?_
      rw [show pickF (3 : Int32) w_EQUAL w_LESS w_LESS_OR_EQUAL w_GREATER w_GREATER_OR_EQUAL = w_GREATER from by simp [pickF]]
      show Go _ _ _ _ _ _ _  T24 (mkF m 77 #[.val (.int p1), .val (.int p2), .val (.int (3 : Int32)), .val (.ref b1), .val (.int (0 : Int32)), .val (.int (0 : Int32)), .unset] [(.ref w_GREATER)])
      refine Go.st (fun t k => XS.astore X24.here hx rfl (hb hby at_77) rfl rfl (l' := #[.val (.int p1), .val (.int p2), .val (.int (3 : Int32)), .val (.ref b1), .val (.int (0 : Int32)), .val (.int (0 : Int32)), .val (.ref w_GREATER)]) rfl k) ?_
      show Go _ _ _ _ _ _ _  T24 (mkF m 79 #[.val (.int p1), .val (.int p2), .val (.int (3 : Int32)), .val (.ref b1), .val (.int (0 : Int32)), .val (.int (0 : Int32)), .val (.ref w_GREATER)] [])
      refine Go.st (fun t k => XS.aload X24.here hx rfl (hb hby at_79) rfl rfl  k) ?_
      show Go _ _ _ _ _ _ _  T24 (mkF m 81 #[.val (.int p1), .val (.int p2), .val (.int (3 : Int32)), .val (.ref b1), .val (.int (0 : Int32)), .val (.int (0 : Int32)), .val (.ref w_GREATER)] [(.ref w_GREATER)])
      refine Go.st (fun t k => XS.iloadN X24.here hx rfl (hb hby at_81) rfl  k) ?_
      show Go _ _ _ _ _ _ _  T24 (mkF m 82 #[.val (.int p1), .val (.int p2), .val (.int (3 : Int32)), .val (.ref b1), .val (.int (0 : Int32)), .val (.int (0 : Int32)), .val (.ref w_GREATER)] [(.int p2), (.ref w_GREATER)])
      obtain ⟨cq25, kq25, q25a, q25b, q25c⟩ := isOf hZ e24q (E_GREATER.ext O.2)
      obtain ⟨_, _, ⟨T25, L25, k25, n25⟩, -, X25, ⟨Lc25, hQ25, l25, y25, z25⟩, st25⟩ := X24.virtualBack hx (y := (⟨"com/example/nodewell/nodewell/store/ValueTest$Comparison", "passes", "(I)Z"⟩ : MethodName)) (z := (⟨"com/example/nodewell/nodewell/store/ValueTest$Comparison", "passes", "(I)Z"⟩ : MethodName)) hown (mvT hZ (hw _ (List.mem_of_getElem? (i := 9) rfl))) (mvT hZ (hw _ (List.mem_of_getElem? (i := 10) rfl))) (notFace_of_selects (args := #[]) (mvT hZ (hw _ (List.mem_of_getElem? (i := 12) rfl)))) (mvT hZ (hw _ (List.mem_of_getElem? (i := 12) rfl))) (mvT hZ (hw _ (List.mem_of_getElem? (i := 11) rfl))) (by decide) (backOf (W := 0) (rmS l Z a0 hw [] w_GREATER p2 3 h11 n0 O O_GREATER E_GREATER (by decide)) hZ (hw _ (List.mem_of_getElem? (i := 13) rfl)) (hw _ (List.mem_of_getElem? (i := 7) rfl)) (by decide) (by decide)) q25a q25c (g := (mkF m 82 #[.val (.int p1), .val (.int p2), .val (.int (3 : Int32)), .val (.ref b1), .val (.int (0 : Int32)), .val (.int (0 : Int32)), .val (.ref w_GREATER)] [(.int p2), (.ref w_GREATER)])) rfl (by rw [hml]; rfl) (Steps.refl _) (argsL := [(.int p2)]) (rest := []) (lenOf pd__I_Z rfl) rfl (by show 2 * 0 + _ ≤ _; exact Nat.le_of_eq rfl) (hb hby at_82) (fun _ _ => ⟨rfl, e24q, (by decide : 1 + 0 ≤ _), (by decide : 5 + 0 ≤ _)⟩)
      dsimp only [Pt.U, Pt.locs, Pt.cells, Pt.slots] at X25 l25 y25 z25 st25 hQ25
      subst l25 y25 z25
      obtain ⟨rfl, N25q, e25q⟩ := hQ25
      have N25 := Fr.app N24 N25q
      refine Go.tr st25 ?_
      rw [show passF 3 p2 = (0 : Int32) from own_pass30 hs]
      show Go _ _ _ _ _ _ _  T25 (mkF m 85 #[.val (.int p1), .val (.int p2), .val (.int (3 : Int32)), .val (.ref b1), .val (.int (0 : Int32)), .val (.int (0 : Int32)), .val (.ref w_GREATER)] [(.int (0 : Int32))])
      refine Go.st (fun t k => XS.iload X25.here hx rfl (hb hby at_85) rfl  k) ?_
      show Go _ _ _ _ _ _ _  T25 (mkF m 87 #[.val (.int p1), .val (.int p2), .val (.int (3 : Int32)), .val (.ref b1), .val (.int (0 : Int32)), .val (.int (0 : Int32)), .val (.ref w_GREATER)] [(.int (0 : Int32)), (.int (0 : Int32))])
      refine Go.st (fun t k => XS.icmpNo X25.here hx rfl (hb hby at_87) rfl (teq (rfl : (0 : Int32) = (0 : Int32))).2 k) ?_
      show Go _ _ _ _ _ _ _  T25 (mkF m 90 #[.val (.int p1), .val (.int p2), .val (.int (3 : Int32)), .val (.ref b1), .val (.int (0 : Int32)), .val (.int (0 : Int32)), .val (.ref w_GREATER)] [])
      refine Go.st (fun t k => XS.iconst X25.here hx rfl (hb hby at_90) k) ?_
      show Go _ _ _ _ _ _ _  T25 (mkF m 91 #[.val (.int p1), .val (.int p2), .val (.int (3 : Int32)), .val (.ref b1), .val (.int (0 : Int32)), .val (.int (0 : Int32)), .val (.ref w_GREATER)] [(.int (1 : Int32))])
      refine Go.st (fun t k => XS.goto X25.here hx rfl (pc0 := 91) (pc' := 95) rfl (hb hby at_91) (by decide) (by decide) k) ?_
      show Go _ _ _ _ _ _ _  T25 (mkF m 95 #[.val (.int p1), .val (.int p2), .val (.int (3 : Int32)), .val (.ref b1), .val (.int (0 : Int32)), .val (.int (0 : Int32)), .val (.ref w_GREATER)] [(.int (1 : Int32))])
      refine Go.retN X25 hlk hx (t := .boolean) (z' := (1 : Int32)) Bd.returns (by simp) (hb hby at_95) (by decide) (by decide) rfl ?_
      show Q_rm0 Z _ _ _ _ _ _ _ h0 n0 _ T25.heap _
      rw [e25q]
      exact ⟨rfl, N25⟩
    · rw [sp13]
      show Go _ _ _ _ _ _ _  T11 (mkF m 55 #[.val (.int p1), .val (.int p2), .val (.int (4 : Int32)), .val (.ref b1), .val (.int (0 : Int32)), .unset, .unset] [])
      refine Go.st (fun t k => XS.aloadN X11.here hx rfl (hb hby at_55) rfl rfl  k) ?_
      show Go _ _ _ _ _ _ _  T11 (mkF m 56 #[.val (.int p1), .val (.int p2), .val (.int (4 : Int32)), .val (.ref b1), .val (.int (0 : Int32)), .unset, .unset] [(.ref b1)])
      refine Go.st (fun t k => XS.iloadN X11.here hx rfl (hb hby at_56) rfl  k) ?_
      show Go _ _ _ _ _ _ _  T11 (mkF m 57 #[.val (.int p1), .val (.int p2), .val (.int (4 : Int32)), .val (.ref b1), .val (.int (0 : Int32)), .unset, .unset] [(.int (4 : Int32)), (.ref b1)])
      obtain ⟨cl26, Ar26, q26, S26, M26, Hh26, G26⟩ := id V_b1
      refine Go.st (X11.iaload hx (j := (4 : Int32)) (v := (.int (6 : Int32))) (by rw [e11]; exact Ar26.1) (State.isArrayOf_alike hZ.alike Ar26.2.1) Ar26.2.2 (inb_of S26 ⟨by decide, by decide⟩) (Hh26.at (inb_of S26 ⟨by decide, by decide⟩) rfl) (g := (mkF m 57 #[.val (.int p1), .val (.int p2), .val (.int (4 : Int32)), .val (.ref b1), .val (.int (0 : Int32)), .unset, .unset] [(.int (4 : Int32)), (.ref b1)])) rfl rfl (hb hby at_57)) ?_
      show Go _ _ _ _ _ _ _  T11 (mkF m 58 #[.val (.int p1), .val (.int p2), .val (.int (4 : Int32)), .val (.ref b1), .val (.int (0 : Int32)), .unset, .unset] [(.int (6 : Int32))])
      refine Go.st (fun t k => XS.iload X11.here hx rfl (hb hby at_58) rfl  k) ?_
      show Go _ _ _ _ _ _ _  T11 (mkF m 60 #[.val (.int p1), .val (.int p2), .val (.int (4 : Int32)), .val (.ref b1), .val (.int (0 : Int32)), .unset, .unset] [(.int (0 : Int32)), (.int (6 : Int32))])
      refine Go.st (fun t k => XS.ishr X11.here hx rfl (hb hby at_60) rfl k) ?_
      show Go _ _ _ _ _ _ _  T11 (mkF m 61 #[.val (.int p1), .val (.int p2), .val (.int (4 : Int32)), .val (.ref b1), .val (.int (0 : Int32)), .unset, .unset] [(.int ((6 : Int32) >>> ((0 : Int32) &&& 31)))])
      refine Go.st (fun t k => XS.iconst X11.here hx rfl (hb hby at_61) k) ?_
      show Go _ _ _ _ _ _ _  T11 (mkF m 62 #[.val (.int p1), .val (.int p2), .val (.int (4 : Int32)), .val (.ref b1), .val (.int (0 : Int32)), .unset, .unset] [(.int (1 : Int32)), (.int ((6 : Int32) >>> ((0 : Int32) &&& 31)))])
      refine Go.st (fun t k => XS.iand X11.here hx rfl (hb hby at_62) rfl k) ?_
      show Go _ _ _ _ _ _ _  T11 (mkF m 63 #[.val (.int p1), .val (.int p2), .val (.int (4 : Int32)), .val (.ref b1), .val (.int (0 : Int32)), .unset, .unset] [(.int (((6 : Int32) >>> ((0 : Int32) &&& 31)) &&& (1 : Int32)))])
      refine Go.st (fun t k => XS.ifYes X11.here hx rfl (pc0 := 63) (pc' := 70) rfl (hb hby at_63) rfl ((if0 _ _).trans (teq (by decide : (((6 : Int32) >>> ((0 : Int32) &&& 31)) &&& (1 : Int32)) = (0 : Int32))).1) (by decide) (by decide) k) ?_
      show Go _ _ _ _ _ _ _  T11 (mkF m 70 #[.val (.int p1), .val (.int p2), .val (.int (4 : Int32)), .val (.ref b1), .val (.int (0 : Int32)), .unset, .unset] [])
      refine Go.st (fun t k => XS.iconst X11.here hx rfl (hb hby at_70) k) ?_
      show Go _ _ _ _ _ _ _  T11 (mkF m 71 #[.val (.int p1), .val (.int p2), .val (.int (4 : Int32)), .val (.ref b1), .val (.int (0 : Int32)), .unset, .unset] [(.int (0 : Int32))])
      refine Go.st (fun t k => XS.istore X11.here hx rfl (hb hby at_71) rfl (l' := #[.val (.int p1), .val (.int p2), .val (.int (4 : Int32)), .val (.ref b1), .val (.int (0 : Int32)), .val (.int (0 : Int32)), .unset]) rfl k) ?_
      show Go _ _ _ _ _ _ _  T11 (mkF m 73 #[.val (.int p1), .val (.int p2), .val (.int (4 : Int32)), .val (.ref b1), .val (.int (0 : Int32)), .val (.int (0 : Int32)), .unset] [])
      refine Go.st (fun t k => XS.iloadN X11.here hx rfl (hb hby at_73) rfl  k) ?_
      show Go _ _ _ _ _ _ _  T11 (mkF m 74 #[.val (.int p1), .val (.int p2), .val (.int (4 : Int32)), .val (.ref b1), .val (.int (0 : Int32)), .val (.int (0 : Int32)), .unset] [(.int (4 : Int32))])
      obtain ⟨_, _, ⟨T27, L27, k27, n27⟩, -, X27, ⟨Lc27, hQ27, l27, y27, z27⟩, st27⟩ := Jvm.LawKit.callS X11 hx (y := (⟨"com/example/nodewell/nodewell/store/ComparisonPassesPinLaw", "pick", "(I)Lcom/example/nodewell/nodewell/store/ValueTest$Comparison;"⟩ : MethodName)) hown (mvT hZ (hw _ (List.mem_of_getElem? (i := 2) rfl))) (mvT hZ (hw _ (List.mem_of_getElem? (i := 3) rfl))) (mvT hZ (hw _ (List.mem_of_getElem? (i := 4) rfl))) (mvT hZ (hw _ (List.mem_of_getElem? (i := 5) rfl))) (by decide) (backOf (W := 0) (rmP l Z a0 hw [] (4 : Int32) w_EQUAL w_LESS w_LESS_OR_EQUAL w_GREATER w_GREATER_OR_EQUAL h11 n0 O S_EQUAL S_LESS S_LESS_OR_EQUAL S_GREATER S_GREATER_OR_EQUAL) hZ (hw _ (List.mem_of_getElem? (i := 5) rfl)) (hw _ (List.mem_of_getElem? (i := 4) rfl)) (by decide) (by decide)) (g := (mkF m 74 #[.val (.int p1), .val (.int p2), .val (.int (4 : Int32)), .val (.ref b1), .val (.int (0 : Int32)), .val (.int (0 : Int32)), .unset] [(.int (4 : Int32))])) rfl (by rw [hml]; rfl) (argsL := [(.int (4 : Int32))]) (rest := []) (lenOf pd__I_Lcom_example_nodewell_nodewell_store_ValueTest_Comparison_ rfl) rfl (by show 2 * 0 + _ ≤ _; exact Nat.le_of_eq rfl) (hb hby at_74) (fun _ _ => ⟨rfl, e11, (by decide : 1 + 0 ≤ _), (by decide : 5 + 0 ≤ _)⟩)
      dsimp only [Pt.U, Pt.locs, Pt.cells, Pt.slots] at X27 l27 y27 z27 st27 hQ27
      subst l27 y27 z27
      obtain ⟨rfl, N27q, e27q⟩ := hQ27
      have N27 := Fr.app N11 N27q
      refine Go.st st27 ?_
      rw [show pickF (4 : Int32) w_EQUAL w_LESS w_LESS_OR_EQUAL w_GREATER w_GREATER_OR_EQUAL = w_GREATER_OR_EQUAL from by simp [pickF]]
      show Go _ _ _ _ _ _ _  T27 (mkF m 77 #[.val (.int p1), .val (.int p2), .val (.int (4 : Int32)), .val (.ref b1), .val (.int (0 : Int32)), .val (.int (0 : Int32)), .unset] [(.ref w_GREATER_OR_EQUAL)])
      refine Go.st (fun t k => XS.astore X27.here hx rfl (hb hby at_77) rfl rfl (l' := #[.val (.int p1), .val (.int p2), .val (.int (4 : Int32)), .val (.ref b1), .val (.int (0 : Int32)), .val (.int (0 : Int32)), .val (.ref w_GREATER_OR_EQUAL)]) rfl k) ?_
      show Go _ _ _ _ _ _ _  T27 (mkF m 79 #[.val (.int p1), .val (.int p2), .val (.int (4 : Int32)), .val (.ref b1), .val (.int (0 : Int32)), .val (.int (0 : Int32)), .val (.ref w_GREATER_OR_EQUAL)] [])
      refine Go.st (fun t k => XS.aload X27.here hx rfl (hb hby at_79) rfl rfl  k) ?_
      show Go _ _ _ _ _ _ _  T27 (mkF m 81 #[.val (.int p1), .val (.int p2), .val (.int (4 : Int32)), .val (.ref b1), .val (.int (0 : Int32)), .val (.int (0 : Int32)), .val (.ref w_GREATER_OR_EQUAL)] [(.ref w_GREATER_OR_EQUAL)])
      refine Go.st (fun t k => XS.iloadN X27.here hx rfl (hb hby at_81) rfl  k) ?_
      show Go _ _ _ _ _ _ _  T27 (mkF m 82 #[.val (.int p1), .val (.int p2), .val (.int (4 : Int32)), .val (.ref b1), .val (.int (0 : Int32)), .val (.int (0 : Int32)), .val (.ref w_GREATER_OR_EQUAL)] [(.int p2), (.ref w_GREATER_OR_EQUAL)])
      obtain ⟨cq28, kq28, q28a, q28b, q28c⟩ := isOf hZ e27q (E_GREATER_OR_EQUAL.ext O.2)
      obtain ⟨_, _, ⟨T28, L28, k28, n28⟩, -, X28, ⟨Lc28, hQ28, l28, y28, z28⟩, st28⟩ := X27.virtualBack hx (y := (⟨"com/example/nodewell/nodewell/store/ValueTest$Comparison", "passes", "(I)Z"⟩ : MethodName)) (z := (⟨"com/example/nodewell/nodewell/store/ValueTest$Comparison", "passes", "(I)Z"⟩ : MethodName)) hown (mvT hZ (hw _ (List.mem_of_getElem? (i := 9) rfl))) (mvT hZ (hw _ (List.mem_of_getElem? (i := 10) rfl))) (notFace_of_selects (args := #[]) (mvT hZ (hw _ (List.mem_of_getElem? (i := 12) rfl)))) (mvT hZ (hw _ (List.mem_of_getElem? (i := 12) rfl))) (mvT hZ (hw _ (List.mem_of_getElem? (i := 11) rfl))) (by decide) (backOf (W := 0) (rmS l Z a0 hw [] w_GREATER_OR_EQUAL p2 4 h11 n0 O O_GREATER_OR_EQUAL E_GREATER_OR_EQUAL (by decide)) hZ (hw _ (List.mem_of_getElem? (i := 13) rfl)) (hw _ (List.mem_of_getElem? (i := 7) rfl)) (by decide) (by decide)) q28a q28c (g := (mkF m 82 #[.val (.int p1), .val (.int p2), .val (.int (4 : Int32)), .val (.ref b1), .val (.int (0 : Int32)), .val (.int (0 : Int32)), .val (.ref w_GREATER_OR_EQUAL)] [(.int p2), (.ref w_GREATER_OR_EQUAL)])) rfl (by rw [hml]; rfl) (Steps.refl _) (argsL := [(.int p2)]) (rest := []) (lenOf pd__I_Z rfl) rfl (by show 2 * 0 + _ ≤ _; exact Nat.le_of_eq rfl) (hb hby at_82) (fun _ _ => ⟨rfl, e27q, (by decide : 1 + 0 ≤ _), (by decide : 5 + 0 ≤ _)⟩)
      dsimp only [Pt.U, Pt.locs, Pt.cells, Pt.slots] at X28 l28 y28 z28 st28 hQ28
      subst l28 y28 z28
      obtain ⟨rfl, N28q, e28q⟩ := hQ28
      have N28 := Fr.app N27 N28q
      refine Go.tr st28 ?_
      rw [show passF 4 p2 = (0 : Int32) from own_pass40 hs]
      show Go _ _ _ _ _ _ _  T28 (mkF m 85 #[.val (.int p1), .val (.int p2), .val (.int (4 : Int32)), .val (.ref b1), .val (.int (0 : Int32)), .val (.int (0 : Int32)), .val (.ref w_GREATER_OR_EQUAL)] [(.int (0 : Int32))])
      refine Go.st (fun t k => XS.iload X28.here hx rfl (hb hby at_85) rfl  k) ?_
      show Go _ _ _ _ _ _ _  T28 (mkF m 87 #[.val (.int p1), .val (.int p2), .val (.int (4 : Int32)), .val (.ref b1), .val (.int (0 : Int32)), .val (.int (0 : Int32)), .val (.ref w_GREATER_OR_EQUAL)] [(.int (0 : Int32)), (.int (0 : Int32))])
      refine Go.st (fun t k => XS.icmpNo X28.here hx rfl (hb hby at_87) rfl (teq (rfl : (0 : Int32) = (0 : Int32))).2 k) ?_
      show Go _ _ _ _ _ _ _  T28 (mkF m 90 #[.val (.int p1), .val (.int p2), .val (.int (4 : Int32)), .val (.ref b1), .val (.int (0 : Int32)), .val (.int (0 : Int32)), .val (.ref w_GREATER_OR_EQUAL)] [])
      refine Go.st (fun t k => XS.iconst X28.here hx rfl (hb hby at_90) k) ?_
      show Go _ _ _ _ _ _ _  T28 (mkF m 91 #[.val (.int p1), .val (.int p2), .val (.int (4 : Int32)), .val (.ref b1), .val (.int (0 : Int32)), .val (.int (0 : Int32)), .val (.ref w_GREATER_OR_EQUAL)] [(.int (1 : Int32))])
      refine Go.st (fun t k => XS.goto X28.here hx rfl (pc0 := 91) (pc' := 95) rfl (hb hby at_91) (by decide) (by decide) k) ?_
      show Go _ _ _ _ _ _ _  T28 (mkF m 95 #[.val (.int p1), .val (.int p2), .val (.int (4 : Int32)), .val (.ref b1), .val (.int (0 : Int32)), .val (.int (0 : Int32)), .val (.ref w_GREATER_OR_EQUAL)] [(.int (1 : Int32))])
      refine Go.retN X28 hlk hx (t := .boolean) (z' := (1 : Int32)) Bd.returns (by simp) (hb hby at_95) (by decide) (by decide) rfl ?_
      show Q_rm0 Z _ _ _ _ _ _ _ h0 n0 _ T28.heap _
      rw [e28q]
      exact ⟨rfl, N28⟩
  · refine Go.st (fun t k => XS.ifYes X11.here hx rfl (pc0 := 33) (pc' := 42) rfl (hb hby at_33) rfl ((if0 _ _).trans (flt c33_12).2.1) (by decide) (by decide) k) ?_
    show Go _ _ _ _ _ _ _  T11 (mkF m 42 #[.val (.int p1), .val (.int p2), .val (.int ((p1 &&& (2147483647 : Int32)) % (5 : Int32))), .val (.ref b1), .unset, .unset, .unset] [])
    refine Go.st (fun t k => XS.iloadN X11.here hx rfl (hb hby at_42) rfl  k) ?_
    show Go _ _ _ _ _ _ _  T11 (mkF m 43 #[.val (.int p1), .val (.int p2), .val (.int ((p1 &&& (2147483647 : Int32)) % (5 : Int32))), .val (.ref b1), .unset, .unset, .unset] [(.int p2)])
    by_cases c43_29 : p2 = (0 : Int32)
    · refine Go.st (fun t k => XS.ifNo X11.here hx rfl (hb hby at_43) rfl ((if0 _ _).trans (teq c43_29).2) k) ?_
      show Go _ _ _ _ _ _ _  T11 (mkF m 46 #[.val (.int p1), .val (.int p2), .val (.int ((p1 &&& (2147483647 : Int32)) % (5 : Int32))), .val (.ref b1), .unset, .unset, .unset] [])
      refine Go.st (fun t k => XS.iconst X11.here hx rfl (hb hby at_46) k) ?_
      show Go _ _ _ _ _ _ _  T11 (mkF m 47 #[.val (.int p1), .val (.int p2), .val (.int ((p1 &&& (2147483647 : Int32)) % (5 : Int32))), .val (.ref b1), .unset, .unset, .unset] [(.int (1 : Int32))])
      refine Go.st (fun t k => XS.istore X11.here hx rfl (hb hby at_47) rfl (l' := #[.val (.int p1), .val (.int p2), .val (.int ((p1 &&& (2147483647 : Int32)) % (5 : Int32))), .val (.ref b1), .val (.int (1 : Int32)), .unset, .unset]) rfl k) ?_
      show Go _ _ _ _ _ _ _  T11 (mkF m 49 #[.val (.int p1), .val (.int p2), .val (.int ((p1 &&& (2147483647 : Int32)) % (5 : Int32))), .val (.ref b1), .val (.int (1 : Int32)), .unset, .unset] [])
      refine Go.st (fun t k => XS.goto X11.here hx rfl (pc0 := 49) (pc' := 55) rfl (hb hby at_49) (by decide) (by decide) k) ?_
      show Go _ _ _ _ _ _ _  T11 (mkF m 55 #[.val (.int p1), .val (.int p2), .val (.int ((p1 &&& (2147483647 : Int32)) % (5 : Int32))), .val (.ref b1), .val (.int (1 : Int32)), .unset, .unset] [])
      have hs : p2 = (0 : Int32) := c43_29
      rcases own_mod5 p1 with sp30 | sp30 | sp30 | sp30 | sp30
      · rw [sp30]
        show Go _ _ _ _ _ _ _  T11 (mkF m 55 #[.val (.int p1), .val (.int p2), .val (.int (0 : Int32)), .val (.ref b1), .val (.int (1 : Int32)), .unset, .unset] [])
        refine Go.st (fun t k => XS.aloadN X11.here hx rfl (hb hby at_55) rfl rfl  k) ?_
        show Go _ _ _ _ _ _ _  T11 (mkF m 56 #[.val (.int p1), .val (.int p2), .val (.int (0 : Int32)), .val (.ref b1), .val (.int (1 : Int32)), .unset, .unset] [(.ref b1)])
        refine Go.st (fun t k => XS.iloadN X11.here hx rfl (hb hby at_56) rfl  k) ?_
        show Go _ _ _ _ _ _ _  T11 (mkF m 57 #[.val (.int p1), .val (.int p2), .val (.int (0 : Int32)), .val (.ref b1), .val (.int (1 : Int32)), .unset, .unset] [(.int (0 : Int32)), (.ref b1)])
        obtain ⟨cl31, Ar31, q31, S31, M31, Hh31, G31⟩ := id V_b1
        refine Go.st (X11.iaload hx (j := (0 : Int32)) (v := (.int (2 : Int32))) (by rw [e11]; exact Ar31.1) (State.isArrayOf_alike hZ.alike Ar31.2.1) Ar31.2.2 (inb_of S31 ⟨by decide, by decide⟩) (Hh31.at (inb_of S31 ⟨by decide, by decide⟩) rfl) (g := (mkF m 57 #[.val (.int p1), .val (.int p2), .val (.int (0 : Int32)), .val (.ref b1), .val (.int (1 : Int32)), .unset, .unset] [(.int (0 : Int32)), (.ref b1)])) rfl rfl (hb hby at_57)) ?_
        show Go _ _ _ _ _ _ _  T11 (mkF m 58 #[.val (.int p1), .val (.int p2), .val (.int (0 : Int32)), .val (.ref b1), .val (.int (1 : Int32)), .unset, .unset] [(.int (2 : Int32))])
        refine Go.st (fun t k => XS.iload X11.here hx rfl (hb hby at_58) rfl  k) ?_
        show Go _ _ _ _ _ _ _  T11 (mkF m 60 #[.val (.int p1), .val (.int p2), .val (.int (0 : Int32)), .val (.ref b1), .val (.int (1 : Int32)), .unset, .unset] [(.int (1 : Int32)), (.int (2 : Int32))])
        refine Go.st (fun t k => XS.ishr X11.here hx rfl (hb hby at_60) rfl k) ?_
        show Go _ _ _ _ _ _ _  T11 (mkF m 61 #[.val (.int p1), .val (.int p2), .val (.int (0 : Int32)), .val (.ref b1), .val (.int (1 : Int32)), .unset, .unset] [(.int ((2 : Int32) >>> ((1 : Int32) &&& 31)))])
        refine Go.st (fun t k => XS.iconst X11.here hx rfl (hb hby at_61) k) ?_
        show Go _ _ _ _ _ _ _  T11 (mkF m 62 #[.val (.int p1), .val (.int p2), .val (.int (0 : Int32)), .val (.ref b1), .val (.int (1 : Int32)), .unset, .unset] [(.int (1 : Int32)), (.int ((2 : Int32) >>> ((1 : Int32) &&& 31)))])
        refine Go.st (fun t k => XS.iand X11.here hx rfl (hb hby at_62) rfl k) ?_
        show Go _ _ _ _ _ _ _  T11 (mkF m 63 #[.val (.int p1), .val (.int p2), .val (.int (0 : Int32)), .val (.ref b1), .val (.int (1 : Int32)), .unset, .unset] [(.int (((2 : Int32) >>> ((1 : Int32) &&& 31)) &&& (1 : Int32)))])
        refine Go.st (fun t k => XS.ifNo X11.here hx rfl (hb hby at_63) rfl ((if0 _ _).trans (feq (by decide : ¬ ((((2 : Int32) >>> ((1 : Int32) &&& 31)) &&& (1 : Int32)) = (0 : Int32)))).1) k) ?_
        show Go _ _ _ _ _ _ _  T11 (mkF m 66 #[.val (.int p1), .val (.int p2), .val (.int (0 : Int32)), .val (.ref b1), .val (.int (1 : Int32)), .unset, .unset] [])
        refine Go.st (fun t k => XS.iconst X11.here hx rfl (hb hby at_66) k) ?_
        show Go _ _ _ _ _ _ _  T11 (mkF m 67 #[.val (.int p1), .val (.int p2), .val (.int (0 : Int32)), .val (.ref b1), .val (.int (1 : Int32)), .unset, .unset] [(.int (1 : Int32))])
        refine Go.st (fun t k => XS.goto X11.here hx rfl (pc0 := 67) (pc' := 71) rfl (hb hby at_67) (by decide) (by decide) k) ?_
        show Go _ _ _ _ _ _ _  T11 (mkF m 71 #[.val (.int p1), .val (.int p2), .val (.int (0 : Int32)), .val (.ref b1), .val (.int (1 : Int32)), .unset, .unset] [(.int (1 : Int32))])
        refine Go.st (fun t k => XS.istore X11.here hx rfl (hb hby at_71) rfl (l' := #[.val (.int p1), .val (.int p2), .val (.int (0 : Int32)), .val (.ref b1), .val (.int (1 : Int32)), .val (.int (1 : Int32)), .unset]) rfl k) ?_
        show Go _ _ _ _ _ _ _  T11 (mkF m 73 #[.val (.int p1), .val (.int p2), .val (.int (0 : Int32)), .val (.ref b1), .val (.int (1 : Int32)), .val (.int (1 : Int32)), .unset] [])
        refine Go.st (fun t k => XS.iloadN X11.here hx rfl (hb hby at_73) rfl  k) ?_
        show Go _ _ _ _ _ _ _  T11 (mkF m 74 #[.val (.int p1), .val (.int p2), .val (.int (0 : Int32)), .val (.ref b1), .val (.int (1 : Int32)), .val (.int (1 : Int32)), .unset] [(.int (0 : Int32))])
        obtain ⟨_, _, ⟨T32, L32, k32, n32⟩, -, X32, ⟨Lc32, hQ32, l32, y32, z32⟩, st32⟩ := Jvm.LawKit.callS X11 hx (y := (⟨"com/example/nodewell/nodewell/store/ComparisonPassesPinLaw", "pick", "(I)Lcom/example/nodewell/nodewell/store/ValueTest$Comparison;"⟩ : MethodName)) hown (mvT hZ (hw _ (List.mem_of_getElem? (i := 2) rfl))) (mvT hZ (hw _ (List.mem_of_getElem? (i := 3) rfl))) (mvT hZ (hw _ (List.mem_of_getElem? (i := 4) rfl))) (mvT hZ (hw _ (List.mem_of_getElem? (i := 5) rfl))) (by decide) (backOf (W := 0) (rmP l Z a0 hw [] (0 : Int32) w_EQUAL w_LESS w_LESS_OR_EQUAL w_GREATER w_GREATER_OR_EQUAL h11 n0 O S_EQUAL S_LESS S_LESS_OR_EQUAL S_GREATER S_GREATER_OR_EQUAL) hZ (hw _ (List.mem_of_getElem? (i := 5) rfl)) (hw _ (List.mem_of_getElem? (i := 4) rfl)) (by decide) (by decide)) (g := (mkF m 74 #[.val (.int p1), .val (.int p2), .val (.int (0 : Int32)), .val (.ref b1), .val (.int (1 : Int32)), .val (.int (1 : Int32)), .unset] [(.int (0 : Int32))])) rfl (by rw [hml]; rfl) (argsL := [(.int (0 : Int32))]) (rest := []) (lenOf pd__I_Lcom_example_nodewell_nodewell_store_ValueTest_Comparison_ rfl) rfl (by show 2 * 0 + _ ≤ _; exact Nat.le_of_eq rfl) (hb hby at_74) (fun _ _ => ⟨rfl, e11, (by decide : 1 + 0 ≤ _), (by decide : 5 + 0 ≤ _)⟩)
        dsimp only [Pt.U, Pt.locs, Pt.cells, Pt.slots] at X32 l32 y32 z32 st32 hQ32
        subst l32 y32 z32
        obtain ⟨rfl, N32q, e32q⟩ := hQ32
        have N32 := Fr.app N11 N32q
        refine Go.st st32 ?_
        rw [show pickF (0 : Int32) w_EQUAL w_LESS w_LESS_OR_EQUAL w_GREATER w_GREATER_OR_EQUAL = w_EQUAL from by simp [pickF]]
        show Go _ _ _ _ _ _ _  T32 (mkF m 77 #[.val (.int p1), .val (.int p2), .val (.int (0 : Int32)), .val (.ref b1), .val (.int (1 : Int32)), .val (.int (1 : Int32)), .unset] [(.ref w_EQUAL)])
        refine Go.st (fun t k => XS.astore X32.here hx rfl (hb hby at_77) rfl rfl (l' := #[.val (.int p1), .val (.int p2), .val (.int (0 : Int32)), .val (.ref b1), .val (.int (1 : Int32)), .val (.int (1 : Int32)), .val (.ref w_EQUAL)]) rfl k) ?_
        show Go _ _ _ _ _ _ _  T32 (mkF m 79 #[.val (.int p1), .val (.int p2), .val (.int (0 : Int32)), .val (.ref b1), .val (.int (1 : Int32)), .val (.int (1 : Int32)), .val (.ref w_EQUAL)] [])
        refine Go.st (fun t k => XS.aload X32.here hx rfl (hb hby at_79) rfl rfl  k) ?_
        show Go _ _ _ _ _ _ _  T32 (mkF m 81 #[.val (.int p1), .val (.int p2), .val (.int (0 : Int32)), .val (.ref b1), .val (.int (1 : Int32)), .val (.int (1 : Int32)), .val (.ref w_EQUAL)] [(.ref w_EQUAL)])
        refine Go.st (fun t k => XS.iloadN X32.here hx rfl (hb hby at_81) rfl  k) ?_
        show Go _ _ _ _ _ _ _  T32 (mkF m 82 #[.val (.int p1), .val (.int p2), .val (.int (0 : Int32)), .val (.ref b1), .val (.int (1 : Int32)), .val (.int (1 : Int32)), .val (.ref w_EQUAL)] [(.int p2), (.ref w_EQUAL)])
        obtain ⟨cq33, kq33, q33a, q33b, q33c⟩ := isOf hZ e32q (E_EQUAL.ext O.2)
        obtain ⟨_, _, ⟨T33, L33, k33, n33⟩, -, X33, ⟨Lc33, hQ33, l33, y33, z33⟩, st33⟩ := X32.virtualBack hx (y := (⟨"com/example/nodewell/nodewell/store/ValueTest$Comparison", "passes", "(I)Z"⟩ : MethodName)) (z := (⟨"com/example/nodewell/nodewell/store/ValueTest$Comparison", "passes", "(I)Z"⟩ : MethodName)) hown (mvT hZ (hw _ (List.mem_of_getElem? (i := 9) rfl))) (mvT hZ (hw _ (List.mem_of_getElem? (i := 10) rfl))) (notFace_of_selects (args := #[]) (mvT hZ (hw _ (List.mem_of_getElem? (i := 12) rfl)))) (mvT hZ (hw _ (List.mem_of_getElem? (i := 12) rfl))) (mvT hZ (hw _ (List.mem_of_getElem? (i := 11) rfl))) (by decide) (backOf (W := 0) (rmS l Z a0 hw [] w_EQUAL p2 0 h11 n0 O O_EQUAL E_EQUAL (by decide)) hZ (hw _ (List.mem_of_getElem? (i := 13) rfl)) (hw _ (List.mem_of_getElem? (i := 7) rfl)) (by decide) (by decide)) q33a q33c (g := (mkF m 82 #[.val (.int p1), .val (.int p2), .val (.int (0 : Int32)), .val (.ref b1), .val (.int (1 : Int32)), .val (.int (1 : Int32)), .val (.ref w_EQUAL)] [(.int p2), (.ref w_EQUAL)])) rfl (by rw [hml]; rfl) (Steps.refl _) (argsL := [(.int p2)]) (rest := []) (lenOf pd__I_Z rfl) rfl (by show 2 * 0 + _ ≤ _; exact Nat.le_of_eq rfl) (hb hby at_82) (fun _ _ => ⟨rfl, e32q, (by decide : 1 + 0 ≤ _), (by decide : 5 + 0 ≤ _)⟩)
        dsimp only [Pt.U, Pt.locs, Pt.cells, Pt.slots] at X33 l33 y33 z33 st33 hQ33
        subst l33 y33 z33
        obtain ⟨rfl, N33q, e33q⟩ := hQ33
        have N33 := Fr.app N32 N33q
        refine Go.tr st33 ?_
        rw [show passF 0 p2 = (1 : Int32) from own_pass01 hs]
        show Go _ _ _ _ _ _ _  T33 (mkF m 85 #[.val (.int p1), .val (.int p2), .val (.int (0 : Int32)), .val (.ref b1), .val (.int (1 : Int32)), .val (.int (1 : Int32)), .val (.ref w_EQUAL)] [(.int (1 : Int32))])
        refine Go.st (fun t k => XS.iload X33.here hx rfl (hb hby at_85) rfl  k) ?_
        show Go _ _ _ _ _ _ _  T33 (mkF m 87 #[.val (.int p1), .val (.int p2), .val (.int (0 : Int32)), .val (.ref b1), .val (.int (1 : Int32)), .val (.int (1 : Int32)), .val (.ref w_EQUAL)] [(.int (1 : Int32)), (.int (1 : Int32))])
        refine Go.st (fun t k => XS.icmpNo X33.here hx rfl (hb hby at_87) rfl (teq (rfl : (1 : Int32) = (1 : Int32))).2 k) ?_
        show Go _ _ _ _ _ _ _  T33 (mkF m 90 #[.val (.int p1), .val (.int p2), .val (.int (0 : Int32)), .val (.ref b1), .val (.int (1 : Int32)), .val (.int (1 : Int32)), .val (.ref w_EQUAL)] [])
        refine Go.st (fun t k => XS.iconst X33.here hx rfl (hb hby at_90) k) ?_
        show Go _ _ _ _ _ _ _  T33 (mkF m 91 #[.val (.int p1), .val (.int p2), .val (.int (0 : Int32)), .val (.ref b1), .val (.int (1 : Int32)), .val (.int (1 : Int32)), .val (.ref w_EQUAL)] [(.int (1 : Int32))])
        refine Go.st (fun t k => XS.goto X33.here hx rfl (pc0 := 91) (pc' := 95) rfl (hb hby at_91) (by decide) (by decide) k) ?_
        show Go _ _ _ _ _ _ _  T33 (mkF m 95 #[.val (.int p1), .val (.int p2), .val (.int (0 : Int32)), .val (.ref b1), .val (.int (1 : Int32)), .val (.int (1 : Int32)), .val (.ref w_EQUAL)] [(.int (1 : Int32))])
        refine Go.retN X33 hlk hx (t := .boolean) (z' := (1 : Int32)) Bd.returns (by simp) (hb hby at_95) (by decide) (by decide) rfl ?_
        show Q_rm0 Z _ _ _ _ _ _ _ h0 n0 _ T33.heap _
        rw [e33q]
        exact ⟨rfl, N33⟩
      · rw [sp30]
        show Go _ _ _ _ _ _ _  T11 (mkF m 55 #[.val (.int p1), .val (.int p2), .val (.int (1 : Int32)), .val (.ref b1), .val (.int (1 : Int32)), .unset, .unset] [])
        refine Go.st (fun t k => XS.aloadN X11.here hx rfl (hb hby at_55) rfl rfl  k) ?_
        show Go _ _ _ _ _ _ _  T11 (mkF m 56 #[.val (.int p1), .val (.int p2), .val (.int (1 : Int32)), .val (.ref b1), .val (.int (1 : Int32)), .unset, .unset] [(.ref b1)])
        refine Go.st (fun t k => XS.iloadN X11.here hx rfl (hb hby at_56) rfl  k) ?_
        show Go _ _ _ _ _ _ _  T11 (mkF m 57 #[.val (.int p1), .val (.int p2), .val (.int (1 : Int32)), .val (.ref b1), .val (.int (1 : Int32)), .unset, .unset] [(.int (1 : Int32)), (.ref b1)])
        obtain ⟨cl34, Ar34, q34, S34, M34, Hh34, G34⟩ := id V_b1
        refine Go.st (X11.iaload hx (j := (1 : Int32)) (v := (.int (1 : Int32))) (by rw [e11]; exact Ar34.1) (State.isArrayOf_alike hZ.alike Ar34.2.1) Ar34.2.2 (inb_of S34 ⟨by decide, by decide⟩) (Hh34.at (inb_of S34 ⟨by decide, by decide⟩) rfl) (g := (mkF m 57 #[.val (.int p1), .val (.int p2), .val (.int (1 : Int32)), .val (.ref b1), .val (.int (1 : Int32)), .unset, .unset] [(.int (1 : Int32)), (.ref b1)])) rfl rfl (hb hby at_57)) ?_
        show Go _ _ _ _ _ _ _  T11 (mkF m 58 #[.val (.int p1), .val (.int p2), .val (.int (1 : Int32)), .val (.ref b1), .val (.int (1 : Int32)), .unset, .unset] [(.int (1 : Int32))])
        refine Go.st (fun t k => XS.iload X11.here hx rfl (hb hby at_58) rfl  k) ?_
        show Go _ _ _ _ _ _ _  T11 (mkF m 60 #[.val (.int p1), .val (.int p2), .val (.int (1 : Int32)), .val (.ref b1), .val (.int (1 : Int32)), .unset, .unset] [(.int (1 : Int32)), (.int (1 : Int32))])
        refine Go.st (fun t k => XS.ishr X11.here hx rfl (hb hby at_60) rfl k) ?_
        show Go _ _ _ _ _ _ _  T11 (mkF m 61 #[.val (.int p1), .val (.int p2), .val (.int (1 : Int32)), .val (.ref b1), .val (.int (1 : Int32)), .unset, .unset] [(.int ((1 : Int32) >>> ((1 : Int32) &&& 31)))])
        refine Go.st (fun t k => XS.iconst X11.here hx rfl (hb hby at_61) k) ?_
        show Go _ _ _ _ _ _ _  T11 (mkF m 62 #[.val (.int p1), .val (.int p2), .val (.int (1 : Int32)), .val (.ref b1), .val (.int (1 : Int32)), .unset, .unset] [(.int (1 : Int32)), (.int ((1 : Int32) >>> ((1 : Int32) &&& 31)))])
        refine Go.st (fun t k => XS.iand X11.here hx rfl (hb hby at_62) rfl k) ?_
        show Go _ _ _ _ _ _ _  T11 (mkF m 63 #[.val (.int p1), .val (.int p2), .val (.int (1 : Int32)), .val (.ref b1), .val (.int (1 : Int32)), .unset, .unset] [(.int (((1 : Int32) >>> ((1 : Int32) &&& 31)) &&& (1 : Int32)))])
        refine Go.st (fun t k => XS.ifYes X11.here hx rfl (pc0 := 63) (pc' := 70) rfl (hb hby at_63) rfl ((if0 _ _).trans (teq (by decide : (((1 : Int32) >>> ((1 : Int32) &&& 31)) &&& (1 : Int32)) = (0 : Int32))).1) (by decide) (by decide) k) ?_
        show Go _ _ _ _ _ _ _  T11 (mkF m 70 #[.val (.int p1), .val (.int p2), .val (.int (1 : Int32)), .val (.ref b1), .val (.int (1 : Int32)), .unset, .unset] [])
        refine Go.st (fun t k => XS.iconst X11.here hx rfl (hb hby at_70) k) ?_
        show Go _ _ _ _ _ _ _  T11 (mkF m 71 #[.val (.int p1), .val (.int p2), .val (.int (1 : Int32)), .val (.ref b1), .val (.int (1 : Int32)), .unset, .unset] [(.int (0 : Int32))])
        refine Go.st (fun t k => XS.istore X11.here hx rfl (hb hby at_71) rfl (l' := #[.val (.int p1), .val (.int p2), .val (.int (1 : Int32)), .val (.ref b1), .val (.int (1 : Int32)), .val (.int (0 : Int32)), .unset]) rfl k) ?_
        show Go _ _ _ _ _ _ _  T11 (mkF m 73 #[.val (.int p1), .val (.int p2), .val (.int (1 : Int32)), .val (.ref b1), .val (.int (1 : Int32)), .val (.int (0 : Int32)), .unset] [])
        refine Go.st (fun t k => XS.iloadN X11.here hx rfl (hb hby at_73) rfl  k) ?_
        show Go _ _ _ _ _ _ _  T11 (mkF m 74 #[.val (.int p1), .val (.int p2), .val (.int (1 : Int32)), .val (.ref b1), .val (.int (1 : Int32)), .val (.int (0 : Int32)), .unset] [(.int (1 : Int32))])
        obtain ⟨_, _, ⟨T35, L35, k35, n35⟩, -, X35, ⟨Lc35, hQ35, l35, y35, z35⟩, st35⟩ := Jvm.LawKit.callS X11 hx (y := (⟨"com/example/nodewell/nodewell/store/ComparisonPassesPinLaw", "pick", "(I)Lcom/example/nodewell/nodewell/store/ValueTest$Comparison;"⟩ : MethodName)) hown (mvT hZ (hw _ (List.mem_of_getElem? (i := 2) rfl))) (mvT hZ (hw _ (List.mem_of_getElem? (i := 3) rfl))) (mvT hZ (hw _ (List.mem_of_getElem? (i := 4) rfl))) (mvT hZ (hw _ (List.mem_of_getElem? (i := 5) rfl))) (by decide) (backOf (W := 0) (rmP l Z a0 hw [] (1 : Int32) w_EQUAL w_LESS w_LESS_OR_EQUAL w_GREATER w_GREATER_OR_EQUAL h11 n0 O S_EQUAL S_LESS S_LESS_OR_EQUAL S_GREATER S_GREATER_OR_EQUAL) hZ (hw _ (List.mem_of_getElem? (i := 5) rfl)) (hw _ (List.mem_of_getElem? (i := 4) rfl)) (by decide) (by decide)) (g := (mkF m 74 #[.val (.int p1), .val (.int p2), .val (.int (1 : Int32)), .val (.ref b1), .val (.int (1 : Int32)), .val (.int (0 : Int32)), .unset] [(.int (1 : Int32))])) rfl (by rw [hml]; rfl) (argsL := [(.int (1 : Int32))]) (rest := []) (lenOf pd__I_Lcom_example_nodewell_nodewell_store_ValueTest_Comparison_ rfl) rfl (by show 2 * 0 + _ ≤ _; exact Nat.le_of_eq rfl) (hb hby at_74) (fun _ _ => ⟨rfl, e11, (by decide : 1 + 0 ≤ _), (by decide : 5 + 0 ≤ _)⟩)
        dsimp only [Pt.U, Pt.locs, Pt.cells, Pt.slots] at X35 l35 y35 z35 st35 hQ35
        subst l35 y35 z35
        obtain ⟨rfl, N35q, e35q⟩ := hQ35
        have N35 := Fr.app N11 N35q
        refine Go.st st35 ?_
        rw [show pickF (1 : Int32) w_EQUAL w_LESS w_LESS_OR_EQUAL w_GREATER w_GREATER_OR_EQUAL = w_LESS from by simp [pickF]]
        show Go _ _ _ _ _ _ _  T35 (mkF m 77 #[.val (.int p1), .val (.int p2), .val (.int (1 : Int32)), .val (.ref b1), .val (.int (1 : Int32)), .val (.int (0 : Int32)), .unset] [(.ref w_LESS)])
        refine Go.st (fun t k => XS.astore X35.here hx rfl (hb hby at_77) rfl rfl (l' := #[.val (.int p1), .val (.int p2), .val (.int (1 : Int32)), .val (.ref b1), .val (.int (1 : Int32)), .val (.int (0 : Int32)), .val (.ref w_LESS)]) rfl k) ?_
        show Go _ _ _ _ _ _ _  T35 (mkF m 79 #[.val (.int p1), .val (.int p2), .val (.int (1 : Int32)), .val (.ref b1), .val (.int (1 : Int32)), .val (.int (0 : Int32)), .val (.ref w_LESS)] [])
        refine Go.st (fun t k => XS.aload X35.here hx rfl (hb hby at_79) rfl rfl  k) ?_
        show Go _ _ _ _ _ _ _  T35 (mkF m 81 #[.val (.int p1), .val (.int p2), .val (.int (1 : Int32)), .val (.ref b1), .val (.int (1 : Int32)), .val (.int (0 : Int32)), .val (.ref w_LESS)] [(.ref w_LESS)])
        refine Go.st (fun t k => XS.iloadN X35.here hx rfl (hb hby at_81) rfl  k) ?_
        show Go _ _ _ _ _ _ _  T35 (mkF m 82 #[.val (.int p1), .val (.int p2), .val (.int (1 : Int32)), .val (.ref b1), .val (.int (1 : Int32)), .val (.int (0 : Int32)), .val (.ref w_LESS)] [(.int p2), (.ref w_LESS)])
        obtain ⟨cq36, kq36, q36a, q36b, q36c⟩ := isOf hZ e35q (E_LESS.ext O.2)
        obtain ⟨_, _, ⟨T36, L36, k36, n36⟩, -, X36, ⟨Lc36, hQ36, l36, y36, z36⟩, st36⟩ := X35.virtualBack hx (y := (⟨"com/example/nodewell/nodewell/store/ValueTest$Comparison", "passes", "(I)Z"⟩ : MethodName)) (z := (⟨"com/example/nodewell/nodewell/store/ValueTest$Comparison", "passes", "(I)Z"⟩ : MethodName)) hown (mvT hZ (hw _ (List.mem_of_getElem? (i := 9) rfl))) (mvT hZ (hw _ (List.mem_of_getElem? (i := 10) rfl))) (notFace_of_selects (args := #[]) (mvT hZ (hw _ (List.mem_of_getElem? (i := 12) rfl)))) (mvT hZ (hw _ (List.mem_of_getElem? (i := 12) rfl))) (mvT hZ (hw _ (List.mem_of_getElem? (i := 11) rfl))) (by decide) (backOf (W := 0) (rmS l Z a0 hw [] w_LESS p2 1 h11 n0 O O_LESS E_LESS (by decide)) hZ (hw _ (List.mem_of_getElem? (i := 13) rfl)) (hw _ (List.mem_of_getElem? (i := 7) rfl)) (by decide) (by decide)) q36a q36c (g := (mkF m 82 #[.val (.int p1), .val (.int p2), .val (.int (1 : Int32)), .val (.ref b1), .val (.int (1 : Int32)), .val (.int (0 : Int32)), .val (.ref w_LESS)] [(.int p2), (.ref w_LESS)])) rfl (by rw [hml]; rfl) (Steps.refl _) (argsL := [(.int p2)]) (rest := []) (lenOf pd__I_Z rfl) rfl (by show 2 * 0 + _ ≤ _; exact Nat.le_of_eq rfl) (hb hby at_82) (fun _ _ => ⟨rfl, e35q, (by decide : 1 + 0 ≤ _), (by decide : 5 + 0 ≤ _)⟩)
        dsimp only [Pt.U, Pt.locs, Pt.cells, Pt.slots] at X36 l36 y36 z36 st36 hQ36
        subst l36 y36 z36
        obtain ⟨rfl, N36q, e36q⟩ := hQ36
        have N36 := Fr.app N35 N36q
        refine Go.tr st36 ?_
        rw [show passF 1 p2 = (0 : Int32) from own_pass11 hs]
        show Go _ _ _ _ _ _ _  T36 (mkF m 85 #[.val (.int p1), .val (.int p2), .val (.int (1 : Int32)), .val (.ref b1), .val (.int (1 : Int32)), .val (.int (0 : Int32)), .val (.ref w_LESS)] [(.int (0 : Int32))])
        refine Go.st (fun t k => XS.iload X36.here hx rfl (hb hby at_85) rfl  k) ?_
        show Go _ _ _ _ _ _ _  T36 (mkF m 87 #[.val (.int p1), .val (.int p2), .val (.int (1 : Int32)), .val (.ref b1), .val (.int (1 : Int32)), .val (.int (0 : Int32)), .val (.ref w_LESS)] [(.int (0 : Int32)), (.int (0 : Int32))])
        refine Go.st (fun t k => XS.icmpNo X36.here hx rfl (hb hby at_87) rfl (teq (rfl : (0 : Int32) = (0 : Int32))).2 k) ?_
        show Go _ _ _ _ _ _ _  T36 (mkF m 90 #[.val (.int p1), .val (.int p2), .val (.int (1 : Int32)), .val (.ref b1), .val (.int (1 : Int32)), .val (.int (0 : Int32)), .val (.ref w_LESS)] [])
        refine Go.st (fun t k => XS.iconst X36.here hx rfl (hb hby at_90) k) ?_
        show Go _ _ _ _ _ _ _  T36 (mkF m 91 #[.val (.int p1), .val (.int p2), .val (.int (1 : Int32)), .val (.ref b1), .val (.int (1 : Int32)), .val (.int (0 : Int32)), .val (.ref w_LESS)] [(.int (1 : Int32))])
        refine Go.st (fun t k => XS.goto X36.here hx rfl (pc0 := 91) (pc' := 95) rfl (hb hby at_91) (by decide) (by decide) k) ?_
        show Go _ _ _ _ _ _ _  T36 (mkF m 95 #[.val (.int p1), .val (.int p2), .val (.int (1 : Int32)), .val (.ref b1), .val (.int (1 : Int32)), .val (.int (0 : Int32)), .val (.ref w_LESS)] [(.int (1 : Int32))])
        refine Go.retN X36 hlk hx (t := .boolean) (z' := (1 : Int32)) Bd.returns (by simp) (hb hby at_95) (by decide) (by decide) rfl ?_
        show Q_rm0 Z _ _ _ _ _ _ _ h0 n0 _ T36.heap _
        rw [e36q]
        exact ⟨rfl, N36⟩
      · rw [sp30]
        show Go _ _ _ _ _ _ _  T11 (mkF m 55 #[.val (.int p1), .val (.int p2), .val (.int (2 : Int32)), .val (.ref b1), .val (.int (1 : Int32)), .unset, .unset] [])
        refine Go.st (fun t k => XS.aloadN X11.here hx rfl (hb hby at_55) rfl rfl  k) ?_
        show Go _ _ _ _ _ _ _  T11 (mkF m 56 #[.val (.int p1), .val (.int p2), .val (.int (2 : Int32)), .val (.ref b1), .val (.int (1 : Int32)), .unset, .unset] [(.ref b1)])
        refine Go.st (fun t k => XS.iloadN X11.here hx rfl (hb hby at_56) rfl  k) ?_
        show Go _ _ _ _ _ _ _  T11 (mkF m 57 #[.val (.int p1), .val (.int p2), .val (.int (2 : Int32)), .val (.ref b1), .val (.int (1 : Int32)), .unset, .unset] [(.int (2 : Int32)), (.ref b1)])
        obtain ⟨cl37, Ar37, q37, S37, M37, Hh37, G37⟩ := id V_b1
        refine Go.st (X11.iaload hx (j := (2 : Int32)) (v := (.int (3 : Int32))) (by rw [e11]; exact Ar37.1) (State.isArrayOf_alike hZ.alike Ar37.2.1) Ar37.2.2 (inb_of S37 ⟨by decide, by decide⟩) (Hh37.at (inb_of S37 ⟨by decide, by decide⟩) rfl) (g := (mkF m 57 #[.val (.int p1), .val (.int p2), .val (.int (2 : Int32)), .val (.ref b1), .val (.int (1 : Int32)), .unset, .unset] [(.int (2 : Int32)), (.ref b1)])) rfl rfl (hb hby at_57)) ?_
        show Go _ _ _ _ _ _ _  T11 (mkF m 58 #[.val (.int p1), .val (.int p2), .val (.int (2 : Int32)), .val (.ref b1), .val (.int (1 : Int32)), .unset, .unset] [(.int (3 : Int32))])
        refine Go.st (fun t k => XS.iload X11.here hx rfl (hb hby at_58) rfl  k) ?_
        show Go _ _ _ _ _ _ _  T11 (mkF m 60 #[.val (.int p1), .val (.int p2), .val (.int (2 : Int32)), .val (.ref b1), .val (.int (1 : Int32)), .unset, .unset] [(.int (1 : Int32)), (.int (3 : Int32))])
        refine Go.st (fun t k => XS.ishr X11.here hx rfl (hb hby at_60) rfl k) ?_
        show Go _ _ _ _ _ _ _  T11 (mkF m 61 #[.val (.int p1), .val (.int p2), .val (.int (2 : Int32)), .val (.ref b1), .val (.int (1 : Int32)), .unset, .unset] [(.int ((3 : Int32) >>> ((1 : Int32) &&& 31)))])
        refine Go.st (fun t k => XS.iconst X11.here hx rfl (hb hby at_61) k) ?_
        show Go _ _ _ _ _ _ _  T11 (mkF m 62 #[.val (.int p1), .val (.int p2), .val (.int (2 : Int32)), .val (.ref b1), .val (.int (1 : Int32)), .unset, .unset] [(.int (1 : Int32)), (.int ((3 : Int32) >>> ((1 : Int32) &&& 31)))])
        refine Go.st (fun t k => XS.iand X11.here hx rfl (hb hby at_62) rfl k) ?_
        show Go _ _ _ _ _ _ _  T11 (mkF m 63 #[.val (.int p1), .val (.int p2), .val (.int (2 : Int32)), .val (.ref b1), .val (.int (1 : Int32)), .unset, .unset] [(.int (((3 : Int32) >>> ((1 : Int32) &&& 31)) &&& (1 : Int32)))])
        refine Go.st (fun t k => XS.ifNo X11.here hx rfl (hb hby at_63) rfl ((if0 _ _).trans (feq (by decide : ¬ ((((3 : Int32) >>> ((1 : Int32) &&& 31)) &&& (1 : Int32)) = (0 : Int32)))).1) k) ?_
        show Go _ _ _ _ _ _ _  T11 (mkF m 66 #[.val (.int p1), .val (.int p2), .val (.int (2 : Int32)), .val (.ref b1), .val (.int (1 : Int32)), .unset, .unset] [])
        refine Go.st (fun t k => XS.iconst X11.here hx rfl (hb hby at_66) k) ?_
        show Go _ _ _ _ _ _ _  T11 (mkF m 67 #[.val (.int p1), .val (.int p2), .val (.int (2 : Int32)), .val (.ref b1), .val (.int (1 : Int32)), .unset, .unset] [(.int (1 : Int32))])
        refine Go.st (fun t k => XS.goto X11.here hx rfl (pc0 := 67) (pc' := 71) rfl (hb hby at_67) (by decide) (by decide) k) ?_
        show Go _ _ _ _ _ _ _  T11 (mkF m 71 #[.val (.int p1), .val (.int p2), .val (.int (2 : Int32)), .val (.ref b1), .val (.int (1 : Int32)), .unset, .unset] [(.int (1 : Int32))])
        refine Go.st (fun t k => XS.istore X11.here hx rfl (hb hby at_71) rfl (l' := #[.val (.int p1), .val (.int p2), .val (.int (2 : Int32)), .val (.ref b1), .val (.int (1 : Int32)), .val (.int (1 : Int32)), .unset]) rfl k) ?_
        show Go _ _ _ _ _ _ _  T11 (mkF m 73 #[.val (.int p1), .val (.int p2), .val (.int (2 : Int32)), .val (.ref b1), .val (.int (1 : Int32)), .val (.int (1 : Int32)), .unset] [])
        refine Go.st (fun t k => XS.iloadN X11.here hx rfl (hb hby at_73) rfl  k) ?_
        show Go _ _ _ _ _ _ _  T11 (mkF m 74 #[.val (.int p1), .val (.int p2), .val (.int (2 : Int32)), .val (.ref b1), .val (.int (1 : Int32)), .val (.int (1 : Int32)), .unset] [(.int (2 : Int32))])
        obtain ⟨_, _, ⟨T38, L38, k38, n38⟩, -, X38, ⟨Lc38, hQ38, l38, y38, z38⟩, st38⟩ := Jvm.LawKit.callS X11 hx (y := (⟨"com/example/nodewell/nodewell/store/ComparisonPassesPinLaw", "pick", "(I)Lcom/example/nodewell/nodewell/store/ValueTest$Comparison;"⟩ : MethodName)) hown (mvT hZ (hw _ (List.mem_of_getElem? (i := 2) rfl))) (mvT hZ (hw _ (List.mem_of_getElem? (i := 3) rfl))) (mvT hZ (hw _ (List.mem_of_getElem? (i := 4) rfl))) (mvT hZ (hw _ (List.mem_of_getElem? (i := 5) rfl))) (by decide) (backOf (W := 0) (rmP l Z a0 hw [] (2 : Int32) w_EQUAL w_LESS w_LESS_OR_EQUAL w_GREATER w_GREATER_OR_EQUAL h11 n0 O S_EQUAL S_LESS S_LESS_OR_EQUAL S_GREATER S_GREATER_OR_EQUAL) hZ (hw _ (List.mem_of_getElem? (i := 5) rfl)) (hw _ (List.mem_of_getElem? (i := 4) rfl)) (by decide) (by decide)) (g := (mkF m 74 #[.val (.int p1), .val (.int p2), .val (.int (2 : Int32)), .val (.ref b1), .val (.int (1 : Int32)), .val (.int (1 : Int32)), .unset] [(.int (2 : Int32))])) rfl (by rw [hml]; rfl) (argsL := [(.int (2 : Int32))]) (rest := []) (lenOf pd__I_Lcom_example_nodewell_nodewell_store_ValueTest_Comparison_ rfl) rfl (by show 2 * 0 + _ ≤ _; exact Nat.le_of_eq rfl) (hb hby at_74) (fun _ _ => ⟨rfl, e11, (by decide : 1 + 0 ≤ _), (by decide : 5 + 0 ≤ _)⟩)
        dsimp only [Pt.U, Pt.locs, Pt.cells, Pt.slots] at X38 l38 y38 z38 st38 hQ38
        subst l38 y38 z38
        obtain ⟨rfl, N38q, e38q⟩ := hQ38
        have N38 := Fr.app N11 N38q
        refine Go.st st38 ?_
        rw [show pickF (2 : Int32) w_EQUAL w_LESS w_LESS_OR_EQUAL w_GREATER w_GREATER_OR_EQUAL = w_LESS_OR_EQUAL from by simp [pickF]]
        show Go _ _ _ _ _ _ _  T38 (mkF m 77 #[.val (.int p1), .val (.int p2), .val (.int (2 : Int32)), .val (.ref b1), .val (.int (1 : Int32)), .val (.int (1 : Int32)), .unset] [(.ref w_LESS_OR_EQUAL)])
        refine Go.st (fun t k => XS.astore X38.here hx rfl (hb hby at_77) rfl rfl (l' := #[.val (.int p1), .val (.int p2), .val (.int (2 : Int32)), .val (.ref b1), .val (.int (1 : Int32)), .val (.int (1 : Int32)), .val (.ref w_LESS_OR_EQUAL)]) rfl k) ?_
        show Go _ _ _ _ _ _ _  T38 (mkF m 79 #[.val (.int p1), .val (.int p2), .val (.int (2 : Int32)), .val (.ref b1), .val (.int (1 : Int32)), .val (.int (1 : Int32)), .val (.ref w_LESS_OR_EQUAL)] [])
        refine Go.st (fun t k => XS.aload X38.here hx rfl (hb hby at_79) rfl rfl  k) ?_
        show Go _ _ _ _ _ _ _  T38 (mkF m 81 #[.val (.int p1), .val (.int p2), .val (.int (2 : Int32)), .val (.ref b1), .val (.int (1 : Int32)), .val (.int (1 : Int32)), .val (.ref w_LESS_OR_EQUAL)] [(.ref w_LESS_OR_EQUAL)])
        refine Go.st (fun t k => XS.iloadN X38.here hx rfl (hb hby at_81) rfl  k) ?_
        show Go _ _ _ _ _ _ _  T38 (mkF m 82 #[.val (.int p1), .val (.int p2), .val (.int (2 : Int32)), .val (.ref b1), .val (.int (1 : Int32)), .val (.int (1 : Int32)), .val (.ref w_LESS_OR_EQUAL)] [(.int p2), (.ref w_LESS_OR_EQUAL)])
        obtain ⟨cq39, kq39, q39a, q39b, q39c⟩ := isOf hZ e38q (E_LESS_OR_EQUAL.ext O.2)
        obtain ⟨_, _, ⟨T39, L39, k39, n39⟩, -, X39, ⟨Lc39, hQ39, l39, y39, z39⟩, st39⟩ := X38.virtualBack hx (y := (⟨"com/example/nodewell/nodewell/store/ValueTest$Comparison", "passes", "(I)Z"⟩ : MethodName)) (z := (⟨"com/example/nodewell/nodewell/store/ValueTest$Comparison", "passes", "(I)Z"⟩ : MethodName)) hown (mvT hZ (hw _ (List.mem_of_getElem? (i := 9) rfl))) (mvT hZ (hw _ (List.mem_of_getElem? (i := 10) rfl))) (notFace_of_selects (args := #[]) (mvT hZ (hw _ (List.mem_of_getElem? (i := 12) rfl)))) (mvT hZ (hw _ (List.mem_of_getElem? (i := 12) rfl))) (mvT hZ (hw _ (List.mem_of_getElem? (i := 11) rfl))) (by decide) (backOf (W := 0) (rmS l Z a0 hw [] w_LESS_OR_EQUAL p2 2 h11 n0 O O_LESS_OR_EQUAL E_LESS_OR_EQUAL (by decide)) hZ (hw _ (List.mem_of_getElem? (i := 13) rfl)) (hw _ (List.mem_of_getElem? (i := 7) rfl)) (by decide) (by decide)) q39a q39c (g := (mkF m 82 #[.val (.int p1), .val (.int p2), .val (.int (2 : Int32)), .val (.ref b1), .val (.int (1 : Int32)), .val (.int (1 : Int32)), .val (.ref w_LESS_OR_EQUAL)] [(.int p2), (.ref w_LESS_OR_EQUAL)])) rfl (by rw [hml]; rfl) (Steps.refl _) (argsL := [(.int p2)]) (rest := []) (lenOf pd__I_Z rfl) rfl (by show 2 * 0 + _ ≤ _; exact Nat.le_of_eq rfl) (hb hby at_82) (fun _ _ => ⟨rfl, e38q, (by decide : 1 + 0 ≤ _), (by decide : 5 + 0 ≤ _)⟩)
        dsimp only [Pt.U, Pt.locs, Pt.cells, Pt.slots] at X39 l39 y39 z39 st39 hQ39
        subst l39 y39 z39
        obtain ⟨rfl, N39q, e39q⟩ := hQ39
        have N39 := Fr.app N38 N39q
        refine Go.tr st39 ?_
        rw [show passF 2 p2 = (1 : Int32) from own_pass21 hs]
        show Go _ _ _ _ _ _ _  T39 (mkF m 85 #[.val (.int p1), .val (.int p2), .val (.int (2 : Int32)), .val (.ref b1), .val (.int (1 : Int32)), .val (.int (1 : Int32)), .val (.ref w_LESS_OR_EQUAL)] [(.int (1 : Int32))])
        refine Go.st (fun t k => XS.iload X39.here hx rfl (hb hby at_85) rfl  k) ?_
        show Go _ _ _ _ _ _ _  T39 (mkF m 87 #[.val (.int p1), .val (.int p2), .val (.int (2 : Int32)), .val (.ref b1), .val (.int (1 : Int32)), .val (.int (1 : Int32)), .val (.ref w_LESS_OR_EQUAL)] [(.int (1 : Int32)), (.int (1 : Int32))])
        refine Go.st (fun t k => XS.icmpNo X39.here hx rfl (hb hby at_87) rfl (teq (rfl : (1 : Int32) = (1 : Int32))).2 k) ?_
        show Go _ _ _ _ _ _ _  T39 (mkF m 90 #[.val (.int p1), .val (.int p2), .val (.int (2 : Int32)), .val (.ref b1), .val (.int (1 : Int32)), .val (.int (1 : Int32)), .val (.ref w_LESS_OR_EQUAL)] [])
        refine Go.st (fun t k => XS.iconst X39.here hx rfl (hb hby at_90) k) ?_
        show Go _ _ _ _ _ _ _  T39 (mkF m 91 #[.val (.int p1), .val (.int p2), .val (.int (2 : Int32)), .val (.ref b1), .val (.int (1 : Int32)), .val (.int (1 : Int32)), .val (.ref w_LESS_OR_EQUAL)] [(.int (1 : Int32))])
        refine Go.st (fun t k => XS.goto X39.here hx rfl (pc0 := 91) (pc' := 95) rfl (hb hby at_91) (by decide) (by decide) k) ?_
        show Go _ _ _ _ _ _ _  T39 (mkF m 95 #[.val (.int p1), .val (.int p2), .val (.int (2 : Int32)), .val (.ref b1), .val (.int (1 : Int32)), .val (.int (1 : Int32)), .val (.ref w_LESS_OR_EQUAL)] [(.int (1 : Int32))])
        refine Go.retN X39 hlk hx (t := .boolean) (z' := (1 : Int32)) Bd.returns (by simp) (hb hby at_95) (by decide) (by decide) rfl ?_
        show Q_rm0 Z _ _ _ _ _ _ _ h0 n0 _ T39.heap _
        rw [e39q]
        exact ⟨rfl, N39⟩
      · rw [sp30]
        show Go _ _ _ _ _ _ _  T11 (mkF m 55 #[.val (.int p1), .val (.int p2), .val (.int (3 : Int32)), .val (.ref b1), .val (.int (1 : Int32)), .unset, .unset] [])
        refine Go.st (fun t k => XS.aloadN X11.here hx rfl (hb hby at_55) rfl rfl  k) ?_
        show Go _ _ _ _ _ _ _  T11 (mkF m 56 #[.val (.int p1), .val (.int p2), .val (.int (3 : Int32)), .val (.ref b1), .val (.int (1 : Int32)), .unset, .unset] [(.ref b1)])
        refine Go.st (fun t k => XS.iloadN X11.here hx rfl (hb hby at_56) rfl  k) ?_
        show Go _ _ _ _ _ _ _  T11 (mkF m 57 #[.val (.int p1), .val (.int p2), .val (.int (3 : Int32)), .val (.ref b1), .val (.int (1 : Int32)), .unset, .unset] [(.int (3 : Int32)), (.ref b1)])
        obtain ⟨cl40, Ar40, q40, S40, M40, Hh40, G40⟩ := id V_b1
        refine Go.st (X11.iaload hx (j := (3 : Int32)) (v := (.int (4 : Int32))) (by rw [e11]; exact Ar40.1) (State.isArrayOf_alike hZ.alike Ar40.2.1) Ar40.2.2 (inb_of S40 ⟨by decide, by decide⟩) (Hh40.at (inb_of S40 ⟨by decide, by decide⟩) rfl) (g := (mkF m 57 #[.val (.int p1), .val (.int p2), .val (.int (3 : Int32)), .val (.ref b1), .val (.int (1 : Int32)), .unset, .unset] [(.int (3 : Int32)), (.ref b1)])) rfl rfl (hb hby at_57)) ?_
        show Go _ _ _ _ _ _ _  T11 (mkF m 58 #[.val (.int p1), .val (.int p2), .val (.int (3 : Int32)), .val (.ref b1), .val (.int (1 : Int32)), .unset, .unset] [(.int (4 : Int32))])
        refine Go.st (fun t k => XS.iload X11.here hx rfl (hb hby at_58) rfl  k) ?_
        show Go _ _ _ _ _ _ _  T11 (mkF m 60 #[.val (.int p1), .val (.int p2), .val (.int (3 : Int32)), .val (.ref b1), .val (.int (1 : Int32)), .unset, .unset] [(.int (1 : Int32)), (.int (4 : Int32))])
        refine Go.st (fun t k => XS.ishr X11.here hx rfl (hb hby at_60) rfl k) ?_
        show Go _ _ _ _ _ _ _  T11 (mkF m 61 #[.val (.int p1), .val (.int p2), .val (.int (3 : Int32)), .val (.ref b1), .val (.int (1 : Int32)), .unset, .unset] [(.int ((4 : Int32) >>> ((1 : Int32) &&& 31)))])
        refine Go.st (fun t k => XS.iconst X11.here hx rfl (hb hby at_61) k) ?_
        show Go _ _ _ _ _ _ _  T11 (mkF m 62 #[.val (.int p1), .val (.int p2), .val (.int (3 : Int32)), .val (.ref b1), .val (.int (1 : Int32)), .unset, .unset] [(.int (1 : Int32)), (.int ((4 : Int32) >>> ((1 : Int32) &&& 31)))])
        refine Go.st (fun t k => XS.iand X11.here hx rfl (hb hby at_62) rfl k) ?_
        show Go _ _ _ _ _ _ _  T11 (mkF m 63 #[.val (.int p1), .val (.int p2), .val (.int (3 : Int32)), .val (.ref b1), .val (.int (1 : Int32)), .unset, .unset] [(.int (((4 : Int32) >>> ((1 : Int32) &&& 31)) &&& (1 : Int32)))])
        refine Go.st (fun t k => XS.ifYes X11.here hx rfl (pc0 := 63) (pc' := 70) rfl (hb hby at_63) rfl ((if0 _ _).trans (teq (by decide : (((4 : Int32) >>> ((1 : Int32) &&& 31)) &&& (1 : Int32)) = (0 : Int32))).1) (by decide) (by decide) k) ?_
        show Go _ _ _ _ _ _ _  T11 (mkF m 70 #[.val (.int p1), .val (.int p2), .val (.int (3 : Int32)), .val (.ref b1), .val (.int (1 : Int32)), .unset, .unset] [])
        refine Go.st (fun t k => XS.iconst X11.here hx rfl (hb hby at_70) k) ?_
        show Go _ _ _ _ _ _ _  T11 (mkF m 71 #[.val (.int p1), .val (.int p2), .val (.int (3 : Int32)), .val (.ref b1), .val (.int (1 : Int32)), .unset, .unset] [(.int (0 : Int32))])
        refine Go.st (fun t k => XS.istore X11.here hx rfl (hb hby at_71) rfl (l' := #[.val (.int p1), .val (.int p2), .val (.int (3 : Int32)), .val (.ref b1), .val (.int (1 : Int32)), .val (.int (0 : Int32)), .unset]) rfl k) ?_
        show Go _ _ _ _ _ _ _  T11 (mkF m 73 #[.val (.int p1), .val (.int p2), .val (.int (3 : Int32)), .val (.ref b1), .val (.int (1 : Int32)), .val (.int (0 : Int32)), .unset] [])
        refine Go.st (fun t k => XS.iloadN X11.here hx rfl (hb hby at_73) rfl  k) ?_
        show Go _ _ _ _ _ _ _  T11 (mkF m 74 #[.val (.int p1), .val (.int p2), .val (.int (3 : Int32)), .val (.ref b1), .val (.int (1 : Int32)), .val (.int (0 : Int32)), .unset] [(.int (3 : Int32))])
        obtain ⟨_, _, ⟨T41, L41, k41, n41⟩, -, X41, ⟨Lc41, hQ41, l41, y41, z41⟩, st41⟩ := Jvm.LawKit.callS X11 hx (y := (⟨"com/example/nodewell/nodewell/store/ComparisonPassesPinLaw", "pick", "(I)Lcom/example/nodewell/nodewell/store/ValueTest$Comparison;"⟩ : MethodName)) hown (mvT hZ (hw _ (List.mem_of_getElem? (i := 2) rfl))) (mvT hZ (hw _ (List.mem_of_getElem? (i := 3) rfl))) (mvT hZ (hw _ (List.mem_of_getElem? (i := 4) rfl))) (mvT hZ (hw _ (List.mem_of_getElem? (i := 5) rfl))) (by decide) (backOf (W := 0) (rmP l Z a0 hw [] (3 : Int32) w_EQUAL w_LESS w_LESS_OR_EQUAL w_GREATER w_GREATER_OR_EQUAL h11 n0 O S_EQUAL S_LESS S_LESS_OR_EQUAL S_GREATER S_GREATER_OR_EQUAL) hZ (hw _ (List.mem_of_getElem? (i := 5) rfl)) (hw _ (List.mem_of_getElem? (i := 4) rfl)) (by decide) (by decide)) (g := (mkF m 74 #[.val (.int p1), .val (.int p2), .val (.int (3 : Int32)), .val (.ref b1), .val (.int (1 : Int32)), .val (.int (0 : Int32)), .unset] [(.int (3 : Int32))])) rfl (by rw [hml]; rfl) (argsL := [(.int (3 : Int32))]) (rest := []) (lenOf pd__I_Lcom_example_nodewell_nodewell_store_ValueTest_Comparison_ rfl) rfl (by show 2 * 0 + _ ≤ _; exact Nat.le_of_eq rfl) (hb hby at_74) (fun _ _ => ⟨rfl, e11, (by decide : 1 + 0 ≤ _), (by decide : 5 + 0 ≤ _)⟩)
        dsimp only [Pt.U, Pt.locs, Pt.cells, Pt.slots] at X41 l41 y41 z41 st41 hQ41
        subst l41 y41 z41
        obtain ⟨rfl, N41q, e41q⟩ := hQ41
        have N41 := Fr.app N11 N41q
        refine Go.st st41 ?_
        rw [show pickF (3 : Int32) w_EQUAL w_LESS w_LESS_OR_EQUAL w_GREATER w_GREATER_OR_EQUAL = w_GREATER from by simp [pickF]]
        show Go _ _ _ _ _ _ _  T41 (mkF m 77 #[.val (.int p1), .val (.int p2), .val (.int (3 : Int32)), .val (.ref b1), .val (.int (1 : Int32)), .val (.int (0 : Int32)), .unset] [(.ref w_GREATER)])
        refine Go.st (fun t k => XS.astore X41.here hx rfl (hb hby at_77) rfl rfl (l' := #[.val (.int p1), .val (.int p2), .val (.int (3 : Int32)), .val (.ref b1), .val (.int (1 : Int32)), .val (.int (0 : Int32)), .val (.ref w_GREATER)]) rfl k) ?_
        show Go _ _ _ _ _ _ _  T41 (mkF m 79 #[.val (.int p1), .val (.int p2), .val (.int (3 : Int32)), .val (.ref b1), .val (.int (1 : Int32)), .val (.int (0 : Int32)), .val (.ref w_GREATER)] [])
        refine Go.st (fun t k => XS.aload X41.here hx rfl (hb hby at_79) rfl rfl  k) ?_
        show Go _ _ _ _ _ _ _  T41 (mkF m 81 #[.val (.int p1), .val (.int p2), .val (.int (3 : Int32)), .val (.ref b1), .val (.int (1 : Int32)), .val (.int (0 : Int32)), .val (.ref w_GREATER)] [(.ref w_GREATER)])
        refine Go.st (fun t k => XS.iloadN X41.here hx rfl (hb hby at_81) rfl  k) ?_
        show Go _ _ _ _ _ _ _  T41 (mkF m 82 #[.val (.int p1), .val (.int p2), .val (.int (3 : Int32)), .val (.ref b1), .val (.int (1 : Int32)), .val (.int (0 : Int32)), .val (.ref w_GREATER)] [(.int p2), (.ref w_GREATER)])
        obtain ⟨cq42, kq42, q42a, q42b, q42c⟩ := isOf hZ e41q (E_GREATER.ext O.2)
        obtain ⟨_, _, ⟨T42, L42, k42, n42⟩, -, X42, ⟨Lc42, hQ42, l42, y42, z42⟩, st42⟩ := X41.virtualBack hx (y := (⟨"com/example/nodewell/nodewell/store/ValueTest$Comparison", "passes", "(I)Z"⟩ : MethodName)) (z := (⟨"com/example/nodewell/nodewell/store/ValueTest$Comparison", "passes", "(I)Z"⟩ : MethodName)) hown (mvT hZ (hw _ (List.mem_of_getElem? (i := 9) rfl))) (mvT hZ (hw _ (List.mem_of_getElem? (i := 10) rfl))) (notFace_of_selects (args := #[]) (mvT hZ (hw _ (List.mem_of_getElem? (i := 12) rfl)))) (mvT hZ (hw _ (List.mem_of_getElem? (i := 12) rfl))) (mvT hZ (hw _ (List.mem_of_getElem? (i := 11) rfl))) (by decide) (backOf (W := 0) (rmS l Z a0 hw [] w_GREATER p2 3 h11 n0 O O_GREATER E_GREATER (by decide)) hZ (hw _ (List.mem_of_getElem? (i := 13) rfl)) (hw _ (List.mem_of_getElem? (i := 7) rfl)) (by decide) (by decide)) q42a q42c (g := (mkF m 82 #[.val (.int p1), .val (.int p2), .val (.int (3 : Int32)), .val (.ref b1), .val (.int (1 : Int32)), .val (.int (0 : Int32)), .val (.ref w_GREATER)] [(.int p2), (.ref w_GREATER)])) rfl (by rw [hml]; rfl) (Steps.refl _) (argsL := [(.int p2)]) (rest := []) (lenOf pd__I_Z rfl) rfl (by show 2 * 0 + _ ≤ _; exact Nat.le_of_eq rfl) (hb hby at_82) (fun _ _ => ⟨rfl, e41q, (by decide : 1 + 0 ≤ _), (by decide : 5 + 0 ≤ _)⟩)
        dsimp only [Pt.U, Pt.locs, Pt.cells, Pt.slots] at X42 l42 y42 z42 st42 hQ42
        subst l42 y42 z42
        obtain ⟨rfl, N42q, e42q⟩ := hQ42
        have N42 := Fr.app N41 N42q
        refine Go.tr st42 ?_
        rw [show passF 3 p2 = (0 : Int32) from own_pass31 hs]
        show Go _ _ _ _ _ _ _  T42 (mkF m 85 #[.val (.int p1), .val (.int p2), .val (.int (3 : Int32)), .val (.ref b1), .val (.int (1 : Int32)), .val (.int (0 : Int32)), .val (.ref w_GREATER)] [(.int (0 : Int32))])
        refine Go.st (fun t k => XS.iload X42.here hx rfl (hb hby at_85) rfl  k) ?_
        show Go _ _ _ _ _ _ _  T42 (mkF m 87 #[.val (.int p1), .val (.int p2), .val (.int (3 : Int32)), .val (.ref b1), .val (.int (1 : Int32)), .val (.int (0 : Int32)), .val (.ref w_GREATER)] [(.int (0 : Int32)), (.int (0 : Int32))])
        refine Go.st (fun t k => XS.icmpNo X42.here hx rfl (hb hby at_87) rfl (teq (rfl : (0 : Int32) = (0 : Int32))).2 k) ?_
        show Go _ _ _ _ _ _ _  T42 (mkF m 90 #[.val (.int p1), .val (.int p2), .val (.int (3 : Int32)), .val (.ref b1), .val (.int (1 : Int32)), .val (.int (0 : Int32)), .val (.ref w_GREATER)] [])
        refine Go.st (fun t k => XS.iconst X42.here hx rfl (hb hby at_90) k) ?_
        show Go _ _ _ _ _ _ _  T42 (mkF m 91 #[.val (.int p1), .val (.int p2), .val (.int (3 : Int32)), .val (.ref b1), .val (.int (1 : Int32)), .val (.int (0 : Int32)), .val (.ref w_GREATER)] [(.int (1 : Int32))])
        refine Go.st (fun t k => XS.goto X42.here hx rfl (pc0 := 91) (pc' := 95) rfl (hb hby at_91) (by decide) (by decide) k) ?_
        show Go _ _ _ _ _ _ _  T42 (mkF m 95 #[.val (.int p1), .val (.int p2), .val (.int (3 : Int32)), .val (.ref b1), .val (.int (1 : Int32)), .val (.int (0 : Int32)), .val (.ref w_GREATER)] [(.int (1 : Int32))])
        refine Go.retN X42 hlk hx (t := .boolean) (z' := (1 : Int32)) Bd.returns (by simp) (hb hby at_95) (by decide) (by decide) rfl ?_
        show Q_rm0 Z _ _ _ _ _ _ _ h0 n0 _ T42.heap _
        rw [e42q]
        exact ⟨rfl, N42⟩
      · rw [sp30]
        show Go _ _ _ _ _ _ _  T11 (mkF m 55 #[.val (.int p1), .val (.int p2), .val (.int (4 : Int32)), .val (.ref b1), .val (.int (1 : Int32)), .unset, .unset] [])
        refine Go.st (fun t k => XS.aloadN X11.here hx rfl (hb hby at_55) rfl rfl  k) ?_
        show Go _ _ _ _ _ _ _  T11 (mkF m 56 #[.val (.int p1), .val (.int p2), .val (.int (4 : Int32)), .val (.ref b1), .val (.int (1 : Int32)), .unset, .unset] [(.ref b1)])
        refine Go.st (fun t k => XS.iloadN X11.here hx rfl (hb hby at_56) rfl  k) ?_
        show Go _ _ _ _ _ _ _  T11 (mkF m 57 #[.val (.int p1), .val (.int p2), .val (.int (4 : Int32)), .val (.ref b1), .val (.int (1 : Int32)), .unset, .unset] [(.int (4 : Int32)), (.ref b1)])
        obtain ⟨cl43, Ar43, q43, S43, M43, Hh43, G43⟩ := id V_b1
        refine Go.st (X11.iaload hx (j := (4 : Int32)) (v := (.int (6 : Int32))) (by rw [e11]; exact Ar43.1) (State.isArrayOf_alike hZ.alike Ar43.2.1) Ar43.2.2 (inb_of S43 ⟨by decide, by decide⟩) (Hh43.at (inb_of S43 ⟨by decide, by decide⟩) rfl) (g := (mkF m 57 #[.val (.int p1), .val (.int p2), .val (.int (4 : Int32)), .val (.ref b1), .val (.int (1 : Int32)), .unset, .unset] [(.int (4 : Int32)), (.ref b1)])) rfl rfl (hb hby at_57)) ?_
        show Go _ _ _ _ _ _ _  T11 (mkF m 58 #[.val (.int p1), .val (.int p2), .val (.int (4 : Int32)), .val (.ref b1), .val (.int (1 : Int32)), .unset, .unset] [(.int (6 : Int32))])
        refine Go.st (fun t k => XS.iload X11.here hx rfl (hb hby at_58) rfl  k) ?_
        show Go _ _ _ _ _ _ _  T11 (mkF m 60 #[.val (.int p1), .val (.int p2), .val (.int (4 : Int32)), .val (.ref b1), .val (.int (1 : Int32)), .unset, .unset] [(.int (1 : Int32)), (.int (6 : Int32))])
        refine Go.st (fun t k => XS.ishr X11.here hx rfl (hb hby at_60) rfl k) ?_
        show Go _ _ _ _ _ _ _  T11 (mkF m 61 #[.val (.int p1), .val (.int p2), .val (.int (4 : Int32)), .val (.ref b1), .val (.int (1 : Int32)), .unset, .unset] [(.int ((6 : Int32) >>> ((1 : Int32) &&& 31)))])
        refine Go.st (fun t k => XS.iconst X11.here hx rfl (hb hby at_61) k) ?_
        show Go _ _ _ _ _ _ _  T11 (mkF m 62 #[.val (.int p1), .val (.int p2), .val (.int (4 : Int32)), .val (.ref b1), .val (.int (1 : Int32)), .unset, .unset] [(.int (1 : Int32)), (.int ((6 : Int32) >>> ((1 : Int32) &&& 31)))])
        refine Go.st (fun t k => XS.iand X11.here hx rfl (hb hby at_62) rfl k) ?_
        show Go _ _ _ _ _ _ _  T11 (mkF m 63 #[.val (.int p1), .val (.int p2), .val (.int (4 : Int32)), .val (.ref b1), .val (.int (1 : Int32)), .unset, .unset] [(.int (((6 : Int32) >>> ((1 : Int32) &&& 31)) &&& (1 : Int32)))])
        refine Go.st (fun t k => XS.ifNo X11.here hx rfl (hb hby at_63) rfl ((if0 _ _).trans (feq (by decide : ¬ ((((6 : Int32) >>> ((1 : Int32) &&& 31)) &&& (1 : Int32)) = (0 : Int32)))).1) k) ?_
        show Go _ _ _ _ _ _ _  T11 (mkF m 66 #[.val (.int p1), .val (.int p2), .val (.int (4 : Int32)), .val (.ref b1), .val (.int (1 : Int32)), .unset, .unset] [])
        refine Go.st (fun t k => XS.iconst X11.here hx rfl (hb hby at_66) k) ?_
        show Go _ _ _ _ _ _ _  T11 (mkF m 67 #[.val (.int p1), .val (.int p2), .val (.int (4 : Int32)), .val (.ref b1), .val (.int (1 : Int32)), .unset, .unset] [(.int (1 : Int32))])
        refine Go.st (fun t k => XS.goto X11.here hx rfl (pc0 := 67) (pc' := 71) rfl (hb hby at_67) (by decide) (by decide) k) ?_
        show Go _ _ _ _ _ _ _  T11 (mkF m 71 #[.val (.int p1), .val (.int p2), .val (.int (4 : Int32)), .val (.ref b1), .val (.int (1 : Int32)), .unset, .unset] [(.int (1 : Int32))])
        refine Go.st (fun t k => XS.istore X11.here hx rfl (hb hby at_71) rfl (l' := #[.val (.int p1), .val (.int p2), .val (.int (4 : Int32)), .val (.ref b1), .val (.int (1 : Int32)), .val (.int (1 : Int32)), .unset]) rfl k) ?_
        show Go _ _ _ _ _ _ _  T11 (mkF m 73 #[.val (.int p1), .val (.int p2), .val (.int (4 : Int32)), .val (.ref b1), .val (.int (1 : Int32)), .val (.int (1 : Int32)), .unset] [])
        refine Go.st (fun t k => XS.iloadN X11.here hx rfl (hb hby at_73) rfl  k) ?_
        show Go _ _ _ _ _ _ _  T11 (mkF m 74 #[.val (.int p1), .val (.int p2), .val (.int (4 : Int32)), .val (.ref b1), .val (.int (1 : Int32)), .val (.int (1 : Int32)), .unset] [(.int (4 : Int32))])
        obtain ⟨_, _, ⟨T44, L44, k44, n44⟩, -, X44, ⟨Lc44, hQ44, l44, y44, z44⟩, st44⟩ := Jvm.LawKit.callS X11 hx (y := (⟨"com/example/nodewell/nodewell/store/ComparisonPassesPinLaw", "pick", "(I)Lcom/example/nodewell/nodewell/store/ValueTest$Comparison;"⟩ : MethodName)) hown (mvT hZ (hw _ (List.mem_of_getElem? (i := 2) rfl))) (mvT hZ (hw _ (List.mem_of_getElem? (i := 3) rfl))) (mvT hZ (hw _ (List.mem_of_getElem? (i := 4) rfl))) (mvT hZ (hw _ (List.mem_of_getElem? (i := 5) rfl))) (by decide) (backOf (W := 0) (rmP l Z a0 hw [] (4 : Int32) w_EQUAL w_LESS w_LESS_OR_EQUAL w_GREATER w_GREATER_OR_EQUAL h11 n0 O S_EQUAL S_LESS S_LESS_OR_EQUAL S_GREATER S_GREATER_OR_EQUAL) hZ (hw _ (List.mem_of_getElem? (i := 5) rfl)) (hw _ (List.mem_of_getElem? (i := 4) rfl)) (by decide) (by decide)) (g := (mkF m 74 #[.val (.int p1), .val (.int p2), .val (.int (4 : Int32)), .val (.ref b1), .val (.int (1 : Int32)), .val (.int (1 : Int32)), .unset] [(.int (4 : Int32))])) rfl (by rw [hml]; rfl) (argsL := [(.int (4 : Int32))]) (rest := []) (lenOf pd__I_Lcom_example_nodewell_nodewell_store_ValueTest_Comparison_ rfl) rfl (by show 2 * 0 + _ ≤ _; exact Nat.le_of_eq rfl) (hb hby at_74) (fun _ _ => ⟨rfl, e11, (by decide : 1 + 0 ≤ _), (by decide : 5 + 0 ≤ _)⟩)
        dsimp only [Pt.U, Pt.locs, Pt.cells, Pt.slots] at X44 l44 y44 z44 st44 hQ44
        subst l44 y44 z44
        obtain ⟨rfl, N44q, e44q⟩ := hQ44
        have N44 := Fr.app N11 N44q
        refine Go.st st44 ?_
        rw [show pickF (4 : Int32) w_EQUAL w_LESS w_LESS_OR_EQUAL w_GREATER w_GREATER_OR_EQUAL = w_GREATER_OR_EQUAL from by simp [pickF]]
        show Go _ _ _ _ _ _ _  T44 (mkF m 77 #[.val (.int p1), .val (.int p2), .val (.int (4 : Int32)), .val (.ref b1), .val (.int (1 : Int32)), .val (.int (1 : Int32)), .unset] [(.ref w_GREATER_OR_EQUAL)])
        refine Go.st (fun t k => XS.astore X44.here hx rfl (hb hby at_77) rfl rfl (l' := #[.val (.int p1), .val (.int p2), .val (.int (4 : Int32)), .val (.ref b1), .val (.int (1 : Int32)), .val (.int (1 : Int32)), .val (.ref w_GREATER_OR_EQUAL)]) rfl k) ?_
        show Go _ _ _ _ _ _ _  T44 (mkF m 79 #[.val (.int p1), .val (.int p2), .val (.int (4 : Int32)), .val (.ref b1), .val (.int (1 : Int32)), .val (.int (1 : Int32)), .val (.ref w_GREATER_OR_EQUAL)] [])
        refine Go.st (fun t k => XS.aload X44.here hx rfl (hb hby at_79) rfl rfl  k) ?_
        show Go _ _ _ _ _ _ _  T44 (mkF m 81 #[.val (.int p1), .val (.int p2), .val (.int (4 : Int32)), .val (.ref b1), .val (.int (1 : Int32)), .val (.int (1 : Int32)), .val (.ref w_GREATER_OR_EQUAL)] [(.ref w_GREATER_OR_EQUAL)])
        refine Go.st (fun t k => XS.iloadN X44.here hx rfl (hb hby at_81) rfl  k) ?_
        show Go _ _ _ _ _ _ _  T44 (mkF m 82 #[.val (.int p1), .val (.int p2), .val (.int (4 : Int32)), .val (.ref b1), .val (.int (1 : Int32)), .val (.int (1 : Int32)), .val (.ref w_GREATER_OR_EQUAL)] [(.int p2), (.ref w_GREATER_OR_EQUAL)])
        obtain ⟨cq45, kq45, q45a, q45b, q45c⟩ := isOf hZ e44q (E_GREATER_OR_EQUAL.ext O.2)
        obtain ⟨_, _, ⟨T45, L45, k45, n45⟩, -, X45, ⟨Lc45, hQ45, l45, y45, z45⟩, st45⟩ := X44.virtualBack hx (y := (⟨"com/example/nodewell/nodewell/store/ValueTest$Comparison", "passes", "(I)Z"⟩ : MethodName)) (z := (⟨"com/example/nodewell/nodewell/store/ValueTest$Comparison", "passes", "(I)Z"⟩ : MethodName)) hown (mvT hZ (hw _ (List.mem_of_getElem? (i := 9) rfl))) (mvT hZ (hw _ (List.mem_of_getElem? (i := 10) rfl))) (notFace_of_selects (args := #[]) (mvT hZ (hw _ (List.mem_of_getElem? (i := 12) rfl)))) (mvT hZ (hw _ (List.mem_of_getElem? (i := 12) rfl))) (mvT hZ (hw _ (List.mem_of_getElem? (i := 11) rfl))) (by decide) (backOf (W := 0) (rmS l Z a0 hw [] w_GREATER_OR_EQUAL p2 4 h11 n0 O O_GREATER_OR_EQUAL E_GREATER_OR_EQUAL (by decide)) hZ (hw _ (List.mem_of_getElem? (i := 13) rfl)) (hw _ (List.mem_of_getElem? (i := 7) rfl)) (by decide) (by decide)) q45a q45c (g := (mkF m 82 #[.val (.int p1), .val (.int p2), .val (.int (4 : Int32)), .val (.ref b1), .val (.int (1 : Int32)), .val (.int (1 : Int32)), .val (.ref w_GREATER_OR_EQUAL)] [(.int p2), (.ref w_GREATER_OR_EQUAL)])) rfl (by rw [hml]; rfl) (Steps.refl _) (argsL := [(.int p2)]) (rest := []) (lenOf pd__I_Z rfl) rfl (by show 2 * 0 + _ ≤ _; exact Nat.le_of_eq rfl) (hb hby at_82) (fun _ _ => ⟨rfl, e44q, (by decide : 1 + 0 ≤ _), (by decide : 5 + 0 ≤ _)⟩)
        dsimp only [Pt.U, Pt.locs, Pt.cells, Pt.slots] at X45 l45 y45 z45 st45 hQ45
        subst l45 y45 z45
        obtain ⟨rfl, N45q, e45q⟩ := hQ45
        have N45 := Fr.app N44 N45q
        refine Go.tr st45 ?_
        rw [show passF 4 p2 = (1 : Int32) from own_pass41 hs]
        show Go _ _ _ _ _ _ _  T45 (mkF m 85 #[.val (.int p1), .val (.int p2), .val (.int (4 : Int32)), .val (.ref b1), .val (.int (1 : Int32)), .val (.int (1 : Int32)), .val (.ref w_GREATER_OR_EQUAL)] [(.int (1 : Int32))])
        refine Go.st (fun t k => XS.iload X45.here hx rfl (hb hby at_85) rfl  k) ?_
        show Go _ _ _ _ _ _ _  T45 (mkF m 87 #[.val (.int p1), .val (.int p2), .val (.int (4 : Int32)), .val (.ref b1), .val (.int (1 : Int32)), .val (.int (1 : Int32)), .val (.ref w_GREATER_OR_EQUAL)] [(.int (1 : Int32)), (.int (1 : Int32))])
        refine Go.st (fun t k => XS.icmpNo X45.here hx rfl (hb hby at_87) rfl (teq (rfl : (1 : Int32) = (1 : Int32))).2 k) ?_
        show Go _ _ _ _ _ _ _  T45 (mkF m 90 #[.val (.int p1), .val (.int p2), .val (.int (4 : Int32)), .val (.ref b1), .val (.int (1 : Int32)), .val (.int (1 : Int32)), .val (.ref w_GREATER_OR_EQUAL)] [])
        refine Go.st (fun t k => XS.iconst X45.here hx rfl (hb hby at_90) k) ?_
        show Go _ _ _ _ _ _ _  T45 (mkF m 91 #[.val (.int p1), .val (.int p2), .val (.int (4 : Int32)), .val (.ref b1), .val (.int (1 : Int32)), .val (.int (1 : Int32)), .val (.ref w_GREATER_OR_EQUAL)] [(.int (1 : Int32))])
        refine Go.st (fun t k => XS.goto X45.here hx rfl (pc0 := 91) (pc' := 95) rfl (hb hby at_91) (by decide) (by decide) k) ?_
        show Go _ _ _ _ _ _ _  T45 (mkF m 95 #[.val (.int p1), .val (.int p2), .val (.int (4 : Int32)), .val (.ref b1), .val (.int (1 : Int32)), .val (.int (1 : Int32)), .val (.ref w_GREATER_OR_EQUAL)] [(.int (1 : Int32))])
        refine Go.retN X45 hlk hx (t := .boolean) (z' := (1 : Int32)) Bd.returns (by simp) (hb hby at_95) (by decide) (by decide) rfl ?_
        show Q_rm0 Z _ _ _ _ _ _ _ h0 n0 _ T45.heap _
        rw [e45q]
        exact ⟨rfl, N45⟩
    · refine Go.st (fun t k => XS.ifYes X11.here hx rfl (pc0 := 43) (pc' := 52) rfl (hb hby at_43) rfl ((if0 _ _).trans (feq c43_29).2) (by decide) (by decide) k) ?_
      show Go _ _ _ _ _ _ _  T11 (mkF m 52 #[.val (.int p1), .val (.int p2), .val (.int ((p1 &&& (2147483647 : Int32)) % (5 : Int32))), .val (.ref b1), .unset, .unset, .unset] [])
      refine Go.st (fun t k => XS.iconst X11.here hx rfl (hb hby at_52) k) ?_
      show Go _ _ _ _ _ _ _  T11 (mkF m 53 #[.val (.int p1), .val (.int p2), .val (.int ((p1 &&& (2147483647 : Int32)) % (5 : Int32))), .val (.ref b1), .unset, .unset, .unset] [(.int (2 : Int32))])
      refine Go.st (fun t k => XS.istore X11.here hx rfl (hb hby at_53) rfl (l' := #[.val (.int p1), .val (.int p2), .val (.int ((p1 &&& (2147483647 : Int32)) % (5 : Int32))), .val (.ref b1), .val (.int (2 : Int32)), .unset, .unset]) rfl k) ?_
      show Go _ _ _ _ _ _ _  T11 (mkF m 55 #[.val (.int p1), .val (.int p2), .val (.int ((p1 &&& (2147483647 : Int32)) % (5 : Int32))), .val (.ref b1), .val (.int (2 : Int32)), .unset, .unset] [])
      have hs : (0 : Int32) < p2 := own_posOf c33_12 c43_29
      rcases own_mod5 p1 with sp46 | sp46 | sp46 | sp46 | sp46
      · rw [sp46]
        show Go _ _ _ _ _ _ _  T11 (mkF m 55 #[.val (.int p1), .val (.int p2), .val (.int (0 : Int32)), .val (.ref b1), .val (.int (2 : Int32)), .unset, .unset] [])
        refine Go.st (fun t k => XS.aloadN X11.here hx rfl (hb hby at_55) rfl rfl  k) ?_
        show Go _ _ _ _ _ _ _  T11 (mkF m 56 #[.val (.int p1), .val (.int p2), .val (.int (0 : Int32)), .val (.ref b1), .val (.int (2 : Int32)), .unset, .unset] [(.ref b1)])
        refine Go.st (fun t k => XS.iloadN X11.here hx rfl (hb hby at_56) rfl  k) ?_
        show Go _ _ _ _ _ _ _  T11 (mkF m 57 #[.val (.int p1), .val (.int p2), .val (.int (0 : Int32)), .val (.ref b1), .val (.int (2 : Int32)), .unset, .unset] [(.int (0 : Int32)), (.ref b1)])
        obtain ⟨cl47, Ar47, q47, S47, M47, Hh47, G47⟩ := id V_b1
        refine Go.st (X11.iaload hx (j := (0 : Int32)) (v := (.int (2 : Int32))) (by rw [e11]; exact Ar47.1) (State.isArrayOf_alike hZ.alike Ar47.2.1) Ar47.2.2 (inb_of S47 ⟨by decide, by decide⟩) (Hh47.at (inb_of S47 ⟨by decide, by decide⟩) rfl) (g := (mkF m 57 #[.val (.int p1), .val (.int p2), .val (.int (0 : Int32)), .val (.ref b1), .val (.int (2 : Int32)), .unset, .unset] [(.int (0 : Int32)), (.ref b1)])) rfl rfl (hb hby at_57)) ?_
        show Go _ _ _ _ _ _ _  T11 (mkF m 58 #[.val (.int p1), .val (.int p2), .val (.int (0 : Int32)), .val (.ref b1), .val (.int (2 : Int32)), .unset, .unset] [(.int (2 : Int32))])
        refine Go.st (fun t k => XS.iload X11.here hx rfl (hb hby at_58) rfl  k) ?_
        show Go _ _ _ _ _ _ _  T11 (mkF m 60 #[.val (.int p1), .val (.int p2), .val (.int (0 : Int32)), .val (.ref b1), .val (.int (2 : Int32)), .unset, .unset] [(.int (2 : Int32)), (.int (2 : Int32))])
        refine Go.st (fun t k => XS.ishr X11.here hx rfl (hb hby at_60) rfl k) ?_
        show Go _ _ _ _ _ _ _  T11 (mkF m 61 #[.val (.int p1), .val (.int p2), .val (.int (0 : Int32)), .val (.ref b1), .val (.int (2 : Int32)), .unset, .unset] [(.int ((2 : Int32) >>> ((2 : Int32) &&& 31)))])
        refine Go.st (fun t k => XS.iconst X11.here hx rfl (hb hby at_61) k) ?_
        show Go _ _ _ _ _ _ _  T11 (mkF m 62 #[.val (.int p1), .val (.int p2), .val (.int (0 : Int32)), .val (.ref b1), .val (.int (2 : Int32)), .unset, .unset] [(.int (1 : Int32)), (.int ((2 : Int32) >>> ((2 : Int32) &&& 31)))])
        refine Go.st (fun t k => XS.iand X11.here hx rfl (hb hby at_62) rfl k) ?_
        show Go _ _ _ _ _ _ _  T11 (mkF m 63 #[.val (.int p1), .val (.int p2), .val (.int (0 : Int32)), .val (.ref b1), .val (.int (2 : Int32)), .unset, .unset] [(.int (((2 : Int32) >>> ((2 : Int32) &&& 31)) &&& (1 : Int32)))])
        refine Go.st (fun t k => XS.ifYes X11.here hx rfl (pc0 := 63) (pc' := 70) rfl (hb hby at_63) rfl ((if0 _ _).trans (teq (by decide : (((2 : Int32) >>> ((2 : Int32) &&& 31)) &&& (1 : Int32)) = (0 : Int32))).1) (by decide) (by decide) k) ?_
        show Go _ _ _ _ _ _ _  T11 (mkF m 70 #[.val (.int p1), .val (.int p2), .val (.int (0 : Int32)), .val (.ref b1), .val (.int (2 : Int32)), .unset, .unset] [])
        refine Go.st (fun t k => XS.iconst X11.here hx rfl (hb hby at_70) k) ?_
        show Go _ _ _ _ _ _ _  T11 (mkF m 71 #[.val (.int p1), .val (.int p2), .val (.int (0 : Int32)), .val (.ref b1), .val (.int (2 : Int32)), .unset, .unset] [(.int (0 : Int32))])
        refine Go.st (fun t k => XS.istore X11.here hx rfl (hb hby at_71) rfl (l' := #[.val (.int p1), .val (.int p2), .val (.int (0 : Int32)), .val (.ref b1), .val (.int (2 : Int32)), .val (.int (0 : Int32)), .unset]) rfl k) ?_
        show Go _ _ _ _ _ _ _  T11 (mkF m 73 #[.val (.int p1), .val (.int p2), .val (.int (0 : Int32)), .val (.ref b1), .val (.int (2 : Int32)), .val (.int (0 : Int32)), .unset] [])
        refine Go.st (fun t k => XS.iloadN X11.here hx rfl (hb hby at_73) rfl  k) ?_
        show Go _ _ _ _ _ _ _  T11 (mkF m 74 #[.val (.int p1), .val (.int p2), .val (.int (0 : Int32)), .val (.ref b1), .val (.int (2 : Int32)), .val (.int (0 : Int32)), .unset] [(.int (0 : Int32))])
        obtain ⟨_, _, ⟨T48, L48, k48, n48⟩, -, X48, ⟨Lc48, hQ48, l48, y48, z48⟩, st48⟩ := Jvm.LawKit.callS X11 hx (y := (⟨"com/example/nodewell/nodewell/store/ComparisonPassesPinLaw", "pick", "(I)Lcom/example/nodewell/nodewell/store/ValueTest$Comparison;"⟩ : MethodName)) hown (mvT hZ (hw _ (List.mem_of_getElem? (i := 2) rfl))) (mvT hZ (hw _ (List.mem_of_getElem? (i := 3) rfl))) (mvT hZ (hw _ (List.mem_of_getElem? (i := 4) rfl))) (mvT hZ (hw _ (List.mem_of_getElem? (i := 5) rfl))) (by decide) (backOf (W := 0) (rmP l Z a0 hw [] (0 : Int32) w_EQUAL w_LESS w_LESS_OR_EQUAL w_GREATER w_GREATER_OR_EQUAL h11 n0 O S_EQUAL S_LESS S_LESS_OR_EQUAL S_GREATER S_GREATER_OR_EQUAL) hZ (hw _ (List.mem_of_getElem? (i := 5) rfl)) (hw _ (List.mem_of_getElem? (i := 4) rfl)) (by decide) (by decide)) (g := (mkF m 74 #[.val (.int p1), .val (.int p2), .val (.int (0 : Int32)), .val (.ref b1), .val (.int (2 : Int32)), .val (.int (0 : Int32)), .unset] [(.int (0 : Int32))])) rfl (by rw [hml]; rfl) (argsL := [(.int (0 : Int32))]) (rest := []) (lenOf pd__I_Lcom_example_nodewell_nodewell_store_ValueTest_Comparison_ rfl) rfl (by show 2 * 0 + _ ≤ _; exact Nat.le_of_eq rfl) (hb hby at_74) (fun _ _ => ⟨rfl, e11, (by decide : 1 + 0 ≤ _), (by decide : 5 + 0 ≤ _)⟩)
        dsimp only [Pt.U, Pt.locs, Pt.cells, Pt.slots] at X48 l48 y48 z48 st48 hQ48
        subst l48 y48 z48
        obtain ⟨rfl, N48q, e48q⟩ := hQ48
        have N48 := Fr.app N11 N48q
        refine Go.st st48 ?_
        rw [show pickF (0 : Int32) w_EQUAL w_LESS w_LESS_OR_EQUAL w_GREATER w_GREATER_OR_EQUAL = w_EQUAL from by simp [pickF]]
        show Go _ _ _ _ _ _ _  T48 (mkF m 77 #[.val (.int p1), .val (.int p2), .val (.int (0 : Int32)), .val (.ref b1), .val (.int (2 : Int32)), .val (.int (0 : Int32)), .unset] [(.ref w_EQUAL)])
        refine Go.st (fun t k => XS.astore X48.here hx rfl (hb hby at_77) rfl rfl (l' := #[.val (.int p1), .val (.int p2), .val (.int (0 : Int32)), .val (.ref b1), .val (.int (2 : Int32)), .val (.int (0 : Int32)), .val (.ref w_EQUAL)]) rfl k) ?_
        show Go _ _ _ _ _ _ _  T48 (mkF m 79 #[.val (.int p1), .val (.int p2), .val (.int (0 : Int32)), .val (.ref b1), .val (.int (2 : Int32)), .val (.int (0 : Int32)), .val (.ref w_EQUAL)] [])
        refine Go.st (fun t k => XS.aload X48.here hx rfl (hb hby at_79) rfl rfl  k) ?_
        show Go _ _ _ _ _ _ _  T48 (mkF m 81 #[.val (.int p1), .val (.int p2), .val (.int (0 : Int32)), .val (.ref b1), .val (.int (2 : Int32)), .val (.int (0 : Int32)), .val (.ref w_EQUAL)] [(.ref w_EQUAL)])
        refine Go.st (fun t k => XS.iloadN X48.here hx rfl (hb hby at_81) rfl  k) ?_
        show Go _ _ _ _ _ _ _  T48 (mkF m 82 #[.val (.int p1), .val (.int p2), .val (.int (0 : Int32)), .val (.ref b1), .val (.int (2 : Int32)), .val (.int (0 : Int32)), .val (.ref w_EQUAL)] [(.int p2), (.ref w_EQUAL)])
        obtain ⟨cq49, kq49, q49a, q49b, q49c⟩ := isOf hZ e48q (E_EQUAL.ext O.2)
        obtain ⟨_, _, ⟨T49, L49, k49, n49⟩, -, X49, ⟨Lc49, hQ49, l49, y49, z49⟩, st49⟩ := X48.virtualBack hx (y := (⟨"com/example/nodewell/nodewell/store/ValueTest$Comparison", "passes", "(I)Z"⟩ : MethodName)) (z := (⟨"com/example/nodewell/nodewell/store/ValueTest$Comparison", "passes", "(I)Z"⟩ : MethodName)) hown (mvT hZ (hw _ (List.mem_of_getElem? (i := 9) rfl))) (mvT hZ (hw _ (List.mem_of_getElem? (i := 10) rfl))) (notFace_of_selects (args := #[]) (mvT hZ (hw _ (List.mem_of_getElem? (i := 12) rfl)))) (mvT hZ (hw _ (List.mem_of_getElem? (i := 12) rfl))) (mvT hZ (hw _ (List.mem_of_getElem? (i := 11) rfl))) (by decide) (backOf (W := 0) (rmS l Z a0 hw [] w_EQUAL p2 0 h11 n0 O O_EQUAL E_EQUAL (by decide)) hZ (hw _ (List.mem_of_getElem? (i := 13) rfl)) (hw _ (List.mem_of_getElem? (i := 7) rfl)) (by decide) (by decide)) q49a q49c (g := (mkF m 82 #[.val (.int p1), .val (.int p2), .val (.int (0 : Int32)), .val (.ref b1), .val (.int (2 : Int32)), .val (.int (0 : Int32)), .val (.ref w_EQUAL)] [(.int p2), (.ref w_EQUAL)])) rfl (by rw [hml]; rfl) (Steps.refl _) (argsL := [(.int p2)]) (rest := []) (lenOf pd__I_Z rfl) rfl (by show 2 * 0 + _ ≤ _; exact Nat.le_of_eq rfl) (hb hby at_82) (fun _ _ => ⟨rfl, e48q, (by decide : 1 + 0 ≤ _), (by decide : 5 + 0 ≤ _)⟩)
        dsimp only [Pt.U, Pt.locs, Pt.cells, Pt.slots] at X49 l49 y49 z49 st49 hQ49
        subst l49 y49 z49
        obtain ⟨rfl, N49q, e49q⟩ := hQ49
        have N49 := Fr.app N48 N49q
        refine Go.tr st49 ?_
        rw [show passF 0 p2 = (0 : Int32) from own_pass02 hs]
        show Go _ _ _ _ _ _ _  T49 (mkF m 85 #[.val (.int p1), .val (.int p2), .val (.int (0 : Int32)), .val (.ref b1), .val (.int (2 : Int32)), .val (.int (0 : Int32)), .val (.ref w_EQUAL)] [(.int (0 : Int32))])
        refine Go.st (fun t k => XS.iload X49.here hx rfl (hb hby at_85) rfl  k) ?_
        show Go _ _ _ _ _ _ _  T49 (mkF m 87 #[.val (.int p1), .val (.int p2), .val (.int (0 : Int32)), .val (.ref b1), .val (.int (2 : Int32)), .val (.int (0 : Int32)), .val (.ref w_EQUAL)] [(.int (0 : Int32)), (.int (0 : Int32))])
        refine Go.st (fun t k => XS.icmpNo X49.here hx rfl (hb hby at_87) rfl (teq (rfl : (0 : Int32) = (0 : Int32))).2 k) ?_
        show Go _ _ _ _ _ _ _  T49 (mkF m 90 #[.val (.int p1), .val (.int p2), .val (.int (0 : Int32)), .val (.ref b1), .val (.int (2 : Int32)), .val (.int (0 : Int32)), .val (.ref w_EQUAL)] [])
        refine Go.st (fun t k => XS.iconst X49.here hx rfl (hb hby at_90) k) ?_
        show Go _ _ _ _ _ _ _  T49 (mkF m 91 #[.val (.int p1), .val (.int p2), .val (.int (0 : Int32)), .val (.ref b1), .val (.int (2 : Int32)), .val (.int (0 : Int32)), .val (.ref w_EQUAL)] [(.int (1 : Int32))])
        refine Go.st (fun t k => XS.goto X49.here hx rfl (pc0 := 91) (pc' := 95) rfl (hb hby at_91) (by decide) (by decide) k) ?_
        show Go _ _ _ _ _ _ _  T49 (mkF m 95 #[.val (.int p1), .val (.int p2), .val (.int (0 : Int32)), .val (.ref b1), .val (.int (2 : Int32)), .val (.int (0 : Int32)), .val (.ref w_EQUAL)] [(.int (1 : Int32))])
        refine Go.retN X49 hlk hx (t := .boolean) (z' := (1 : Int32)) Bd.returns (by simp) (hb hby at_95) (by decide) (by decide) rfl ?_
        show Q_rm0 Z _ _ _ _ _ _ _ h0 n0 _ T49.heap _
        rw [e49q]
        exact ⟨rfl, N49⟩
      · rw [sp46]
        show Go _ _ _ _ _ _ _  T11 (mkF m 55 #[.val (.int p1), .val (.int p2), .val (.int (1 : Int32)), .val (.ref b1), .val (.int (2 : Int32)), .unset, .unset] [])
        refine Go.st (fun t k => XS.aloadN X11.here hx rfl (hb hby at_55) rfl rfl  k) ?_
        show Go _ _ _ _ _ _ _  T11 (mkF m 56 #[.val (.int p1), .val (.int p2), .val (.int (1 : Int32)), .val (.ref b1), .val (.int (2 : Int32)), .unset, .unset] [(.ref b1)])
        refine Go.st (fun t k => XS.iloadN X11.here hx rfl (hb hby at_56) rfl  k) ?_
        show Go _ _ _ _ _ _ _  T11 (mkF m 57 #[.val (.int p1), .val (.int p2), .val (.int (1 : Int32)), .val (.ref b1), .val (.int (2 : Int32)), .unset, .unset] [(.int (1 : Int32)), (.ref b1)])
        obtain ⟨cl50, Ar50, q50, S50, M50, Hh50, G50⟩ := id V_b1
        refine Go.st (X11.iaload hx (j := (1 : Int32)) (v := (.int (1 : Int32))) (by rw [e11]; exact Ar50.1) (State.isArrayOf_alike hZ.alike Ar50.2.1) Ar50.2.2 (inb_of S50 ⟨by decide, by decide⟩) (Hh50.at (inb_of S50 ⟨by decide, by decide⟩) rfl) (g := (mkF m 57 #[.val (.int p1), .val (.int p2), .val (.int (1 : Int32)), .val (.ref b1), .val (.int (2 : Int32)), .unset, .unset] [(.int (1 : Int32)), (.ref b1)])) rfl rfl (hb hby at_57)) ?_
        show Go _ _ _ _ _ _ _  T11 (mkF m 58 #[.val (.int p1), .val (.int p2), .val (.int (1 : Int32)), .val (.ref b1), .val (.int (2 : Int32)), .unset, .unset] [(.int (1 : Int32))])
        refine Go.st (fun t k => XS.iload X11.here hx rfl (hb hby at_58) rfl  k) ?_
        show Go _ _ _ _ _ _ _  T11 (mkF m 60 #[.val (.int p1), .val (.int p2), .val (.int (1 : Int32)), .val (.ref b1), .val (.int (2 : Int32)), .unset, .unset] [(.int (2 : Int32)), (.int (1 : Int32))])
        refine Go.st (fun t k => XS.ishr X11.here hx rfl (hb hby at_60) rfl k) ?_
        show Go _ _ _ _ _ _ _  T11 (mkF m 61 #[.val (.int p1), .val (.int p2), .val (.int (1 : Int32)), .val (.ref b1), .val (.int (2 : Int32)), .unset, .unset] [(.int ((1 : Int32) >>> ((2 : Int32) &&& 31)))])
        refine Go.st (fun t k => XS.iconst X11.here hx rfl (hb hby at_61) k) ?_
        show Go _ _ _ _ _ _ _  T11 (mkF m 62 #[.val (.int p1), .val (.int p2), .val (.int (1 : Int32)), .val (.ref b1), .val (.int (2 : Int32)), .unset, .unset] [(.int (1 : Int32)), (.int ((1 : Int32) >>> ((2 : Int32) &&& 31)))])
        refine Go.st (fun t k => XS.iand X11.here hx rfl (hb hby at_62) rfl k) ?_
        show Go _ _ _ _ _ _ _  T11 (mkF m 63 #[.val (.int p1), .val (.int p2), .val (.int (1 : Int32)), .val (.ref b1), .val (.int (2 : Int32)), .unset, .unset] [(.int (((1 : Int32) >>> ((2 : Int32) &&& 31)) &&& (1 : Int32)))])
        refine Go.st (fun t k => XS.ifYes X11.here hx rfl (pc0 := 63) (pc' := 70) rfl (hb hby at_63) rfl ((if0 _ _).trans (teq (by decide : (((1 : Int32) >>> ((2 : Int32) &&& 31)) &&& (1 : Int32)) = (0 : Int32))).1) (by decide) (by decide) k) ?_
        show Go _ _ _ _ _ _ _  T11 (mkF m 70 #[.val (.int p1), .val (.int p2), .val (.int (1 : Int32)), .val (.ref b1), .val (.int (2 : Int32)), .unset, .unset] [])
        refine Go.st (fun t k => XS.iconst X11.here hx rfl (hb hby at_70) k) ?_
        show Go _ _ _ _ _ _ _  T11 (mkF m 71 #[.val (.int p1), .val (.int p2), .val (.int (1 : Int32)), .val (.ref b1), .val (.int (2 : Int32)), .unset, .unset] [(.int (0 : Int32))])
        refine Go.st (fun t k => XS.istore X11.here hx rfl (hb hby at_71) rfl (l' := #[.val (.int p1), .val (.int p2), .val (.int (1 : Int32)), .val (.ref b1), .val (.int (2 : Int32)), .val (.int (0 : Int32)), .unset]) rfl k) ?_
        show Go _ _ _ _ _ _ _  T11 (mkF m 73 #[.val (.int p1), .val (.int p2), .val (.int (1 : Int32)), .val (.ref b1), .val (.int (2 : Int32)), .val (.int (0 : Int32)), .unset] [])
        refine Go.st (fun t k => XS.iloadN X11.here hx rfl (hb hby at_73) rfl  k) ?_
        show Go _ _ _ _ _ _ _  T11 (mkF m 74 #[.val (.int p1), .val (.int p2), .val (.int (1 : Int32)), .val (.ref b1), .val (.int (2 : Int32)), .val (.int (0 : Int32)), .unset] [(.int (1 : Int32))])
        obtain ⟨_, _, ⟨T51, L51, k51, n51⟩, -, X51, ⟨Lc51, hQ51, l51, y51, z51⟩, st51⟩ := Jvm.LawKit.callS X11 hx (y := (⟨"com/example/nodewell/nodewell/store/ComparisonPassesPinLaw", "pick", "(I)Lcom/example/nodewell/nodewell/store/ValueTest$Comparison;"⟩ : MethodName)) hown (mvT hZ (hw _ (List.mem_of_getElem? (i := 2) rfl))) (mvT hZ (hw _ (List.mem_of_getElem? (i := 3) rfl))) (mvT hZ (hw _ (List.mem_of_getElem? (i := 4) rfl))) (mvT hZ (hw _ (List.mem_of_getElem? (i := 5) rfl))) (by decide) (backOf (W := 0) (rmP l Z a0 hw [] (1 : Int32) w_EQUAL w_LESS w_LESS_OR_EQUAL w_GREATER w_GREATER_OR_EQUAL h11 n0 O S_EQUAL S_LESS S_LESS_OR_EQUAL S_GREATER S_GREATER_OR_EQUAL) hZ (hw _ (List.mem_of_getElem? (i := 5) rfl)) (hw _ (List.mem_of_getElem? (i := 4) rfl)) (by decide) (by decide)) (g := (mkF m 74 #[.val (.int p1), .val (.int p2), .val (.int (1 : Int32)), .val (.ref b1), .val (.int (2 : Int32)), .val (.int (0 : Int32)), .unset] [(.int (1 : Int32))])) rfl (by rw [hml]; rfl) (argsL := [(.int (1 : Int32))]) (rest := []) (lenOf pd__I_Lcom_example_nodewell_nodewell_store_ValueTest_Comparison_ rfl) rfl (by show 2 * 0 + _ ≤ _; exact Nat.le_of_eq rfl) (hb hby at_74) (fun _ _ => ⟨rfl, e11, (by decide : 1 + 0 ≤ _), (by decide : 5 + 0 ≤ _)⟩)
        dsimp only [Pt.U, Pt.locs, Pt.cells, Pt.slots] at X51 l51 y51 z51 st51 hQ51
        subst l51 y51 z51
        obtain ⟨rfl, N51q, e51q⟩ := hQ51
        have N51 := Fr.app N11 N51q
        refine Go.st st51 ?_
        rw [show pickF (1 : Int32) w_EQUAL w_LESS w_LESS_OR_EQUAL w_GREATER w_GREATER_OR_EQUAL = w_LESS from by simp [pickF]]
        show Go _ _ _ _ _ _ _  T51 (mkF m 77 #[.val (.int p1), .val (.int p2), .val (.int (1 : Int32)), .val (.ref b1), .val (.int (2 : Int32)), .val (.int (0 : Int32)), .unset] [(.ref w_LESS)])
        refine Go.st (fun t k => XS.astore X51.here hx rfl (hb hby at_77) rfl rfl (l' := #[.val (.int p1), .val (.int p2), .val (.int (1 : Int32)), .val (.ref b1), .val (.int (2 : Int32)), .val (.int (0 : Int32)), .val (.ref w_LESS)]) rfl k) ?_
        show Go _ _ _ _ _ _ _  T51 (mkF m 79 #[.val (.int p1), .val (.int p2), .val (.int (1 : Int32)), .val (.ref b1), .val (.int (2 : Int32)), .val (.int (0 : Int32)), .val (.ref w_LESS)] [])
        refine Go.st (fun t k => XS.aload X51.here hx rfl (hb hby at_79) rfl rfl  k) ?_
        show Go _ _ _ _ _ _ _  T51 (mkF m 81 #[.val (.int p1), .val (.int p2), .val (.int (1 : Int32)), .val (.ref b1), .val (.int (2 : Int32)), .val (.int (0 : Int32)), .val (.ref w_LESS)] [(.ref w_LESS)])
        refine Go.st (fun t k => XS.iloadN X51.here hx rfl (hb hby at_81) rfl  k) ?_
        show Go _ _ _ _ _ _ _  T51 (mkF m 82 #[.val (.int p1), .val (.int p2), .val (.int (1 : Int32)), .val (.ref b1), .val (.int (2 : Int32)), .val (.int (0 : Int32)), .val (.ref w_LESS)] [(.int p2), (.ref w_LESS)])
        obtain ⟨cq52, kq52, q52a, q52b, q52c⟩ := isOf hZ e51q (E_LESS.ext O.2)
        obtain ⟨_, _, ⟨T52, L52, k52, n52⟩, -, X52, ⟨Lc52, hQ52, l52, y52, z52⟩, st52⟩ := X51.virtualBack hx (y := (⟨"com/example/nodewell/nodewell/store/ValueTest$Comparison", "passes", "(I)Z"⟩ : MethodName)) (z := (⟨"com/example/nodewell/nodewell/store/ValueTest$Comparison", "passes", "(I)Z"⟩ : MethodName)) hown (mvT hZ (hw _ (List.mem_of_getElem? (i := 9) rfl))) (mvT hZ (hw _ (List.mem_of_getElem? (i := 10) rfl))) (notFace_of_selects (args := #[]) (mvT hZ (hw _ (List.mem_of_getElem? (i := 12) rfl)))) (mvT hZ (hw _ (List.mem_of_getElem? (i := 12) rfl))) (mvT hZ (hw _ (List.mem_of_getElem? (i := 11) rfl))) (by decide) (backOf (W := 0) (rmS l Z a0 hw [] w_LESS p2 1 h11 n0 O O_LESS E_LESS (by decide)) hZ (hw _ (List.mem_of_getElem? (i := 13) rfl)) (hw _ (List.mem_of_getElem? (i := 7) rfl)) (by decide) (by decide)) q52a q52c (g := (mkF m 82 #[.val (.int p1), .val (.int p2), .val (.int (1 : Int32)), .val (.ref b1), .val (.int (2 : Int32)), .val (.int (0 : Int32)), .val (.ref w_LESS)] [(.int p2), (.ref w_LESS)])) rfl (by rw [hml]; rfl) (Steps.refl _) (argsL := [(.int p2)]) (rest := []) (lenOf pd__I_Z rfl) rfl (by show 2 * 0 + _ ≤ _; exact Nat.le_of_eq rfl) (hb hby at_82) (fun _ _ => ⟨rfl, e51q, (by decide : 1 + 0 ≤ _), (by decide : 5 + 0 ≤ _)⟩)
        dsimp only [Pt.U, Pt.locs, Pt.cells, Pt.slots] at X52 l52 y52 z52 st52 hQ52
        subst l52 y52 z52
        obtain ⟨rfl, N52q, e52q⟩ := hQ52
        have N52 := Fr.app N51 N52q
        refine Go.tr st52 ?_
        rw [show passF 1 p2 = (0 : Int32) from own_pass12 hs]
        show Go _ _ _ _ _ _ _  T52 (mkF m 85 #[.val (.int p1), .val (.int p2), .val (.int (1 : Int32)), .val (.ref b1), .val (.int (2 : Int32)), .val (.int (0 : Int32)), .val (.ref w_LESS)] [(.int (0 : Int32))])
        refine Go.st (fun t k => XS.iload X52.here hx rfl (hb hby at_85) rfl  k) ?_
        show Go _ _ _ _ _ _ _  T52 (mkF m 87 #[.val (.int p1), .val (.int p2), .val (.int (1 : Int32)), .val (.ref b1), .val (.int (2 : Int32)), .val (.int (0 : Int32)), .val (.ref w_LESS)] [(.int (0 : Int32)), (.int (0 : Int32))])
        refine Go.st (fun t k => XS.icmpNo X52.here hx rfl (hb hby at_87) rfl (teq (rfl : (0 : Int32) = (0 : Int32))).2 k) ?_
        show Go _ _ _ _ _ _ _  T52 (mkF m 90 #[.val (.int p1), .val (.int p2), .val (.int (1 : Int32)), .val (.ref b1), .val (.int (2 : Int32)), .val (.int (0 : Int32)), .val (.ref w_LESS)] [])
        refine Go.st (fun t k => XS.iconst X52.here hx rfl (hb hby at_90) k) ?_
        show Go _ _ _ _ _ _ _  T52 (mkF m 91 #[.val (.int p1), .val (.int p2), .val (.int (1 : Int32)), .val (.ref b1), .val (.int (2 : Int32)), .val (.int (0 : Int32)), .val (.ref w_LESS)] [(.int (1 : Int32))])
        refine Go.st (fun t k => XS.goto X52.here hx rfl (pc0 := 91) (pc' := 95) rfl (hb hby at_91) (by decide) (by decide) k) ?_
        show Go _ _ _ _ _ _ _  T52 (mkF m 95 #[.val (.int p1), .val (.int p2), .val (.int (1 : Int32)), .val (.ref b1), .val (.int (2 : Int32)), .val (.int (0 : Int32)), .val (.ref w_LESS)] [(.int (1 : Int32))])
        refine Go.retN X52 hlk hx (t := .boolean) (z' := (1 : Int32)) Bd.returns (by simp) (hb hby at_95) (by decide) (by decide) rfl ?_
        show Q_rm0 Z _ _ _ _ _ _ _ h0 n0 _ T52.heap _
        rw [e52q]
        exact ⟨rfl, N52⟩
      · rw [sp46]
        show Go _ _ _ _ _ _ _  T11 (mkF m 55 #[.val (.int p1), .val (.int p2), .val (.int (2 : Int32)), .val (.ref b1), .val (.int (2 : Int32)), .unset, .unset] [])
        refine Go.st (fun t k => XS.aloadN X11.here hx rfl (hb hby at_55) rfl rfl  k) ?_
        show Go _ _ _ _ _ _ _  T11 (mkF m 56 #[.val (.int p1), .val (.int p2), .val (.int (2 : Int32)), .val (.ref b1), .val (.int (2 : Int32)), .unset, .unset] [(.ref b1)])
        refine Go.st (fun t k => XS.iloadN X11.here hx rfl (hb hby at_56) rfl  k) ?_
        show Go _ _ _ _ _ _ _  T11 (mkF m 57 #[.val (.int p1), .val (.int p2), .val (.int (2 : Int32)), .val (.ref b1), .val (.int (2 : Int32)), .unset, .unset] [(.int (2 : Int32)), (.ref b1)])
        obtain ⟨cl53, Ar53, q53, S53, M53, Hh53, G53⟩ := id V_b1
        refine Go.st (X11.iaload hx (j := (2 : Int32)) (v := (.int (3 : Int32))) (by rw [e11]; exact Ar53.1) (State.isArrayOf_alike hZ.alike Ar53.2.1) Ar53.2.2 (inb_of S53 ⟨by decide, by decide⟩) (Hh53.at (inb_of S53 ⟨by decide, by decide⟩) rfl) (g := (mkF m 57 #[.val (.int p1), .val (.int p2), .val (.int (2 : Int32)), .val (.ref b1), .val (.int (2 : Int32)), .unset, .unset] [(.int (2 : Int32)), (.ref b1)])) rfl rfl (hb hby at_57)) ?_
        show Go _ _ _ _ _ _ _  T11 (mkF m 58 #[.val (.int p1), .val (.int p2), .val (.int (2 : Int32)), .val (.ref b1), .val (.int (2 : Int32)), .unset, .unset] [(.int (3 : Int32))])
        refine Go.st (fun t k => XS.iload X11.here hx rfl (hb hby at_58) rfl  k) ?_
        show Go _ _ _ _ _ _ _  T11 (mkF m 60 #[.val (.int p1), .val (.int p2), .val (.int (2 : Int32)), .val (.ref b1), .val (.int (2 : Int32)), .unset, .unset] [(.int (2 : Int32)), (.int (3 : Int32))])
        refine Go.st (fun t k => XS.ishr X11.here hx rfl (hb hby at_60) rfl k) ?_
        show Go _ _ _ _ _ _ _  T11 (mkF m 61 #[.val (.int p1), .val (.int p2), .val (.int (2 : Int32)), .val (.ref b1), .val (.int (2 : Int32)), .unset, .unset] [(.int ((3 : Int32) >>> ((2 : Int32) &&& 31)))])
        refine Go.st (fun t k => XS.iconst X11.here hx rfl (hb hby at_61) k) ?_
        show Go _ _ _ _ _ _ _  T11 (mkF m 62 #[.val (.int p1), .val (.int p2), .val (.int (2 : Int32)), .val (.ref b1), .val (.int (2 : Int32)), .unset, .unset] [(.int (1 : Int32)), (.int ((3 : Int32) >>> ((2 : Int32) &&& 31)))])
        refine Go.st (fun t k => XS.iand X11.here hx rfl (hb hby at_62) rfl k) ?_
        show Go _ _ _ _ _ _ _  T11 (mkF m 63 #[.val (.int p1), .val (.int p2), .val (.int (2 : Int32)), .val (.ref b1), .val (.int (2 : Int32)), .unset, .unset] [(.int (((3 : Int32) >>> ((2 : Int32) &&& 31)) &&& (1 : Int32)))])
        refine Go.st (fun t k => XS.ifYes X11.here hx rfl (pc0 := 63) (pc' := 70) rfl (hb hby at_63) rfl ((if0 _ _).trans (teq (by decide : (((3 : Int32) >>> ((2 : Int32) &&& 31)) &&& (1 : Int32)) = (0 : Int32))).1) (by decide) (by decide) k) ?_
        show Go _ _ _ _ _ _ _  T11 (mkF m 70 #[.val (.int p1), .val (.int p2), .val (.int (2 : Int32)), .val (.ref b1), .val (.int (2 : Int32)), .unset, .unset] [])
        refine Go.st (fun t k => XS.iconst X11.here hx rfl (hb hby at_70) k) ?_
        show Go _ _ _ _ _ _ _  T11 (mkF m 71 #[.val (.int p1), .val (.int p2), .val (.int (2 : Int32)), .val (.ref b1), .val (.int (2 : Int32)), .unset, .unset] [(.int (0 : Int32))])
        refine Go.st (fun t k => XS.istore X11.here hx rfl (hb hby at_71) rfl (l' := #[.val (.int p1), .val (.int p2), .val (.int (2 : Int32)), .val (.ref b1), .val (.int (2 : Int32)), .val (.int (0 : Int32)), .unset]) rfl k) ?_
        show Go _ _ _ _ _ _ _  T11 (mkF m 73 #[.val (.int p1), .val (.int p2), .val (.int (2 : Int32)), .val (.ref b1), .val (.int (2 : Int32)), .val (.int (0 : Int32)), .unset] [])
        refine Go.st (fun t k => XS.iloadN X11.here hx rfl (hb hby at_73) rfl  k) ?_
        show Go _ _ _ _ _ _ _  T11 (mkF m 74 #[.val (.int p1), .val (.int p2), .val (.int (2 : Int32)), .val (.ref b1), .val (.int (2 : Int32)), .val (.int (0 : Int32)), .unset] [(.int (2 : Int32))])
        obtain ⟨_, _, ⟨T54, L54, k54, n54⟩, -, X54, ⟨Lc54, hQ54, l54, y54, z54⟩, st54⟩ := Jvm.LawKit.callS X11 hx (y := (⟨"com/example/nodewell/nodewell/store/ComparisonPassesPinLaw", "pick", "(I)Lcom/example/nodewell/nodewell/store/ValueTest$Comparison;"⟩ : MethodName)) hown (mvT hZ (hw _ (List.mem_of_getElem? (i := 2) rfl))) (mvT hZ (hw _ (List.mem_of_getElem? (i := 3) rfl))) (mvT hZ (hw _ (List.mem_of_getElem? (i := 4) rfl))) (mvT hZ (hw _ (List.mem_of_getElem? (i := 5) rfl))) (by decide) (backOf (W := 0) (rmP l Z a0 hw [] (2 : Int32) w_EQUAL w_LESS w_LESS_OR_EQUAL w_GREATER w_GREATER_OR_EQUAL h11 n0 O S_EQUAL S_LESS S_LESS_OR_EQUAL S_GREATER S_GREATER_OR_EQUAL) hZ (hw _ (List.mem_of_getElem? (i := 5) rfl)) (hw _ (List.mem_of_getElem? (i := 4) rfl)) (by decide) (by decide)) (g := (mkF m 74 #[.val (.int p1), .val (.int p2), .val (.int (2 : Int32)), .val (.ref b1), .val (.int (2 : Int32)), .val (.int (0 : Int32)), .unset] [(.int (2 : Int32))])) rfl (by rw [hml]; rfl) (argsL := [(.int (2 : Int32))]) (rest := []) (lenOf pd__I_Lcom_example_nodewell_nodewell_store_ValueTest_Comparison_ rfl) rfl (by show 2 * 0 + _ ≤ _; exact Nat.le_of_eq rfl) (hb hby at_74) (fun _ _ => ⟨rfl, e11, (by decide : 1 + 0 ≤ _), (by decide : 5 + 0 ≤ _)⟩)
        dsimp only [Pt.U, Pt.locs, Pt.cells, Pt.slots] at X54 l54 y54 z54 st54 hQ54
        subst l54 y54 z54
        obtain ⟨rfl, N54q, e54q⟩ := hQ54
        have N54 := Fr.app N11 N54q
        refine Go.st st54 ?_
        rw [show pickF (2 : Int32) w_EQUAL w_LESS w_LESS_OR_EQUAL w_GREATER w_GREATER_OR_EQUAL = w_LESS_OR_EQUAL from by simp [pickF]]
        show Go _ _ _ _ _ _ _  T54 (mkF m 77 #[.val (.int p1), .val (.int p2), .val (.int (2 : Int32)), .val (.ref b1), .val (.int (2 : Int32)), .val (.int (0 : Int32)), .unset] [(.ref w_LESS_OR_EQUAL)])
        refine Go.st (fun t k => XS.astore X54.here hx rfl (hb hby at_77) rfl rfl (l' := #[.val (.int p1), .val (.int p2), .val (.int (2 : Int32)), .val (.ref b1), .val (.int (2 : Int32)), .val (.int (0 : Int32)), .val (.ref w_LESS_OR_EQUAL)]) rfl k) ?_
        show Go _ _ _ _ _ _ _  T54 (mkF m 79 #[.val (.int p1), .val (.int p2), .val (.int (2 : Int32)), .val (.ref b1), .val (.int (2 : Int32)), .val (.int (0 : Int32)), .val (.ref w_LESS_OR_EQUAL)] [])
        refine Go.st (fun t k => XS.aload X54.here hx rfl (hb hby at_79) rfl rfl  k) ?_
        show Go _ _ _ _ _ _ _  T54 (mkF m 81 #[.val (.int p1), .val (.int p2), .val (.int (2 : Int32)), .val (.ref b1), .val (.int (2 : Int32)), .val (.int (0 : Int32)), .val (.ref w_LESS_OR_EQUAL)] [(.ref w_LESS_OR_EQUAL)])
        refine Go.st (fun t k => XS.iloadN X54.here hx rfl (hb hby at_81) rfl  k) ?_
        show Go _ _ _ _ _ _ _  T54 (mkF m 82 #[.val (.int p1), .val (.int p2), .val (.int (2 : Int32)), .val (.ref b1), .val (.int (2 : Int32)), .val (.int (0 : Int32)), .val (.ref w_LESS_OR_EQUAL)] [(.int p2), (.ref w_LESS_OR_EQUAL)])
        obtain ⟨cq55, kq55, q55a, q55b, q55c⟩ := isOf hZ e54q (E_LESS_OR_EQUAL.ext O.2)
        obtain ⟨_, _, ⟨T55, L55, k55, n55⟩, -, X55, ⟨Lc55, hQ55, l55, y55, z55⟩, st55⟩ := X54.virtualBack hx (y := (⟨"com/example/nodewell/nodewell/store/ValueTest$Comparison", "passes", "(I)Z"⟩ : MethodName)) (z := (⟨"com/example/nodewell/nodewell/store/ValueTest$Comparison", "passes", "(I)Z"⟩ : MethodName)) hown (mvT hZ (hw _ (List.mem_of_getElem? (i := 9) rfl))) (mvT hZ (hw _ (List.mem_of_getElem? (i := 10) rfl))) (notFace_of_selects (args := #[]) (mvT hZ (hw _ (List.mem_of_getElem? (i := 12) rfl)))) (mvT hZ (hw _ (List.mem_of_getElem? (i := 12) rfl))) (mvT hZ (hw _ (List.mem_of_getElem? (i := 11) rfl))) (by decide) (backOf (W := 0) (rmS l Z a0 hw [] w_LESS_OR_EQUAL p2 2 h11 n0 O O_LESS_OR_EQUAL E_LESS_OR_EQUAL (by decide)) hZ (hw _ (List.mem_of_getElem? (i := 13) rfl)) (hw _ (List.mem_of_getElem? (i := 7) rfl)) (by decide) (by decide)) q55a q55c (g := (mkF m 82 #[.val (.int p1), .val (.int p2), .val (.int (2 : Int32)), .val (.ref b1), .val (.int (2 : Int32)), .val (.int (0 : Int32)), .val (.ref w_LESS_OR_EQUAL)] [(.int p2), (.ref w_LESS_OR_EQUAL)])) rfl (by rw [hml]; rfl) (Steps.refl _) (argsL := [(.int p2)]) (rest := []) (lenOf pd__I_Z rfl) rfl (by show 2 * 0 + _ ≤ _; exact Nat.le_of_eq rfl) (hb hby at_82) (fun _ _ => ⟨rfl, e54q, (by decide : 1 + 0 ≤ _), (by decide : 5 + 0 ≤ _)⟩)
        dsimp only [Pt.U, Pt.locs, Pt.cells, Pt.slots] at X55 l55 y55 z55 st55 hQ55
        subst l55 y55 z55
        obtain ⟨rfl, N55q, e55q⟩ := hQ55
        have N55 := Fr.app N54 N55q
        refine Go.tr st55 ?_
        rw [show passF 2 p2 = (0 : Int32) from own_pass22 hs]
        show Go _ _ _ _ _ _ _  T55 (mkF m 85 #[.val (.int p1), .val (.int p2), .val (.int (2 : Int32)), .val (.ref b1), .val (.int (2 : Int32)), .val (.int (0 : Int32)), .val (.ref w_LESS_OR_EQUAL)] [(.int (0 : Int32))])
        refine Go.st (fun t k => XS.iload X55.here hx rfl (hb hby at_85) rfl  k) ?_
        show Go _ _ _ _ _ _ _  T55 (mkF m 87 #[.val (.int p1), .val (.int p2), .val (.int (2 : Int32)), .val (.ref b1), .val (.int (2 : Int32)), .val (.int (0 : Int32)), .val (.ref w_LESS_OR_EQUAL)] [(.int (0 : Int32)), (.int (0 : Int32))])
        refine Go.st (fun t k => XS.icmpNo X55.here hx rfl (hb hby at_87) rfl (teq (rfl : (0 : Int32) = (0 : Int32))).2 k) ?_
        show Go _ _ _ _ _ _ _  T55 (mkF m 90 #[.val (.int p1), .val (.int p2), .val (.int (2 : Int32)), .val (.ref b1), .val (.int (2 : Int32)), .val (.int (0 : Int32)), .val (.ref w_LESS_OR_EQUAL)] [])
        refine Go.st (fun t k => XS.iconst X55.here hx rfl (hb hby at_90) k) ?_
        show Go _ _ _ _ _ _ _  T55 (mkF m 91 #[.val (.int p1), .val (.int p2), .val (.int (2 : Int32)), .val (.ref b1), .val (.int (2 : Int32)), .val (.int (0 : Int32)), .val (.ref w_LESS_OR_EQUAL)] [(.int (1 : Int32))])
        refine Go.st (fun t k => XS.goto X55.here hx rfl (pc0 := 91) (pc' := 95) rfl (hb hby at_91) (by decide) (by decide) k) ?_
        show Go _ _ _ _ _ _ _  T55 (mkF m 95 #[.val (.int p1), .val (.int p2), .val (.int (2 : Int32)), .val (.ref b1), .val (.int (2 : Int32)), .val (.int (0 : Int32)), .val (.ref w_LESS_OR_EQUAL)] [(.int (1 : Int32))])
        refine Go.retN X55 hlk hx (t := .boolean) (z' := (1 : Int32)) Bd.returns (by simp) (hb hby at_95) (by decide) (by decide) rfl ?_
        show Q_rm0 Z _ _ _ _ _ _ _ h0 n0 _ T55.heap _
        rw [e55q]
        exact ⟨rfl, N55⟩
      · rw [sp46]
        show Go _ _ _ _ _ _ _  T11 (mkF m 55 #[.val (.int p1), .val (.int p2), .val (.int (3 : Int32)), .val (.ref b1), .val (.int (2 : Int32)), .unset, .unset] [])
        refine Go.st (fun t k => XS.aloadN X11.here hx rfl (hb hby at_55) rfl rfl  k) ?_
        show Go _ _ _ _ _ _ _  T11 (mkF m 56 #[.val (.int p1), .val (.int p2), .val (.int (3 : Int32)), .val (.ref b1), .val (.int (2 : Int32)), .unset, .unset] [(.ref b1)])
        refine Go.st (fun t k => XS.iloadN X11.here hx rfl (hb hby at_56) rfl  k) ?_
        show Go _ _ _ _ _ _ _  T11 (mkF m 57 #[.val (.int p1), .val (.int p2), .val (.int (3 : Int32)), .val (.ref b1), .val (.int (2 : Int32)), .unset, .unset] [(.int (3 : Int32)), (.ref b1)])
        obtain ⟨cl56, Ar56, q56, S56, M56, Hh56, G56⟩ := id V_b1
        refine Go.st (X11.iaload hx (j := (3 : Int32)) (v := (.int (4 : Int32))) (by rw [e11]; exact Ar56.1) (State.isArrayOf_alike hZ.alike Ar56.2.1) Ar56.2.2 (inb_of S56 ⟨by decide, by decide⟩) (Hh56.at (inb_of S56 ⟨by decide, by decide⟩) rfl) (g := (mkF m 57 #[.val (.int p1), .val (.int p2), .val (.int (3 : Int32)), .val (.ref b1), .val (.int (2 : Int32)), .unset, .unset] [(.int (3 : Int32)), (.ref b1)])) rfl rfl (hb hby at_57)) ?_
        show Go _ _ _ _ _ _ _  T11 (mkF m 58 #[.val (.int p1), .val (.int p2), .val (.int (3 : Int32)), .val (.ref b1), .val (.int (2 : Int32)), .unset, .unset] [(.int (4 : Int32))])
        refine Go.st (fun t k => XS.iload X11.here hx rfl (hb hby at_58) rfl  k) ?_
        show Go _ _ _ _ _ _ _  T11 (mkF m 60 #[.val (.int p1), .val (.int p2), .val (.int (3 : Int32)), .val (.ref b1), .val (.int (2 : Int32)), .unset, .unset] [(.int (2 : Int32)), (.int (4 : Int32))])
        refine Go.st (fun t k => XS.ishr X11.here hx rfl (hb hby at_60) rfl k) ?_
        show Go _ _ _ _ _ _ _  T11 (mkF m 61 #[.val (.int p1), .val (.int p2), .val (.int (3 : Int32)), .val (.ref b1), .val (.int (2 : Int32)), .unset, .unset] [(.int ((4 : Int32) >>> ((2 : Int32) &&& 31)))])
        refine Go.st (fun t k => XS.iconst X11.here hx rfl (hb hby at_61) k) ?_
        show Go _ _ _ _ _ _ _  T11 (mkF m 62 #[.val (.int p1), .val (.int p2), .val (.int (3 : Int32)), .val (.ref b1), .val (.int (2 : Int32)), .unset, .unset] [(.int (1 : Int32)), (.int ((4 : Int32) >>> ((2 : Int32) &&& 31)))])
        refine Go.st (fun t k => XS.iand X11.here hx rfl (hb hby at_62) rfl k) ?_
        show Go _ _ _ _ _ _ _  T11 (mkF m 63 #[.val (.int p1), .val (.int p2), .val (.int (3 : Int32)), .val (.ref b1), .val (.int (2 : Int32)), .unset, .unset] [(.int (((4 : Int32) >>> ((2 : Int32) &&& 31)) &&& (1 : Int32)))])
        refine Go.st (fun t k => XS.ifNo X11.here hx rfl (hb hby at_63) rfl ((if0 _ _).trans (feq (by decide : ¬ ((((4 : Int32) >>> ((2 : Int32) &&& 31)) &&& (1 : Int32)) = (0 : Int32)))).1) k) ?_
        show Go _ _ _ _ _ _ _  T11 (mkF m 66 #[.val (.int p1), .val (.int p2), .val (.int (3 : Int32)), .val (.ref b1), .val (.int (2 : Int32)), .unset, .unset] [])
        refine Go.st (fun t k => XS.iconst X11.here hx rfl (hb hby at_66) k) ?_
        show Go _ _ _ _ _ _ _  T11 (mkF m 67 #[.val (.int p1), .val (.int p2), .val (.int (3 : Int32)), .val (.ref b1), .val (.int (2 : Int32)), .unset, .unset] [(.int (1 : Int32))])
        refine Go.st (fun t k => XS.goto X11.here hx rfl (pc0 := 67) (pc' := 71) rfl (hb hby at_67) (by decide) (by decide) k) ?_
        show Go _ _ _ _ _ _ _  T11 (mkF m 71 #[.val (.int p1), .val (.int p2), .val (.int (3 : Int32)), .val (.ref b1), .val (.int (2 : Int32)), .unset, .unset] [(.int (1 : Int32))])
        refine Go.st (fun t k => XS.istore X11.here hx rfl (hb hby at_71) rfl (l' := #[.val (.int p1), .val (.int p2), .val (.int (3 : Int32)), .val (.ref b1), .val (.int (2 : Int32)), .val (.int (1 : Int32)), .unset]) rfl k) ?_
        show Go _ _ _ _ _ _ _  T11 (mkF m 73 #[.val (.int p1), .val (.int p2), .val (.int (3 : Int32)), .val (.ref b1), .val (.int (2 : Int32)), .val (.int (1 : Int32)), .unset] [])
        refine Go.st (fun t k => XS.iloadN X11.here hx rfl (hb hby at_73) rfl  k) ?_
        show Go _ _ _ _ _ _ _  T11 (mkF m 74 #[.val (.int p1), .val (.int p2), .val (.int (3 : Int32)), .val (.ref b1), .val (.int (2 : Int32)), .val (.int (1 : Int32)), .unset] [(.int (3 : Int32))])
        obtain ⟨_, _, ⟨T57, L57, k57, n57⟩, -, X57, ⟨Lc57, hQ57, l57, y57, z57⟩, st57⟩ := Jvm.LawKit.callS X11 hx (y := (⟨"com/example/nodewell/nodewell/store/ComparisonPassesPinLaw", "pick", "(I)Lcom/example/nodewell/nodewell/store/ValueTest$Comparison;"⟩ : MethodName)) hown (mvT hZ (hw _ (List.mem_of_getElem? (i := 2) rfl))) (mvT hZ (hw _ (List.mem_of_getElem? (i := 3) rfl))) (mvT hZ (hw _ (List.mem_of_getElem? (i := 4) rfl))) (mvT hZ (hw _ (List.mem_of_getElem? (i := 5) rfl))) (by decide) (backOf (W := 0) (rmP l Z a0 hw [] (3 : Int32) w_EQUAL w_LESS w_LESS_OR_EQUAL w_GREATER w_GREATER_OR_EQUAL h11 n0 O S_EQUAL S_LESS S_LESS_OR_EQUAL S_GREATER S_GREATER_OR_EQUAL) hZ (hw _ (List.mem_of_getElem? (i := 5) rfl)) (hw _ (List.mem_of_getElem? (i := 4) rfl)) (by decide) (by decide)) (g := (mkF m 74 #[.val (.int p1), .val (.int p2), .val (.int (3 : Int32)), .val (.ref b1), .val (.int (2 : Int32)), .val (.int (1 : Int32)), .unset] [(.int (3 : Int32))])) rfl (by rw [hml]; rfl) (argsL := [(.int (3 : Int32))]) (rest := []) (lenOf pd__I_Lcom_example_nodewell_nodewell_store_ValueTest_Comparison_ rfl) rfl (by show 2 * 0 + _ ≤ _; exact Nat.le_of_eq rfl) (hb hby at_74) (fun _ _ => ⟨rfl, e11, (by decide : 1 + 0 ≤ _), (by decide : 5 + 0 ≤ _)⟩)
        dsimp only [Pt.U, Pt.locs, Pt.cells, Pt.slots] at X57 l57 y57 z57 st57 hQ57
        subst l57 y57 z57
        obtain ⟨rfl, N57q, e57q⟩ := hQ57
        have N57 := Fr.app N11 N57q
        refine Go.st st57 ?_
        rw [show pickF (3 : Int32) w_EQUAL w_LESS w_LESS_OR_EQUAL w_GREATER w_GREATER_OR_EQUAL = w_GREATER from by simp [pickF]]
        show Go _ _ _ _ _ _ _  T57 (mkF m 77 #[.val (.int p1), .val (.int p2), .val (.int (3 : Int32)), .val (.ref b1), .val (.int (2 : Int32)), .val (.int (1 : Int32)), .unset] [(.ref w_GREATER)])
        refine Go.st (fun t k => XS.astore X57.here hx rfl (hb hby at_77) rfl rfl (l' := #[.val (.int p1), .val (.int p2), .val (.int (3 : Int32)), .val (.ref b1), .val (.int (2 : Int32)), .val (.int (1 : Int32)), .val (.ref w_GREATER)]) rfl k) ?_
        show Go _ _ _ _ _ _ _  T57 (mkF m 79 #[.val (.int p1), .val (.int p2), .val (.int (3 : Int32)), .val (.ref b1), .val (.int (2 : Int32)), .val (.int (1 : Int32)), .val (.ref w_GREATER)] [])
        refine Go.st (fun t k => XS.aload X57.here hx rfl (hb hby at_79) rfl rfl  k) ?_
        show Go _ _ _ _ _ _ _  T57 (mkF m 81 #[.val (.int p1), .val (.int p2), .val (.int (3 : Int32)), .val (.ref b1), .val (.int (2 : Int32)), .val (.int (1 : Int32)), .val (.ref w_GREATER)] [(.ref w_GREATER)])
        refine Go.st (fun t k => XS.iloadN X57.here hx rfl (hb hby at_81) rfl  k) ?_
        show Go _ _ _ _ _ _ _  T57 (mkF m 82 #[.val (.int p1), .val (.int p2), .val (.int (3 : Int32)), .val (.ref b1), .val (.int (2 : Int32)), .val (.int (1 : Int32)), .val (.ref w_GREATER)] [(.int p2), (.ref w_GREATER)])
        obtain ⟨cq58, kq58, q58a, q58b, q58c⟩ := isOf hZ e57q (E_GREATER.ext O.2)
        obtain ⟨_, _, ⟨T58, L58, k58, n58⟩, -, X58, ⟨Lc58, hQ58, l58, y58, z58⟩, st58⟩ := X57.virtualBack hx (y := (⟨"com/example/nodewell/nodewell/store/ValueTest$Comparison", "passes", "(I)Z"⟩ : MethodName)) (z := (⟨"com/example/nodewell/nodewell/store/ValueTest$Comparison", "passes", "(I)Z"⟩ : MethodName)) hown (mvT hZ (hw _ (List.mem_of_getElem? (i := 9) rfl))) (mvT hZ (hw _ (List.mem_of_getElem? (i := 10) rfl))) (notFace_of_selects (args := #[]) (mvT hZ (hw _ (List.mem_of_getElem? (i := 12) rfl)))) (mvT hZ (hw _ (List.mem_of_getElem? (i := 12) rfl))) (mvT hZ (hw _ (List.mem_of_getElem? (i := 11) rfl))) (by decide) (backOf (W := 0) (rmS l Z a0 hw [] w_GREATER p2 3 h11 n0 O O_GREATER E_GREATER (by decide)) hZ (hw _ (List.mem_of_getElem? (i := 13) rfl)) (hw _ (List.mem_of_getElem? (i := 7) rfl)) (by decide) (by decide)) q58a q58c (g := (mkF m 82 #[.val (.int p1), .val (.int p2), .val (.int (3 : Int32)), .val (.ref b1), .val (.int (2 : Int32)), .val (.int (1 : Int32)), .val (.ref w_GREATER)] [(.int p2), (.ref w_GREATER)])) rfl (by rw [hml]; rfl) (Steps.refl _) (argsL := [(.int p2)]) (rest := []) (lenOf pd__I_Z rfl) rfl (by show 2 * 0 + _ ≤ _; exact Nat.le_of_eq rfl) (hb hby at_82) (fun _ _ => ⟨rfl, e57q, (by decide : 1 + 0 ≤ _), (by decide : 5 + 0 ≤ _)⟩)
        dsimp only [Pt.U, Pt.locs, Pt.cells, Pt.slots] at X58 l58 y58 z58 st58 hQ58
        subst l58 y58 z58
        obtain ⟨rfl, N58q, e58q⟩ := hQ58
        have N58 := Fr.app N57 N58q
        refine Go.tr st58 ?_
        rw [show passF 3 p2 = (1 : Int32) from own_pass32 hs]
        show Go _ _ _ _ _ _ _  T58 (mkF m 85 #[.val (.int p1), .val (.int p2), .val (.int (3 : Int32)), .val (.ref b1), .val (.int (2 : Int32)), .val (.int (1 : Int32)), .val (.ref w_GREATER)] [(.int (1 : Int32))])
        refine Go.st (fun t k => XS.iload X58.here hx rfl (hb hby at_85) rfl  k) ?_
        show Go _ _ _ _ _ _ _  T58 (mkF m 87 #[.val (.int p1), .val (.int p2), .val (.int (3 : Int32)), .val (.ref b1), .val (.int (2 : Int32)), .val (.int (1 : Int32)), .val (.ref w_GREATER)] [(.int (1 : Int32)), (.int (1 : Int32))])
        refine Go.st (fun t k => XS.icmpNo X58.here hx rfl (hb hby at_87) rfl (teq (rfl : (1 : Int32) = (1 : Int32))).2 k) ?_
        show Go _ _ _ _ _ _ _  T58 (mkF m 90 #[.val (.int p1), .val (.int p2), .val (.int (3 : Int32)), .val (.ref b1), .val (.int (2 : Int32)), .val (.int (1 : Int32)), .val (.ref w_GREATER)] [])
        refine Go.st (fun t k => XS.iconst X58.here hx rfl (hb hby at_90) k) ?_
        show Go _ _ _ _ _ _ _  T58 (mkF m 91 #[.val (.int p1), .val (.int p2), .val (.int (3 : Int32)), .val (.ref b1), .val (.int (2 : Int32)), .val (.int (1 : Int32)), .val (.ref w_GREATER)] [(.int (1 : Int32))])
        refine Go.st (fun t k => XS.goto X58.here hx rfl (pc0 := 91) (pc' := 95) rfl (hb hby at_91) (by decide) (by decide) k) ?_
        show Go _ _ _ _ _ _ _  T58 (mkF m 95 #[.val (.int p1), .val (.int p2), .val (.int (3 : Int32)), .val (.ref b1), .val (.int (2 : Int32)), .val (.int (1 : Int32)), .val (.ref w_GREATER)] [(.int (1 : Int32))])
        refine Go.retN X58 hlk hx (t := .boolean) (z' := (1 : Int32)) Bd.returns (by simp) (hb hby at_95) (by decide) (by decide) rfl ?_
        show Q_rm0 Z _ _ _ _ _ _ _ h0 n0 _ T58.heap _
        rw [e58q]
        exact ⟨rfl, N58⟩
      · rw [sp46]
        show Go _ _ _ _ _ _ _  T11 (mkF m 55 #[.val (.int p1), .val (.int p2), .val (.int (4 : Int32)), .val (.ref b1), .val (.int (2 : Int32)), .unset, .unset] [])
        refine Go.st (fun t k => XS.aloadN X11.here hx rfl (hb hby at_55) rfl rfl  k) ?_
        show Go _ _ _ _ _ _ _  T11 (mkF m 56 #[.val (.int p1), .val (.int p2), .val (.int (4 : Int32)), .val (.ref b1), .val (.int (2 : Int32)), .unset, .unset] [(.ref b1)])
        refine Go.st (fun t k => XS.iloadN X11.here hx rfl (hb hby at_56) rfl  k) ?_
        show Go _ _ _ _ _ _ _  T11 (mkF m 57 #[.val (.int p1), .val (.int p2), .val (.int (4 : Int32)), .val (.ref b1), .val (.int (2 : Int32)), .unset, .unset] [(.int (4 : Int32)), (.ref b1)])
        obtain ⟨cl59, Ar59, q59, S59, M59, Hh59, G59⟩ := id V_b1
        refine Go.st (X11.iaload hx (j := (4 : Int32)) (v := (.int (6 : Int32))) (by rw [e11]; exact Ar59.1) (State.isArrayOf_alike hZ.alike Ar59.2.1) Ar59.2.2 (inb_of S59 ⟨by decide, by decide⟩) (Hh59.at (inb_of S59 ⟨by decide, by decide⟩) rfl) (g := (mkF m 57 #[.val (.int p1), .val (.int p2), .val (.int (4 : Int32)), .val (.ref b1), .val (.int (2 : Int32)), .unset, .unset] [(.int (4 : Int32)), (.ref b1)])) rfl rfl (hb hby at_57)) ?_
        show Go _ _ _ _ _ _ _  T11 (mkF m 58 #[.val (.int p1), .val (.int p2), .val (.int (4 : Int32)), .val (.ref b1), .val (.int (2 : Int32)), .unset, .unset] [(.int (6 : Int32))])
        refine Go.st (fun t k => XS.iload X11.here hx rfl (hb hby at_58) rfl  k) ?_
        show Go _ _ _ _ _ _ _  T11 (mkF m 60 #[.val (.int p1), .val (.int p2), .val (.int (4 : Int32)), .val (.ref b1), .val (.int (2 : Int32)), .unset, .unset] [(.int (2 : Int32)), (.int (6 : Int32))])
        refine Go.st (fun t k => XS.ishr X11.here hx rfl (hb hby at_60) rfl k) ?_
        show Go _ _ _ _ _ _ _  T11 (mkF m 61 #[.val (.int p1), .val (.int p2), .val (.int (4 : Int32)), .val (.ref b1), .val (.int (2 : Int32)), .unset, .unset] [(.int ((6 : Int32) >>> ((2 : Int32) &&& 31)))])
        refine Go.st (fun t k => XS.iconst X11.here hx rfl (hb hby at_61) k) ?_
        show Go _ _ _ _ _ _ _  T11 (mkF m 62 #[.val (.int p1), .val (.int p2), .val (.int (4 : Int32)), .val (.ref b1), .val (.int (2 : Int32)), .unset, .unset] [(.int (1 : Int32)), (.int ((6 : Int32) >>> ((2 : Int32) &&& 31)))])
        refine Go.st (fun t k => XS.iand X11.here hx rfl (hb hby at_62) rfl k) ?_
        show Go _ _ _ _ _ _ _  T11 (mkF m 63 #[.val (.int p1), .val (.int p2), .val (.int (4 : Int32)), .val (.ref b1), .val (.int (2 : Int32)), .unset, .unset] [(.int (((6 : Int32) >>> ((2 : Int32) &&& 31)) &&& (1 : Int32)))])
        refine Go.st (fun t k => XS.ifNo X11.here hx rfl (hb hby at_63) rfl ((if0 _ _).trans (feq (by decide : ¬ ((((6 : Int32) >>> ((2 : Int32) &&& 31)) &&& (1 : Int32)) = (0 : Int32)))).1) k) ?_
        show Go _ _ _ _ _ _ _  T11 (mkF m 66 #[.val (.int p1), .val (.int p2), .val (.int (4 : Int32)), .val (.ref b1), .val (.int (2 : Int32)), .unset, .unset] [])
        refine Go.st (fun t k => XS.iconst X11.here hx rfl (hb hby at_66) k) ?_
        show Go _ _ _ _ _ _ _  T11 (mkF m 67 #[.val (.int p1), .val (.int p2), .val (.int (4 : Int32)), .val (.ref b1), .val (.int (2 : Int32)), .unset, .unset] [(.int (1 : Int32))])
        refine Go.st (fun t k => XS.goto X11.here hx rfl (pc0 := 67) (pc' := 71) rfl (hb hby at_67) (by decide) (by decide) k) ?_
        show Go _ _ _ _ _ _ _  T11 (mkF m 71 #[.val (.int p1), .val (.int p2), .val (.int (4 : Int32)), .val (.ref b1), .val (.int (2 : Int32)), .unset, .unset] [(.int (1 : Int32))])
        refine Go.st (fun t k => XS.istore X11.here hx rfl (hb hby at_71) rfl (l' := #[.val (.int p1), .val (.int p2), .val (.int (4 : Int32)), .val (.ref b1), .val (.int (2 : Int32)), .val (.int (1 : Int32)), .unset]) rfl k) ?_
        show Go _ _ _ _ _ _ _  T11 (mkF m 73 #[.val (.int p1), .val (.int p2), .val (.int (4 : Int32)), .val (.ref b1), .val (.int (2 : Int32)), .val (.int (1 : Int32)), .unset] [])
        refine Go.st (fun t k => XS.iloadN X11.here hx rfl (hb hby at_73) rfl  k) ?_
        show Go _ _ _ _ _ _ _  T11 (mkF m 74 #[.val (.int p1), .val (.int p2), .val (.int (4 : Int32)), .val (.ref b1), .val (.int (2 : Int32)), .val (.int (1 : Int32)), .unset] [(.int (4 : Int32))])
        obtain ⟨_, _, ⟨T60, L60, k60, n60⟩, -, X60, ⟨Lc60, hQ60, l60, y60, z60⟩, st60⟩ := Jvm.LawKit.callS X11 hx (y := (⟨"com/example/nodewell/nodewell/store/ComparisonPassesPinLaw", "pick", "(I)Lcom/example/nodewell/nodewell/store/ValueTest$Comparison;"⟩ : MethodName)) hown (mvT hZ (hw _ (List.mem_of_getElem? (i := 2) rfl))) (mvT hZ (hw _ (List.mem_of_getElem? (i := 3) rfl))) (mvT hZ (hw _ (List.mem_of_getElem? (i := 4) rfl))) (mvT hZ (hw _ (List.mem_of_getElem? (i := 5) rfl))) (by decide) (backOf (W := 0) (rmP l Z a0 hw [] (4 : Int32) w_EQUAL w_LESS w_LESS_OR_EQUAL w_GREATER w_GREATER_OR_EQUAL h11 n0 O S_EQUAL S_LESS S_LESS_OR_EQUAL S_GREATER S_GREATER_OR_EQUAL) hZ (hw _ (List.mem_of_getElem? (i := 5) rfl)) (hw _ (List.mem_of_getElem? (i := 4) rfl)) (by decide) (by decide)) (g := (mkF m 74 #[.val (.int p1), .val (.int p2), .val (.int (4 : Int32)), .val (.ref b1), .val (.int (2 : Int32)), .val (.int (1 : Int32)), .unset] [(.int (4 : Int32))])) rfl (by rw [hml]; rfl) (argsL := [(.int (4 : Int32))]) (rest := []) (lenOf pd__I_Lcom_example_nodewell_nodewell_store_ValueTest_Comparison_ rfl) rfl (by show 2 * 0 + _ ≤ _; exact Nat.le_of_eq rfl) (hb hby at_74) (fun _ _ => ⟨rfl, e11, (by decide : 1 + 0 ≤ _), (by decide : 5 + 0 ≤ _)⟩)
        dsimp only [Pt.U, Pt.locs, Pt.cells, Pt.slots] at X60 l60 y60 z60 st60 hQ60
        subst l60 y60 z60
        obtain ⟨rfl, N60q, e60q⟩ := hQ60
        have N60 := Fr.app N11 N60q
        refine Go.st st60 ?_
        rw [show pickF (4 : Int32) w_EQUAL w_LESS w_LESS_OR_EQUAL w_GREATER w_GREATER_OR_EQUAL = w_GREATER_OR_EQUAL from by simp [pickF]]
        show Go _ _ _ _ _ _ _  T60 (mkF m 77 #[.val (.int p1), .val (.int p2), .val (.int (4 : Int32)), .val (.ref b1), .val (.int (2 : Int32)), .val (.int (1 : Int32)), .unset] [(.ref w_GREATER_OR_EQUAL)])
        refine Go.st (fun t k => XS.astore X60.here hx rfl (hb hby at_77) rfl rfl (l' := #[.val (.int p1), .val (.int p2), .val (.int (4 : Int32)), .val (.ref b1), .val (.int (2 : Int32)), .val (.int (1 : Int32)), .val (.ref w_GREATER_OR_EQUAL)]) rfl k) ?_
        show Go _ _ _ _ _ _ _  T60 (mkF m 79 #[.val (.int p1), .val (.int p2), .val (.int (4 : Int32)), .val (.ref b1), .val (.int (2 : Int32)), .val (.int (1 : Int32)), .val (.ref w_GREATER_OR_EQUAL)] [])
        refine Go.st (fun t k => XS.aload X60.here hx rfl (hb hby at_79) rfl rfl  k) ?_
        show Go _ _ _ _ _ _ _  T60 (mkF m 81 #[.val (.int p1), .val (.int p2), .val (.int (4 : Int32)), .val (.ref b1), .val (.int (2 : Int32)), .val (.int (1 : Int32)), .val (.ref w_GREATER_OR_EQUAL)] [(.ref w_GREATER_OR_EQUAL)])
        refine Go.st (fun t k => XS.iloadN X60.here hx rfl (hb hby at_81) rfl  k) ?_
        show Go _ _ _ _ _ _ _  T60 (mkF m 82 #[.val (.int p1), .val (.int p2), .val (.int (4 : Int32)), .val (.ref b1), .val (.int (2 : Int32)), .val (.int (1 : Int32)), .val (.ref w_GREATER_OR_EQUAL)] [(.int p2), (.ref w_GREATER_OR_EQUAL)])
        obtain ⟨cq61, kq61, q61a, q61b, q61c⟩ := isOf hZ e60q (E_GREATER_OR_EQUAL.ext O.2)
        obtain ⟨_, _, ⟨T61, L61, k61, n61⟩, -, X61, ⟨Lc61, hQ61, l61, y61, z61⟩, st61⟩ := X60.virtualBack hx (y := (⟨"com/example/nodewell/nodewell/store/ValueTest$Comparison", "passes", "(I)Z"⟩ : MethodName)) (z := (⟨"com/example/nodewell/nodewell/store/ValueTest$Comparison", "passes", "(I)Z"⟩ : MethodName)) hown (mvT hZ (hw _ (List.mem_of_getElem? (i := 9) rfl))) (mvT hZ (hw _ (List.mem_of_getElem? (i := 10) rfl))) (notFace_of_selects (args := #[]) (mvT hZ (hw _ (List.mem_of_getElem? (i := 12) rfl)))) (mvT hZ (hw _ (List.mem_of_getElem? (i := 12) rfl))) (mvT hZ (hw _ (List.mem_of_getElem? (i := 11) rfl))) (by decide) (backOf (W := 0) (rmS l Z a0 hw [] w_GREATER_OR_EQUAL p2 4 h11 n0 O O_GREATER_OR_EQUAL E_GREATER_OR_EQUAL (by decide)) hZ (hw _ (List.mem_of_getElem? (i := 13) rfl)) (hw _ (List.mem_of_getElem? (i := 7) rfl)) (by decide) (by decide)) q61a q61c (g := (mkF m 82 #[.val (.int p1), .val (.int p2), .val (.int (4 : Int32)), .val (.ref b1), .val (.int (2 : Int32)), .val (.int (1 : Int32)), .val (.ref w_GREATER_OR_EQUAL)] [(.int p2), (.ref w_GREATER_OR_EQUAL)])) rfl (by rw [hml]; rfl) (Steps.refl _) (argsL := [(.int p2)]) (rest := []) (lenOf pd__I_Z rfl) rfl (by show 2 * 0 + _ ≤ _; exact Nat.le_of_eq rfl) (hb hby at_82) (fun _ _ => ⟨rfl, e60q, (by decide : 1 + 0 ≤ _), (by decide : 5 + 0 ≤ _)⟩)
        dsimp only [Pt.U, Pt.locs, Pt.cells, Pt.slots] at X61 l61 y61 z61 st61 hQ61
        subst l61 y61 z61
        obtain ⟨rfl, N61q, e61q⟩ := hQ61
        have N61 := Fr.app N60 N61q
        refine Go.tr st61 ?_
        rw [show passF 4 p2 = (1 : Int32) from own_pass42 hs]
        show Go _ _ _ _ _ _ _  T61 (mkF m 85 #[.val (.int p1), .val (.int p2), .val (.int (4 : Int32)), .val (.ref b1), .val (.int (2 : Int32)), .val (.int (1 : Int32)), .val (.ref w_GREATER_OR_EQUAL)] [(.int (1 : Int32))])
        refine Go.st (fun t k => XS.iload X61.here hx rfl (hb hby at_85) rfl  k) ?_
        show Go _ _ _ _ _ _ _  T61 (mkF m 87 #[.val (.int p1), .val (.int p2), .val (.int (4 : Int32)), .val (.ref b1), .val (.int (2 : Int32)), .val (.int (1 : Int32)), .val (.ref w_GREATER_OR_EQUAL)] [(.int (1 : Int32)), (.int (1 : Int32))])
        refine Go.st (fun t k => XS.icmpNo X61.here hx rfl (hb hby at_87) rfl (teq (rfl : (1 : Int32) = (1 : Int32))).2 k) ?_
        show Go _ _ _ _ _ _ _  T61 (mkF m 90 #[.val (.int p1), .val (.int p2), .val (.int (4 : Int32)), .val (.ref b1), .val (.int (2 : Int32)), .val (.int (1 : Int32)), .val (.ref w_GREATER_OR_EQUAL)] [])
        refine Go.st (fun t k => XS.iconst X61.here hx rfl (hb hby at_90) k) ?_
        show Go _ _ _ _ _ _ _  T61 (mkF m 91 #[.val (.int p1), .val (.int p2), .val (.int (4 : Int32)), .val (.ref b1), .val (.int (2 : Int32)), .val (.int (1 : Int32)), .val (.ref w_GREATER_OR_EQUAL)] [(.int (1 : Int32))])
        refine Go.st (fun t k => XS.goto X61.here hx rfl (pc0 := 91) (pc' := 95) rfl (hb hby at_91) (by decide) (by decide) k) ?_
        show Go _ _ _ _ _ _ _  T61 (mkF m 95 #[.val (.int p1), .val (.int p2), .val (.int (4 : Int32)), .val (.ref b1), .val (.int (2 : Int32)), .val (.int (1 : Int32)), .val (.ref w_GREATER_OR_EQUAL)] [(.int (1 : Int32))])
        refine Go.retN X61 hlk hx (t := .boolean) (z' := (1 : Int32)) Bd.returns (by simp) (hb hby at_95) (by decide) (by decide) rfl ?_
        show Q_rm0 Z _ _ _ _ _ _ _ h0 n0 _ T61.heap _
        rw [e61q]
        exact ⟨rfl, N61⟩
set_option maxRecDepth 65536 in
set_option maxHeartbeats 40000000 in
theorem comes_1 {Post : Tables → Env → Array Value → State → Outcome → State → Prop} (hpost : ∀ tb e args s v u, (limb_1_1.after args s (.returned v) u = true ∧ limb_1_2.after args s (.returned v) u = true ∧ True) → FrameEnd s (.returned v) u (Jvm.fieldLocs frame_1_writes args s ++ Jvm.arrayLocs frame_1_arrays args s ++ Jvm.staticLocs frame_1_statics s) 16 128 → Post tb e args s (.returned v) u) :
    ArmFor flags0 classFile x code maxLocals ret World_1 tables_1 room_1 Calls_1 rest_1 Pre_1 Post := by
  intro l hfl _ _ p e ha hc hk s m args below hf hA hF happ hP
  obtain ⟨hcalls, hrest, hpre⟩ := hP
  obtain ⟨-, -, -, hnamed, -, -, -, hat⟩ := (Spec.applies_iff hf).mp happ
  obtain ⟨hg, hn⟩ := and_e (Cond.before_iff.mp (show (Jvm.Cond.and given_1 narrow_1).before args s = true from hpre))
  obtain ⟨g1, g2⟩ := and_e hg
  obtain ⟨g3, g4⟩ := and_e g2
  obtain ⟨w0, w1, rfl⟩ : ∃ w0 w1 : Value, args = #[w0, w1] := by
    have hs : args.size = 2 := by simpa [Cond.value, given_1] using g1
    obtain ⟨L⟩ := args
    match L, hs with
    | [w0, w1], _ => exact ⟨w0, w1, rfl⟩
  have hw := fun d (hd : d ∈ tables_1) => atoms_spec (ws := Jvm.Cond.code x code maxLocals ret :: tables_1) hat d (List.mem_cons_of_mem _ hd)
  have hfit : Fit s := fun {y c} hc i hi => by
    obtain ⟨ha, rfl⟩ := Array.getElem?_eq_some_iff.mp hc
    have q := List.all_eq_true.mp ((Array.all_eq_true_iff_forall_mem.mp hF) _ (Array.getElem_mem ha)) i (List.mem_range.mpr hi)
    simpa [Array.getElem?_eq_getElem hi] using q
  obtain ⟨i0, ei0⟩ := is_v g3
  obtain rfl : w0 = (.int i0) := Option.some.inj ei0
  obtain ⟨i1, ei1⟩ := is_v g4
  obtain rfl : w1 = (.int i1) := Option.some.inj ei1
  obtain ⟨nr1, nr2⟩ := and_e hn
  obtain ⟨nr3, nr4⟩ := and_e nr2
  obtain ⟨nr5, nr6⟩ := and_e nr4
  obtain ⟨nr7, nr8⟩ := and_e nr6
  obtain ⟨nr9, nr10⟩ := and_e nr8
  obtain ⟨nr11, nr12⟩ := and_e nr10
  obtain ⟨nr13, nr14⟩ := and_e nr12
  obtain ⟨nr15, nr16⟩ := and_e nr14
  obtain ⟨nr17, nr18⟩ := and_e nr16
  obtain ⟨w_EQUAL, S_EQUAL, E_EQUAL, O_EQUAL⟩ := own_en nr1 nr3 (hw _ (List.mem_of_getElem? (i := 7) rfl)) (hw _ (List.mem_of_getElem? (i := 8) rfl))
  obtain ⟨w_LESS, S_LESS, E_LESS, O_LESS⟩ := own_en nr13 nr15 (hw _ (List.mem_of_getElem? (i := 7) rfl)) (hw _ (List.mem_of_getElem? (i := 28) rfl))
  obtain ⟨w_LESS_OR_EQUAL, S_LESS_OR_EQUAL, E_LESS_OR_EQUAL, O_LESS_OR_EQUAL⟩ := own_en nr17 nr18 (hw _ (List.mem_of_getElem? (i := 7) rfl)) (hw _ (List.mem_of_getElem? (i := 30) rfl))
  obtain ⟨w_GREATER, S_GREATER, E_GREATER, O_GREATER⟩ := own_en nr9 nr11 (hw _ (List.mem_of_getElem? (i := 7) rfl)) (hw _ (List.mem_of_getElem? (i := 26) rfl))
  obtain ⟨w_GREATER_OR_EQUAL, S_GREATER_OR_EQUAL, E_GREATER_OR_EQUAL, O_GREATER_OR_EQUAL⟩ := own_en nr5 nr7 (hw _ (List.mem_of_getElem? (i := 7) rfl)) (hw _ (List.mem_of_getElem? (i := 24) rfl))
  obtain ⟨n, o, h1, h2, h3, _, L, rfl, ⟨rfl, N⟩, hq⟩ := rm0 l s _ hw tables_1 i0 i1 w_EQUAL w_LESS w_LESS_OR_EQUAL w_GREATER w_GREATER_OR_EQUAL s.heap s.heap.size (Old.start s) S_EQUAL S_LESS S_LESS_OR_EQUAL S_GREATER S_GREATER_OR_EQUAL E_EQUAL E_LESS E_LESS_OR_EQUAL E_GREATER E_GREATER_OR_EQUAL O_EQUAL O_LESS O_LESS_OR_EQUAL O_GREATER O_GREATER_OR_EQUAL p e ha hc hk s m _ below hf ((Spec.applies_iff_loose hf).mp happ).1 ⟨rfl, State.Warmed39.refl s, rfl⟩ trivial
  refine ⟨n, _, h1, h2, h3, hpost _ _ _ _ _ _ ⟨Cond.after_iff.mpr rfl, Cond.after_iff.mpr (eq_i res_at (Term.int_eval (1)) rfl), trivial⟩ ⟨hq.1, hq.2.1, (hq.2.2.sift fun y hy => Or.inr (N y hy)).mono (by decide) (by decide)⟩⟩
theorem main_1_1 : Claimed_1_1 := comes_1 fun _ _ _ _ _ _ h hF => ⟨h.1, hF⟩
theorem main_1_2 : Claimed_1_2 := comes_1 fun _ _ _ _ _ _ h hF => ⟨h.2.1, hF⟩
end Jvm.Pilot.@@N@@
namespace Jvm.Pilot.@@N@@
open Jvm Jvm.ClassFile Sem Op Lib Jvm.Free Jvm.Stand Jvm.Pilot.@@N@@.Jvm.D
/-! MADE BY PROGRAM (witnessworld.py) out of the Statement's table words and the real class files: 12 classes; the members and pool entries that the words name. The judged class is class 1, her method 2. -/
namespace start1
open Jvm.ClassFile
def u (s : String) : CpInfo := .utf8 (stringToUtf16 s)
/-- a pool by its gaps: so many unusable entries, then the entry; so many at the end -/
def gap : Nat → List CpInfo → List CpInfo
  | 0, r => r
  | n + 1, r => .unusable :: gap n r
def poolList (es : List (Nat × CpInfo)) (last : Nat) : List CpInfo := es.foldr (fun e r => gap e.1 (e.2 :: r)) (gap last [])
def pool (es : List (Nat × CpInfo)) (last : Nat) : Array CpInfo := ⟨poolList es last⟩
def fileOf (pool : Array CpInfo) (this : Nat) (attrs : Array Attribute := #[]) (ms : Array MethodInfo := #[]) (fl : Nat := 33) (sup : Nat := 0) (ifs : Array Nat := #[]) (fds : Array FieldInfo := #[]) : ClassFile where
  minorVersion := 0
  majorVersion := 65
  constantPool := pool
  accessFlags := fl
  thisClass := this
  superClass := sup
  interfaces := ifs
  fields := fds
  methods := ms
  attributes := attrs
def plain (name : String) (sup : Option ClassId) : Class where
  name := name
  kind := .ordinary
  loader := none
  accessFlags := 33
  super := sup
  interfaces := #[]
  cf := none
  fields := #[]
  methods := #[]
  instanceTypes := #[]
  staticTypes := #[]
  resolved := #[]
  callSites := []
  init := .initialized
  statics := none
  mirror := none

def pool0 : Array CpInfo := pool [(5, u "<init>"), (0, u "()V"), (1, .class_ 10), (1, u "java/lang/Object")] 113

def k0m0 : Method := { name := "<init>", desc := "()V", sig := { parameters := [], returnType := none }, accessFlags := 1, code := none }
/-- java/lang/Object -/
def k0 : Class := { plain "java/lang/Object" none with
  accessFlags := 33
  interfaces := #[]
  cf := some (fileOf pool0 8 #[] #[{ accessFlags := 1, nameIndex := 5, descriptorIndex := 6, attributes := #[] }] 33 0 #[] #[])
  fields := #[]
  methods := #[k0m0]
  instanceTypes := #[]
  staticTypes := #[]
  resolved := Array.replicate 124 none
  statics := none }

def pool1 : Array CpInfo := pool [(2, .class_ 4), (1, u "java/lang/Object"), (0, u "<init>"), (0, u "()V"), (0, .fieldref 8 9), (0, .class_ 10), (0, .nameAndType 11 12), (0, u "com/example/nodewell/nodewell/store/ValueTest$Comparison"), (0, u "EQUAL"), (0, u "Lcom/example/nodewell/nodewell/store/ValueTest$Comparison;"), (0, .fieldref 8 14), (0, .nameAndType 15 12), (0, u "LESS"), (0, .fieldref 8 17), (0, .nameAndType 18 12), (0, u "LESS_OR_EQUAL"), (0, .fieldref 8 20), (0, .nameAndType 21 12), (0, u "GREATER"), (0, .fieldref 8 23), (0, .nameAndType 24 12), (0, u "GREATER_OR_EQUAL"), (0, .integer 2147483647), (0, .methodref 27 28), (0, .class_ 29), (0, .nameAndType 30 31), (0, u "com/example/nodewell/nodewell/store/ComparisonPassesPinLaw"), (0, u "pick"), (0, u "(I)Lcom/example/nodewell/nodewell/store/ValueTest$Comparison;"), (0, .methodref 8 33), (0, .nameAndType 34 35), (0, u "passes"), (0, u "(I)Z"), (3, u "law"), (0, u "(II)Z")] 8

def k1m0 : Method := { name := "<init>", desc := "()V", sig := { parameters := [], returnType := none }, accessFlags := 2, code := none }
def k1c1 : Code := { maxStack := 2, maxLocals := 1, code := method_2_code, exceptionTable := #[], attributes := #[] }
def k1m1 : Method := { name := "pick", desc := "(I)Lcom/example/nodewell/nodewell/store/ValueTest$Comparison;", sig := { parameters := [.int], returnType := some (.object "com/example/nodewell/nodewell/store/ValueTest$Comparison") }, accessFlags := 10, code := some k1c1 }
def k1c2 : Code := { maxStack := 4, maxLocals := 7, code := code, exceptionTable := #[], attributes := #[] }
def k1m2 : Method := { name := "law", desc := "(II)Z", sig := { parameters := [.int, .int], returnType := some .boolean }, accessFlags := 9, code := some k1c2 }
/-- com/example/nodewell/nodewell/store/ComparisonPassesPinLaw -/
def k1 : Class := { plain "com/example/nodewell/nodewell/store/ComparisonPassesPinLaw" (some 0) with
  accessFlags := 49
  interfaces := #[]
  cf := some (fileOf pool1 27 #[] #[{ accessFlags := 2, nameIndex := 5, descriptorIndex := 6, attributes := #[] }, { accessFlags := 10, nameIndex := 30, descriptorIndex := 31, attributes := #[] }, { accessFlags := 9, nameIndex := 39, descriptorIndex := 40, attributes := #[] }] 49 2 #[] #[])
  fields := #[]
  methods := #[k1m0, k1m1, k1m2]
  instanceTypes := #[]
  staticTypes := #[]
  resolved := Array.replicate 49 none
  statics := none }

def pool2 : Array CpInfo := pool [(1, .class_ 2), (0, u "java/lang/constant/Constable"), (0, .class_ 4), (0, u "java/lang/Object")] 6

/-- java/lang/constant/Constable -/
def k2 : Class := { plain "java/lang/constant/Constable" (some 0) with
  accessFlags := 1537
  interfaces := #[]
  cf := some (fileOf pool2 1 #[] #[] 1537 3 #[] #[])
  fields := #[]
  methods := #[]
  instanceTypes := #[]
  staticTypes := #[]
  resolved := Array.replicate 11 none
  statics := none }

def pool3 : Array CpInfo := pool [(1, .class_ 2), (0, u "java/lang/Comparable"), (0, .class_ 4), (0, u "java/lang/Object")] 7

/-- java/lang/Comparable -/
def k3 : Class := { plain "java/lang/Comparable" (some 0) with
  accessFlags := 1537
  interfaces := #[]
  cf := some (fileOf pool3 1 #[] #[] 1537 3 #[] #[])
  fields := #[]
  methods := #[]
  instanceTypes := #[]
  staticTypes := #[]
  resolved := Array.replicate 12 none
  statics := none }

def pool4 : Array CpInfo := pool [(1, .class_ 2), (0, u "java/io/Serializable"), (0, .class_ 4), (0, u "java/lang/Object")] 2

/-- java/io/Serializable -/
def k4 : Class := { plain "java/io/Serializable" (some 0) with
  accessFlags := 1537
  interfaces := #[]
  cf := some (fileOf pool4 1 #[] #[] 1537 3 #[] #[])
  fields := #[]
  methods := #[]
  instanceTypes := #[]
  staticTypes := #[]
  resolved := Array.replicate 7 none
  statics := none }

def pool5 : Array CpInfo := pool [(2, .class_ 4), (1, u "java/lang/Enum"), (0, u "name"), (0, u "Ljava/lang/String;"), (0, .fieldref 2 8), (0, .nameAndType 9 10), (0, u "ordinal"), (0, u "I"), (1, .class_ 14), (1, u "java/lang/Object"), (4, u "hash"), (86, .class_ 108), (1, u "java/lang/Enum$EnumDesc"), (2, .class_ 112), (0, u "java/lang/constant/Constable"), (0, .class_ 114), (0, u "java/lang/Comparable"), (0, .class_ 116), (0, u "java/io/Serializable"), (9, u "()I")] 77

def k5c0 : Code := { maxStack := 1, maxLocals := 1, code := jdk_37_method_2_code, exceptionTable := #[], attributes := #[] }
def k5m0 : Method := { name := "ordinal", desc := "()I", sig := { parameters := [], returnType := some .int }, accessFlags := 17, code := some k5c0 }
/-- java/lang/Enum -/
def k5 : Class := { plain "java/lang/Enum" (some 0) with
  accessFlags := 1057
  interfaces := #[2, 3, 4]
  cf := some (fileOf pool5 2 #[.nestMembers #[106]] #[{ accessFlags := 17, nameIndex := 9, descriptorIndex := 126, attributes := #[] }] 1057 12 #[111, 113, 115] #[{ accessFlags := 18, nameIndex := 5, descriptorIndex := 6, attributes := #[] }, { accessFlags := 18, nameIndex := 9, descriptorIndex := 10, attributes := #[] }, { accessFlags := 2, nameIndex := 19, descriptorIndex := 10, attributes := #[] }])
  fields := #[{ name := "name", type := (.object "java/lang/String"), accessFlags := 18, slot := 0, constantValue := 0 }, { name := "ordinal", type := .int, accessFlags := 18, slot := 1, constantValue := 0 }, { name := "hash", type := .int, accessFlags := 2, slot := 2, constantValue := 0 }]
  methods := #[k5m0]
  instanceTypes := #[(.object "java/lang/String"), .int, .int]
  staticTypes := #[]
  resolved := Array.replicate 204 none
  statics := none }

def pool6 : Array CpInfo := pool [(1, .class_ 2), (0, u "com/example/nodewell/nodewell/store/ValueTest$Comparison"), (2, u "EQUAL"), (0, u "Lcom/example/nodewell/nodewell/store/ValueTest$Comparison;"), (2, u "LESS"), (2, u "LESS_OR_EQUAL"), (2, u "GREATER"), (2, u "GREATER_OR_EQUAL"), (2, u "$VALUES"), (0, u "[Lcom/example/nodewell/nodewell/store/ValueTest$Comparison;"), (6, .class_ 31), (1, u "java/lang/Enum"), (8, u "symbol"), (0, u "Ljava/lang/String;"), (20, .methodref 1 63), (0, .nameAndType 64 65), (0, u "ordinal"), (0, u "()I"), (30, u "passes"), (0, u "(I)Z"), (6, .class_ 105), (0, u "com/example/nodewell/nodewell/store/ValueTest")] 2

def k6c0 : Code := { maxStack := 1, maxLocals := 2, code := prog_113_method_5_code, exceptionTable := #[], attributes := #[] }
def k6m0 : Method := { name := "passes", desc := "(I)Z", sig := { parameters := [.int], returnType := some .boolean }, accessFlags := 1, code := some k6c0 }
/-- com/example/nodewell/nodewell/store/ValueTest$Comparison -/
def k6 : Class := { plain "com/example/nodewell/nodewell/store/ValueTest$Comparison" (some 5) with
  accessFlags := 16433
  interfaces := #[]
  cf := some (fileOf pool6 1 #[.nestHost 104] #[{ accessFlags := 1, nameIndex := 96, descriptorIndex := 97, attributes := #[] }] 16433 29 #[] #[{ accessFlags := 16409, nameIndex := 5, descriptorIndex := 6, attributes := #[] }, { accessFlags := 16409, nameIndex := 9, descriptorIndex := 6, attributes := #[] }, { accessFlags := 16409, nameIndex := 12, descriptorIndex := 6, attributes := #[] }, { accessFlags := 16409, nameIndex := 15, descriptorIndex := 6, attributes := #[] }, { accessFlags := 16409, nameIndex := 18, descriptorIndex := 6, attributes := #[] }, { accessFlags := 18, nameIndex := 40, descriptorIndex := 41, attributes := #[] }, { accessFlags := 4122, nameIndex := 21, descriptorIndex := 22, attributes := #[] }])
  fields := #[{ name := "EQUAL", type := (.object "com/example/nodewell/nodewell/store/ValueTest$Comparison"), accessFlags := 16409, slot := 0, constantValue := 0 }, { name := "LESS", type := (.object "com/example/nodewell/nodewell/store/ValueTest$Comparison"), accessFlags := 16409, slot := 1, constantValue := 0 }, { name := "LESS_OR_EQUAL", type := (.object "com/example/nodewell/nodewell/store/ValueTest$Comparison"), accessFlags := 16409, slot := 2, constantValue := 0 }, { name := "GREATER", type := (.object "com/example/nodewell/nodewell/store/ValueTest$Comparison"), accessFlags := 16409, slot := 3, constantValue := 0 }, { name := "GREATER_OR_EQUAL", type := (.object "com/example/nodewell/nodewell/store/ValueTest$Comparison"), accessFlags := 16409, slot := 4, constantValue := 0 }, { name := "symbol", type := (.object "java/lang/String"), accessFlags := 18, slot := 3, constantValue := 0 }, { name := "$VALUES", type := (.array (.object "com/example/nodewell/nodewell/store/ValueTest$Comparison")), accessFlags := 4122, slot := 5, constantValue := 0 }]
  methods := #[k6m0]
  instanceTypes := #[(.object "java/lang/String"), .int, .int, (.object "java/lang/String")]
  staticTypes := #[(.object "com/example/nodewell/nodewell/store/ValueTest$Comparison"), (.object "com/example/nodewell/nodewell/store/ValueTest$Comparison"), (.object "com/example/nodewell/nodewell/store/ValueTest$Comparison"), (.object "com/example/nodewell/nodewell/store/ValueTest$Comparison"), (.object "com/example/nodewell/nodewell/store/ValueTest$Comparison"), (.array (.object "com/example/nodewell/nodewell/store/ValueTest$Comparison"))]
  resolved := Array.replicate 108 none
  statics := some 0 }

def pool7 : Array CpInfo := pool [(1, u "java/lang/Cloneable"), (0, .class_ 1), (0, u "java/lang/Object"), (0, .class_ 3)] 3

/-- java/lang/Cloneable -/
def k7 : Class := { plain "java/lang/Cloneable" (some 0) with
  accessFlags := 1537
  interfaces := #[]
  cf := some (fileOf pool7 2 #[] #[] 1537 4 #[] #[])
  fields := #[]
  methods := #[]
  instanceTypes := #[]
  staticTypes := #[]
  resolved := Array.replicate 8 none
  statics := none }

/-- the primitive byte -/
def k8 : Class := { plain "byte" none with kind := .primitive 'B', accessFlags := 0x411 }
/-- [B -/
def k9 : Class := { plain "[B" (some 0) with kind := .array 8 .byte, interfaces := #[7, 4], accessFlags := 1041 }

/-- the primitive int -/
def k10 : Class := { plain "int" none with kind := .primitive 'I', accessFlags := 0x411 }
/-- [I -/
def k11 : Class := { plain "[I" (some 0) with kind := .array 10 .int, interfaces := #[7, 4], accessFlags := 1041 }

def heap : Heap := #[{ cls := 6, slots := #[.ref 1, .ref 2, .ref 3, .ref 4, .ref 5, .null], vm := .statics 6 },
  { cls := 6, slots := #[.null, .int 0, .int 0, .null], vm := .none },
  { cls := 6, slots := #[.null, .int 1, .int 0, .null], vm := .none },
  { cls := 6, slots := #[.null, .int 2, .int 0, .null], vm := .none },
  { cls := 6, slots := #[.null, .int 3, .int 0, .null], vm := .none },
  { cls := 6, slots := #[.null, .int 4, .int 0, .null], vm := .none }]
def classes : Array Class := #[k0, k1, k2, k3, k4, k5, k6, k7, k8, k9, k10, k11]
def interned : List (Array UInt16 × Addr) := []
def slotsUsed : Nat := 26
def theMethod : MethodId := ⟨1, 2⟩
def args0 : Array Value := #[.int 5, .int 7]
def aboutOver (below : List Frame) : State where
  vm := { classes := classes, interned := interned.toArray }
  heap := heap
  slotsUsed := slotsUsed
  threads := #[{ frames := .invoking theMethod args0 :: below }]
def below0 : List Frame := [.native { method := ⟨0, 0⟩, args := #[] }]
def about1 : State := aboutOver below0
def p0 : Program := .bare "" "" ""
def e0 : Env := launch0.env 0 0 0
theorem w_frames : about1.frames = Frame.invoking theMethod args0 :: below0 := rfl
set_option maxRecDepth 65536 in
theorem w_args : argsFit about1.vm theMethod args0 = true := by decide +kernel
set_option maxRecDepth 65536 in
theorem w_heap : heapFits about1 = true := by decide +kernel
set_option maxRecDepth 65536 in
theorem w_runnable : about1.curStatus? = some .runnable := by decide +kernel
set_option maxRecDepth 65536 in
theorem w_alone : about1.alone = true := by decide +kernel
set_option maxRecDepth 65536 in
theorem w_named : about1.methodNamed? x = some theMethod := by decide +kernel
set_option maxRecDepth 65536 in
theorem w_hears : about1.hears theMethod below0 = true := by decide +kernel
set_option maxRecDepth 65536 in
theorem w_ripe : about1.ripe theMethod args0 below0 = true := by decide +kernel
theorem w_running : about1.status = .running := rfl
set_option maxRecDepth 65536 in
theorem w_room : about1.hasRoom e0.platform room_1 = true :=
  launch0.hasRoom_least _ room_1 (by decide +kernel) (by decide +kernel) (by decide +kernel) (by decide +kernel) (by decide +kernel) (by decide +kernel)
theorem allAtoms_all (ts : List Jvm.Cond) (a : Array Jvm.Value) (st : Jvm.State) : (allAtoms ts).before a st = ts.all (fun c => c.before a st) := by
  induction ts with
  | nil => rfl
  | cons c t ih =>
    show (Jvm.Cond.and c (allAtoms t)).before a st = _
    rw [Jvm.Cond.before_and, ih, List.all_cons]
def words1 : List Jvm.Cond := Jvm.Cond.code x code maxLocals ret :: tables_1
/-- a 'code' word, met by the world's own term for the bytes: nothing is compared byte by byte -/
theorem code_word {y : MethodName} {bytes : ByteArray} {mx : Nat} {rt : Option FieldType} {a : Array Value} {s : State} {m : MethodId} {meth : Method} {c : Code} (h1 : s.methodNamed? y = some m) (h2 : s.vm.method? m = some meth) (h3 : meth.code = some c) (h4 : c.code = bytes)
    (h5 : (c.maxLocals == mx && c.exceptionTable.isEmpty && decide (c.maxStack ≤ mostOperands) && decide (meth.sig.returnType = rt) && !meth.locks && decide (parseMethodDescriptor y.desc = some meth.sig)) = true) : (Jvm.Cond.code y bytes mx rt).before a s = true := by
  simp only [Bool.and_eq_true, beq_iff_eq, Bool.not_eq_true', decide_eq_true_eq] at h5
  obtain ⟨⟨⟨⟨⟨g1, g2⟩, g3⟩, g4⟩, g5⟩, g6⟩ := h5
  simp [Cond.before, Cond.holds, Cond.value, h1, h2, h3, h4, g1, g2, g3, g4, g5, g6]
def isCode : Jvm.Cond → Bool
  | .code _ _ _ _ => true
  | _ => false
theorem all_split {L : List Jvm.Cond} {P : Jvm.Cond → Bool} (h1 : L.all (fun c => isCode c || P c) = true) (h2 : ∀ c ∈ L.filter isCode, P c = true) : L.all P = true := by
  refine List.all_eq_true.mpr fun c hc => ?_
  have h := List.all_eq_true.mp h1 c hc
  rcases Bool.eq_false_or_eq_true (isCode c) with hi | hi
  · exact h2 c (List.mem_filter.mpr ⟨hc, hi⟩)
  · simpa [hi] using h
set_option maxRecDepth 65536 in
theorem w_c0 : (Jvm.Cond.code x code maxLocals ret).before args0 about1 = true := code_word (m := ⟨1, 2⟩) (meth := k1m2) (c := k1c2) (by decide +kernel) rfl rfl rfl (by decide +kernel)
set_option maxRecDepth 65536 in
theorem w_c1 : (Jvm.Cond.code ({ cls := "com/example/nodewell/nodewell/store/ComparisonPassesPinLaw", name := "pick", desc := "(I)Lcom/example/nodewell/nodewell/store/ValueTest$Comparison;" } : Jvm.MethodName) method_2_code (1 : Nat) (Option.some (Jvm.ClassFile.FieldType.object "com/example/nodewell/nodewell/store/ValueTest$Comparison"))).before args0 about1 = true := code_word (m := ⟨1, 1⟩) (meth := k1m1) (c := k1c1) (by decide +kernel) rfl rfl rfl (by decide +kernel)
set_option maxRecDepth 65536 in
theorem w_c2 : (Jvm.Cond.code ({ cls := "com/example/nodewell/nodewell/store/ValueTest$Comparison", name := "passes", desc := "(I)Z" } : Jvm.MethodName) prog_113_method_5_code (2 : Nat) (Option.some Jvm.ClassFile.FieldType.boolean)).before args0 about1 = true := code_word (m := ⟨6, 0⟩) (meth := k6m0) (c := k6c0) (by decide +kernel) rfl rfl rfl (by decide +kernel)
set_option maxRecDepth 65536 in
theorem w_c3 : (Jvm.Cond.code ({ cls := "java/lang/Enum", name := "ordinal", desc := "()I" } : Jvm.MethodName) jdk_37_method_2_code (1 : Nat) (Option.some Jvm.ClassFile.FieldType.int)).before args0 about1 = true := code_word (m := ⟨5, 0⟩) (meth := k5m0) (c := k5c0) (by decide +kernel) rfl rfl rfl (by decide +kernel)
def codes1 : List Jvm.Cond := [Jvm.Cond.code x code maxLocals ret, Jvm.Cond.code ({ cls := "com/example/nodewell/nodewell/store/ComparisonPassesPinLaw", name := "pick", desc := "(I)Lcom/example/nodewell/nodewell/store/ValueTest$Comparison;" } : Jvm.MethodName) method_2_code (1 : Nat) (Option.some (Jvm.ClassFile.FieldType.object "com/example/nodewell/nodewell/store/ValueTest$Comparison")), Jvm.Cond.code ({ cls := "com/example/nodewell/nodewell/store/ValueTest$Comparison", name := "passes", desc := "(I)Z" } : Jvm.MethodName) prog_113_method_5_code (2 : Nat) (Option.some Jvm.ClassFile.FieldType.boolean), Jvm.Cond.code ({ cls := "java/lang/Enum", name := "ordinal", desc := "()I" } : Jvm.MethodName) jdk_37_method_2_code (1 : Nat) (Option.some Jvm.ClassFile.FieldType.int)]
set_option maxRecDepth 65536 in
theorem codes_eq : words1.filter isCode = codes1 := rfl
theorem w_codes : ∀ c ∈ words1.filter isCode, c.before args0 about1 = true := by
  rw [codes_eq]
  intro c hc
  simp only [codes1, List.mem_cons, List.not_mem_nil, or_false] at hc
  rcases hc with rfl | rfl | rfl | rfl
  · exact w_c0
  · exact w_c1
  · exact w_c2
  · exact w_c3
set_option maxRecDepth 65536 in
theorem w_t1 : (words1.take 24).all (fun c => isCode c || c.before args0 about1) = true := by decide +kernel
set_option maxRecDepth 65536 in
theorem w_t2 : (words1.drop 24).all (fun c => isCode c || c.before args0 about1) = true := by decide +kernel
theorem w_tables : (allAtoms (Jvm.Cond.code x code maxLocals ret :: tables_1)).before args0 about1 = true := by
  rw [allAtoms_all]
  show words1.all (fun c => c.before args0 about1) = true
  refine all_split ?_ w_codes
  rw [← List.take_append_drop 24 words1, List.all_append, w_t1, w_t2]
  rfl
set_option maxRecDepth 65536 in
theorem w_case : (Jvm.Cond.and given_1 narrow_1).before args0 about1 = true := by decide +kernel
theorem w_applies : (headSpec (Jvm.Cond.code x code maxLocals ret :: tables_1) room_1).applies x e0.platform about1 = true :=
  (Spec.applies_iff w_frames).mpr ⟨w_running, w_runnable, w_alone, w_named, w_hears, w_ripe, w_room, w_tables⟩
theorem atStart : AtStart classFile x code maxLocals ret World_1 tables_1 room_1 Calls_1 rest_1 Pre_1 launch0 p0 e0 about1 theMethod args0 below0 :=
  ⟨lists_1, trivial, launch0.admits_env _ _ _, launch0.least_env, fairChoices_fair.cas, fairChoices_fair.clock, w_frames, w_args, w_heap, w_applies, trivial, trivial, w_case⟩
end start1
theorem witness_1 : WitnessClaimed_1 := ⟨start1.p0, start1.e0, start1.about1, start1.theMethod, start1.args0, start1.below0, start1.atStart⟩
end Jvm.Pilot.@@N@@
