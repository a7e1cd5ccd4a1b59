import JvmDerived
import JvmDerived.Pilot.@@N@@Statement
import JvmDerived.Pilot.@@N@@Code
set_option linter.unusedVariables false
set_option linter.unusedSimpArgs false
@@BLOCK:NumsL.lean.txt@@
namespace Jvm.Pilot.@@N@@
open Jvm Jvm.ClassFile Sem Op Lib Jvm.Free Jvm.Stand Jvm.LawKit Jvm.RoadKit Bundle Jvm.Pilot.@@N@@.Jvm.D
/-! the walk in continuation form: from T with the frame g on top the run comes to an end that says Q -/
def Go (p : Program) (e : Env) (below : List Frame) (s : State) (C S : Nat) (Q : Option Value → Heap → List Loc → Prop) (T : State) (g : JFrame) : Prop :=
  ∃ s₂ o, Steps p.tables e below (T.setTop g) s₂ ∧ s₂.status = .running ∧ Ended s₂ below o ∧ ∃ v L, o = .returned v ∧ Q v s₂.heap L ∧ FrameEnd s o s₂ L C S
section GoKit
variable {p : Program} {l : Launch} {e : Env} {R : Room} {s : State} {m : MethodId} {args : Array Value} {below : List Frame} {meth : Method} {c : Code} {T T' : State} {g g' : JFrame} {locs : List Loc} {cells slots C S : Nat} {Q : Option Value → Heap → List Loc → Prop} {Z : State} {h h' : Heap} {n0 : Nat}
theorem Go.st (st : ∀ t, Steps p.tables e below (T'.setTop g') t → Steps p.tables e below (T.setTop g) t) (k : Go p e below s C S Q T' g') : Go p e below s C S Q T g := by
  obtain ⟨s₂, o, h1, h2⟩ := k; exact ⟨s₂, o, st _ h1, h2⟩
theorem Go.tr (st : Steps p.tables e below (T.setTop g) (T'.setTop g')) (k : Go p e below s C S Q T' g') : Go p e below s C S Q T g := by
  obtain ⟨s₂, o, h1, h2⟩ := k; exact ⟨s₂, o, st.trans h1, h2⟩
theorem Go.eq (q : g = g') (k : Go p e below s C S Q T g') : Go p e below s C S Q T g := q ▸ k
theorem Go.fin (X : Stand p l e R s m args below meth c T locs cells slots) (hlk : meth.locks = false) {v : Option Value} (hv : meth.sig.returnType = none → v = none) (hc : cells ≤ C) (hs : slots ≤ S) (q : Q v T.heap locs)
    (k : ∀ fs, (∀ (f : JFrame) (acts : List Action), f.method = m → f.locked = none → f.entered = [] → (doReturn e (T.setTop f) acts v).1 = T.setFrames fs) → Steps p.tables e below (T.setTop g) (T.setFrames fs)) : Go p e below s C S Q T g := by
  obtain ⟨fs, hr, hrun, hended, hW, hsame⟩ := X.leave (v := v) hv hlk
  exact ⟨_, _, k fs hr, hrun, hended, _, _, rfl, q, ⟨_, rfl⟩, hW, hsame.mono hc hs⟩
theorem Go.retN (X : Stand p l e R s m args below meth c T locs cells slots) (hlk : meth.locks = false) (hx : p.tables.exec = Jvm.exec) {pc : Nat} {Ls : Array Slot} {z z' : Int32} {t : FieldType} {rest : List Value} (hret : meth.sig.returnType = some t) (ht : t = .boolean ∨ t = .byte ∨ t = .char ∨ t = .short)
    (hd : decode c.code pc = .ok (.ireturn, 1)) (hc : cells ≤ C) (hs : slots ≤ S) (hz : nar t z = z') (q : Q (some (.int z')) T.heap locs) : Go p e below s C S Q T (mkF m pc Ls (.int z :: rest)) := by
  subst hz
  exact Go.fin X hlk (fun h => by rw [hret] at h; cases h) hc hs q fun fs hr => Jvm.RoadKit.retN X hx hret ht hd hr
theorem Go.retV (X : Stand p l e R s m args below meth c T locs cells slots) (hlk : meth.locks = false) (hx : p.tables.exec = Jvm.exec) {pc : Nat} {Ls : Array Slot} {w : Value} {t : FieldType} {i : Instr} {rest : List Value} (hret : meth.sig.returnType = some t) (hn : narrow t w = w)
    (hi : (i = .ireturn ∧ (t = .int ∨ t = .boolean ∨ t = .byte ∨ t = .char ∨ t = .short) ∧ ∃ z, w = .int z) ∨ (i = .lreturn ∧ t = .long ∧ ∃ z, w = .long z) ∨ (i = .dreturn ∧ t = .double ∧ ∃ z, w = .double z) ∨ (i = .freturn ∧ t = .float ∧ ∃ z, w = .float z) ∨ (i = .areturn ∧ t.isReference = true ∧ w.isRef = true))
    (hd : decode c.code pc = .ok (i, 1)) (hc : cells ≤ C) (hs : slots ≤ S) (q : Q (some w) T.heap locs) : Go p e below s C S Q T (mkF m pc Ls (w :: rest)) :=
  Go.fin X hlk (fun h => by rw [hret] at h; cases h) hc hs q fun fs hr => Jvm.RoadKit.retOut X hx hret hn hi hd hr
theorem Go.retR (X : Stand p l e R s m args below meth c T locs cells slots) (hlk : meth.locks = false) (hx : p.tables.exec = Jvm.exec) {pc : Nat} {Ls : Array Slot} {w : Value} {t : FieldType} {rest : List Value} (hret : meth.sig.returnType = some t) (ht : t.isReference = true) (hw : w.isRef = true) (hn : narrow t w = w)
    (hd : decode c.code pc = .ok (.areturn, 1)) (hc : cells ≤ C) (hs : slots ≤ S) (q : Q (some w) T.heap locs) : Go p e below s C S Q T (mkF m pc Ls (w :: rest)) :=
  Go.retV X hlk hx hret hn (Or.inr (Or.inr (Or.inr (Or.inr ⟨rfl, ht, hw⟩)))) hd hc hs q
theorem Go.retI (X : Stand p l e R s m args below meth c T locs cells slots) (hlk : meth.locks = false) (hx : p.tables.exec = Jvm.exec) {pc : Nat} {Ls : Array Slot} {z : Int32} {rest : List Value} (hret : meth.sig.returnType = some .int)
    (hd : decode c.code pc = .ok (.ireturn, 1)) (hc : cells ≤ C) (hs : slots ≤ S) (q : Q (some (.int z)) T.heap locs) : Go p e below s C S Q T (mkF m pc Ls (.int z :: rest)) :=
  Go.retV X hlk hx hret rfl (Or.inl ⟨rfl, Or.inl rfl, z, rfl⟩) hd hc hs q
theorem Go.retJ (X : Stand p l e R s m args below meth c T locs cells slots) (hlk : meth.locks = false) (hx : p.tables.exec = Jvm.exec) {pc : Nat} {Ls : Array Slot} {z : Int64} {rest : List Value} (hret : meth.sig.returnType = some .long)
    (hd : decode c.code pc = .ok (.lreturn, 1)) (hc : cells ≤ C) (hs : slots ≤ S) (q : Q (some (.long z)) T.heap locs) : Go p e below s C S Q T (mkF m pc Ls (.long z :: rest)) :=
  Go.retV X hlk hx hret rfl (Or.inr (Or.inl ⟨rfl, rfl, z, rfl⟩)) hd hc hs q
theorem Go.ret0 (X : Stand p l e R s m args below meth c T locs cells slots) (hlk : meth.locks = false) (hx : p.tables.exec = Jvm.exec) {pc : Nat} {Ls : Array Slot} (hret : meth.sig.returnType = none)
    (hd : decode c.code pc = .ok (.return_, 1)) (hc : cells ≤ C) (hs : slots ≤ S) (q : Q none T.heap locs) : Go p e below s C S Q T (mkF m pc Ls []) :=
  Go.fin X hlk (fun _ => rfl) hc hs q fun fs hr => X.returnOut hx hret hd hr
theorem own_le (O : Old Z n0 h) : n0 ≤ h.size := O.1 ▸ O.2.1
theorem own_ext {ws : List Addr} (K : Keep h h' ws) (q : ∀ x ∈ ws, h.size ≤ x) : Ext h h' := ⟨K.1, fun x c r => K.2.1 x c r fun z => absurd (Array.getElem?_eq_some_iff.mp r).1 (Nat.not_lt.mpr (q x z))⟩
theorem own_ext0 (K : Keep h h' []) : Ext h h' := own_ext K all0
theorem own_exr (h : Heap) : Ext h h := ⟨Nat.le_refl _, fun _ _ q => q⟩
theorem own_ext_t {h'' : Heap} (E : Ext h h') (E' : Ext h' h'') : Ext h h'' := ⟨Nat.le_trans E.1 E'.1, fun x c r => E'.2 x c (E.2 x c r)⟩
end GoKit
theorem pn_2 : plainName "java/lang/Enum" = true := by first | (simp [plainName, overriddenIn]; done) | decide +kernel
theorem ef_rmO (m : MethodId) (a1 : Addr) : entryFrame m #[(.ref a1)] 1 = mkF m 0 #[.val (.ref a1)] [] := by first | (simp [entryFrame, mkF, argsToLocals, Value.category]; done) | rfl
theorem d2_0 : decode jdk_37_method_2_code 0 = .ok (.aload_n 0, 1) := by decide +kernel
theorem d2_1 : decode jdk_37_method_2_code 1 = .ok (.getfield 7, 3) := by decide +kernel
theorem d2_4 : decode jdk_37_method_2_code 4 = .ok (.ireturn, 1) := by decide +kernel
theorem pn_1 : plainName "com/example/sancho/sancho/model/ScriptExpression$ComparisonOperator" = true := by first | (simp [plainName, overriddenIn]; done) | decide +kernel
theorem ef_rmS (m : MethodId) (a1 : Addr) (y_1 : UInt64) (y_2 : UInt64) : entryFrame m #[(.ref a1), (.double y_1), (.double y_2)] 6 = mkF m 0 #[.val (.ref a1), .val (.double y_1), .second, .val (.double y_2), .second, .unset] [] := by first | (simp [entryFrame, mkF, argsToLocals, Value.category]; done) | rfl
theorem d1_0 : decode prog_26_method_4_code 0 = .ok (.aload_n 0, 1) := by decide +kernel
theorem d1_1 : decode prog_26_method_4_code 1 = .ok (.invokevirtual 41, 3) := by decide +kernel
theorem pd___I : parseMethodDescriptor "()I" = some ⟨[], some .int⟩ := by decide +kernel
theorem d1_4 : decode prog_26_method_4_code 4 = .ok (.tableswitch 136 0 5 #[40, 56, 72, 88, 104, 120], 40) := by decide +kernel
theorem d1_44 : decode prog_26_method_4_code 44 = .ok (.dload_n 1, 1) := by decide +kernel
theorem d1_45 : decode prog_26_method_4_code 45 = .ok (.dload_n 3, 1) := by decide +kernel
theorem d1_46 : decode prog_26_method_4_code 46 = .ok (.dcmp .g, 1) := by decide +kernel
theorem d1_47 : decode prog_26_method_4_code 47 = .ok (.ifCond .ge 7, 3) := by decide +kernel
theorem d1_50 : decode prog_26_method_4_code 50 = .ok (.iconst 1, 1) := by decide +kernel
theorem d1_51 : decode prog_26_method_4_code 51 = .ok (.goto 4, 3) := by decide +kernel
theorem d1_55 : decode prog_26_method_4_code 55 = .ok (.istore 5, 2) := by decide +kernel
theorem d1_57 : decode prog_26_method_4_code 57 = .ok (.goto 92, 3) := by decide +kernel
theorem d1_149 : decode prog_26_method_4_code 149 = .ok (.iload 5, 2) := by decide +kernel
theorem d1_151 : decode prog_26_method_4_code 151 = .ok (.ireturn, 1) := by decide +kernel
theorem d1_54 : decode prog_26_method_4_code 54 = .ok (.iconst 0, 1) := by decide +kernel
theorem d1_60 : decode prog_26_method_4_code 60 = .ok (.dload_n 1, 1) := by decide +kernel
theorem d1_61 : decode prog_26_method_4_code 61 = .ok (.dload_n 3, 1) := by decide +kernel
theorem d1_62 : decode prog_26_method_4_code 62 = .ok (.dcmp .g, 1) := by decide +kernel
theorem d1_63 : decode prog_26_method_4_code 63 = .ok (.ifCond .gt 7, 3) := by decide +kernel
theorem d1_70 : decode prog_26_method_4_code 70 = .ok (.iconst 0, 1) := by decide +kernel
theorem d1_71 : decode prog_26_method_4_code 71 = .ok (.istore 5, 2) := by decide +kernel
theorem d1_73 : decode prog_26_method_4_code 73 = .ok (.goto 76, 3) := by decide +kernel
theorem d1_66 : decode prog_26_method_4_code 66 = .ok (.iconst 1, 1) := by decide +kernel
theorem d1_67 : decode prog_26_method_4_code 67 = .ok (.goto 4, 3) := by decide +kernel
theorem d1_76 : decode prog_26_method_4_code 76 = .ok (.dload_n 1, 1) := by decide +kernel
theorem d1_77 : decode prog_26_method_4_code 77 = .ok (.dload_n 3, 1) := by decide +kernel
theorem d1_78 : decode prog_26_method_4_code 78 = .ok (.dcmp .l, 1) := by decide +kernel
theorem d1_79 : decode prog_26_method_4_code 79 = .ok (.ifCond .le 7, 3) := by decide +kernel
theorem d1_82 : decode prog_26_method_4_code 82 = .ok (.iconst 1, 1) := by decide +kernel
theorem d1_83 : decode prog_26_method_4_code 83 = .ok (.goto 4, 3) := by decide +kernel
theorem d1_87 : decode prog_26_method_4_code 87 = .ok (.istore 5, 2) := by decide +kernel
theorem d1_89 : decode prog_26_method_4_code 89 = .ok (.goto 60, 3) := by decide +kernel
theorem d1_86 : decode prog_26_method_4_code 86 = .ok (.iconst 0, 1) := by decide +kernel
theorem d1_92 : decode prog_26_method_4_code 92 = .ok (.dload_n 1, 1) := by decide +kernel
theorem d1_93 : decode prog_26_method_4_code 93 = .ok (.dload_n 3, 1) := by decide +kernel
theorem d1_94 : decode prog_26_method_4_code 94 = .ok (.dcmp .l, 1) := by decide +kernel
theorem d1_95 : decode prog_26_method_4_code 95 = .ok (.ifCond .lt 7, 3) := by decide +kernel
theorem d1_102 : decode prog_26_method_4_code 102 = .ok (.iconst 0, 1) := by decide +kernel
theorem d1_103 : decode prog_26_method_4_code 103 = .ok (.istore 5, 2) := by decide +kernel
theorem d1_105 : decode prog_26_method_4_code 105 = .ok (.goto 44, 3) := by decide +kernel
theorem d1_98 : decode prog_26_method_4_code 98 = .ok (.iconst 1, 1) := by decide +kernel
theorem d1_99 : decode prog_26_method_4_code 99 = .ok (.goto 4, 3) := by decide +kernel
theorem d1_108 : decode prog_26_method_4_code 108 = .ok (.dload_n 1, 1) := by decide +kernel
theorem d1_109 : decode prog_26_method_4_code 109 = .ok (.dload_n 3, 1) := by decide +kernel
theorem d1_110 : decode prog_26_method_4_code 110 = .ok (.dcmp .l, 1) := by decide +kernel
theorem d1_111 : decode prog_26_method_4_code 111 = .ok (.ifCond .ne 7, 3) := by decide +kernel
theorem d1_114 : decode prog_26_method_4_code 114 = .ok (.iconst 1, 1) := by decide +kernel
theorem d1_115 : decode prog_26_method_4_code 115 = .ok (.goto 4, 3) := by decide +kernel
theorem d1_119 : decode prog_26_method_4_code 119 = .ok (.istore 5, 2) := by decide +kernel
theorem d1_121 : decode prog_26_method_4_code 121 = .ok (.goto 28, 3) := by decide +kernel
theorem d1_118 : decode prog_26_method_4_code 118 = .ok (.iconst 0, 1) := by decide +kernel
theorem d1_124 : decode prog_26_method_4_code 124 = .ok (.dload_n 1, 1) := by decide +kernel
theorem d1_125 : decode prog_26_method_4_code 125 = .ok (.dload_n 3, 1) := by decide +kernel
theorem d1_126 : decode prog_26_method_4_code 126 = .ok (.dcmp .l, 1) := by decide +kernel
theorem d1_127 : decode prog_26_method_4_code 127 = .ok (.ifCond .eq 7, 3) := by decide +kernel
theorem d1_134 : decode prog_26_method_4_code 134 = .ok (.iconst 0, 1) := by decide +kernel
theorem d1_135 : decode prog_26_method_4_code 135 = .ok (.istore 5, 2) := by decide +kernel
theorem d1_137 : decode prog_26_method_4_code 137 = .ok (.goto 12, 3) := by decide +kernel
theorem d1_130 : decode prog_26_method_4_code 130 = .ok (.iconst 1, 1) := by decide +kernel
theorem d1_131 : decode prog_26_method_4_code 131 = .ok (.goto 4, 3) := by decide +kernel
theorem pn_0 : plainName "com/example/sancho/sancho/model/ComparisonOperatorHoldsPinLaw" = true := by first | (simp [plainName, overriddenIn]; done) | decide +kernel
theorem ef_rm0 (m : MethodId) (p1 : Int32) (p2 : Int32) (p3 : Int32) (p4 : Int32) : entryFrame m #[(.int p1), (.int p2), (.int p3), (.int p4)] maxLocals = mkF m 0 #[.val (.int p1), .val (.int p2), .val (.int p3), .val (.int p4), .unset, .unset, .unset, .unset, .unset, .unset, .unset, .unset, .unset, .unset, .unset, .unset, .unset, .unset] [] := by first | (simp [entryFrame, mkF, argsToLocals, Value.category, maxLocals]; done) | rfl
theorem pd__DD_Z : parseMethodDescriptor "(DD)Z" = some ⟨[.double, .double], some .boolean⟩ := by decide +kernel
def holdF (k c : Int32) : Int32 := if k = 0 then (if c < 0 then 1 else 0) else if k = 1 then (if 0 < c then 0 else 1) else if k = 2 then (if 0 < c then 1 else 0) else if k = 3 then (if c < 0 then 0 else 1) else if k = 4 then (if c = 0 then 1 else 0) else (if c = 0 then 0 else 1)
theorem own_rng (x : Int32) : -2147483648 ≤ x.toInt64.toInt ∧ x.toInt64.toInt ≤ 2147483647 := by
  rw [Int32.toInt_toInt64]; exact ⟨Int32.le_toInt x, Int32.toInt_le x⟩
theorem own_b53 (x : Int32) : B53 x.toInt64 := by
  have := own_rng x
  refine b53 ?_ ?_ <;> rw [Int64.lt_iff_toInt_lt]
  · have e : (-9007199254740992 : Int64).toInt = -9007199254740992 := rfl
    omega
  · have e : (9007199254740992 : Int64).toInt = 9007199254740992 := rfl
    omega
theorem own_b53i {z : Int64} (h : -4294967296 ≤ z.toInt ∧ z.toInt ≤ 4294967296) : B53 z := by
  refine b53 ?_ ?_ <;> rw [Int64.lt_iff_toInt_lt]
  · have e : (-9007199254740992 : Int64).toInt = -9007199254740992 := rfl
    omega
  · have e : (9007199254740992 : Int64).toInt = 9007199254740992 := rfl
    omega
theorem own_add (a b : Int64) (h : -9223372036854775808 ≤ a.toInt + b.toInt ∧ a.toInt + b.toInt < 9223372036854775808) : (a + b).toInt = a.toInt + b.toInt := by
  have h2 := c_ladd a b; have h3 := Int64.le_toInt (a + b); have h4 := Int64.toInt_lt (a + b); omega
theorem own_sub (a b : Int64) (h : -9223372036854775808 ≤ a.toInt - b.toInt ∧ a.toInt - b.toInt < 9223372036854775808) : (a - b).toInt = a.toInt - b.toInt := by
  have h2 := c_lsub a b; have h3 := Int64.le_toInt (a - b); have h4 := Int64.toInt_lt (a - b); omega
theorem own_b53' (x y m : Int32) : B53 (if m = (0 : Int32) then (y.toInt64) else (if m = (1 : Int32) then x.toInt64 else (if m = (2 : Int32) then (x.toInt64 + (1 : Int64)) else (x.toInt64 - (1 : Int64))))) := by
  have h1 := own_rng x; have h2 := own_rng y; have e1 : (1 : Int64).toInt = 1 := rfl
  apply own_b53i
  split
  · omega
  · split
    · omega
    · split
      · rw [own_add _ _ (by omega)]; omega
      · rw [own_sub _ _ (by omega)]; omega
theorem own_cmp {a b : Int64} (ha : B53 a) (hb : B53 b) : lcmpW (a - b) 0 = lcmpW a b := by
  have h := Jvm.RoadKit.sub64 ha hb
  have e : (0 : Int64).toInt = 0 := rfl
  have k1 := c_lcmp (a - b) 0; have k2 := c_lcmp a b
  rw [h, e] at k1
  apply Int32.toInt_inj.mp
  rcases Int.lt_trichotomy a.toInt b.toInt with q | q | q
  · rw [k1.1 (by omega), k2.1 q]
  · rw [k1.2.1 (by omega), k2.2.1 q]
  · rw [k1.2.2 (by omega), k2.2.2 q]

theorem own_eqi {args : Array Value} {Z : State} {t : Term} {k : Int32} (h : (Cond.eq t (Term.int k)).value args Z none Z [] = some true) : t.eval args Z none [] Z = some (.int k) := by
  cases ht : t.eval args Z none [] Z with
  | none => simp [Cond.value, Term.eval, ht] at h
  | some v => cases v <;> simp [Cond.value, Term.eval, ht] at h <;> (try rw [h])
theorem own_en {args : Array Value} {Z : State} {C n d : String} {k : Int32} (hx : (Cond.exactly (Term.static C n d) C).value args Z none Z [] = some true) (hk : (Cond.eq (Term.field (Term.static C n d) "java/lang/Enum" "ordinal" "I") (Term.int k)).value args Z none Z [] = some true)
    (hi : (Cond.initialized C).before args Z = true) (hl : (Cond.laysStatic C n d).before args Z = true) : ∃ w, Sta Z Z.heap C n d (.ref w) ∧ Exa Z Z.heap w C ∧ Fld Z Z.heap w "java/lang/Enum" "ordinal" "I" (.int k) := by
  obtain ⟨w, ew⟩ := exa_v hx
  exact ⟨w, Sta.start ew (Or.inr ⟨hi, hl⟩), Exa.start ew hx, Fld.start (by rw [← fld_at ew]; exact own_eqi hk)⟩
theorem own_en0 {args : Array Value} {Z : State} {C n d : String} (hx : (Cond.exactly (Term.static C n d) C).value args Z none Z [] = some true)
    (hi : (Cond.initialized C).before args Z = true) (hl : (Cond.laysStatic C n d).before args Z = true) : ∃ w, Sta Z Z.heap C n d (.ref w) ∧ Exa Z Z.heap w C := by
  obtain ⟨w, ew⟩ := exa_v hx
  exact ⟨w, Sta.start ew (Or.inr ⟨hi, hl⟩), Exa.start ew hx⟩

theorem own_mod (a n : Int32) (hn : 0 < n.toInt) : 0 ≤ ((a &&& 2147483647) % n).toInt ∧ ((a &&& 2147483647) % n).toInt < n.toInt := by
  have e1 : (a &&& 2147483647).toInt = a.toInt % 2 ^ 31 := Jvm.Kit.i32_mask a 2147483647 (k := 31) (by decide) (by decide)
  rw [Int32.toInt_mod, e1]
  have p0 : 0 ≤ a.toInt % 2 ^ 31 := Int.emod_nonneg _ (by decide)
  rw [Int.tmod_eq_emod_of_nonneg p0]
  exact ⟨Int.emod_nonneg _ (by omega), Int.emod_lt_of_pos _ hn⟩

theorem own_mod6 (a : Int32) : (a &&& 2147483647) % 6 = 0 ∨ (a &&& 2147483647) % 6 = 1 ∨ (a &&& 2147483647) % 6 = 2 ∨ (a &&& 2147483647) % 6 = 3 ∨ (a &&& 2147483647) % 6 = 4 ∨ (a &&& 2147483647) % 6 = 5 := by
  have h := own_mod a 6 (by decide)
  have e : (6 : Int32).toInt = 6 := rfl
  rw [e] at h
  have : ((a &&& 2147483647) % 6).toInt = 0 ∨ ((a &&& 2147483647) % 6).toInt = 1 ∨ ((a &&& 2147483647) % 6).toInt = 2 ∨ ((a &&& 2147483647) % 6).toInt = 3 ∨ ((a &&& 2147483647) % 6).toInt = 4 ∨ ((a &&& 2147483647) % 6).toInt = 5 := by omega
  rcases this with h | h | h | h | h | h <;> simp [← Int32.toInt_inj, h]

def Q_rmO (Z : State) (a1 : Addr) (k : Int32) (h0 : Heap) (n0 : Nat) (v : Option Value) (h : Heap) (L : List Loc) : Prop := v = some (.int k) ∧ Fr n0 L ∧ h = h0
set_option maxRecDepth 65536 in
set_option maxHeartbeats 40000000 in
theorem rmO (l : Launch) (Z : State) (a0 : Array Value) (hw : ∀ d ∈ tables_1, d.before a0 Z = true) (ws : List Jvm.Cond) (a1 : Addr) (k : Int32) (h0 : Heap) (n0 : Nat) (O : Old Z n0 h0) (F1 : Fld Z Z.heap a1 "java/lang/Enum" "ordinal" "I" (.int k)) :
    MetFree l (⟨"java/lang/Enum", "ordinal", "()I"⟩ : MethodName) (head1 (Jvm.Cond.code (⟨"java/lang/Enum", "ordinal", "()I"⟩ : MethodName) jdk_37_method_2_code 1 (some .int) :: ws) ({ frames := 0, cells := 0, slots := 0, locals := 0 } : Room)) (fun a U => a = #[(.ref a1)] ∧ Z.Warmed39 U.vm ∧ U.heap = h0) (fun _ _ _ _ _ => True) (fun _ U o U' => ∃ v L, o = .returned v ∧ Q_rmO Z a1 k h0 n0 v U'.heap L ∧ FrameEnd U o U' L ({ frames := 0, cells := 0, slots := 0, locals := 0 } : Room).cells ({ frames := 0, cells := 0, slots := 0, locals := 0 } : Room).slots) := by
  refine MetFree.of_bodySF (plainFor_of_name pn_2) hisR ?_
  intro p e s m args below meth c s₁ Bd hml0 hP hK
  obtain ⟨rfl, hZ, hh⟩ := hP
  have hx := Bd.exec
  have hby := Bd.bytes
  have hml : c.maxLocals = 1 := hml0
  have hown : s.vm.findClass "java/lang/Enum" = some m.cls := findClass_of_methodNamed Bd.named
  have hnm := (name_of_methodNamed Bd.named Bd.method).1
  have hlk : meth.locks = false := BodyLoose.notSynchronized Bd
  have X0 : Stand p l e ({ frames := 0, cells := 0, slots := 0, locals := 0 } : Room) s m #[(.ref a1)] below meth c s₁ [] 0 0 := Stand.of_body Bd
  have e0 : s₁.heap = h0 := by rw [← hh, Bd.state]; rfl
  have N0 := Fr.nil n0
  show Go p e below s ({ frames := 0, cells := 0, slots := 0, locals := 0 } : Room).cells ({ frames := 0, cells := 0, slots := 0, locals := 0 } : Room).slots (Q_rmO Z a1 k h0 n0) s₁ (entryFrame m #[(.ref a1)] 1)
  refine Go.eq (ef_rmO m a1) ?_
  show Go _ _ _ _ _ _ _  s₁ (mkF m 0 #[.val (.ref a1)] [])
  refine Go.st (fun t k => XS.aloadN X0.here hx rfl (hb hby d2_0) rfl rfl  k) ?_
  show Go _ _ _ _ _ _ _  s₁ (mkF m 1 #[.val (.ref a1)] [(.ref a1)])
  obtain ⟨T1, X1, e1, st1⟩ := getF X0 hx hZ hown (host := "") (Or.inl (hw _ (List.mem_of_getElem? (i := 16) rfl))) Via.refl e0 (F1.ext O.2) (g := (mkF m 1 #[.val (.ref a1)] [(.ref a1)])) rfl rfl (hb hby d2_1)
  refine Go.st st1 ?_
  show Go _ _ _ _ _ _ _  T1 (mkF m 4 #[.val (.ref a1)] [(.int k)])
  refine Go.retI X1 hlk hx Bd.returns (hb hby d2_4) (by decide) (by decide) ?_
  show Q_rmO Z _ _ h0 n0 _ T1.heap _
  rw [e1]
  exact ⟨rfl, N0, rfl⟩
def Q_rmS (Z : State) (a1 : Addr) (k : Int32) (u : Int64) (vv : Int64) (h0 : Heap) (n0 : Nat) (v : Option Value) (h : Heap) (L : List Loc) : Prop := v = some (.int (holdF k (lcmpW u vv))) ∧ Fr n0 L ∧ h = h0
set_option maxRecDepth 65536 in
set_option maxHeartbeats 40000000 in
theorem rmS (l : Launch) (Z : State) (a0 : Array Value) (hw : ∀ d ∈ tables_1, d.before a0 Z = true) (ws : List Jvm.Cond) (a1 : Addr) (k : Int32) (u : Int64) (vv : Int64) (h0 : Heap) (n0 : Nat) (O : Old Z n0 h0) (F1 : Fld Z Z.heap a1 "java/lang/Enum" "ordinal" "I" (.int k)) (E1 : Exa Z Z.heap a1 "com/example/sancho/sancho/model/ScriptExpression$ComparisonOperator") (hk : k = 0 ∨ k = 1 ∨ k = 2 ∨ k = 3 ∨ k = 4 ∨ k = 5) (hu : B53 u) (hv : B53 vv) :
    MetFree l (⟨"com/example/sancho/sancho/model/ScriptExpression$ComparisonOperator", "holds", "(DD)Z"⟩ : MethodName) (head1 (Jvm.Cond.code (⟨"com/example/sancho/sancho/model/ScriptExpression$ComparisonOperator", "holds", "(DD)Z"⟩ : MethodName) prog_26_method_4_code 6 (some .boolean) :: ws) ({ frames := 1, cells := 0, slots := 0, locals := 12 } : Room)) (fun a U => a = #[(.ref a1), (.double (FP.l2d u)), (.double (FP.l2d vv))] ∧ Z.Warmed39 U.vm ∧ U.heap = h0) (fun _ _ _ _ _ => True) (fun _ U o U' => ∃ v L, o = .returned v ∧ Q_rmS Z a1 k u vv h0 n0 v U'.heap L ∧ FrameEnd U o U' L ({ frames := 1, cells := 0, slots := 0, locals := 12 } : Room).cells ({ frames := 1, cells := 0, slots := 0, locals := 12 } : Room).slots) := by
  refine MetFree.of_bodySF (plainFor_of_name pn_1) hisR ?_
  intro p e s m args below meth c s₁ Bd hml0 hP hK
  obtain ⟨rfl, hZ, hh⟩ := hP
  have hx := Bd.exec
  have hby := Bd.bytes
  have hml : c.maxLocals = 6 := hml0
  have hown : s.vm.findClass "com/example/sancho/sancho/model/ScriptExpression$ComparisonOperator" = some m.cls := findClass_of_methodNamed Bd.named
  have hnm := (name_of_methodNamed Bd.named Bd.method).1
  have hlk : meth.locks = false := BodyLoose.notSynchronized Bd
  have X0 : Stand p l e ({ frames := 1, cells := 0, slots := 0, locals := 12 } : Room) s m #[(.ref a1), (.double (FP.l2d u)), (.double (FP.l2d vv))] below meth c s₁ [] 0 0 := Stand.of_body Bd
  have e0 : s₁.heap = h0 := by rw [← hh, Bd.state]; rfl
  have N0 := Fr.nil n0
  show Go p e below s ({ frames := 1, cells := 0, slots := 0, locals := 12 } : Room).cells ({ frames := 1, cells := 0, slots := 0, locals := 12 } : Room).slots (Q_rmS Z a1 k u vv h0 n0) s₁ (entryFrame m #[(.ref a1), (.double (FP.l2d u)), (.double (FP.l2d vv))] 6)
  refine Go.eq (ef_rmS m a1 (FP.l2d u) (FP.l2d vv)) ?_
  show Go _ _ _ _ _ _ _  s₁ (mkF m 0 #[.val (.ref a1), .val (.double (FP.l2d u)), .second, .val (.double (FP.l2d vv)), .second, .unset] [])
  refine Go.st (fun t k => XS.aloadN X0.here hx rfl (hb hby d1_0) rfl rfl  k) ?_
  show Go _ _ _ _ _ _ _  s₁ (mkF m 1 #[.val (.ref a1), .val (.double (FP.l2d u)), .second, .val (.double (FP.l2d vv)), .second, .unset] [(.ref a1)])
  obtain ⟨cq1, kq1, q1a, q1b, q1c⟩ := isOf hZ e0 (E1.ext O.2)
  obtain ⟨_, _, ⟨T1, L1, k1, n1⟩, -, X1, ⟨Lc1, hQ1, l1, y1, z1⟩, st1⟩ := X0.virtualBackUp hx (x := (⟨"com/example/sancho/sancho/model/ScriptExpression$ComparisonOperator", "ordinal", "()I"⟩ : MethodName)) (y := (⟨"java/lang/Enum", "ordinal", "()I"⟩ : MethodName)) (owner := "java/lang/Enum") hown (mvT hZ (hw _ (List.mem_of_getElem? (i := 9) rfl))) (mvT hZ (hw _ (List.mem_of_getElem? (i := 10) rfl))) (mvT hZ (hw _ (List.mem_of_getElem? (i := 11) rfl))) (by decide) (mvT hZ (hw _ (List.mem_of_getElem? (i := 13) rfl))) (mvT hZ (hw _ (List.mem_of_getElem? (i := 12) rfl))) (backOf (W := 0) (rmO l Z a0 hw [] a1 k h0 n0 O F1) hZ (hw _ (List.mem_of_getElem? (i := 15) rfl)) (hw _ (List.mem_of_getElem? (i := 14) rfl)) (by decide) (by decide)) q1a q1c (g := (mkF m 1 #[.val (.ref a1), .val (.double (FP.l2d u)), .second, .val (.double (FP.l2d vv)), .second, .unset] [(.ref a1)])) rfl (by rw [hml]; rfl) (Steps.refl _) (argsL := []) (rest := []) (lenOf pd___I rfl) rfl (by show 2 * 0 + _ ≤ _; exact Nat.le_of_eq rfl) (hb hby d1_1) (fun _ _ => ⟨rfl, e0, (by decide : 0 + 0 ≤ _), (by decide : 0 + 0 ≤ _)⟩)
  dsimp only [Pt.U, Pt.locs, Pt.cells, Pt.slots] at X1 l1 y1 z1 st1 hQ1
  subst l1 y1 z1
  obtain ⟨rfl, N1q, e1q⟩ := hQ1
  have N1 := Fr.app N0 N1q
  refine Go.tr st1 ?_
  rcases hk with hk | hk | hk | hk | hk | hk
  · rw [hk]
    show Go _ _ _ _ _ _ _  T1 (mkF m 4 #[.val (.ref a1), .val (.double (FP.l2d u)), .second, .val (.double (FP.l2d vv)), .second, .unset] [(.int (0 : Int32))])
    refine Go.st (fun t k => XS.tswIn X1.here hx rfl (pc0 := 4) (pc' := 44) (o := 40) rfl (hb hby d1_4) rfl (by decide) (by decide) (by decide) (by decide) k) ?_
    show Go _ _ _ _ _ _ _  T1 (mkF m 44 #[.val (.ref a1), .val (.double (FP.l2d u)), .second, .val (.double (FP.l2d vv)), .second, .unset] [])
    refine Go.st (fun t k => XS.dloadN X1.here hx rfl (hb hby d1_44) rfl k) ?_
    show Go _ _ _ _ _ _ _  T1 (mkF m 45 #[.val (.ref a1), .val (.double (FP.l2d u)), .second, .val (.double (FP.l2d vv)), .second, .unset] [(.double (FP.l2d u))])
    refine Go.st (fun t k => XS.dloadN X1.here hx rfl (hb hby d1_45) rfl k) ?_
    show Go _ _ _ _ _ _ _  T1 (mkF m 46 #[.val (.ref a1), .val (.double (FP.l2d u)), .second, .val (.double (FP.l2d vv)), .second, .unset] [(.double (FP.l2d vv)), (.double (FP.l2d u))])
    refine Go.st (fun t k => XS.dcmpS X1.here hx rfl (hb hby d1_46) rfl rfl k) ?_
    show Go _ _ _ _ _ _ _  T1 (mkF m 47 #[.val (.ref a1), .val (.double (FP.l2d u)), .second, .val (.double (FP.l2d vv)), .second, .unset] [(.int (cmpValue (FP.dcmp (FP.l2d u) (FP.l2d vv)) .g))])
    rw [dcmpV_w hu hv]
    show Go _ _ _ _ _ _ _  T1 (mkF m 47 #[.val (.ref a1), .val (.double (FP.l2d u)), .second, .val (.double (FP.l2d vv)), .second, .unset] [(.int (lcmpW u vv))])
    by_cases c47_2 : (lcmpW u vv) < (0 : Int32)
    · refine Go.st (fun t k => XS.ifNo X1.here hx rfl (hb hby d1_47) rfl ((if0 _ _).trans (tlt c47_2).2.1) k) ?_
      show Go _ _ _ _ _ _ _  T1 (mkF m 50 #[.val (.ref a1), .val (.double (FP.l2d u)), .second, .val (.double (FP.l2d vv)), .second, .unset] [])
      refine Go.st (fun t k => XS.iconst X1.here hx rfl (hb hby d1_50) k) ?_
      show Go _ _ _ _ _ _ _  T1 (mkF m 51 #[.val (.ref a1), .val (.double (FP.l2d u)), .second, .val (.double (FP.l2d vv)), .second, .unset] [(.int (1 : Int32))])
      refine Go.st (fun t k => XS.goto X1.here hx rfl (pc0 := 51) (pc' := 55) rfl (hb hby d1_51) (by decide) (by decide) k) ?_
      show Go _ _ _ _ _ _ _  T1 (mkF m 55 #[.val (.ref a1), .val (.double (FP.l2d u)), .second, .val (.double (FP.l2d vv)), .second, .unset] [(.int (1 : Int32))])
      refine Go.st (fun t k => XS.istore X1.here hx rfl (hb hby d1_55) rfl (l' := #[.val (.ref a1), .val (.double (FP.l2d u)), .second, .val (.double (FP.l2d vv)), .second, .val (.int (1 : Int32))]) rfl k) ?_
      show Go _ _ _ _ _ _ _  T1 (mkF m 57 #[.val (.ref a1), .val (.double (FP.l2d u)), .second, .val (.double (FP.l2d vv)), .second, .val (.int (1 : Int32))] [])
      refine Go.st (fun t k => XS.goto X1.here hx rfl (pc0 := 57) (pc' := 149) rfl (hb hby d1_57) (by decide) (by decide) k) ?_
      show Go _ _ _ _ _ _ _  T1 (mkF m 149 #[.val (.ref a1), .val (.double (FP.l2d u)), .second, .val (.double (FP.l2d vv)), .second, .val (.int (1 : Int32))] [])
      refine Go.st (fun t k => XS.iload X1.here hx rfl (hb hby d1_149) rfl  k) ?_
      show Go _ _ _ _ _ _ _  T1 (mkF m 151 #[.val (.ref a1), .val (.double (FP.l2d u)), .second, .val (.double (FP.l2d vv)), .second, .val (.int (1 : Int32))] [(.int (1 : Int32))])
      refine Go.retN X1 hlk hx (t := .boolean) (z' := (1 : Int32)) Bd.returns (by simp) (hb hby d1_151) (by decide) (by decide) rfl ?_
      show Q_rmS Z _ _ _ _ h0 n0 _ T1.heap _
      rw [e1q]
      exact ⟨by simp [holdF, hk, c47_2], N1, rfl⟩
    · refine Go.st (fun t k => XS.ifYes X1.here hx rfl (pc0 := 47) (pc' := 54) rfl (hb hby d1_47) rfl ((if0 _ _).trans (flt c47_2).2.1) (by decide) (by decide) k) ?_
      show Go _ _ _ _ _ _ _  T1 (mkF m 54 #[.val (.ref a1), .val (.double (FP.l2d u)), .second, .val (.double (FP.l2d vv)), .second, .unset] [])
      refine Go.st (fun t k => XS.iconst X1.here hx rfl (hb hby d1_54) k) ?_
      show Go _ _ _ _ _ _ _  T1 (mkF m 55 #[.val (.ref a1), .val (.double (FP.l2d u)), .second, .val (.double (FP.l2d vv)), .second, .unset] [(.int (0 : Int32))])
      refine Go.st (fun t k => XS.istore X1.here hx rfl (hb hby d1_55) rfl (l' := #[.val (.ref a1), .val (.double (FP.l2d u)), .second, .val (.double (FP.l2d vv)), .second, .val (.int (0 : Int32))]) rfl k) ?_
      show Go _ _ _ _ _ _ _  T1 (mkF m 57 #[.val (.ref a1), .val (.double (FP.l2d u)), .second, .val (.double (FP.l2d vv)), .second, .val (.int (0 : Int32))] [])
      refine Go.st (fun t k => XS.goto X1.here hx rfl (pc0 := 57) (pc' := 149) rfl (hb hby d1_57) (by decide) (by decide) k) ?_
      show Go _ _ _ _ _ _ _  T1 (mkF m 149 #[.val (.ref a1), .val (.double (FP.l2d u)), .second, .val (.double (FP.l2d vv)), .second, .val (.int (0 : Int32))] [])
      refine Go.st (fun t k => XS.iload X1.here hx rfl (hb hby d1_149) rfl  k) ?_
      show Go _ _ _ _ _ _ _  T1 (mkF m 151 #[.val (.ref a1), .val (.double (FP.l2d u)), .second, .val (.double (FP.l2d vv)), .second, .val (.int (0 : Int32))] [(.int (0 : Int32))])
      refine Go.retN X1 hlk hx (t := .boolean) (z' := (0 : Int32)) Bd.returns (by simp) (hb hby d1_151) (by decide) (by decide) rfl ?_
      show Q_rmS Z _ _ _ _ h0 n0 _ T1.heap _
      rw [e1q]
      exact ⟨by simp [holdF, hk, c47_2], N1, rfl⟩
  · rw [hk]
    show Go _ _ _ _ _ _ _  T1 (mkF m 4 #[.val (.ref a1), .val (.double (FP.l2d u)), .second, .val (.double (FP.l2d vv)), .second, .unset] [(.int (1 : Int32))])
    refine Go.st (fun t k => XS.tswIn X1.here hx rfl (pc0 := 4) (pc' := 60) (o := 56) rfl (hb hby d1_4) rfl (by decide) (by decide) (by decide) (by decide) k) ?_
    show Go _ _ _ _ _ _ _  T1 (mkF m 60 #[.val (.ref a1), .val (.double (FP.l2d u)), .second, .val (.double (FP.l2d vv)), .second, .unset] [])
    refine Go.st (fun t k => XS.dloadN X1.here hx rfl (hb hby d1_60) rfl k) ?_
    show Go _ _ _ _ _ _ _  T1 (mkF m 61 #[.val (.ref a1), .val (.double (FP.l2d u)), .second, .val (.double (FP.l2d vv)), .second, .unset] [(.double (FP.l2d u))])
    refine Go.st (fun t k => XS.dloadN X1.here hx rfl (hb hby d1_61) rfl k) ?_
    show Go _ _ _ _ _ _ _  T1 (mkF m 62 #[.val (.ref a1), .val (.double (FP.l2d u)), .second, .val (.double (FP.l2d vv)), .second, .unset] [(.double (FP.l2d vv)), (.double (FP.l2d u))])
    refine Go.st (fun t k => XS.dcmpS X1.here hx rfl (hb hby d1_62) rfl rfl k) ?_
    show Go _ _ _ _ _ _ _  T1 (mkF m 63 #[.val (.ref a1), .val (.double (FP.l2d u)), .second, .val (.double (FP.l2d vv)), .second, .unset] [(.int (cmpValue (FP.dcmp (FP.l2d u) (FP.l2d vv)) .g))])
    rw [dcmpV_w hu hv]
    show Go _ _ _ _ _ _ _  T1 (mkF m 63 #[.val (.ref a1), .val (.double (FP.l2d u)), .second, .val (.double (FP.l2d vv)), .second, .unset] [(.int (lcmpW u vv))])
    by_cases c63_3 : (0 : Int32) < (lcmpW u vv)
    · refine Go.st (fun t k => XS.ifYes X1.here hx rfl (pc0 := 63) (pc' := 70) rfl (hb hby d1_63) rfl ((if0 _ _).trans (tlt c63_3).2.2.1) (by decide) (by decide) k) ?_
      show Go _ _ _ _ _ _ _  T1 (mkF m 70 #[.val (.ref a1), .val (.double (FP.l2d u)), .second, .val (.double (FP.l2d vv)), .second, .unset] [])
      refine Go.st (fun t k => XS.iconst X1.here hx rfl (hb hby d1_70) k) ?_
      show Go _ _ _ _ _ _ _  T1 (mkF m 71 #[.val (.ref a1), .val (.double (FP.l2d u)), .second, .val (.double (FP.l2d vv)), .second, .unset] [(.int (0 : Int32))])
      refine Go.st (fun t k => XS.istore X1.here hx rfl (hb hby d1_71) rfl (l' := #[.val (.ref a1), .val (.double (FP.l2d u)), .second, .val (.double (FP.l2d vv)), .second, .val (.int (0 : Int32))]) rfl k) ?_
      show Go _ _ _ _ _ _ _  T1 (mkF m 73 #[.val (.ref a1), .val (.double (FP.l2d u)), .second, .val (.double (FP.l2d vv)), .second, .val (.int (0 : Int32))] [])
      refine Go.st (fun t k => XS.goto X1.here hx rfl (pc0 := 73) (pc' := 149) rfl (hb hby d1_73) (by decide) (by decide) k) ?_
      show Go _ _ _ _ _ _ _  T1 (mkF m 149 #[.val (.ref a1), .val (.double (FP.l2d u)), .second, .val (.double (FP.l2d vv)), .second, .val (.int (0 : Int32))] [])
      refine Go.st (fun t k => XS.iload X1.here hx rfl (hb hby d1_149) rfl  k) ?_
      show Go _ _ _ _ _ _ _  T1 (mkF m 151 #[.val (.ref a1), .val (.double (FP.l2d u)), .second, .val (.double (FP.l2d vv)), .second, .val (.int (0 : Int32))] [(.int (0 : Int32))])
      refine Go.retN X1 hlk hx (t := .boolean) (z' := (0 : Int32)) Bd.returns (by simp) (hb hby d1_151) (by decide) (by decide) rfl ?_
      show Q_rmS Z _ _ _ _ h0 n0 _ T1.heap _
      rw [e1q]
      exact ⟨by simp [holdF, hk, c63_3], N1, rfl⟩
    · refine Go.st (fun t k => XS.ifNo X1.here hx rfl (hb hby d1_63) rfl ((if0 _ _).trans (flt c63_3).2.2.1) k) ?_
      show Go _ _ _ _ _ _ _  T1 (mkF m 66 #[.val (.ref a1), .val (.double (FP.l2d u)), .second, .val (.double (FP.l2d vv)), .second, .unset] [])
      refine Go.st (fun t k => XS.iconst X1.here hx rfl (hb hby d1_66) k) ?_
      show Go _ _ _ _ _ _ _  T1 (mkF m 67 #[.val (.ref a1), .val (.double (FP.l2d u)), .second, .val (.double (FP.l2d vv)), .second, .unset] [(.int (1 : Int32))])
      refine Go.st (fun t k => XS.goto X1.here hx rfl (pc0 := 67) (pc' := 71) rfl (hb hby d1_67) (by decide) (by decide) k) ?_
      show Go _ _ _ _ _ _ _  T1 (mkF m 71 #[.val (.ref a1), .val (.double (FP.l2d u)), .second, .val (.double (FP.l2d vv)), .second, .unset] [(.int (1 : Int32))])
      refine Go.st (fun t k => XS.istore X1.here hx rfl (hb hby d1_71) rfl (l' := #[.val (.ref a1), .val (.double (FP.l2d u)), .second, .val (.double (FP.l2d vv)), .second, .val (.int (1 : Int32))]) rfl k) ?_
      show Go _ _ _ _ _ _ _  T1 (mkF m 73 #[.val (.ref a1), .val (.double (FP.l2d u)), .second, .val (.double (FP.l2d vv)), .second, .val (.int (1 : Int32))] [])
      refine Go.st (fun t k => XS.goto X1.here hx rfl (pc0 := 73) (pc' := 149) rfl (hb hby d1_73) (by decide) (by decide) k) ?_
      show Go _ _ _ _ _ _ _  T1 (mkF m 149 #[.val (.ref a1), .val (.double (FP.l2d u)), .second, .val (.double (FP.l2d vv)), .second, .val (.int (1 : Int32))] [])
      refine Go.st (fun t k => XS.iload X1.here hx rfl (hb hby d1_149) rfl  k) ?_
      show Go _ _ _ _ _ _ _  T1 (mkF m 151 #[.val (.ref a1), .val (.double (FP.l2d u)), .second, .val (.double (FP.l2d vv)), .second, .val (.int (1 : Int32))] [(.int (1 : Int32))])
      refine Go.retN X1 hlk hx (t := .boolean) (z' := (1 : Int32)) Bd.returns (by simp) (hb hby d1_151) (by decide) (by decide) rfl ?_
      show Q_rmS Z _ _ _ _ h0 n0 _ T1.heap _
      rw [e1q]
      exact ⟨by simp [holdF, hk, c63_3], N1, rfl⟩
  · rw [hk]
    show Go _ _ _ _ _ _ _  T1 (mkF m 4 #[.val (.ref a1), .val (.double (FP.l2d u)), .second, .val (.double (FP.l2d vv)), .second, .unset] [(.int (2 : Int32))])
    refine Go.st (fun t k => XS.tswIn X1.here hx rfl (pc0 := 4) (pc' := 76) (o := 72) rfl (hb hby d1_4) rfl (by decide) (by decide) (by decide) (by decide) k) ?_
    show Go _ _ _ _ _ _ _  T1 (mkF m 76 #[.val (.ref a1), .val (.double (FP.l2d u)), .second, .val (.double (FP.l2d vv)), .second, .unset] [])
    refine Go.st (fun t k => XS.dloadN X1.here hx rfl (hb hby d1_76) rfl k) ?_
    show Go _ _ _ _ _ _ _  T1 (mkF m 77 #[.val (.ref a1), .val (.double (FP.l2d u)), .second, .val (.double (FP.l2d vv)), .second, .unset] [(.double (FP.l2d u))])
    refine Go.st (fun t k => XS.dloadN X1.here hx rfl (hb hby d1_77) rfl k) ?_
    show Go _ _ _ _ _ _ _  T1 (mkF m 78 #[.val (.ref a1), .val (.double (FP.l2d u)), .second, .val (.double (FP.l2d vv)), .second, .unset] [(.double (FP.l2d vv)), (.double (FP.l2d u))])
    refine Go.st (fun t k => XS.dcmpS X1.here hx rfl (hb hby d1_78) rfl rfl k) ?_
    show Go _ _ _ _ _ _ _  T1 (mkF m 79 #[.val (.ref a1), .val (.double (FP.l2d u)), .second, .val (.double (FP.l2d vv)), .second, .unset] [(.int (cmpValue (FP.dcmp (FP.l2d u) (FP.l2d vv)) .l))])
    rw [dcmpV_w hu hv]
    show Go _ _ _ _ _ _ _  T1 (mkF m 79 #[.val (.ref a1), .val (.double (FP.l2d u)), .second, .val (.double (FP.l2d vv)), .second, .unset] [(.int (lcmpW u vv))])
    by_cases c79_4 : (0 : Int32) < (lcmpW u vv)
    · refine Go.st (fun t k => XS.ifNo X1.here hx rfl (hb hby d1_79) rfl ((if0 _ _).trans (tlt c79_4).2.2.2) k) ?_
      show Go _ _ _ _ _ _ _  T1 (mkF m 82 #[.val (.ref a1), .val (.double (FP.l2d u)), .second, .val (.double (FP.l2d vv)), .second, .unset] [])
      refine Go.st (fun t k => XS.iconst X1.here hx rfl (hb hby d1_82) k) ?_
      show Go _ _ _ _ _ _ _  T1 (mkF m 83 #[.val (.ref a1), .val (.double (FP.l2d u)), .second, .val (.double (FP.l2d vv)), .second, .unset] [(.int (1 : Int32))])
      refine Go.st (fun t k => XS.goto X1.here hx rfl (pc0 := 83) (pc' := 87) rfl (hb hby d1_83) (by decide) (by decide) k) ?_
      show Go _ _ _ _ _ _ _  T1 (mkF m 87 #[.val (.ref a1), .val (.double (FP.l2d u)), .second, .val (.double (FP.l2d vv)), .second, .unset] [(.int (1 : Int32))])
      refine Go.st (fun t k => XS.istore X1.here hx rfl (hb hby d1_87) rfl (l' := #[.val (.ref a1), .val (.double (FP.l2d u)), .second, .val (.double (FP.l2d vv)), .second, .val (.int (1 : Int32))]) rfl k) ?_
      show Go _ _ _ _ _ _ _  T1 (mkF m 89 #[.val (.ref a1), .val (.double (FP.l2d u)), .second, .val (.double (FP.l2d vv)), .second, .val (.int (1 : Int32))] [])
      refine Go.st (fun t k => XS.goto X1.here hx rfl (pc0 := 89) (pc' := 149) rfl (hb hby d1_89) (by decide) (by decide) k) ?_
      show Go _ _ _ _ _ _ _  T1 (mkF m 149 #[.val (.ref a1), .val (.double (FP.l2d u)), .second, .val (.double (FP.l2d vv)), .second, .val (.int (1 : Int32))] [])
      refine Go.st (fun t k => XS.iload X1.here hx rfl (hb hby d1_149) rfl  k) ?_
      show Go _ _ _ _ _ _ _  T1 (mkF m 151 #[.val (.ref a1), .val (.double (FP.l2d u)), .second, .val (.double (FP.l2d vv)), .second, .val (.int (1 : Int32))] [(.int (1 : Int32))])
      refine Go.retN X1 hlk hx (t := .boolean) (z' := (1 : Int32)) Bd.returns (by simp) (hb hby d1_151) (by decide) (by decide) rfl ?_
      show Q_rmS Z _ _ _ _ h0 n0 _ T1.heap _
      rw [e1q]
      exact ⟨by simp [holdF, hk, c79_4], N1, rfl⟩
    · refine Go.st (fun t k => XS.ifYes X1.here hx rfl (pc0 := 79) (pc' := 86) rfl (hb hby d1_79) rfl ((if0 _ _).trans (flt c79_4).2.2.2) (by decide) (by decide) k) ?_
      show Go _ _ _ _ _ _ _  T1 (mkF m 86 #[.val (.ref a1), .val (.double (FP.l2d u)), .second, .val (.double (FP.l2d vv)), .second, .unset] [])
      refine Go.st (fun t k => XS.iconst X1.here hx rfl (hb hby d1_86) k) ?_
      show Go _ _ _ _ _ _ _  T1 (mkF m 87 #[.val (.ref a1), .val (.double (FP.l2d u)), .second, .val (.double (FP.l2d vv)), .second, .unset] [(.int (0 : Int32))])
      refine Go.st (fun t k => XS.istore X1.here hx rfl (hb hby d1_87) rfl (l' := #[.val (.ref a1), .val (.double (FP.l2d u)), .second, .val (.double (FP.l2d vv)), .second, .val (.int (0 : Int32))]) rfl k) ?_
      show Go _ _ _ _ _ _ _  T1 (mkF m 89 #[.val (.ref a1), .val (.double (FP.l2d u)), .second, .val (.double (FP.l2d vv)), .second, .val (.int (0 : Int32))] [])
      refine Go.st (fun t k => XS.goto X1.here hx rfl (pc0 := 89) (pc' := 149) rfl (hb hby d1_89) (by decide) (by decide) k) ?_
      show Go _ _ _ _ _ _ _  T1 (mkF m 149 #[.val (.ref a1), .val (.double (FP.l2d u)), .second, .val (.double (FP.l2d vv)), .second, .val (.int (0 : Int32))] [])
      refine Go.st (fun t k => XS.iload X1.here hx rfl (hb hby d1_149) rfl  k) ?_
      show Go _ _ _ _ _ _ _  T1 (mkF m 151 #[.val (.ref a1), .val (.double (FP.l2d u)), .second, .val (.double (FP.l2d vv)), .second, .val (.int (0 : Int32))] [(.int (0 : Int32))])
      refine Go.retN X1 hlk hx (t := .boolean) (z' := (0 : Int32)) Bd.returns (by simp) (hb hby d1_151) (by decide) (by decide) rfl ?_
      show Q_rmS Z _ _ _ _ h0 n0 _ T1.heap _
      rw [e1q]
      exact ⟨by simp [holdF, hk, c79_4], N1, rfl⟩
  · rw [hk]
    show Go _ _ _ _ _ _ _  T1 (mkF m 4 #[.val (.ref a1), .val (.double (FP.l2d u)), .second, .val (.double (FP.l2d vv)), .second, .unset] [(.int (3 : Int32))])
    refine Go.st (fun t k => XS.tswIn X1.here hx rfl (pc0 := 4) (pc' := 92) (o := 88) rfl (hb hby d1_4) rfl (by decide) (by decide) (by decide) (by decide) k) ?_
    show Go _ _ _ _ _ _ _  T1 (mkF m 92 #[.val (.ref a1), .val (.double (FP.l2d u)), .second, .val (.double (FP.l2d vv)), .second, .unset] [])
    refine Go.st (fun t k => XS.dloadN X1.here hx rfl (hb hby d1_92) rfl k) ?_
    show Go _ _ _ _ _ _ _  T1 (mkF m 93 #[.val (.ref a1), .val (.double (FP.l2d u)), .second, .val (.double (FP.l2d vv)), .second, .unset] [(.double (FP.l2d u))])
    refine Go.st (fun t k => XS.dloadN X1.here hx rfl (hb hby d1_93) rfl k) ?_
    show Go _ _ _ _ _ _ _  T1 (mkF m 94 #[.val (.ref a1), .val (.double (FP.l2d u)), .second, .val (.double (FP.l2d vv)), .second, .unset] [(.double (FP.l2d vv)), (.double (FP.l2d u))])
    refine Go.st (fun t k => XS.dcmpS X1.here hx rfl (hb hby d1_94) rfl rfl k) ?_
    show Go _ _ _ _ _ _ _  T1 (mkF m 95 #[.val (.ref a1), .val (.double (FP.l2d u)), .second, .val (.double (FP.l2d vv)), .second, .unset] [(.int (cmpValue (FP.dcmp (FP.l2d u) (FP.l2d vv)) .l))])
    rw [dcmpV_w hu hv]
    show Go _ _ _ _ _ _ _  T1 (mkF m 95 #[.val (.ref a1), .val (.double (FP.l2d u)), .second, .val (.double (FP.l2d vv)), .second, .unset] [(.int (lcmpW u vv))])
    by_cases c95_5 : (lcmpW u vv) < (0 : Int32)
    · refine Go.st (fun t k => XS.ifYes X1.here hx rfl (pc0 := 95) (pc' := 102) rfl (hb hby d1_95) rfl ((if0 _ _).trans (tlt c95_5).1) (by decide) (by decide) k) ?_
      show Go _ _ _ _ _ _ _  T1 (mkF m 102 #[.val (.ref a1), .val (.double (FP.l2d u)), .second, .val (.double (FP.l2d vv)), .second, .unset] [])
      refine Go.st (fun t k => XS.iconst X1.here hx rfl (hb hby d1_102) k) ?_
      show Go _ _ _ _ _ _ _  T1 (mkF m 103 #[.val (.ref a1), .val (.double (FP.l2d u)), .second, .val (.double (FP.l2d vv)), .second, .unset] [(.int (0 : Int32))])
      refine Go.st (fun t k => XS.istore X1.here hx rfl (hb hby d1_103) rfl (l' := #[.val (.ref a1), .val (.double (FP.l2d u)), .second, .val (.double (FP.l2d vv)), .second, .val (.int (0 : Int32))]) rfl k) ?_
      show Go _ _ _ _ _ _ _  T1 (mkF m 105 #[.val (.ref a1), .val (.double (FP.l2d u)), .second, .val (.double (FP.l2d vv)), .second, .val (.int (0 : Int32))] [])
      refine Go.st (fun t k => XS.goto X1.here hx rfl (pc0 := 105) (pc' := 149) rfl (hb hby d1_105) (by decide) (by decide) k) ?_
      show Go _ _ _ _ _ _ _  T1 (mkF m 149 #[.val (.ref a1), .val (.double (FP.l2d u)), .second, .val (.double (FP.l2d vv)), .second, .val (.int (0 : Int32))] [])
      refine Go.st (fun t k => XS.iload X1.here hx rfl (hb hby d1_149) rfl  k) ?_
      show Go _ _ _ _ _ _ _  T1 (mkF m 151 #[.val (.ref a1), .val (.double (FP.l2d u)), .second, .val (.double (FP.l2d vv)), .second, .val (.int (0 : Int32))] [(.int (0 : Int32))])
      refine Go.retN X1 hlk hx (t := .boolean) (z' := (0 : Int32)) Bd.returns (by simp) (hb hby d1_151) (by decide) (by decide) rfl ?_
      show Q_rmS Z _ _ _ _ h0 n0 _ T1.heap _
      rw [e1q]
      exact ⟨by simp [holdF, hk, c95_5], N1, rfl⟩
    · refine Go.st (fun t k => XS.ifNo X1.here hx rfl (hb hby d1_95) rfl ((if0 _ _).trans (flt c95_5).1) k) ?_
      show Go _ _ _ _ _ _ _  T1 (mkF m 98 #[.val (.ref a1), .val (.double (FP.l2d u)), .second, .val (.double (FP.l2d vv)), .second, .unset] [])
      refine Go.st (fun t k => XS.iconst X1.here hx rfl (hb hby d1_98) k) ?_
      show Go _ _ _ _ _ _ _  T1 (mkF m 99 #[.val (.ref a1), .val (.double (FP.l2d u)), .second, .val (.double (FP.l2d vv)), .second, .unset] [(.int (1 : Int32))])
      refine Go.st (fun t k => XS.goto X1.here hx rfl (pc0 := 99) (pc' := 103) rfl (hb hby d1_99) (by decide) (by decide) k) ?_
      show Go _ _ _ _ _ _ _  T1 (mkF m 103 #[.val (.ref a1), .val (.double (FP.l2d u)), .second, .val (.double (FP.l2d vv)), .second, .unset] [(.int (1 : Int32))])
      refine Go.st (fun t k => XS.istore X1.here hx rfl (hb hby d1_103) rfl (l' := #[.val (.ref a1), .val (.double (FP.l2d u)), .second, .val (.double (FP.l2d vv)), .second, .val (.int (1 : Int32))]) rfl k) ?_
      show Go _ _ _ _ _ _ _  T1 (mkF m 105 #[.val (.ref a1), .val (.double (FP.l2d u)), .second, .val (.double (FP.l2d vv)), .second, .val (.int (1 : Int32))] [])
      refine Go.st (fun t k => XS.goto X1.here hx rfl (pc0 := 105) (pc' := 149) rfl (hb hby d1_105) (by decide) (by decide) k) ?_
      show Go _ _ _ _ _ _ _  T1 (mkF m 149 #[.val (.ref a1), .val (.double (FP.l2d u)), .second, .val (.double (FP.l2d vv)), .second, .val (.int (1 : Int32))] [])
      refine Go.st (fun t k => XS.iload X1.here hx rfl (hb hby d1_149) rfl  k) ?_
      show Go _ _ _ _ _ _ _  T1 (mkF m 151 #[.val (.ref a1), .val (.double (FP.l2d u)), .second, .val (.double (FP.l2d vv)), .second, .val (.int (1 : Int32))] [(.int (1 : Int32))])
      refine Go.retN X1 hlk hx (t := .boolean) (z' := (1 : Int32)) Bd.returns (by simp) (hb hby d1_151) (by decide) (by decide) rfl ?_
      show Q_rmS Z _ _ _ _ h0 n0 _ T1.heap _
      rw [e1q]
      exact ⟨by simp [holdF, hk, c95_5], N1, rfl⟩
  · rw [hk]
    show Go _ _ _ _ _ _ _  T1 (mkF m 4 #[.val (.ref a1), .val (.double (FP.l2d u)), .second, .val (.double (FP.l2d vv)), .second, .unset] [(.int (4 : Int32))])
    refine Go.st (fun t k => XS.tswIn X1.here hx rfl (pc0 := 4) (pc' := 108) (o := 104) rfl (hb hby d1_4) rfl (by decide) (by decide) (by decide) (by decide) k) ?_
    show Go _ _ _ _ _ _ _  T1 (mkF m 108 #[.val (.ref a1), .val (.double (FP.l2d u)), .second, .val (.double (FP.l2d vv)), .second, .unset] [])
    refine Go.st (fun t k => XS.dloadN X1.here hx rfl (hb hby d1_108) rfl k) ?_
    show Go _ _ _ _ _ _ _  T1 (mkF m 109 #[.val (.ref a1), .val (.double (FP.l2d u)), .second, .val (.double (FP.l2d vv)), .second, .unset] [(.double (FP.l2d u))])
    refine Go.st (fun t k => XS.dloadN X1.here hx rfl (hb hby d1_109) rfl k) ?_
    show Go _ _ _ _ _ _ _  T1 (mkF m 110 #[.val (.ref a1), .val (.double (FP.l2d u)), .second, .val (.double (FP.l2d vv)), .second, .unset] [(.double (FP.l2d vv)), (.double (FP.l2d u))])
    refine Go.st (fun t k => XS.dcmpS X1.here hx rfl (hb hby d1_110) rfl rfl k) ?_
    show Go _ _ _ _ _ _ _  T1 (mkF m 111 #[.val (.ref a1), .val (.double (FP.l2d u)), .second, .val (.double (FP.l2d vv)), .second, .unset] [(.int (cmpValue (FP.dcmp (FP.l2d u) (FP.l2d vv)) .l))])
    rw [dcmpV_w hu hv]
    show Go _ _ _ _ _ _ _  T1 (mkF m 111 #[.val (.ref a1), .val (.double (FP.l2d u)), .second, .val (.double (FP.l2d vv)), .second, .unset] [(.int (lcmpW u vv))])
    by_cases c111_6 : (lcmpW u vv) = (0 : Int32)
    · refine Go.st (fun t k => XS.ifNo X1.here hx rfl (hb hby d1_111) rfl ((if0 _ _).trans (teq c111_6).2) k) ?_
      show Go _ _ _ _ _ _ _  T1 (mkF m 114 #[.val (.ref a1), .val (.double (FP.l2d u)), .second, .val (.double (FP.l2d vv)), .second, .unset] [])
      refine Go.st (fun t k => XS.iconst X1.here hx rfl (hb hby d1_114) k) ?_
      show Go _ _ _ _ _ _ _  T1 (mkF m 115 #[.val (.ref a1), .val (.double (FP.l2d u)), .second, .val (.double (FP.l2d vv)), .second, .unset] [(.int (1 : Int32))])
      refine Go.st (fun t k => XS.goto X1.here hx rfl (pc0 := 115) (pc' := 119) rfl (hb hby d1_115) (by decide) (by decide) k) ?_
      show Go _ _ _ _ _ _ _  T1 (mkF m 119 #[.val (.ref a1), .val (.double (FP.l2d u)), .second, .val (.double (FP.l2d vv)), .second, .unset] [(.int (1 : Int32))])
      refine Go.st (fun t k => XS.istore X1.here hx rfl (hb hby d1_119) rfl (l' := #[.val (.ref a1), .val (.double (FP.l2d u)), .second, .val (.double (FP.l2d vv)), .second, .val (.int (1 : Int32))]) rfl k) ?_
      show Go _ _ _ _ _ _ _  T1 (mkF m 121 #[.val (.ref a1), .val (.double (FP.l2d u)), .second, .val (.double (FP.l2d vv)), .second, .val (.int (1 : Int32))] [])
      refine Go.st (fun t k => XS.goto X1.here hx rfl (pc0 := 121) (pc' := 149) rfl (hb hby d1_121) (by decide) (by decide) k) ?_
      show Go _ _ _ _ _ _ _  T1 (mkF m 149 #[.val (.ref a1), .val (.double (FP.l2d u)), .second, .val (.double (FP.l2d vv)), .second, .val (.int (1 : Int32))] [])
      refine Go.st (fun t k => XS.iload X1.here hx rfl (hb hby d1_149) rfl  k) ?_
      show Go _ _ _ _ _ _ _  T1 (mkF m 151 #[.val (.ref a1), .val (.double (FP.l2d u)), .second, .val (.double (FP.l2d vv)), .second, .val (.int (1 : Int32))] [(.int (1 : Int32))])
      refine Go.retN X1 hlk hx (t := .boolean) (z' := (1 : Int32)) Bd.returns (by simp) (hb hby d1_151) (by decide) (by decide) rfl ?_
      show Q_rmS Z _ _ _ _ h0 n0 _ T1.heap _
      rw [e1q]
      exact ⟨by simp [holdF, hk, c111_6], N1, rfl⟩
    · refine Go.st (fun t k => XS.ifYes X1.here hx rfl (pc0 := 111) (pc' := 118) rfl (hb hby d1_111) rfl ((if0 _ _).trans (feq c111_6).2) (by decide) (by decide) k) ?_
      show Go _ _ _ _ _ _ _  T1 (mkF m 118 #[.val (.ref a1), .val (.double (FP.l2d u)), .second, .val (.double (FP.l2d vv)), .second, .unset] [])
      refine Go.st (fun t k => XS.iconst X1.here hx rfl (hb hby d1_118) k) ?_
      show Go _ _ _ _ _ _ _  T1 (mkF m 119 #[.val (.ref a1), .val (.double (FP.l2d u)), .second, .val (.double (FP.l2d vv)), .second, .unset] [(.int (0 : Int32))])
      refine Go.st (fun t k => XS.istore X1.here hx rfl (hb hby d1_119) rfl (l' := #[.val (.ref a1), .val (.double (FP.l2d u)), .second, .val (.double (FP.l2d vv)), .second, .val (.int (0 : Int32))]) rfl k) ?_
      show Go _ _ _ _ _ _ _  T1 (mkF m 121 #[.val (.ref a1), .val (.double (FP.l2d u)), .second, .val (.double (FP.l2d vv)), .second, .val (.int (0 : Int32))] [])
      refine Go.st (fun t k => XS.goto X1.here hx rfl (pc0 := 121) (pc' := 149) rfl (hb hby d1_121) (by decide) (by decide) k) ?_
      show Go _ _ _ _ _ _ _  T1 (mkF m 149 #[.val (.ref a1), .val (.double (FP.l2d u)), .second, .val (.double (FP.l2d vv)), .second, .val (.int (0 : Int32))] [])
      refine Go.st (fun t k => XS.iload X1.here hx rfl (hb hby d1_149) rfl  k) ?_
      show Go _ _ _ _ _ _ _  T1 (mkF m 151 #[.val (.ref a1), .val (.double (FP.l2d u)), .second, .val (.double (FP.l2d vv)), .second, .val (.int (0 : Int32))] [(.int (0 : Int32))])
      refine Go.retN X1 hlk hx (t := .boolean) (z' := (0 : Int32)) Bd.returns (by simp) (hb hby d1_151) (by decide) (by decide) rfl ?_
      show Q_rmS Z _ _ _ _ h0 n0 _ T1.heap _
      rw [e1q]
      exact ⟨by simp [holdF, hk, c111_6], N1, rfl⟩
  · rw [hk]
    show Go _ _ _ _ _ _ _  T1 (mkF m 4 #[.val (.ref a1), .val (.double (FP.l2d u)), .second, .val (.double (FP.l2d vv)), .second, .unset] [(.int (5 : Int32))])
    refine Go.st (fun t k => XS.tswIn X1.here hx rfl (pc0 := 4) (pc' := 124) (o := 120) rfl (hb hby d1_4) rfl (by decide) (by decide) (by decide) (by decide) k) ?_
    show Go _ _ _ _ _ _ _  T1 (mkF m 124 #[.val (.ref a1), .val (.double (FP.l2d u)), .second, .val (.double (FP.l2d vv)), .second, .unset] [])
    refine Go.st (fun t k => XS.dloadN X1.here hx rfl (hb hby d1_124) rfl k) ?_
    show Go _ _ _ _ _ _ _  T1 (mkF m 125 #[.val (.ref a1), .val (.double (FP.l2d u)), .second, .val (.double (FP.l2d vv)), .second, .unset] [(.double (FP.l2d u))])
    refine Go.st (fun t k => XS.dloadN X1.here hx rfl (hb hby d1_125) rfl k) ?_
    show Go _ _ _ _ _ _ _  T1 (mkF m 126 #[.val (.ref a1), .val (.double (FP.l2d u)), .second, .val (.double (FP.l2d vv)), .second, .unset] [(.double (FP.l2d vv)), (.double (FP.l2d u))])
    refine Go.st (fun t k => XS.dcmpS X1.here hx rfl (hb hby d1_126) rfl rfl k) ?_
    show Go _ _ _ _ _ _ _  T1 (mkF m 127 #[.val (.ref a1), .val (.double (FP.l2d u)), .second, .val (.double (FP.l2d vv)), .second, .unset] [(.int (cmpValue (FP.dcmp (FP.l2d u) (FP.l2d vv)) .l))])
    rw [dcmpV_w hu hv]
    show Go _ _ _ _ _ _ _  T1 (mkF m 127 #[.val (.ref a1), .val (.double (FP.l2d u)), .second, .val (.double (FP.l2d vv)), .second, .unset] [(.int (lcmpW u vv))])
    by_cases c127_7 : (lcmpW u vv) = (0 : Int32)
    · refine Go.st (fun t k => XS.ifYes X1.here hx rfl (pc0 := 127) (pc' := 134) rfl (hb hby d1_127) rfl ((if0 _ _).trans (teq c127_7).1) (by decide) (by decide) k) ?_
      show Go _ _ _ _ _ _ _  T1 (mkF m 134 #[.val (.ref a1), .val (.double (FP.l2d u)), .second, .val (.double (FP.l2d vv)), .second, .unset] [])
      refine Go.st (fun t k => XS.iconst X1.here hx rfl (hb hby d1_134) k) ?_
      show Go _ _ _ _ _ _ _  T1 (mkF m 135 #[.val (.ref a1), .val (.double (FP.l2d u)), .second, .val (.double (FP.l2d vv)), .second, .unset] [(.int (0 : Int32))])
      refine Go.st (fun t k => XS.istore X1.here hx rfl (hb hby d1_135) rfl (l' := #[.val (.ref a1), .val (.double (FP.l2d u)), .second, .val (.double (FP.l2d vv)), .second, .val (.int (0 : Int32))]) rfl k) ?_
      show Go _ _ _ _ _ _ _  T1 (mkF m 137 #[.val (.ref a1), .val (.double (FP.l2d u)), .second, .val (.double (FP.l2d vv)), .second, .val (.int (0 : Int32))] [])
      refine Go.st (fun t k => XS.goto X1.here hx rfl (pc0 := 137) (pc' := 149) rfl (hb hby d1_137) (by decide) (by decide) k) ?_
      show Go _ _ _ _ _ _ _  T1 (mkF m 149 #[.val (.ref a1), .val (.double (FP.l2d u)), .second, .val (.double (FP.l2d vv)), .second, .val (.int (0 : Int32))] [])
      refine Go.st (fun t k => XS.iload X1.here hx rfl (hb hby d1_149) rfl  k) ?_
      show Go _ _ _ _ _ _ _  T1 (mkF m 151 #[.val (.ref a1), .val (.double (FP.l2d u)), .second, .val (.double (FP.l2d vv)), .second, .val (.int (0 : Int32))] [(.int (0 : Int32))])
      refine Go.retN X1 hlk hx (t := .boolean) (z' := (0 : Int32)) Bd.returns (by simp) (hb hby d1_151) (by decide) (by decide) rfl ?_
      show Q_rmS Z _ _ _ _ h0 n0 _ T1.heap _
      rw [e1q]
      exact ⟨by simp [holdF, hk, c127_7], N1, rfl⟩
    · refine Go.st (fun t k => XS.ifNo X1.here hx rfl (hb hby d1_127) rfl ((if0 _ _).trans (feq c127_7).1) k) ?_
      show Go _ _ _ _ _ _ _  T1 (mkF m 130 #[.val (.ref a1), .val (.double (FP.l2d u)), .second, .val (.double (FP.l2d vv)), .second, .unset] [])
      refine Go.st (fun t k => XS.iconst X1.here hx rfl (hb hby d1_130) k) ?_
      show Go _ _ _ _ _ _ _  T1 (mkF m 131 #[.val (.ref a1), .val (.double (FP.l2d u)), .second, .val (.double (FP.l2d vv)), .second, .unset] [(.int (1 : Int32))])
      refine Go.st (fun t k => XS.goto X1.here hx rfl (pc0 := 131) (pc' := 135) rfl (hb hby d1_131) (by decide) (by decide) k) ?_
      show Go _ _ _ _ _ _ _  T1 (mkF m 135 #[.val (.ref a1), .val (.double (FP.l2d u)), .second, .val (.double (FP.l2d vv)), .second, .unset] [(.int (1 : Int32))])
      refine Go.st (fun t k => XS.istore X1.here hx rfl (hb hby d1_135) rfl (l' := #[.val (.ref a1), .val (.double (FP.l2d u)), .second, .val (.double (FP.l2d vv)), .second, .val (.int (1 : Int32))]) rfl k) ?_
      show Go _ _ _ _ _ _ _  T1 (mkF m 137 #[.val (.ref a1), .val (.double (FP.l2d u)), .second, .val (.double (FP.l2d vv)), .second, .val (.int (1 : Int32))] [])
      refine Go.st (fun t k => XS.goto X1.here hx rfl (pc0 := 137) (pc' := 149) rfl (hb hby d1_137) (by decide) (by decide) k) ?_
      show Go _ _ _ _ _ _ _  T1 (mkF m 149 #[.val (.ref a1), .val (.double (FP.l2d u)), .second, .val (.double (FP.l2d vv)), .second, .val (.int (1 : Int32))] [])
      refine Go.st (fun t k => XS.iload X1.here hx rfl (hb hby d1_149) rfl  k) ?_
      show Go _ _ _ _ _ _ _  T1 (mkF m 151 #[.val (.ref a1), .val (.double (FP.l2d u)), .second, .val (.double (FP.l2d vv)), .second, .val (.int (1 : Int32))] [(.int (1 : Int32))])
      refine Go.retN X1 hlk hx (t := .boolean) (z' := (1 : Int32)) Bd.returns (by simp) (hb hby d1_151) (by decide) (by decide) rfl ?_
      show Q_rmS Z _ _ _ _ h0 n0 _ T1.heap _
      rw [e1q]
      exact ⟨by simp [holdF, hk, c127_7], N1, rfl⟩
def Q_rm0 (Z : State) (p1 : Int32) (p2 : Int32) (p3 : Int32) (p4 : Int32) (w_LESS : Addr) (w_LESS_OR_EQUAL : Addr) (w_GREATER : Addr) (w_GREATER_OR_EQUAL : Addr) (w_EQUAL : Addr) (w_NOT_EQUAL : Addr) (h0 : Heap) (n0 : Nat) (v : Option Value) (h : Heap) (L : List Loc) : Prop := v = some (.int (1 : Int32)) ∧ Fr n0 L
set_option maxRecDepth 65536 in
set_option maxHeartbeats 40000000 in
theorem rm0 (l : Launch) (Z : State) (a0 : Array Value) (hw : ∀ d ∈ tables_1, d.before a0 Z = true) (ws : List Jvm.Cond) (p1 : Int32) (p2 : Int32) (p3 : Int32) (p4 : Int32) (w_LESS : Addr) (w_LESS_OR_EQUAL : Addr) (w_GREATER : Addr) (w_GREATER_OR_EQUAL : Addr) (w_EQUAL : Addr) (w_NOT_EQUAL : Addr) (h0 : Heap) (n0 : Nat) (O : Old Z n0 h0) (S_LESS : Sta Z Z.heap "com/example/sancho/sancho/model/ScriptExpression$ComparisonOperator" "LESS" "Lcom/example/sancho/sancho/model/ScriptExpression$ComparisonOperator;" (.ref w_LESS)) (S_LESS_OR_EQUAL : Sta Z Z.heap "com/example/sancho/sancho/model/ScriptExpression$ComparisonOperator" "LESS_OR_EQUAL" "Lcom/example/sancho/sancho/model/ScriptExpression$ComparisonOperator;" (.ref w_LESS_OR_EQUAL)) (S_GREATER : Sta Z Z.heap "com/example/sancho/sancho/model/ScriptExpression$ComparisonOperator" "GREATER" "Lcom/example/sancho/sancho/model/ScriptExpression$ComparisonOperator;" (.ref w_GREATER)) (S_GREATER_OR_EQUAL : Sta Z Z.heap "com/example/sancho/sancho/model/ScriptExpression$ComparisonOperator" "GREATER_OR_EQUAL" "Lcom/example/sancho/sancho/model/ScriptExpression$ComparisonOperator;" (.ref w_GREATER_OR_EQUAL)) (S_EQUAL : Sta Z Z.heap "com/example/sancho/sancho/model/ScriptExpression$ComparisonOperator" "EQUAL" "Lcom/example/sancho/sancho/model/ScriptExpression$ComparisonOperator;" (.ref w_EQUAL)) (S_NOT_EQUAL : Sta Z Z.heap "com/example/sancho/sancho/model/ScriptExpression$ComparisonOperator" "NOT_EQUAL" "Lcom/example/sancho/sancho/model/ScriptExpression$ComparisonOperator;" (.ref w_NOT_EQUAL)) (E_LESS : Exa Z Z.heap w_LESS "com/example/sancho/sancho/model/ScriptExpression$ComparisonOperator") (E_LESS_OR_EQUAL : Exa Z Z.heap w_LESS_OR_EQUAL "com/example/sancho/sancho/model/ScriptExpression$ComparisonOperator") (E_GREATER : Exa Z Z.heap w_GREATER "com/example/sancho/sancho/model/ScriptExpression$ComparisonOperator") (E_GREATER_OR_EQUAL : Exa Z Z.heap w_GREATER_OR_EQUAL "com/example/sancho/sancho/model/ScriptExpression$ComparisonOperator") (E_EQUAL : Exa Z Z.heap w_EQUAL "com/example/sancho/sancho/model/ScriptExpression$ComparisonOperator") (E_NOT_EQUAL : Exa Z Z.heap w_NOT_EQUAL "com/example/sancho/sancho/model/ScriptExpression$ComparisonOperator") (O_LESS : Fld Z Z.heap w_LESS "java/lang/Enum" "ordinal" "I" (.int 0)) (O_LESS_OR_EQUAL : Fld Z Z.heap w_LESS_OR_EQUAL "java/lang/Enum" "ordinal" "I" (.int 1)) (O_GREATER : Fld Z Z.heap w_GREATER "java/lang/Enum" "ordinal" "I" (.int 2)) (O_GREATER_OR_EQUAL : Fld Z Z.heap w_GREATER_OR_EQUAL "java/lang/Enum" "ordinal" "I" (.int 3)) (O_EQUAL : Fld Z Z.heap w_EQUAL "java/lang/Enum" "ordinal" "I" (.int 4)) (O_NOT_EQUAL : Fld Z Z.heap w_NOT_EQUAL "java/lang/Enum" "ordinal" "I" (.int 5)) :
    MetFree l x (head1 (Jvm.Cond.code x code maxLocals ret :: ws) room_1) (fun a U => a = #[(.int p1), (.int p2), (.int p3), (.int p4)] ∧ Z.Warmed39 U.vm ∧ U.heap = h0) (fun _ _ _ _ _ => True) (fun _ U o U' => ∃ v L, o = .returned v ∧ Q_rm0 Z p1 p2 p3 p4 w_LESS w_LESS_OR_EQUAL w_GREATER w_GREATER_OR_EQUAL w_EQUAL w_NOT_EQUAL h0 n0 v U'.heap L ∧ FrameEnd U o U' L room_1.cells room_1.slots) := by
  refine MetFree.of_bodySF (plainFor_of_name pn_0) hisR ?_
  intro p e s m args below meth c s₁ Bd hml0 hP hK
  obtain ⟨rfl, hZ, hh⟩ := hP
  have hx := Bd.exec
  have hby := Bd.bytes
  have hml : c.maxLocals = 18 := hml0
  have hown : s.vm.findClass "com/example/sancho/sancho/model/ComparisonOperatorHoldsPinLaw" = some m.cls := findClass_of_methodNamed Bd.named
  have hnm := (name_of_methodNamed Bd.named Bd.method).1
  have hlk : meth.locks = false := BodyLoose.notSynchronized Bd
  have X0 : Stand p l e room_1 s m #[(.int p1), (.int p2), (.int p3), (.int p4)] below meth c s₁ [] 0 0 := Stand.of_body Bd
  have e0 : s₁.heap = h0 := by rw [← hh, Bd.state]; rfl
  have N0 := Fr.nil n0
  show Go p e below s room_1.cells room_1.slots (Q_rm0 Z p1 p2 p3 p4 w_LESS w_LESS_OR_EQUAL w_GREATER w_GREATER_OR_EQUAL w_EQUAL w_NOT_EQUAL h0 n0) s₁ (entryFrame m #[(.int p1), (.int p2), (.int p3), (.int p4)] maxLocals)
  refine Go.eq (ef_rm0 m p1 p2 p3 p4) ?_
  show Go _ _ _ _ _ _ _  s₁ (mkF m 0 #[.val (.int p1), .val (.int p2), .val (.int p3), .val (.int p4), .unset, .unset, .unset, .unset, .unset, .unset, .unset, .unset, .unset, .unset, .unset, .unset, .unset, .unset] [])
  refine Go.st (fun t k => XS.iloadN X0.here hx rfl (hb hby at_0) rfl  k) ?_
  show Go _ _ _ _ _ _ _  s₁ (mkF m 1 #[.val (.int p1), .val (.int p2), .val (.int p3), .val (.int p4), .unset, .unset, .unset, .unset, .unset, .unset, .unset, .unset, .unset, .unset, .unset, .unset, .unset, .unset] [(.int p1)])
  refine Go.st (X0.ldcInt hx hown (mvT hZ (hw _ (List.mem_of_getElem? (i := 0) rfl))) (g := (mkF m 1 #[.val (.int p1), .val (.int p2), .val (.int p3), .val (.int p4), .unset, .unset, .unset, .unset, .unset, .unset, .unset, .unset, .unset, .unset, .unset, .unset, .unset, .unset] [(.int p1)])) rfl (hb hby at_1)) ?_
  show Go _ _ _ _ _ _ _  s₁ (mkF m 3 #[.val (.int p1), .val (.int p2), .val (.int p3), .val (.int p4), .unset, .unset, .unset, .unset, .unset, .unset, .unset, .unset, .unset, .unset, .unset, .unset, .unset, .unset] [(.int (2147483647 : Int32)), (.int p1)])
  refine Go.st (fun t k => XS.iand X0.here hx rfl (hb hby at_3) rfl k) ?_
  show Go _ _ _ _ _ _ _  s₁ (mkF m 4 #[.val (.int p1), .val (.int p2), .val (.int p3), .val (.int p4), .unset, .unset, .unset, .unset, .unset, .unset, .unset, .unset, .unset, .unset, .unset, .unset, .unset, .unset] [(.int (p1 &&& (2147483647 : Int32)))])
  refine Go.st (fun t k => XS.bipush X0.here hx rfl (hb hby at_4) k) ?_
  show Go _ _ _ _ _ _ _  s₁ (mkF m 6 #[.val (.int p1), .val (.int p2), .val (.int p3), .val (.int p4), .unset, .unset, .unset, .unset, .unset, .unset, .unset, .unset, .unset, .unset, .unset, .unset, .unset, .unset] [(.int (6 : Int32)), (.int (p1 &&& (2147483647 : Int32)))])
  refine Go.st (fun t k => Jvm.RoadKit.iremM X0 hx rfl (hb hby at_6) rfl (by decide) k) ?_
  show Go _ _ _ _ _ _ _  s₁ (mkF m 7 #[.val (.int p1), .val (.int p2), .val (.int p3), .val (.int p4), .unset, .unset, .unset, .unset, .unset, .unset, .unset, .unset, .unset, .unset, .unset, .unset, .unset, .unset] [(.int ((p1 &&& (2147483647 : Int32)) % (6 : Int32)))])
  refine Go.st (fun t k => XS.istore X0.here hx rfl (hb hby at_7) rfl (l' := #[.val (.int p1), .val (.int p2), .val (.int p3), .val (.int p4), .val (.int ((p1 &&& (2147483647 : Int32)) % (6 : Int32))), .unset, .unset, .unset, .unset, .unset, .unset, .unset, .unset, .unset, .unset, .unset, .unset, .unset]) rfl k) ?_
  show Go _ _ _ _ _ _ _  s₁ (mkF m 9 #[.val (.int p1), .val (.int p2), .val (.int p3), .val (.int p4), .val (.int ((p1 &&& (2147483647 : Int32)) % (6 : Int32))), .unset, .unset, .unset, .unset, .unset, .unset, .unset, .unset, .unset, .unset, .unset, .unset, .unset] [])
  refine Go.st (fun t k => XS.iloadN X0.here hx rfl (hb hby at_9) rfl  k) ?_
  show Go _ _ _ _ _ _ _  s₁ (mkF m 10 #[.val (.int p1), .val (.int p2), .val (.int p3), .val (.int p4), .val (.int ((p1 &&& (2147483647 : Int32)) % (6 : Int32))), .unset, .unset, .unset, .unset, .unset, .unset, .unset, .unset, .unset, .unset, .unset, .unset, .unset] [(.int p4)])
  refine Go.st (fun t k => XS.iconst X0.here hx rfl (hb hby at_10) k) ?_
  show Go _ _ _ _ _ _ _  s₁ (mkF m 11 #[.val (.int p1), .val (.int p2), .val (.int p3), .val (.int p4), .val (.int ((p1 &&& (2147483647 : Int32)) % (6 : Int32))), .unset, .unset, .unset, .unset, .unset, .unset, .unset, .unset, .unset, .unset, .unset, .unset, .unset] [(.int (3 : Int32)), (.int p4)])
  refine Go.st (fun t k => XS.iand X0.here hx rfl (hb hby at_11) rfl k) ?_
  show Go _ _ _ _ _ _ _  s₁ (mkF m 12 #[.val (.int p1), .val (.int p2), .val (.int p3), .val (.int p4), .val (.int ((p1 &&& (2147483647 : Int32)) % (6 : Int32))), .unset, .unset, .unset, .unset, .unset, .unset, .unset, .unset, .unset, .unset, .unset, .unset, .unset] [(.int (p4 &&& (3 : Int32)))])
  refine Go.st (fun t k => XS.istore X0.here hx rfl (hb hby at_12) rfl (l' := #[.val (.int p1), .val (.int p2), .val (.int p3), .val (.int p4), .val (.int ((p1 &&& (2147483647 : Int32)) % (6 : Int32))), .val (.int (p4 &&& (3 : Int32))), .unset, .unset, .unset, .unset, .unset, .unset, .unset, .unset, .unset, .unset, .unset, .unset]) rfl k) ?_
  show Go _ _ _ _ _ _ _  s₁ (mkF m 14 #[.val (.int p1), .val (.int p2), .val (.int p3), .val (.int p4), .val (.int ((p1 &&& (2147483647 : Int32)) % (6 : Int32))), .val (.int (p4 &&& (3 : Int32))), .unset, .unset, .unset, .unset, .unset, .unset, .unset, .unset, .unset, .unset, .unset, .unset] [])
  refine Go.st (fun t k => XS.iloadN X0.here hx rfl (hb hby at_14) rfl  k) ?_
  show Go _ _ _ _ _ _ _  s₁ (mkF m 15 #[.val (.int p1), .val (.int p2), .val (.int p3), .val (.int p4), .val (.int ((p1 &&& (2147483647 : Int32)) % (6 : Int32))), .val (.int (p4 &&& (3 : Int32))), .unset, .unset, .unset, .unset, .unset, .unset, .unset, .unset, .unset, .unset, .unset, .unset] [(.int p2)])
  refine Go.st (fun t k => XS.i2l X0.here hx rfl (hb hby at_15) rfl k) ?_
  show Go _ _ _ _ _ _ _  s₁ (mkF m 16 #[.val (.int p1), .val (.int p2), .val (.int p3), .val (.int p4), .val (.int ((p1 &&& (2147483647 : Int32)) % (6 : Int32))), .val (.int (p4 &&& (3 : Int32))), .unset, .unset, .unset, .unset, .unset, .unset, .unset, .unset, .unset, .unset, .unset, .unset] [(.long (p2.toInt64))])
  refine Go.st (fun t k => XS.lstore X0.here hx rfl (hb hby at_16) rfl (l' := #[.val (.int p1), .val (.int p2), .val (.int p3), .val (.int p4), .val (.int ((p1 &&& (2147483647 : Int32)) % (6 : Int32))), .val (.int (p4 &&& (3 : Int32))), .val (.long (p2.toInt64)), .second, .unset, .unset, .unset, .unset, .unset, .unset, .unset, .unset, .unset, .unset]) rfl k) ?_
  show Go _ _ _ _ _ _ _  s₁ (mkF m 18 #[.val (.int p1), .val (.int p2), .val (.int p3), .val (.int p4), .val (.int ((p1 &&& (2147483647 : Int32)) % (6 : Int32))), .val (.int (p4 &&& (3 : Int32))), .val (.long (p2.toInt64)), .second, .unset, .unset, .unset, .unset, .unset, .unset, .unset, .unset, .unset, .unset] [])
  refine Go.st (fun t k => XS.iload X0.here hx rfl (hb hby at_18) rfl  k) ?_
  show Go _ _ _ _ _ _ _  s₁ (mkF m 20 #[.val (.int p1), .val (.int p2), .val (.int p3), .val (.int p4), .val (.int ((p1 &&& (2147483647 : Int32)) % (6 : Int32))), .val (.int (p4 &&& (3 : Int32))), .val (.long (p2.toInt64)), .second, .unset, .unset, .unset, .unset, .unset, .unset, .unset, .unset, .unset, .unset] [(.int (p4 &&& (3 : Int32)))])
  refine Go.st (T' := s₁) (g' := (mkF m 64 #[.val (.int p1), .val (.int p2), .val (.int p3), .val (.int p4), .val (.int ((p1 &&& (2147483647 : Int32)) % (6 : Int32))), .val (.int (p4 &&& (3 : Int32))), .val (.long (p2.toInt64)), .second, .val (.long (if (p4 &&& (3 : Int32)) = (0 : Int32) then (p3.toInt64) else (if (p4 &&& (3 : Int32)) = (1 : Int32) then (p2.toInt64) else (if (p4 &&& (3 : Int32)) = (2 : Int32) then ((p2.toInt64) + (1 : Int64)) else ((p2.toInt64) - (1 : Int64)))))), .second, .unset, .unset, .unset, .unset, .unset, .unset, .unset, .unset] [])) (fun t k => ?_) ?_
  · show Steps p.tables e below (s₁.setTop (mkF m 20 #[.val (.int p1), .val (.int p2), .val (.int p3), .val (.int p4), .val (.int ((p1 &&& (2147483647 : Int32)) % (6 : Int32))), .val (.int (p4 &&& (3 : Int32))), .val (.long (p2.toInt64)), .second, .unset, .unset, .unset, .unset, .unset, .unset, .unset, .unset, .unset, .unset] [(.int (p4 &&& (3 : Int32)))])) _
    by_cases c20_1 : (p4 &&& (3 : Int32)) = (0 : Int32)
    · refine XS.ifNo X0.here hx rfl (hb hby at_20) rfl ((if0 _ _).trans (teq c20_1).2) ?_
      show Steps p.tables e below (s₁.setTop (mkF m 23 #[.val (.int p1), .val (.int p2), .val (.int p3), .val (.int p4), .val (.int ((p1 &&& (2147483647 : Int32)) % (6 : Int32))), .val (.int (p4 &&& (3 : Int32))), .val (.long (p2.toInt64)), .second, .unset, .unset, .unset, .unset, .unset, .unset, .unset, .unset, .unset, .unset] [])) _
      refine XS.iloadN X0.here hx rfl (hb hby at_23) rfl  ?_
      show Steps p.tables e below (s₁.setTop (mkF m 24 #[.val (.int p1), .val (.int p2), .val (.int p3), .val (.int p4), .val (.int ((p1 &&& (2147483647 : Int32)) % (6 : Int32))), .val (.int (p4 &&& (3 : Int32))), .val (.long (p2.toInt64)), .second, .unset, .unset, .unset, .unset, .unset, .unset, .unset, .unset, .unset, .unset] [(.int p3)])) _
      refine XS.i2l X0.here hx rfl (hb hby at_24) rfl ?_
      show Steps p.tables e below (s₁.setTop (mkF m 25 #[.val (.int p1), .val (.int p2), .val (.int p3), .val (.int p4), .val (.int ((p1 &&& (2147483647 : Int32)) % (6 : Int32))), .val (.int (p4 &&& (3 : Int32))), .val (.long (p2.toInt64)), .second, .unset, .unset, .unset, .unset, .unset, .unset, .unset, .unset, .unset, .unset] [(.long (p3.toInt64))])) _
      refine XS.lstore X0.here hx rfl (hb hby at_25) rfl (l' := #[.val (.int p1), .val (.int p2), .val (.int p3), .val (.int p4), .val (.int ((p1 &&& (2147483647 : Int32)) % (6 : Int32))), .val (.int (p4 &&& (3 : Int32))), .val (.long (p2.toInt64)), .second, .val (.long (p3.toInt64)), .second, .unset, .unset, .unset, .unset, .unset, .unset, .unset, .unset]) rfl ?_
      show Steps p.tables e below (s₁.setTop (mkF m 27 #[.val (.int p1), .val (.int p2), .val (.int p3), .val (.int p4), .val (.int ((p1 &&& (2147483647 : Int32)) % (6 : Int32))), .val (.int (p4 &&& (3 : Int32))), .val (.long (p2.toInt64)), .second, .val (.long (p3.toInt64)), .second, .unset, .unset, .unset, .unset, .unset, .unset, .unset, .unset] [])) _
      refine XS.goto X0.here hx rfl (pc0 := 27) (pc' := 64) rfl (hb hby at_27) (by decide) (by decide) ?_
      (try simp only [if_pos c20_1] at k); exact k
    · refine XS.ifYes X0.here hx rfl (pc0 := 20) (pc' := 30) rfl (hb hby at_20) rfl ((if0 _ _).trans (feq c20_1).2) (by decide) (by decide) ?_
      show Steps p.tables e below (s₁.setTop (mkF m 30 #[.val (.int p1), .val (.int p2), .val (.int p3), .val (.int p4), .val (.int ((p1 &&& (2147483647 : Int32)) % (6 : Int32))), .val (.int (p4 &&& (3 : Int32))), .val (.long (p2.toInt64)), .second, .unset, .unset, .unset, .unset, .unset, .unset, .unset, .unset, .unset, .unset] [])) _
      refine XS.iload X0.here hx rfl (hb hby at_30) rfl  ?_
      show Steps p.tables e below (s₁.setTop (mkF m 32 #[.val (.int p1), .val (.int p2), .val (.int p3), .val (.int p4), .val (.int ((p1 &&& (2147483647 : Int32)) % (6 : Int32))), .val (.int (p4 &&& (3 : Int32))), .val (.long (p2.toInt64)), .second, .unset, .unset, .unset, .unset, .unset, .unset, .unset, .unset, .unset, .unset] [(.int (p4 &&& (3 : Int32)))])) _
      refine XS.iconst X0.here hx rfl (hb hby at_32) ?_
      show Steps p.tables e below (s₁.setTop (mkF m 33 #[.val (.int p1), .val (.int p2), .val (.int p3), .val (.int p4), .val (.int ((p1 &&& (2147483647 : Int32)) % (6 : Int32))), .val (.int (p4 &&& (3 : Int32))), .val (.long (p2.toInt64)), .second, .unset, .unset, .unset, .unset, .unset, .unset, .unset, .unset, .unset, .unset] [(.int (1 : Int32)), (.int (p4 &&& (3 : Int32)))])) _
      by_cases c33_2 : (p4 &&& (3 : Int32)) = (1 : Int32)
      · refine XS.icmpNo X0.here hx rfl (hb hby at_33) rfl (teq c33_2).2 ?_
        show Steps p.tables e below (s₁.setTop (mkF m 36 #[.val (.int p1), .val (.int p2), .val (.int p3), .val (.int p4), .val (.int ((p1 &&& (2147483647 : Int32)) % (6 : Int32))), .val (.int (p4 &&& (3 : Int32))), .val (.long (p2.toInt64)), .second, .unset, .unset, .unset, .unset, .unset, .unset, .unset, .unset, .unset, .unset] [])) _
        refine XS.iloadN X0.here hx rfl (hb hby at_36) rfl  ?_
        show Steps p.tables e below (s₁.setTop (mkF m 37 #[.val (.int p1), .val (.int p2), .val (.int p3), .val (.int p4), .val (.int ((p1 &&& (2147483647 : Int32)) % (6 : Int32))), .val (.int (p4 &&& (3 : Int32))), .val (.long (p2.toInt64)), .second, .unset, .unset, .unset, .unset, .unset, .unset, .unset, .unset, .unset, .unset] [(.int p2)])) _
        refine XS.i2l X0.here hx rfl (hb hby at_37) rfl ?_
        show Steps p.tables e below (s₁.setTop (mkF m 38 #[.val (.int p1), .val (.int p2), .val (.int p3), .val (.int p4), .val (.int ((p1 &&& (2147483647 : Int32)) % (6 : Int32))), .val (.int (p4 &&& (3 : Int32))), .val (.long (p2.toInt64)), .second, .unset, .unset, .unset, .unset, .unset, .unset, .unset, .unset, .unset, .unset] [(.long (p2.toInt64))])) _
        refine XS.lstore X0.here hx rfl (hb hby at_38) rfl (l' := #[.val (.int p1), .val (.int p2), .val (.int p3), .val (.int p4), .val (.int ((p1 &&& (2147483647 : Int32)) % (6 : Int32))), .val (.int (p4 &&& (3 : Int32))), .val (.long (p2.toInt64)), .second, .val (.long (p2.toInt64)), .second, .unset, .unset, .unset, .unset, .unset, .unset, .unset, .unset]) rfl ?_
        show Steps p.tables e below (s₁.setTop (mkF m 40 #[.val (.int p1), .val (.int p2), .val (.int p3), .val (.int p4), .val (.int ((p1 &&& (2147483647 : Int32)) % (6 : Int32))), .val (.int (p4 &&& (3 : Int32))), .val (.long (p2.toInt64)), .second, .val (.long (p2.toInt64)), .second, .unset, .unset, .unset, .unset, .unset, .unset, .unset, .unset] [])) _
        refine XS.goto X0.here hx rfl (pc0 := 40) (pc' := 64) rfl (hb hby at_40) (by decide) (by decide) ?_
        (try simp only [if_neg c20_1] at k); (try simp only [if_pos c33_2] at k); exact k
      · refine XS.icmpYes X0.here hx rfl (pc0 := 33) (pc' := 43) rfl (hb hby at_33) rfl (feq c33_2).2 (by decide) (by decide) ?_
        show Steps p.tables e below (s₁.setTop (mkF m 43 #[.val (.int p1), .val (.int p2), .val (.int p3), .val (.int p4), .val (.int ((p1 &&& (2147483647 : Int32)) % (6 : Int32))), .val (.int (p4 &&& (3 : Int32))), .val (.long (p2.toInt64)), .second, .unset, .unset, .unset, .unset, .unset, .unset, .unset, .unset, .unset, .unset] [])) _
        refine XS.iload X0.here hx rfl (hb hby at_43) rfl  ?_
        show Steps p.tables e below (s₁.setTop (mkF m 45 #[.val (.int p1), .val (.int p2), .val (.int p3), .val (.int p4), .val (.int ((p1 &&& (2147483647 : Int32)) % (6 : Int32))), .val (.int (p4 &&& (3 : Int32))), .val (.long (p2.toInt64)), .second, .unset, .unset, .unset, .unset, .unset, .unset, .unset, .unset, .unset, .unset] [(.int (p4 &&& (3 : Int32)))])) _
        refine XS.iconst X0.here hx rfl (hb hby at_45) ?_
        show Steps p.tables e below (s₁.setTop (mkF m 46 #[.val (.int p1), .val (.int p2), .val (.int p3), .val (.int p4), .val (.int ((p1 &&& (2147483647 : Int32)) % (6 : Int32))), .val (.int (p4 &&& (3 : Int32))), .val (.long (p2.toInt64)), .second, .unset, .unset, .unset, .unset, .unset, .unset, .unset, .unset, .unset, .unset] [(.int (2 : Int32)), (.int (p4 &&& (3 : Int32)))])) _
        by_cases c46_3 : (p4 &&& (3 : Int32)) = (2 : Int32)
        · refine XS.icmpNo X0.here hx rfl (hb hby at_46) rfl (teq c46_3).2 ?_
          show Steps p.tables e below (s₁.setTop (mkF m 49 #[.val (.int p1), .val (.int p2), .val (.int p3), .val (.int p4), .val (.int ((p1 &&& (2147483647 : Int32)) % (6 : Int32))), .val (.int (p4 &&& (3 : Int32))), .val (.long (p2.toInt64)), .second, .unset, .unset, .unset, .unset, .unset, .unset, .unset, .unset, .unset, .unset] [])) _
          refine XS.iloadN X0.here hx rfl (hb hby at_49) rfl  ?_
          show Steps p.tables e below (s₁.setTop (mkF m 50 #[.val (.int p1), .val (.int p2), .val (.int p3), .val (.int p4), .val (.int ((p1 &&& (2147483647 : Int32)) % (6 : Int32))), .val (.int (p4 &&& (3 : Int32))), .val (.long (p2.toInt64)), .second, .unset, .unset, .unset, .unset, .unset, .unset, .unset, .unset, .unset, .unset] [(.int p2)])) _
          refine XS.i2l X0.here hx rfl (hb hby at_50) rfl ?_
          show Steps p.tables e below (s₁.setTop (mkF m 51 #[.val (.int p1), .val (.int p2), .val (.int p3), .val (.int p4), .val (.int ((p1 &&& (2147483647 : Int32)) % (6 : Int32))), .val (.int (p4 &&& (3 : Int32))), .val (.long (p2.toInt64)), .second, .unset, .unset, .unset, .unset, .unset, .unset, .unset, .unset, .unset, .unset] [(.long (p2.toInt64))])) _
          refine XS.lconst X0.here hx rfl (hb hby at_51) ?_
          show Steps p.tables e below (s₁.setTop (mkF m 52 #[.val (.int p1), .val (.int p2), .val (.int p3), .val (.int p4), .val (.int ((p1 &&& (2147483647 : Int32)) % (6 : Int32))), .val (.int (p4 &&& (3 : Int32))), .val (.long (p2.toInt64)), .second, .unset, .unset, .unset, .unset, .unset, .unset, .unset, .unset, .unset, .unset] [(.long (1 : Int64)), (.long (p2.toInt64))])) _
          refine XS.ladd X0.here hx rfl (hb hby at_52) rfl ?_
          show Steps p.tables e below (s₁.setTop (mkF m 53 #[.val (.int p1), .val (.int p2), .val (.int p3), .val (.int p4), .val (.int ((p1 &&& (2147483647 : Int32)) % (6 : Int32))), .val (.int (p4 &&& (3 : Int32))), .val (.long (p2.toInt64)), .second, .unset, .unset, .unset, .unset, .unset, .unset, .unset, .unset, .unset, .unset] [(.long ((p2.toInt64) + (1 : Int64)))])) _
          refine XS.lstore X0.here hx rfl (hb hby at_53) rfl (l' := #[.val (.int p1), .val (.int p2), .val (.int p3), .val (.int p4), .val (.int ((p1 &&& (2147483647 : Int32)) % (6 : Int32))), .val (.int (p4 &&& (3 : Int32))), .val (.long (p2.toInt64)), .second, .val (.long ((p2.toInt64) + (1 : Int64))), .second, .unset, .unset, .unset, .unset, .unset, .unset, .unset, .unset]) rfl ?_
          show Steps p.tables e below (s₁.setTop (mkF m 55 #[.val (.int p1), .val (.int p2), .val (.int p3), .val (.int p4), .val (.int ((p1 &&& (2147483647 : Int32)) % (6 : Int32))), .val (.int (p4 &&& (3 : Int32))), .val (.long (p2.toInt64)), .second, .val (.long ((p2.toInt64) + (1 : Int64))), .second, .unset, .unset, .unset, .unset, .unset, .unset, .unset, .unset] [])) _
          refine XS.goto X0.here hx rfl (pc0 := 55) (pc' := 64) rfl (hb hby at_55) (by decide) (by decide) ?_
          (try simp only [if_neg c20_1] at k); (try simp only [if_neg c33_2] at k); (try simp only [if_pos c46_3] at k); exact k
        · refine XS.icmpYes X0.here hx rfl (pc0 := 46) (pc' := 58) rfl (hb hby at_46) rfl (feq c46_3).2 (by decide) (by decide) ?_
          show Steps p.tables e below (s₁.setTop (mkF m 58 #[.val (.int p1), .val (.int p2), .val (.int p3), .val (.int p4), .val (.int ((p1 &&& (2147483647 : Int32)) % (6 : Int32))), .val (.int (p4 &&& (3 : Int32))), .val (.long (p2.toInt64)), .second, .unset, .unset, .unset, .unset, .unset, .unset, .unset, .unset, .unset, .unset] [])) _
          refine XS.iloadN X0.here hx rfl (hb hby at_58) rfl  ?_
          show Steps p.tables e below (s₁.setTop (mkF m 59 #[.val (.int p1), .val (.int p2), .val (.int p3), .val (.int p4), .val (.int ((p1 &&& (2147483647 : Int32)) % (6 : Int32))), .val (.int (p4 &&& (3 : Int32))), .val (.long (p2.toInt64)), .second, .unset, .unset, .unset, .unset, .unset, .unset, .unset, .unset, .unset, .unset] [(.int p2)])) _
          refine XS.i2l X0.here hx rfl (hb hby at_59) rfl ?_
          show Steps p.tables e below (s₁.setTop (mkF m 60 #[.val (.int p1), .val (.int p2), .val (.int p3), .val (.int p4), .val (.int ((p1 &&& (2147483647 : Int32)) % (6 : Int32))), .val (.int (p4 &&& (3 : Int32))), .val (.long (p2.toInt64)), .second, .unset, .unset, .unset, .unset, .unset, .unset, .unset, .unset, .unset, .unset] [(.long (p2.toInt64))])) _
          refine XS.lconst X0.here hx rfl (hb hby at_60) ?_
          show Steps p.tables e below (s₁.setTop (mkF m 61 #[.val (.int p1), .val (.int p2), .val (.int p3), .val (.int p4), .val (.int ((p1 &&& (2147483647 : Int32)) % (6 : Int32))), .val (.int (p4 &&& (3 : Int32))), .val (.long (p2.toInt64)), .second, .unset, .unset, .unset, .unset, .unset, .unset, .unset, .unset, .unset, .unset] [(.long (1 : Int64)), (.long (p2.toInt64))])) _
          refine XS.lsub X0.here hx rfl (hb hby at_61) rfl ?_
          show Steps p.tables e below (s₁.setTop (mkF m 62 #[.val (.int p1), .val (.int p2), .val (.int p3), .val (.int p4), .val (.int ((p1 &&& (2147483647 : Int32)) % (6 : Int32))), .val (.int (p4 &&& (3 : Int32))), .val (.long (p2.toInt64)), .second, .unset, .unset, .unset, .unset, .unset, .unset, .unset, .unset, .unset, .unset] [(.long ((p2.toInt64) - (1 : Int64)))])) _
          refine XS.lstore X0.here hx rfl (hb hby at_62) rfl (l' := #[.val (.int p1), .val (.int p2), .val (.int p3), .val (.int p4), .val (.int ((p1 &&& (2147483647 : Int32)) % (6 : Int32))), .val (.int (p4 &&& (3 : Int32))), .val (.long (p2.toInt64)), .second, .val (.long ((p2.toInt64) - (1 : Int64))), .second, .unset, .unset, .unset, .unset, .unset, .unset, .unset, .unset]) rfl ?_
          (try simp only [if_neg c20_1] at k); (try simp only [if_neg c33_2] at k); (try simp only [if_neg c46_3] at k); exact k
  show Go _ _ _ _ _ _ _  s₁ (mkF m 64 #[.val (.int p1), .val (.int p2), .val (.int p3), .val (.int p4), .val (.int ((p1 &&& (2147483647 : Int32)) % (6 : Int32))), .val (.int (p4 &&& (3 : Int32))), .val (.long (p2.toInt64)), .second, .val (.long (if (p4 &&& (3 : Int32)) = (0 : Int32) then (p3.toInt64) else (if (p4 &&& (3 : Int32)) = (1 : Int32) then (p2.toInt64) else (if (p4 &&& (3 : Int32)) = (2 : Int32) then ((p2.toInt64) + (1 : Int64)) else ((p2.toInt64) - (1 : Int64)))))), .second, .unset, .unset, .unset, .unset, .unset, .unset, .unset, .unset] [])
  obtain ⟨la, eq_la⟩ : ∃ z, z = (p2.toInt64) := ⟨_, rfl⟩
  rw [← eq_la]
  show Go _ _ _ _ _ _ _  s₁ (mkF m 64 #[.val (.int p1), .val (.int p2), .val (.int p3), .val (.int p4), .val (.int ((p1 &&& (2147483647 : Int32)) % (6 : Int32))), .val (.int (p4 &&& (3 : Int32))), .val (.long la), .second, .val (.long (if (p4 &&& (3 : Int32)) = (0 : Int32) then (p3.toInt64) else (if (p4 &&& (3 : Int32)) = (1 : Int32) then la else (if (p4 &&& (3 : Int32)) = (2 : Int32) then (la + (1 : Int64)) else (la - (1 : Int64)))))), .second, .unset, .unset, .unset, .unset, .unset, .unset, .unset, .unset] [])
  obtain ⟨lb, eq_lb⟩ : ∃ z, z = (if (p4 &&& (3 : Int32)) = (0 : Int32) then (p3.toInt64) else (if (p4 &&& (3 : Int32)) = (1 : Int32) then la else (if (p4 &&& (3 : Int32)) = (2 : Int32) then (la + (1 : Int64)) else (la - (1 : Int64))))) := ⟨_, rfl⟩
  rw [← eq_lb]
  have hla : B53 la := by rw [eq_la]; exact own_b53 _
  have hlb : B53 lb := by rw [eq_lb, eq_la]; exact own_b53' _ _ _
  show Go _ _ _ _ _ _ _  s₁ (mkF m 64 #[.val (.int p1), .val (.int p2), .val (.int p3), .val (.int p4), .val (.int ((p1 &&& (2147483647 : Int32)) % (6 : Int32))), .val (.int (p4 &&& (3 : Int32))), .val (.long la), .second, .val (.long lb), .second, .unset, .unset, .unset, .unset, .unset, .unset, .unset, .unset] [])
  refine Go.st (fun t k => XS.lload X0.here hx rfl (hb hby at_64) rfl  k) ?_
  show Go _ _ _ _ _ _ _  s₁ (mkF m 66 #[.val (.int p1), .val (.int p2), .val (.int p3), .val (.int p4), .val (.int ((p1 &&& (2147483647 : Int32)) % (6 : Int32))), .val (.int (p4 &&& (3 : Int32))), .val (.long la), .second, .val (.long lb), .second, .unset, .unset, .unset, .unset, .unset, .unset, .unset, .unset] [(.long la)])
  refine Go.st (fun t k => XS.l2dS X0.here hx rfl (hb hby at_66) rfl rfl k) ?_
  show Go _ _ _ _ _ _ _  s₁ (mkF m 67 #[.val (.int p1), .val (.int p2), .val (.int p3), .val (.int p4), .val (.int ((p1 &&& (2147483647 : Int32)) % (6 : Int32))), .val (.int (p4 &&& (3 : Int32))), .val (.long la), .second, .val (.long lb), .second, .unset, .unset, .unset, .unset, .unset, .unset, .unset, .unset] [(.double (FP.l2d la))])
  refine Go.st (fun t k => XS.dstore X0.here hx rfl (hb hby at_67) rfl (l' := #[.val (.int p1), .val (.int p2), .val (.int p3), .val (.int p4), .val (.int ((p1 &&& (2147483647 : Int32)) % (6 : Int32))), .val (.int (p4 &&& (3 : Int32))), .val (.long la), .second, .val (.long lb), .second, .val (.double (FP.l2d la)), .second, .unset, .unset, .unset, .unset, .unset, .unset]) rfl k) ?_
  show Go _ _ _ _ _ _ _  s₁ (mkF m 69 #[.val (.int p1), .val (.int p2), .val (.int p3), .val (.int p4), .val (.int ((p1 &&& (2147483647 : Int32)) % (6 : Int32))), .val (.int (p4 &&& (3 : Int32))), .val (.long la), .second, .val (.long lb), .second, .val (.double (FP.l2d la)), .second, .unset, .unset, .unset, .unset, .unset, .unset] [])
  refine Go.st (fun t k => XS.lload X0.here hx rfl (hb hby at_69) rfl  k) ?_
  show Go _ _ _ _ _ _ _  s₁ (mkF m 71 #[.val (.int p1), .val (.int p2), .val (.int p3), .val (.int p4), .val (.int ((p1 &&& (2147483647 : Int32)) % (6 : Int32))), .val (.int (p4 &&& (3 : Int32))), .val (.long la), .second, .val (.long lb), .second, .val (.double (FP.l2d la)), .second, .unset, .unset, .unset, .unset, .unset, .unset] [(.long lb)])
  refine Go.st (fun t k => XS.l2dS X0.here hx rfl (hb hby at_71) rfl rfl k) ?_
  show Go _ _ _ _ _ _ _  s₁ (mkF m 72 #[.val (.int p1), .val (.int p2), .val (.int p3), .val (.int p4), .val (.int ((p1 &&& (2147483647 : Int32)) % (6 : Int32))), .val (.int (p4 &&& (3 : Int32))), .val (.long la), .second, .val (.long lb), .second, .val (.double (FP.l2d la)), .second, .unset, .unset, .unset, .unset, .unset, .unset] [(.double (FP.l2d lb))])
  refine Go.st (fun t k => XS.dstore X0.here hx rfl (hb hby at_72) rfl (l' := #[.val (.int p1), .val (.int p2), .val (.int p3), .val (.int p4), .val (.int ((p1 &&& (2147483647 : Int32)) % (6 : Int32))), .val (.int (p4 &&& (3 : Int32))), .val (.long la), .second, .val (.long lb), .second, .val (.double (FP.l2d la)), .second, .val (.double (FP.l2d lb)), .second, .unset, .unset, .unset, .unset]) rfl k) ?_
  show Go _ _ _ _ _ _ _  s₁ (mkF m 74 #[.val (.int p1), .val (.int p2), .val (.int p3), .val (.int p4), .val (.int ((p1 &&& (2147483647 : Int32)) % (6 : Int32))), .val (.int (p4 &&& (3 : Int32))), .val (.long la), .second, .val (.long lb), .second, .val (.double (FP.l2d la)), .second, .val (.double (FP.l2d lb)), .second, .unset, .unset, .unset, .unset] [])
  refine Go.st (fun t k => XS.lload X0.here hx rfl (hb hby at_74) rfl  k) ?_
  show Go _ _ _ _ _ _ _  s₁ (mkF m 76 #[.val (.int p1), .val (.int p2), .val (.int p3), .val (.int p4), .val (.int ((p1 &&& (2147483647 : Int32)) % (6 : Int32))), .val (.int (p4 &&& (3 : Int32))), .val (.long la), .second, .val (.long lb), .second, .val (.double (FP.l2d la)), .second, .val (.double (FP.l2d lb)), .second, .unset, .unset, .unset, .unset] [(.long la)])
  refine Go.st (fun t k => XS.lload X0.here hx rfl (hb hby at_76) rfl  k) ?_
  show Go _ _ _ _ _ _ _  s₁ (mkF m 78 #[.val (.int p1), .val (.int p2), .val (.int p3), .val (.int p4), .val (.int ((p1 &&& (2147483647 : Int32)) % (6 : Int32))), .val (.int (p4 &&& (3 : Int32))), .val (.long la), .second, .val (.long lb), .second, .val (.double (FP.l2d la)), .second, .val (.double (FP.l2d lb)), .second, .unset, .unset, .unset, .unset] [(.long lb), (.long la)])
  refine Go.st (fun t k => XS.lsub X0.here hx rfl (hb hby at_78) rfl k) ?_
  show Go _ _ _ _ _ _ _  s₁ (mkF m 79 #[.val (.int p1), .val (.int p2), .val (.int p3), .val (.int p4), .val (.int ((p1 &&& (2147483647 : Int32)) % (6 : Int32))), .val (.int (p4 &&& (3 : Int32))), .val (.long la), .second, .val (.long lb), .second, .val (.double (FP.l2d la)), .second, .val (.double (FP.l2d lb)), .second, .unset, .unset, .unset, .unset] [(.long (la - lb))])
  refine Go.st (fun t k => XS.lstore X0.here hx rfl (hb hby at_79) rfl (l' := #[.val (.int p1), .val (.int p2), .val (.int p3), .val (.int p4), .val (.int ((p1 &&& (2147483647 : Int32)) % (6 : Int32))), .val (.int (p4 &&& (3 : Int32))), .val (.long la), .second, .val (.long lb), .second, .val (.double (FP.l2d la)), .second, .val (.double (FP.l2d lb)), .second, .val (.long (la - lb)), .second, .unset, .unset]) rfl k) ?_
  show Go _ _ _ _ _ _ _  s₁ (mkF m 81 #[.val (.int p1), .val (.int p2), .val (.int p3), .val (.int p4), .val (.int ((p1 &&& (2147483647 : Int32)) % (6 : Int32))), .val (.int (p4 &&& (3 : Int32))), .val (.long la), .second, .val (.long lb), .second, .val (.double (FP.l2d la)), .second, .val (.double (FP.l2d lb)), .second, .val (.long (la - lb)), .second, .unset, .unset] [])
  rcases own_mod6 p1 with sp4 | sp4 | sp4 | sp4 | sp4 | sp4
  · rw [sp4]
    show Go _ _ _ _ _ _ _  s₁ (mkF m 81 #[.val (.int p1), .val (.int p2), .val (.int p3), .val (.int p4), .val (.int (0 : Int32)), .val (.int (p4 &&& (3 : Int32))), .val (.long la), .second, .val (.long lb), .second, .val (.double (FP.l2d la)), .second, .val (.double (FP.l2d lb)), .second, .val (.long (la - lb)), .second, .unset, .unset] [])
    refine Go.st (fun t k => XS.iload X0.here hx rfl (hb hby at_81) rfl  k) ?_
    show Go _ _ _ _ _ _ _  s₁ (mkF m 83 #[.val (.int p1), .val (.int p2), .val (.int p3), .val (.int p4), .val (.int (0 : Int32)), .val (.int (p4 &&& (3 : Int32))), .val (.long la), .second, .val (.long lb), .second, .val (.double (FP.l2d la)), .second, .val (.double (FP.l2d lb)), .second, .val (.long (la - lb)), .second, .unset, .unset] [(.int (0 : Int32))])
    refine Go.st (fun t k => XS.ifNo X0.here hx rfl (hb hby at_83) rfl ((if0 _ _).trans (teq (rfl : (0 : Int32) = (0 : Int32))).2) k) ?_
    show Go _ _ _ _ _ _ _  s₁ (mkF m 86 #[.val (.int p1), .val (.int p2), .val (.int p3), .val (.int p4), .val (.int (0 : Int32)), .val (.int (p4 &&& (3 : Int32))), .val (.long la), .second, .val (.long lb), .second, .val (.double (FP.l2d la)), .second, .val (.double (FP.l2d lb)), .second, .val (.long (la - lb)), .second, .unset, .unset] [])
    obtain ⟨T5, X5, e5, st5⟩ := getS2 X0 hx hZ hown (host := "") (Or.inl (hw _ (List.mem_of_getElem? (i := 1) rfl))) Via.refl e0 (S_LESS.ext O.2) (g := (mkF m 86 #[.val (.int p1), .val (.int p2), .val (.int p3), .val (.int p4), .val (.int (0 : Int32)), .val (.int (p4 &&& (3 : Int32))), .val (.long la), .second, .val (.long lb), .second, .val (.double (FP.l2d la)), .second, .val (.double (FP.l2d lb)), .second, .val (.long (la - lb)), .second, .unset, .unset] [])) rfl (hb hby at_86)
    refine Go.st st5 ?_
    show Go _ _ _ _ _ _ _  T5 (mkF m 89 #[.val (.int p1), .val (.int p2), .val (.int p3), .val (.int p4), .val (.int (0 : Int32)), .val (.int (p4 &&& (3 : Int32))), .val (.long la), .second, .val (.long lb), .second, .val (.double (FP.l2d la)), .second, .val (.double (FP.l2d lb)), .second, .val (.long (la - lb)), .second, .unset, .unset] [(.ref w_LESS)])
    refine Go.st (fun t k => XS.astore X5.here hx rfl (hb hby at_89) rfl rfl (l' := #[.val (.int p1), .val (.int p2), .val (.int p3), .val (.int p4), .val (.int (0 : Int32)), .val (.int (p4 &&& (3 : Int32))), .val (.long la), .second, .val (.long lb), .second, .val (.double (FP.l2d la)), .second, .val (.double (FP.l2d lb)), .second, .val (.long (la - lb)), .second, .val (.ref w_LESS), .unset]) rfl k) ?_
    show Go _ _ _ _ _ _ _  T5 (mkF m 91 #[.val (.int p1), .val (.int p2), .val (.int p3), .val (.int p4), .val (.int (0 : Int32)), .val (.int (p4 &&& (3 : Int32))), .val (.long la), .second, .val (.long lb), .second, .val (.double (FP.l2d la)), .second, .val (.double (FP.l2d lb)), .second, .val (.long (la - lb)), .second, .val (.ref w_LESS), .unset] [])
    refine Go.st (fun t k => XS.lload X5.here hx rfl (hb hby at_91) rfl  k) ?_
    show Go _ _ _ _ _ _ _  T5 (mkF m 93 #[.val (.int p1), .val (.int p2), .val (.int p3), .val (.int p4), .val (.int (0 : Int32)), .val (.int (p4 &&& (3 : Int32))), .val (.long la), .second, .val (.long lb), .second, .val (.double (FP.l2d la)), .second, .val (.double (FP.l2d lb)), .second, .val (.long (la - lb)), .second, .val (.ref w_LESS), .unset] [(.long (la - lb))])
    refine Go.st (fun t k => XS.lconst X5.here hx rfl (hb hby at_93) k) ?_
    show Go _ _ _ _ _ _ _  T5 (mkF m 94 #[.val (.int p1), .val (.int p2), .val (.int p3), .val (.int p4), .val (.int (0 : Int32)), .val (.int (p4 &&& (3 : Int32))), .val (.long la), .second, .val (.long lb), .second, .val (.double (FP.l2d la)), .second, .val (.double (FP.l2d lb)), .second, .val (.long (la - lb)), .second, .val (.ref w_LESS), .unset] [(.long (0 : Int64)), (.long (la - lb))])
    refine Go.st (fun t k => XS.lcmp X5.here hx rfl (hb hby at_94) rfl k) ?_
    show Go _ _ _ _ _ _ _  T5 (mkF m 95 #[.val (.int p1), .val (.int p2), .val (.int p3), .val (.int p4), .val (.int (0 : Int32)), .val (.int (p4 &&& (3 : Int32))), .val (.long la), .second, .val (.long lb), .second, .val (.double (FP.l2d la)), .second, .val (.double (FP.l2d lb)), .second, .val (.long (la - lb)), .second, .val (.ref w_LESS), .unset] [(.int (lcmpW (la - lb) (0 : Int64)))])
    rw [own_cmp hla hlb]
    show Go _ _ _ _ _ _ _  T5 (mkF m 95 #[.val (.int p1), .val (.int p2), .val (.int p3), .val (.int p4), .val (.int (0 : Int32)), .val (.int (p4 &&& (3 : Int32))), .val (.long la), .second, .val (.long lb), .second, .val (.double (FP.l2d la)), .second, .val (.double (FP.l2d lb)), .second, .val (.long (la - lb)), .second, .val (.ref w_LESS), .unset] [(.int (lcmpW la lb))])
    by_cases c95_6 : (lcmpW la lb) < (0 : Int32)
    · refine Go.st (fun t k => XS.ifNo X5.here hx rfl (hb hby at_95) rfl ((if0 _ _).trans (tlt c95_6).2.1) k) ?_
      show Go _ _ _ _ _ _ _  T5 (mkF m 98 #[.val (.int p1), .val (.int p2), .val (.int p3), .val (.int p4), .val (.int (0 : Int32)), .val (.int (p4 &&& (3 : Int32))), .val (.long la), .second, .val (.long lb), .second, .val (.double (FP.l2d la)), .second, .val (.double (FP.l2d lb)), .second, .val (.long (la - lb)), .second, .val (.ref w_LESS), .unset] [])
      refine Go.st (fun t k => XS.iconst X5.here hx rfl (hb hby at_98) k) ?_
      show Go _ _ _ _ _ _ _  T5 (mkF m 99 #[.val (.int p1), .val (.int p2), .val (.int p3), .val (.int p4), .val (.int (0 : Int32)), .val (.int (p4 &&& (3 : Int32))), .val (.long la), .second, .val (.long lb), .second, .val (.double (FP.l2d la)), .second, .val (.double (FP.l2d lb)), .second, .val (.long (la - lb)), .second, .val (.ref w_LESS), .unset] [(.int (1 : Int32))])
      refine Go.st (fun t k => XS.goto X5.here hx rfl (pc0 := 99) (pc' := 103) rfl (hb hby at_99) (by decide) (by decide) k) ?_
      show Go _ _ _ _ _ _ _  T5 (mkF m 103 #[.val (.int p1), .val (.int p2), .val (.int p3), .val (.int p4), .val (.int (0 : Int32)), .val (.int (p4 &&& (3 : Int32))), .val (.long la), .second, .val (.long lb), .second, .val (.double (FP.l2d la)), .second, .val (.double (FP.l2d lb)), .second, .val (.long (la - lb)), .second, .val (.ref w_LESS), .unset] [(.int (1 : Int32))])
      refine Go.st (fun t k => XS.istore X5.here hx rfl (hb hby at_103) rfl (l' := #[.val (.int p1), .val (.int p2), .val (.int p3), .val (.int p4), .val (.int (0 : Int32)), .val (.int (p4 &&& (3 : Int32))), .val (.long la), .second, .val (.long lb), .second, .val (.double (FP.l2d la)), .second, .val (.double (FP.l2d lb)), .second, .val (.long (la - lb)), .second, .val (.ref w_LESS), .val (.int (1 : Int32))]) rfl k) ?_
      show Go _ _ _ _ _ _ _  T5 (mkF m 105 #[.val (.int p1), .val (.int p2), .val (.int p3), .val (.int p4), .val (.int (0 : Int32)), .val (.int (p4 &&& (3 : Int32))), .val (.long la), .second, .val (.long lb), .second, .val (.double (FP.l2d la)), .second, .val (.double (FP.l2d lb)), .second, .val (.long (la - lb)), .second, .val (.ref w_LESS), .val (.int (1 : Int32))] [])
      refine Go.st (fun t k => XS.goto X5.here hx rfl (pc0 := 105) (pc' := 239) rfl (hb hby at_105) (by decide) (by decide) k) ?_
      show Go _ _ _ _ _ _ _  T5 (mkF m 239 #[.val (.int p1), .val (.int p2), .val (.int p3), .val (.int p4), .val (.int (0 : Int32)), .val (.int (p4 &&& (3 : Int32))), .val (.long la), .second, .val (.long lb), .second, .val (.double (FP.l2d la)), .second, .val (.double (FP.l2d lb)), .second, .val (.long (la - lb)), .second, .val (.ref w_LESS), .val (.int (1 : Int32))] [])
      refine Go.st (fun t k => XS.aload X5.here hx rfl (hb hby at_239) rfl rfl  k) ?_
      show Go _ _ _ _ _ _ _  T5 (mkF m 241 #[.val (.int p1), .val (.int p2), .val (.int p3), .val (.int p4), .val (.int (0 : Int32)), .val (.int (p4 &&& (3 : Int32))), .val (.long la), .second, .val (.long lb), .second, .val (.double (FP.l2d la)), .second, .val (.double (FP.l2d lb)), .second, .val (.long (la - lb)), .second, .val (.ref w_LESS), .val (.int (1 : Int32))] [(.ref w_LESS)])
      refine Go.st (fun t k => XS.dload X5.here hx rfl (hb hby at_241) rfl k) ?_
      show Go _ _ _ _ _ _ _  T5 (mkF m 243 #[.val (.int p1), .val (.int p2), .val (.int p3), .val (.int p4), .val (.int (0 : Int32)), .val (.int (p4 &&& (3 : Int32))), .val (.long la), .second, .val (.long lb), .second, .val (.double (FP.l2d la)), .second, .val (.double (FP.l2d lb)), .second, .val (.long (la - lb)), .second, .val (.ref w_LESS), .val (.int (1 : Int32))] [(.double (FP.l2d la)), (.ref w_LESS)])
      refine Go.st (fun t k => XS.dload X5.here hx rfl (hb hby at_243) rfl k) ?_
      show Go _ _ _ _ _ _ _  T5 (mkF m 245 #[.val (.int p1), .val (.int p2), .val (.int p3), .val (.int p4), .val (.int (0 : Int32)), .val (.int (p4 &&& (3 : Int32))), .val (.long la), .second, .val (.long lb), .second, .val (.double (FP.l2d la)), .second, .val (.double (FP.l2d lb)), .second, .val (.long (la - lb)), .second, .val (.ref w_LESS), .val (.int (1 : Int32))] [(.double (FP.l2d lb)), (.double (FP.l2d la)), (.ref w_LESS)])
      obtain ⟨cq7, kq7, q7a, q7b, q7c⟩ := isOf hZ e5 (E_LESS.ext O.2)
      obtain ⟨_, _, ⟨T7, L7, k7, n7⟩, -, X7, ⟨Lc7, hQ7, l7, y7, z7⟩, st7⟩ := X5.virtualBack hx (y := (⟨"com/example/sancho/sancho/model/ScriptExpression$ComparisonOperator", "holds", "(DD)Z"⟩ : MethodName)) (z := (⟨"com/example/sancho/sancho/model/ScriptExpression$ComparisonOperator", "holds", "(DD)Z"⟩ : MethodName)) hown (mvT hZ (hw _ (List.mem_of_getElem? (i := 4) rfl))) (mvT hZ (hw _ (List.mem_of_getElem? (i := 5) rfl))) (notFace_of_selects (args := #[]) (mvT hZ (hw _ (List.mem_of_getElem? (i := 7) rfl)))) (mvT hZ (hw _ (List.mem_of_getElem? (i := 7) rfl))) (mvT hZ (hw _ (List.mem_of_getElem? (i := 6) rfl))) (by decide) (backOf (W := 0) (rmS l Z a0 hw [] w_LESS 0 la lb h0 n0 O O_LESS E_LESS (by decide) hla hlb) hZ (hw _ (List.mem_of_getElem? (i := 8) rfl)) (hw _ (List.mem_of_getElem? (i := 2) rfl)) (by decide) (by decide)) q7a q7c (g := (mkF m 245 #[.val (.int p1), .val (.int p2), .val (.int p3), .val (.int p4), .val (.int (0 : Int32)), .val (.int (p4 &&& (3 : Int32))), .val (.long la), .second, .val (.long lb), .second, .val (.double (FP.l2d la)), .second, .val (.double (FP.l2d lb)), .second, .val (.long (la - lb)), .second, .val (.ref w_LESS), .val (.int (1 : Int32))] [(.double (FP.l2d lb)), (.double (FP.l2d la)), (.ref w_LESS)])) rfl (by rw [hml]; rfl) (Steps.refl _) (argsL := [(.double (FP.l2d la)), (.double (FP.l2d lb))]) (rest := []) (lenOf pd__DD_Z rfl) rfl (by show 2 * 0 + _ ≤ _; exact Nat.le_of_eq rfl) (hb hby at_245) (fun _ _ => ⟨rfl, e5, (by decide : 0 + 0 ≤ _), (by decide : 0 + 0 ≤ _)⟩)
      dsimp only [Pt.U, Pt.locs, Pt.cells, Pt.slots] at X7 l7 y7 z7 st7 hQ7
      subst l7 y7 z7
      obtain ⟨rfl, N7q, e7q⟩ := hQ7
      have N7 := Fr.app N0 N7q
      refine Go.tr st7 ?_
      rw [show holdF 0 (lcmpW la lb) = (1 : Int32) from by simp [holdF, c95_6]]
      show Go _ _ _ _ _ _ _  T7 (mkF m 248 #[.val (.int p1), .val (.int p2), .val (.int p3), .val (.int p4), .val (.int (0 : Int32)), .val (.int (p4 &&& (3 : Int32))), .val (.long la), .second, .val (.long lb), .second, .val (.double (FP.l2d la)), .second, .val (.double (FP.l2d lb)), .second, .val (.long (la - lb)), .second, .val (.ref w_LESS), .val (.int (1 : Int32))] [(.int (1 : Int32))])
      refine Go.st (fun t k => XS.iload X7.here hx rfl (hb hby at_248) rfl  k) ?_
      show Go _ _ _ _ _ _ _  T7 (mkF m 250 #[.val (.int p1), .val (.int p2), .val (.int p3), .val (.int p4), .val (.int (0 : Int32)), .val (.int (p4 &&& (3 : Int32))), .val (.long la), .second, .val (.long lb), .second, .val (.double (FP.l2d la)), .second, .val (.double (FP.l2d lb)), .second, .val (.long (la - lb)), .second, .val (.ref w_LESS), .val (.int (1 : Int32))] [(.int (1 : Int32)), (.int (1 : Int32))])
      refine Go.st (fun t k => XS.icmpNo X7.here hx rfl (hb hby at_250) rfl (teq (rfl : (1 : Int32) = (1 : Int32))).2 k) ?_
      show Go _ _ _ _ _ _ _  T7 (mkF m 253 #[.val (.int p1), .val (.int p2), .val (.int p3), .val (.int p4), .val (.int (0 : Int32)), .val (.int (p4 &&& (3 : Int32))), .val (.long la), .second, .val (.long lb), .second, .val (.double (FP.l2d la)), .second, .val (.double (FP.l2d lb)), .second, .val (.long (la - lb)), .second, .val (.ref w_LESS), .val (.int (1 : Int32))] [])
      refine Go.st (fun t k => XS.iconst X7.here hx rfl (hb hby at_253) k) ?_
      show Go _ _ _ _ _ _ _  T7 (mkF m 254 #[.val (.int p1), .val (.int p2), .val (.int p3), .val (.int p4), .val (.int (0 : Int32)), .val (.int (p4 &&& (3 : Int32))), .val (.long la), .second, .val (.long lb), .second, .val (.double (FP.l2d la)), .second, .val (.double (FP.l2d lb)), .second, .val (.long (la - lb)), .second, .val (.ref w_LESS), .val (.int (1 : Int32))] [(.int (1 : Int32))])
      refine Go.st (fun t k => XS.goto X7.here hx rfl (pc0 := 254) (pc' := 258) rfl (hb hby at_254) (by decide) (by decide) k) ?_
      show Go _ _ _ _ _ _ _  T7 (mkF m 258 #[.val (.int p1), .val (.int p2), .val (.int p3), .val (.int p4), .val (.int (0 : Int32)), .val (.int (p4 &&& (3 : Int32))), .val (.long la), .second, .val (.long lb), .second, .val (.double (FP.l2d la)), .second, .val (.double (FP.l2d lb)), .second, .val (.long (la - lb)), .second, .val (.ref w_LESS), .val (.int (1 : Int32))] [(.int (1 : Int32))])
      refine Go.retN X7 hlk hx (t := .boolean) (z' := (1 : Int32)) Bd.returns (by simp) (hb hby at_258) (by decide) (by decide) rfl ?_
      show Q_rm0 Z _ _ _ _ _ _ _ _ _ _ h0 n0 _ T7.heap _
      rw [e7q]
      exact ⟨rfl, N7⟩
    · refine Go.st (fun t k => XS.ifYes X5.here hx rfl (pc0 := 95) (pc' := 102) rfl (hb hby at_95) rfl ((if0 _ _).trans (flt c95_6).2.1) (by decide) (by decide) k) ?_
      show Go _ _ _ _ _ _ _  T5 (mkF m 102 #[.val (.int p1), .val (.int p2), .val (.int p3), .val (.int p4), .val (.int (0 : Int32)), .val (.int (p4 &&& (3 : Int32))), .val (.long la), .second, .val (.long lb), .second, .val (.double (FP.l2d la)), .second, .val (.double (FP.l2d lb)), .second, .val (.long (la - lb)), .second, .val (.ref w_LESS), .unset] [])
      refine Go.st (fun t k => XS.iconst X5.here hx rfl (hb hby at_102) k) ?_
      show Go _ _ _ _ _ _ _  T5 (mkF m 103 #[.val (.int p1), .val (.int p2), .val (.int p3), .val (.int p4), .val (.int (0 : Int32)), .val (.int (p4 &&& (3 : Int32))), .val (.long la), .second, .val (.long lb), .second, .val (.double (FP.l2d la)), .second, .val (.double (FP.l2d lb)), .second, .val (.long (la - lb)), .second, .val (.ref w_LESS), .unset] [(.int (0 : Int32))])
      refine Go.st (fun t k => XS.istore X5.here hx rfl (hb hby at_103) rfl (l' := #[.val (.int p1), .val (.int p2), .val (.int p3), .val (.int p4), .val (.int (0 : Int32)), .val (.int (p4 &&& (3 : Int32))), .val (.long la), .second, .val (.long lb), .second, .val (.double (FP.l2d la)), .second, .val (.double (FP.l2d lb)), .second, .val (.long (la - lb)), .second, .val (.ref w_LESS), .val (.int (0 : Int32))]) rfl k) ?_
      show Go _ _ _ _ _ _ _  T5 (mkF m 105 #[.val (.int p1), .val (.int p2), .val (.int p3), .val (.int p4), .val (.int (0 : Int32)), .val (.int (p4 &&& (3 : Int32))), .val (.long la), .second, .val (.long lb), .second, .val (.double (FP.l2d la)), .second, .val (.double (FP.l2d lb)), .second, .val (.long (la - lb)), .second, .val (.ref w_LESS), .val (.int (0 : Int32))] [])
      refine Go.st (fun t k => XS.goto X5.here hx rfl (pc0 := 105) (pc' := 239) rfl (hb hby at_105) (by decide) (by decide) k) ?_
      show Go _ _ _ _ _ _ _  T5 (mkF m 239 #[.val (.int p1), .val (.int p2), .val (.int p3), .val (.int p4), .val (.int (0 : Int32)), .val (.int (p4 &&& (3 : Int32))), .val (.long la), .second, .val (.long lb), .second, .val (.double (FP.l2d la)), .second, .val (.double (FP.l2d lb)), .second, .val (.long (la - lb)), .second, .val (.ref w_LESS), .val (.int (0 : Int32))] [])
      refine Go.st (fun t k => XS.aload X5.here hx rfl (hb hby at_239) rfl rfl  k) ?_
      show Go _ _ _ _ _ _ _  T5 (mkF m 241 #[.val (.int p1), .val (.int p2), .val (.int p3), .val (.int p4), .val (.int (0 : Int32)), .val (.int (p4 &&& (3 : Int32))), .val (.long la), .second, .val (.long lb), .second, .val (.double (FP.l2d la)), .second, .val (.double (FP.l2d lb)), .second, .val (.long (la - lb)), .second, .val (.ref w_LESS), .val (.int (0 : Int32))] [(.ref w_LESS)])
      refine Go.st (fun t k => XS.dload X5.here hx rfl (hb hby at_241) rfl k) ?_
      show Go _ _ _ _ _ _ _  T5 (mkF m 243 #[.val (.int p1), .val (.int p2), .val (.int p3), .val (.int p4), .val (.int (0 : Int32)), .val (.int (p4 &&& (3 : Int32))), .val (.long la), .second, .val (.long lb), .second, .val (.double (FP.l2d la)), .second, .val (.double (FP.l2d lb)), .second, .val (.long (la - lb)), .second, .val (.ref w_LESS), .val (.int (0 : Int32))] [(.double (FP.l2d la)), (.ref w_LESS)])
      refine Go.st (fun t k => XS.dload X5.here hx rfl (hb hby at_243) rfl k) ?_
      show Go _ _ _ _ _ _ _  T5 (mkF m 245 #[.val (.int p1), .val (.int p2), .val (.int p3), .val (.int p4), .val (.int (0 : Int32)), .val (.int (p4 &&& (3 : Int32))), .val (.long la), .second, .val (.long lb), .second, .val (.double (FP.l2d la)), .second, .val (.double (FP.l2d lb)), .second, .val (.long (la - lb)), .second, .val (.ref w_LESS), .val (.int (0 : Int32))] [(.double (FP.l2d lb)), (.double (FP.l2d la)), (.ref w_LESS)])
      obtain ⟨cq8, kq8, q8a, q8b, q8c⟩ := isOf hZ e5 (E_LESS.ext O.2)
      obtain ⟨_, _, ⟨T8, L8, k8, n8⟩, -, X8, ⟨Lc8, hQ8, l8, y8, z8⟩, st8⟩ := X5.virtualBack hx (y := (⟨"com/example/sancho/sancho/model/ScriptExpression$ComparisonOperator", "holds", "(DD)Z"⟩ : MethodName)) (z := (⟨"com/example/sancho/sancho/model/ScriptExpression$ComparisonOperator", "holds", "(DD)Z"⟩ : MethodName)) hown (mvT hZ (hw _ (List.mem_of_getElem? (i := 4) rfl))) (mvT hZ (hw _ (List.mem_of_getElem? (i := 5) rfl))) (notFace_of_selects (args := #[]) (mvT hZ (hw _ (List.mem_of_getElem? (i := 7) rfl)))) (mvT hZ (hw _ (List.mem_of_getElem? (i := 7) rfl))) (mvT hZ (hw _ (List.mem_of_getElem? (i := 6) rfl))) (by decide) (backOf (W := 0) (rmS l Z a0 hw [] w_LESS 0 la lb h0 n0 O O_LESS E_LESS (by decide) hla hlb) hZ (hw _ (List.mem_of_getElem? (i := 8) rfl)) (hw _ (List.mem_of_getElem? (i := 2) rfl)) (by decide) (by decide)) q8a q8c (g := (mkF m 245 #[.val (.int p1), .val (.int p2), .val (.int p3), .val (.int p4), .val (.int (0 : Int32)), .val (.int (p4 &&& (3 : Int32))), .val (.long la), .second, .val (.long lb), .second, .val (.double (FP.l2d la)), .second, .val (.double (FP.l2d lb)), .second, .val (.long (la - lb)), .second, .val (.ref w_LESS), .val (.int (0 : Int32))] [(.double (FP.l2d lb)), (.double (FP.l2d la)), (.ref w_LESS)])) rfl (by rw [hml]; rfl) (Steps.refl _) (argsL := [(.double (FP.l2d la)), (.double (FP.l2d lb))]) (rest := []) (lenOf pd__DD_Z rfl) rfl (by show 2 * 0 + _ ≤ _; exact Nat.le_of_eq rfl) (hb hby at_245) (fun _ _ => ⟨rfl, e5, (by decide : 0 + 0 ≤ _), (by decide : 0 + 0 ≤ _)⟩)
      dsimp only [Pt.U, Pt.locs, Pt.cells, Pt.slots] at X8 l8 y8 z8 st8 hQ8
      subst l8 y8 z8
      obtain ⟨rfl, N8q, e8q⟩ := hQ8
      have N8 := Fr.app N0 N8q
      refine Go.tr st8 ?_
      rw [show holdF 0 (lcmpW la lb) = (0 : Int32) from by simp [holdF, c95_6]]
      show Go _ _ _ _ _ _ _  T8 (mkF m 248 #[.val (.int p1), .val (.int p2), .val (.int p3), .val (.int p4), .val (.int (0 : Int32)), .val (.int (p4 &&& (3 : Int32))), .val (.long la), .second, .val (.long lb), .second, .val (.double (FP.l2d la)), .second, .val (.double (FP.l2d lb)), .second, .val (.long (la - lb)), .second, .val (.ref w_LESS), .val (.int (0 : Int32))] [(.int (0 : Int32))])
      refine Go.st (fun t k => XS.iload X8.here hx rfl (hb hby at_248) rfl  k) ?_
      show Go _ _ _ _ _ _ _  T8 (mkF m 250 #[.val (.int p1), .val (.int p2), .val (.int p3), .val (.int p4), .val (.int (0 : Int32)), .val (.int (p4 &&& (3 : Int32))), .val (.long la), .second, .val (.long lb), .second, .val (.double (FP.l2d la)), .second, .val (.double (FP.l2d lb)), .second, .val (.long (la - lb)), .second, .val (.ref w_LESS), .val (.int (0 : Int32))] [(.int (0 : Int32)), (.int (0 : Int32))])
      refine Go.st (fun t k => XS.icmpNo X8.here hx rfl (hb hby at_250) rfl (teq (rfl : (0 : Int32) = (0 : Int32))).2 k) ?_
      show Go _ _ _ _ _ _ _  T8 (mkF m 253 #[.val (.int p1), .val (.int p2), .val (.int p3), .val (.int p4), .val (.int (0 : Int32)), .val (.int (p4 &&& (3 : Int32))), .val (.long la), .second, .val (.long lb), .second, .val (.double (FP.l2d la)), .second, .val (.double (FP.l2d lb)), .second, .val (.long (la - lb)), .second, .val (.ref w_LESS), .val (.int (0 : Int32))] [])
      refine Go.st (fun t k => XS.iconst X8.here hx rfl (hb hby at_253) k) ?_
      show Go _ _ _ _ _ _ _  T8 (mkF m 254 #[.val (.int p1), .val (.int p2), .val (.int p3), .val (.int p4), .val (.int (0 : Int32)), .val (.int (p4 &&& (3 : Int32))), .val (.long la), .second, .val (.long lb), .second, .val (.double (FP.l2d la)), .second, .val (.double (FP.l2d lb)), .second, .val (.long (la - lb)), .second, .val (.ref w_LESS), .val (.int (0 : Int32))] [(.int (1 : Int32))])
      refine Go.st (fun t k => XS.goto X8.here hx rfl (pc0 := 254) (pc' := 258) rfl (hb hby at_254) (by decide) (by decide) k) ?_
      show Go _ _ _ _ _ _ _  T8 (mkF m 258 #[.val (.int p1), .val (.int p2), .val (.int p3), .val (.int p4), .val (.int (0 : Int32)), .val (.int (p4 &&& (3 : Int32))), .val (.long la), .second, .val (.long lb), .second, .val (.double (FP.l2d la)), .second, .val (.double (FP.l2d lb)), .second, .val (.long (la - lb)), .second, .val (.ref w_LESS), .val (.int (0 : Int32))] [(.int (1 : Int32))])
      refine Go.retN X8 hlk hx (t := .boolean) (z' := (1 : Int32)) Bd.returns (by simp) (hb hby at_258) (by decide) (by decide) rfl ?_
      show Q_rm0 Z _ _ _ _ _ _ _ _ _ _ h0 n0 _ T8.heap _
      rw [e8q]
      exact ⟨rfl, N8⟩
  · rw [sp4]
    show Go _ _ _ _ _ _ _  s₁ (mkF m 81 #[.val (.int p1), .val (.int p2), .val (.int p3), .val (.int p4), .val (.int (1 : Int32)), .val (.int (p4 &&& (3 : Int32))), .val (.long la), .second, .val (.long lb), .second, .val (.double (FP.l2d la)), .second, .val (.double (FP.l2d lb)), .second, .val (.long (la - lb)), .second, .unset, .unset] [])
    refine Go.st (fun t k => XS.iload X0.here hx rfl (hb hby at_81) rfl  k) ?_
    show Go _ _ _ _ _ _ _  s₁ (mkF m 83 #[.val (.int p1), .val (.int p2), .val (.int p3), .val (.int p4), .val (.int (1 : Int32)), .val (.int (p4 &&& (3 : Int32))), .val (.long la), .second, .val (.long lb), .second, .val (.double (FP.l2d la)), .second, .val (.double (FP.l2d lb)), .second, .val (.long (la - lb)), .second, .unset, .unset] [(.int (1 : Int32))])
    refine Go.st (fun t k => XS.ifYes X0.here hx rfl (pc0 := 83) (pc' := 108) rfl (hb hby at_83) rfl ((if0 _ _).trans (feq (by decide : ¬ ((1 : Int32) = (0 : Int32)))).2) (by decide) (by decide) k) ?_
    show Go _ _ _ _ _ _ _  s₁ (mkF m 108 #[.val (.int p1), .val (.int p2), .val (.int p3), .val (.int p4), .val (.int (1 : Int32)), .val (.int (p4 &&& (3 : Int32))), .val (.long la), .second, .val (.long lb), .second, .val (.double (FP.l2d la)), .second, .val (.double (FP.l2d lb)), .second, .val (.long (la - lb)), .second, .unset, .unset] [])
    refine Go.st (fun t k => XS.iload X0.here hx rfl (hb hby at_108) rfl  k) ?_
    show Go _ _ _ _ _ _ _  s₁ (mkF m 110 #[.val (.int p1), .val (.int p2), .val (.int p3), .val (.int p4), .val (.int (1 : Int32)), .val (.int (p4 &&& (3 : Int32))), .val (.long la), .second, .val (.long lb), .second, .val (.double (FP.l2d la)), .second, .val (.double (FP.l2d lb)), .second, .val (.long (la - lb)), .second, .unset, .unset] [(.int (1 : Int32))])
    refine Go.st (fun t k => XS.iconst X0.here hx rfl (hb hby at_110) k) ?_
    show Go _ _ _ _ _ _ _  s₁ (mkF m 111 #[.val (.int p1), .val (.int p2), .val (.int p3), .val (.int p4), .val (.int (1 : Int32)), .val (.int (p4 &&& (3 : Int32))), .val (.long la), .second, .val (.long lb), .second, .val (.double (FP.l2d la)), .second, .val (.double (FP.l2d lb)), .second, .val (.long (la - lb)), .second, .unset, .unset] [(.int (1 : Int32)), (.int (1 : Int32))])
    refine Go.st (fun t k => XS.icmpNo X0.here hx rfl (hb hby at_111) rfl (teq (rfl : (1 : Int32) = (1 : Int32))).2 k) ?_
    show Go _ _ _ _ _ _ _  s₁ (mkF m 114 #[.val (.int p1), .val (.int p2), .val (.int p3), .val (.int p4), .val (.int (1 : Int32)), .val (.int (p4 &&& (3 : Int32))), .val (.long la), .second, .val (.long lb), .second, .val (.double (FP.l2d la)), .second, .val (.double (FP.l2d lb)), .second, .val (.long (la - lb)), .second, .unset, .unset] [])
    obtain ⟨T9, X9, e9, st9⟩ := getS2 X0 hx hZ hown (host := "") (Or.inl (hw _ (List.mem_of_getElem? (i := 18) rfl))) Via.refl e0 (S_LESS_OR_EQUAL.ext O.2) (g := (mkF m 114 #[.val (.int p1), .val (.int p2), .val (.int p3), .val (.int p4), .val (.int (1 : Int32)), .val (.int (p4 &&& (3 : Int32))), .val (.long la), .second, .val (.long lb), .second, .val (.double (FP.l2d la)), .second, .val (.double (FP.l2d lb)), .second, .val (.long (la - lb)), .second, .unset, .unset] [])) rfl (hb hby at_114)
    refine Go.st st9 ?_
    show Go _ _ _ _ _ _ _  T9 (mkF m 117 #[.val (.int p1), .val (.int p2), .val (.int p3), .val (.int p4), .val (.int (1 : Int32)), .val (.int (p4 &&& (3 : Int32))), .val (.long la), .second, .val (.long lb), .second, .val (.double (FP.l2d la)), .second, .val (.double (FP.l2d lb)), .second, .val (.long (la - lb)), .second, .unset, .unset] [(.ref w_LESS_OR_EQUAL)])
    refine Go.st (fun t k => XS.astore X9.here hx rfl (hb hby at_117) rfl rfl (l' := #[.val (.int p1), .val (.int p2), .val (.int p3), .val (.int p4), .val (.int (1 : Int32)), .val (.int (p4 &&& (3 : Int32))), .val (.long la), .second, .val (.long lb), .second, .val (.double (FP.l2d la)), .second, .val (.double (FP.l2d lb)), .second, .val (.long (la - lb)), .second, .val (.ref w_LESS_OR_EQUAL), .unset]) rfl k) ?_
    show Go _ _ _ _ _ _ _  T9 (mkF m 119 #[.val (.int p1), .val (.int p2), .val (.int p3), .val (.int p4), .val (.int (1 : Int32)), .val (.int (p4 &&& (3 : Int32))), .val (.long la), .second, .val (.long lb), .second, .val (.double (FP.l2d la)), .second, .val (.double (FP.l2d lb)), .second, .val (.long (la - lb)), .second, .val (.ref w_LESS_OR_EQUAL), .unset] [])
    refine Go.st (fun t k => XS.lload X9.here hx rfl (hb hby at_119) rfl  k) ?_
    show Go _ _ _ _ _ _ _  T9 (mkF m 121 #[.val (.int p1), .val (.int p2), .val (.int p3), .val (.int p4), .val (.int (1 : Int32)), .val (.int (p4 &&& (3 : Int32))), .val (.long la), .second, .val (.long lb), .second, .val (.double (FP.l2d la)), .second, .val (.double (FP.l2d lb)), .second, .val (.long (la - lb)), .second, .val (.ref w_LESS_OR_EQUAL), .unset] [(.long (la - lb))])
    refine Go.st (fun t k => XS.lconst X9.here hx rfl (hb hby at_121) k) ?_
    show Go _ _ _ _ _ _ _  T9 (mkF m 122 #[.val (.int p1), .val (.int p2), .val (.int p3), .val (.int p4), .val (.int (1 : Int32)), .val (.int (p4 &&& (3 : Int32))), .val (.long la), .second, .val (.long lb), .second, .val (.double (FP.l2d la)), .second, .val (.double (FP.l2d lb)), .second, .val (.long (la - lb)), .second, .val (.ref w_LESS_OR_EQUAL), .unset] [(.long (0 : Int64)), (.long (la - lb))])
    refine Go.st (fun t k => XS.lcmp X9.here hx rfl (hb hby at_122) rfl k) ?_
    show Go _ _ _ _ _ _ _  T9 (mkF m 123 #[.val (.int p1), .val (.int p2), .val (.int p3), .val (.int p4), .val (.int (1 : Int32)), .val (.int (p4 &&& (3 : Int32))), .val (.long la), .second, .val (.long lb), .second, .val (.double (FP.l2d la)), .second, .val (.double (FP.l2d lb)), .second, .val (.long (la - lb)), .second, .val (.ref w_LESS_OR_EQUAL), .unset] [(.int (lcmpW (la - lb) (0 : Int64)))])
    rw [own_cmp hla hlb]
    show Go _ _ _ _ _ _ _  T9 (mkF m 123 #[.val (.int p1), .val (.int p2), .val (.int p3), .val (.int p4), .val (.int (1 : Int32)), .val (.int (p4 &&& (3 : Int32))), .val (.long la), .second, .val (.long lb), .second, .val (.double (FP.l2d la)), .second, .val (.double (FP.l2d lb)), .second, .val (.long (la - lb)), .second, .val (.ref w_LESS_OR_EQUAL), .unset] [(.int (lcmpW la lb))])
    by_cases c123_10 : (0 : Int32) < (lcmpW la lb)
    · refine Go.st (fun t k => XS.ifYes X9.here hx rfl (pc0 := 123) (pc' := 130) rfl (hb hby at_123) rfl ((if0 _ _).trans (tlt c123_10).2.2.1) (by decide) (by decide) k) ?_
      show Go _ _ _ _ _ _ _  T9 (mkF m 130 #[.val (.int p1), .val (.int p2), .val (.int p3), .val (.int p4), .val (.int (1 : Int32)), .val (.int (p4 &&& (3 : Int32))), .val (.long la), .second, .val (.long lb), .second, .val (.double (FP.l2d la)), .second, .val (.double (FP.l2d lb)), .second, .val (.long (la - lb)), .second, .val (.ref w_LESS_OR_EQUAL), .unset] [])
      refine Go.st (fun t k => XS.iconst X9.here hx rfl (hb hby at_130) k) ?_
      show Go _ _ _ _ _ _ _  T9 (mkF m 131 #[.val (.int p1), .val (.int p2), .val (.int p3), .val (.int p4), .val (.int (1 : Int32)), .val (.int (p4 &&& (3 : Int32))), .val (.long la), .second, .val (.long lb), .second, .val (.double (FP.l2d la)), .second, .val (.double (FP.l2d lb)), .second, .val (.long (la - lb)), .second, .val (.ref w_LESS_OR_EQUAL), .unset] [(.int (0 : Int32))])
      refine Go.st (fun t k => XS.istore X9.here hx rfl (hb hby at_131) rfl (l' := #[.val (.int p1), .val (.int p2), .val (.int p3), .val (.int p4), .val (.int (1 : Int32)), .val (.int (p4 &&& (3 : Int32))), .val (.long la), .second, .val (.long lb), .second, .val (.double (FP.l2d la)), .second, .val (.double (FP.l2d lb)), .second, .val (.long (la - lb)), .second, .val (.ref w_LESS_OR_EQUAL), .val (.int (0 : Int32))]) rfl k) ?_
      show Go _ _ _ _ _ _ _  T9 (mkF m 133 #[.val (.int p1), .val (.int p2), .val (.int p3), .val (.int p4), .val (.int (1 : Int32)), .val (.int (p4 &&& (3 : Int32))), .val (.long la), .second, .val (.long lb), .second, .val (.double (FP.l2d la)), .second, .val (.double (FP.l2d lb)), .second, .val (.long (la - lb)), .second, .val (.ref w_LESS_OR_EQUAL), .val (.int (0 : Int32))] [])
      refine Go.st (fun t k => XS.goto X9.here hx rfl (pc0 := 133) (pc' := 239) rfl (hb hby at_133) (by decide) (by decide) k) ?_
      show Go _ _ _ _ _ _ _  T9 (mkF m 239 #[.val (.int p1), .val (.int p2), .val (.int p3), .val (.int p4), .val (.int (1 : Int32)), .val (.int (p4 &&& (3 : Int32))), .val (.long la), .second, .val (.long lb), .second, .val (.double (FP.l2d la)), .second, .val (.double (FP.l2d lb)), .second, .val (.long (la - lb)), .second, .val (.ref w_LESS_OR_EQUAL), .val (.int (0 : Int32))] [])
      refine Go.st (fun t k => XS.aload X9.here hx rfl (hb hby at_239) rfl rfl  k) ?_
      show Go _ _ _ _ _ _ _  T9 (mkF m 241 #[.val (.int p1), .val (.int p2), .val (.int p3), .val (.int p4), .val (.int (1 : Int32)), .val (.int (p4 &&& (3 : Int32))), .val (.long la), .second, .val (.long lb), .second, .val (.double (FP.l2d la)), .second, .val (.double (FP.l2d lb)), .second, .val (.long (la - lb)), .second, .val (.ref w_LESS_OR_EQUAL), .val (.int (0 : Int32))] [(.ref w_LESS_OR_EQUAL)])
      refine Go.st (fun t k => XS.dload X9.here hx rfl (hb hby at_241) rfl k) ?_
      show Go _ _ _ _ _ _ _  T9 (mkF m 243 #[.val (.int p1), .val (.int p2), .val (.int p3), .val (.int p4), .val (.int (1 : Int32)), .val (.int (p4 &&& (3 : Int32))), .val (.long la), .second, .val (.long lb), .second, .val (.double (FP.l2d la)), .second, .val (.double (FP.l2d lb)), .second, .val (.long (la - lb)), .second, .val (.ref w_LESS_OR_EQUAL), .val (.int (0 : Int32))] [(.double (FP.l2d la)), (.ref w_LESS_OR_EQUAL)])
      refine Go.st (fun t k => XS.dload X9.here hx rfl (hb hby at_243) rfl k) ?_
      show Go _ _ _ _ _ _ _  T9 (mkF m 245 #[.val (.int p1), .val (.int p2), .val (.int p3), .val (.int p4), .val (.int (1 : Int32)), .val (.int (p4 &&& (3 : Int32))), .val (.long la), .second, .val (.long lb), .second, .val (.double (FP.l2d la)), .second, .val (.double (FP.l2d lb)), .second, .val (.long (la - lb)), .second, .val (.ref w_LESS_OR_EQUAL), .val (.int (0 : Int32))] [(.double (FP.l2d lb)), (.double (FP.l2d la)), (.ref w_LESS_OR_EQUAL)])
      obtain ⟨cq11, kq11, q11a, q11b, q11c⟩ := isOf hZ e9 (E_LESS_OR_EQUAL.ext O.2)
      obtain ⟨_, _, ⟨T11, L11, k11, n11⟩, -, X11, ⟨Lc11, hQ11, l11, y11, z11⟩, st11⟩ := X9.virtualBack hx (y := (⟨"com/example/sancho/sancho/model/ScriptExpression$ComparisonOperator", "holds", "(DD)Z"⟩ : MethodName)) (z := (⟨"com/example/sancho/sancho/model/ScriptExpression$ComparisonOperator", "holds", "(DD)Z"⟩ : MethodName)) hown (mvT hZ (hw _ (List.mem_of_getElem? (i := 4) rfl))) (mvT hZ (hw _ (List.mem_of_getElem? (i := 5) rfl))) (notFace_of_selects (args := #[]) (mvT hZ (hw _ (List.mem_of_getElem? (i := 7) rfl)))) (mvT hZ (hw _ (List.mem_of_getElem? (i := 7) rfl))) (mvT hZ (hw _ (List.mem_of_getElem? (i := 6) rfl))) (by decide) (backOf (W := 0) (rmS l Z a0 hw [] w_LESS_OR_EQUAL 1 la lb h0 n0 O O_LESS_OR_EQUAL E_LESS_OR_EQUAL (by decide) hla hlb) hZ (hw _ (List.mem_of_getElem? (i := 8) rfl)) (hw _ (List.mem_of_getElem? (i := 2) rfl)) (by decide) (by decide)) q11a q11c (g := (mkF m 245 #[.val (.int p1), .val (.int p2), .val (.int p3), .val (.int p4), .val (.int (1 : Int32)), .val (.int (p4 &&& (3 : Int32))), .val (.long la), .second, .val (.long lb), .second, .val (.double (FP.l2d la)), .second, .val (.double (FP.l2d lb)), .second, .val (.long (la - lb)), .second, .val (.ref w_LESS_OR_EQUAL), .val (.int (0 : Int32))] [(.double (FP.l2d lb)), (.double (FP.l2d la)), (.ref w_LESS_OR_EQUAL)])) rfl (by rw [hml]; rfl) (Steps.refl _) (argsL := [(.double (FP.l2d la)), (.double (FP.l2d lb))]) (rest := []) (lenOf pd__DD_Z rfl) rfl (by show 2 * 0 + _ ≤ _; exact Nat.le_of_eq rfl) (hb hby at_245) (fun _ _ => ⟨rfl, e9, (by decide : 0 + 0 ≤ _), (by decide : 0 + 0 ≤ _)⟩)
      dsimp only [Pt.U, Pt.locs, Pt.cells, Pt.slots] at X11 l11 y11 z11 st11 hQ11
      subst l11 y11 z11
      obtain ⟨rfl, N11q, e11q⟩ := hQ11
      have N11 := Fr.app N0 N11q
      refine Go.tr st11 ?_
      rw [show holdF 1 (lcmpW la lb) = (0 : Int32) from by simp [holdF, c123_10]]
      show Go _ _ _ _ _ _ _  T11 (mkF m 248 #[.val (.int p1), .val (.int p2), .val (.int p3), .val (.int p4), .val (.int (1 : Int32)), .val (.int (p4 &&& (3 : Int32))), .val (.long la), .second, .val (.long lb), .second, .val (.double (FP.l2d la)), .second, .val (.double (FP.l2d lb)), .second, .val (.long (la - lb)), .second, .val (.ref w_LESS_OR_EQUAL), .val (.int (0 : Int32))] [(.int (0 : Int32))])
      refine Go.st (fun t k => XS.iload X11.here hx rfl (hb hby at_248) rfl  k) ?_
      show Go _ _ _ _ _ _ _  T11 (mkF m 250 #[.val (.int p1), .val (.int p2), .val (.int p3), .val (.int p4), .val (.int (1 : Int32)), .val (.int (p4 &&& (3 : Int32))), .val (.long la), .second, .val (.long lb), .second, .val (.double (FP.l2d la)), .second, .val (.double (FP.l2d lb)), .second, .val (.long (la - lb)), .second, .val (.ref w_LESS_OR_EQUAL), .val (.int (0 : Int32))] [(.int (0 : Int32)), (.int (0 : Int32))])
      refine Go.st (fun t k => XS.icmpNo X11.here hx rfl (hb hby at_250) rfl (teq (rfl : (0 : Int32) = (0 : Int32))).2 k) ?_
      show Go _ _ _ _ _ _ _  T11 (mkF m 253 #[.val (.int p1), .val (.int p2), .val (.int p3), .val (.int p4), .val (.int (1 : Int32)), .val (.int (p4 &&& (3 : Int32))), .val (.long la), .second, .val (.long lb), .second, .val (.double (FP.l2d la)), .second, .val (.double (FP.l2d lb)), .second, .val (.long (la - lb)), .second, .val (.ref w_LESS_OR_EQUAL), .val (.int (0 : Int32))] [])
      refine Go.st (fun t k => XS.iconst X11.here hx rfl (hb hby at_253) k) ?_
      show Go _ _ _ _ _ _ _  T11 (mkF m 254 #[.val (.int p1), .val (.int p2), .val (.int p3), .val (.int p4), .val (.int (1 : Int32)), .val (.int (p4 &&& (3 : Int32))), .val (.long la), .second, .val (.long lb), .second, .val (.double (FP.l2d la)), .second, .val (.double (FP.l2d lb)), .second, .val (.long (la - lb)), .second, .val (.ref w_LESS_OR_EQUAL), .val (.int (0 : Int32))] [(.int (1 : Int32))])
      refine Go.st (fun t k => XS.goto X11.here hx rfl (pc0 := 254) (pc' := 258) rfl (hb hby at_254) (by decide) (by decide) k) ?_
      show Go _ _ _ _ _ _ _  T11 (mkF m 258 #[.val (.int p1), .val (.int p2), .val (.int p3), .val (.int p4), .val (.int (1 : Int32)), .val (.int (p4 &&& (3 : Int32))), .val (.long la), .second, .val (.long lb), .second, .val (.double (FP.l2d la)), .second, .val (.double (FP.l2d lb)), .second, .val (.long (la - lb)), .second, .val (.ref w_LESS_OR_EQUAL), .val (.int (0 : Int32))] [(.int (1 : Int32))])
      refine Go.retN X11 hlk hx (t := .boolean) (z' := (1 : Int32)) Bd.returns (by simp) (hb hby at_258) (by decide) (by decide) rfl ?_
      show Q_rm0 Z _ _ _ _ _ _ _ _ _ _ h0 n0 _ T11.heap _
      rw [e11q]
      exact ⟨rfl, N11⟩
    · refine Go.st (fun t k => XS.ifNo X9.here hx rfl (hb hby at_123) rfl ((if0 _ _).trans (flt c123_10).2.2.1) k) ?_
      show Go _ _ _ _ _ _ _  T9 (mkF m 126 #[.val (.int p1), .val (.int p2), .val (.int p3), .val (.int p4), .val (.int (1 : Int32)), .val (.int (p4 &&& (3 : Int32))), .val (.long la), .second, .val (.long lb), .second, .val (.double (FP.l2d la)), .second, .val (.double (FP.l2d lb)), .second, .val (.long (la - lb)), .second, .val (.ref w_LESS_OR_EQUAL), .unset] [])
      refine Go.st (fun t k => XS.iconst X9.here hx rfl (hb hby at_126) k) ?_
      show Go _ _ _ _ _ _ _  T9 (mkF m 127 #[.val (.int p1), .val (.int p2), .val (.int p3), .val (.int p4), .val (.int (1 : Int32)), .val (.int (p4 &&& (3 : Int32))), .val (.long la), .second, .val (.long lb), .second, .val (.double (FP.l2d la)), .second, .val (.double (FP.l2d lb)), .second, .val (.long (la - lb)), .second, .val (.ref w_LESS_OR_EQUAL), .unset] [(.int (1 : Int32))])
      refine Go.st (fun t k => XS.goto X9.here hx rfl (pc0 := 127) (pc' := 131) rfl (hb hby at_127) (by decide) (by decide) k) ?_
      show Go _ _ _ _ _ _ _  T9 (mkF m 131 #[.val (.int p1), .val (.int p2), .val (.int p3), .val (.int p4), .val (.int (1 : Int32)), .val (.int (p4 &&& (3 : Int32))), .val (.long la), .second, .val (.long lb), .second, .val (.double (FP.l2d la)), .second, .val (.double (FP.l2d lb)), .second, .val (.long (la - lb)), .second, .val (.ref w_LESS_OR_EQUAL), .unset] [(.int (1 : Int32))])
      refine Go.st (fun t k => XS.istore X9.here hx rfl (hb hby at_131) rfl (l' := #[.val (.int p1), .val (.int p2), .val (.int p3), .val (.int p4), .val (.int (1 : Int32)), .val (.int (p4 &&& (3 : Int32))), .val (.long la), .second, .val (.long lb), .second, .val (.double (FP.l2d la)), .second, .val (.double (FP.l2d lb)), .second, .val (.long (la - lb)), .second, .val (.ref w_LESS_OR_EQUAL), .val (.int (1 : Int32))]) rfl k) ?_
      show Go _ _ _ _ _ _ _  T9 (mkF m 133 #[.val (.int p1), .val (.int p2), .val (.int p3), .val (.int p4), .val (.int (1 : Int32)), .val (.int (p4 &&& (3 : Int32))), .val (.long la), .second, .val (.long lb), .second, .val (.double (FP.l2d la)), .second, .val (.double (FP.l2d lb)), .second, .val (.long (la - lb)), .second, .val (.ref w_LESS_OR_EQUAL), .val (.int (1 : Int32))] [])
      refine Go.st (fun t k => XS.goto X9.here hx rfl (pc0 := 133) (pc' := 239) rfl (hb hby at_133) (by decide) (by decide) k) ?_
      show Go _ _ _ _ _ _ _  T9 (mkF m 239 #[.val (.int p1), .val (.int p2), .val (.int p3), .val (.int p4), .val (.int (1 : Int32)), .val (.int (p4 &&& (3 : Int32))), .val (.long la), .second, .val (.long lb), .second, .val (.double (FP.l2d la)), .second, .val (.double (FP.l2d lb)), .second, .val (.long (la - lb)), .second, .val (.ref w_LESS_OR_EQUAL), .val (.int (1 : Int32))] [])
      refine Go.st (fun t k => XS.aload X9.here hx rfl (hb hby at_239) rfl rfl  k) ?_
      show Go _ _ _ _ _ _ _  T9 (mkF m 241 #[.val (.int p1), .val (.int p2), .val (.int p3), .val (.int p4), .val (.int (1 : Int32)), .val (.int (p4 &&& (3 : Int32))), .val (.long la), .second, .val (.long lb), .second, .val (.double (FP.l2d la)), .second, .val (.double (FP.l2d lb)), .second, .val (.long (la - lb)), .second, .val (.ref w_LESS_OR_EQUAL), .val (.int (1 : Int32))] [(.ref w_LESS_OR_EQUAL)])
      refine Go.st (fun t k => XS.dload X9.here hx rfl (hb hby at_241) rfl k) ?_
      show Go _ _ _ _ _ _ _  T9 (mkF m 243 #[.val (.int p1), .val (.int p2), .val (.int p3), .val (.int p4), .val (.int (1 : Int32)), .val (.int (p4 &&& (3 : Int32))), .val (.long la), .second, .val (.long lb), .second, .val (.double (FP.l2d la)), .second, .val (.double (FP.l2d lb)), .second, .val (.long (la - lb)), .second, .val (.ref w_LESS_OR_EQUAL), .val (.int (1 : Int32))] [(.double (FP.l2d la)), (.ref w_LESS_OR_EQUAL)])
      refine Go.st (fun t k => XS.dload X9.here hx rfl (hb hby at_243) rfl k) ?_
      show Go _ _ _ _ _ _ _  T9 (mkF m 245 #[.val (.int p1), .val (.int p2), .val (.int p3), .val (.int p4), .val (.int (1 : Int32)), .val (.int (p4 &&& (3 : Int32))), .val (.long la), .second, .val (.long lb), .second, .val (.double (FP.l2d la)), .second, .val (.double (FP.l2d lb)), .second, .val (.long (la - lb)), .second, .val (.ref w_LESS_OR_EQUAL), .val (.int (1 : Int32))] [(.double (FP.l2d lb)), (.double (FP.l2d la)), (.ref w_LESS_OR_EQUAL)])
      obtain ⟨cq12, kq12, q12a, q12b, q12c⟩ := isOf hZ e9 (E_LESS_OR_EQUAL.ext O.2)
      obtain ⟨_, _, ⟨T12, L12, k12, n12⟩, -, X12, ⟨Lc12, hQ12, l12, y12, z12⟩, st12⟩ := X9.virtualBack hx (y := (⟨"com/example/sancho/sancho/model/ScriptExpression$ComparisonOperator", "holds", "(DD)Z"⟩ : MethodName)) (z := (⟨"com/example/sancho/sancho/model/ScriptExpression$ComparisonOperator", "holds", "(DD)Z"⟩ : MethodName)) hown (mvT hZ (hw _ (List.mem_of_getElem? (i := 4) rfl))) (mvT hZ (hw _ (List.mem_of_getElem? (i := 5) rfl))) (notFace_of_selects (args := #[]) (mvT hZ (hw _ (List.mem_of_getElem? (i := 7) rfl)))) (mvT hZ (hw _ (List.mem_of_getElem? (i := 7) rfl))) (mvT hZ (hw _ (List.mem_of_getElem? (i := 6) rfl))) (by decide) (backOf (W := 0) (rmS l Z a0 hw [] w_LESS_OR_EQUAL 1 la lb h0 n0 O O_LESS_OR_EQUAL E_LESS_OR_EQUAL (by decide) hla hlb) hZ (hw _ (List.mem_of_getElem? (i := 8) rfl)) (hw _ (List.mem_of_getElem? (i := 2) rfl)) (by decide) (by decide)) q12a q12c (g := (mkF m 245 #[.val (.int p1), .val (.int p2), .val (.int p3), .val (.int p4), .val (.int (1 : Int32)), .val (.int (p4 &&& (3 : Int32))), .val (.long la), .second, .val (.long lb), .second, .val (.double (FP.l2d la)), .second, .val (.double (FP.l2d lb)), .second, .val (.long (la - lb)), .second, .val (.ref w_LESS_OR_EQUAL), .val (.int (1 : Int32))] [(.double (FP.l2d lb)), (.double (FP.l2d la)), (.ref w_LESS_OR_EQUAL)])) rfl (by rw [hml]; rfl) (Steps.refl _) (argsL := [(.double (FP.l2d la)), (.double (FP.l2d lb))]) (rest := []) (lenOf pd__DD_Z rfl) rfl (by show 2 * 0 + _ ≤ _; exact Nat.le_of_eq rfl) (hb hby at_245) (fun _ _ => ⟨rfl, e9, (by decide : 0 + 0 ≤ _), (by decide : 0 + 0 ≤ _)⟩)
      dsimp only [Pt.U, Pt.locs, Pt.cells, Pt.slots] at X12 l12 y12 z12 st12 hQ12
      subst l12 y12 z12
      obtain ⟨rfl, N12q, e12q⟩ := hQ12
      have N12 := Fr.app N0 N12q
      refine Go.tr st12 ?_
      rw [show holdF 1 (lcmpW la lb) = (1 : Int32) from by simp [holdF, c123_10]]
      show Go _ _ _ _ _ _ _  T12 (mkF m 248 #[.val (.int p1), .val (.int p2), .val (.int p3), .val (.int p4), .val (.int (1 : Int32)), .val (.int (p4 &&& (3 : Int32))), .val (.long la), .second, .val (.long lb), .second, .val (.double (FP.l2d la)), .second, .val (.double (FP.l2d lb)), .second, .val (.long (la - lb)), .second, .val (.ref w_LESS_OR_EQUAL), .val (.int (1 : Int32))] [(.int (1 : Int32))])
      refine Go.st (fun t k => XS.iload X12.here hx rfl (hb hby at_248) rfl  k) ?_
      show Go _ _ _ _ _ _ _  T12 (mkF m 250 #[.val (.int p1), .val (.int p2), .val (.int p3), .val (.int p4), .val (.int (1 : Int32)), .val (.int (p4 &&& (3 : Int32))), .val (.long la), .second, .val (.long lb), .second, .val (.double (FP.l2d la)), .second, .val (.double (FP.l2d lb)), .second, .val (.long (la - lb)), .second, .val (.ref w_LESS_OR_EQUAL), .val (.int (1 : Int32))] [(.int (1 : Int32)), (.int (1 : Int32))])
      refine Go.st (fun t k => XS.icmpNo X12.here hx rfl (hb hby at_250) rfl (teq (rfl : (1 : Int32) = (1 : Int32))).2 k) ?_
      show Go _ _ _ _ _ _ _  T12 (mkF m 253 #[.val (.int p1), .val (.int p2), .val (.int p3), .val (.int p4), .val (.int (1 : Int32)), .val (.int (p4 &&& (3 : Int32))), .val (.long la), .second, .val (.long lb), .second, .val (.double (FP.l2d la)), .second, .val (.double (FP.l2d lb)), .second, .val (.long (la - lb)), .second, .val (.ref w_LESS_OR_EQUAL), .val (.int (1 : Int32))] [])
      refine Go.st (fun t k => XS.iconst X12.here hx rfl (hb hby at_253) k) ?_
      show Go _ _ _ _ _ _ _  T12 (mkF m 254 #[.val (.int p1), .val (.int p2), .val (.int p3), .val (.int p4), .val (.int (1 : Int32)), .val (.int (p4 &&& (3 : Int32))), .val (.long la), .second, .val (.long lb), .second, .val (.double (FP.l2d la)), .second, .val (.double (FP.l2d lb)), .second, .val (.long (la - lb)), .second, .val (.ref w_LESS_OR_EQUAL), .val (.int (1 : Int32))] [(.int (1 : Int32))])
      refine Go.st (fun t k => XS.goto X12.here hx rfl (pc0 := 254) (pc' := 258) rfl (hb hby at_254) (by decide) (by decide) k) ?_
      show Go _ _ _ _ _ _ _  T12 (mkF m 258 #[.val (.int p1), .val (.int p2), .val (.int p3), .val (.int p4), .val (.int (1 : Int32)), .val (.int (p4 &&& (3 : Int32))), .val (.long la), .second, .val (.long lb), .second, .val (.double (FP.l2d la)), .second, .val (.double (FP.l2d lb)), .second, .val (.long (la - lb)), .second, .val (.ref w_LESS_OR_EQUAL), .val (.int (1 : Int32))] [(.int (1 : Int32))])
      refine Go.retN X12 hlk hx (t := .boolean) (z' := (1 : Int32)) Bd.returns (by simp) (hb hby at_258) (by decide) (by decide) rfl ?_
      show Q_rm0 Z _ _ _ _ _ _ _ _ _ _ h0 n0 _ T12.heap _
      rw [e12q]
      exact ⟨rfl, N12⟩
  · rw [sp4]
    show Go _ _ _ _ _ _ _  s₁ (mkF m 81 #[.val (.int p1), .val (.int p2), .val (.int p3), .val (.int p4), .val (.int (2 : Int32)), .val (.int (p4 &&& (3 : Int32))), .val (.long la), .second, .val (.long lb), .second, .val (.double (FP.l2d la)), .second, .val (.double (FP.l2d lb)), .second, .val (.long (la - lb)), .second, .unset, .unset] [])
    refine Go.st (fun t k => XS.iload X0.here hx rfl (hb hby at_81) rfl  k) ?_
    show Go _ _ _ _ _ _ _  s₁ (mkF m 83 #[.val (.int p1), .val (.int p2), .val (.int p3), .val (.int p4), .val (.int (2 : Int32)), .val (.int (p4 &&& (3 : Int32))), .val (.long la), .second, .val (.long lb), .second, .val (.double (FP.l2d la)), .second, .val (.double (FP.l2d lb)), .second, .val (.long (la - lb)), .second, .unset, .unset] [(.int (2 : Int32))])
    refine Go.st (fun t k => XS.ifYes X0.here hx rfl (pc0 := 83) (pc' := 108) rfl (hb hby at_83) rfl ((if0 _ _).trans (feq (by decide : ¬ ((2 : Int32) = (0 : Int32)))).2) (by decide) (by decide) k) ?_
    show Go _ _ _ _ _ _ _  s₁ (mkF m 108 #[.val (.int p1), .val (.int p2), .val (.int p3), .val (.int p4), .val (.int (2 : Int32)), .val (.int (p4 &&& (3 : Int32))), .val (.long la), .second, .val (.long lb), .second, .val (.double (FP.l2d la)), .second, .val (.double (FP.l2d lb)), .second, .val (.long (la - lb)), .second, .unset, .unset] [])
    refine Go.st (fun t k => XS.iload X0.here hx rfl (hb hby at_108) rfl  k) ?_
    show Go _ _ _ _ _ _ _  s₁ (mkF m 110 #[.val (.int p1), .val (.int p2), .val (.int p3), .val (.int p4), .val (.int (2 : Int32)), .val (.int (p4 &&& (3 : Int32))), .val (.long la), .second, .val (.long lb), .second, .val (.double (FP.l2d la)), .second, .val (.double (FP.l2d lb)), .second, .val (.long (la - lb)), .second, .unset, .unset] [(.int (2 : Int32))])
    refine Go.st (fun t k => XS.iconst X0.here hx rfl (hb hby at_110) k) ?_
    show Go _ _ _ _ _ _ _  s₁ (mkF m 111 #[.val (.int p1), .val (.int p2), .val (.int p3), .val (.int p4), .val (.int (2 : Int32)), .val (.int (p4 &&& (3 : Int32))), .val (.long la), .second, .val (.long lb), .second, .val (.double (FP.l2d la)), .second, .val (.double (FP.l2d lb)), .second, .val (.long (la - lb)), .second, .unset, .unset] [(.int (1 : Int32)), (.int (2 : Int32))])
    refine Go.st (fun t k => XS.icmpYes X0.here hx rfl (pc0 := 111) (pc' := 136) rfl (hb hby at_111) rfl (feq (by decide : ¬ ((2 : Int32) = (1 : Int32)))).2 (by decide) (by decide) k) ?_
    show Go _ _ _ _ _ _ _  s₁ (mkF m 136 #[.val (.int p1), .val (.int p2), .val (.int p3), .val (.int p4), .val (.int (2 : Int32)), .val (.int (p4 &&& (3 : Int32))), .val (.long la), .second, .val (.long lb), .second, .val (.double (FP.l2d la)), .second, .val (.double (FP.l2d lb)), .second, .val (.long (la - lb)), .second, .unset, .unset] [])
    refine Go.st (fun t k => XS.iload X0.here hx rfl (hb hby at_136) rfl  k) ?_
    show Go _ _ _ _ _ _ _  s₁ (mkF m 138 #[.val (.int p1), .val (.int p2), .val (.int p3), .val (.int p4), .val (.int (2 : Int32)), .val (.int (p4 &&& (3 : Int32))), .val (.long la), .second, .val (.long lb), .second, .val (.double (FP.l2d la)), .second, .val (.double (FP.l2d lb)), .second, .val (.long (la - lb)), .second, .unset, .unset] [(.int (2 : Int32))])
    refine Go.st (fun t k => XS.iconst X0.here hx rfl (hb hby at_138) k) ?_
    show Go _ _ _ _ _ _ _  s₁ (mkF m 139 #[.val (.int p1), .val (.int p2), .val (.int p3), .val (.int p4), .val (.int (2 : Int32)), .val (.int (p4 &&& (3 : Int32))), .val (.long la), .second, .val (.long lb), .second, .val (.double (FP.l2d la)), .second, .val (.double (FP.l2d lb)), .second, .val (.long (la - lb)), .second, .unset, .unset] [(.int (2 : Int32)), (.int (2 : Int32))])
    refine Go.st (fun t k => XS.icmpNo X0.here hx rfl (hb hby at_139) rfl (teq (rfl : (2 : Int32) = (2 : Int32))).2 k) ?_
    show Go _ _ _ _ _ _ _  s₁ (mkF m 142 #[.val (.int p1), .val (.int p2), .val (.int p3), .val (.int p4), .val (.int (2 : Int32)), .val (.int (p4 &&& (3 : Int32))), .val (.long la), .second, .val (.long lb), .second, .val (.double (FP.l2d la)), .second, .val (.double (FP.l2d lb)), .second, .val (.long (la - lb)), .second, .unset, .unset] [])
    obtain ⟨T13, X13, e13, st13⟩ := getS2 X0 hx hZ hown (host := "") (Or.inl (hw _ (List.mem_of_getElem? (i := 26) rfl))) Via.refl e0 (S_GREATER.ext O.2) (g := (mkF m 142 #[.val (.int p1), .val (.int p2), .val (.int p3), .val (.int p4), .val (.int (2 : Int32)), .val (.int (p4 &&& (3 : Int32))), .val (.long la), .second, .val (.long lb), .second, .val (.double (FP.l2d la)), .second, .val (.double (FP.l2d lb)), .second, .val (.long (la - lb)), .second, .unset, .unset] [])) rfl (hb hby at_142)
    refine Go.st st13 ?_
    show Go _ _ _ _ _ _ _  T13 (mkF m 145 #[.val (.int p1), .val (.int p2), .val (.int p3), .val (.int p4), .val (.int (2 : Int32)), .val (.int (p4 &&& (3 : Int32))), .val (.long la), .second, .val (.long lb), .second, .val (.double (FP.l2d la)), .second, .val (.double (FP.l2d lb)), .second, .val (.long (la - lb)), .second, .unset, .unset] [(.ref w_GREATER)])
    refine Go.st (fun t k => XS.astore X13.here hx rfl (hb hby at_145) rfl rfl (l' := #[.val (.int p1), .val (.int p2), .val (.int p3), .val (.int p4), .val (.int (2 : Int32)), .val (.int (p4 &&& (3 : Int32))), .val (.long la), .second, .val (.long lb), .second, .val (.double (FP.l2d la)), .second, .val (.double (FP.l2d lb)), .second, .val (.long (la - lb)), .second, .val (.ref w_GREATER), .unset]) rfl k) ?_
    show Go _ _ _ _ _ _ _  T13 (mkF m 147 #[.val (.int p1), .val (.int p2), .val (.int p3), .val (.int p4), .val (.int (2 : Int32)), .val (.int (p4 &&& (3 : Int32))), .val (.long la), .second, .val (.long lb), .second, .val (.double (FP.l2d la)), .second, .val (.double (FP.l2d lb)), .second, .val (.long (la - lb)), .second, .val (.ref w_GREATER), .unset] [])
    refine Go.st (fun t k => XS.lload X13.here hx rfl (hb hby at_147) rfl  k) ?_
    show Go _ _ _ _ _ _ _  T13 (mkF m 149 #[.val (.int p1), .val (.int p2), .val (.int p3), .val (.int p4), .val (.int (2 : Int32)), .val (.int (p4 &&& (3 : Int32))), .val (.long la), .second, .val (.long lb), .second, .val (.double (FP.l2d la)), .second, .val (.double (FP.l2d lb)), .second, .val (.long (la - lb)), .second, .val (.ref w_GREATER), .unset] [(.long (la - lb))])
    refine Go.st (fun t k => XS.lconst X13.here hx rfl (hb hby at_149) k) ?_
    show Go _ _ _ _ _ _ _  T13 (mkF m 150 #[.val (.int p1), .val (.int p2), .val (.int p3), .val (.int p4), .val (.int (2 : Int32)), .val (.int (p4 &&& (3 : Int32))), .val (.long la), .second, .val (.long lb), .second, .val (.double (FP.l2d la)), .second, .val (.double (FP.l2d lb)), .second, .val (.long (la - lb)), .second, .val (.ref w_GREATER), .unset] [(.long (0 : Int64)), (.long (la - lb))])
    refine Go.st (fun t k => XS.lcmp X13.here hx rfl (hb hby at_150) rfl k) ?_
    show Go _ _ _ _ _ _ _  T13 (mkF m 151 #[.val (.int p1), .val (.int p2), .val (.int p3), .val (.int p4), .val (.int (2 : Int32)), .val (.int (p4 &&& (3 : Int32))), .val (.long la), .second, .val (.long lb), .second, .val (.double (FP.l2d la)), .second, .val (.double (FP.l2d lb)), .second, .val (.long (la - lb)), .second, .val (.ref w_GREATER), .unset] [(.int (lcmpW (la - lb) (0 : Int64)))])
    rw [own_cmp hla hlb]
    show Go _ _ _ _ _ _ _  T13 (mkF m 151 #[.val (.int p1), .val (.int p2), .val (.int p3), .val (.int p4), .val (.int (2 : Int32)), .val (.int (p4 &&& (3 : Int32))), .val (.long la), .second, .val (.long lb), .second, .val (.double (FP.l2d la)), .second, .val (.double (FP.l2d lb)), .second, .val (.long (la - lb)), .second, .val (.ref w_GREATER), .unset] [(.int (lcmpW la lb))])
    by_cases c151_14 : (0 : Int32) < (lcmpW la lb)
    · refine Go.st (fun t k => XS.ifNo X13.here hx rfl (hb hby at_151) rfl ((if0 _ _).trans (tlt c151_14).2.2.2) k) ?_
      show Go _ _ _ _ _ _ _  T13 (mkF m 154 #[.val (.int p1), .val (.int p2), .val (.int p3), .val (.int p4), .val (.int (2 : Int32)), .val (.int (p4 &&& (3 : Int32))), .val (.long la), .second, .val (.long lb), .second, .val (.double (FP.l2d la)), .second, .val (.double (FP.l2d lb)), .second, .val (.long (la - lb)), .second, .val (.ref w_GREATER), .unset] [])
      refine Go.st (fun t k => XS.iconst X13.here hx rfl (hb hby at_154) k) ?_
      show Go _ _ _ _ _ _ _  T13 (mkF m 155 #[.val (.int p1), .val (.int p2), .val (.int p3), .val (.int p4), .val (.int (2 : Int32)), .val (.int (p4 &&& (3 : Int32))), .val (.long la), .second, .val (.long lb), .second, .val (.double (FP.l2d la)), .second, .val (.double (FP.l2d lb)), .second, .val (.long (la - lb)), .second, .val (.ref w_GREATER), .unset] [(.int (1 : Int32))])
      refine Go.st (fun t k => XS.goto X13.here hx rfl (pc0 := 155) (pc' := 159) rfl (hb hby at_155) (by decide) (by decide) k) ?_
      show Go _ _ _ _ _ _ _  T13 (mkF m 159 #[.val (.int p1), .val (.int p2), .val (.int p3), .val (.int p4), .val (.int (2 : Int32)), .val (.int (p4 &&& (3 : Int32))), .val (.long la), .second, .val (.long lb), .second, .val (.double (FP.l2d la)), .second, .val (.double (FP.l2d lb)), .second, .val (.long (la - lb)), .second, .val (.ref w_GREATER), .unset] [(.int (1 : Int32))])
      refine Go.st (fun t k => XS.istore X13.here hx rfl (hb hby at_159) rfl (l' := #[.val (.int p1), .val (.int p2), .val (.int p3), .val (.int p4), .val (.int (2 : Int32)), .val (.int (p4 &&& (3 : Int32))), .val (.long la), .second, .val (.long lb), .second, .val (.double (FP.l2d la)), .second, .val (.double (FP.l2d lb)), .second, .val (.long (la - lb)), .second, .val (.ref w_GREATER), .val (.int (1 : Int32))]) rfl k) ?_
      show Go _ _ _ _ _ _ _  T13 (mkF m 161 #[.val (.int p1), .val (.int p2), .val (.int p3), .val (.int p4), .val (.int (2 : Int32)), .val (.int (p4 &&& (3 : Int32))), .val (.long la), .second, .val (.long lb), .second, .val (.double (FP.l2d la)), .second, .val (.double (FP.l2d lb)), .second, .val (.long (la - lb)), .second, .val (.ref w_GREATER), .val (.int (1 : Int32))] [])
      refine Go.st (fun t k => XS.goto X13.here hx rfl (pc0 := 161) (pc' := 239) rfl (hb hby at_161) (by decide) (by decide) k) ?_
      show Go _ _ _ _ _ _ _  T13 (mkF m 239 #[.val (.int p1), .val (.int p2), .val (.int p3), .val (.int p4), .val (.int (2 : Int32)), .val (.int (p4 &&& (3 : Int32))), .val (.long la), .second, .val (.long lb), .second, .val (.double (FP.l2d la)), .second, .val (.double (FP.l2d lb)), .second, .val (.long (la - lb)), .second, .val (.ref w_GREATER), .val (.int (1 : Int32))] [])
      refine Go.st (fun t k => XS.aload X13.here hx rfl (hb hby at_239) rfl rfl  k) ?_
      show Go _ _ _ _ _ _ _  T13 (mkF m 241 #[.val (.int p1), .val (.int p2), .val (.int p3), .val (.int p4), .val (.int (2 : Int32)), .val (.int (p4 &&& (3 : Int32))), .val (.long la), .second, .val (.long lb), .second, .val (.double (FP.l2d la)), .second, .val (.double (FP.l2d lb)), .second, .val (.long (la - lb)), .second, .val (.ref w_GREATER), .val (.int (1 : Int32))] [(.ref w_GREATER)])
      refine Go.st (fun t k => XS.dload X13.here hx rfl (hb hby at_241) rfl k) ?_
      show Go _ _ _ _ _ _ _  T13 (mkF m 243 #[.val (.int p1), .val (.int p2), .val (.int p3), .val (.int p4), .val (.int (2 : Int32)), .val (.int (p4 &&& (3 : Int32))), .val (.long la), .second, .val (.long lb), .second, .val (.double (FP.l2d la)), .second, .val (.double (FP.l2d lb)), .second, .val (.long (la - lb)), .second, .val (.ref w_GREATER), .val (.int (1 : Int32))] [(.double (FP.l2d la)), (.ref w_GREATER)])
      refine Go.st (fun t k => XS.dload X13.here hx rfl (hb hby at_243) rfl k) ?_
      show Go _ _ _ _ _ _ _  T13 (mkF m 245 #[.val (.int p1), .val (.int p2), .val (.int p3), .val (.int p4), .val (.int (2 : Int32)), .val (.int (p4 &&& (3 : Int32))), .val (.long la), .second, .val (.long lb), .second, .val (.double (FP.l2d la)), .second, .val (.double (FP.l2d lb)), .second, .val (.long (la - lb)), .second, .val (.ref w_GREATER), .val (.int (1 : Int32))] [(.double (FP.l2d lb)), (.double (FP.l2d la)), (.ref w_GREATER)])
      obtain ⟨cq15, kq15, q15a, q15b, q15c⟩ := isOf hZ e13 (E_GREATER.ext O.2)
      obtain ⟨_, _, ⟨T15, L15, k15, n15⟩, -, X15, ⟨Lc15, hQ15, l15, y15, z15⟩, st15⟩ := X13.virtualBack hx (y := (⟨"com/example/sancho/sancho/model/ScriptExpression$ComparisonOperator", "holds", "(DD)Z"⟩ : MethodName)) (z := (⟨"com/example/sancho/sancho/model/ScriptExpression$ComparisonOperator", "holds", "(DD)Z"⟩ : MethodName)) hown (mvT hZ (hw _ (List.mem_of_getElem? (i := 4) rfl))) (mvT hZ (hw _ (List.mem_of_getElem? (i := 5) rfl))) (notFace_of_selects (args := #[]) (mvT hZ (hw _ (List.mem_of_getElem? (i := 7) rfl)))) (mvT hZ (hw _ (List.mem_of_getElem? (i := 7) rfl))) (mvT hZ (hw _ (List.mem_of_getElem? (i := 6) rfl))) (by decide) (backOf (W := 0) (rmS l Z a0 hw [] w_GREATER 2 la lb h0 n0 O O_GREATER E_GREATER (by decide) hla hlb) hZ (hw _ (List.mem_of_getElem? (i := 8) rfl)) (hw _ (List.mem_of_getElem? (i := 2) rfl)) (by decide) (by decide)) q15a q15c (g := (mkF m 245 #[.val (.int p1), .val (.int p2), .val (.int p3), .val (.int p4), .val (.int (2 : Int32)), .val (.int (p4 &&& (3 : Int32))), .val (.long la), .second, .val (.long lb), .second, .val (.double (FP.l2d la)), .second, .val (.double (FP.l2d lb)), .second, .val (.long (la - lb)), .second, .val (.ref w_GREATER), .val (.int (1 : Int32))] [(.double (FP.l2d lb)), (.double (FP.l2d la)), (.ref w_GREATER)])) rfl (by rw [hml]; rfl) (Steps.refl _) (argsL := [(.double (FP.l2d la)), (.double (FP.l2d lb))]) (rest := []) (lenOf pd__DD_Z rfl) rfl (by show 2 * 0 + _ ≤ _; exact Nat.le_of_eq rfl) (hb hby at_245) (fun _ _ => ⟨rfl, e13, (by decide : 0 + 0 ≤ _), (by decide : 0 + 0 ≤ _)⟩)
      dsimp only [Pt.U, Pt.locs, Pt.cells, Pt.slots] at X15 l15 y15 z15 st15 hQ15
      subst l15 y15 z15
      obtain ⟨rfl, N15q, e15q⟩ := hQ15
      have N15 := Fr.app N0 N15q
      refine Go.tr st15 ?_
      rw [show holdF 2 (lcmpW la lb) = (1 : Int32) from by simp [holdF, c151_14]]
      show Go _ _ _ _ _ _ _  T15 (mkF m 248 #[.val (.int p1), .val (.int p2), .val (.int p3), .val (.int p4), .val (.int (2 : Int32)), .val (.int (p4 &&& (3 : Int32))), .val (.long la), .second, .val (.long lb), .second, .val (.double (FP.l2d la)), .second, .val (.double (FP.l2d lb)), .second, .val (.long (la - lb)), .second, .val (.ref w_GREATER), .val (.int (1 : Int32))] [(.int (1 : Int32))])
      refine Go.st (fun t k => XS.iload X15.here hx rfl (hb hby at_248) rfl  k) ?_
      show Go _ _ _ _ _ _ _  T15 (mkF m 250 #[.val (.int p1), .val (.int p2), .val (.int p3), .val (.int p4), .val (.int (2 : Int32)), .val (.int (p4 &&& (3 : Int32))), .val (.long la), .second, .val (.long lb), .second, .val (.double (FP.l2d la)), .second, .val (.double (FP.l2d lb)), .second, .val (.long (la - lb)), .second, .val (.ref w_GREATER), .val (.int (1 : Int32))] [(.int (1 : Int32)), (.int (1 : Int32))])
      refine Go.st (fun t k => XS.icmpNo X15.here hx rfl (hb hby at_250) rfl (teq (rfl : (1 : Int32) = (1 : Int32))).2 k) ?_
      show Go _ _ _ _ _ _ _  T15 (mkF m 253 #[.val (.int p1), .val (.int p2), .val (.int p3), .val (.int p4), .val (.int (2 : Int32)), .val (.int (p4 &&& (3 : Int32))), .val (.long la), .second, .val (.long lb), .second, .val (.double (FP.l2d la)), .second, .val (.double (FP.l2d lb)), .second, .val (.long (la - lb)), .second, .val (.ref w_GREATER), .val (.int (1 : Int32))] [])
      refine Go.st (fun t k => XS.iconst X15.here hx rfl (hb hby at_253) k) ?_
      show Go _ _ _ _ _ _ _  T15 (mkF m 254 #[.val (.int p1), .val (.int p2), .val (.int p3), .val (.int p4), .val (.int (2 : Int32)), .val (.int (p4 &&& (3 : Int32))), .val (.long la), .second, .val (.long lb), .second, .val (.double (FP.l2d la)), .second, .val (.double (FP.l2d lb)), .second, .val (.long (la - lb)), .second, .val (.ref w_GREATER), .val (.int (1 : Int32))] [(.int (1 : Int32))])
      refine Go.st (fun t k => XS.goto X15.here hx rfl (pc0 := 254) (pc' := 258) rfl (hb hby at_254) (by decide) (by decide) k) ?_
      show Go _ _ _ _ _ _ _  T15 (mkF m 258 #[.val (.int p1), .val (.int p2), .val (.int p3), .val (.int p4), .val (.int (2 : Int32)), .val (.int (p4 &&& (3 : Int32))), .val (.long la), .second, .val (.long lb), .second, .val (.double (FP.l2d la)), .second, .val (.double (FP.l2d lb)), .second, .val (.long (la - lb)), .second, .val (.ref w_GREATER), .val (.int (1 : Int32))] [(.int (1 : Int32))])
      refine Go.retN X15 hlk hx (t := .boolean) (z' := (1 : Int32)) Bd.returns (by simp) (hb hby at_258) (by decide) (by decide) rfl ?_
      show Q_rm0 Z _ _ _ _ _ _ _ _ _ _ h0 n0 _ T15.heap _
      rw [e15q]
      exact ⟨rfl, N15⟩
    · refine Go.st (fun t k => XS.ifYes X13.here hx rfl (pc0 := 151) (pc' := 158) rfl (hb hby at_151) rfl ((if0 _ _).trans (flt c151_14).2.2.2) (by decide) (by decide) k) ?_
      show Go _ _ _ _ _ _ _  T13 (mkF m 158 #[.val (.int p1), .val (.int p2), .val (.int p3), .val (.int p4), .val (.int (2 : Int32)), .val (.int (p4 &&& (3 : Int32))), .val (.long la), .second, .val (.long lb), .second, .val (.double (FP.l2d la)), .second, .val (.double (FP.l2d lb)), .second, .val (.long (la - lb)), .second, .val (.ref w_GREATER), .unset] [])
      refine Go.st (fun t k => XS.iconst X13.here hx rfl (hb hby at_158) k) ?_
      show Go _ _ _ _ _ _ _  T13 (mkF m 159 #[.val (.int p1), .val (.int p2), .val (.int p3), .val (.int p4), .val (.int (2 : Int32)), .val (.int (p4 &&& (3 : Int32))), .val (.long la), .second, .val (.long lb), .second, .val (.double (FP.l2d la)), .second, .val (.double (FP.l2d lb)), .second, .val (.long (la - lb)), .second, .val (.ref w_GREATER), .unset] [(.int (0 : Int32))])
      refine Go.st (fun t k => XS.istore X13.here hx rfl (hb hby at_159) rfl (l' := #[.val (.int p1), .val (.int p2), .val (.int p3), .val (.int p4), .val (.int (2 : Int32)), .val (.int (p4 &&& (3 : Int32))), .val (.long la), .second, .val (.long lb), .second, .val (.double (FP.l2d la)), .second, .val (.double (FP.l2d lb)), .second, .val (.long (la - lb)), .second, .val (.ref w_GREATER), .val (.int (0 : Int32))]) rfl k) ?_
      show Go _ _ _ _ _ _ _  T13 (mkF m 161 #[.val (.int p1), .val (.int p2), .val (.int p3), .val (.int p4), .val (.int (2 : Int32)), .val (.int (p4 &&& (3 : Int32))), .val (.long la), .second, .val (.long lb), .second, .val (.double (FP.l2d la)), .second, .val (.double (FP.l2d lb)), .second, .val (.long (la - lb)), .second, .val (.ref w_GREATER), .val (.int (0 : Int32))] [])
      refine Go.st (fun t k => XS.goto X13.here hx rfl (pc0 := 161) (pc' := 239) rfl (hb hby at_161) (by decide) (by decide) k) ?_
      show Go _ _ _ _ _ _ _  T13 (mkF m 239 #[.val (.int p1), .val (.int p2), .val (.int p3), .val (.int p4), .val (.int (2 : Int32)), .val (.int (p4 &&& (3 : Int32))), .val (.long la), .second, .val (.long lb), .second, .val (.double (FP.l2d la)), .second, .val (.double (FP.l2d lb)), .second, .val (.long (la - lb)), .second, .val (.ref w_GREATER), .val (.int (0 : Int32))] [])
      refine Go.st (fun t k => XS.aload X13.here hx rfl (hb hby at_239) rfl rfl  k) ?_
      show Go _ _ _ _ _ _ _  T13 (mkF m 241 #[.val (.int p1), .val (.int p2), .val (.int p3), .val (.int p4), .val (.int (2 : Int32)), .val (.int (p4 &&& (3 : Int32))), .val (.long la), .second, .val (.long lb), .second, .val (.double (FP.l2d la)), .second, .val (.double (FP.l2d lb)), .second, .val (.long (la - lb)), .second, .val (.ref w_GREATER), .val (.int (0 : Int32))] [(.ref w_GREATER)])
      refine Go.st (fun t k => XS.dload X13.here hx rfl (hb hby at_241) rfl k) ?_
      show Go _ _ _ _ _ _ _  T13 (mkF m 243 #[.val (.int p1), .val (.int p2), .val (.int p3), .val (.int p4), .val (.int (2 : Int32)), .val (.int (p4 &&& (3 : Int32))), .val (.long la), .second, .val (.long lb), .second, .val (.double (FP.l2d la)), .second, .val (.double (FP.l2d lb)), .second, .val (.long (la - lb)), .second, .val (.ref w_GREATER), .val (.int (0 : Int32))] [(.double (FP.l2d la)), (.ref w_GREATER)])
      refine Go.st (fun t k => XS.dload X13.here hx rfl (hb hby at_243) rfl k) ?_
      show Go _ _ _ _ _ _ _  T13 (mkF m 245 #[.val (.int p1), .val (.int p2), .val (.int p3), .val (.int p4), .val (.int (2 : Int32)), .val (.int (p4 &&& (3 : Int32))), .val (.long la), .second, .val (.long lb), .second, .val (.double (FP.l2d la)), .second, .val (.double (FP.l2d lb)), .second, .val (.long (la - lb)), .second, .val (.ref w_GREATER), .val (.int (0 : Int32))] [(.double (FP.l2d lb)), (.double (FP.l2d la)), (.ref w_GREATER)])
      obtain ⟨cq16, kq16, q16a, q16b, q16c⟩ := isOf hZ e13 (E_GREATER.ext O.2)
      obtain ⟨_, _, ⟨T16, L16, k16, n16⟩, -, X16, ⟨Lc16, hQ16, l16, y16, z16⟩, st16⟩ := X13.virtualBack hx (y := (⟨"com/example/sancho/sancho/model/ScriptExpression$ComparisonOperator", "holds", "(DD)Z"⟩ : MethodName)) (z := (⟨"com/example/sancho/sancho/model/ScriptExpression$ComparisonOperator", "holds", "(DD)Z"⟩ : MethodName)) hown (mvT hZ (hw _ (List.mem_of_getElem? (i := 4) rfl))) (mvT hZ (hw _ (List.mem_of_getElem? (i := 5) rfl))) (notFace_of_selects (args := #[]) (mvT hZ (hw _ (List.mem_of_getElem? (i := 7) rfl)))) (mvT hZ (hw _ (List.mem_of_getElem? (i := 7) rfl))) (mvT hZ (hw _ (List.mem_of_getElem? (i := 6) rfl))) (by decide) (backOf (W := 0) (rmS l Z a0 hw [] w_GREATER 2 la lb h0 n0 O O_GREATER E_GREATER (by decide) hla hlb) hZ (hw _ (List.mem_of_getElem? (i := 8) rfl)) (hw _ (List.mem_of_getElem? (i := 2) rfl)) (by decide) (by decide)) q16a q16c (g := (mkF m 245 #[.val (.int p1), .val (.int p2), .val (.int p3), .val (.int p4), .val (.int (2 : Int32)), .val (.int (p4 &&& (3 : Int32))), .val (.long la), .second, .val (.long lb), .second, .val (.double (FP.l2d la)), .second, .val (.double (FP.l2d lb)), .second, .val (.long (la - lb)), .second, .val (.ref w_GREATER), .val (.int (0 : Int32))] [(.double (FP.l2d lb)), (.double (FP.l2d la)), (.ref w_GREATER)])) rfl (by rw [hml]; rfl) (Steps.refl _) (argsL := [(.double (FP.l2d la)), (.double (FP.l2d lb))]) (rest := []) (lenOf pd__DD_Z rfl) rfl (by show 2 * 0 + _ ≤ _; exact Nat.le_of_eq rfl) (hb hby at_245) (fun _ _ => ⟨rfl, e13, (by decide : 0 + 0 ≤ _), (by decide : 0 + 0 ≤ _)⟩)
      dsimp only [Pt.U, Pt.locs, Pt.cells, Pt.slots] at X16 l16 y16 z16 st16 hQ16
      subst l16 y16 z16
      obtain ⟨rfl, N16q, e16q⟩ := hQ16
      have N16 := Fr.app N0 N16q
      refine Go.tr st16 ?_
      rw [show holdF 2 (lcmpW la lb) = (0 : Int32) from by simp [holdF, c151_14]]
      show Go _ _ _ _ _ _ _  T16 (mkF m 248 #[.val (.int p1), .val (.int p2), .val (.int p3), .val (.int p4), .val (.int (2 : Int32)), .val (.int (p4 &&& (3 : Int32))), .val (.long la), .second, .val (.long lb), .second, .val (.double (FP.l2d la)), .second, .val (.double (FP.l2d lb)), .second, .val (.long (la - lb)), .second, .val (.ref w_GREATER), .val (.int (0 : Int32))] [(.int (0 : Int32))])
      refine Go.st (fun t k => XS.iload X16.here hx rfl (hb hby at_248) rfl  k) ?_
      show Go _ _ _ _ _ _ _  T16 (mkF m 250 #[.val (.int p1), .val (.int p2), .val (.int p3), .val (.int p4), .val (.int (2 : Int32)), .val (.int (p4 &&& (3 : Int32))), .val (.long la), .second, .val (.long lb), .second, .val (.double (FP.l2d la)), .second, .val (.double (FP.l2d lb)), .second, .val (.long (la - lb)), .second, .val (.ref w_GREATER), .val (.int (0 : Int32))] [(.int (0 : Int32)), (.int (0 : Int32))])
      refine Go.st (fun t k => XS.icmpNo X16.here hx rfl (hb hby at_250) rfl (teq (rfl : (0 : Int32) = (0 : Int32))).2 k) ?_
      show Go _ _ _ _ _ _ _  T16 (mkF m 253 #[.val (.int p1), .val (.int p2), .val (.int p3), .val (.int p4), .val (.int (2 : Int32)), .val (.int (p4 &&& (3 : Int32))), .val (.long la), .second, .val (.long lb), .second, .val (.double (FP.l2d la)), .second, .val (.double (FP.l2d lb)), .second, .val (.long (la - lb)), .second, .val (.ref w_GREATER), .val (.int (0 : Int32))] [])
      refine Go.st (fun t k => XS.iconst X16.here hx rfl (hb hby at_253) k) ?_
      show Go _ _ _ _ _ _ _  T16 (mkF m 254 #[.val (.int p1), .val (.int p2), .val (.int p3), .val (.int p4), .val (.int (2 : Int32)), .val (.int (p4 &&& (3 : Int32))), .val (.long la), .second, .val (.long lb), .second, .val (.double (FP.l2d la)), .second, .val (.double (FP.l2d lb)), .second, .val (.long (la - lb)), .second, .val (.ref w_GREATER), .val (.int (0 : Int32))] [(.int (1 : Int32))])
      refine Go.st (fun t k => XS.goto X16.here hx rfl (pc0 := 254) (pc' := 258) rfl (hb hby at_254) (by decide) (by decide) k) ?_
      show Go _ _ _ _ _ _ _  T16 (mkF m 258 #[.val (.int p1), .val (.int p2), .val (.int p3), .val (.int p4), .val (.int (2 : Int32)), .val (.int (p4 &&& (3 : Int32))), .val (.long la), .second, .val (.long lb), .second, .val (.double (FP.l2d la)), .second, .val (.double (FP.l2d lb)), .second, .val (.long (la - lb)), .second, .val (.ref w_GREATER), .val (.int (0 : Int32))] [(.int (1 : Int32))])
      refine Go.retN X16 hlk hx (t := .boolean) (z' := (1 : Int32)) Bd.returns (by simp) (hb hby at_258) (by decide) (by decide) rfl ?_
      show Q_rm0 Z _ _ _ _ _ _ _ _ _ _ h0 n0 _ T16.heap _
      rw [e16q]
      exact ⟨rfl, N16⟩
  · rw [sp4]
    show Go _ _ _ _ _ _ _  s₁ (mkF m 81 #[.val (.int p1), .val (.int p2), .val (.int p3), .val (.int p4), .val (.int (3 : Int32)), .val (.int (p4 &&& (3 : Int32))), .val (.long la), .second, .val (.long lb), .second, .val (.double (FP.l2d la)), .second, .val (.double (FP.l2d lb)), .second, .val (.long (la - lb)), .second, .unset, .unset] [])
    refine Go.st (fun t k => XS.iload X0.here hx rfl (hb hby at_81) rfl  k) ?_
    show Go _ _ _ _ _ _ _  s₁ (mkF m 83 #[.val (.int p1), .val (.int p2), .val (.int p3), .val (.int p4), .val (.int (3 : Int32)), .val (.int (p4 &&& (3 : Int32))), .val (.long la), .second, .val (.long lb), .second, .val (.double (FP.l2d la)), .second, .val (.double (FP.l2d lb)), .second, .val (.long (la - lb)), .second, .unset, .unset] [(.int (3 : Int32))])
    refine Go.st (fun t k => XS.ifYes X0.here hx rfl (pc0 := 83) (pc' := 108) rfl (hb hby at_83) rfl ((if0 _ _).trans (feq (by decide : ¬ ((3 : Int32) = (0 : Int32)))).2) (by decide) (by decide) k) ?_
    show Go _ _ _ _ _ _ _  s₁ (mkF m 108 #[.val (.int p1), .val (.int p2), .val (.int p3), .val (.int p4), .val (.int (3 : Int32)), .val (.int (p4 &&& (3 : Int32))), .val (.long la), .second, .val (.long lb), .second, .val (.double (FP.l2d la)), .second, .val (.double (FP.l2d lb)), .second, .val (.long (la - lb)), .second, .unset, .unset] [])
    refine Go.st (fun t k => XS.iload X0.here hx rfl (hb hby at_108) rfl  k) ?_
    show Go _ _ _ _ _ _ _  s₁ (mkF m 110 #[.val (.int p1), .val (.int p2), .val (.int p3), .val (.int p4), .val (.int (3 : Int32)), .val (.int (p4 &&& (3 : Int32))), .val (.long la), .second, .val (.long lb), .second, .val (.double (FP.l2d la)), .second, .val (.double (FP.l2d lb)), .second, .val (.long (la - lb)), .second, .unset, .unset] [(.int (3 : Int32))])
    refine Go.st (fun t k => XS.iconst X0.here hx rfl (hb hby at_110) k) ?_
    show Go _ _ _ _ _ _ _  s₁ (mkF m 111 #[.val (.int p1), .val (.int p2), .val (.int p3), .val (.int p4), .val (.int (3 : Int32)), .val (.int (p4 &&& (3 : Int32))), .val (.long la), .second, .val (.long lb), .second, .val (.double (FP.l2d la)), .second, .val (.double (FP.l2d lb)), .second, .val (.long (la - lb)), .second, .unset, .unset] [(.int (1 : Int32)), (.int (3 : Int32))])
    refine Go.st (fun t k => XS.icmpYes X0.here hx rfl (pc0 := 111) (pc' := 136) rfl (hb hby at_111) rfl (feq (by decide : ¬ ((3 : Int32) = (1 : Int32)))).2 (by decide) (by decide) k) ?_
    show Go _ _ _ _ _ _ _  s₁ (mkF m 136 #[.val (.int p1), .val (.int p2), .val (.int p3), .val (.int p4), .val (.int (3 : Int32)), .val (.int (p4 &&& (3 : Int32))), .val (.long la), .second, .val (.long lb), .second, .val (.double (FP.l2d la)), .second, .val (.double (FP.l2d lb)), .second, .val (.long (la - lb)), .second, .unset, .unset] [])
    refine Go.st (fun t k => XS.iload X0.here hx rfl (hb hby at_136) rfl  k) ?_
    show Go _ _ _ _ _ _ _  s₁ (mkF m 138 #[.val (.int p1), .val (.int p2), .val (.int p3), .val (.int p4), .val (.int (3 : Int32)), .val (.int (p4 &&& (3 : Int32))), .val (.long la), .second, .val (.long lb), .second, .val (.double (FP.l2d la)), .second, .val (.double (FP.l2d lb)), .second, .val (.long (la - lb)), .second, .unset, .unset] [(.int (3 : Int32))])
    refine Go.st (fun t k => XS.iconst X0.here hx rfl (hb hby at_138) k) ?_
    show Go _ _ _ _ _ _ _  s₁ (mkF m 139 #[.val (.int p1), .val (.int p2), .val (.int p3), .val (.int p4), .val (.int (3 : Int32)), .val (.int (p4 &&& (3 : Int32))), .val (.long la), .second, .val (.long lb), .second, .val (.double (FP.l2d la)), .second, .val (.double (FP.l2d lb)), .second, .val (.long (la - lb)), .second, .unset, .unset] [(.int (2 : Int32)), (.int (3 : Int32))])
    refine Go.st (fun t k => XS.icmpYes X0.here hx rfl (pc0 := 139) (pc' := 164) rfl (hb hby at_139) rfl (feq (by decide : ¬ ((3 : Int32) = (2 : Int32)))).2 (by decide) (by decide) k) ?_
    show Go _ _ _ _ _ _ _  s₁ (mkF m 164 #[.val (.int p1), .val (.int p2), .val (.int p3), .val (.int p4), .val (.int (3 : Int32)), .val (.int (p4 &&& (3 : Int32))), .val (.long la), .second, .val (.long lb), .second, .val (.double (FP.l2d la)), .second, .val (.double (FP.l2d lb)), .second, .val (.long (la - lb)), .second, .unset, .unset] [])
    refine Go.st (fun t k => XS.iload X0.here hx rfl (hb hby at_164) rfl  k) ?_
    show Go _ _ _ _ _ _ _  s₁ (mkF m 166 #[.val (.int p1), .val (.int p2), .val (.int p3), .val (.int p4), .val (.int (3 : Int32)), .val (.int (p4 &&& (3 : Int32))), .val (.long la), .second, .val (.long lb), .second, .val (.double (FP.l2d la)), .second, .val (.double (FP.l2d lb)), .second, .val (.long (la - lb)), .second, .unset, .unset] [(.int (3 : Int32))])
    refine Go.st (fun t k => XS.iconst X0.here hx rfl (hb hby at_166) k) ?_
    show Go _ _ _ _ _ _ _  s₁ (mkF m 167 #[.val (.int p1), .val (.int p2), .val (.int p3), .val (.int p4), .val (.int (3 : Int32)), .val (.int (p4 &&& (3 : Int32))), .val (.long la), .second, .val (.long lb), .second, .val (.double (FP.l2d la)), .second, .val (.double (FP.l2d lb)), .second, .val (.long (la - lb)), .second, .unset, .unset] [(.int (3 : Int32)), (.int (3 : Int32))])
    refine Go.st (fun t k => XS.icmpNo X0.here hx rfl (hb hby at_167) rfl (teq (rfl : (3 : Int32) = (3 : Int32))).2 k) ?_
    show Go _ _ _ _ _ _ _  s₁ (mkF m 170 #[.val (.int p1), .val (.int p2), .val (.int p3), .val (.int p4), .val (.int (3 : Int32)), .val (.int (p4 &&& (3 : Int32))), .val (.long la), .second, .val (.long lb), .second, .val (.double (FP.l2d la)), .second, .val (.double (FP.l2d lb)), .second, .val (.long (la - lb)), .second, .unset, .unset] [])
    obtain ⟨T17, X17, e17, st17⟩ := getS2 X0 hx hZ hown (host := "") (Or.inl (hw _ (List.mem_of_getElem? (i := 22) rfl))) Via.refl e0 (S_GREATER_OR_EQUAL.ext O.2) (g := (mkF m 170 #[.val (.int p1), .val (.int p2), .val (.int p3), .val (.int p4), .val (.int (3 : Int32)), .val (.int (p4 &&& (3 : Int32))), .val (.long la), .second, .val (.long lb), .second, .val (.double (FP.l2d la)), .second, .val (.double (FP.l2d lb)), .second, .val (.long (la - lb)), .second, .unset, .unset] [])) rfl (hb hby at_170)
    refine Go.st st17 ?_
    show Go _ _ _ _ _ _ _  T17 (mkF m 173 #[.val (.int p1), .val (.int p2), .val (.int p3), .val (.int p4), .val (.int (3 : Int32)), .val (.int (p4 &&& (3 : Int32))), .val (.long la), .second, .val (.long lb), .second, .val (.double (FP.l2d la)), .second, .val (.double (FP.l2d lb)), .second, .val (.long (la - lb)), .second, .unset, .unset] [(.ref w_GREATER_OR_EQUAL)])
    refine Go.st (fun t k => XS.astore X17.here hx rfl (hb hby at_173) rfl rfl (l' := #[.val (.int p1), .val (.int p2), .val (.int p3), .val (.int p4), .val (.int (3 : Int32)), .val (.int (p4 &&& (3 : Int32))), .val (.long la), .second, .val (.long lb), .second, .val (.double (FP.l2d la)), .second, .val (.double (FP.l2d lb)), .second, .val (.long (la - lb)), .second, .val (.ref w_GREATER_OR_EQUAL), .unset]) rfl k) ?_
    show Go _ _ _ _ _ _ _  T17 (mkF m 175 #[.val (.int p1), .val (.int p2), .val (.int p3), .val (.int p4), .val (.int (3 : Int32)), .val (.int (p4 &&& (3 : Int32))), .val (.long la), .second, .val (.long lb), .second, .val (.double (FP.l2d la)), .second, .val (.double (FP.l2d lb)), .second, .val (.long (la - lb)), .second, .val (.ref w_GREATER_OR_EQUAL), .unset] [])
    refine Go.st (fun t k => XS.lload X17.here hx rfl (hb hby at_175) rfl  k) ?_
    show Go _ _ _ _ _ _ _  T17 (mkF m 177 #[.val (.int p1), .val (.int p2), .val (.int p3), .val (.int p4), .val (.int (3 : Int32)), .val (.int (p4 &&& (3 : Int32))), .val (.long la), .second, .val (.long lb), .second, .val (.double (FP.l2d la)), .second, .val (.double (FP.l2d lb)), .second, .val (.long (la - lb)), .second, .val (.ref w_GREATER_OR_EQUAL), .unset] [(.long (la - lb))])
    refine Go.st (fun t k => XS.lconst X17.here hx rfl (hb hby at_177) k) ?_
    show Go _ _ _ _ _ _ _  T17 (mkF m 178 #[.val (.int p1), .val (.int p2), .val (.int p3), .val (.int p4), .val (.int (3 : Int32)), .val (.int (p4 &&& (3 : Int32))), .val (.long la), .second, .val (.long lb), .second, .val (.double (FP.l2d la)), .second, .val (.double (FP.l2d lb)), .second, .val (.long (la - lb)), .second, .val (.ref w_GREATER_OR_EQUAL), .unset] [(.long (0 : Int64)), (.long (la - lb))])
    refine Go.st (fun t k => XS.lcmp X17.here hx rfl (hb hby at_178) rfl k) ?_
    show Go _ _ _ _ _ _ _  T17 (mkF m 179 #[.val (.int p1), .val (.int p2), .val (.int p3), .val (.int p4), .val (.int (3 : Int32)), .val (.int (p4 &&& (3 : Int32))), .val (.long la), .second, .val (.long lb), .second, .val (.double (FP.l2d la)), .second, .val (.double (FP.l2d lb)), .second, .val (.long (la - lb)), .second, .val (.ref w_GREATER_OR_EQUAL), .unset] [(.int (lcmpW (la - lb) (0 : Int64)))])
    rw [own_cmp hla hlb]
    show Go _ _ _ _ _ _ _  T17 (mkF m 179 #[.val (.int p1), .val (.int p2), .val (.int p3), .val (.int p4), .val (.int (3 : Int32)), .val (.int (p4 &&& (3 : Int32))), .val (.long la), .second, .val (.long lb), .second, .val (.double (FP.l2d la)), .second, .val (.double (FP.l2d lb)), .second, .val (.long (la - lb)), .second, .val (.ref w_GREATER_OR_EQUAL), .unset] [(.int (lcmpW la lb))])
    by_cases c179_18 : (lcmpW la lb) < (0 : Int32)
    · refine Go.st (fun t k => XS.ifYes X17.here hx rfl (pc0 := 179) (pc' := 186) rfl (hb hby at_179) rfl ((if0 _ _).trans (tlt c179_18).1) (by decide) (by decide) k) ?_
      show Go _ _ _ _ _ _ _  T17 (mkF m 186 #[.val (.int p1), .val (.int p2), .val (.int p3), .val (.int p4), .val (.int (3 : Int32)), .val (.int (p4 &&& (3 : Int32))), .val (.long la), .second, .val (.long lb), .second, .val (.double (FP.l2d la)), .second, .val (.double (FP.l2d lb)), .second, .val (.long (la - lb)), .second, .val (.ref w_GREATER_OR_EQUAL), .unset] [])
      refine Go.st (fun t k => XS.iconst X17.here hx rfl (hb hby at_186) k) ?_
      show Go _ _ _ _ _ _ _  T17 (mkF m 187 #[.val (.int p1), .val (.int p2), .val (.int p3), .val (.int p4), .val (.int (3 : Int32)), .val (.int (p4 &&& (3 : Int32))), .val (.long la), .second, .val (.long lb), .second, .val (.double (FP.l2d la)), .second, .val (.double (FP.l2d lb)), .second, .val (.long (la - lb)), .second, .val (.ref w_GREATER_OR_EQUAL), .unset] [(.int (0 : Int32))])
      refine Go.st (fun t k => XS.istore X17.here hx rfl (hb hby at_187) rfl (l' := #[.val (.int p1), .val (.int p2), .val (.int p3), .val (.int p4), .val (.int (3 : Int32)), .val (.int (p4 &&& (3 : Int32))), .val (.long la), .second, .val (.long lb), .second, .val (.double (FP.l2d la)), .second, .val (.double (FP.l2d lb)), .second, .val (.long (la - lb)), .second, .val (.ref w_GREATER_OR_EQUAL), .val (.int (0 : Int32))]) rfl k) ?_
      show Go _ _ _ _ _ _ _  T17 (mkF m 189 #[.val (.int p1), .val (.int p2), .val (.int p3), .val (.int p4), .val (.int (3 : Int32)), .val (.int (p4 &&& (3 : Int32))), .val (.long la), .second, .val (.long lb), .second, .val (.double (FP.l2d la)), .second, .val (.double (FP.l2d lb)), .second, .val (.long (la - lb)), .second, .val (.ref w_GREATER_OR_EQUAL), .val (.int (0 : Int32))] [])
      refine Go.st (fun t k => XS.goto X17.here hx rfl (pc0 := 189) (pc' := 239) rfl (hb hby at_189) (by decide) (by decide) k) ?_
      show Go _ _ _ _ _ _ _  T17 (mkF m 239 #[.val (.int p1), .val (.int p2), .val (.int p3), .val (.int p4), .val (.int (3 : Int32)), .val (.int (p4 &&& (3 : Int32))), .val (.long la), .second, .val (.long lb), .second, .val (.double (FP.l2d la)), .second, .val (.double (FP.l2d lb)), .second, .val (.long (la - lb)), .second, .val (.ref w_GREATER_OR_EQUAL), .val (.int (0 : Int32))] [])
      refine Go.st (fun t k => XS.aload X17.here hx rfl (hb hby at_239) rfl rfl  k) ?_
      show Go _ _ _ _ _ _ _  T17 (mkF m 241 #[.val (.int p1), .val (.int p2), .val (.int p3), .val (.int p4), .val (.int (3 : Int32)), .val (.int (p4 &&& (3 : Int32))), .val (.long la), .second, .val (.long lb), .second, .val (.double (FP.l2d la)), .second, .val (.double (FP.l2d lb)), .second, .val (.long (la - lb)), .second, .val (.ref w_GREATER_OR_EQUAL), .val (.int (0 : Int32))] [(.ref w_GREATER_OR_EQUAL)])
      refine Go.st (fun t k => XS.dload X17.here hx rfl (hb hby at_241) rfl k) ?_
      show Go _ _ _ _ _ _ _  T17 (mkF m 243 #[.val (.int p1), .val (.int p2), .val (.int p3), .val (.int p4), .val (.int (3 : Int32)), .val (.int (p4 &&& (3 : Int32))), .val (.long la), .second, .val (.long lb), .second, .val (.double (FP.l2d la)), .second, .val (.double (FP.l2d lb)), .second, .val (.long (la - lb)), .second, .val (.ref w_GREATER_OR_EQUAL), .val (.int (0 : Int32))] [(.double (FP.l2d la)), (.ref w_GREATER_OR_EQUAL)])
      refine Go.st (fun t k => XS.dload X17.here hx rfl (hb hby at_243) rfl k) ?_
      show Go _ _ _ _ _ _ _  T17 (mkF m 245 #[.val (.int p1), .val (.int p2), .val (.int p3), .val (.int p4), .val (.int (3 : Int32)), .val (.int (p4 &&& (3 : Int32))), .val (.long la), .second, .val (.long lb), .second, .val (.double (FP.l2d la)), .second, .val (.double (FP.l2d lb)), .second, .val (.long (la - lb)), .second, .val (.ref w_GREATER_OR_EQUAL), .val (.int (0 : Int32))] [(.double (FP.l2d lb)), (.double (FP.l2d la)), (.ref w_GREATER_OR_EQUAL)])
      obtain ⟨cq19, kq19, q19a, q19b, q19c⟩ := isOf hZ e17 (E_GREATER_OR_EQUAL.ext O.2)
      obtain ⟨_, _, ⟨T19, L19, k19, n19⟩, -, X19, ⟨Lc19, hQ19, l19, y19, z19⟩, st19⟩ := X17.virtualBack hx (y := (⟨"com/example/sancho/sancho/model/ScriptExpression$ComparisonOperator", "holds", "(DD)Z"⟩ : MethodName)) (z := (⟨"com/example/sancho/sancho/model/ScriptExpression$ComparisonOperator", "holds", "(DD)Z"⟩ : MethodName)) hown (mvT hZ (hw _ (List.mem_of_getElem? (i := 4) rfl))) (mvT hZ (hw _ (List.mem_of_getElem? (i := 5) rfl))) (notFace_of_selects (args := #[]) (mvT hZ (hw _ (List.mem_of_getElem? (i := 7) rfl)))) (mvT hZ (hw _ (List.mem_of_getElem? (i := 7) rfl))) (mvT hZ (hw _ (List.mem_of_getElem? (i := 6) rfl))) (by decide) (backOf (W := 0) (rmS l Z a0 hw [] w_GREATER_OR_EQUAL 3 la lb h0 n0 O O_GREATER_OR_EQUAL E_GREATER_OR_EQUAL (by decide) hla hlb) hZ (hw _ (List.mem_of_getElem? (i := 8) rfl)) (hw _ (List.mem_of_getElem? (i := 2) rfl)) (by decide) (by decide)) q19a q19c (g := (mkF m 245 #[.val (.int p1), .val (.int p2), .val (.int p3), .val (.int p4), .val (.int (3 : Int32)), .val (.int (p4 &&& (3 : Int32))), .val (.long la), .second, .val (.long lb), .second, .val (.double (FP.l2d la)), .second, .val (.double (FP.l2d lb)), .second, .val (.long (la - lb)), .second, .val (.ref w_GREATER_OR_EQUAL), .val (.int (0 : Int32))] [(.double (FP.l2d lb)), (.double (FP.l2d la)), (.ref w_GREATER_OR_EQUAL)])) rfl (by rw [hml]; rfl) (Steps.refl _) (argsL := [(.double (FP.l2d la)), (.double (FP.l2d lb))]) (rest := []) (lenOf pd__DD_Z rfl) rfl (by show 2 * 0 + _ ≤ _; exact Nat.le_of_eq rfl) (hb hby at_245) (fun _ _ => ⟨rfl, e17, (by decide : 0 + 0 ≤ _), (by decide : 0 + 0 ≤ _)⟩)
      dsimp only [Pt.U, Pt.locs, Pt.cells, Pt.slots] at X19 l19 y19 z19 st19 hQ19
      subst l19 y19 z19
      obtain ⟨rfl, N19q, e19q⟩ := hQ19
      have N19 := Fr.app N0 N19q
      refine Go.tr st19 ?_
      rw [show holdF 3 (lcmpW la lb) = (0 : Int32) from by simp [holdF, c179_18]]
      show Go _ _ _ _ _ _ _  T19 (mkF m 248 #[.val (.int p1), .val (.int p2), .val (.int p3), .val (.int p4), .val (.int (3 : Int32)), .val (.int (p4 &&& (3 : Int32))), .val (.long la), .second, .val (.long lb), .second, .val (.double (FP.l2d la)), .second, .val (.double (FP.l2d lb)), .second, .val (.long (la - lb)), .second, .val (.ref w_GREATER_OR_EQUAL), .val (.int (0 : Int32))] [(.int (0 : Int32))])
      refine Go.st (fun t k => XS.iload X19.here hx rfl (hb hby at_248) rfl  k) ?_
      show Go _ _ _ _ _ _ _  T19 (mkF m 250 #[.val (.int p1), .val (.int p2), .val (.int p3), .val (.int p4), .val (.int (3 : Int32)), .val (.int (p4 &&& (3 : Int32))), .val (.long la), .second, .val (.long lb), .second, .val (.double (FP.l2d la)), .second, .val (.double (FP.l2d lb)), .second, .val (.long (la - lb)), .second, .val (.ref w_GREATER_OR_EQUAL), .val (.int (0 : Int32))] [(.int (0 : Int32)), (.int (0 : Int32))])
      refine Go.st (fun t k => XS.icmpNo X19.here hx rfl (hb hby at_250) rfl (teq (rfl : (0 : Int32) = (0 : Int32))).2 k) ?_
      show Go _ _ _ _ _ _ _  T19 (mkF m 253 #[.val (.int p1), .val (.int p2), .val (.int p3), .val (.int p4), .val (.int (3 : Int32)), .val (.int (p4 &&& (3 : Int32))), .val (.long la), .second, .val (.long lb), .second, .val (.double (FP.l2d la)), .second, .val (.double (FP.l2d lb)), .second, .val (.long (la - lb)), .second, .val (.ref w_GREATER_OR_EQUAL), .val (.int (0 : Int32))] [])
      refine Go.st (fun t k => XS.iconst X19.here hx rfl (hb hby at_253) k) ?_
      show Go _ _ _ _ _ _ _  T19 (mkF m 254 #[.val (.int p1), .val (.int p2), .val (.int p3), .val (.int p4), .val (.int (3 : Int32)), .val (.int (p4 &&& (3 : Int32))), .val (.long la), .second, .val (.long lb), .second, .val (.double (FP.l2d la)), .second, .val (.double (FP.l2d lb)), .second, .val (.long (la - lb)), .second, .val (.ref w_GREATER_OR_EQUAL), .val (.int (0 : Int32))] [(.int (1 : Int32))])
      refine Go.st (fun t k => XS.goto X19.here hx rfl (pc0 := 254) (pc' := 258) rfl (hb hby at_254) (by decide) (by decide) k) ?_
      show Go _ _ _ _ _ _ _  T19 (mkF m 258 #[.val (.int p1), .val (.int p2), .val (.int p3), .val (.int p4), .val (.int (3 : Int32)), .val (.int (p4 &&& (3 : Int32))), .val (.long la), .second, .val (.long lb), .second, .val (.double (FP.l2d la)), .second, .val (.double (FP.l2d lb)), .second, .val (.long (la - lb)), .second, .val (.ref w_GREATER_OR_EQUAL), .val (.int (0 : Int32))] [(.int (1 : Int32))])
      refine Go.retN X19 hlk hx (t := .boolean) (z' := (1 : Int32)) Bd.returns (by simp) (hb hby at_258) (by decide) (by decide) rfl ?_
      show Q_rm0 Z _ _ _ _ _ _ _ _ _ _ h0 n0 _ T19.heap _
      rw [e19q]
      exact ⟨rfl, N19⟩
    · refine Go.st (fun t k => XS.ifNo X17.here hx rfl (hb hby at_179) rfl ((if0 _ _).trans (flt c179_18).1) k) ?_
      show Go _ _ _ _ _ _ _  T17 (mkF m 182 #[.val (.int p1), .val (.int p2), .val (.int p3), .val (.int p4), .val (.int (3 : Int32)), .val (.int (p4 &&& (3 : Int32))), .val (.long la), .second, .val (.long lb), .second, .val (.double (FP.l2d la)), .second, .val (.double (FP.l2d lb)), .second, .val (.long (la - lb)), .second, .val (.ref w_GREATER_OR_EQUAL), .unset] [])
      refine Go.st (fun t k => XS.iconst X17.here hx rfl (hb hby at_182) k) ?_
      show Go _ _ _ _ _ _ _  T17 (mkF m 183 #[.val (.int p1), .val (.int p2), .val (.int p3), .val (.int p4), .val (.int (3 : Int32)), .val (.int (p4 &&& (3 : Int32))), .val (.long la), .second, .val (.long lb), .second, .val (.double (FP.l2d la)), .second, .val (.double (FP.l2d lb)), .second, .val (.long (la - lb)), .second, .val (.ref w_GREATER_OR_EQUAL), .unset] [(.int (1 : Int32))])
      refine Go.st (fun t k => XS.goto X17.here hx rfl (pc0 := 183) (pc' := 187) rfl (hb hby at_183) (by decide) (by decide) k) ?_
      show Go _ _ _ _ _ _ _  T17 (mkF m 187 #[.val (.int p1), .val (.int p2), .val (.int p3), .val (.int p4), .val (.int (3 : Int32)), .val (.int (p4 &&& (3 : Int32))), .val (.long la), .second, .val (.long lb), .second, .val (.double (FP.l2d la)), .second, .val (.double (FP.l2d lb)), .second, .val (.long (la - lb)), .second, .val (.ref w_GREATER_OR_EQUAL), .unset] [(.int (1 : Int32))])
      refine Go.st (fun t k => XS.istore X17.here hx rfl (hb hby at_187) rfl (l' := #[.val (.int p1), .val (.int p2), .val (.int p3), .val (.int p4), .val (.int (3 : Int32)), .val (.int (p4 &&& (3 : Int32))), .val (.long la), .second, .val (.long lb), .second, .val (.double (FP.l2d la)), .second, .val (.double (FP.l2d lb)), .second, .val (.long (la - lb)), .second, .val (.ref w_GREATER_OR_EQUAL), .val (.int (1 : Int32))]) rfl k) ?_
      show Go _ _ _ _ _ _ _  T17 (mkF m 189 #[.val (.int p1), .val (.int p2), .val (.int p3), .val (.int p4), .val (.int (3 : Int32)), .val (.int (p4 &&& (3 : Int32))), .val (.long la), .second, .val (.long lb), .second, .val (.double (FP.l2d la)), .second, .val (.double (FP.l2d lb)), .second, .val (.long (la - lb)), .second, .val (.ref w_GREATER_OR_EQUAL), .val (.int (1 : Int32))] [])
      refine Go.st (fun t k => XS.goto X17.here hx rfl (pc0 := 189) (pc' := 239) rfl (hb hby at_189) (by decide) (by decide) k) ?_
      show Go _ _ _ _ _ _ _  T17 (mkF m 239 #[.val (.int p1), .val (.int p2), .val (.int p3), .val (.int p4), .val (.int (3 : Int32)), .val (.int (p4 &&& (3 : Int32))), .val (.long la), .second, .val (.long lb), .second, .val (.double (FP.l2d la)), .second, .val (.double (FP.l2d lb)), .second, .val (.long (la - lb)), .second, .val (.ref w_GREATER_OR_EQUAL), .val (.int (1 : Int32))] [])
      refine Go.st (fun t k => XS.aload X17.here hx rfl (hb hby at_239) rfl rfl  k) ?_
      show Go _ _ _ _ _ _ _  T17 (mkF m 241 #[.val (.int p1), .val (.int p2), .val (.int p3), .val (.int p4), .val (.int (3 : Int32)), .val (.int (p4 &&& (3 : Int32))), .val (.long la), .second, .val (.long lb), .second, .val (.double (FP.l2d la)), .second, .val (.double (FP.l2d lb)), .second, .val (.long (la - lb)), .second, .val (.ref w_GREATER_OR_EQUAL), .val (.int (1 : Int32))] [(.ref w_GREATER_OR_EQUAL)])
      refine Go.st (fun t k => XS.dload X17.here hx rfl (hb hby at_241) rfl k) ?_
      show Go _ _ _ _ _ _ _  T17 (mkF m 243 #[.val (.int p1), .val (.int p2), .val (.int p3), .val (.int p4), .val (.int (3 : Int32)), .val (.int (p4 &&& (3 : Int32))), .val (.long la), .second, .val (.long lb), .second, .val (.double (FP.l2d la)), .second, .val (.double (FP.l2d lb)), .second, .val (.long (la - lb)), .second, .val (.ref w_GREATER_OR_EQUAL), .val (.int (1 : Int32))] [(.double (FP.l2d la)), (.ref w_GREATER_OR_EQUAL)])
      refine Go.st (fun t k => XS.dload X17.here hx rfl (hb hby at_243) rfl k) ?_
      show Go _ _ _ _ _ _ _  T17 (mkF m 245 #[.val (.int p1), .val (.int p2), .val (.int p3), .val (.int p4), .val (.int (3 : Int32)), .val (.int (p4 &&& (3 : Int32))), .val (.long la), .second, .val (.long lb), .second, .val (.double (FP.l2d la)), .second, .val (.double (FP.l2d lb)), .second, .val (.long (la - lb)), .second, .val (.ref w_GREATER_OR_EQUAL), .val (.int (1 : Int32))] [(.double (FP.l2d lb)), (.double (FP.l2d la)), (.ref w_GREATER_OR_EQUAL)])
      obtain ⟨cq20, kq20, q20a, q20b, q20c⟩ := isOf hZ e17 (E_GREATER_OR_EQUAL.ext O.2)
      obtain ⟨_, _, ⟨T20, L20, k20, n20⟩, -, X20, ⟨Lc20, hQ20, l20, y20, z20⟩, st20⟩ := X17.virtualBack hx (y := (⟨"com/example/sancho/sancho/model/ScriptExpression$ComparisonOperator", "holds", "(DD)Z"⟩ : MethodName)) (z := (⟨"com/example/sancho/sancho/model/ScriptExpression$ComparisonOperator", "holds", "(DD)Z"⟩ : MethodName)) hown (mvT hZ (hw _ (List.mem_of_getElem? (i := 4) rfl))) (mvT hZ (hw _ (List.mem_of_getElem? (i := 5) rfl))) (notFace_of_selects (args := #[]) (mvT hZ (hw _ (List.mem_of_getElem? (i := 7) rfl)))) (mvT hZ (hw _ (List.mem_of_getElem? (i := 7) rfl))) (mvT hZ (hw _ (List.mem_of_getElem? (i := 6) rfl))) (by decide) (backOf (W := 0) (rmS l Z a0 hw [] w_GREATER_OR_EQUAL 3 la lb h0 n0 O O_GREATER_OR_EQUAL E_GREATER_OR_EQUAL (by decide) hla hlb) hZ (hw _ (List.mem_of_getElem? (i := 8) rfl)) (hw _ (List.mem_of_getElem? (i := 2) rfl)) (by decide) (by decide)) q20a q20c (g := (mkF m 245 #[.val (.int p1), .val (.int p2), .val (.int p3), .val (.int p4), .val (.int (3 : Int32)), .val (.int (p4 &&& (3 : Int32))), .val (.long la), .second, .val (.long lb), .second, .val (.double (FP.l2d la)), .second, .val (.double (FP.l2d lb)), .second, .val (.long (la - lb)), .second, .val (.ref w_GREATER_OR_EQUAL), .val (.int (1 : Int32))] [(.double (FP.l2d lb)), (.double (FP.l2d la)), (.ref w_GREATER_OR_EQUAL)])) rfl (by rw [hml]; rfl) (Steps.refl _) (argsL := [(.double (FP.l2d la)), (.double (FP.l2d lb))]) (rest := []) (lenOf pd__DD_Z rfl) rfl (by show 2 * 0 + _ ≤ _; exact Nat.le_of_eq rfl) (hb hby at_245) (fun _ _ => ⟨rfl, e17, (by decide : 0 + 0 ≤ _), (by decide : 0 + 0 ≤ _)⟩)
      dsimp only [Pt.U, Pt.locs, Pt.cells, Pt.slots] at X20 l20 y20 z20 st20 hQ20
      subst l20 y20 z20
      obtain ⟨rfl, N20q, e20q⟩ := hQ20
      have N20 := Fr.app N0 N20q
      refine Go.tr st20 ?_
      rw [show holdF 3 (lcmpW la lb) = (1 : Int32) from by simp [holdF, c179_18]]
      show Go _ _ _ _ _ _ _  T20 (mkF m 248 #[.val (.int p1), .val (.int p2), .val (.int p3), .val (.int p4), .val (.int (3 : Int32)), .val (.int (p4 &&& (3 : Int32))), .val (.long la), .second, .val (.long lb), .second, .val (.double (FP.l2d la)), .second, .val (.double (FP.l2d lb)), .second, .val (.long (la - lb)), .second, .val (.ref w_GREATER_OR_EQUAL), .val (.int (1 : Int32))] [(.int (1 : Int32))])
      refine Go.st (fun t k => XS.iload X20.here hx rfl (hb hby at_248) rfl  k) ?_
      show Go _ _ _ _ _ _ _  T20 (mkF m 250 #[.val (.int p1), .val (.int p2), .val (.int p3), .val (.int p4), .val (.int (3 : Int32)), .val (.int (p4 &&& (3 : Int32))), .val (.long la), .second, .val (.long lb), .second, .val (.double (FP.l2d la)), .second, .val (.double (FP.l2d lb)), .second, .val (.long (la - lb)), .second, .val (.ref w_GREATER_OR_EQUAL), .val (.int (1 : Int32))] [(.int (1 : Int32)), (.int (1 : Int32))])
      refine Go.st (fun t k => XS.icmpNo X20.here hx rfl (hb hby at_250) rfl (teq (rfl : (1 : Int32) = (1 : Int32))).2 k) ?_
      show Go _ _ _ _ _ _ _  T20 (mkF m 253 #[.val (.int p1), .val (.int p2), .val (.int p3), .val (.int p4), .val (.int (3 : Int32)), .val (.int (p4 &&& (3 : Int32))), .val (.long la), .second, .val (.long lb), .second, .val (.double (FP.l2d la)), .second, .val (.double (FP.l2d lb)), .second, .val (.long (la - lb)), .second, .val (.ref w_GREATER_OR_EQUAL), .val (.int (1 : Int32))] [])
      refine Go.st (fun t k => XS.iconst X20.here hx rfl (hb hby at_253) k) ?_
      show Go _ _ _ _ _ _ _  T20 (mkF m 254 #[.val (.int p1), .val (.int p2), .val (.int p3), .val (.int p4), .val (.int (3 : Int32)), .val (.int (p4 &&& (3 : Int32))), .val (.long la), .second, .val (.long lb), .second, .val (.double (FP.l2d la)), .second, .val (.double (FP.l2d lb)), .second, .val (.long (la - lb)), .second, .val (.ref w_GREATER_OR_EQUAL), .val (.int (1 : Int32))] [(.int (1 : Int32))])
      refine Go.st (fun t k => XS.goto X20.here hx rfl (pc0 := 254) (pc' := 258) rfl (hb hby at_254) (by decide) (by decide) k) ?_
      show Go _ _ _ _ _ _ _  T20 (mkF m 258 #[.val (.int p1), .val (.int p2), .val (.int p3), .val (.int p4), .val (.int (3 : Int32)), .val (.int (p4 &&& (3 : Int32))), .val (.long la), .second, .val (.long lb), .second, .val (.double (FP.l2d la)), .second, .val (.double (FP.l2d lb)), .second, .val (.long (la - lb)), .second, .val (.ref w_GREATER_OR_EQUAL), .val (.int (1 : Int32))] [(.int (1 : Int32))])
      refine Go.retN X20 hlk hx (t := .boolean) (z' := (1 : Int32)) Bd.returns (by simp) (hb hby at_258) (by decide) (by decide) rfl ?_
      show Q_rm0 Z _ _ _ _ _ _ _ _ _ _ h0 n0 _ T20.heap _
      rw [e20q]
      exact ⟨rfl, N20⟩
  · rw [sp4]
    show Go _ _ _ _ _ _ _  s₁ (mkF m 81 #[.val (.int p1), .val (.int p2), .val (.int p3), .val (.int p4), .val (.int (4 : Int32)), .val (.int (p4 &&& (3 : Int32))), .val (.long la), .second, .val (.long lb), .second, .val (.double (FP.l2d la)), .second, .val (.double (FP.l2d lb)), .second, .val (.long (la - lb)), .second, .unset, .unset] [])
    refine Go.st (fun t k => XS.iload X0.here hx rfl (hb hby at_81) rfl  k) ?_
    show Go _ _ _ _ _ _ _  s₁ (mkF m 83 #[.val (.int p1), .val (.int p2), .val (.int p3), .val (.int p4), .val (.int (4 : Int32)), .val (.int (p4 &&& (3 : Int32))), .val (.long la), .second, .val (.long lb), .second, .val (.double (FP.l2d la)), .second, .val (.double (FP.l2d lb)), .second, .val (.long (la - lb)), .second, .unset, .unset] [(.int (4 : Int32))])
    refine Go.st (fun t k => XS.ifYes X0.here hx rfl (pc0 := 83) (pc' := 108) rfl (hb hby at_83) rfl ((if0 _ _).trans (feq (by decide : ¬ ((4 : Int32) = (0 : Int32)))).2) (by decide) (by decide) k) ?_
    show Go _ _ _ _ _ _ _  s₁ (mkF m 108 #[.val (.int p1), .val (.int p2), .val (.int p3), .val (.int p4), .val (.int (4 : Int32)), .val (.int (p4 &&& (3 : Int32))), .val (.long la), .second, .val (.long lb), .second, .val (.double (FP.l2d la)), .second, .val (.double (FP.l2d lb)), .second, .val (.long (la - lb)), .second, .unset, .unset] [])
    refine Go.st (fun t k => XS.iload X0.here hx rfl (hb hby at_108) rfl  k) ?_
    show Go _ _ _ _ _ _ _  s₁ (mkF m 110 #[.val (.int p1), .val (.int p2), .val (.int p3), .val (.int p4), .val (.int (4 : Int32)), .val (.int (p4 &&& (3 : Int32))), .val (.long la), .second, .val (.long lb), .second, .val (.double (FP.l2d la)), .second, .val (.double (FP.l2d lb)), .second, .val (.long (la - lb)), .second, .unset, .unset] [(.int (4 : Int32))])
    refine Go.st (fun t k => XS.iconst X0.here hx rfl (hb hby at_110) k) ?_
    show Go _ _ _ _ _ _ _  s₁ (mkF m 111 #[.val (.int p1), .val (.int p2), .val (.int p3), .val (.int p4), .val (.int (4 : Int32)), .val (.int (p4 &&& (3 : Int32))), .val (.long la), .second, .val (.long lb), .second, .val (.double (FP.l2d la)), .second, .val (.double (FP.l2d lb)), .second, .val (.long (la - lb)), .second, .unset, .unset] [(.int (1 : Int32)), (.int (4 : Int32))])
    refine Go.st (fun t k => XS.icmpYes X0.here hx rfl (pc0 := 111) (pc' := 136) rfl (hb hby at_111) rfl (feq (by decide : ¬ ((4 : Int32) = (1 : Int32)))).2 (by decide) (by decide) k) ?_
    show Go _ _ _ _ _ _ _  s₁ (mkF m 136 #[.val (.int p1), .val (.int p2), .val (.int p3), .val (.int p4), .val (.int (4 : Int32)), .val (.int (p4 &&& (3 : Int32))), .val (.long la), .second, .val (.long lb), .second, .val (.double (FP.l2d la)), .second, .val (.double (FP.l2d lb)), .second, .val (.long (la - lb)), .second, .unset, .unset] [])
    refine Go.st (fun t k => XS.iload X0.here hx rfl (hb hby at_136) rfl  k) ?_
    show Go _ _ _ _ _ _ _  s₁ (mkF m 138 #[.val (.int p1), .val (.int p2), .val (.int p3), .val (.int p4), .val (.int (4 : Int32)), .val (.int (p4 &&& (3 : Int32))), .val (.long la), .second, .val (.long lb), .second, .val (.double (FP.l2d la)), .second, .val (.double (FP.l2d lb)), .second, .val (.long (la - lb)), .second, .unset, .unset] [(.int (4 : Int32))])
    refine Go.st (fun t k => XS.iconst X0.here hx rfl (hb hby at_138) k) ?_
    show Go _ _ _ _ _ _ _  s₁ (mkF m 139 #[.val (.int p1), .val (.int p2), .val (.int p3), .val (.int p4), .val (.int (4 : Int32)), .val (.int (p4 &&& (3 : Int32))), .val (.long la), .second, .val (.long lb), .second, .val (.double (FP.l2d la)), .second, .val (.double (FP.l2d lb)), .second, .val (.long (la - lb)), .second, .unset, .unset] [(.int (2 : Int32)), (.int (4 : Int32))])
    refine Go.st (fun t k => XS.icmpYes X0.here hx rfl (pc0 := 139) (pc' := 164) rfl (hb hby at_139) rfl (feq (by decide : ¬ ((4 : Int32) = (2 : Int32)))).2 (by decide) (by decide) k) ?_
    show Go _ _ _ _ _ _ _  s₁ (mkF m 164 #[.val (.int p1), .val (.int p2), .val (.int p3), .val (.int p4), .val (.int (4 : Int32)), .val (.int (p4 &&& (3 : Int32))), .val (.long la), .second, .val (.long lb), .second, .val (.double (FP.l2d la)), .second, .val (.double (FP.l2d lb)), .second, .val (.long (la - lb)), .second, .unset, .unset] [])
    refine Go.st (fun t k => XS.iload X0.here hx rfl (hb hby at_164) rfl  k) ?_
    show Go _ _ _ _ _ _ _  s₁ (mkF m 166 #[.val (.int p1), .val (.int p2), .val (.int p3), .val (.int p4), .val (.int (4 : Int32)), .val (.int (p4 &&& (3 : Int32))), .val (.long la), .second, .val (.long lb), .second, .val (.double (FP.l2d la)), .second, .val (.double (FP.l2d lb)), .second, .val (.long (la - lb)), .second, .unset, .unset] [(.int (4 : Int32))])
    refine Go.st (fun t k => XS.iconst X0.here hx rfl (hb hby at_166) k) ?_
    show Go _ _ _ _ _ _ _  s₁ (mkF m 167 #[.val (.int p1), .val (.int p2), .val (.int p3), .val (.int p4), .val (.int (4 : Int32)), .val (.int (p4 &&& (3 : Int32))), .val (.long la), .second, .val (.long lb), .second, .val (.double (FP.l2d la)), .second, .val (.double (FP.l2d lb)), .second, .val (.long (la - lb)), .second, .unset, .unset] [(.int (3 : Int32)), (.int (4 : Int32))])
    refine Go.st (fun t k => XS.icmpYes X0.here hx rfl (pc0 := 167) (pc' := 192) rfl (hb hby at_167) rfl (feq (by decide : ¬ ((4 : Int32) = (3 : Int32)))).2 (by decide) (by decide) k) ?_
    show Go _ _ _ _ _ _ _  s₁ (mkF m 192 #[.val (.int p1), .val (.int p2), .val (.int p3), .val (.int p4), .val (.int (4 : Int32)), .val (.int (p4 &&& (3 : Int32))), .val (.long la), .second, .val (.long lb), .second, .val (.double (FP.l2d la)), .second, .val (.double (FP.l2d lb)), .second, .val (.long (la - lb)), .second, .unset, .unset] [])
    refine Go.st (fun t k => XS.iload X0.here hx rfl (hb hby at_192) rfl  k) ?_
    show Go _ _ _ _ _ _ _  s₁ (mkF m 194 #[.val (.int p1), .val (.int p2), .val (.int p3), .val (.int p4), .val (.int (4 : Int32)), .val (.int (p4 &&& (3 : Int32))), .val (.long la), .second, .val (.long lb), .second, .val (.double (FP.l2d la)), .second, .val (.double (FP.l2d lb)), .second, .val (.long (la - lb)), .second, .unset, .unset] [(.int (4 : Int32))])
    refine Go.st (fun t k => XS.iconst X0.here hx rfl (hb hby at_194) k) ?_
    show Go _ _ _ _ _ _ _  s₁ (mkF m 195 #[.val (.int p1), .val (.int p2), .val (.int p3), .val (.int p4), .val (.int (4 : Int32)), .val (.int (p4 &&& (3 : Int32))), .val (.long la), .second, .val (.long lb), .second, .val (.double (FP.l2d la)), .second, .val (.double (FP.l2d lb)), .second, .val (.long (la - lb)), .second, .unset, .unset] [(.int (4 : Int32)), (.int (4 : Int32))])
    refine Go.st (fun t k => XS.icmpNo X0.here hx rfl (hb hby at_195) rfl (teq (rfl : (4 : Int32) = (4 : Int32))).2 k) ?_
    show Go _ _ _ _ _ _ _  s₁ (mkF m 198 #[.val (.int p1), .val (.int p2), .val (.int p3), .val (.int p4), .val (.int (4 : Int32)), .val (.int (p4 &&& (3 : Int32))), .val (.long la), .second, .val (.long lb), .second, .val (.double (FP.l2d la)), .second, .val (.double (FP.l2d lb)), .second, .val (.long (la - lb)), .second, .unset, .unset] [])
    obtain ⟨T21, X21, e21, st21⟩ := getS2 X0 hx hZ hown (host := "") (Or.inl (hw _ (List.mem_of_getElem? (i := 20) rfl))) Via.refl e0 (S_EQUAL.ext O.2) (g := (mkF m 198 #[.val (.int p1), .val (.int p2), .val (.int p3), .val (.int p4), .val (.int (4 : Int32)), .val (.int (p4 &&& (3 : Int32))), .val (.long la), .second, .val (.long lb), .second, .val (.double (FP.l2d la)), .second, .val (.double (FP.l2d lb)), .second, .val (.long (la - lb)), .second, .unset, .unset] [])) rfl (hb hby at_198)
    refine Go.st st21 ?_
    show Go _ _ _ _ _ _ _  T21 (mkF m 201 #[.val (.int p1), .val (.int p2), .val (.int p3), .val (.int p4), .val (.int (4 : Int32)), .val (.int (p4 &&& (3 : Int32))), .val (.long la), .second, .val (.long lb), .second, .val (.double (FP.l2d la)), .second, .val (.double (FP.l2d lb)), .second, .val (.long (la - lb)), .second, .unset, .unset] [(.ref w_EQUAL)])
    refine Go.st (fun t k => XS.astore X21.here hx rfl (hb hby at_201) rfl rfl (l' := #[.val (.int p1), .val (.int p2), .val (.int p3), .val (.int p4), .val (.int (4 : Int32)), .val (.int (p4 &&& (3 : Int32))), .val (.long la), .second, .val (.long lb), .second, .val (.double (FP.l2d la)), .second, .val (.double (FP.l2d lb)), .second, .val (.long (la - lb)), .second, .val (.ref w_EQUAL), .unset]) rfl k) ?_
    show Go _ _ _ _ _ _ _  T21 (mkF m 203 #[.val (.int p1), .val (.int p2), .val (.int p3), .val (.int p4), .val (.int (4 : Int32)), .val (.int (p4 &&& (3 : Int32))), .val (.long la), .second, .val (.long lb), .second, .val (.double (FP.l2d la)), .second, .val (.double (FP.l2d lb)), .second, .val (.long (la - lb)), .second, .val (.ref w_EQUAL), .unset] [])
    refine Go.st (fun t k => XS.lload X21.here hx rfl (hb hby at_203) rfl  k) ?_
    show Go _ _ _ _ _ _ _  T21 (mkF m 205 #[.val (.int p1), .val (.int p2), .val (.int p3), .val (.int p4), .val (.int (4 : Int32)), .val (.int (p4 &&& (3 : Int32))), .val (.long la), .second, .val (.long lb), .second, .val (.double (FP.l2d la)), .second, .val (.double (FP.l2d lb)), .second, .val (.long (la - lb)), .second, .val (.ref w_EQUAL), .unset] [(.long (la - lb))])
    refine Go.st (fun t k => XS.lconst X21.here hx rfl (hb hby at_205) k) ?_
    show Go _ _ _ _ _ _ _  T21 (mkF m 206 #[.val (.int p1), .val (.int p2), .val (.int p3), .val (.int p4), .val (.int (4 : Int32)), .val (.int (p4 &&& (3 : Int32))), .val (.long la), .second, .val (.long lb), .second, .val (.double (FP.l2d la)), .second, .val (.double (FP.l2d lb)), .second, .val (.long (la - lb)), .second, .val (.ref w_EQUAL), .unset] [(.long (0 : Int64)), (.long (la - lb))])
    refine Go.st (fun t k => XS.lcmp X21.here hx rfl (hb hby at_206) rfl k) ?_
    show Go _ _ _ _ _ _ _  T21 (mkF m 207 #[.val (.int p1), .val (.int p2), .val (.int p3), .val (.int p4), .val (.int (4 : Int32)), .val (.int (p4 &&& (3 : Int32))), .val (.long la), .second, .val (.long lb), .second, .val (.double (FP.l2d la)), .second, .val (.double (FP.l2d lb)), .second, .val (.long (la - lb)), .second, .val (.ref w_EQUAL), .unset] [(.int (lcmpW (la - lb) (0 : Int64)))])
    rw [own_cmp hla hlb]
    show Go _ _ _ _ _ _ _  T21 (mkF m 207 #[.val (.int p1), .val (.int p2), .val (.int p3), .val (.int p4), .val (.int (4 : Int32)), .val (.int (p4 &&& (3 : Int32))), .val (.long la), .second, .val (.long lb), .second, .val (.double (FP.l2d la)), .second, .val (.double (FP.l2d lb)), .second, .val (.long (la - lb)), .second, .val (.ref w_EQUAL), .unset] [(.int (lcmpW la lb))])
    by_cases c207_22 : (lcmpW la lb) = (0 : Int32)
    · refine Go.st (fun t k => XS.ifNo X21.here hx rfl (hb hby at_207) rfl ((if0 _ _).trans (teq c207_22).2) k) ?_
      show Go _ _ _ _ _ _ _  T21 (mkF m 210 #[.val (.int p1), .val (.int p2), .val (.int p3), .val (.int p4), .val (.int (4 : Int32)), .val (.int (p4 &&& (3 : Int32))), .val (.long la), .second, .val (.long lb), .second, .val (.double (FP.l2d la)), .second, .val (.double (FP.l2d lb)), .second, .val (.long (la - lb)), .second, .val (.ref w_EQUAL), .unset] [])
      refine Go.st (fun t k => XS.iconst X21.here hx rfl (hb hby at_210) k) ?_
      show Go _ _ _ _ _ _ _  T21 (mkF m 211 #[.val (.int p1), .val (.int p2), .val (.int p3), .val (.int p4), .val (.int (4 : Int32)), .val (.int (p4 &&& (3 : Int32))), .val (.long la), .second, .val (.long lb), .second, .val (.double (FP.l2d la)), .second, .val (.double (FP.l2d lb)), .second, .val (.long (la - lb)), .second, .val (.ref w_EQUAL), .unset] [(.int (1 : Int32))])
      refine Go.st (fun t k => XS.goto X21.here hx rfl (pc0 := 211) (pc' := 215) rfl (hb hby at_211) (by decide) (by decide) k) ?_
      show Go _ _ _ _ _ _ _  T21 (mkF m 215 #[.val (.int p1), .val (.int p2), .val (.int p3), .val (.int p4), .val (.int (4 : Int32)), .val (.int (p4 &&& (3 : Int32))), .val (.long la), .second, .val (.long lb), .second, .val (.double (FP.l2d la)), .second, .val (.double (FP.l2d lb)), .second, .val (.long (la - lb)), .second, .val (.ref w_EQUAL), .unset] [(.int (1 : Int32))])
      refine Go.st (fun t k => XS.istore X21.here hx rfl (hb hby at_215) rfl (l' := #[.val (.int p1), .val (.int p2), .val (.int p3), .val (.int p4), .val (.int (4 : Int32)), .val (.int (p4 &&& (3 : Int32))), .val (.long la), .second, .val (.long lb), .second, .val (.double (FP.l2d la)), .second, .val (.double (FP.l2d lb)), .second, .val (.long (la - lb)), .second, .val (.ref w_EQUAL), .val (.int (1 : Int32))]) rfl k) ?_
      show Go _ _ _ _ _ _ _  T21 (mkF m 217 #[.val (.int p1), .val (.int p2), .val (.int p3), .val (.int p4), .val (.int (4 : Int32)), .val (.int (p4 &&& (3 : Int32))), .val (.long la), .second, .val (.long lb), .second, .val (.double (FP.l2d la)), .second, .val (.double (FP.l2d lb)), .second, .val (.long (la - lb)), .second, .val (.ref w_EQUAL), .val (.int (1 : Int32))] [])
      refine Go.st (fun t k => XS.goto X21.here hx rfl (pc0 := 217) (pc' := 239) rfl (hb hby at_217) (by decide) (by decide) k) ?_
      show Go _ _ _ _ _ _ _  T21 (mkF m 239 #[.val (.int p1), .val (.int p2), .val (.int p3), .val (.int p4), .val (.int (4 : Int32)), .val (.int (p4 &&& (3 : Int32))), .val (.long la), .second, .val (.long lb), .second, .val (.double (FP.l2d la)), .second, .val (.double (FP.l2d lb)), .second, .val (.long (la - lb)), .second, .val (.ref w_EQUAL), .val (.int (1 : Int32))] [])
      refine Go.st (fun t k => XS.aload X21.here hx rfl (hb hby at_239) rfl rfl  k) ?_
      show Go _ _ _ _ _ _ _  T21 (mkF m 241 #[.val (.int p1), .val (.int p2), .val (.int p3), .val (.int p4), .val (.int (4 : Int32)), .val (.int (p4 &&& (3 : Int32))), .val (.long la), .second, .val (.long lb), .second, .val (.double (FP.l2d la)), .second, .val (.double (FP.l2d lb)), .second, .val (.long (la - lb)), .second, .val (.ref w_EQUAL), .val (.int (1 : Int32))] [(.ref w_EQUAL)])
      refine Go.st (fun t k => XS.dload X21.here hx rfl (hb hby at_241) rfl k) ?_
      show Go _ _ _ _ _ _ _  T21 (mkF m 243 #[.val (.int p1), .val (.int p2), .val (.int p3), .val (.int p4), .val (.int (4 : Int32)), .val (.int (p4 &&& (3 : Int32))), .val (.long la), .second, .val (.long lb), .second, .val (.double (FP.l2d la)), .second, .val (.double (FP.l2d lb)), .second, .val (.long (la - lb)), .second, .val (.ref w_EQUAL), .val (.int (1 : Int32))] [(.double (FP.l2d la)), (.ref w_EQUAL)])
      refine Go.st (fun t k => XS.dload X21.here hx rfl (hb hby at_243) rfl k) ?_
      show Go _ _ _ _ _ _ _  T21 (mkF m 245 #[.val (.int p1), .val (.int p2), .val (.int p3), .val (.int p4), .val (.int (4 : Int32)), .val (.int (p4 &&& (3 : Int32))), .val (.long la), .second, .val (.long lb), .second, .val (.double (FP.l2d la)), .second, .val (.double (FP.l2d lb)), .second, .val (.long (la - lb)), .second, .val (.ref w_EQUAL), .val (.int (1 : Int32))] [(.double (FP.l2d lb)), (.double (FP.l2d la)), (.ref w_EQUAL)])
      obtain ⟨cq23, kq23, q23a, q23b, q23c⟩ := isOf hZ e21 (E_EQUAL.ext O.2)
      obtain ⟨_, _, ⟨T23, L23, k23, n23⟩, -, X23, ⟨Lc23, hQ23, l23, y23, z23⟩, st23⟩ := X21.virtualBack hx (y := (⟨"com/example/sancho/sancho/model/ScriptExpression$ComparisonOperator", "holds", "(DD)Z"⟩ : MethodName)) (z := (⟨"com/example/sancho/sancho/model/ScriptExpression$ComparisonOperator", "holds", "(DD)Z"⟩ : MethodName)) hown (mvT hZ (hw _ (List.mem_of_getElem? (i := 4) rfl))) (mvT hZ (hw _ (List.mem_of_getElem? (i := 5) rfl))) (notFace_of_selects (args := #[]) (mvT hZ (hw _ (List.mem_of_getElem? (i := 7) rfl)))) (mvT hZ (hw _ (List.mem_of_getElem? (i := 7) rfl))) (mvT hZ (hw _ (List.mem_of_getElem? (i := 6) rfl))) (by decide) (backOf (W := 0) (rmS l Z a0 hw [] w_EQUAL 4 la lb h0 n0 O O_EQUAL E_EQUAL (by decide) hla hlb) hZ (hw _ (List.mem_of_getElem? (i := 8) rfl)) (hw _ (List.mem_of_getElem? (i := 2) rfl)) (by decide) (by decide)) q23a q23c (g := (mkF m 245 #[.val (.int p1), .val (.int p2), .val (.int p3), .val (.int p4), .val (.int (4 : Int32)), .val (.int (p4 &&& (3 : Int32))), .val (.long la), .second, .val (.long lb), .second, .val (.double (FP.l2d la)), .second, .val (.double (FP.l2d lb)), .second, .val (.long (la - lb)), .second, .val (.ref w_EQUAL), .val (.int (1 : Int32))] [(.double (FP.l2d lb)), (.double (FP.l2d la)), (.ref w_EQUAL)])) rfl (by rw [hml]; rfl) (Steps.refl _) (argsL := [(.double (FP.l2d la)), (.double (FP.l2d lb))]) (rest := []) (lenOf pd__DD_Z rfl) rfl (by show 2 * 0 + _ ≤ _; exact Nat.le_of_eq rfl) (hb hby at_245) (fun _ _ => ⟨rfl, e21, (by decide : 0 + 0 ≤ _), (by decide : 0 + 0 ≤ _)⟩)
      dsimp only [Pt.U, Pt.locs, Pt.cells, Pt.slots] at X23 l23 y23 z23 st23 hQ23
      subst l23 y23 z23
      obtain ⟨rfl, N23q, e23q⟩ := hQ23
      have N23 := Fr.app N0 N23q
      refine Go.tr st23 ?_
      rw [show holdF 4 (lcmpW la lb) = (1 : Int32) from by simp [holdF, c207_22]]
      show Go _ _ _ _ _ _ _  T23 (mkF m 248 #[.val (.int p1), .val (.int p2), .val (.int p3), .val (.int p4), .val (.int (4 : Int32)), .val (.int (p4 &&& (3 : Int32))), .val (.long la), .second, .val (.long lb), .second, .val (.double (FP.l2d la)), .second, .val (.double (FP.l2d lb)), .second, .val (.long (la - lb)), .second, .val (.ref w_EQUAL), .val (.int (1 : Int32))] [(.int (1 : Int32))])
      refine Go.st (fun t k => XS.iload X23.here hx rfl (hb hby at_248) rfl  k) ?_
      show Go _ _ _ _ _ _ _  T23 (mkF m 250 #[.val (.int p1), .val (.int p2), .val (.int p3), .val (.int p4), .val (.int (4 : Int32)), .val (.int (p4 &&& (3 : Int32))), .val (.long la), .second, .val (.long lb), .second, .val (.double (FP.l2d la)), .second, .val (.double (FP.l2d lb)), .second, .val (.long (la - lb)), .second, .val (.ref w_EQUAL), .val (.int (1 : Int32))] [(.int (1 : Int32)), (.int (1 : Int32))])
      refine Go.st (fun t k => XS.icmpNo X23.here hx rfl (hb hby at_250) rfl (teq (rfl : (1 : Int32) = (1 : Int32))).2 k) ?_
      show Go _ _ _ _ _ _ _  T23 (mkF m 253 #[.val (.int p1), .val (.int p2), .val (.int p3), .val (.int p4), .val (.int (4 : Int32)), .val (.int (p4 &&& (3 : Int32))), .val (.long la), .second, .val (.long lb), .second, .val (.double (FP.l2d la)), .second, .val (.double (FP.l2d lb)), .second, .val (.long (la - lb)), .second, .val (.ref w_EQUAL), .val (.int (1 : Int32))] [])
      refine Go.st (fun t k => XS.iconst X23.here hx rfl (hb hby at_253) k) ?_
      show Go _ _ _ _ _ _ _  T23 (mkF m 254 #[.val (.int p1), .val (.int p2), .val (.int p3), .val (.int p4), .val (.int (4 : Int32)), .val (.int (p4 &&& (3 : Int32))), .val (.long la), .second, .val (.long lb), .second, .val (.double (FP.l2d la)), .second, .val (.double (FP.l2d lb)), .second, .val (.long (la - lb)), .second, .val (.ref w_EQUAL), .val (.int (1 : Int32))] [(.int (1 : Int32))])
      refine Go.st (fun t k => XS.goto X23.here hx rfl (pc0 := 254) (pc' := 258) rfl (hb hby at_254) (by decide) (by decide) k) ?_
      show Go _ _ _ _ _ _ _  T23 (mkF m 258 #[.val (.int p1), .val (.int p2), .val (.int p3), .val (.int p4), .val (.int (4 : Int32)), .val (.int (p4 &&& (3 : Int32))), .val (.long la), .second, .val (.long lb), .second, .val (.double (FP.l2d la)), .second, .val (.double (FP.l2d lb)), .second, .val (.long (la - lb)), .second, .val (.ref w_EQUAL), .val (.int (1 : Int32))] [(.int (1 : Int32))])
      refine Go.retN X23 hlk hx (t := .boolean) (z' := (1 : Int32)) Bd.returns (by simp) (hb hby at_258) (by decide) (by decide) rfl ?_
      show Q_rm0 Z _ _ _ _ _ _ _ _ _ _ h0 n0 _ T23.heap _
      rw [e23q]
      exact ⟨rfl, N23⟩
    · refine Go.st (fun t k => XS.ifYes X21.here hx rfl (pc0 := 207) (pc' := 214) rfl (hb hby at_207) rfl ((if0 _ _).trans (feq c207_22).2) (by decide) (by decide) k) ?_
      show Go _ _ _ _ _ _ _  T21 (mkF m 214 #[.val (.int p1), .val (.int p2), .val (.int p3), .val (.int p4), .val (.int (4 : Int32)), .val (.int (p4 &&& (3 : Int32))), .val (.long la), .second, .val (.long lb), .second, .val (.double (FP.l2d la)), .second, .val (.double (FP.l2d lb)), .second, .val (.long (la - lb)), .second, .val (.ref w_EQUAL), .unset] [])
      refine Go.st (fun t k => XS.iconst X21.here hx rfl (hb hby at_214) k) ?_
      show Go _ _ _ _ _ _ _  T21 (mkF m 215 #[.val (.int p1), .val (.int p2), .val (.int p3), .val (.int p4), .val (.int (4 : Int32)), .val (.int (p4 &&& (3 : Int32))), .val (.long la), .second, .val (.long lb), .second, .val (.double (FP.l2d la)), .second, .val (.double (FP.l2d lb)), .second, .val (.long (la - lb)), .second, .val (.ref w_EQUAL), .unset] [(.int (0 : Int32))])
      refine Go.st (fun t k => XS.istore X21.here hx rfl (hb hby at_215) rfl (l' := #[.val (.int p1), .val (.int p2), .val (.int p3), .val (.int p4), .val (.int (4 : Int32)), .val (.int (p4 &&& (3 : Int32))), .val (.long la), .second, .val (.long lb), .second, .val (.double (FP.l2d la)), .second, .val (.double (FP.l2d lb)), .second, .val (.long (la - lb)), .second, .val (.ref w_EQUAL), .val (.int (0 : Int32))]) rfl k) ?_
      show Go _ _ _ _ _ _ _  T21 (mkF m 217 #[.val (.int p1), .val (.int p2), .val (.int p3), .val (.int p4), .val (.int (4 : Int32)), .val (.int (p4 &&& (3 : Int32))), .val (.long la), .second, .val (.long lb), .second, .val (.double (FP.l2d la)), .second, .val (.double (FP.l2d lb)), .second, .val (.long (la - lb)), .second, .val (.ref w_EQUAL), .val (.int (0 : Int32))] [])
      refine Go.st (fun t k => XS.goto X21.here hx rfl (pc0 := 217) (pc' := 239) rfl (hb hby at_217) (by decide) (by decide) k) ?_
      show Go _ _ _ _ _ _ _  T21 (mkF m 239 #[.val (.int p1), .val (.int p2), .val (.int p3), .val (.int p4), .val (.int (4 : Int32)), .val (.int (p4 &&& (3 : Int32))), .val (.long la), .second, .val (.long lb), .second, .val (.double (FP.l2d la)), .second, .val (.double (FP.l2d lb)), .second, .val (.long (la - lb)), .second, .val (.ref w_EQUAL), .val (.int (0 : Int32))] [])
      refine Go.st (fun t k => XS.aload X21.here hx rfl (hb hby at_239) rfl rfl  k) ?_
      show Go _ _ _ _ _ _ _  T21 (mkF m 241 #[.val (.int p1), .val (.int p2), .val (.int p3), .val (.int p4), .val (.int (4 : Int32)), .val (.int (p4 &&& (3 : Int32))), .val (.long la), .second, .val (.long lb), .second, .val (.double (FP.l2d la)), .second, .val (.double (FP.l2d lb)), .second, .val (.long (la - lb)), .second, .val (.ref w_EQUAL), .val (.int (0 : Int32))] [(.ref w_EQUAL)])
      refine Go.st (fun t k => XS.dload X21.here hx rfl (hb hby at_241) rfl k) ?_
      show Go _ _ _ _ _ _ _  T21 (mkF m 243 #[.val (.int p1), .val (.int p2), .val (.int p3), .val (.int p4), .val (.int (4 : Int32)), .val (.int (p4 &&& (3 : Int32))), .val (.long la), .second, .val (.long lb), .second, .val (.double (FP.l2d la)), .second, .val (.double (FP.l2d lb)), .second, .val (.long (la - lb)), .second, .val (.ref w_EQUAL), .val (.int (0 : Int32))] [(.double (FP.l2d la)), (.ref w_EQUAL)])
      refine Go.st (fun t k => XS.dload X21.here hx rfl (hb hby at_243) rfl k) ?_
      show Go _ _ _ _ _ _ _  T21 (mkF m 245 #[.val (.int p1), .val (.int p2), .val (.int p3), .val (.int p4), .val (.int (4 : Int32)), .val (.int (p4 &&& (3 : Int32))), .val (.long la), .second, .val (.long lb), .second, .val (.double (FP.l2d la)), .second, .val (.double (FP.l2d lb)), .second, .val (.long (la - lb)), .second, .val (.ref w_EQUAL), .val (.int (0 : Int32))] [(.double (FP.l2d lb)), (.double (FP.l2d la)), (.ref w_EQUAL)])
      obtain ⟨cq24, kq24, q24a, q24b, q24c⟩ := isOf hZ e21 (E_EQUAL.ext O.2)
      obtain ⟨_, _, ⟨T24, L24, k24, n24⟩, -, X24, ⟨Lc24, hQ24, l24, y24, z24⟩, st24⟩ := X21.virtualBack hx (y := (⟨"com/example/sancho/sancho/model/ScriptExpression$ComparisonOperator", "holds", "(DD)Z"⟩ : MethodName)) (z := (⟨"com/example/sancho/sancho/model/ScriptExpression$ComparisonOperator", "holds", "(DD)Z"⟩ : MethodName)) hown (mvT hZ (hw _ (List.mem_of_getElem? (i := 4) rfl))) (mvT hZ (hw _ (List.mem_of_getElem? (i := 5) rfl))) (notFace_of_selects (args := #[]) (mvT hZ (hw _ (List.mem_of_getElem? (i := 7) rfl)))) (mvT hZ (hw _ (List.mem_of_getElem? (i := 7) rfl))) (mvT hZ (hw _ (List.mem_of_getElem? (i := 6) rfl))) (by decide) (backOf (W := 0) (rmS l Z a0 hw [] w_EQUAL 4 la lb h0 n0 O O_EQUAL E_EQUAL (by decide) hla hlb) hZ (hw _ (List.mem_of_getElem? (i := 8) rfl)) (hw _ (List.mem_of_getElem? (i := 2) rfl)) (by decide) (by decide)) q24a q24c (g := (mkF m 245 #[.val (.int p1), .val (.int p2), .val (.int p3), .val (.int p4), .val (.int (4 : Int32)), .val (.int (p4 &&& (3 : Int32))), .val (.long la), .second, .val (.long lb), .second, .val (.double (FP.l2d la)), .second, .val (.double (FP.l2d lb)), .second, .val (.long (la - lb)), .second, .val (.ref w_EQUAL), .val (.int (0 : Int32))] [(.double (FP.l2d lb)), (.double (FP.l2d la)), (.ref w_EQUAL)])) rfl (by rw [hml]; rfl) (Steps.refl _) (argsL := [(.double (FP.l2d la)), (.double (FP.l2d lb))]) (rest := []) (lenOf pd__DD_Z rfl) rfl (by show 2 * 0 + _ ≤ _; exact Nat.le_of_eq rfl) (hb hby at_245) (fun _ _ => ⟨rfl, e21, (by decide : 0 + 0 ≤ _), (by decide : 0 + 0 ≤ _)⟩)
      dsimp only [Pt.U, Pt.locs, Pt.cells, Pt.slots] at X24 l24 y24 z24 st24 hQ24
      subst l24 y24 z24
      obtain ⟨rfl, N24q, e24q⟩ := hQ24
      have N24 := Fr.app N0 N24q
      refine Go.tr st24 ?_
      rw [show holdF 4 (lcmpW la lb) = (0 : Int32) from by simp [holdF, c207_22]]
      show Go _ _ _ _ _ _ _  T24 (mkF m 248 #[.val (.int p1), .val (.int p2), .val (.int p3), .val (.int p4), .val (.int (4 : Int32)), .val (.int (p4 &&& (3 : Int32))), .val (.long la), .second, .val (.long lb), .second, .val (.double (FP.l2d la)), .second, .val (.double (FP.l2d lb)), .second, .val (.long (la - lb)), .second, .val (.ref w_EQUAL), .val (.int (0 : Int32))] [(.int (0 : Int32))])
      refine Go.st (fun t k => XS.iload X24.here hx rfl (hb hby at_248) rfl  k) ?_
      show Go _ _ _ _ _ _ _  T24 (mkF m 250 #[.val (.int p1), .val (.int p2), .val (.int p3), .val (.int p4), .val (.int (4 : Int32)), .val (.int (p4 &&& (3 : Int32))), .val (.long la), .second, .val (.long lb), .second, .val (.double (FP.l2d la)), .second, .val (.double (FP.l2d lb)), .second, .val (.long (la - lb)), .second, .val (.ref w_EQUAL), .val (.int (0 : Int32))] [(.int (0 : Int32)), (.int (0 : Int32))])
      refine Go.st (fun t k => XS.icmpNo X24.here hx rfl (hb hby at_250) rfl (teq (rfl : (0 : Int32) = (0 : Int32))).2 k) ?_
      show Go _ _ _ _ _ _ _  T24 (mkF m 253 #[.val (.int p1), .val (.int p2), .val (.int p3), .val (.int p4), .val (.int (4 : Int32)), .val (.int (p4 &&& (3 : Int32))), .val (.long la), .second, .val (.long lb), .second, .val (.double (FP.l2d la)), .second, .val (.double (FP.l2d lb)), .second, .val (.long (la - lb)), .second, .val (.ref w_EQUAL), .val (.int (0 : Int32))] [])
      refine Go.st (fun t k => XS.iconst X24.here hx rfl (hb hby at_253) k) ?_
      show Go _ _ _ _ _ _ _  T24 (mkF m 254 #[.val (.int p1), .val (.int p2), .val (.int p3), .val (.int p4), .val (.int (4 : Int32)), .val (.int (p4 &&& (3 : Int32))), .val (.long la), .second, .val (.long lb), .second, .val (.double (FP.l2d la)), .second, .val (.double (FP.l2d lb)), .second, .val (.long (la - lb)), .second, .val (.ref w_EQUAL), .val (.int (0 : Int32))] [(.int (1 : Int32))])
      refine Go.st (fun t k => XS.goto X24.here hx rfl (pc0 := 254) (pc' := 258) rfl (hb hby at_254) (by decide) (by decide) k) ?_
      show Go _ _ _ _ _ _ _  T24 (mkF m 258 #[.val (.int p1), .val (.int p2), .val (.int p3), .val (.int p4), .val (.int (4 : Int32)), .val (.int (p4 &&& (3 : Int32))), .val (.long la), .second, .val (.long lb), .second, .val (.double (FP.l2d la)), .second, .val (.double (FP.l2d lb)), .second, .val (.long (la - lb)), .second, .val (.ref w_EQUAL), .val (.int (0 : Int32))] [(.int (1 : Int32))])
      refine Go.retN X24 hlk hx (t := .boolean) (z' := (1 : Int32)) Bd.returns (by simp) (hb hby at_258) (by decide) (by decide) rfl ?_
      show Q_rm0 Z _ _ _ _ _ _ _ _ _ _ h0 n0 _ T24.heap _
      rw [e24q]
      exact ⟨rfl, N24⟩
  · rw [sp4]
    show Go _ _ _ _ _ _ _  s₁ (mkF m 81 #[.val (.int p1), .val (.int p2), .val (.int p3), .val (.int p4), .val (.int (5 : Int32)), .val (.int (p4 &&& (3 : Int32))), .val (.long la), .second, .val (.long lb), .second, .val (.double (FP.l2d la)), .second, .val (.double (FP.l2d lb)), .second, .val (.long (la - lb)), .second, .unset, .unset] [])
    refine Go.st (fun t k => XS.iload X0.here hx rfl (hb hby at_81) rfl  k) ?_
    show Go _ _ _ _ _ _ _  s₁ (mkF m 83 #[.val (.int p1), .val (.int p2), .val (.int p3), .val (.int p4), .val (.int (5 : Int32)), .val (.int (p4 &&& (3 : Int32))), .val (.long la), .second, .val (.long lb), .second, .val (.double (FP.l2d la)), .second, .val (.double (FP.l2d lb)), .second, .val (.long (la - lb)), .second, .unset, .unset] [(.int (5 : Int32))])
    refine Go.st (fun t k => XS.ifYes X0.here hx rfl (pc0 := 83) (pc' := 108) rfl (hb hby at_83) rfl ((if0 _ _).trans (feq (by decide : ¬ ((5 : Int32) = (0 : Int32)))).2) (by decide) (by decide) k) ?_
    show Go _ _ _ _ _ _ _  s₁ (mkF m 108 #[.val (.int p1), .val (.int p2), .val (.int p3), .val (.int p4), .val (.int (5 : Int32)), .val (.int (p4 &&& (3 : Int32))), .val (.long la), .second, .val (.long lb), .second, .val (.double (FP.l2d la)), .second, .val (.double (FP.l2d lb)), .second, .val (.long (la - lb)), .second, .unset, .unset] [])
    refine Go.st (fun t k => XS.iload X0.here hx rfl (hb hby at_108) rfl  k) ?_
    show Go _ _ _ _ _ _ _  s₁ (mkF m 110 #[.val (.int p1), .val (.int p2), .val (.int p3), .val (.int p4), .val (.int (5 : Int32)), .val (.int (p4 &&& (3 : Int32))), .val (.long la), .second, .val (.long lb), .second, .val (.double (FP.l2d la)), .second, .val (.double (FP.l2d lb)), .second, .val (.long (la - lb)), .second, .unset, .unset] [(.int (5 : Int32))])
    refine Go.st (fun t k => XS.iconst X0.here hx rfl (hb hby at_110) k) ?_
    show Go _ _ _ _ _ _ _  s₁ (mkF m 111 #[.val (.int p1), .val (.int p2), .val (.int p3), .val (.int p4), .val (.int (5 : Int32)), .val (.int (p4 &&& (3 : Int32))), .val (.long la), .second, .val (.long lb), .second, .val (.double (FP.l2d la)), .second, .val (.double (FP.l2d lb)), .second, .val (.long (la - lb)), .second, .unset, .unset] [(.int (1 : Int32)), (.int (5 : Int32))])
    refine Go.st (fun t k => XS.icmpYes X0.here hx rfl (pc0 := 111) (pc' := 136) rfl (hb hby at_111) rfl (feq (by decide : ¬ ((5 : Int32) = (1 : Int32)))).2 (by decide) (by decide) k) ?_
    show Go _ _ _ _ _ _ _  s₁ (mkF m 136 #[.val (.int p1), .val (.int p2), .val (.int p3), .val (.int p4), .val (.int (5 : Int32)), .val (.int (p4 &&& (3 : Int32))), .val (.long la), .second, .val (.long lb), .second, .val (.double (FP.l2d la)), .second, .val (.double (FP.l2d lb)), .second, .val (.long (la - lb)), .second, .unset, .unset] [])
    refine Go.st (fun t k => XS.iload X0.here hx rfl (hb hby at_136) rfl  k) ?_
    show Go _ _ _ _ _ _ _  s₁ (mkF m 138 #[.val (.int p1), .val (.int p2), .val (.int p3), .val (.int p4), .val (.int (5 : Int32)), .val (.int (p4 &&& (3 : Int32))), .val (.long la), .second, .val (.long lb), .second, .val (.double (FP.l2d la)), .second, .val (.double (FP.l2d lb)), .second, .val (.long (la - lb)), .second, .unset, .unset] [(.int (5 : Int32))])
    refine Go.st (fun t k => XS.iconst X0.here hx rfl (hb hby at_138) k) ?_
    show Go _ _ _ _ _ _ _  s₁ (mkF m 139 #[.val (.int p1), .val (.int p2), .val (.int p3), .val (.int p4), .val (.int (5 : Int32)), .val (.int (p4 &&& (3 : Int32))), .val (.long la), .second, .val (.long lb), .second, .val (.double (FP.l2d la)), .second, .val (.double (FP.l2d lb)), .second, .val (.long (la - lb)), .second, .unset, .unset] [(.int (2 : Int32)), (.int (5 : Int32))])
    refine Go.st (fun t k => XS.icmpYes X0.here hx rfl (pc0 := 139) (pc' := 164) rfl (hb hby at_139) rfl (feq (by decide : ¬ ((5 : Int32) = (2 : Int32)))).2 (by decide) (by decide) k) ?_
    show Go _ _ _ _ _ _ _  s₁ (mkF m 164 #[.val (.int p1), .val (.int p2), .val (.int p3), .val (.int p4), .val (.int (5 : Int32)), .val (.int (p4 &&& (3 : Int32))), .val (.long la), .second, .val (.long lb), .second, .val (.double (FP.l2d la)), .second, .val (.double (FP.l2d lb)), .second, .val (.long (la - lb)), .second, .unset, .unset] [])
    refine Go.st (fun t k => XS.iload X0.here hx rfl (hb hby at_164) rfl  k) ?_
    show Go _ _ _ _ _ _ _  s₁ (mkF m 166 #[.val (.int p1), .val (.int p2), .val (.int p3), .val (.int p4), .val (.int (5 : Int32)), .val (.int (p4 &&& (3 : Int32))), .val (.long la), .second, .val (.long lb), .second, .val (.double (FP.l2d la)), .second, .val (.double (FP.l2d lb)), .second, .val (.long (la - lb)), .second, .unset, .unset] [(.int (5 : Int32))])
    refine Go.st (fun t k => XS.iconst X0.here hx rfl (hb hby at_166) k) ?_
    show Go _ _ _ _ _ _ _  s₁ (mkF m 167 #[.val (.int p1), .val (.int p2), .val (.int p3), .val (.int p4), .val (.int (5 : Int32)), .val (.int (p4 &&& (3 : Int32))), .val (.long la), .second, .val (.long lb), .second, .val (.double (FP.l2d la)), .second, .val (.double (FP.l2d lb)), .second, .val (.long (la - lb)), .second, .unset, .unset] [(.int (3 : Int32)), (.int (5 : Int32))])
    refine Go.st (fun t k => XS.icmpYes X0.here hx rfl (pc0 := 167) (pc' := 192) rfl (hb hby at_167) rfl (feq (by decide : ¬ ((5 : Int32) = (3 : Int32)))).2 (by decide) (by decide) k) ?_
    show Go _ _ _ _ _ _ _  s₁ (mkF m 192 #[.val (.int p1), .val (.int p2), .val (.int p3), .val (.int p4), .val (.int (5 : Int32)), .val (.int (p4 &&& (3 : Int32))), .val (.long la), .second, .val (.long lb), .second, .val (.double (FP.l2d la)), .second, .val (.double (FP.l2d lb)), .second, .val (.long (la - lb)), .second, .unset, .unset] [])
    refine Go.st (fun t k => XS.iload X0.here hx rfl (hb hby at_192) rfl  k) ?_
    show Go _ _ _ _ _ _ _  s₁ (mkF m 194 #[.val (.int p1), .val (.int p2), .val (.int p3), .val (.int p4), .val (.int (5 : Int32)), .val (.int (p4 &&& (3 : Int32))), .val (.long la), .second, .val (.long lb), .second, .val (.double (FP.l2d la)), .second, .val (.double (FP.l2d lb)), .second, .val (.long (la - lb)), .second, .unset, .unset] [(.int (5 : Int32))])
    refine Go.st (fun t k => XS.iconst X0.here hx rfl (hb hby at_194) k) ?_
    show Go _ _ _ _ _ _ _  s₁ (mkF m 195 #[.val (.int p1), .val (.int p2), .val (.int p3), .val (.int p4), .val (.int (5 : Int32)), .val (.int (p4 &&& (3 : Int32))), .val (.long la), .second, .val (.long lb), .second, .val (.double (FP.l2d la)), .second, .val (.double (FP.l2d lb)), .second, .val (.long (la - lb)), .second, .unset, .unset] [(.int (4 : Int32)), (.int (5 : Int32))])
    refine Go.st (fun t k => XS.icmpYes X0.here hx rfl (pc0 := 195) (pc' := 220) rfl (hb hby at_195) rfl (feq (by decide : ¬ ((5 : Int32) = (4 : Int32)))).2 (by decide) (by decide) k) ?_
    show Go _ _ _ _ _ _ _  s₁ (mkF m 220 #[.val (.int p1), .val (.int p2), .val (.int p3), .val (.int p4), .val (.int (5 : Int32)), .val (.int (p4 &&& (3 : Int32))), .val (.long la), .second, .val (.long lb), .second, .val (.double (FP.l2d la)), .second, .val (.double (FP.l2d lb)), .second, .val (.long (la - lb)), .second, .unset, .unset] [])
    obtain ⟨T25, X25, e25, st25⟩ := getS2 X0 hx hZ hown (host := "") (Or.inl (hw _ (List.mem_of_getElem? (i := 24) rfl))) Via.refl e0 (S_NOT_EQUAL.ext O.2) (g := (mkF m 220 #[.val (.int p1), .val (.int p2), .val (.int p3), .val (.int p4), .val (.int (5 : Int32)), .val (.int (p4 &&& (3 : Int32))), .val (.long la), .second, .val (.long lb), .second, .val (.double (FP.l2d la)), .second, .val (.double (FP.l2d lb)), .second, .val (.long (la - lb)), .second, .unset, .unset] [])) rfl (hb hby at_220)
    refine Go.st st25 ?_
    show Go _ _ _ _ _ _ _  T25 (mkF m 223 #[.val (.int p1), .val (.int p2), .val (.int p3), .val (.int p4), .val (.int (5 : Int32)), .val (.int (p4 &&& (3 : Int32))), .val (.long la), .second, .val (.long lb), .second, .val (.double (FP.l2d la)), .second, .val (.double (FP.l2d lb)), .second, .val (.long (la - lb)), .second, .unset, .unset] [(.ref w_NOT_EQUAL)])
    refine Go.st (fun t k => XS.astore X25.here hx rfl (hb hby at_223) rfl rfl (l' := #[.val (.int p1), .val (.int p2), .val (.int p3), .val (.int p4), .val (.int (5 : Int32)), .val (.int (p4 &&& (3 : Int32))), .val (.long la), .second, .val (.long lb), .second, .val (.double (FP.l2d la)), .second, .val (.double (FP.l2d lb)), .second, .val (.long (la - lb)), .second, .val (.ref w_NOT_EQUAL), .unset]) rfl k) ?_
    show Go _ _ _ _ _ _ _  T25 (mkF m 225 #[.val (.int p1), .val (.int p2), .val (.int p3), .val (.int p4), .val (.int (5 : Int32)), .val (.int (p4 &&& (3 : Int32))), .val (.long la), .second, .val (.long lb), .second, .val (.double (FP.l2d la)), .second, .val (.double (FP.l2d lb)), .second, .val (.long (la - lb)), .second, .val (.ref w_NOT_EQUAL), .unset] [])
    refine Go.st (fun t k => XS.lload X25.here hx rfl (hb hby at_225) rfl  k) ?_
    show Go _ _ _ _ _ _ _  T25 (mkF m 227 #[.val (.int p1), .val (.int p2), .val (.int p3), .val (.int p4), .val (.int (5 : Int32)), .val (.int (p4 &&& (3 : Int32))), .val (.long la), .second, .val (.long lb), .second, .val (.double (FP.l2d la)), .second, .val (.double (FP.l2d lb)), .second, .val (.long (la - lb)), .second, .val (.ref w_NOT_EQUAL), .unset] [(.long (la - lb))])
    refine Go.st (fun t k => XS.lconst X25.here hx rfl (hb hby at_227) k) ?_
    show Go _ _ _ _ _ _ _  T25 (mkF m 228 #[.val (.int p1), .val (.int p2), .val (.int p3), .val (.int p4), .val (.int (5 : Int32)), .val (.int (p4 &&& (3 : Int32))), .val (.long la), .second, .val (.long lb), .second, .val (.double (FP.l2d la)), .second, .val (.double (FP.l2d lb)), .second, .val (.long (la - lb)), .second, .val (.ref w_NOT_EQUAL), .unset] [(.long (0 : Int64)), (.long (la - lb))])
    refine Go.st (fun t k => XS.lcmp X25.here hx rfl (hb hby at_228) rfl k) ?_
    show Go _ _ _ _ _ _ _  T25 (mkF m 229 #[.val (.int p1), .val (.int p2), .val (.int p3), .val (.int p4), .val (.int (5 : Int32)), .val (.int (p4 &&& (3 : Int32))), .val (.long la), .second, .val (.long lb), .second, .val (.double (FP.l2d la)), .second, .val (.double (FP.l2d lb)), .second, .val (.long (la - lb)), .second, .val (.ref w_NOT_EQUAL), .unset] [(.int (lcmpW (la - lb) (0 : Int64)))])
    rw [own_cmp hla hlb]
    show Go _ _ _ _ _ _ _  T25 (mkF m 229 #[.val (.int p1), .val (.int p2), .val (.int p3), .val (.int p4), .val (.int (5 : Int32)), .val (.int (p4 &&& (3 : Int32))), .val (.long la), .second, .val (.long lb), .second, .val (.double (FP.l2d la)), .second, .val (.double (FP.l2d lb)), .second, .val (.long (la - lb)), .second, .val (.ref w_NOT_EQUAL), .unset] [(.int (lcmpW la lb))])
    by_cases c229_26 : (lcmpW la lb) = (0 : Int32)
    · refine Go.st (fun t k => XS.ifYes X25.here hx rfl (pc0 := 229) (pc' := 236) rfl (hb hby at_229) rfl ((if0 _ _).trans (teq c229_26).1) (by decide) (by decide) k) ?_
      show Go _ _ _ _ _ _ _  T25 (mkF m 236 #[.val (.int p1), .val (.int p2), .val (.int p3), .val (.int p4), .val (.int (5 : Int32)), .val (.int (p4 &&& (3 : Int32))), .val (.long la), .second, .val (.long lb), .second, .val (.double (FP.l2d la)), .second, .val (.double (FP.l2d lb)), .second, .val (.long (la - lb)), .second, .val (.ref w_NOT_EQUAL), .unset] [])
      refine Go.st (fun t k => XS.iconst X25.here hx rfl (hb hby at_236) k) ?_
      show Go _ _ _ _ _ _ _  T25 (mkF m 237 #[.val (.int p1), .val (.int p2), .val (.int p3), .val (.int p4), .val (.int (5 : Int32)), .val (.int (p4 &&& (3 : Int32))), .val (.long la), .second, .val (.long lb), .second, .val (.double (FP.l2d la)), .second, .val (.double (FP.l2d lb)), .second, .val (.long (la - lb)), .second, .val (.ref w_NOT_EQUAL), .unset] [(.int (0 : Int32))])
      refine Go.st (fun t k => XS.istore X25.here hx rfl (hb hby at_237) rfl (l' := #[.val (.int p1), .val (.int p2), .val (.int p3), .val (.int p4), .val (.int (5 : Int32)), .val (.int (p4 &&& (3 : Int32))), .val (.long la), .second, .val (.long lb), .second, .val (.double (FP.l2d la)), .second, .val (.double (FP.l2d lb)), .second, .val (.long (la - lb)), .second, .val (.ref w_NOT_EQUAL), .val (.int (0 : Int32))]) rfl k) ?_
      show Go _ _ _ _ _ _ _  T25 (mkF m 239 #[.val (.int p1), .val (.int p2), .val (.int p3), .val (.int p4), .val (.int (5 : Int32)), .val (.int (p4 &&& (3 : Int32))), .val (.long la), .second, .val (.long lb), .second, .val (.double (FP.l2d la)), .second, .val (.double (FP.l2d lb)), .second, .val (.long (la - lb)), .second, .val (.ref w_NOT_EQUAL), .val (.int (0 : Int32))] [])
      refine Go.st (fun t k => XS.aload X25.here hx rfl (hb hby at_239) rfl rfl  k) ?_
      show Go _ _ _ _ _ _ _  T25 (mkF m 241 #[.val (.int p1), .val (.int p2), .val (.int p3), .val (.int p4), .val (.int (5 : Int32)), .val (.int (p4 &&& (3 : Int32))), .val (.long la), .second, .val (.long lb), .second, .val (.double (FP.l2d la)), .second, .val (.double (FP.l2d lb)), .second, .val (.long (la - lb)), .second, .val (.ref w_NOT_EQUAL), .val (.int (0 : Int32))] [(.ref w_NOT_EQUAL)])
      refine Go.st (fun t k => XS.dload X25.here hx rfl (hb hby at_241) rfl k) ?_
      show Go _ _ _ _ _ _ _  T25 (mkF m 243 #[.val (.int p1), .val (.int p2), .val (.int p3), .val (.int p4), .val (.int (5 : Int32)), .val (.int (p4 &&& (3 : Int32))), .val (.long la), .second, .val (.long lb), .second, .val (.double (FP.l2d la)), .second, .val (.double (FP.l2d lb)), .second, .val (.long (la - lb)), .second, .val (.ref w_NOT_EQUAL), .val (.int (0 : Int32))] [(.double (FP.l2d la)), (.ref w_NOT_EQUAL)])
      refine Go.st (fun t k => XS.dload X25.here hx rfl (hb hby at_243) rfl k) ?_
      show Go _ _ _ _ _ _ _  T25 (mkF m 245 #[.val (.int p1), .val (.int p2), .val (.int p3), .val (.int p4), .val (.int (5 : Int32)), .val (.int (p4 &&& (3 : Int32))), .val (.long la), .second, .val (.long lb), .second, .val (.double (FP.l2d la)), .second, .val (.double (FP.l2d lb)), .second, .val (.long (la - lb)), .second, .val (.ref w_NOT_EQUAL), .val (.int (0 : Int32))] [(.double (FP.l2d lb)), (.double (FP.l2d la)), (.ref w_NOT_EQUAL)])
      obtain ⟨cq27, kq27, q27a, q27b, q27c⟩ := isOf hZ e25 (E_NOT_EQUAL.ext O.2)
      obtain ⟨_, _, ⟨T27, L27, k27, n27⟩, -, X27, ⟨Lc27, hQ27, l27, y27, z27⟩, st27⟩ := X25.virtualBack hx (y := (⟨"com/example/sancho/sancho/model/ScriptExpression$ComparisonOperator", "holds", "(DD)Z"⟩ : MethodName)) (z := (⟨"com/example/sancho/sancho/model/ScriptExpression$ComparisonOperator", "holds", "(DD)Z"⟩ : MethodName)) hown (mvT hZ (hw _ (List.mem_of_getElem? (i := 4) rfl))) (mvT hZ (hw _ (List.mem_of_getElem? (i := 5) rfl))) (notFace_of_selects (args := #[]) (mvT hZ (hw _ (List.mem_of_getElem? (i := 7) rfl)))) (mvT hZ (hw _ (List.mem_of_getElem? (i := 7) rfl))) (mvT hZ (hw _ (List.mem_of_getElem? (i := 6) rfl))) (by decide) (backOf (W := 0) (rmS l Z a0 hw [] w_NOT_EQUAL 5 la lb h0 n0 O O_NOT_EQUAL E_NOT_EQUAL (by decide) hla hlb) hZ (hw _ (List.mem_of_getElem? (i := 8) rfl)) (hw _ (List.mem_of_getElem? (i := 2) rfl)) (by decide) (by decide)) q27a q27c (g := (mkF m 245 #[.val (.int p1), .val (.int p2), .val (.int p3), .val (.int p4), .val (.int (5 : Int32)), .val (.int (p4 &&& (3 : Int32))), .val (.long la), .second, .val (.long lb), .second, .val (.double (FP.l2d la)), .second, .val (.double (FP.l2d lb)), .second, .val (.long (la - lb)), .second, .val (.ref w_NOT_EQUAL), .val (.int (0 : Int32))] [(.double (FP.l2d lb)), (.double (FP.l2d la)), (.ref w_NOT_EQUAL)])) rfl (by rw [hml]; rfl) (Steps.refl _) (argsL := [(.double (FP.l2d la)), (.double (FP.l2d lb))]) (rest := []) (lenOf pd__DD_Z rfl) rfl (by show 2 * 0 + _ ≤ _; exact Nat.le_of_eq rfl) (hb hby at_245) (fun _ _ => ⟨rfl, e25, (by decide : 0 + 0 ≤ _), (by decide : 0 + 0 ≤ _)⟩)
      dsimp only [Pt.U, Pt.locs, Pt.cells, Pt.slots] at X27 l27 y27 z27 st27 hQ27
      subst l27 y27 z27
      obtain ⟨rfl, N27q, e27q⟩ := hQ27
      have N27 := Fr.app N0 N27q
      refine Go.tr st27 ?_
      rw [show holdF 5 (lcmpW la lb) = (0 : Int32) from by simp [holdF, c229_26]]
      show Go _ _ _ _ _ _ _  T27 (mkF m 248 #[.val (.int p1), .val (.int p2), .val (.int p3), .val (.int p4), .val (.int (5 : Int32)), .val (.int (p4 &&& (3 : Int32))), .val (.long la), .second, .val (.long lb), .second, .val (.double (FP.l2d la)), .second, .val (.double (FP.l2d lb)), .second, .val (.long (la - lb)), .second, .val (.ref w_NOT_EQUAL), .val (.int (0 : Int32))] [(.int (0 : Int32))])
      refine Go.st (fun t k => XS.iload X27.here hx rfl (hb hby at_248) rfl  k) ?_
      show Go _ _ _ _ _ _ _  T27 (mkF m 250 #[.val (.int p1), .val (.int p2), .val (.int p3), .val (.int p4), .val (.int (5 : Int32)), .val (.int (p4 &&& (3 : Int32))), .val (.long la), .second, .val (.long lb), .second, .val (.double (FP.l2d la)), .second, .val (.double (FP.l2d lb)), .second, .val (.long (la - lb)), .second, .val (.ref w_NOT_EQUAL), .val (.int (0 : Int32))] [(.int (0 : Int32)), (.int (0 : Int32))])
      refine Go.st (fun t k => XS.icmpNo X27.here hx rfl (hb hby at_250) rfl (teq (rfl : (0 : Int32) = (0 : Int32))).2 k) ?_
      show Go _ _ _ _ _ _ _  T27 (mkF m 253 #[.val (.int p1), .val (.int p2), .val (.int p3), .val (.int p4), .val (.int (5 : Int32)), .val (.int (p4 &&& (3 : Int32))), .val (.long la), .second, .val (.long lb), .second, .val (.double (FP.l2d la)), .second, .val (.double (FP.l2d lb)), .second, .val (.long (la - lb)), .second, .val (.ref w_NOT_EQUAL), .val (.int (0 : Int32))] [])
      refine Go.st (fun t k => XS.iconst X27.here hx rfl (hb hby at_253) k) ?_
      show Go _ _ _ _ _ _ _  T27 (mkF m 254 #[.val (.int p1), .val (.int p2), .val (.int p3), .val (.int p4), .val (.int (5 : Int32)), .val (.int (p4 &&& (3 : Int32))), .val (.long la), .second, .val (.long lb), .second, .val (.double (FP.l2d la)), .second, .val (.double (FP.l2d lb)), .second, .val (.long (la - lb)), .second, .val (.ref w_NOT_EQUAL), .val (.int (0 : Int32))] [(.int (1 : Int32))])
      refine Go.st (fun t k => XS.goto X27.here hx rfl (pc0 := 254) (pc' := 258) rfl (hb hby at_254) (by decide) (by decide) k) ?_
      show Go _ _ _ _ _ _ _  T27 (mkF m 258 #[.val (.int p1), .val (.int p2), .val (.int p3), .val (.int p4), .val (.int (5 : Int32)), .val (.int (p4 &&& (3 : Int32))), .val (.long la), .second, .val (.long lb), .second, .val (.double (FP.l2d la)), .second, .val (.double (FP.l2d lb)), .second, .val (.long (la - lb)), .second, .val (.ref w_NOT_EQUAL), .val (.int (0 : Int32))] [(.int (1 : Int32))])
      refine Go.retN X27 hlk hx (t := .boolean) (z' := (1 : Int32)) Bd.returns (by simp) (hb hby at_258) (by decide) (by decide) rfl ?_
      show Q_rm0 Z _ _ _ _ _ _ _ _ _ _ h0 n0 _ T27.heap _
      rw [e27q]
      exact ⟨rfl, N27⟩
    · refine Go.st (fun t k => XS.ifNo X25.here hx rfl (hb hby at_229) rfl ((if0 _ _).trans (feq c229_26).1) k) ?_
      show Go _ _ _ _ _ _ _  T25 (mkF m 232 #[.val (.int p1), .val (.int p2), .val (.int p3), .val (.int p4), .val (.int (5 : Int32)), .val (.int (p4 &&& (3 : Int32))), .val (.long la), .second, .val (.long lb), .second, .val (.double (FP.l2d la)), .second, .val (.double (FP.l2d lb)), .second, .val (.long (la - lb)), .second, .val (.ref w_NOT_EQUAL), .unset] [])
      refine Go.st (fun t k => XS.iconst X25.here hx rfl (hb hby at_232) k) ?_
      show Go _ _ _ _ _ _ _  T25 (mkF m 233 #[.val (.int p1), .val (.int p2), .val (.int p3), .val (.int p4), .val (.int (5 : Int32)), .val (.int (p4 &&& (3 : Int32))), .val (.long la), .second, .val (.long lb), .second, .val (.double (FP.l2d la)), .second, .val (.double (FP.l2d lb)), .second, .val (.long (la - lb)), .second, .val (.ref w_NOT_EQUAL), .unset] [(.int (1 : Int32))])
      refine Go.st (fun t k => XS.goto X25.here hx rfl (pc0 := 233) (pc' := 237) rfl (hb hby at_233) (by decide) (by decide) k) ?_
      show Go _ _ _ _ _ _ _  T25 (mkF m 237 #[.val (.int p1), .val (.int p2), .val (.int p3), .val (.int p4), .val (.int (5 : Int32)), .val (.int (p4 &&& (3 : Int32))), .val (.long la), .second, .val (.long lb), .second, .val (.double (FP.l2d la)), .second, .val (.double (FP.l2d lb)), .second, .val (.long (la - lb)), .second, .val (.ref w_NOT_EQUAL), .unset] [(.int (1 : Int32))])
      refine Go.st (fun t k => XS.istore X25.here hx rfl (hb hby at_237) rfl (l' := #[.val (.int p1), .val (.int p2), .val (.int p3), .val (.int p4), .val (.int (5 : Int32)), .val (.int (p4 &&& (3 : Int32))), .val (.long la), .second, .val (.long lb), .second, .val (.double (FP.l2d la)), .second, .val (.double (FP.l2d lb)), .second, .val (.long (la - lb)), .second, .val (.ref w_NOT_EQUAL), .val (.int (1 : Int32))]) rfl k) ?_
      show Go _ _ _ _ _ _ _  T25 (mkF m 239 #[.val (.int p1), .val (.int p2), .val (.int p3), .val (.int p4), .val (.int (5 : Int32)), .val (.int (p4 &&& (3 : Int32))), .val (.long la), .second, .val (.long lb), .second, .val (.double (FP.l2d la)), .second, .val (.double (FP.l2d lb)), .second, .val (.long (la - lb)), .second, .val (.ref w_NOT_EQUAL), .val (.int (1 : Int32))] [])
      refine Go.st (fun t k => XS.aload X25.here hx rfl (hb hby at_239) rfl rfl  k) ?_
      show Go _ _ _ _ _ _ _  T25 (mkF m 241 #[.val (.int p1), .val (.int p2), .val (.int p3), .val (.int p4), .val (.int (5 : Int32)), .val (.int (p4 &&& (3 : Int32))), .val (.long la), .second, .val (.long lb), .second, .val (.double (FP.l2d la)), .second, .val (.double (FP.l2d lb)), .second, .val (.long (la - lb)), .second, .val (.ref w_NOT_EQUAL), .val (.int (1 : Int32))] [(.ref w_NOT_EQUAL)])
      refine Go.st (fun t k => XS.dload X25.here hx rfl (hb hby at_241) rfl k) ?_
      show Go _ _ _ _ _ _ _  T25 (mkF m 243 #[.val (.int p1), .val (.int p2), .val (.int p3), .val (.int p4), .val (.int (5 : Int32)), .val (.int (p4 &&& (3 : Int32))), .val (.long la), .second, .val (.long lb), .second, .val (.double (FP.l2d la)), .second, .val (.double (FP.l2d lb)), .second, .val (.long (la - lb)), .second, .val (.ref w_NOT_EQUAL), .val (.int (1 : Int32))] [(.double (FP.l2d la)), (.ref w_NOT_EQUAL)])
      refine Go.st (fun t k => XS.dload X25.here hx rfl (hb hby at_243) rfl k) ?_
      show Go _ _ _ _ _ _ _  T25 (mkF m 245 #[.val (.int p1), .val (.int p2), .val (.int p3), .val (.int p4), .val (.int (5 : Int32)), .val (.int (p4 &&& (3 : Int32))), .val (.long la), .second, .val (.long lb), .second, .val (.double (FP.l2d la)), .second, .val (.double (FP.l2d lb)), .second, .val (.long (la - lb)), .second, .val (.ref w_NOT_EQUAL), .val (.int (1 : Int32))] [(.double (FP.l2d lb)), (.double (FP.l2d la)), (.ref w_NOT_EQUAL)])
      obtain ⟨cq28, kq28, q28a, q28b, q28c⟩ := isOf hZ e25 (E_NOT_EQUAL.ext O.2)
      obtain ⟨_, _, ⟨T28, L28, k28, n28⟩, -, X28, ⟨Lc28, hQ28, l28, y28, z28⟩, st28⟩ := X25.virtualBack hx (y := (⟨"com/example/sancho/sancho/model/ScriptExpression$ComparisonOperator", "holds", "(DD)Z"⟩ : MethodName)) (z := (⟨"com/example/sancho/sancho/model/ScriptExpression$ComparisonOperator", "holds", "(DD)Z"⟩ : MethodName)) hown (mvT hZ (hw _ (List.mem_of_getElem? (i := 4) rfl))) (mvT hZ (hw _ (List.mem_of_getElem? (i := 5) rfl))) (notFace_of_selects (args := #[]) (mvT hZ (hw _ (List.mem_of_getElem? (i := 7) rfl)))) (mvT hZ (hw _ (List.mem_of_getElem? (i := 7) rfl))) (mvT hZ (hw _ (List.mem_of_getElem? (i := 6) rfl))) (by decide) (backOf (W := 0) (rmS l Z a0 hw [] w_NOT_EQUAL 5 la lb h0 n0 O O_NOT_EQUAL E_NOT_EQUAL (by decide) hla hlb) hZ (hw _ (List.mem_of_getElem? (i := 8) rfl)) (hw _ (List.mem_of_getElem? (i := 2) rfl)) (by decide) (by decide)) q28a q28c (g := (mkF m 245 #[.val (.int p1), .val (.int p2), .val (.int p3), .val (.int p4), .val (.int (5 : Int32)), .val (.int (p4 &&& (3 : Int32))), .val (.long la), .second, .val (.long lb), .second, .val (.double (FP.l2d la)), .second, .val (.double (FP.l2d lb)), .second, .val (.long (la - lb)), .second, .val (.ref w_NOT_EQUAL), .val (.int (1 : Int32))] [(.double (FP.l2d lb)), (.double (FP.l2d la)), (.ref w_NOT_EQUAL)])) rfl (by rw [hml]; rfl) (Steps.refl _) (argsL := [(.double (FP.l2d la)), (.double (FP.l2d lb))]) (rest := []) (lenOf pd__DD_Z rfl) rfl (by show 2 * 0 + _ ≤ _; exact Nat.le_of_eq rfl) (hb hby at_245) (fun _ _ => ⟨rfl, e25, (by decide : 0 + 0 ≤ _), (by decide : 0 + 0 ≤ _)⟩)
      dsimp only [Pt.U, Pt.locs, Pt.cells, Pt.slots] at X28 l28 y28 z28 st28 hQ28
      subst l28 y28 z28
      obtain ⟨rfl, N28q, e28q⟩ := hQ28
      have N28 := Fr.app N0 N28q
      refine Go.tr st28 ?_
      rw [show holdF 5 (lcmpW la lb) = (1 : Int32) from by simp [holdF, c229_26]]
      show Go _ _ _ _ _ _ _  T28 (mkF m 248 #[.val (.int p1), .val (.int p2), .val (.int p3), .val (.int p4), .val (.int (5 : Int32)), .val (.int (p4 &&& (3 : Int32))), .val (.long la), .second, .val (.long lb), .second, .val (.double (FP.l2d la)), .second, .val (.double (FP.l2d lb)), .second, .val (.long (la - lb)), .second, .val (.ref w_NOT_EQUAL), .val (.int (1 : Int32))] [(.int (1 : Int32))])
      refine Go.st (fun t k => XS.iload X28.here hx rfl (hb hby at_248) rfl  k) ?_
      show Go _ _ _ _ _ _ _  T28 (mkF m 250 #[.val (.int p1), .val (.int p2), .val (.int p3), .val (.int p4), .val (.int (5 : Int32)), .val (.int (p4 &&& (3 : Int32))), .val (.long la), .second, .val (.long lb), .second, .val (.double (FP.l2d la)), .second, .val (.double (FP.l2d lb)), .second, .val (.long (la - lb)), .second, .val (.ref w_NOT_EQUAL), .val (.int (1 : Int32))] [(.int (1 : Int32)), (.int (1 : Int32))])
      refine Go.st (fun t k => XS.icmpNo X28.here hx rfl (hb hby at_250) rfl (teq (rfl : (1 : Int32) = (1 : Int32))).2 k) ?_
      show Go _ _ _ _ _ _ _  T28 (mkF m 253 #[.val (.int p1), .val (.int p2), .val (.int p3), .val (.int p4), .val (.int (5 : Int32)), .val (.int (p4 &&& (3 : Int32))), .val (.long la), .second, .val (.long lb), .second, .val (.double (FP.l2d la)), .second, .val (.double (FP.l2d lb)), .second, .val (.long (la - lb)), .second, .val (.ref w_NOT_EQUAL), .val (.int (1 : Int32))] [])
      refine Go.st (fun t k => XS.iconst X28.here hx rfl (hb hby at_253) k) ?_
      show Go _ _ _ _ _ _ _  T28 (mkF m 254 #[.val (.int p1), .val (.int p2), .val (.int p3), .val (.int p4), .val (.int (5 : Int32)), .val (.int (p4 &&& (3 : Int32))), .val (.long la), .second, .val (.long lb), .second, .val (.double (FP.l2d la)), .second, .val (.double (FP.l2d lb)), .second, .val (.long (la - lb)), .second, .val (.ref w_NOT_EQUAL), .val (.int (1 : Int32))] [(.int (1 : Int32))])
      refine Go.st (fun t k => XS.goto X28.here hx rfl (pc0 := 254) (pc' := 258) rfl (hb hby at_254) (by decide) (by decide) k) ?_
      show Go _ _ _ _ _ _ _  T28 (mkF m 258 #[.val (.int p1), .val (.int p2), .val (.int p3), .val (.int p4), .val (.int (5 : Int32)), .val (.int (p4 &&& (3 : Int32))), .val (.long la), .second, .val (.long lb), .second, .val (.double (FP.l2d la)), .second, .val (.double (FP.l2d lb)), .second, .val (.long (la - lb)), .second, .val (.ref w_NOT_EQUAL), .val (.int (1 : Int32))] [(.int (1 : Int32))])
      refine Go.retN X28 hlk hx (t := .boolean) (z' := (1 : Int32)) Bd.returns (by simp) (hb hby at_258) (by decide) (by decide) rfl ?_
      show Q_rm0 Z _ _ _ _ _ _ _ _ _ _ h0 n0 _ T28.heap _
      rw [e28q]
      exact ⟨rfl, N28⟩
set_option maxRecDepth 65536 in
set_option maxHeartbeats 40000000 in
theorem comes_1 {Post : Tables → Env → Array Value → State → Outcome → State → Prop} (hpost : ∀ tb e args s v u, (limb_1_1.after args s (.returned v) u = true ∧ limb_1_2.after args s (.returned v) u = true ∧ True) → FrameEnd s (.returned v) u (Jvm.fieldLocs frame_1_writes args s ++ Jvm.arrayLocs frame_1_arrays args s ++ Jvm.staticLocs frame_1_statics s) 0 0 → Post tb e args s (.returned v) u) :
    ArmFor flags0 classFile x code maxLocals ret World_1 tables_1 room_1 Calls_1 rest_1 Pre_1 Post := by
  intro l hfl _ _ p e ha hc hk s m args below hf hA hF happ hP
  obtain ⟨hcalls, hrest, hpre⟩ := hP
  obtain ⟨-, -, -, hnamed, -, -, -, hat⟩ := (Spec.applies_iff hf).mp happ
  obtain ⟨hg, hn⟩ := and_e (Cond.before_iff.mp (show (Jvm.Cond.and given_1 narrow_1).before args s = true from hpre))
  obtain ⟨g1, g2⟩ := and_e hg
  obtain ⟨g3, g4⟩ := and_e g2
  obtain ⟨g5, g6⟩ := and_e g4
  obtain ⟨g7, g8⟩ := and_e g6
  obtain ⟨w0, w1, w2, w3, rfl⟩ : ∃ w0 w1 w2 w3 : Value, args = #[w0, w1, w2, w3] := by
    have hs : args.size = 4 := by simpa [Cond.value, given_1] using g1
    obtain ⟨L⟩ := args
    match L, hs with
    | [w0, w1, w2, w3], _ => exact ⟨w0, w1, w2, w3, rfl⟩
  have hw := fun d (hd : d ∈ tables_1) => atoms_spec (ws := Jvm.Cond.code x code maxLocals ret :: tables_1) hat d (List.mem_cons_of_mem _ hd)
  have hfit : Fit s := fun {y c} hc i hi => by
    obtain ⟨ha, rfl⟩ := Array.getElem?_eq_some_iff.mp hc
    have q := List.all_eq_true.mp ((Array.all_eq_true_iff_forall_mem.mp hF) _ (Array.getElem_mem ha)) i (List.mem_range.mpr hi)
    simpa [Array.getElem?_eq_getElem hi] using q
  obtain ⟨i0, ei0⟩ := is_v g3
  obtain rfl : w0 = (.int i0) := Option.some.inj ei0
  obtain ⟨i1, ei1⟩ := is_v g5
  obtain rfl : w1 = (.int i1) := Option.some.inj ei1
  obtain ⟨i2, ei2⟩ := is_v g7
  obtain rfl : w2 = (.int i2) := Option.some.inj ei2
  obtain ⟨i3, ei3⟩ := is_v g8
  obtain rfl : w3 = (.int i3) := Option.some.inj ei3
  obtain ⟨nr1, nr2⟩ := and_e hn
  obtain ⟨nr3, nr4⟩ := and_e nr2
  obtain ⟨nr5, nr6⟩ := and_e nr4
  obtain ⟨nr7, nr8⟩ := and_e nr6
  obtain ⟨nr9, nr10⟩ := and_e nr8
  obtain ⟨nr11, nr12⟩ := and_e nr10
  obtain ⟨nr13, nr14⟩ := and_e nr12
  obtain ⟨nr15, nr16⟩ := and_e nr14
  obtain ⟨nr17, nr18⟩ := and_e nr16
  obtain ⟨nr19, nr20⟩ := and_e nr18
  obtain ⟨nr21, nr22⟩ := and_e nr20
  obtain ⟨w_LESS, S_LESS, E_LESS, O_LESS⟩ := own_en nr1 nr3 (hw _ (List.mem_of_getElem? (i := 2) rfl)) (hw _ (List.mem_of_getElem? (i := 3) rfl))
  obtain ⟨w_LESS_OR_EQUAL, S_LESS_OR_EQUAL, E_LESS_OR_EQUAL, O_LESS_OR_EQUAL⟩ := own_en nr5 nr7 (hw _ (List.mem_of_getElem? (i := 2) rfl)) (hw _ (List.mem_of_getElem? (i := 19) rfl))
  obtain ⟨w_GREATER, S_GREATER, E_GREATER, O_GREATER⟩ := own_en nr21 nr22 (hw _ (List.mem_of_getElem? (i := 2) rfl)) (hw _ (List.mem_of_getElem? (i := 27) rfl))
  obtain ⟨w_GREATER_OR_EQUAL, S_GREATER_OR_EQUAL, E_GREATER_OR_EQUAL, O_GREATER_OR_EQUAL⟩ := own_en nr13 nr15 (hw _ (List.mem_of_getElem? (i := 2) rfl)) (hw _ (List.mem_of_getElem? (i := 23) rfl))
  obtain ⟨w_EQUAL, S_EQUAL, E_EQUAL, O_EQUAL⟩ := own_en nr9 nr11 (hw _ (List.mem_of_getElem? (i := 2) rfl)) (hw _ (List.mem_of_getElem? (i := 21) rfl))
  obtain ⟨w_NOT_EQUAL, S_NOT_EQUAL, E_NOT_EQUAL, O_NOT_EQUAL⟩ := own_en nr17 nr19 (hw _ (List.mem_of_getElem? (i := 2) rfl)) (hw _ (List.mem_of_getElem? (i := 25) rfl))
  obtain ⟨n, o, h1, h2, h3, _, L, rfl, ⟨rfl, N⟩, hq⟩ := rm0 l s _ hw tables_1 i0 i1 i2 i3 w_LESS w_LESS_OR_EQUAL w_GREATER w_GREATER_OR_EQUAL w_EQUAL w_NOT_EQUAL s.heap s.heap.size (Old.start s) S_LESS S_LESS_OR_EQUAL S_GREATER S_GREATER_OR_EQUAL S_EQUAL S_NOT_EQUAL E_LESS E_LESS_OR_EQUAL E_GREATER E_GREATER_OR_EQUAL E_EQUAL E_NOT_EQUAL O_LESS O_LESS_OR_EQUAL O_GREATER O_GREATER_OR_EQUAL O_EQUAL O_NOT_EQUAL p e ha hc hk s m _ below hf ((Spec.applies_iff_loose hf).mp happ).1 ⟨rfl, State.Warmed39.refl s, rfl⟩ trivial
  refine ⟨n, _, h1, h2, h3, hpost _ _ _ _ _ _ ⟨Cond.after_iff.mpr rfl, Cond.after_iff.mpr (eq_i res_at (Term.int_eval (1)) rfl), trivial⟩ ⟨hq.1, hq.2.1, (hq.2.2.sift fun y hy => Or.inr (N y hy)).mono (by decide) (by decide)⟩⟩
theorem main_1_1 : Claimed_1_1 := comes_1 fun _ _ _ _ _ _ h hF => ⟨h.1, hF⟩
theorem main_1_2 : Claimed_1_2 := comes_1 fun _ _ _ _ _ _ h hF => ⟨h.2.1, hF⟩
end Jvm.Pilot.@@N@@
namespace Jvm.Pilot.@@N@@
open Jvm Jvm.ClassFile Sem Op Lib Jvm.Free Jvm.Stand Jvm.Pilot.@@N@@.Jvm.D
/-! MADE BY PROGRAM (witnessworld.py) out of the Statement's table words and the real class files: 12 classes; the members and pool entries that the words name. The judged class is class 1, her method 1. -/
namespace start1
open Jvm.ClassFile
def u (s : String) : CpInfo := .utf8 (stringToUtf16 s)
/-- a pool by its gaps: so many unusable entries, then the entry; so many at the end -/
def gap : Nat → List CpInfo → List CpInfo
  | 0, r => r
  | n + 1, r => .unusable :: gap n r
def poolList (es : List (Nat × CpInfo)) (last : Nat) : List CpInfo := es.foldr (fun e r => gap e.1 (e.2 :: r)) (gap last [])
def pool (es : List (Nat × CpInfo)) (last : Nat) : Array CpInfo := ⟨poolList es last⟩
def fileOf (pool : Array CpInfo) (this : Nat) (attrs : Array Attribute := #[]) (ms : Array MethodInfo := #[]) (fl : Nat := 33) (sup : Nat := 0) (ifs : Array Nat := #[]) (fds : Array FieldInfo := #[]) : ClassFile where
  minorVersion := 0
  majorVersion := 65
  constantPool := pool
  accessFlags := fl
  thisClass := this
  superClass := sup
  interfaces := ifs
  fields := fds
  methods := ms
  attributes := attrs
def plain (name : String) (sup : Option ClassId) : Class where
  name := name
  kind := .ordinary
  loader := none
  accessFlags := 33
  super := sup
  interfaces := #[]
  cf := none
  fields := #[]
  methods := #[]
  instanceTypes := #[]
  staticTypes := #[]
  resolved := #[]
  callSites := []
  init := .initialized
  statics := none
  mirror := none

def pool0 : Array CpInfo := pool [(5, u "<init>"), (0, u "()V"), (1, .class_ 10), (1, u "java/lang/Object")] 113

def k0m0 : Method := { name := "<init>", desc := "()V", sig := { parameters := [], returnType := none }, accessFlags := 1, code := none }
/-- java/lang/Object -/
def k0 : Class := { plain "java/lang/Object" none with
  accessFlags := 33
  interfaces := #[]
  cf := some (fileOf pool0 8 #[] #[{ accessFlags := 1, nameIndex := 5, descriptorIndex := 6, attributes := #[] }] 33 0 #[] #[])
  fields := #[]
  methods := #[k0m0]
  instanceTypes := #[]
  staticTypes := #[]
  resolved := Array.replicate 124 none
  statics := none }

def pool1 : Array CpInfo := pool [(2, .class_ 4), (1, u "java/lang/Object"), (0, u "<init>"), (0, u "()V"), (0, .integer 2147483647), (0, .fieldref 9 10), (0, .class_ 11), (0, .nameAndType 12 13), (0, u "com/example/sancho/sancho/model/ScriptExpression$ComparisonOperator"), (0, u "LESS"), (0, u "Lcom/example/sancho/sancho/model/ScriptExpression$ComparisonOperator;"), (0, .fieldref 9 15), (0, .nameAndType 16 13), (0, u "LESS_OR_EQUAL"), (0, .fieldref 9 18), (0, .nameAndType 19 13), (0, u "GREATER"), (0, .fieldref 9 21), (0, .nameAndType 22 13), (0, u "GREATER_OR_EQUAL"), (0, .fieldref 9 24), (0, .nameAndType 25 13), (0, u "EQUAL"), (0, .fieldref 9 27), (0, .nameAndType 28 13), (0, u "NOT_EQUAL"), (0, .methodref 9 30), (0, .nameAndType 31 32), (0, u "holds"), (0, u "(DD)Z"), (0, .class_ 34), (0, u "com/example/sancho/sancho/model/ComparisonOperatorHoldsPinLaw"), (2, u "law"), (0, u "(IIII)Z")] 7

def k1m0 : Method := { name := "<init>", desc := "()V", sig := { parameters := [], returnType := none }, accessFlags := 1, code := none }
def k1c1 : Code := { maxStack := 5, maxLocals := 18, code := code, exceptionTable := #[], attributes := #[] }
def k1m1 : Method := { name := "law", desc := "(IIII)Z", sig := { parameters := [.int, .int, .int, .int], returnType := some .boolean }, accessFlags := 9, code := some k1c1 }
/-- com/example/sancho/sancho/model/ComparisonOperatorHoldsPinLaw -/
def k1 : Class := { plain "com/example/sancho/sancho/model/ComparisonOperatorHoldsPinLaw" (some 0) with
  accessFlags := 49
  interfaces := #[]
  cf := some (fileOf pool1 33 #[] #[{ accessFlags := 1, nameIndex := 5, descriptorIndex := 6, attributes := #[] }, { accessFlags := 9, nameIndex := 37, descriptorIndex := 38, attributes := #[] }] 49 2 #[] #[])
  fields := #[]
  methods := #[k1m0, k1m1]
  instanceTypes := #[]
  staticTypes := #[]
  resolved := Array.replicate 46 none
  statics := none }

def pool2 : Array CpInfo := pool [(1, .class_ 2), (0, u "java/lang/constant/Constable"), (0, .class_ 4), (0, u "java/lang/Object")] 6

/-- java/lang/constant/Constable -/
def k2 : Class := { plain "java/lang/constant/Constable" (some 0) with
  accessFlags := 1537
  interfaces := #[]
  cf := some (fileOf pool2 1 #[] #[] 1537 3 #[] #[])
  fields := #[]
  methods := #[]
  instanceTypes := #[]
  staticTypes := #[]
  resolved := Array.replicate 11 none
  statics := none }

def pool3 : Array CpInfo := pool [(1, .class_ 2), (0, u "java/lang/Comparable"), (0, .class_ 4), (0, u "java/lang/Object")] 7

/-- java/lang/Comparable -/
def k3 : Class := { plain "java/lang/Comparable" (some 0) with
  accessFlags := 1537
  interfaces := #[]
  cf := some (fileOf pool3 1 #[] #[] 1537 3 #[] #[])
  fields := #[]
  methods := #[]
  instanceTypes := #[]
  staticTypes := #[]
  resolved := Array.replicate 12 none
  statics := none }

def pool4 : Array CpInfo := pool [(1, .class_ 2), (0, u "java/io/Serializable"), (0, .class_ 4), (0, u "java/lang/Object")] 2

/-- java/io/Serializable -/
def k4 : Class := { plain "java/io/Serializable" (some 0) with
  accessFlags := 1537
  interfaces := #[]
  cf := some (fileOf pool4 1 #[] #[] 1537 3 #[] #[])
  fields := #[]
  methods := #[]
  instanceTypes := #[]
  staticTypes := #[]
  resolved := Array.replicate 7 none
  statics := none }

def pool5 : Array CpInfo := pool [(2, .class_ 4), (1, u "java/lang/Enum"), (0, u "name"), (0, u "Ljava/lang/String;"), (0, .fieldref 2 8), (0, .nameAndType 9 10), (0, u "ordinal"), (0, u "I"), (1, .class_ 14), (1, u "java/lang/Object"), (4, u "hash"), (86, .class_ 108), (1, u "java/lang/Enum$EnumDesc"), (2, .class_ 112), (0, u "java/lang/constant/Constable"), (0, .class_ 114), (0, u "java/lang/Comparable"), (0, .class_ 116), (0, u "java/io/Serializable"), (9, u "()I")] 77

def k5c0 : Code := { maxStack := 1, maxLocals := 1, code := jdk_37_method_2_code, exceptionTable := #[], attributes := #[] }
def k5m0 : Method := { name := "ordinal", desc := "()I", sig := { parameters := [], returnType := some .int }, accessFlags := 17, code := some k5c0 }
/-- java/lang/Enum -/
def k5 : Class := { plain "java/lang/Enum" (some 0) with
  accessFlags := 1057
  interfaces := #[2, 3, 4]
  cf := some (fileOf pool5 2 #[.nestMembers #[106]] #[{ accessFlags := 17, nameIndex := 9, descriptorIndex := 126, attributes := #[] }] 1057 12 #[111, 113, 115] #[{ accessFlags := 18, nameIndex := 5, descriptorIndex := 6, attributes := #[] }, { accessFlags := 18, nameIndex := 9, descriptorIndex := 10, attributes := #[] }, { accessFlags := 2, nameIndex := 19, descriptorIndex := 10, attributes := #[] }])
  fields := #[{ name := "name", type := (.object "java/lang/String"), accessFlags := 18, slot := 0, constantValue := 0 }, { name := "ordinal", type := .int, accessFlags := 18, slot := 1, constantValue := 0 }, { name := "hash", type := .int, accessFlags := 2, slot := 2, constantValue := 0 }]
  methods := #[k5m0]
  instanceTypes := #[(.object "java/lang/String"), .int, .int]
  staticTypes := #[]
  resolved := Array.replicate 204 none
  statics := none }

def pool6 : Array CpInfo := pool [(1, .class_ 2), (0, u "com/example/sancho/sancho/model/ScriptExpression$ComparisonOperator"), (2, u "LESS"), (0, u "Lcom/example/sancho/sancho/model/ScriptExpression$ComparisonOperator;"), (2, u "LESS_OR_EQUAL"), (2, u "GREATER"), (2, u "GREATER_OR_EQUAL"), (2, u "EQUAL"), (2, u "NOT_EQUAL"), (2, u "$VALUES"), (0, u "[Lcom/example/sancho/sancho/model/ScriptExpression$ComparisonOperator;"), (6, .class_ 34), (1, u "java/lang/Enum"), (6, .methodref 1 42), (0, .nameAndType 43 44), (0, u "ordinal"), (0, u "()I"), (23, u "holds"), (0, u "(DD)Z"), (6, .class_ 77), (0, u "com/example/sancho/sancho/model/ScriptExpression")] 2

def k6c0 : Code := { maxStack := 4, maxLocals := 6, code := prog_26_method_4_code, exceptionTable := #[], attributes := #[] }
def k6m0 : Method := { name := "holds", desc := "(DD)Z", sig := { parameters := [.double, .double], returnType := some .boolean }, accessFlags := 0, code := some k6c0 }
/-- com/example/sancho/sancho/model/ScriptExpression$ComparisonOperator -/
def k6 : Class := { plain "com/example/sancho/sancho/model/ScriptExpression$ComparisonOperator" (some 5) with
  accessFlags := 16433
  interfaces := #[]
  cf := some (fileOf pool6 1 #[.nestHost 76] #[{ accessFlags := 0, nameIndex := 68, descriptorIndex := 69, attributes := #[] }] 16433 32 #[] #[{ accessFlags := 16409, nameIndex := 5, descriptorIndex := 6, attributes := #[] }, { accessFlags := 16409, nameIndex := 9, descriptorIndex := 6, attributes := #[] }, { accessFlags := 16409, nameIndex := 12, descriptorIndex := 6, attributes := #[] }, { accessFlags := 16409, nameIndex := 15, descriptorIndex := 6, attributes := #[] }, { accessFlags := 16409, nameIndex := 18, descriptorIndex := 6, attributes := #[] }, { accessFlags := 16409, nameIndex := 21, descriptorIndex := 6, attributes := #[] }, { accessFlags := 4122, nameIndex := 24, descriptorIndex := 25, attributes := #[] }])
  fields := #[{ name := "LESS", type := (.object "com/example/sancho/sancho/model/ScriptExpression$ComparisonOperator"), accessFlags := 16409, slot := 0, constantValue := 0 }, { name := "LESS_OR_EQUAL", type := (.object "com/example/sancho/sancho/model/ScriptExpression$ComparisonOperator"), accessFlags := 16409, slot := 1, constantValue := 0 }, { name := "GREATER", type := (.object "com/example/sancho/sancho/model/ScriptExpression$ComparisonOperator"), accessFlags := 16409, slot := 2, constantValue := 0 }, { name := "GREATER_OR_EQUAL", type := (.object "com/example/sancho/sancho/model/ScriptExpression$ComparisonOperator"), accessFlags := 16409, slot := 3, constantValue := 0 }, { name := "EQUAL", type := (.object "com/example/sancho/sancho/model/ScriptExpression$ComparisonOperator"), accessFlags := 16409, slot := 4, constantValue := 0 }, { name := "NOT_EQUAL", type := (.object "com/example/sancho/sancho/model/ScriptExpression$ComparisonOperator"), accessFlags := 16409, slot := 5, constantValue := 0 }, { name := "$VALUES", type := (.array (.object "com/example/sancho/sancho/model/ScriptExpression$ComparisonOperator")), accessFlags := 4122, slot := 6, constantValue := 0 }]
  methods := #[k6m0]
  instanceTypes := #[(.object "java/lang/String"), .int, .int]
  staticTypes := #[(.object "com/example/sancho/sancho/model/ScriptExpression$ComparisonOperator"), (.object "com/example/sancho/sancho/model/ScriptExpression$ComparisonOperator"), (.object "com/example/sancho/sancho/model/ScriptExpression$ComparisonOperator"), (.object "com/example/sancho/sancho/model/ScriptExpression$ComparisonOperator"), (.object "com/example/sancho/sancho/model/ScriptExpression$ComparisonOperator"), (.object "com/example/sancho/sancho/model/ScriptExpression$ComparisonOperator"), (.array (.object "com/example/sancho/sancho/model/ScriptExpression$ComparisonOperator"))]
  resolved := Array.replicate 80 none
  statics := some 0 }

def pool7 : Array CpInfo := pool [(1, u "java/lang/Cloneable"), (0, .class_ 1), (0, u "java/lang/Object"), (0, .class_ 3)] 3

/-- java/lang/Cloneable -/
def k7 : Class := { plain "java/lang/Cloneable" (some 0) with
  accessFlags := 1537
  interfaces := #[]
  cf := some (fileOf pool7 2 #[] #[] 1537 4 #[] #[])
  fields := #[]
  methods := #[]
  instanceTypes := #[]
  staticTypes := #[]
  resolved := Array.replicate 8 none
  statics := none }

/-- the primitive byte -/
def k8 : Class := { plain "byte" none with kind := .primitive 'B', accessFlags := 0x411 }
/-- [B -/
def k9 : Class := { plain "[B" (some 0) with kind := .array 8 .byte, interfaces := #[7, 4], accessFlags := 1041 }

/-- the primitive int -/
def k10 : Class := { plain "int" none with kind := .primitive 'I', accessFlags := 0x411 }
/-- [I -/
def k11 : Class := { plain "[I" (some 0) with kind := .array 10 .int, interfaces := #[7, 4], accessFlags := 1041 }

def heap : Heap := #[{ cls := 6, slots := #[.ref 1, .ref 2, .ref 3, .ref 4, .ref 5, .ref 6, .null], vm := .statics 6 },
  { cls := 6, slots := #[.null, .int 0, .int 0], vm := .none },
  { cls := 6, slots := #[.null, .int 1, .int 0], vm := .none },
  { cls := 6, slots := #[.null, .int 2, .int 0], vm := .none },
  { cls := 6, slots := #[.null, .int 3, .int 0], vm := .none },
  { cls := 6, slots := #[.null, .int 4, .int 0], vm := .none },
  { cls := 6, slots := #[.null, .int 5, .int 0], vm := .none }]
def classes : Array Class := #[k0, k1, k2, k3, k4, k5, k6, k7, k8, k9, k10, k11]
def interned : List (Array UInt16 × Addr) := []
def slotsUsed : Nat := 25
def theMethod : MethodId := ⟨1, 1⟩
def args0 : Array Value := #[.int 5, .int 7, .int 9, .int 11]
def aboutOver (below : List Frame) : State where
  vm := { classes := classes, interned := interned.toArray }
  heap := heap
  slotsUsed := slotsUsed
  threads := #[{ frames := .invoking theMethod args0 :: below }]
def below0 : List Frame := [.native { method := ⟨0, 0⟩, args := #[] }]
def about1 : State := aboutOver below0
def p0 : Program := .bare "" "" ""
def e0 : Env := launch0.env 0 0 0
theorem w_frames : about1.frames = Frame.invoking theMethod args0 :: below0 := rfl
set_option maxRecDepth 65536 in
theorem w_args : argsFit about1.vm theMethod args0 = true := by decide +kernel
set_option maxRecDepth 65536 in
theorem w_heap : heapFits about1 = true := by decide +kernel
set_option maxRecDepth 65536 in
theorem w_runnable : about1.curStatus? = some .runnable := by decide +kernel
set_option maxRecDepth 65536 in
theorem w_alone : about1.alone = true := by decide +kernel
set_option maxRecDepth 65536 in
theorem w_named : about1.methodNamed? x = some theMethod := by decide +kernel
set_option maxRecDepth 65536 in
theorem w_hears : about1.hears theMethod below0 = true := by decide +kernel
set_option maxRecDepth 65536 in
theorem w_ripe : about1.ripe theMethod args0 below0 = true := by decide +kernel
theorem w_running : about1.status = .running := rfl
set_option maxRecDepth 65536 in
theorem w_room : about1.hasRoom e0.platform room_1 = true :=
  launch0.hasRoom_least _ room_1 (by decide +kernel) (by decide +kernel) (by decide +kernel) (by decide +kernel) (by decide +kernel) (by decide +kernel)
theorem allAtoms_all (ts : List Jvm.Cond) (a : Array Jvm.Value) (st : Jvm.State) : (allAtoms ts).before a st = ts.all (fun c => c.before a st) := by
  induction ts with
  | nil => rfl
  | cons c t ih =>
    show (Jvm.Cond.and c (allAtoms t)).before a st = _
    rw [Jvm.Cond.before_and, ih, List.all_cons]
def words1 : List Jvm.Cond := Jvm.Cond.code x code maxLocals ret :: tables_1
/-- a 'code' word, met by the world's own term for the bytes: nothing is compared byte by byte -/
theorem code_word {y : MethodName} {bytes : ByteArray} {mx : Nat} {rt : Option FieldType} {a : Array Value} {s : State} {m : MethodId} {meth : Method} {c : Code} (h1 : s.methodNamed? y = some m) (h2 : s.vm.method? m = some meth) (h3 : meth.code = some c) (h4 : c.code = bytes)
    (h5 : (c.maxLocals == mx && c.exceptionTable.isEmpty && decide (c.maxStack ≤ mostOperands) && decide (meth.sig.returnType = rt) && !meth.locks && decide (parseMethodDescriptor y.desc = some meth.sig)) = true) : (Jvm.Cond.code y bytes mx rt).before a s = true := by
  simp only [Bool.and_eq_true, beq_iff_eq, Bool.not_eq_true', decide_eq_true_eq] at h5
  obtain ⟨⟨⟨⟨⟨g1, g2⟩, g3⟩, g4⟩, g5⟩, g6⟩ := h5
  simp [Cond.before, Cond.holds, Cond.value, h1, h2, h3, h4, g1, g2, g3, g4, g5, g6]
def isCode : Jvm.Cond → Bool
  | .code _ _ _ _ => true
  | _ => false
theorem all_split {L : List Jvm.Cond} {P : Jvm.Cond → Bool} (h1 : L.all (fun c => isCode c || P c) = true) (h2 : ∀ c ∈ L.filter isCode, P c = true) : L.all P = true := by
  refine List.all_eq_true.mpr fun c hc => ?_
  have h := List.all_eq_true.mp h1 c hc
  rcases Bool.eq_false_or_eq_true (isCode c) with hi | hi
  · exact h2 c (List.mem_filter.mpr ⟨hc, hi⟩)
  · simpa [hi] using h
set_option maxRecDepth 65536 in
theorem w_c0 : (Jvm.Cond.code x code maxLocals ret).before args0 about1 = true := code_word (m := ⟨1, 1⟩) (meth := k1m1) (c := k1c1) (by decide +kernel) rfl rfl rfl (by decide +kernel)
set_option maxRecDepth 65536 in
theorem w_c1 : (Jvm.Cond.code ({ cls := "com/example/sancho/sancho/model/ScriptExpression$ComparisonOperator", name := "holds", desc := "(DD)Z" } : Jvm.MethodName) prog_26_method_4_code (6 : Nat) (Option.some Jvm.ClassFile.FieldType.boolean)).before args0 about1 = true := code_word (m := ⟨6, 0⟩) (meth := k6m0) (c := k6c0) (by decide +kernel) rfl rfl rfl (by decide +kernel)
set_option maxRecDepth 65536 in
theorem w_c2 : (Jvm.Cond.code ({ cls := "java/lang/Enum", name := "ordinal", desc := "()I" } : Jvm.MethodName) jdk_37_method_2_code (1 : Nat) (Option.some Jvm.ClassFile.FieldType.int)).before args0 about1 = true := code_word (m := ⟨5, 0⟩) (meth := k5m0) (c := k5c0) (by decide +kernel) rfl rfl rfl (by decide +kernel)
def codes1 : List Jvm.Cond := [Jvm.Cond.code x code maxLocals ret, Jvm.Cond.code ({ cls := "com/example/sancho/sancho/model/ScriptExpression$ComparisonOperator", name := "holds", desc := "(DD)Z" } : Jvm.MethodName) prog_26_method_4_code (6 : Nat) (Option.some Jvm.ClassFile.FieldType.boolean), Jvm.Cond.code ({ cls := "java/lang/Enum", name := "ordinal", desc := "()I" } : Jvm.MethodName) jdk_37_method_2_code (1 : Nat) (Option.some Jvm.ClassFile.FieldType.int)]
set_option maxRecDepth 65536 in
theorem codes_eq : words1.filter isCode = codes1 := rfl
theorem w_codes : ∀ c ∈ words1.filter isCode, c.before args0 about1 = true := by
  rw [codes_eq]
  intro c hc
  simp only [codes1, List.mem_cons, List.not_mem_nil, or_false] at hc
  rcases hc with rfl | rfl | rfl
  · exact w_c0
  · exact w_c1
  · exact w_c2
set_option maxRecDepth 65536 in
theorem w_t1 : (words1.take 24).all (fun c => isCode c || c.before args0 about1) = true := by decide +kernel
set_option maxRecDepth 65536 in
theorem w_t2 : (words1.drop 24).all (fun c => isCode c || c.before args0 about1) = true := by decide +kernel
theorem w_tables : (allAtoms (Jvm.Cond.code x code maxLocals ret :: tables_1)).before args0 about1 = true := by
  rw [allAtoms_all]
  show words1.all (fun c => c.before args0 about1) = true
  refine all_split ?_ w_codes
  rw [← List.take_append_drop 24 words1, List.all_append, w_t1, w_t2]
  rfl
set_option maxRecDepth 65536 in
theorem w_case : (Jvm.Cond.and given_1 narrow_1).before args0 about1 = true := by decide +kernel
theorem w_applies : (headSpec (Jvm.Cond.code x code maxLocals ret :: tables_1) room_1).applies x e0.platform about1 = true :=
  (Spec.applies_iff w_frames).mpr ⟨w_running, w_runnable, w_alone, w_named, w_hears, w_ripe, w_room, w_tables⟩
theorem atStart : AtStart classFile x code maxLocals ret World_1 tables_1 room_1 Calls_1 rest_1 Pre_1 launch0 p0 e0 about1 theMethod args0 below0 :=
  ⟨lists_1, trivial, launch0.admits_env _ _ _, launch0.least_env, fairChoices_fair.cas, fairChoices_fair.clock, w_frames, w_args, w_heap, w_applies, trivial, trivial, w_case⟩
end start1
theorem witness_1 : WitnessClaimed_1 := ⟨start1.p0, start1.e0, start1.about1, start1.theMethod, start1.args0, start1.below0, start1.atStart⟩
end Jvm.Pilot.@@N@@
