import JvmDerived
import JvmDerived.Pilot.@@N@@Statement
import JvmDerived.Pilot.@@N@@Code
set_option linter.unusedVariables false
set_option linter.unusedSimpArgs false
@@BLOCK:NumsL.lean.txt@@
namespace Jvm.Pilot.@@N@@
open Jvm Jvm.ClassFile Sem Op Lib Jvm.Free Jvm.Stand Jvm.LawKit Jvm.RoadKit Bundle Jvm.Pilot.@@N@@.Jvm.D
/-! the walk in continuation form: from T with the frame g on top the run comes to an end that says Q -/
def Go (p : Program) (e : Env) (below : List Frame) (s : State) (C S : Nat) (Q : Option Value → Heap → List Loc → Prop) (T : State) (g : JFrame) : Prop :=
  ∃ s₂ o, Steps p.tables e below (T.setTop g) s₂ ∧ s₂.status = .running ∧ Ended s₂ below o ∧ ∃ v L, o = .returned v ∧ Q v s₂.heap L ∧ FrameEnd s o s₂ L C S
section GoKit
variable {p : Program} {l : Launch} {e : Env} {R : Room} {s : State} {m : MethodId} {args : Array Value} {below : List Frame} {meth : Method} {c : Code} {T T' : State} {g g' : JFrame} {locs : List Loc} {cells slots C S : Nat} {Q : Option Value → Heap → List Loc → Prop} {Z : State} {h h' : Heap} {n0 : Nat}
theorem Go.st (st : ∀ t, Steps p.tables e below (T'.setTop g') t → Steps p.tables e below (T.setTop g) t) (k : Go p e below s C S Q T' g') : Go p e below s C S Q T g := by
  obtain ⟨s₂, o, h1, h2⟩ := k; exact ⟨s₂, o, st _ h1, h2⟩
theorem Go.tr (st : Steps p.tables e below (T.setTop g) (T'.setTop g')) (k : Go p e below s C S Q T' g') : Go p e below s C S Q T g := by
  obtain ⟨s₂, o, h1, h2⟩ := k; exact ⟨s₂, o, st.trans h1, h2⟩
theorem Go.eq (q : g = g') (k : Go p e below s C S Q T g') : Go p e below s C S Q T g := q ▸ k
theorem Go.fin (X : Stand p l e R s m args below meth c T locs cells slots) (hlk : meth.locks = false) {v : Option Value} (hv : meth.sig.returnType = none → v = none) (hc : cells ≤ C) (hs : slots ≤ S) (q : Q v T.heap locs)
    (k : ∀ fs, (∀ (f : JFrame) (acts : List Action), f.method = m → f.locked = none → f.entered = [] → (doReturn e (T.setTop f) acts v).1 = T.setFrames fs) → Steps p.tables e below (T.setTop g) (T.setFrames fs)) : Go p e below s C S Q T g := by
  obtain ⟨fs, hr, hrun, hended, hW, hsame⟩ := X.leave (v := v) hv hlk
  exact ⟨_, _, k fs hr, hrun, hended, _, _, rfl, q, ⟨_, rfl⟩, hW, hsame.mono hc hs⟩
theorem Go.retN (X : Stand p l e R s m args below meth c T locs cells slots) (hlk : meth.locks = false) (hx : p.tables.exec = Jvm.exec) {pc : Nat} {Ls : Array Slot} {z z' : Int32} {t : FieldType} {rest : List Value} (hret : meth.sig.returnType = some t) (ht : t = .boolean ∨ t = .byte ∨ t = .char ∨ t = .short)
    (hd : decode c.code pc = .ok (.ireturn, 1)) (hc : cells ≤ C) (hs : slots ≤ S) (hz : nar t z = z') (q : Q (some (.int z')) T.heap locs) : Go p e below s C S Q T (mkF m pc Ls (.int z :: rest)) := by
  subst hz
  exact Go.fin X hlk (fun h => by rw [hret] at h; cases h) hc hs q fun fs hr => Jvm.RoadKit.retN X hx hret ht hd hr
theorem Go.retV (X : Stand p l e R s m args below meth c T locs cells slots) (hlk : meth.locks = false) (hx : p.tables.exec = Jvm.exec) {pc : Nat} {Ls : Array Slot} {w : Value} {t : FieldType} {i : Instr} {rest : List Value} (hret : meth.sig.returnType = some t) (hn : narrow t w = w)
    (hi : (i = .ireturn ∧ (t = .int ∨ t = .boolean ∨ t = .byte ∨ t = .char ∨ t = .short) ∧ ∃ z, w = .int z) ∨ (i = .lreturn ∧ t = .long ∧ ∃ z, w = .long z) ∨ (i = .dreturn ∧ t = .double ∧ ∃ z, w = .double z) ∨ (i = .freturn ∧ t = .float ∧ ∃ z, w = .float z) ∨ (i = .areturn ∧ t.isReference = true ∧ w.isRef = true))
    (hd : decode c.code pc = .ok (i, 1)) (hc : cells ≤ C) (hs : slots ≤ S) (q : Q (some w) T.heap locs) : Go p e below s C S Q T (mkF m pc Ls (w :: rest)) :=
  Go.fin X hlk (fun h => by rw [hret] at h; cases h) hc hs q fun fs hr => Jvm.RoadKit.retOut X hx hret hn hi hd hr
theorem Go.retR (X : Stand p l e R s m args below meth c T locs cells slots) (hlk : meth.locks = false) (hx : p.tables.exec = Jvm.exec) {pc : Nat} {Ls : Array Slot} {w : Value} {t : FieldType} {rest : List Value} (hret : meth.sig.returnType = some t) (ht : t.isReference = true) (hw : w.isRef = true) (hn : narrow t w = w)
    (hd : decode c.code pc = .ok (.areturn, 1)) (hc : cells ≤ C) (hs : slots ≤ S) (q : Q (some w) T.heap locs) : Go p e below s C S Q T (mkF m pc Ls (w :: rest)) :=
  Go.retV X hlk hx hret hn (Or.inr (Or.inr (Or.inr (Or.inr ⟨rfl, ht, hw⟩)))) hd hc hs q
theorem Go.retI (X : Stand p l e R s m args below meth c T locs cells slots) (hlk : meth.locks = false) (hx : p.tables.exec = Jvm.exec) {pc : Nat} {Ls : Array Slot} {z : Int32} {rest : List Value} (hret : meth.sig.returnType = some .int)
    (hd : decode c.code pc = .ok (.ireturn, 1)) (hc : cells ≤ C) (hs : slots ≤ S) (q : Q (some (.int z)) T.heap locs) : Go p e below s C S Q T (mkF m pc Ls (.int z :: rest)) :=
  Go.retV X hlk hx hret rfl (Or.inl ⟨rfl, Or.inl rfl, z, rfl⟩) hd hc hs q
theorem Go.retJ (X : Stand p l e R s m args below meth c T locs cells slots) (hlk : meth.locks = false) (hx : p.tables.exec = Jvm.exec) {pc : Nat} {Ls : Array Slot} {z : Int64} {rest : List Value} (hret : meth.sig.returnType = some .long)
    (hd : decode c.code pc = .ok (.lreturn, 1)) (hc : cells ≤ C) (hs : slots ≤ S) (q : Q (some (.long z)) T.heap locs) : Go p e below s C S Q T (mkF m pc Ls (.long z :: rest)) :=
  Go.retV X hlk hx hret rfl (Or.inr (Or.inl ⟨rfl, rfl, z, rfl⟩)) hd hc hs q
theorem Go.ret0 (X : Stand p l e R s m args below meth c T locs cells slots) (hlk : meth.locks = false) (hx : p.tables.exec = Jvm.exec) {pc : Nat} {Ls : Array Slot} (hret : meth.sig.returnType = none)
    (hd : decode c.code pc = .ok (.return_, 1)) (hc : cells ≤ C) (hs : slots ≤ S) (q : Q none T.heap locs) : Go p e below s C S Q T (mkF m pc Ls []) :=
  Go.fin X hlk (fun _ => rfl) hc hs q fun fs hr => X.returnOut hx hret hd hr
theorem own_le (O : Old Z n0 h) : n0 ≤ h.size := O.1 ▸ O.2.1
theorem own_ext {ws : List Addr} (K : Keep h h' ws) (q : ∀ x ∈ ws, h.size ≤ x) : Ext h h' := ⟨K.1, fun x c r => K.2.1 x c r fun z => absurd (Array.getElem?_eq_some_iff.mp r).1 (Nat.not_lt.mpr (q x z))⟩
theorem own_ext0 (K : Keep h h' []) : Ext h h' := own_ext K all0
theorem own_exr (h : Heap) : Ext h h := ⟨Nat.le_refl _, fun _ _ q => q⟩
theorem own_ext_t {h'' : Heap} (E : Ext h h') (E' : Ext h' h'') : Ext h h'' := ⟨Nat.le_trans E.1 E'.1, fun x c r => E'.2 x c (E.2 x c r)⟩
end GoKit
theorem pn_2 : plainName "java/lang/Enum" = true := by first | (simp [plainName, overriddenIn]; done) | decide +kernel
theorem ef_rmO (m : MethodId) (a1 : Addr) : entryFrame m #[(.ref a1)] 1 = mkF m 0 #[.val (.ref a1)] [] := by first | (simp [entryFrame, mkF, argsToLocals, Value.category]; done) | rfl
theorem d2_0 : decode jdk_37_method_2_code 0 = .ok (.aload_n 0, 1) := by decide +kernel
theorem d2_1 : decode jdk_37_method_2_code 1 = .ok (.getfield 7, 3) := by decide +kernel
theorem d2_4 : decode jdk_37_method_2_code 4 = .ok (.ireturn, 1) := by decide +kernel
theorem pn_1 : plainName "com/example/sancho/sancho/model/ScriptExpression$ArithmeticOperator" = true := by first | (simp [plainName, overriddenIn]; done) | decide +kernel
theorem ef_rmS (m : MethodId) (a1 : Addr) (d2 : UInt64) (d3 : UInt64) : entryFrame m #[(.ref a1), (.double d2), (.double d3)] 7 = mkF m 0 #[.val (.ref a1), .val (.double d2), .second, .val (.double d3), .second, .unset, .unset] [] := by first | (simp [entryFrame, mkF, argsToLocals, Value.category]; done) | rfl
theorem d1_0 : decode prog_23_method_4_code 0 = .ok (.aload_n 0, 1) := by decide +kernel
theorem d1_1 : decode prog_23_method_4_code 1 = .ok (.invokevirtual 38, 3) := by decide +kernel
theorem pd___I : parseMethodDescriptor "()I" = some ⟨[], some .int⟩ := by decide +kernel
theorem d1_4 : decode prog_23_method_4_code 4 = .ok (.tableswitch 76 0 4 #[36, 44, 52, 60, 68], 36) := by decide +kernel
theorem d1_40 : decode prog_23_method_4_code 40 = .ok (.dload_n 1, 1) := by decide +kernel
theorem d1_41 : decode prog_23_method_4_code 41 = .ok (.dload_n 3, 1) := by decide +kernel
theorem d1_42 : decode prog_23_method_4_code 42 = .ok (.dadd, 1) := by decide +kernel
theorem d1_43 : decode prog_23_method_4_code 43 = .ok (.dstore 5, 2) := by decide +kernel
theorem d1_45 : decode prog_23_method_4_code 45 = .ok (.goto 44, 3) := by decide +kernel
theorem d1_89 : decode prog_23_method_4_code 89 = .ok (.dload 5, 2) := by decide +kernel
theorem d1_91 : decode prog_23_method_4_code 91 = .ok (.dreturn, 1) := by decide +kernel
theorem d1_48 : decode prog_23_method_4_code 48 = .ok (.dload_n 1, 1) := by decide +kernel
theorem d1_49 : decode prog_23_method_4_code 49 = .ok (.dload_n 3, 1) := by decide +kernel
theorem d1_50 : decode prog_23_method_4_code 50 = .ok (.dsub, 1) := by decide +kernel
theorem d1_51 : decode prog_23_method_4_code 51 = .ok (.dstore 5, 2) := by decide +kernel
theorem d1_53 : decode prog_23_method_4_code 53 = .ok (.goto 36, 3) := by decide +kernel
theorem d1_56 : decode prog_23_method_4_code 56 = .ok (.dload_n 1, 1) := by decide +kernel
theorem d1_57 : decode prog_23_method_4_code 57 = .ok (.dload_n 3, 1) := by decide +kernel
theorem d1_58 : decode prog_23_method_4_code 58 = .ok (.dmul, 1) := by decide +kernel
theorem d1_59 : decode prog_23_method_4_code 59 = .ok (.dstore 5, 2) := by decide +kernel
theorem d1_61 : decode prog_23_method_4_code 61 = .ok (.goto 28, 3) := by decide +kernel
theorem d1_64 : decode prog_23_method_4_code 64 = .ok (.dload_n 1, 1) := by decide +kernel
theorem d1_65 : decode prog_23_method_4_code 65 = .ok (.dload_n 3, 1) := by decide +kernel
theorem d1_66 : decode prog_23_method_4_code 66 = .ok (.ddiv, 1) := by decide +kernel
theorem d1_67 : decode prog_23_method_4_code 67 = .ok (.dstore 5, 2) := by decide +kernel
theorem d1_69 : decode prog_23_method_4_code 69 = .ok (.goto 20, 3) := by decide +kernel
theorem d1_72 : decode prog_23_method_4_code 72 = .ok (.dload_n 1, 1) := by decide +kernel
theorem d1_73 : decode prog_23_method_4_code 73 = .ok (.dload_n 3, 1) := by decide +kernel
theorem d1_74 : decode prog_23_method_4_code 74 = .ok (.drem, 1) := by decide +kernel
theorem d1_75 : decode prog_23_method_4_code 75 = .ok (.dstore 5, 2) := by decide +kernel
theorem d1_77 : decode prog_23_method_4_code 77 = .ok (.goto 12, 3) := by decide +kernel
theorem pn_0 : plainName "com/example/sancho/sancho/model/ArithmeticOperatorApplyPinLaw" = true := by first | (simp [plainName, overriddenIn]; done) | decide +kernel
theorem ef_rm0 (m : MethodId) (p1 : Int32) (p2 : Int32) (p3 : Int32) (p4 : Int32) : entryFrame m #[(.int p1), (.int p2), (.int p3), (.int p4)] maxLocals = mkF m 0 #[.val (.int p1), .val (.int p2), .val (.int p3), .val (.int p4), .unset, .unset, .unset, .unset, .unset, .unset, .unset, .unset, .unset, .unset, .unset, .unset, .unset, .unset, .unset] [] := by first | (simp [entryFrame, mkF, argsToLocals, Value.category, maxLocals]; done) | rfl
theorem pd__DD_D : parseMethodDescriptor "(DD)D" = some ⟨[.double, .double], some .double⟩ := by decide +kernel
section DRem
open Jvm.FP.Core
theorem own_pw {c k d A B X Y : Nat} (h : c * 2 ^ X = k * d * 2 ^ Y) (e : A + Y = B + X) : c * 1 * 2 ^ A = k * d * 2 ^ B := by
  have p := Nat.two_pow_pos Y
  apply Nat.eq_of_mul_eq_mul_right p
  calc c * 1 * 2 ^ A * 2 ^ Y = c * 2 ^ (A + Y) := by rw [Nat.mul_one, Nat.mul_assoc, ← Nat.pow_add]
    _ = c * 2 ^ X * 2 ^ B := by rw [e, Nat.add_comm, Nat.pow_add, Nat.mul_assoc]
    _ = k * d * 2 ^ B * 2 ^ Y := by rw [h]; ac_rfl
theorem own_sgn {k : Int} {s : Bool} (h : k ≠ 0 → s = decide (k < 0)) : signed s k.natAbs = k := by
  by_cases q : k = 0
  · subst q; cases s <;> rfl
  · rw [h q]; unfold signed; by_cases r : k < 0 <;> simp [r] <;> omega
theorem own_ddiv_int {k j : Int} {a b : UInt64} (ha : DInt (k * j) a) (hb : DInt j b) (hj : j ≠ 0) (hk : k.natAbs ≤ 2 ^ 53) : DInt k (ddiv a b) := by
  unfold DInt at *
  rw [val64_ddiv]
  cases hx : val64 a with
  | nan => rw [hx] at ha; exact ha.elim
  | inf => rw [hx] at ha; exact ha.elim
  | fin s c q =>
  cases hy : val64 b with
  | nan => rw [hy] at hb; exact hb.elim
  | inf => rw [hy] at hb; exact hb.elim
  | fin t d r =>
    rw [hx] at ha; rw [hy] at hb
    have h1 := whole_natAbs ha
    have h2 := whole_natAbs hb
    have hd : d ≠ 0 := by
      intro z; subst z
      rw [Nat.zero_mul] at h2
      rcases Nat.mul_eq_zero.mp h2.symm with z | z
      · exact hj (Int.natAbs_eq_zero.mp z)
      · exact absurd z (Nat.ne_of_gt (Nat.two_pow_pos _))
    simp only [quotient, if_neg hd]
    have e : roundRatio b64 (s != t) c d (q - r) = round b64 (.fin (s != t) k.natAbs 0) := by
      show _ = roundRatio b64 (s != t) k.natAbs 1 0
      refine roundRatio_congr (by omega) (by decide) ?_
      refine own_pw (X := q.toNat + (-r).toNat) (Y := (-q).toNat + r.toNat) ?_ (by omega)
      rw [Nat.pow_add, Nat.pow_add]
      calc c * (2 ^ q.toNat * 2 ^ (-r).toNat) = c * 2 ^ q.toNat * 2 ^ (-r).toNat := by rw [Nat.mul_assoc]
        _ = k.natAbs * 2 ^ (-q).toNat * (j.natAbs * 2 ^ (-r).toNat) := by rw [h1, Int.natAbs_mul]; ac_rfl
        _ = k.natAbs * d * (2 ^ (-q).toNat * 2 ^ r.toNat) := by rw [← h2]; ac_rfl
    rw [e]
    refine whole_round good_b64 wide_b64 hk ?_
    show signed (s != t) (k.natAbs * 2 ^ (0 : Int).toNat) = k * ((2 ^ (-(0 : Int)).toNat : Nat) : Int)
    have z1 : (2 : Nat) ^ (0 : Int).toNat = 1 := rfl
    have z2 : ((2 ^ (-(0 : Int)).toNat : Nat) : Int) = 1 := rfl
    rw [z1, z2, Nat.mul_one, Int.mul_one]
    refine own_sgn fun hk0 => ?_
    rw [whole_sign ha (Int.mul_ne_zero hk0 hj), whole_sign hb hj]
    rcases Int.lt_or_gt_of_ne hk0 with u | u <;> rcases Int.lt_or_gt_of_ne hj with w | w
    · have := Int.mul_pos_of_neg_of_neg u w
      simp [u, w, Int.not_lt.mpr (Int.le_of_lt this)]
    · have := Int.mul_neg_of_neg_of_pos u w
      simp [u, this, Int.not_lt.mpr (Int.le_of_lt w)]
    · have := Int.mul_neg_of_pos_of_neg u w
      simp [w, this, Int.not_lt.mpr (Int.le_of_lt u)]
    · have := Int.mul_pos u w
      simp [Int.not_lt.mpr (Int.le_of_lt u), Int.not_lt.mpr (Int.le_of_lt w), Int.not_lt.mpr (Int.le_of_lt this)]
theorem own_tmod {i j : Int} {s : Bool} (h : i ≠ 0 → s = decide (i < 0)) : signed s (i.natAbs % j.natAbs) = i.tmod j := by
  by_cases q : i = 0
  · subst q; cases s <;> simp [signed]
  · rw [h q]
    cases i with
    | ofNat n => cases j <;> simp [signed, Int.tmod] <;> omega
    | negSucc n => cases j <;> simp [signed, Int.tmod, Int.negSucc_lt_zero] <;> omega
theorem own_drem_int {i j : Int} {a b : UInt64} (ha : DInt i a) (hb : DInt j b) (hj : j ≠ 0) (hi : i.natAbs ≤ 2 ^ 53) : DInt (i.tmod j) (drem a b) := by
  unfold DInt at *
  rw [val64_drem]
  cases hx : val64 a with
  | nan => rw [hx] at ha; exact ha.elim
  | inf => rw [hx] at ha; exact ha.elim
  | fin s c q =>
  cases hy : val64 b with
  | nan => rw [hy] at hb; exact hb.elim
  | inf => rw [hy] at hb; exact hb.elim
  | fin t d r =>
    rw [hx] at ha; rw [hy] at hb
    have h2 := whole_natAbs hb
    have hd : d ≠ 0 := by
      intro z; subst z
      rw [Nat.zero_mul] at h2
      rcases Nat.mul_eq_zero.mp h2.symm with z | z
      · exact hj (Int.natAbs_eq_zero.mp z)
      · exact absurd z (Nat.ne_of_gt (Nat.two_pow_pos _))
    have g1 := congrArg Int.natAbs (whole_units ha (e := min q r) (by omega))
    have g2 := congrArg Int.natAbs (whole_units hb (e := min q r) (by omega))
    rw [Int.natAbs_mul, Int.natAbs_mul, natAbs_signed, Int.natAbs_natCast, Int.natAbs_natCast] at g1 g2
    simp only [exactRemainder, if_neg hd]
    refine whole_round good_b64 wide_b64 ?_ ?_
    · have : (i.tmod j).natAbs ≤ i.natAbs := by
        rw [Int.natAbs_tmod]; exact Nat.mod_le _ _
      exact Nat.le_trans this hi
    · show signed s (inUnits c q (min q r) % inUnits d r (min q r) * 2 ^ (min q r).toNat) = i.tmod j * ((2 ^ (-(min q r)).toNat : Nat) : Int)
      rw [← Nat.mul_mod_mul_right, g1, g2, Nat.mul_mod_mul_right, signed_mul, own_tmod (fun h => whole_sign ha h)]
theorem own_half (x : Int32) (o : Int64) (ho : o.toInt = 2 * x.toInt + 1) : ddiv (l2d o) 4611686018427387904 = dadd (i2d x) 4602678819172646912 := by
  have v2 : val64 4611686018427387904 = .fin false 4503599627370496 (-51) := by decide +kernel
  have v5 : val64 4602678819172646912 = .fin false 4503599627370496 (-53) := by decide +kernel
  have hb := x.toInt_lt; have hc := x.le_toInt
  have ha : DInt o.toInt (l2d o) := l2d_int (by rw [ho]; omega)
  have hx := i2d_int x
  have hn : val64 (dadd (i2d x) 4602678819172646912) = roundRatio b64 (decide (o.toInt < 0)) o.toInt.natAbs 1 (-1) := by
    rw [val64_dadd, v5]
    unfold DInt at hx
    cases hv : val64 (i2d x) with
    | nan => rw [hv] at hx; exact hx.elim
    | inf => rw [hv] at hx; exact hx.elim
    | fin s c q =>
      rw [hv] at hx
      have g := whole_units hx (e := min q (-53)) (by omega)
      obtain ⟨M, hM⟩ : ∃ M : Nat, (-(min q (-53))).toNat = M + 1 := ⟨(-(min q (-53))).toNat - 1, by omega⟩
      have z0 : (min q (-53)).toNat = 0 := by omega
      rw [z0, hM] at g
      have g' : signed s (inUnits c q (min q (-53))) = x.toInt * ((2 ^ (M + 1) : Nat) : Int) := by simpa using g
      have u : inUnits 4503599627370496 (-53) (min q (-53)) = 2 ^ M := by
        unfold inUnits
        have : (4503599627370496 : Nat) = 2 ^ 52 := by decide
        rw [this, ← Nat.pow_add]; congr 1; omega
      have sm : sumUnits s c q false 4503599627370496 (-53) (min q (-53)) = o.toInt * ((2 ^ M : Nat) : Int) := by
        unfold sumUnits
        rw [g', u, ho]
        show _ + ((2 ^ M : Nat) : Int) = _
        rw [Nat.pow_succ, Int.natCast_mul, Int.add_mul, Int.one_mul]
        congr 1
        rw [Int.mul_comm 2 x.toInt, Int.mul_assoc]; congr 1; rw [Int.mul_comm]; rfl
      have p : (0 : Int) < ((2 ^ M : Nat) : Int) := by have := Nat.two_pow_pos M; omega
      have on : o.toInt ≠ 0 := by omega
      simp only [exactSum, sm]
      show roundRatio b64 _ _ 1 (min q (-53)) = _
      have sg : sumSign s false (o.toInt * ((2 ^ M : Nat) : Int)) = decide (o.toInt < 0) := by
        unfold sumSign
        rw [if_neg (Int.mul_ne_zero on (by omega))]
        congr 1
        rw [eq_iff_iff]
        constructor
        · intro h
          rcases Int.lt_or_gt_of_ne on with w | w
          · exact w
          · have := Int.mul_pos w p; omega
        · intro h; exact Int.mul_neg_of_neg_of_pos h p
      rw [sg]
      refine roundRatio_congr (by decide) (by decide) ?_
      rw [Int.natAbs_mul, Int.natAbs_natCast, show (min q (-53) - -1).toNat = 0 by omega, show (-1 - min q (-53)).toNat = M by omega]
      simp
  have hm : val64 (ddiv (l2d o) 4611686018427387904) = roundRatio b64 (decide (o.toInt < 0)) o.toInt.natAbs 1 (-1) := by
    rw [val64_ddiv, v2]
    unfold DInt at ha
    cases hv : val64 (l2d o) with
    | nan => rw [hv] at ha; exact ha.elim
    | inf => rw [hv] at ha; exact ha.elim
    | fin s c q =>
      rw [hv] at ha
      have h1 := whole_natAbs ha
      have on : o.toInt ≠ 0 := by omega
      have hs := whole_sign ha on
      simp only [quotient]
      rw [if_neg (by decide), hs]
      have e : (decide (o.toInt < 0) != false) = decide (o.toInt < 0) := by cases decide (o.toInt < 0) <;> rfl
      rw [e]
      refine roundRatio_congr (by decide) (by decide) ?_
      have f : (4503599627370496 : Nat) = 2 ^ 52 := by decide
      rw [f]
      refine own_pw (X := q.toNat + 52) (Y := (-q).toNat) ?_ (by omega)
      rw [Nat.pow_add, ← Nat.mul_assoc, h1]; ac_rfl
  have nn : val64 (dadd (i2d x) 4602678819172646912) ≠ .nan := by
    rw [hn]; unfold roundRatio
    split
    · exact nofun
    · unfold roundAt settle bound
      split <;> split <;> exact nofun
  exact val64_inj (by rw [hm, ← hn]; exact nn) (hm.trans hn.symm)
end DRem
theorem own_dremS {tb : Tables} [Ours tb] {e : Env} {below : List Frame} {T target : State} {m : MethodId} {c : Code} {g : JFrame} (h : At T m c below) (hx : tb.exec = Jvm.exec) (hg : g.method = m) {x y v : UInt64} {rest : List Value} (hd : decode c.code g.pc = .ok (.drem, 1)) (hs : g.stack = .double y :: .double x :: rest) (hn : Jvm.Free.Fl.NoNaN64 (FP.drem x y)) (hv : FP.drem x y = v)
    (hr : Steps tb e below (T.setTop { g with pc := g.pc + 1, stack := .double v :: rest }) target) : Steps tb e below (T.setTop g) target := by
  obtain ⟨gm, gp, gl, gs, gk, ge, gr⟩ := g
  simp only at hs hd hg
  subst hg hv hs
  jvm_step h [h.top, hx, hd, Op.drem.at_number h.top hn]
  exact hr
def applyF (k : Int32) (x y : UInt64) : UInt64 := if k = 0 then FP.dadd x y else if k = 1 then FP.dsub x y else if k = 2 then FP.dmul x y else if k = 3 then FP.ddiv x y else FP.drem x y
theorem own_f0 {x y : UInt64} (h : Jvm.Free.Fl.NoNaN64 (applyF 0 x y)) : Jvm.Free.Fl.NoNaN64 (FP.dadd x y) := h
theorem own_f1 {x y : UInt64} (h : Jvm.Free.Fl.NoNaN64 (applyF 1 x y)) : Jvm.Free.Fl.NoNaN64 (FP.dsub x y) := h
theorem own_f2 {x y : UInt64} (h : Jvm.Free.Fl.NoNaN64 (applyF 2 x y)) : Jvm.Free.Fl.NoNaN64 (FP.dmul x y) := h
theorem own_f3 {x y : UInt64} (h : Jvm.Free.Fl.NoNaN64 (applyF 3 x y)) : Jvm.Free.Fl.NoNaN64 (FP.ddiv x y) := h
theorem own_f4 {x y : UInt64} (h : Jvm.Free.Fl.NoNaN64 (applyF 4 x y)) : Jvm.Free.Fl.NoNaN64 (FP.drem x y) := h
theorem own_nn {i : Int} {a : UInt64} (h : Jvm.FP.Core.DInt i a) : Jvm.Free.Fl.NoNaN64 a := (Jvm.Free.Fl.dcmp_some (Jvm.FP.Core.dcmp_int h h)).1
theorem own_cz {i : Int} {a b : UInt64} (ha : Jvm.FP.Core.DInt i a) (hb : Jvm.FP.Core.DInt i b) : cmpValue (FP.dcmp a b) .l = 0 := by
  have e : FP.dcmp a b = some (compare i i) := Jvm.FP.Core.dcmp_int ha hb
  have z : compare i i = .eq := by simp [compare, compareOfLessAndEq]
  rw [e, z]; rfl
theorem own_r32 (x : Int32) : -2147483648 ≤ x.toInt ∧ x.toInt ≤ 2147483647 := ⟨Int32.le_toInt x, Int32.toInt_le x⟩
theorem own_add (a b : Int64) (h : -9223372036854775808 ≤ a.toInt + b.toInt ∧ a.toInt + b.toInt < 9223372036854775808) : (a + b).toInt = a.toInt + b.toInt := by
  have h2 := c_ladd a b; have h3 := Int64.le_toInt (a + b); have h4 := Int64.toInt_lt (a + b); omega
theorem own_sub (a b : Int64) (h : -9223372036854775808 ≤ a.toInt - b.toInt ∧ a.toInt - b.toInt < 9223372036854775808) : (a - b).toInt = a.toInt - b.toInt := by
  have h2 := c_lsub a b; have h3 := Int64.le_toInt (a - b); have h4 := Int64.toInt_lt (a - b); omega
theorem own_mul (a b : Int64) (h : -9223372036854775808 ≤ a.toInt * b.toInt ∧ a.toInt * b.toInt < 9223372036854775808) : (a * b).toInt = a.toInt * b.toInt := by
  have h2 := c_lmul a b; have h3 := Int64.le_toInt (a * b); have h4 := Int64.toInt_lt (a * b); omega
theorem own_d0 (x y : Int32) : Jvm.FP.Core.DInt (x.toInt + y.toInt) (FP.dadd (FP.i2d x) (FP.i2d y)) := by
  have hx := own_r32 x; have hy := own_r32 y
  exact Jvm.FP.Core.dadd_int (Jvm.FP.Core.i2d_int x) (Jvm.FP.Core.i2d_int y) (by omega)
theorem own_d1 (x y : Int32) : Jvm.FP.Core.DInt (x.toInt - y.toInt) (FP.dsub (FP.i2d x) (FP.i2d y)) := by
  have hx := own_r32 x; have hy := own_r32 y
  exact Jvm.FP.Core.dsub_int (Jvm.FP.Core.i2d_int x) (Jvm.FP.Core.i2d_int y) (by omega)
theorem own_n0 (x y : Int32) : Jvm.Free.Fl.NoNaN64 (applyF 0 (FP.i2d x) (FP.i2d y)) := own_nn (own_d0 x y)
theorem own_n1 (x y : Int32) : Jvm.Free.Fl.NoNaN64 (applyF 1 (FP.i2d x) (FP.i2d y)) := own_nn (own_d1 x y)
theorem own_l (z : Int64) (i : Int) (e : z.toInt = i) (h : i.natAbs ≤ 2 ^ 53) : Jvm.FP.Core.DInt i (FP.l2d z) := by
  subst e; exact Jvm.FP.Core.l2d_int h
theorem own_c0 (x y : Int32) : cmpValue (FP.dcmp (applyF 0 (FP.i2d x) (FP.i2d y)) (FP.l2d (x.toInt64 + y.toInt64))) .l = 0 := by
  have hx := own_r32 x; have hy := own_r32 y
  exact own_cz (own_d0 x y) (own_l _ _ (by rw [own_add _ _ (by rw [Int32.toInt_toInt64, Int32.toInt_toInt64]; omega), Int32.toInt_toInt64, Int32.toInt_toInt64]) (by omega))
theorem own_c1 (x y : Int32) : cmpValue (FP.dcmp (applyF 1 (FP.i2d x) (FP.i2d y)) (FP.l2d (x.toInt64 - y.toInt64))) .l = 0 := by
  have hx := own_r32 x; have hy := own_r32 y
  exact own_cz (own_d1 x y) (own_l _ _ (by rw [own_sub _ _ (by rw [Int32.toInt_toInt64, Int32.toInt_toInt64]; omega), Int32.toInt_toInt64, Int32.toInt_toInt64]) (by omega))
theorem own_b53 (x : Int32) : B53 x.toInt64 := by
  have := own_r32 x; have e0 := Int32.toInt_toInt64 x
  refine b53 ?_ ?_ <;> rw [Int64.lt_iff_toInt_lt]
  · have e : (-9007199254740992 : Int64).toInt = -9007199254740992 := rfl
    omega
  · have e : (9007199254740992 : Int64).toInt = 9007199254740992 := rfl
    omega
theorem own_mrange (x y : Int) (hx : -2147483648 ≤ x ∧ x ≤ 2147483647) (hy : -2147483648 ≤ y ∧ y ≤ 2147483647) : -9223372036854775808 ≤ x * y ∧ x * y < 9223372036854775808 := by
  have h : (x * y).natAbs ≤ 2147483648 * 2147483648 := by rw [Int.natAbs_mul]; exact Nat.mul_le_mul (by omega) (by omega)
  omega
theorem own_m (x y : Int32) : FP.dmul (FP.i2d x) (FP.i2d y) = FP.l2d (x.toInt64 * y.toInt64) ∨ (FP.dmul (FP.i2d x) (FP.i2d y) = 9223372036854775808 ∧ x.toInt64 * y.toInt64 = 0) := by
  have hx := own_r32 x; have hy := own_r32 y
  rw [i2d_w, i2d_w]
  by_cases zx : x.toInt64 = 0 ∨ y.toInt64 = 0
  · have z := dmul_z (own_b53 x) (own_b53 y) zx
    have p : x.toInt64 * y.toInt64 = 0 := by rcases zx with q | q <;> rw [q] <;> simp
    rw [z]
    split
    · exact Or.inr ⟨rfl, p⟩
    · rw [p]; exact Or.inl rfl
  · have m := own_mrange _ _ hx hy
    have e1 := Int32.toInt_toInt64 x; have e2 := Int32.toInt_toInt64 y
    exact Or.inl (dmul_w (own_b53 x) (own_b53 y) (fun q => zx (Or.inl q)) (fun q => zx (Or.inr q)) (by rw [e1, e2]; exact m.1) (by rw [e1, e2]; exact m.2))
theorem own_n2 (x y : Int32) : Jvm.Free.Fl.NoNaN64 (applyF 2 (FP.i2d x) (FP.i2d y)) := by
  show Jvm.Free.Fl.NoNaN64 (FP.dmul (FP.i2d x) (FP.i2d y))
  rcases own_m x y with h | ⟨h, -⟩
  · exact nn_w h
  · rw [h]; unfold Jvm.Free.Fl.NoNaN64; decide
theorem own_c2 (x y : Int32) : cmpValue (FP.dcmp (applyF 2 (FP.i2d x) (FP.i2d y)) (FP.l2d (x.toInt64 * y.toInt64))) .l = 0 := by
  show cmpValue (FP.dcmp (FP.dmul (FP.i2d x) (FP.i2d y)) (FP.l2d (x.toInt64 * y.toInt64))) .l = 0
  rcases own_m x y with h | ⟨h, h'⟩
  · exact dcmpV_eq h (nn_w h) _
  · rw [h, h']; decide +kernel
theorem own_nz (y : Int32) : (if y = (0 : Int32) then (1 : Int32) else y) ≠ 0 := by
  split
  · decide
  · assumption
theorem own_nz64 {y : Int32} (h : y ≠ 0) : y.toInt64 ≠ 0 := fun q => h (by
  have e := congrArg Int64.toInt q; rw [Int32.toInt_toInt64] at e; exact Int32.toInt_inj.mp e)
theorem own_q (z : Int32) : -1048576 ≤ (z >>> ((11 : Int32) &&& 31)).toInt ∧ (z >>> ((11 : Int32) &&& 31)).toInt < 1048576 := by
  have e := c_ishr z 11 11 (by decide); have h := own_r32 z
  rw [e]; omega
theorem own_d3 (z b : Int32) (hb : b ≠ 0) : Jvm.FP.Core.DInt (z >>> ((11 : Int32) &&& 31)).toInt (FP.ddiv (FP.l2d ((z >>> ((11 : Int32) &&& 31)).toInt64 * b.toInt64)) (FP.i2d b)) := by
  have hz := own_q z; have h := own_r32 b
  generalize (z >>> ((11 : Int32) &&& 31)) = q at *
  have nb : b.toInt ≠ 0 := fun e => hb (Int32.toInt_inj.mp e)
  have ab : (q.toInt * b.toInt).natAbs ≤ 1048576 * 2147483648 := by rw [Int.natAbs_mul]; exact Nat.mul_le_mul (by omega) (by omega)
  have m : (q.toInt64 * b.toInt64).toInt = q.toInt * b.toInt := by
    rw [own_mul _ _ (by rw [Int32.toInt_toInt64, Int32.toInt_toInt64]; omega), Int32.toInt_toInt64, Int32.toInt_toInt64]
  exact own_ddiv_int (own_l _ _ m (by omega)) (Jvm.FP.Core.i2d_int b) nb (by omega)
theorem own_n3 (z b : Int32) (hb : b ≠ 0) : Jvm.Free.Fl.NoNaN64 (applyF 3 (FP.l2d ((z >>> ((11 : Int32) &&& 31)).toInt64 * b.toInt64)) (FP.i2d b)) := own_nn (own_d3 z b hb)
theorem own_c3 (z b : Int32) (hb : b ≠ 0) : cmpValue (FP.dcmp (applyF 3 (FP.l2d ((z >>> ((11 : Int32) &&& 31)).toInt64 * b.toInt64)) (FP.i2d b)) (FP.i2d (z >>> ((11 : Int32) &&& 31)))) .l = 0 := own_cz (own_d3 z b hb) (Jvm.FP.Core.i2d_int _)
theorem own_odd (x : Int32) : ((2 : Int64) * x.toInt64 + (1 : Int64)).toInt = 2 * x.toInt + 1 := by
  have h := own_r32 x; have e := Int32.toInt_toInt64 x; have e2 : (2 : Int64).toInt = 2 := rfl; have e1 : (1 : Int64).toInt = 1 := rfl
  have m := own_mul 2 x.toInt64 (by rw [e, e2]; omega)
  rw [own_add _ _ (by rw [m, e, e2, e1]; omega), m, e, e2, e1]
theorem own_hf (x : Int32) : FP.ddiv (FP.l2d ((2 : Int64) * x.toInt64 + (1 : Int64))) (4611686018427387904 : UInt64) = FP.dadd (FP.i2d x) (4602678819172646912 : UInt64) := own_half x _ (own_odd x)
theorem own_nh (x : Int32) : Jvm.Free.Fl.NoNaN64 (FP.dadd (FP.i2d x) (4602678819172646912 : UInt64)) := Jvm.Free.Fl.dadd_out (Jvm.Free.Fl.i2d_fin x).noNaN (by decide +kernel)
theorem own_n3' (x : Int32) : Jvm.Free.Fl.NoNaN64 (applyF 3 (FP.l2d ((2 : Int64) * x.toInt64 + (1 : Int64))) (4611686018427387904 : UInt64)) := by
  show Jvm.Free.Fl.NoNaN64 (FP.ddiv _ _)
  rw [own_hf]; exact own_nh x
theorem own_c3' (x : Int32) : cmpValue (FP.dcmp (applyF 3 (FP.l2d ((2 : Int64) * x.toInt64 + (1 : Int64))) (4611686018427387904 : UInt64)) (FP.dadd (FP.i2d x) (4602678819172646912 : UInt64))) .l = 0 := by
  show cmpValue (FP.dcmp (FP.ddiv _ _) _) .l = 0
  rw [own_hf]; exact dcmpV_self (own_nh x) _
theorem own_d4 (x b : Int32) (hb : b ≠ 0) : Jvm.FP.Core.DInt (x.toInt.tmod b.toInt) (FP.drem (FP.i2d x) (FP.i2d b)) := by
  have hx := own_r32 x
  have nb : b.toInt ≠ 0 := fun e => hb (Int32.toInt_inj.mp e)
  exact own_drem_int (Jvm.FP.Core.i2d_int x) (Jvm.FP.Core.i2d_int b) nb (by omega)
theorem own_n4 (x b : Int32) (hb : b ≠ 0) : Jvm.Free.Fl.NoNaN64 (applyF 4 (FP.i2d x) (FP.i2d b)) := own_nn (own_d4 x b hb)
theorem own_c4 (x b : Int32) (hb : b ≠ 0) : cmpValue (FP.dcmp (applyF 4 (FP.i2d x) (FP.i2d b)) (FP.l2d (x.toInt64 % b.toInt64))) .l = 0 := by
  have hx := own_r32 x
  refine own_cz (own_d4 x b hb) (own_l _ _ (by rw [Int64.toInt_mod, Int32.toInt_toInt64, Int32.toInt_toInt64]) ?_)
  have : (x.toInt.tmod b.toInt).natAbs ≤ x.toInt.natAbs := by rw [Int.natAbs_tmod]; exact Nat.mod_le _ _
  omega

theorem own_eqi {args : Array Value} {Z : State} {t : Term} {k : Int32} (h : (Cond.eq t (Term.int k)).value args Z none Z [] = some true) : t.eval args Z none [] Z = some (.int k) := by
  cases ht : t.eval args Z none [] Z with
  | none => simp [Cond.value, Term.eval, ht] at h
  | some v => cases v <;> simp [Cond.value, Term.eval, ht] at h <;> (try rw [h])
theorem own_en {args : Array Value} {Z : State} {C n d : String} {k : Int32} (hx : (Cond.exactly (Term.static C n d) C).value args Z none Z [] = some true) (hk : (Cond.eq (Term.field (Term.static C n d) "java/lang/Enum" "ordinal" "I") (Term.int k)).value args Z none Z [] = some true)
    (hi : (Cond.initialized C).before args Z = true) (hl : (Cond.laysStatic C n d).before args Z = true) : ∃ w, Sta Z Z.heap C n d (.ref w) ∧ Exa Z Z.heap w C ∧ Fld Z Z.heap w "java/lang/Enum" "ordinal" "I" (.int k) := by
  obtain ⟨w, ew⟩ := exa_v hx
  exact ⟨w, Sta.start ew (Or.inr ⟨hi, hl⟩), Exa.start ew hx, Fld.start (by rw [← fld_at ew]; exact own_eqi hk)⟩
theorem own_en0 {args : Array Value} {Z : State} {C n d : String} (hx : (Cond.exactly (Term.static C n d) C).value args Z none Z [] = some true)
    (hi : (Cond.initialized C).before args Z = true) (hl : (Cond.laysStatic C n d).before args Z = true) : ∃ w, Sta Z Z.heap C n d (.ref w) ∧ Exa Z Z.heap w C := by
  obtain ⟨w, ew⟩ := exa_v hx
  exact ⟨w, Sta.start ew (Or.inr ⟨hi, hl⟩), Exa.start ew hx⟩

theorem own_modm (a m n : Int32) (k : Nat) (e1 : (a &&& m).toInt = a.toInt % 2 ^ k) (hn : 0 < n.toInt) : 0 ≤ ((a &&& m) % n).toInt ∧ ((a &&& m) % n).toInt < n.toInt := by
  rw [Int32.toInt_mod, e1]
  have p0 : 0 ≤ a.toInt % 2 ^ k := Int.emod_nonneg _ (by have := Int.pow_pos (n := 2) (m := k) (by decide); omega)
  rw [Int.tmod_eq_emod_of_nonneg p0]
  exact ⟨Int.emod_nonneg _ (by omega), Int.emod_lt_of_pos _ hn⟩

theorem own_mod7_5 (a : Int32) : (a &&& 7) % 5 = 0 ∨ (a &&& 7) % 5 = 1 ∨ (a &&& 7) % 5 = 2 ∨ (a &&& 7) % 5 = 3 ∨ (a &&& 7) % 5 = 4 := by
  have h := own_modm a 7 5 3 (Jvm.Kit.i32_mask a 7 (k := 3) (by decide) (by decide)) (by decide)
  have e : (5 : Int32).toInt = 5 := rfl
  rw [e] at h
  have : ((a &&& 7) % 5).toInt = 0 ∨ ((a &&& 7) % 5).toInt = 1 ∨ ((a &&& 7) % 5).toInt = 2 ∨ ((a &&& 7) % 5).toInt = 3 ∨ ((a &&& 7) % 5).toInt = 4 := by omega
  rcases this with h | h | h | h | h <;> simp [← Int32.toInt_inj, h]

def Q_rmO (Z : State) (a1 : Addr) (k : Int32) (h0 : Heap) (n0 : Nat) (v : Option Value) (h : Heap) (L : List Loc) : Prop := v = some (.int k) ∧ Fr n0 L ∧ h = h0
set_option maxRecDepth 65536 in
set_option maxHeartbeats 40000000 in
theorem rmO (l : Launch) (Z : State) (a0 : Array Value) (hw : ∀ d ∈ tables_1, d.before a0 Z = true) (ws : List Jvm.Cond) (a1 : Addr) (k : Int32) (h0 : Heap) (n0 : Nat) (O : Old Z n0 h0) (F1 : Fld Z Z.heap a1 "java/lang/Enum" "ordinal" "I" (.int k)) :
    MetFree l (⟨"java/lang/Enum", "ordinal", "()I"⟩ : MethodName) (head1 (Jvm.Cond.code (⟨"java/lang/Enum", "ordinal", "()I"⟩ : MethodName) jdk_37_method_2_code 1 (some .int) :: ws) ({ frames := 0, cells := 0, slots := 0, locals := 0 } : Room)) (fun a U => a = #[(.ref a1)] ∧ Z.Warmed39 U.vm ∧ U.heap = h0) (fun _ _ _ _ _ => True) (fun _ U o U' => ∃ v L, o = .returned v ∧ Q_rmO Z a1 k h0 n0 v U'.heap L ∧ FrameEnd U o U' L ({ frames := 0, cells := 0, slots := 0, locals := 0 } : Room).cells ({ frames := 0, cells := 0, slots := 0, locals := 0 } : Room).slots) := by
  refine MetFree.of_bodySF (plainFor_of_name pn_2) hisR ?_
  intro p e s m args below meth c s₁ Bd hml0 hP hK
  obtain ⟨rfl, hZ, hh⟩ := hP
  have hx := Bd.exec
  have hby := Bd.bytes
  have hml : c.maxLocals = 1 := hml0
  have hown : s.vm.findClass "java/lang/Enum" = some m.cls := findClass_of_methodNamed Bd.named
  have hnm := (name_of_methodNamed Bd.named Bd.method).1
  have hlk : meth.locks = false := BodyLoose.notSynchronized Bd
  have X0 : Stand p l e ({ frames := 0, cells := 0, slots := 0, locals := 0 } : Room) s m #[(.ref a1)] below meth c s₁ [] 0 0 := Stand.of_body Bd
  have e0 : s₁.heap = h0 := by rw [← hh, Bd.state]; rfl
  have N0 := Fr.nil n0
  show Go p e below s ({ frames := 0, cells := 0, slots := 0, locals := 0 } : Room).cells ({ frames := 0, cells := 0, slots := 0, locals := 0 } : Room).slots (Q_rmO Z a1 k h0 n0) s₁ (entryFrame m #[(.ref a1)] 1)
  refine Go.eq (ef_rmO m a1) ?_
  show Go _ _ _ _ _ _ _  s₁ (mkF m 0 #[.val (.ref a1)] [])
  refine Go.st (fun t k => XS.aloadN X0.here hx rfl (hb hby d2_0) rfl rfl  k) ?_
  show Go _ _ _ _ _ _ _  s₁ (mkF m 1 #[.val (.ref a1)] [(.ref a1)])
  obtain ⟨T1, X1, e1, st1⟩ := getF X0 hx hZ hown (host := "") (Or.inl (hw _ (List.mem_of_getElem? (i := 15) rfl))) Via.refl e0 (F1.ext O.2) (g := (mkF m 1 #[.val (.ref a1)] [(.ref a1)])) rfl rfl (hb hby d2_1)
  refine Go.st st1 ?_
  show Go _ _ _ _ _ _ _  T1 (mkF m 4 #[.val (.ref a1)] [(.int k)])
  refine Go.retI X1 hlk hx Bd.returns (hb hby d2_4) (by decide) (by decide) ?_
  show Q_rmO Z _ _ h0 n0 _ T1.heap _
  rw [e1]
  exact ⟨rfl, N0, rfl⟩
def Q_rmS (Z : State) (a1 : Addr) (d2 : UInt64) (d3 : UInt64) (k : Int32) (h0 : Heap) (n0 : Nat) (v : Option Value) (h : Heap) (L : List Loc) : Prop := v = some (.double (applyF k d2 d3)) ∧ Fr n0 L ∧ h = h0
set_option maxRecDepth 65536 in
set_option maxHeartbeats 40000000 in
theorem rmS (l : Launch) (Z : State) (a0 : Array Value) (hw : ∀ d ∈ tables_1, d.before a0 Z = true) (ws : List Jvm.Cond) (a1 : Addr) (d2 : UInt64) (d3 : UInt64) (k : Int32) (h0 : Heap) (n0 : Nat) (O : Old Z n0 h0) (F1 : Fld Z Z.heap a1 "java/lang/Enum" "ordinal" "I" (.int k)) (E1 : Exa Z Z.heap a1 "com/example/sancho/sancho/model/ScriptExpression$ArithmeticOperator") (hk : k = 0 ∨ k = 1 ∨ k = 2 ∨ k = 3 ∨ k = 4) (hn : Jvm.Free.Fl.NoNaN64 (applyF k d2 d3)) :
    MetFree l (⟨"com/example/sancho/sancho/model/ScriptExpression$ArithmeticOperator", "apply", "(DD)D"⟩ : MethodName) (head1 (Jvm.Cond.code (⟨"com/example/sancho/sancho/model/ScriptExpression$ArithmeticOperator", "apply", "(DD)D"⟩ : MethodName) prog_23_method_4_code 7 (some .double) :: ws) ({ frames := 1, cells := 0, slots := 0, locals := 12 } : Room)) (fun a U => a = #[(.ref a1), (.double d2), (.double d3)] ∧ Z.Warmed39 U.vm ∧ U.heap = h0) (fun _ _ _ _ _ => True) (fun _ U o U' => ∃ v L, o = .returned v ∧ Q_rmS Z a1 d2 d3 k h0 n0 v U'.heap L ∧ FrameEnd U o U' L ({ frames := 1, cells := 0, slots := 0, locals := 12 } : Room).cells ({ frames := 1, cells := 0, slots := 0, locals := 12 } : Room).slots) := by
  refine MetFree.of_bodySF (plainFor_of_name pn_1) hisR ?_
  intro p e s m args below meth c s₁ Bd hml0 hP hK
  obtain ⟨rfl, hZ, hh⟩ := hP
  have hx := Bd.exec
  have hby := Bd.bytes
  have hml : c.maxLocals = 7 := hml0
  have hown : s.vm.findClass "com/example/sancho/sancho/model/ScriptExpression$ArithmeticOperator" = some m.cls := findClass_of_methodNamed Bd.named
  have hnm := (name_of_methodNamed Bd.named Bd.method).1
  have hlk : meth.locks = false := BodyLoose.notSynchronized Bd
  have X0 : Stand p l e ({ frames := 1, cells := 0, slots := 0, locals := 12 } : Room) s m #[(.ref a1), (.double d2), (.double d3)] below meth c s₁ [] 0 0 := Stand.of_body Bd
  have e0 : s₁.heap = h0 := by rw [← hh, Bd.state]; rfl
  have N0 := Fr.nil n0
  show Go p e below s ({ frames := 1, cells := 0, slots := 0, locals := 12 } : Room).cells ({ frames := 1, cells := 0, slots := 0, locals := 12 } : Room).slots (Q_rmS Z a1 d2 d3 k h0 n0) s₁ (entryFrame m #[(.ref a1), (.double d2), (.double d3)] 7)
  refine Go.eq (ef_rmS m a1 d2 d3) ?_
  show Go _ _ _ _ _ _ _  s₁ (mkF m 0 #[.val (.ref a1), .val (.double d2), .second, .val (.double d3), .second, .unset, .unset] [])
  refine Go.st (fun t k => XS.aloadN X0.here hx rfl (hb hby d1_0) rfl rfl  k) ?_
  show Go _ _ _ _ _ _ _  s₁ (mkF m 1 #[.val (.ref a1), .val (.double d2), .second, .val (.double d3), .second, .unset, .unset] [(.ref a1)])
  obtain ⟨cq1, kq1, q1a, q1b, q1c⟩ := isOf hZ e0 (E1.ext O.2)
  obtain ⟨_, _, ⟨T1, L1, k1, n1⟩, -, X1, ⟨Lc1, hQ1, l1, y1, z1⟩, st1⟩ := X0.virtualBackUp hx (x := (⟨"com/example/sancho/sancho/model/ScriptExpression$ArithmeticOperator", "ordinal", "()I"⟩ : MethodName)) (y := (⟨"java/lang/Enum", "ordinal", "()I"⟩ : MethodName)) (owner := "java/lang/Enum") hown (mvT hZ (hw _ (List.mem_of_getElem? (i := 8) rfl))) (mvT hZ (hw _ (List.mem_of_getElem? (i := 9) rfl))) (mvT hZ (hw _ (List.mem_of_getElem? (i := 10) rfl))) (by decide) (mvT hZ (hw _ (List.mem_of_getElem? (i := 12) rfl))) (mvT hZ (hw _ (List.mem_of_getElem? (i := 11) rfl))) (backOf (W := 0) (rmO l Z a0 hw [] a1 k h0 n0 O F1) hZ (hw _ (List.mem_of_getElem? (i := 14) rfl)) (hw _ (List.mem_of_getElem? (i := 13) rfl)) (by decide) (by decide)) q1a q1c (g := (mkF m 1 #[.val (.ref a1), .val (.double d2), .second, .val (.double d3), .second, .unset, .unset] [(.ref a1)])) rfl (by rw [hml]; rfl) (Steps.refl _) (argsL := []) (rest := []) (lenOf pd___I rfl) rfl (by show 2 * 0 + _ ≤ _; exact Nat.le_of_eq rfl) (hb hby d1_1) (fun _ _ => ⟨rfl, e0, (by decide : 0 + 0 ≤ _), (by decide : 0 + 0 ≤ _)⟩)
  dsimp only [Pt.U, Pt.locs, Pt.cells, Pt.slots] at X1 l1 y1 z1 st1 hQ1
  subst l1 y1 z1
  obtain ⟨rfl, N1q, e1q⟩ := hQ1
  have N1 := Fr.app N0 N1q
  refine Go.tr st1 ?_
  rcases hk with hk | hk | hk | hk | hk
  · rw [hk]
    have hq := own_f0 (hk ▸ hn)
    show Go _ _ _ _ _ _ _  T1 (mkF m 4 #[.val (.ref a1), .val (.double d2), .second, .val (.double d3), .second, .unset, .unset] [(.int (0 : Int32))])
    refine Go.st (fun t k => XS.tswIn X1.here hx rfl (pc0 := 4) (pc' := 40) (o := 36) rfl (hb hby d1_4) rfl (by decide) (by decide) (by decide) (by decide) k) ?_
    show Go _ _ _ _ _ _ _  T1 (mkF m 40 #[.val (.ref a1), .val (.double d2), .second, .val (.double d3), .second, .unset, .unset] [])
    refine Go.st (fun t k => XS.dloadN X1.here hx rfl (hb hby d1_40) rfl k) ?_
    show Go _ _ _ _ _ _ _  T1 (mkF m 41 #[.val (.ref a1), .val (.double d2), .second, .val (.double d3), .second, .unset, .unset] [(.double d2)])
    refine Go.st (fun t k => XS.dloadN X1.here hx rfl (hb hby d1_41) rfl k) ?_
    show Go _ _ _ _ _ _ _  T1 (mkF m 42 #[.val (.ref a1), .val (.double d2), .second, .val (.double d3), .second, .unset, .unset] [(.double d3), (.double d2)])
    refine Go.st (fun t k => XS.daddS X1.here hx rfl (hb hby d1_42) rfl hq rfl k) ?_
    show Go _ _ _ _ _ _ _  T1 (mkF m 43 #[.val (.ref a1), .val (.double d2), .second, .val (.double d3), .second, .unset, .unset] [(.double (FP.dadd d2 d3))])
    refine Go.st (fun t k => XS.dstore X1.here hx rfl (hb hby d1_43) rfl (l' := #[.val (.ref a1), .val (.double d2), .second, .val (.double d3), .second, .val (.double (FP.dadd d2 d3)), .second]) rfl k) ?_
    show Go _ _ _ _ _ _ _  T1 (mkF m 45 #[.val (.ref a1), .val (.double d2), .second, .val (.double d3), .second, .val (.double (FP.dadd d2 d3)), .second] [])
    refine Go.st (fun t k => XS.goto X1.here hx rfl (pc0 := 45) (pc' := 89) rfl (hb hby d1_45) (by decide) (by decide) k) ?_
    show Go _ _ _ _ _ _ _  T1 (mkF m 89 #[.val (.ref a1), .val (.double d2), .second, .val (.double d3), .second, .val (.double (FP.dadd d2 d3)), .second] [])
    refine Go.st (fun t k => XS.dload X1.here hx rfl (hb hby d1_89) rfl k) ?_
    show Go _ _ _ _ _ _ _  T1 (mkF m 91 #[.val (.ref a1), .val (.double d2), .second, .val (.double d3), .second, .val (.double (FP.dadd d2 d3)), .second] [(.double (FP.dadd d2 d3))])
    refine Go.retV X1 hlk hx Bd.returns rfl (Or.inr (Or.inr (Or.inl ⟨rfl, rfl, _, rfl⟩))) (hb hby d1_91) (by decide) (by decide) ?_
    show Q_rmS Z _ _ _ _ h0 n0 _ T1.heap _
    rw [e1q]
    exact ⟨by simp [applyF], N1, rfl⟩
  · rw [hk]
    have hq := own_f1 (hk ▸ hn)
    show Go _ _ _ _ _ _ _  T1 (mkF m 4 #[.val (.ref a1), .val (.double d2), .second, .val (.double d3), .second, .unset, .unset] [(.int (1 : Int32))])
    refine Go.st (fun t k => XS.tswIn X1.here hx rfl (pc0 := 4) (pc' := 48) (o := 44) rfl (hb hby d1_4) rfl (by decide) (by decide) (by decide) (by decide) k) ?_
    show Go _ _ _ _ _ _ _  T1 (mkF m 48 #[.val (.ref a1), .val (.double d2), .second, .val (.double d3), .second, .unset, .unset] [])
    refine Go.st (fun t k => XS.dloadN X1.here hx rfl (hb hby d1_48) rfl k) ?_
    show Go _ _ _ _ _ _ _  T1 (mkF m 49 #[.val (.ref a1), .val (.double d2), .second, .val (.double d3), .second, .unset, .unset] [(.double d2)])
    refine Go.st (fun t k => XS.dloadN X1.here hx rfl (hb hby d1_49) rfl k) ?_
    show Go _ _ _ _ _ _ _  T1 (mkF m 50 #[.val (.ref a1), .val (.double d2), .second, .val (.double d3), .second, .unset, .unset] [(.double d3), (.double d2)])
    refine Go.st (fun t k => XS.dsubS X1.here hx rfl (hb hby d1_50) rfl hq rfl k) ?_
    show Go _ _ _ _ _ _ _  T1 (mkF m 51 #[.val (.ref a1), .val (.double d2), .second, .val (.double d3), .second, .unset, .unset] [(.double (FP.dsub d2 d3))])
    refine Go.st (fun t k => XS.dstore X1.here hx rfl (hb hby d1_51) rfl (l' := #[.val (.ref a1), .val (.double d2), .second, .val (.double d3), .second, .val (.double (FP.dsub d2 d3)), .second]) rfl k) ?_
    show Go _ _ _ _ _ _ _  T1 (mkF m 53 #[.val (.ref a1), .val (.double d2), .second, .val (.double d3), .second, .val (.double (FP.dsub d2 d3)), .second] [])
    refine Go.st (fun t k => XS.goto X1.here hx rfl (pc0 := 53) (pc' := 89) rfl (hb hby d1_53) (by decide) (by decide) k) ?_
    show Go _ _ _ _ _ _ _  T1 (mkF m 89 #[.val (.ref a1), .val (.double d2), .second, .val (.double d3), .second, .val (.double (FP.dsub d2 d3)), .second] [])
    refine Go.st (fun t k => XS.dload X1.here hx rfl (hb hby d1_89) rfl k) ?_
    show Go _ _ _ _ _ _ _  T1 (mkF m 91 #[.val (.ref a1), .val (.double d2), .second, .val (.double d3), .second, .val (.double (FP.dsub d2 d3)), .second] [(.double (FP.dsub d2 d3))])
    refine Go.retV X1 hlk hx Bd.returns rfl (Or.inr (Or.inr (Or.inl ⟨rfl, rfl, _, rfl⟩))) (hb hby d1_91) (by decide) (by decide) ?_
    show Q_rmS Z _ _ _ _ h0 n0 _ T1.heap _
    rw [e1q]
    exact ⟨by simp [applyF], N1, rfl⟩
  · rw [hk]
    have hq := own_f2 (hk ▸ hn)
    show Go _ _ _ _ _ _ _  T1 (mkF m 4 #[.val (.ref a1), .val (.double d2), .second, .val (.double d3), .second, .unset, .unset] [(.int (2 : Int32))])
    refine Go.st (fun t k => XS.tswIn X1.here hx rfl (pc0 := 4) (pc' := 56) (o := 52) rfl (hb hby d1_4) rfl (by decide) (by decide) (by decide) (by decide) k) ?_
    show Go _ _ _ _ _ _ _  T1 (mkF m 56 #[.val (.ref a1), .val (.double d2), .second, .val (.double d3), .second, .unset, .unset] [])
    refine Go.st (fun t k => XS.dloadN X1.here hx rfl (hb hby d1_56) rfl k) ?_
    show Go _ _ _ _ _ _ _  T1 (mkF m 57 #[.val (.ref a1), .val (.double d2), .second, .val (.double d3), .second, .unset, .unset] [(.double d2)])
    refine Go.st (fun t k => XS.dloadN X1.here hx rfl (hb hby d1_57) rfl k) ?_
    show Go _ _ _ _ _ _ _  T1 (mkF m 58 #[.val (.ref a1), .val (.double d2), .second, .val (.double d3), .second, .unset, .unset] [(.double d3), (.double d2)])
    refine Go.st (fun t k => XS.dmulS X1.here hx rfl (hb hby d1_58) rfl hq rfl k) ?_
    show Go _ _ _ _ _ _ _  T1 (mkF m 59 #[.val (.ref a1), .val (.double d2), .second, .val (.double d3), .second, .unset, .unset] [(.double (FP.dmul d2 d3))])
    refine Go.st (fun t k => XS.dstore X1.here hx rfl (hb hby d1_59) rfl (l' := #[.val (.ref a1), .val (.double d2), .second, .val (.double d3), .second, .val (.double (FP.dmul d2 d3)), .second]) rfl k) ?_
    show Go _ _ _ _ _ _ _  T1 (mkF m 61 #[.val (.ref a1), .val (.double d2), .second, .val (.double d3), .second, .val (.double (FP.dmul d2 d3)), .second] [])
    refine Go.st (fun t k => XS.goto X1.here hx rfl (pc0 := 61) (pc' := 89) rfl (hb hby d1_61) (by decide) (by decide) k) ?_
    show Go _ _ _ _ _ _ _  T1 (mkF m 89 #[.val (.ref a1), .val (.double d2), .second, .val (.double d3), .second, .val (.double (FP.dmul d2 d3)), .second] [])
    refine Go.st (fun t k => XS.dload X1.here hx rfl (hb hby d1_89) rfl k) ?_
    show Go _ _ _ _ _ _ _  T1 (mkF m 91 #[.val (.ref a1), .val (.double d2), .second, .val (.double d3), .second, .val (.double (FP.dmul d2 d3)), .second] [(.double (FP.dmul d2 d3))])
    refine Go.retV X1 hlk hx Bd.returns rfl (Or.inr (Or.inr (Or.inl ⟨rfl, rfl, _, rfl⟩))) (hb hby d1_91) (by decide) (by decide) ?_
    show Q_rmS Z _ _ _ _ h0 n0 _ T1.heap _
    rw [e1q]
    exact ⟨by simp [applyF], N1, rfl⟩
  · rw [hk]
    have hq := own_f3 (hk ▸ hn)
    show Go _ _ _ _ _ _ _  T1 (mkF m 4 #[.val (.ref a1), .val (.double d2), .second, .val (.double d3), .second, .unset, .unset] [(.int (3 : Int32))])
    refine Go.st (fun t k => XS.tswIn X1.here hx rfl (pc0 := 4) (pc' := 64) (o := 60) rfl (hb hby d1_4) rfl (by decide) (by decide) (by decide) (by decide) k) ?_
    show Go _ _ _ _ _ _ _  T1 (mkF m 64 #[.val (.ref a1), .val (.double d2), .second, .val (.double d3), .second, .unset, .unset] [])
    refine Go.st (fun t k => XS.dloadN X1.here hx rfl (hb hby d1_64) rfl k) ?_
    show Go _ _ _ _ _ _ _  T1 (mkF m 65 #[.val (.ref a1), .val (.double d2), .second, .val (.double d3), .second, .unset, .unset] [(.double d2)])
    refine Go.st (fun t k => XS.dloadN X1.here hx rfl (hb hby d1_65) rfl k) ?_
    show Go _ _ _ _ _ _ _  T1 (mkF m 66 #[.val (.ref a1), .val (.double d2), .second, .val (.double d3), .second, .unset, .unset] [(.double d3), (.double d2)])
    refine Go.st (fun t k => XS.ddivS X1.here hx rfl (hb hby d1_66) rfl hq rfl k) ?_
    show Go _ _ _ _ _ _ _  T1 (mkF m 67 #[.val (.ref a1), .val (.double d2), .second, .val (.double d3), .second, .unset, .unset] [(.double (FP.ddiv d2 d3))])
    refine Go.st (fun t k => XS.dstore X1.here hx rfl (hb hby d1_67) rfl (l' := #[.val (.ref a1), .val (.double d2), .second, .val (.double d3), .second, .val (.double (FP.ddiv d2 d3)), .second]) rfl k) ?_
    show Go _ _ _ _ _ _ _  T1 (mkF m 69 #[.val (.ref a1), .val (.double d2), .second, .val (.double d3), .second, .val (.double (FP.ddiv d2 d3)), .second] [])
    refine Go.st (fun t k => XS.goto X1.here hx rfl (pc0 := 69) (pc' := 89) rfl (hb hby d1_69) (by decide) (by decide) k) ?_
    show Go _ _ _ _ _ _ _  T1 (mkF m 89 #[.val (.ref a1), .val (.double d2), .second, .val (.double d3), .second, .val (.double (FP.ddiv d2 d3)), .second] [])
    refine Go.st (fun t k => XS.dload X1.here hx rfl (hb hby d1_89) rfl k) ?_
    show Go _ _ _ _ _ _ _  T1 (mkF m 91 #[.val (.ref a1), .val (.double d2), .second, .val (.double d3), .second, .val (.double (FP.ddiv d2 d3)), .second] [(.double (FP.ddiv d2 d3))])
    refine Go.retV X1 hlk hx Bd.returns rfl (Or.inr (Or.inr (Or.inl ⟨rfl, rfl, _, rfl⟩))) (hb hby d1_91) (by decide) (by decide) ?_
    show Q_rmS Z _ _ _ _ h0 n0 _ T1.heap _
    rw [e1q]
    exact ⟨by simp [applyF], N1, rfl⟩
  · rw [hk]
    have hq := own_f4 (hk ▸ hn)
    show Go _ _ _ _ _ _ _  T1 (mkF m 4 #[.val (.ref a1), .val (.double d2), .second, .val (.double d3), .second, .unset, .unset] [(.int (4 : Int32))])
    refine Go.st (fun t k => XS.tswIn X1.here hx rfl (pc0 := 4) (pc' := 72) (o := 68) rfl (hb hby d1_4) rfl (by decide) (by decide) (by decide) (by decide) k) ?_
    show Go _ _ _ _ _ _ _  T1 (mkF m 72 #[.val (.ref a1), .val (.double d2), .second, .val (.double d3), .second, .unset, .unset] [])
    refine Go.st (fun t k => XS.dloadN X1.here hx rfl (hb hby d1_72) rfl k) ?_
    show Go _ _ _ _ _ _ _  T1 (mkF m 73 #[.val (.ref a1), .val (.double d2), .second, .val (.double d3), .second, .unset, .unset] [(.double d2)])
    refine Go.st (fun t k => XS.dloadN X1.here hx rfl (hb hby d1_73) rfl k) ?_
    show Go _ _ _ _ _ _ _  T1 (mkF m 74 #[.val (.ref a1), .val (.double d2), .second, .val (.double d3), .second, .unset, .unset] [(.double d3), (.double d2)])
    refine Go.st (fun t k => own_dremS X1.here hx rfl (hb hby d1_74) rfl hq rfl k) ?_
    show Go _ _ _ _ _ _ _  T1 (mkF m 75 #[.val (.ref a1), .val (.double d2), .second, .val (.double d3), .second, .unset, .unset] [(.double (FP.drem d2 d3))])
    refine Go.st (fun t k => XS.dstore X1.here hx rfl (hb hby d1_75) rfl (l' := #[.val (.ref a1), .val (.double d2), .second, .val (.double d3), .second, .val (.double (FP.drem d2 d3)), .second]) rfl k) ?_
    show Go _ _ _ _ _ _ _  T1 (mkF m 77 #[.val (.ref a1), .val (.double d2), .second, .val (.double d3), .second, .val (.double (FP.drem d2 d3)), .second] [])
    refine Go.st (fun t k => XS.goto X1.here hx rfl (pc0 := 77) (pc' := 89) rfl (hb hby d1_77) (by decide) (by decide) k) ?_
    show Go _ _ _ _ _ _ _  T1 (mkF m 89 #[.val (.ref a1), .val (.double d2), .second, .val (.double d3), .second, .val (.double (FP.drem d2 d3)), .second] [])
    refine Go.st (fun t k => XS.dload X1.here hx rfl (hb hby d1_89) rfl k) ?_
    show Go _ _ _ _ _ _ _  T1 (mkF m 91 #[.val (.ref a1), .val (.double d2), .second, .val (.double d3), .second, .val (.double (FP.drem d2 d3)), .second] [(.double (FP.drem d2 d3))])
    refine Go.retV X1 hlk hx Bd.returns rfl (Or.inr (Or.inr (Or.inl ⟨rfl, rfl, _, rfl⟩))) (hb hby d1_91) (by decide) (by decide) ?_
    show Q_rmS Z _ _ _ _ h0 n0 _ T1.heap _
    rw [e1q]
    exact ⟨by simp [applyF], N1, rfl⟩
def Q_rm0 (Z : State) (p1 : Int32) (p2 : Int32) (p3 : Int32) (p4 : Int32) (w_ADD : Addr) (w_SUBTRACT : Addr) (w_MULTIPLY : Addr) (w_DIVIDE : Addr) (w_REMAINDER : Addr) (h0 : Heap) (n0 : Nat) (v : Option Value) (h : Heap) (L : List Loc) : Prop := v = some (.int (1 : Int32)) ∧ Fr n0 L
set_option maxRecDepth 65536 in
set_option maxHeartbeats 40000000 in
theorem rm0 (l : Launch) (Z : State) (a0 : Array Value) (hw : ∀ d ∈ tables_1, d.before a0 Z = true) (ws : List Jvm.Cond) (p1 : Int32) (p2 : Int32) (p3 : Int32) (p4 : Int32) (w_ADD : Addr) (w_SUBTRACT : Addr) (w_MULTIPLY : Addr) (w_DIVIDE : Addr) (w_REMAINDER : Addr) (h0 : Heap) (n0 : Nat) (O : Old Z n0 h0) (S_ADD : Sta Z Z.heap "com/example/sancho/sancho/model/ScriptExpression$ArithmeticOperator" "ADD" "Lcom/example/sancho/sancho/model/ScriptExpression$ArithmeticOperator;" (.ref w_ADD)) (S_SUBTRACT : Sta Z Z.heap "com/example/sancho/sancho/model/ScriptExpression$ArithmeticOperator" "SUBTRACT" "Lcom/example/sancho/sancho/model/ScriptExpression$ArithmeticOperator;" (.ref w_SUBTRACT)) (S_MULTIPLY : Sta Z Z.heap "com/example/sancho/sancho/model/ScriptExpression$ArithmeticOperator" "MULTIPLY" "Lcom/example/sancho/sancho/model/ScriptExpression$ArithmeticOperator;" (.ref w_MULTIPLY)) (S_DIVIDE : Sta Z Z.heap "com/example/sancho/sancho/model/ScriptExpression$ArithmeticOperator" "DIVIDE" "Lcom/example/sancho/sancho/model/ScriptExpression$ArithmeticOperator;" (.ref w_DIVIDE)) (S_REMAINDER : Sta Z Z.heap "com/example/sancho/sancho/model/ScriptExpression$ArithmeticOperator" "REMAINDER" "Lcom/example/sancho/sancho/model/ScriptExpression$ArithmeticOperator;" (.ref w_REMAINDER)) (E_ADD : Exa Z Z.heap w_ADD "com/example/sancho/sancho/model/ScriptExpression$ArithmeticOperator") (E_SUBTRACT : Exa Z Z.heap w_SUBTRACT "com/example/sancho/sancho/model/ScriptExpression$ArithmeticOperator") (E_MULTIPLY : Exa Z Z.heap w_MULTIPLY "com/example/sancho/sancho/model/ScriptExpression$ArithmeticOperator") (E_DIVIDE : Exa Z Z.heap w_DIVIDE "com/example/sancho/sancho/model/ScriptExpression$ArithmeticOperator") (E_REMAINDER : Exa Z Z.heap w_REMAINDER "com/example/sancho/sancho/model/ScriptExpression$ArithmeticOperator") (O_ADD : Fld Z Z.heap w_ADD "java/lang/Enum" "ordinal" "I" (.int 0)) (O_SUBTRACT : Fld Z Z.heap w_SUBTRACT "java/lang/Enum" "ordinal" "I" (.int 1)) (O_MULTIPLY : Fld Z Z.heap w_MULTIPLY "java/lang/Enum" "ordinal" "I" (.int 2)) (O_DIVIDE : Fld Z Z.heap w_DIVIDE "java/lang/Enum" "ordinal" "I" (.int 3)) (O_REMAINDER : Fld Z Z.heap w_REMAINDER "java/lang/Enum" "ordinal" "I" (.int 4)) :
    MetFree l x (head1 (Jvm.Cond.code x code maxLocals ret :: ws) room_1) (fun a U => a = #[(.int p1), (.int p2), (.int p3), (.int p4)] ∧ Z.Warmed39 U.vm ∧ U.heap = h0) (fun _ _ _ _ _ => True) (fun _ U o U' => ∃ v L, o = .returned v ∧ Q_rm0 Z p1 p2 p3 p4 w_ADD w_SUBTRACT w_MULTIPLY w_DIVIDE w_REMAINDER h0 n0 v U'.heap L ∧ FrameEnd U o U' L room_1.cells room_1.slots) := by
  refine MetFree.of_bodySF (plainFor_of_name pn_0) hisR ?_
  intro p e s m args below meth c s₁ Bd hml0 hP hK
  obtain ⟨rfl, hZ, hh⟩ := hP
  have hx := Bd.exec
  have hby := Bd.bytes
  have hml : c.maxLocals = 19 := hml0
  have hown : s.vm.findClass "com/example/sancho/sancho/model/ArithmeticOperatorApplyPinLaw" = some m.cls := findClass_of_methodNamed Bd.named
  have hnm := (name_of_methodNamed Bd.named Bd.method).1
  have hlk : meth.locks = false := BodyLoose.notSynchronized Bd
  have X0 : Stand p l e room_1 s m #[(.int p1), (.int p2), (.int p3), (.int p4)] below meth c s₁ [] 0 0 := Stand.of_body Bd
  have e0 : s₁.heap = h0 := by rw [← hh, Bd.state]; rfl
  have N0 := Fr.nil n0
  show Go p e below s room_1.cells room_1.slots (Q_rm0 Z p1 p2 p3 p4 w_ADD w_SUBTRACT w_MULTIPLY w_DIVIDE w_REMAINDER h0 n0) s₁ (entryFrame m #[(.int p1), (.int p2), (.int p3), (.int p4)] maxLocals)
  refine Go.eq (ef_rm0 m p1 p2 p3 p4) ?_
  show Go _ _ _ _ _ _ _  s₁ (mkF m 0 #[.val (.int p1), .val (.int p2), .val (.int p3), .val (.int p4), .unset, .unset, .unset, .unset, .unset, .unset, .unset, .unset, .unset, .unset, .unset, .unset, .unset, .unset, .unset] [])
  refine Go.st (fun t k => XS.iloadN X0.here hx rfl (hb hby at_0) rfl  k) ?_
  show Go _ _ _ _ _ _ _  s₁ (mkF m 1 #[.val (.int p1), .val (.int p2), .val (.int p3), .val (.int p4), .unset, .unset, .unset, .unset, .unset, .unset, .unset, .unset, .unset, .unset, .unset, .unset, .unset, .unset, .unset] [(.int p1)])
  refine Go.st (fun t k => XS.bipush X0.here hx rfl (hb hby at_1) k) ?_
  show Go _ _ _ _ _ _ _  s₁ (mkF m 3 #[.val (.int p1), .val (.int p2), .val (.int p3), .val (.int p4), .unset, .unset, .unset, .unset, .unset, .unset, .unset, .unset, .unset, .unset, .unset, .unset, .unset, .unset, .unset] [(.int (7 : Int32)), (.int p1)])
  refine Go.st (fun t k => XS.iand X0.here hx rfl (hb hby at_3) rfl k) ?_
  show Go _ _ _ _ _ _ _  s₁ (mkF m 4 #[.val (.int p1), .val (.int p2), .val (.int p3), .val (.int p4), .unset, .unset, .unset, .unset, .unset, .unset, .unset, .unset, .unset, .unset, .unset, .unset, .unset, .unset, .unset] [(.int (p1 &&& (7 : Int32)))])
  refine Go.st (fun t k => XS.iconst X0.here hx rfl (hb hby at_4) k) ?_
  show Go _ _ _ _ _ _ _  s₁ (mkF m 5 #[.val (.int p1), .val (.int p2), .val (.int p3), .val (.int p4), .unset, .unset, .unset, .unset, .unset, .unset, .unset, .unset, .unset, .unset, .unset, .unset, .unset, .unset, .unset] [(.int (5 : Int32)), (.int (p1 &&& (7 : Int32)))])
  refine Go.st (fun t k => Jvm.RoadKit.iremM X0 hx rfl (hb hby at_5) rfl (by decide) k) ?_
  show Go _ _ _ _ _ _ _  s₁ (mkF m 6 #[.val (.int p1), .val (.int p2), .val (.int p3), .val (.int p4), .unset, .unset, .unset, .unset, .unset, .unset, .unset, .unset, .unset, .unset, .unset, .unset, .unset, .unset, .unset] [(.int ((p1 &&& (7 : Int32)) % (5 : Int32)))])
  refine Go.st (fun t k => XS.istore X0.here hx rfl (hb hby at_6) rfl (l' := #[.val (.int p1), .val (.int p2), .val (.int p3), .val (.int p4), .val (.int ((p1 &&& (7 : Int32)) % (5 : Int32))), .unset, .unset, .unset, .unset, .unset, .unset, .unset, .unset, .unset, .unset, .unset, .unset, .unset, .unset]) rfl k) ?_
  show Go _ _ _ _ _ _ _  s₁ (mkF m 8 #[.val (.int p1), .val (.int p2), .val (.int p3), .val (.int p4), .val (.int ((p1 &&& (7 : Int32)) % (5 : Int32))), .unset, .unset, .unset, .unset, .unset, .unset, .unset, .unset, .unset, .unset, .unset, .unset, .unset, .unset] [])
  refine Go.st (fun t k => XS.iloadN X0.here hx rfl (hb hby at_8) rfl  k) ?_
  show Go _ _ _ _ _ _ _  s₁ (mkF m 9 #[.val (.int p1), .val (.int p2), .val (.int p3), .val (.int p4), .val (.int ((p1 &&& (7 : Int32)) % (5 : Int32))), .unset, .unset, .unset, .unset, .unset, .unset, .unset, .unset, .unset, .unset, .unset, .unset, .unset, .unset] [(.int p2)])
  refine Go.st (fun t k => XS.i2dS X0.here hx rfl (hb hby at_9) rfl rfl k) ?_
  show Go _ _ _ _ _ _ _  s₁ (mkF m 10 #[.val (.int p1), .val (.int p2), .val (.int p3), .val (.int p4), .val (.int ((p1 &&& (7 : Int32)) % (5 : Int32))), .unset, .unset, .unset, .unset, .unset, .unset, .unset, .unset, .unset, .unset, .unset, .unset, .unset, .unset] [(.double (FP.i2d p2))])
  refine Go.st (fun t k => XS.dstore X0.here hx rfl (hb hby at_10) rfl (l' := #[.val (.int p1), .val (.int p2), .val (.int p3), .val (.int p4), .val (.int ((p1 &&& (7 : Int32)) % (5 : Int32))), .val (.double (FP.i2d p2)), .second, .unset, .unset, .unset, .unset, .unset, .unset, .unset, .unset, .unset, .unset, .unset, .unset]) rfl k) ?_
  show Go _ _ _ _ _ _ _  s₁ (mkF m 12 #[.val (.int p1), .val (.int p2), .val (.int p3), .val (.int p4), .val (.int ((p1 &&& (7 : Int32)) % (5 : Int32))), .val (.double (FP.i2d p2)), .second, .unset, .unset, .unset, .unset, .unset, .unset, .unset, .unset, .unset, .unset, .unset, .unset] [])
  refine Go.st (fun t k => XS.iloadN X0.here hx rfl (hb hby at_12) rfl  k) ?_
  show Go _ _ _ _ _ _ _  s₁ (mkF m 13 #[.val (.int p1), .val (.int p2), .val (.int p3), .val (.int p4), .val (.int ((p1 &&& (7 : Int32)) % (5 : Int32))), .val (.double (FP.i2d p2)), .second, .unset, .unset, .unset, .unset, .unset, .unset, .unset, .unset, .unset, .unset, .unset, .unset] [(.int p3)])
  refine Go.st (fun t k => XS.i2dS X0.here hx rfl (hb hby at_13) rfl rfl k) ?_
  show Go _ _ _ _ _ _ _  s₁ (mkF m 14 #[.val (.int p1), .val (.int p2), .val (.int p3), .val (.int p4), .val (.int ((p1 &&& (7 : Int32)) % (5 : Int32))), .val (.double (FP.i2d p2)), .second, .unset, .unset, .unset, .unset, .unset, .unset, .unset, .unset, .unset, .unset, .unset, .unset] [(.double (FP.i2d p3))])
  refine Go.st (fun t k => XS.dstore X0.here hx rfl (hb hby at_14) rfl (l' := #[.val (.int p1), .val (.int p2), .val (.int p3), .val (.int p4), .val (.int ((p1 &&& (7 : Int32)) % (5 : Int32))), .val (.double (FP.i2d p2)), .second, .val (.double (FP.i2d p3)), .second, .unset, .unset, .unset, .unset, .unset, .unset, .unset, .unset, .unset, .unset]) rfl k) ?_
  show Go _ _ _ _ _ _ _  s₁ (mkF m 16 #[.val (.int p1), .val (.int p2), .val (.int p3), .val (.int p4), .val (.int ((p1 &&& (7 : Int32)) % (5 : Int32))), .val (.double (FP.i2d p2)), .second, .val (.double (FP.i2d p3)), .second, .unset, .unset, .unset, .unset, .unset, .unset, .unset, .unset, .unset, .unset] [])
  rcases own_mod7_5 p1 with sp1 | sp1 | sp1 | sp1 | sp1
  · rw [sp1]
    show Go _ _ _ _ _ _ _  s₁ (mkF m 16 #[.val (.int p1), .val (.int p2), .val (.int p3), .val (.int p4), .val (.int (0 : Int32)), .val (.double (FP.i2d p2)), .second, .val (.double (FP.i2d p3)), .second, .unset, .unset, .unset, .unset, .unset, .unset, .unset, .unset, .unset, .unset] [])
    refine Go.st (fun t k => XS.iload X0.here hx rfl (hb hby at_16) rfl  k) ?_
    show Go _ _ _ _ _ _ _  s₁ (mkF m 18 #[.val (.int p1), .val (.int p2), .val (.int p3), .val (.int p4), .val (.int (0 : Int32)), .val (.double (FP.i2d p2)), .second, .val (.double (FP.i2d p3)), .second, .unset, .unset, .unset, .unset, .unset, .unset, .unset, .unset, .unset, .unset] [(.int (0 : Int32))])
    refine Go.st (fun t k => XS.ifNo X0.here hx rfl (hb hby at_18) rfl ((if0 _ _).trans (teq (rfl : (0 : Int32) = (0 : Int32))).2) k) ?_
    show Go _ _ _ _ _ _ _  s₁ (mkF m 21 #[.val (.int p1), .val (.int p2), .val (.int p3), .val (.int p4), .val (.int (0 : Int32)), .val (.double (FP.i2d p2)), .second, .val (.double (FP.i2d p3)), .second, .unset, .unset, .unset, .unset, .unset, .unset, .unset, .unset, .unset, .unset] [])
    obtain ⟨T2, X2, e2, st2⟩ := getS2 X0 hx hZ hown (host := "") (Or.inl (hw _ (List.mem_of_getElem? (i := 0) rfl))) Via.refl e0 (S_ADD.ext O.2) (g := (mkF m 21 #[.val (.int p1), .val (.int p2), .val (.int p3), .val (.int p4), .val (.int (0 : Int32)), .val (.double (FP.i2d p2)), .second, .val (.double (FP.i2d p3)), .second, .unset, .unset, .unset, .unset, .unset, .unset, .unset, .unset, .unset, .unset] [])) rfl (hb hby at_21)
    refine Go.st st2 ?_
    show Go _ _ _ _ _ _ _  T2 (mkF m 24 #[.val (.int p1), .val (.int p2), .val (.int p3), .val (.int p4), .val (.int (0 : Int32)), .val (.double (FP.i2d p2)), .second, .val (.double (FP.i2d p3)), .second, .unset, .unset, .unset, .unset, .unset, .unset, .unset, .unset, .unset, .unset] [(.ref w_ADD)])
    refine Go.st (fun t k => XS.dload X2.here hx rfl (hb hby at_24) rfl k) ?_
    show Go _ _ _ _ _ _ _  T2 (mkF m 26 #[.val (.int p1), .val (.int p2), .val (.int p3), .val (.int p4), .val (.int (0 : Int32)), .val (.double (FP.i2d p2)), .second, .val (.double (FP.i2d p3)), .second, .unset, .unset, .unset, .unset, .unset, .unset, .unset, .unset, .unset, .unset] [(.double (FP.i2d p2)), (.ref w_ADD)])
    refine Go.st (fun t k => XS.dload X2.here hx rfl (hb hby at_26) rfl k) ?_
    show Go _ _ _ _ _ _ _  T2 (mkF m 28 #[.val (.int p1), .val (.int p2), .val (.int p3), .val (.int p4), .val (.int (0 : Int32)), .val (.double (FP.i2d p2)), .second, .val (.double (FP.i2d p3)), .second, .unset, .unset, .unset, .unset, .unset, .unset, .unset, .unset, .unset, .unset] [(.double (FP.i2d p3)), (.double (FP.i2d p2)), (.ref w_ADD)])
    obtain ⟨cq3, kq3, q3a, q3b, q3c⟩ := isOf hZ e2 (E_ADD.ext O.2)
    obtain ⟨_, _, ⟨T3, L3, k3, n3⟩, -, X3, ⟨Lc3, hQ3, l3, y3, z3⟩, st3⟩ := X2.virtualBack hx (y := (⟨"com/example/sancho/sancho/model/ScriptExpression$ArithmeticOperator", "apply", "(DD)D"⟩ : MethodName)) (z := (⟨"com/example/sancho/sancho/model/ScriptExpression$ArithmeticOperator", "apply", "(DD)D"⟩ : MethodName)) hown (mvT hZ (hw _ (List.mem_of_getElem? (i := 3) rfl))) (mvT hZ (hw _ (List.mem_of_getElem? (i := 4) rfl))) (notFace_of_selects (args := #[]) (mvT hZ (hw _ (List.mem_of_getElem? (i := 6) rfl)))) (mvT hZ (hw _ (List.mem_of_getElem? (i := 6) rfl))) (mvT hZ (hw _ (List.mem_of_getElem? (i := 5) rfl))) (by decide) (backOf (W := 0) (rmS l Z a0 hw [] w_ADD (FP.i2d p2) (FP.i2d p3) 0 h0 n0 O O_ADD E_ADD (by decide) (own_n0 _ _)) hZ (hw _ (List.mem_of_getElem? (i := 7) rfl)) (hw _ (List.mem_of_getElem? (i := 1) rfl)) (by decide) (by decide)) q3a q3c (g := (mkF m 28 #[.val (.int p1), .val (.int p2), .val (.int p3), .val (.int p4), .val (.int (0 : Int32)), .val (.double (FP.i2d p2)), .second, .val (.double (FP.i2d p3)), .second, .unset, .unset, .unset, .unset, .unset, .unset, .unset, .unset, .unset, .unset] [(.double (FP.i2d p3)), (.double (FP.i2d p2)), (.ref w_ADD)])) rfl (by rw [hml]; rfl) (Steps.refl _) (argsL := [(.double (FP.i2d p2)), (.double (FP.i2d p3))]) (rest := []) (lenOf pd__DD_D rfl) rfl (by show 2 * 0 + _ ≤ _; exact Nat.le_of_eq rfl) (hb hby at_28) (fun _ _ => ⟨rfl, e2, (by decide : 0 + 0 ≤ _), (by decide : 0 + 0 ≤ _)⟩)
    dsimp only [Pt.U, Pt.locs, Pt.cells, Pt.slots] at X3 l3 y3 z3 st3 hQ3
    subst l3 y3 z3
    obtain ⟨rfl, N3q, e3q⟩ := hQ3
    have N3 := Fr.app N0 N3q
    refine Go.tr st3 ?_
    show Go _ _ _ _ _ _ _  T3 (mkF m 31 #[.val (.int p1), .val (.int p2), .val (.int p3), .val (.int p4), .val (.int (0 : Int32)), .val (.double (FP.i2d p2)), .second, .val (.double (FP.i2d p3)), .second, .unset, .unset, .unset, .unset, .unset, .unset, .unset, .unset, .unset, .unset] [(.double (applyF 0 (FP.i2d p2) (FP.i2d p3)))])
    refine Go.st (fun t k => XS.dstore X3.here hx rfl (hb hby at_31) rfl (l' := #[.val (.int p1), .val (.int p2), .val (.int p3), .val (.int p4), .val (.int (0 : Int32)), .val (.double (FP.i2d p2)), .second, .val (.double (FP.i2d p3)), .second, .val (.double (applyF 0 (FP.i2d p2) (FP.i2d p3))), .second, .unset, .unset, .unset, .unset, .unset, .unset, .unset, .unset]) rfl k) ?_
    show Go _ _ _ _ _ _ _  T3 (mkF m 33 #[.val (.int p1), .val (.int p2), .val (.int p3), .val (.int p4), .val (.int (0 : Int32)), .val (.double (FP.i2d p2)), .second, .val (.double (FP.i2d p3)), .second, .val (.double (applyF 0 (FP.i2d p2) (FP.i2d p3))), .second, .unset, .unset, .unset, .unset, .unset, .unset, .unset, .unset] [])
    refine Go.st (fun t k => XS.dload X3.here hx rfl (hb hby at_33) rfl k) ?_
    show Go _ _ _ _ _ _ _  T3 (mkF m 35 #[.val (.int p1), .val (.int p2), .val (.int p3), .val (.int p4), .val (.int (0 : Int32)), .val (.double (FP.i2d p2)), .second, .val (.double (FP.i2d p3)), .second, .val (.double (applyF 0 (FP.i2d p2) (FP.i2d p3))), .second, .unset, .unset, .unset, .unset, .unset, .unset, .unset, .unset] [(.double (applyF 0 (FP.i2d p2) (FP.i2d p3)))])
    refine Go.st (fun t k => XS.iloadN X3.here hx rfl (hb hby at_35) rfl  k) ?_
    show Go _ _ _ _ _ _ _  T3 (mkF m 36 #[.val (.int p1), .val (.int p2), .val (.int p3), .val (.int p4), .val (.int (0 : Int32)), .val (.double (FP.i2d p2)), .second, .val (.double (FP.i2d p3)), .second, .val (.double (applyF 0 (FP.i2d p2) (FP.i2d p3))), .second, .unset, .unset, .unset, .unset, .unset, .unset, .unset, .unset] [(.int p2), (.double (applyF 0 (FP.i2d p2) (FP.i2d p3)))])
    refine Go.st (fun t k => XS.i2l X3.here hx rfl (hb hby at_36) rfl k) ?_
    show Go _ _ _ _ _ _ _  T3 (mkF m 37 #[.val (.int p1), .val (.int p2), .val (.int p3), .val (.int p4), .val (.int (0 : Int32)), .val (.double (FP.i2d p2)), .second, .val (.double (FP.i2d p3)), .second, .val (.double (applyF 0 (FP.i2d p2) (FP.i2d p3))), .second, .unset, .unset, .unset, .unset, .unset, .unset, .unset, .unset] [(.long (p2.toInt64)), (.double (applyF 0 (FP.i2d p2) (FP.i2d p3)))])
    refine Go.st (fun t k => XS.iloadN X3.here hx rfl (hb hby at_37) rfl  k) ?_
    show Go _ _ _ _ _ _ _  T3 (mkF m 38 #[.val (.int p1), .val (.int p2), .val (.int p3), .val (.int p4), .val (.int (0 : Int32)), .val (.double (FP.i2d p2)), .second, .val (.double (FP.i2d p3)), .second, .val (.double (applyF 0 (FP.i2d p2) (FP.i2d p3))), .second, .unset, .unset, .unset, .unset, .unset, .unset, .unset, .unset] [(.int p3), (.long (p2.toInt64)), (.double (applyF 0 (FP.i2d p2) (FP.i2d p3)))])
    refine Go.st (fun t k => XS.i2l X3.here hx rfl (hb hby at_38) rfl k) ?_
    show Go _ _ _ _ _ _ _  T3 (mkF m 39 #[.val (.int p1), .val (.int p2), .val (.int p3), .val (.int p4), .val (.int (0 : Int32)), .val (.double (FP.i2d p2)), .second, .val (.double (FP.i2d p3)), .second, .val (.double (applyF 0 (FP.i2d p2) (FP.i2d p3))), .second, .unset, .unset, .unset, .unset, .unset, .unset, .unset, .unset] [(.long (p3.toInt64)), (.long (p2.toInt64)), (.double (applyF 0 (FP.i2d p2) (FP.i2d p3)))])
    refine Go.st (fun t k => XS.ladd X3.here hx rfl (hb hby at_39) rfl k) ?_
    show Go _ _ _ _ _ _ _  T3 (mkF m 40 #[.val (.int p1), .val (.int p2), .val (.int p3), .val (.int p4), .val (.int (0 : Int32)), .val (.double (FP.i2d p2)), .second, .val (.double (FP.i2d p3)), .second, .val (.double (applyF 0 (FP.i2d p2) (FP.i2d p3))), .second, .unset, .unset, .unset, .unset, .unset, .unset, .unset, .unset] [(.long ((p2.toInt64) + (p3.toInt64))), (.double (applyF 0 (FP.i2d p2) (FP.i2d p3)))])
    refine Go.st (fun t k => XS.l2dS X3.here hx rfl (hb hby at_40) rfl rfl k) ?_
    show Go _ _ _ _ _ _ _  T3 (mkF m 41 #[.val (.int p1), .val (.int p2), .val (.int p3), .val (.int p4), .val (.int (0 : Int32)), .val (.double (FP.i2d p2)), .second, .val (.double (FP.i2d p3)), .second, .val (.double (applyF 0 (FP.i2d p2) (FP.i2d p3))), .second, .unset, .unset, .unset, .unset, .unset, .unset, .unset, .unset] [(.double (FP.l2d ((p2.toInt64) + (p3.toInt64)))), (.double (applyF 0 (FP.i2d p2) (FP.i2d p3)))])
    refine Go.st (fun t k => XS.dcmpS X3.here hx rfl (hb hby at_41) rfl rfl k) ?_
    show Go _ _ _ _ _ _ _  T3 (mkF m 42 #[.val (.int p1), .val (.int p2), .val (.int p3), .val (.int p4), .val (.int (0 : Int32)), .val (.double (FP.i2d p2)), .second, .val (.double (FP.i2d p3)), .second, .val (.double (applyF 0 (FP.i2d p2) (FP.i2d p3))), .second, .unset, .unset, .unset, .unset, .unset, .unset, .unset, .unset] [(.int (cmpValue (FP.dcmp (applyF 0 (FP.i2d p2) (FP.i2d p3)) (FP.l2d ((p2.toInt64) + (p3.toInt64)))) .l))])
    refine Go.st (fun t k => XS.ifNo X3.here hx rfl (hb hby at_42) rfl ((if0 _ _).trans (teq (own_c0 _ _ : (cmpValue (FP.dcmp (applyF 0 (FP.i2d p2) (FP.i2d p3)) (FP.l2d ((p2.toInt64) + (p3.toInt64)))) .l) = (0 : Int32))).2) k) ?_
    show Go _ _ _ _ _ _ _  T3 (mkF m 45 #[.val (.int p1), .val (.int p2), .val (.int p3), .val (.int p4), .val (.int (0 : Int32)), .val (.double (FP.i2d p2)), .second, .val (.double (FP.i2d p3)), .second, .val (.double (applyF 0 (FP.i2d p2) (FP.i2d p3))), .second, .unset, .unset, .unset, .unset, .unset, .unset, .unset, .unset] [])
    refine Go.st (fun t k => XS.iconst X3.here hx rfl (hb hby at_45) k) ?_
    show Go _ _ _ _ _ _ _  T3 (mkF m 46 #[.val (.int p1), .val (.int p2), .val (.int p3), .val (.int p4), .val (.int (0 : Int32)), .val (.double (FP.i2d p2)), .second, .val (.double (FP.i2d p3)), .second, .val (.double (applyF 0 (FP.i2d p2) (FP.i2d p3))), .second, .unset, .unset, .unset, .unset, .unset, .unset, .unset, .unset] [(.int (1 : Int32))])
    refine Go.st (fun t k => XS.goto X3.here hx rfl (pc0 := 46) (pc' := 50) rfl (hb hby at_46) (by decide) (by decide) k) ?_
    show Go _ _ _ _ _ _ _  T3 (mkF m 50 #[.val (.int p1), .val (.int p2), .val (.int p3), .val (.int p4), .val (.int (0 : Int32)), .val (.double (FP.i2d p2)), .second, .val (.double (FP.i2d p3)), .second, .val (.double (applyF 0 (FP.i2d p2) (FP.i2d p3))), .second, .unset, .unset, .unset, .unset, .unset, .unset, .unset, .unset] [(.int (1 : Int32))])
    refine Go.retN X3 hlk hx (t := .boolean) (z' := (1 : Int32)) Bd.returns (by simp) (hb hby at_50) (by decide) (by decide) rfl ?_
    show Q_rm0 Z _ _ _ _ _ _ _ _ _ h0 n0 _ T3.heap _
    rw [e3q]
    exact ⟨rfl, N3⟩
  · rw [sp1]
    show Go _ _ _ _ _ _ _  s₁ (mkF m 16 #[.val (.int p1), .val (.int p2), .val (.int p3), .val (.int p4), .val (.int (1 : Int32)), .val (.double (FP.i2d p2)), .second, .val (.double (FP.i2d p3)), .second, .unset, .unset, .unset, .unset, .unset, .unset, .unset, .unset, .unset, .unset] [])
    refine Go.st (fun t k => XS.iload X0.here hx rfl (hb hby at_16) rfl  k) ?_
    show Go _ _ _ _ _ _ _  s₁ (mkF m 18 #[.val (.int p1), .val (.int p2), .val (.int p3), .val (.int p4), .val (.int (1 : Int32)), .val (.double (FP.i2d p2)), .second, .val (.double (FP.i2d p3)), .second, .unset, .unset, .unset, .unset, .unset, .unset, .unset, .unset, .unset, .unset] [(.int (1 : Int32))])
    refine Go.st (fun t k => XS.ifYes X0.here hx rfl (pc0 := 18) (pc' := 51) rfl (hb hby at_18) rfl ((if0 _ _).trans (feq (by decide : ¬ ((1 : Int32) = (0 : Int32)))).2) (by decide) (by decide) k) ?_
    show Go _ _ _ _ _ _ _  s₁ (mkF m 51 #[.val (.int p1), .val (.int p2), .val (.int p3), .val (.int p4), .val (.int (1 : Int32)), .val (.double (FP.i2d p2)), .second, .val (.double (FP.i2d p3)), .second, .unset, .unset, .unset, .unset, .unset, .unset, .unset, .unset, .unset, .unset] [])
    refine Go.st (fun t k => XS.iload X0.here hx rfl (hb hby at_51) rfl  k) ?_
    show Go _ _ _ _ _ _ _  s₁ (mkF m 53 #[.val (.int p1), .val (.int p2), .val (.int p3), .val (.int p4), .val (.int (1 : Int32)), .val (.double (FP.i2d p2)), .second, .val (.double (FP.i2d p3)), .second, .unset, .unset, .unset, .unset, .unset, .unset, .unset, .unset, .unset, .unset] [(.int (1 : Int32))])
    refine Go.st (fun t k => XS.iconst X0.here hx rfl (hb hby at_53) k) ?_
    show Go _ _ _ _ _ _ _  s₁ (mkF m 54 #[.val (.int p1), .val (.int p2), .val (.int p3), .val (.int p4), .val (.int (1 : Int32)), .val (.double (FP.i2d p2)), .second, .val (.double (FP.i2d p3)), .second, .unset, .unset, .unset, .unset, .unset, .unset, .unset, .unset, .unset, .unset] [(.int (1 : Int32)), (.int (1 : Int32))])
    refine Go.st (fun t k => XS.icmpNo X0.here hx rfl (hb hby at_54) rfl (teq (rfl : (1 : Int32) = (1 : Int32))).2 k) ?_
    show Go _ _ _ _ _ _ _  s₁ (mkF m 57 #[.val (.int p1), .val (.int p2), .val (.int p3), .val (.int p4), .val (.int (1 : Int32)), .val (.double (FP.i2d p2)), .second, .val (.double (FP.i2d p3)), .second, .unset, .unset, .unset, .unset, .unset, .unset, .unset, .unset, .unset, .unset] [])
    obtain ⟨T4, X4, e4, st4⟩ := getS2 X0 hx hZ hown (host := "") (Or.inl (hw _ (List.mem_of_getElem? (i := 21) rfl))) Via.refl e0 (S_SUBTRACT.ext O.2) (g := (mkF m 57 #[.val (.int p1), .val (.int p2), .val (.int p3), .val (.int p4), .val (.int (1 : Int32)), .val (.double (FP.i2d p2)), .second, .val (.double (FP.i2d p3)), .second, .unset, .unset, .unset, .unset, .unset, .unset, .unset, .unset, .unset, .unset] [])) rfl (hb hby at_57)
    refine Go.st st4 ?_
    show Go _ _ _ _ _ _ _  T4 (mkF m 60 #[.val (.int p1), .val (.int p2), .val (.int p3), .val (.int p4), .val (.int (1 : Int32)), .val (.double (FP.i2d p2)), .second, .val (.double (FP.i2d p3)), .second, .unset, .unset, .unset, .unset, .unset, .unset, .unset, .unset, .unset, .unset] [(.ref w_SUBTRACT)])
    refine Go.st (fun t k => XS.dload X4.here hx rfl (hb hby at_60) rfl k) ?_
    show Go _ _ _ _ _ _ _  T4 (mkF m 62 #[.val (.int p1), .val (.int p2), .val (.int p3), .val (.int p4), .val (.int (1 : Int32)), .val (.double (FP.i2d p2)), .second, .val (.double (FP.i2d p3)), .second, .unset, .unset, .unset, .unset, .unset, .unset, .unset, .unset, .unset, .unset] [(.double (FP.i2d p2)), (.ref w_SUBTRACT)])
    refine Go.st (fun t k => XS.dload X4.here hx rfl (hb hby at_62) rfl k) ?_
    show Go _ _ _ _ _ _ _  T4 (mkF m 64 #[.val (.int p1), .val (.int p2), .val (.int p3), .val (.int p4), .val (.int (1 : Int32)), .val (.double (FP.i2d p2)), .second, .val (.double (FP.i2d p3)), .second, .unset, .unset, .unset, .unset, .unset, .unset, .unset, .unset, .unset, .unset] [(.double (FP.i2d p3)), (.double (FP.i2d p2)), (.ref w_SUBTRACT)])
    obtain ⟨cq5, kq5, q5a, q5b, q5c⟩ := isOf hZ e4 (E_SUBTRACT.ext O.2)
    obtain ⟨_, _, ⟨T5, L5, k5, n5⟩, -, X5, ⟨Lc5, hQ5, l5, y5, z5⟩, st5⟩ := X4.virtualBack hx (y := (⟨"com/example/sancho/sancho/model/ScriptExpression$ArithmeticOperator", "apply", "(DD)D"⟩ : MethodName)) (z := (⟨"com/example/sancho/sancho/model/ScriptExpression$ArithmeticOperator", "apply", "(DD)D"⟩ : MethodName)) hown (mvT hZ (hw _ (List.mem_of_getElem? (i := 3) rfl))) (mvT hZ (hw _ (List.mem_of_getElem? (i := 4) rfl))) (notFace_of_selects (args := #[]) (mvT hZ (hw _ (List.mem_of_getElem? (i := 6) rfl)))) (mvT hZ (hw _ (List.mem_of_getElem? (i := 6) rfl))) (mvT hZ (hw _ (List.mem_of_getElem? (i := 5) rfl))) (by decide) (backOf (W := 0) (rmS l Z a0 hw [] w_SUBTRACT (FP.i2d p2) (FP.i2d p3) 1 h0 n0 O O_SUBTRACT E_SUBTRACT (by decide) (own_n1 _ _)) hZ (hw _ (List.mem_of_getElem? (i := 7) rfl)) (hw _ (List.mem_of_getElem? (i := 1) rfl)) (by decide) (by decide)) q5a q5c (g := (mkF m 64 #[.val (.int p1), .val (.int p2), .val (.int p3), .val (.int p4), .val (.int (1 : Int32)), .val (.double (FP.i2d p2)), .second, .val (.double (FP.i2d p3)), .second, .unset, .unset, .unset, .unset, .unset, .unset, .unset, .unset, .unset, .unset] [(.double (FP.i2d p3)), (.double (FP.i2d p2)), (.ref w_SUBTRACT)])) rfl (by rw [hml]; rfl) (Steps.refl _) (argsL := [(.double (FP.i2d p2)), (.double (FP.i2d p3))]) (rest := []) (lenOf pd__DD_D rfl) rfl (by show 2 * 0 + _ ≤ _; exact Nat.le_of_eq rfl) (hb hby at_64) (fun _ _ => ⟨rfl, e4, (by decide : 0 + 0 ≤ _), (by decide : 0 + 0 ≤ _)⟩)
    dsimp only [Pt.U, Pt.locs, Pt.cells, Pt.slots] at X5 l5 y5 z5 st5 hQ5
    subst l5 y5 z5
    obtain ⟨rfl, N5q, e5q⟩ := hQ5
    have N5 := Fr.app N0 N5q
    refine Go.tr st5 ?_
    show Go _ _ _ _ _ _ _  T5 (mkF m 67 #[.val (.int p1), .val (.int p2), .val (.int p3), .val (.int p4), .val (.int (1 : Int32)), .val (.double (FP.i2d p2)), .second, .val (.double (FP.i2d p3)), .second, .unset, .unset, .unset, .unset, .unset, .unset, .unset, .unset, .unset, .unset] [(.double (applyF 1 (FP.i2d p2) (FP.i2d p3)))])
    refine Go.st (fun t k => XS.dstore X5.here hx rfl (hb hby at_67) rfl (l' := #[.val (.int p1), .val (.int p2), .val (.int p3), .val (.int p4), .val (.int (1 : Int32)), .val (.double (FP.i2d p2)), .second, .val (.double (FP.i2d p3)), .second, .val (.double (applyF 1 (FP.i2d p2) (FP.i2d p3))), .second, .unset, .unset, .unset, .unset, .unset, .unset, .unset, .unset]) rfl k) ?_
    show Go _ _ _ _ _ _ _  T5 (mkF m 69 #[.val (.int p1), .val (.int p2), .val (.int p3), .val (.int p4), .val (.int (1 : Int32)), .val (.double (FP.i2d p2)), .second, .val (.double (FP.i2d p3)), .second, .val (.double (applyF 1 (FP.i2d p2) (FP.i2d p3))), .second, .unset, .unset, .unset, .unset, .unset, .unset, .unset, .unset] [])
    refine Go.st (fun t k => XS.dload X5.here hx rfl (hb hby at_69) rfl k) ?_
    show Go _ _ _ _ _ _ _  T5 (mkF m 71 #[.val (.int p1), .val (.int p2), .val (.int p3), .val (.int p4), .val (.int (1 : Int32)), .val (.double (FP.i2d p2)), .second, .val (.double (FP.i2d p3)), .second, .val (.double (applyF 1 (FP.i2d p2) (FP.i2d p3))), .second, .unset, .unset, .unset, .unset, .unset, .unset, .unset, .unset] [(.double (applyF 1 (FP.i2d p2) (FP.i2d p3)))])
    refine Go.st (fun t k => XS.iloadN X5.here hx rfl (hb hby at_71) rfl  k) ?_
    show Go _ _ _ _ _ _ _  T5 (mkF m 72 #[.val (.int p1), .val (.int p2), .val (.int p3), .val (.int p4), .val (.int (1 : Int32)), .val (.double (FP.i2d p2)), .second, .val (.double (FP.i2d p3)), .second, .val (.double (applyF 1 (FP.i2d p2) (FP.i2d p3))), .second, .unset, .unset, .unset, .unset, .unset, .unset, .unset, .unset] [(.int p2), (.double (applyF 1 (FP.i2d p2) (FP.i2d p3)))])
    refine Go.st (fun t k => XS.i2l X5.here hx rfl (hb hby at_72) rfl k) ?_
    show Go _ _ _ _ _ _ _  T5 (mkF m 73 #[.val (.int p1), .val (.int p2), .val (.int p3), .val (.int p4), .val (.int (1 : Int32)), .val (.double (FP.i2d p2)), .second, .val (.double (FP.i2d p3)), .second, .val (.double (applyF 1 (FP.i2d p2) (FP.i2d p3))), .second, .unset, .unset, .unset, .unset, .unset, .unset, .unset, .unset] [(.long (p2.toInt64)), (.double (applyF 1 (FP.i2d p2) (FP.i2d p3)))])
    refine Go.st (fun t k => XS.iloadN X5.here hx rfl (hb hby at_73) rfl  k) ?_
    show Go _ _ _ _ _ _ _  T5 (mkF m 74 #[.val (.int p1), .val (.int p2), .val (.int p3), .val (.int p4), .val (.int (1 : Int32)), .val (.double (FP.i2d p2)), .second, .val (.double (FP.i2d p3)), .second, .val (.double (applyF 1 (FP.i2d p2) (FP.i2d p3))), .second, .unset, .unset, .unset, .unset, .unset, .unset, .unset, .unset] [(.int p3), (.long (p2.toInt64)), (.double (applyF 1 (FP.i2d p2) (FP.i2d p3)))])
    refine Go.st (fun t k => XS.i2l X5.here hx rfl (hb hby at_74) rfl k) ?_
    show Go _ _ _ _ _ _ _  T5 (mkF m 75 #[.val (.int p1), .val (.int p2), .val (.int p3), .val (.int p4), .val (.int (1 : Int32)), .val (.double (FP.i2d p2)), .second, .val (.double (FP.i2d p3)), .second, .val (.double (applyF 1 (FP.i2d p2) (FP.i2d p3))), .second, .unset, .unset, .unset, .unset, .unset, .unset, .unset, .unset] [(.long (p3.toInt64)), (.long (p2.toInt64)), (.double (applyF 1 (FP.i2d p2) (FP.i2d p3)))])
    refine Go.st (fun t k => XS.lsub X5.here hx rfl (hb hby at_75) rfl k) ?_
    show Go _ _ _ _ _ _ _  T5 (mkF m 76 #[.val (.int p1), .val (.int p2), .val (.int p3), .val (.int p4), .val (.int (1 : Int32)), .val (.double (FP.i2d p2)), .second, .val (.double (FP.i2d p3)), .second, .val (.double (applyF 1 (FP.i2d p2) (FP.i2d p3))), .second, .unset, .unset, .unset, .unset, .unset, .unset, .unset, .unset] [(.long ((p2.toInt64) - (p3.toInt64))), (.double (applyF 1 (FP.i2d p2) (FP.i2d p3)))])
    refine Go.st (fun t k => XS.l2dS X5.here hx rfl (hb hby at_76) rfl rfl k) ?_
    show Go _ _ _ _ _ _ _  T5 (mkF m 77 #[.val (.int p1), .val (.int p2), .val (.int p3), .val (.int p4), .val (.int (1 : Int32)), .val (.double (FP.i2d p2)), .second, .val (.double (FP.i2d p3)), .second, .val (.double (applyF 1 (FP.i2d p2) (FP.i2d p3))), .second, .unset, .unset, .unset, .unset, .unset, .unset, .unset, .unset] [(.double (FP.l2d ((p2.toInt64) - (p3.toInt64)))), (.double (applyF 1 (FP.i2d p2) (FP.i2d p3)))])
    refine Go.st (fun t k => XS.dcmpS X5.here hx rfl (hb hby at_77) rfl rfl k) ?_
    show Go _ _ _ _ _ _ _  T5 (mkF m 78 #[.val (.int p1), .val (.int p2), .val (.int p3), .val (.int p4), .val (.int (1 : Int32)), .val (.double (FP.i2d p2)), .second, .val (.double (FP.i2d p3)), .second, .val (.double (applyF 1 (FP.i2d p2) (FP.i2d p3))), .second, .unset, .unset, .unset, .unset, .unset, .unset, .unset, .unset] [(.int (cmpValue (FP.dcmp (applyF 1 (FP.i2d p2) (FP.i2d p3)) (FP.l2d ((p2.toInt64) - (p3.toInt64)))) .l))])
    refine Go.st (fun t k => XS.ifNo X5.here hx rfl (hb hby at_78) rfl ((if0 _ _).trans (teq (own_c1 _ _ : (cmpValue (FP.dcmp (applyF 1 (FP.i2d p2) (FP.i2d p3)) (FP.l2d ((p2.toInt64) - (p3.toInt64)))) .l) = (0 : Int32))).2) k) ?_
    show Go _ _ _ _ _ _ _  T5 (mkF m 81 #[.val (.int p1), .val (.int p2), .val (.int p3), .val (.int p4), .val (.int (1 : Int32)), .val (.double (FP.i2d p2)), .second, .val (.double (FP.i2d p3)), .second, .val (.double (applyF 1 (FP.i2d p2) (FP.i2d p3))), .second, .unset, .unset, .unset, .unset, .unset, .unset, .unset, .unset] [])
    refine Go.st (fun t k => XS.iconst X5.here hx rfl (hb hby at_81) k) ?_
    show Go _ _ _ _ _ _ _  T5 (mkF m 82 #[.val (.int p1), .val (.int p2), .val (.int p3), .val (.int p4), .val (.int (1 : Int32)), .val (.double (FP.i2d p2)), .second, .val (.double (FP.i2d p3)), .second, .val (.double (applyF 1 (FP.i2d p2) (FP.i2d p3))), .second, .unset, .unset, .unset, .unset, .unset, .unset, .unset, .unset] [(.int (1 : Int32))])
    refine Go.st (fun t k => XS.goto X5.here hx rfl (pc0 := 82) (pc' := 86) rfl (hb hby at_82) (by decide) (by decide) k) ?_
    show Go _ _ _ _ _ _ _  T5 (mkF m 86 #[.val (.int p1), .val (.int p2), .val (.int p3), .val (.int p4), .val (.int (1 : Int32)), .val (.double (FP.i2d p2)), .second, .val (.double (FP.i2d p3)), .second, .val (.double (applyF 1 (FP.i2d p2) (FP.i2d p3))), .second, .unset, .unset, .unset, .unset, .unset, .unset, .unset, .unset] [(.int (1 : Int32))])
    refine Go.retN X5 hlk hx (t := .boolean) (z' := (1 : Int32)) Bd.returns (by simp) (hb hby at_86) (by decide) (by decide) rfl ?_
    show Q_rm0 Z _ _ _ _ _ _ _ _ _ h0 n0 _ T5.heap _
    rw [e5q]
    exact ⟨rfl, N5⟩
  · rw [sp1]
    show Go _ _ _ _ _ _ _  s₁ (mkF m 16 #[.val (.int p1), .val (.int p2), .val (.int p3), .val (.int p4), .val (.int (2 : Int32)), .val (.double (FP.i2d p2)), .second, .val (.double (FP.i2d p3)), .second, .unset, .unset, .unset, .unset, .unset, .unset, .unset, .unset, .unset, .unset] [])
    refine Go.st (fun t k => XS.iload X0.here hx rfl (hb hby at_16) rfl  k) ?_
    show Go _ _ _ _ _ _ _  s₁ (mkF m 18 #[.val (.int p1), .val (.int p2), .val (.int p3), .val (.int p4), .val (.int (2 : Int32)), .val (.double (FP.i2d p2)), .second, .val (.double (FP.i2d p3)), .second, .unset, .unset, .unset, .unset, .unset, .unset, .unset, .unset, .unset, .unset] [(.int (2 : Int32))])
    refine Go.st (fun t k => XS.ifYes X0.here hx rfl (pc0 := 18) (pc' := 51) rfl (hb hby at_18) rfl ((if0 _ _).trans (feq (by decide : ¬ ((2 : Int32) = (0 : Int32)))).2) (by decide) (by decide) k) ?_
    show Go _ _ _ _ _ _ _  s₁ (mkF m 51 #[.val (.int p1), .val (.int p2), .val (.int p3), .val (.int p4), .val (.int (2 : Int32)), .val (.double (FP.i2d p2)), .second, .val (.double (FP.i2d p3)), .second, .unset, .unset, .unset, .unset, .unset, .unset, .unset, .unset, .unset, .unset] [])
    refine Go.st (fun t k => XS.iload X0.here hx rfl (hb hby at_51) rfl  k) ?_
    show Go _ _ _ _ _ _ _  s₁ (mkF m 53 #[.val (.int p1), .val (.int p2), .val (.int p3), .val (.int p4), .val (.int (2 : Int32)), .val (.double (FP.i2d p2)), .second, .val (.double (FP.i2d p3)), .second, .unset, .unset, .unset, .unset, .unset, .unset, .unset, .unset, .unset, .unset] [(.int (2 : Int32))])
    refine Go.st (fun t k => XS.iconst X0.here hx rfl (hb hby at_53) k) ?_
    show Go _ _ _ _ _ _ _  s₁ (mkF m 54 #[.val (.int p1), .val (.int p2), .val (.int p3), .val (.int p4), .val (.int (2 : Int32)), .val (.double (FP.i2d p2)), .second, .val (.double (FP.i2d p3)), .second, .unset, .unset, .unset, .unset, .unset, .unset, .unset, .unset, .unset, .unset] [(.int (1 : Int32)), (.int (2 : Int32))])
    refine Go.st (fun t k => XS.icmpYes X0.here hx rfl (pc0 := 54) (pc' := 87) rfl (hb hby at_54) rfl (feq (by decide : ¬ ((2 : Int32) = (1 : Int32)))).2 (by decide) (by decide) k) ?_
    show Go _ _ _ _ _ _ _  s₁ (mkF m 87 #[.val (.int p1), .val (.int p2), .val (.int p3), .val (.int p4), .val (.int (2 : Int32)), .val (.double (FP.i2d p2)), .second, .val (.double (FP.i2d p3)), .second, .unset, .unset, .unset, .unset, .unset, .unset, .unset, .unset, .unset, .unset] [])
    refine Go.st (fun t k => XS.iload X0.here hx rfl (hb hby at_87) rfl  k) ?_
    show Go _ _ _ _ _ _ _  s₁ (mkF m 89 #[.val (.int p1), .val (.int p2), .val (.int p3), .val (.int p4), .val (.int (2 : Int32)), .val (.double (FP.i2d p2)), .second, .val (.double (FP.i2d p3)), .second, .unset, .unset, .unset, .unset, .unset, .unset, .unset, .unset, .unset, .unset] [(.int (2 : Int32))])
    refine Go.st (fun t k => XS.iconst X0.here hx rfl (hb hby at_89) k) ?_
    show Go _ _ _ _ _ _ _  s₁ (mkF m 90 #[.val (.int p1), .val (.int p2), .val (.int p3), .val (.int p4), .val (.int (2 : Int32)), .val (.double (FP.i2d p2)), .second, .val (.double (FP.i2d p3)), .second, .unset, .unset, .unset, .unset, .unset, .unset, .unset, .unset, .unset, .unset] [(.int (2 : Int32)), (.int (2 : Int32))])
    refine Go.st (fun t k => XS.icmpNo X0.here hx rfl (hb hby at_90) rfl (teq (rfl : (2 : Int32) = (2 : Int32))).2 k) ?_
    show Go _ _ _ _ _ _ _  s₁ (mkF m 93 #[.val (.int p1), .val (.int p2), .val (.int p3), .val (.int p4), .val (.int (2 : Int32)), .val (.double (FP.i2d p2)), .second, .val (.double (FP.i2d p3)), .second, .unset, .unset, .unset, .unset, .unset, .unset, .unset, .unset, .unset, .unset] [])
    obtain ⟨T6, X6, e6, st6⟩ := getS2 X0 hx hZ hown (host := "") (Or.inl (hw _ (List.mem_of_getElem? (i := 19) rfl))) Via.refl e0 (S_MULTIPLY.ext O.2) (g := (mkF m 93 #[.val (.int p1), .val (.int p2), .val (.int p3), .val (.int p4), .val (.int (2 : Int32)), .val (.double (FP.i2d p2)), .second, .val (.double (FP.i2d p3)), .second, .unset, .unset, .unset, .unset, .unset, .unset, .unset, .unset, .unset, .unset] [])) rfl (hb hby at_93)
    refine Go.st st6 ?_
    show Go _ _ _ _ _ _ _  T6 (mkF m 96 #[.val (.int p1), .val (.int p2), .val (.int p3), .val (.int p4), .val (.int (2 : Int32)), .val (.double (FP.i2d p2)), .second, .val (.double (FP.i2d p3)), .second, .unset, .unset, .unset, .unset, .unset, .unset, .unset, .unset, .unset, .unset] [(.ref w_MULTIPLY)])
    refine Go.st (fun t k => XS.dload X6.here hx rfl (hb hby at_96) rfl k) ?_
    show Go _ _ _ _ _ _ _  T6 (mkF m 98 #[.val (.int p1), .val (.int p2), .val (.int p3), .val (.int p4), .val (.int (2 : Int32)), .val (.double (FP.i2d p2)), .second, .val (.double (FP.i2d p3)), .second, .unset, .unset, .unset, .unset, .unset, .unset, .unset, .unset, .unset, .unset] [(.double (FP.i2d p2)), (.ref w_MULTIPLY)])
    refine Go.st (fun t k => XS.dload X6.here hx rfl (hb hby at_98) rfl k) ?_
    show Go _ _ _ _ _ _ _  T6 (mkF m 100 #[.val (.int p1), .val (.int p2), .val (.int p3), .val (.int p4), .val (.int (2 : Int32)), .val (.double (FP.i2d p2)), .second, .val (.double (FP.i2d p3)), .second, .unset, .unset, .unset, .unset, .unset, .unset, .unset, .unset, .unset, .unset] [(.double (FP.i2d p3)), (.double (FP.i2d p2)), (.ref w_MULTIPLY)])
    obtain ⟨cq7, kq7, q7a, q7b, q7c⟩ := isOf hZ e6 (E_MULTIPLY.ext O.2)
    obtain ⟨_, _, ⟨T7, L7, k7, n7⟩, -, X7, ⟨Lc7, hQ7, l7, y7, z7⟩, st7⟩ := X6.virtualBack hx (y := (⟨"com/example/sancho/sancho/model/ScriptExpression$ArithmeticOperator", "apply", "(DD)D"⟩ : MethodName)) (z := (⟨"com/example/sancho/sancho/model/ScriptExpression$ArithmeticOperator", "apply", "(DD)D"⟩ : MethodName)) hown (mvT hZ (hw _ (List.mem_of_getElem? (i := 3) rfl))) (mvT hZ (hw _ (List.mem_of_getElem? (i := 4) rfl))) (notFace_of_selects (args := #[]) (mvT hZ (hw _ (List.mem_of_getElem? (i := 6) rfl)))) (mvT hZ (hw _ (List.mem_of_getElem? (i := 6) rfl))) (mvT hZ (hw _ (List.mem_of_getElem? (i := 5) rfl))) (by decide) (backOf (W := 0) (rmS l Z a0 hw [] w_MULTIPLY (FP.i2d p2) (FP.i2d p3) 2 h0 n0 O O_MULTIPLY E_MULTIPLY (by decide) (own_n2 _ _)) hZ (hw _ (List.mem_of_getElem? (i := 7) rfl)) (hw _ (List.mem_of_getElem? (i := 1) rfl)) (by decide) (by decide)) q7a q7c (g := (mkF m 100 #[.val (.int p1), .val (.int p2), .val (.int p3), .val (.int p4), .val (.int (2 : Int32)), .val (.double (FP.i2d p2)), .second, .val (.double (FP.i2d p3)), .second, .unset, .unset, .unset, .unset, .unset, .unset, .unset, .unset, .unset, .unset] [(.double (FP.i2d p3)), (.double (FP.i2d p2)), (.ref w_MULTIPLY)])) rfl (by rw [hml]; rfl) (Steps.refl _) (argsL := [(.double (FP.i2d p2)), (.double (FP.i2d p3))]) (rest := []) (lenOf pd__DD_D rfl) rfl (by show 2 * 0 + _ ≤ _; exact Nat.le_of_eq rfl) (hb hby at_100) (fun _ _ => ⟨rfl, e6, (by decide : 0 + 0 ≤ _), (by decide : 0 + 0 ≤ _)⟩)
    dsimp only [Pt.U, Pt.locs, Pt.cells, Pt.slots] at X7 l7 y7 z7 st7 hQ7
    subst l7 y7 z7
    obtain ⟨rfl, N7q, e7q⟩ := hQ7
    have N7 := Fr.app N0 N7q
    refine Go.tr st7 ?_
    show Go _ _ _ _ _ _ _  T7 (mkF m 103 #[.val (.int p1), .val (.int p2), .val (.int p3), .val (.int p4), .val (.int (2 : Int32)), .val (.double (FP.i2d p2)), .second, .val (.double (FP.i2d p3)), .second, .unset, .unset, .unset, .unset, .unset, .unset, .unset, .unset, .unset, .unset] [(.double (applyF 2 (FP.i2d p2) (FP.i2d p3)))])
    refine Go.st (fun t k => XS.dstore X7.here hx rfl (hb hby at_103) rfl (l' := #[.val (.int p1), .val (.int p2), .val (.int p3), .val (.int p4), .val (.int (2 : Int32)), .val (.double (FP.i2d p2)), .second, .val (.double (FP.i2d p3)), .second, .val (.double (applyF 2 (FP.i2d p2) (FP.i2d p3))), .second, .unset, .unset, .unset, .unset, .unset, .unset, .unset, .unset]) rfl k) ?_
    show Go _ _ _ _ _ _ _  T7 (mkF m 105 #[.val (.int p1), .val (.int p2), .val (.int p3), .val (.int p4), .val (.int (2 : Int32)), .val (.double (FP.i2d p2)), .second, .val (.double (FP.i2d p3)), .second, .val (.double (applyF 2 (FP.i2d p2) (FP.i2d p3))), .second, .unset, .unset, .unset, .unset, .unset, .unset, .unset, .unset] [])
    refine Go.st (fun t k => XS.dload X7.here hx rfl (hb hby at_105) rfl k) ?_
    show Go _ _ _ _ _ _ _  T7 (mkF m 107 #[.val (.int p1), .val (.int p2), .val (.int p3), .val (.int p4), .val (.int (2 : Int32)), .val (.double (FP.i2d p2)), .second, .val (.double (FP.i2d p3)), .second, .val (.double (applyF 2 (FP.i2d p2) (FP.i2d p3))), .second, .unset, .unset, .unset, .unset, .unset, .unset, .unset, .unset] [(.double (applyF 2 (FP.i2d p2) (FP.i2d p3)))])
    refine Go.st (fun t k => XS.iloadN X7.here hx rfl (hb hby at_107) rfl  k) ?_
    show Go _ _ _ _ _ _ _  T7 (mkF m 108 #[.val (.int p1), .val (.int p2), .val (.int p3), .val (.int p4), .val (.int (2 : Int32)), .val (.double (FP.i2d p2)), .second, .val (.double (FP.i2d p3)), .second, .val (.double (applyF 2 (FP.i2d p2) (FP.i2d p3))), .second, .unset, .unset, .unset, .unset, .unset, .unset, .unset, .unset] [(.int p2), (.double (applyF 2 (FP.i2d p2) (FP.i2d p3)))])
    refine Go.st (fun t k => XS.i2l X7.here hx rfl (hb hby at_108) rfl k) ?_
    show Go _ _ _ _ _ _ _  T7 (mkF m 109 #[.val (.int p1), .val (.int p2), .val (.int p3), .val (.int p4), .val (.int (2 : Int32)), .val (.double (FP.i2d p2)), .second, .val (.double (FP.i2d p3)), .second, .val (.double (applyF 2 (FP.i2d p2) (FP.i2d p3))), .second, .unset, .unset, .unset, .unset, .unset, .unset, .unset, .unset] [(.long (p2.toInt64)), (.double (applyF 2 (FP.i2d p2) (FP.i2d p3)))])
    refine Go.st (fun t k => XS.iloadN X7.here hx rfl (hb hby at_109) rfl  k) ?_
    show Go _ _ _ _ _ _ _  T7 (mkF m 110 #[.val (.int p1), .val (.int p2), .val (.int p3), .val (.int p4), .val (.int (2 : Int32)), .val (.double (FP.i2d p2)), .second, .val (.double (FP.i2d p3)), .second, .val (.double (applyF 2 (FP.i2d p2) (FP.i2d p3))), .second, .unset, .unset, .unset, .unset, .unset, .unset, .unset, .unset] [(.int p3), (.long (p2.toInt64)), (.double (applyF 2 (FP.i2d p2) (FP.i2d p3)))])
    refine Go.st (fun t k => XS.i2l X7.here hx rfl (hb hby at_110) rfl k) ?_
    show Go _ _ _ _ _ _ _  T7 (mkF m 111 #[.val (.int p1), .val (.int p2), .val (.int p3), .val (.int p4), .val (.int (2 : Int32)), .val (.double (FP.i2d p2)), .second, .val (.double (FP.i2d p3)), .second, .val (.double (applyF 2 (FP.i2d p2) (FP.i2d p3))), .second, .unset, .unset, .unset, .unset, .unset, .unset, .unset, .unset] [(.long (p3.toInt64)), (.long (p2.toInt64)), (.double (applyF 2 (FP.i2d p2) (FP.i2d p3)))])
    refine Go.st (fun t k => XS.lmul X7.here hx rfl (hb hby at_111) rfl k) ?_
    show Go _ _ _ _ _ _ _  T7 (mkF m 112 #[.val (.int p1), .val (.int p2), .val (.int p3), .val (.int p4), .val (.int (2 : Int32)), .val (.double (FP.i2d p2)), .second, .val (.double (FP.i2d p3)), .second, .val (.double (applyF 2 (FP.i2d p2) (FP.i2d p3))), .second, .unset, .unset, .unset, .unset, .unset, .unset, .unset, .unset] [(.long ((p2.toInt64) * (p3.toInt64))), (.double (applyF 2 (FP.i2d p2) (FP.i2d p3)))])
    refine Go.st (fun t k => XS.l2dS X7.here hx rfl (hb hby at_112) rfl rfl k) ?_
    show Go _ _ _ _ _ _ _  T7 (mkF m 113 #[.val (.int p1), .val (.int p2), .val (.int p3), .val (.int p4), .val (.int (2 : Int32)), .val (.double (FP.i2d p2)), .second, .val (.double (FP.i2d p3)), .second, .val (.double (applyF 2 (FP.i2d p2) (FP.i2d p3))), .second, .unset, .unset, .unset, .unset, .unset, .unset, .unset, .unset] [(.double (FP.l2d ((p2.toInt64) * (p3.toInt64)))), (.double (applyF 2 (FP.i2d p2) (FP.i2d p3)))])
    refine Go.st (fun t k => XS.dcmpS X7.here hx rfl (hb hby at_113) rfl rfl k) ?_
    show Go _ _ _ _ _ _ _  T7 (mkF m 114 #[.val (.int p1), .val (.int p2), .val (.int p3), .val (.int p4), .val (.int (2 : Int32)), .val (.double (FP.i2d p2)), .second, .val (.double (FP.i2d p3)), .second, .val (.double (applyF 2 (FP.i2d p2) (FP.i2d p3))), .second, .unset, .unset, .unset, .unset, .unset, .unset, .unset, .unset] [(.int (cmpValue (FP.dcmp (applyF 2 (FP.i2d p2) (FP.i2d p3)) (FP.l2d ((p2.toInt64) * (p3.toInt64)))) .l))])
    refine Go.st (fun t k => XS.ifNo X7.here hx rfl (hb hby at_114) rfl ((if0 _ _).trans (teq (own_c2 _ _ : (cmpValue (FP.dcmp (applyF 2 (FP.i2d p2) (FP.i2d p3)) (FP.l2d ((p2.toInt64) * (p3.toInt64)))) .l) = (0 : Int32))).2) k) ?_
    show Go _ _ _ _ _ _ _  T7 (mkF m 117 #[.val (.int p1), .val (.int p2), .val (.int p3), .val (.int p4), .val (.int (2 : Int32)), .val (.double (FP.i2d p2)), .second, .val (.double (FP.i2d p3)), .second, .val (.double (applyF 2 (FP.i2d p2) (FP.i2d p3))), .second, .unset, .unset, .unset, .unset, .unset, .unset, .unset, .unset] [])
    refine Go.st (fun t k => XS.iconst X7.here hx rfl (hb hby at_117) k) ?_
    show Go _ _ _ _ _ _ _  T7 (mkF m 118 #[.val (.int p1), .val (.int p2), .val (.int p3), .val (.int p4), .val (.int (2 : Int32)), .val (.double (FP.i2d p2)), .second, .val (.double (FP.i2d p3)), .second, .val (.double (applyF 2 (FP.i2d p2) (FP.i2d p3))), .second, .unset, .unset, .unset, .unset, .unset, .unset, .unset, .unset] [(.int (1 : Int32))])
    refine Go.st (fun t k => XS.goto X7.here hx rfl (pc0 := 118) (pc' := 122) rfl (hb hby at_118) (by decide) (by decide) k) ?_
    show Go _ _ _ _ _ _ _  T7 (mkF m 122 #[.val (.int p1), .val (.int p2), .val (.int p3), .val (.int p4), .val (.int (2 : Int32)), .val (.double (FP.i2d p2)), .second, .val (.double (FP.i2d p3)), .second, .val (.double (applyF 2 (FP.i2d p2) (FP.i2d p3))), .second, .unset, .unset, .unset, .unset, .unset, .unset, .unset, .unset] [(.int (1 : Int32))])
    refine Go.retN X7 hlk hx (t := .boolean) (z' := (1 : Int32)) Bd.returns (by simp) (hb hby at_122) (by decide) (by decide) rfl ?_
    show Q_rm0 Z _ _ _ _ _ _ _ _ _ h0 n0 _ T7.heap _
    rw [e7q]
    exact ⟨rfl, N7⟩
  · rw [sp1]
    show Go _ _ _ _ _ _ _  s₁ (mkF m 16 #[.val (.int p1), .val (.int p2), .val (.int p3), .val (.int p4), .val (.int (3 : Int32)), .val (.double (FP.i2d p2)), .second, .val (.double (FP.i2d p3)), .second, .unset, .unset, .unset, .unset, .unset, .unset, .unset, .unset, .unset, .unset] [])
    refine Go.st (fun t k => XS.iload X0.here hx rfl (hb hby at_16) rfl  k) ?_
    show Go _ _ _ _ _ _ _  s₁ (mkF m 18 #[.val (.int p1), .val (.int p2), .val (.int p3), .val (.int p4), .val (.int (3 : Int32)), .val (.double (FP.i2d p2)), .second, .val (.double (FP.i2d p3)), .second, .unset, .unset, .unset, .unset, .unset, .unset, .unset, .unset, .unset, .unset] [(.int (3 : Int32))])
    refine Go.st (fun t k => XS.ifYes X0.here hx rfl (pc0 := 18) (pc' := 51) rfl (hb hby at_18) rfl ((if0 _ _).trans (feq (by decide : ¬ ((3 : Int32) = (0 : Int32)))).2) (by decide) (by decide) k) ?_
    show Go _ _ _ _ _ _ _  s₁ (mkF m 51 #[.val (.int p1), .val (.int p2), .val (.int p3), .val (.int p4), .val (.int (3 : Int32)), .val (.double (FP.i2d p2)), .second, .val (.double (FP.i2d p3)), .second, .unset, .unset, .unset, .unset, .unset, .unset, .unset, .unset, .unset, .unset] [])
    refine Go.st (fun t k => XS.iload X0.here hx rfl (hb hby at_51) rfl  k) ?_
    show Go _ _ _ _ _ _ _  s₁ (mkF m 53 #[.val (.int p1), .val (.int p2), .val (.int p3), .val (.int p4), .val (.int (3 : Int32)), .val (.double (FP.i2d p2)), .second, .val (.double (FP.i2d p3)), .second, .unset, .unset, .unset, .unset, .unset, .unset, .unset, .unset, .unset, .unset] [(.int (3 : Int32))])
    refine Go.st (fun t k => XS.iconst X0.here hx rfl (hb hby at_53) k) ?_
    show Go _ _ _ _ _ _ _  s₁ (mkF m 54 #[.val (.int p1), .val (.int p2), .val (.int p3), .val (.int p4), .val (.int (3 : Int32)), .val (.double (FP.i2d p2)), .second, .val (.double (FP.i2d p3)), .second, .unset, .unset, .unset, .unset, .unset, .unset, .unset, .unset, .unset, .unset] [(.int (1 : Int32)), (.int (3 : Int32))])
    refine Go.st (fun t k => XS.icmpYes X0.here hx rfl (pc0 := 54) (pc' := 87) rfl (hb hby at_54) rfl (feq (by decide : ¬ ((3 : Int32) = (1 : Int32)))).2 (by decide) (by decide) k) ?_
    show Go _ _ _ _ _ _ _  s₁ (mkF m 87 #[.val (.int p1), .val (.int p2), .val (.int p3), .val (.int p4), .val (.int (3 : Int32)), .val (.double (FP.i2d p2)), .second, .val (.double (FP.i2d p3)), .second, .unset, .unset, .unset, .unset, .unset, .unset, .unset, .unset, .unset, .unset] [])
    refine Go.st (fun t k => XS.iload X0.here hx rfl (hb hby at_87) rfl  k) ?_
    show Go _ _ _ _ _ _ _  s₁ (mkF m 89 #[.val (.int p1), .val (.int p2), .val (.int p3), .val (.int p4), .val (.int (3 : Int32)), .val (.double (FP.i2d p2)), .second, .val (.double (FP.i2d p3)), .second, .unset, .unset, .unset, .unset, .unset, .unset, .unset, .unset, .unset, .unset] [(.int (3 : Int32))])
    refine Go.st (fun t k => XS.iconst X0.here hx rfl (hb hby at_89) k) ?_
    show Go _ _ _ _ _ _ _  s₁ (mkF m 90 #[.val (.int p1), .val (.int p2), .val (.int p3), .val (.int p4), .val (.int (3 : Int32)), .val (.double (FP.i2d p2)), .second, .val (.double (FP.i2d p3)), .second, .unset, .unset, .unset, .unset, .unset, .unset, .unset, .unset, .unset, .unset] [(.int (2 : Int32)), (.int (3 : Int32))])
    refine Go.st (fun t k => XS.icmpYes X0.here hx rfl (pc0 := 90) (pc' := 123) rfl (hb hby at_90) rfl (feq (by decide : ¬ ((3 : Int32) = (2 : Int32)))).2 (by decide) (by decide) k) ?_
    show Go _ _ _ _ _ _ _  s₁ (mkF m 123 #[.val (.int p1), .val (.int p2), .val (.int p3), .val (.int p4), .val (.int (3 : Int32)), .val (.double (FP.i2d p2)), .second, .val (.double (FP.i2d p3)), .second, .unset, .unset, .unset, .unset, .unset, .unset, .unset, .unset, .unset, .unset] [])
    refine Go.st (fun t k => XS.iload X0.here hx rfl (hb hby at_123) rfl  k) ?_
    show Go _ _ _ _ _ _ _  s₁ (mkF m 125 #[.val (.int p1), .val (.int p2), .val (.int p3), .val (.int p4), .val (.int (3 : Int32)), .val (.double (FP.i2d p2)), .second, .val (.double (FP.i2d p3)), .second, .unset, .unset, .unset, .unset, .unset, .unset, .unset, .unset, .unset, .unset] [(.int (3 : Int32))])
    refine Go.st (fun t k => XS.iconst X0.here hx rfl (hb hby at_125) k) ?_
    show Go _ _ _ _ _ _ _  s₁ (mkF m 126 #[.val (.int p1), .val (.int p2), .val (.int p3), .val (.int p4), .val (.int (3 : Int32)), .val (.double (FP.i2d p2)), .second, .val (.double (FP.i2d p3)), .second, .unset, .unset, .unset, .unset, .unset, .unset, .unset, .unset, .unset, .unset] [(.int (3 : Int32)), (.int (3 : Int32))])
    refine Go.st (fun t k => XS.icmpNo X0.here hx rfl (hb hby at_126) rfl (teq (rfl : (3 : Int32) = (3 : Int32))).2 k) ?_
    show Go _ _ _ _ _ _ _  s₁ (mkF m 129 #[.val (.int p1), .val (.int p2), .val (.int p3), .val (.int p4), .val (.int (3 : Int32)), .val (.double (FP.i2d p2)), .second, .val (.double (FP.i2d p3)), .second, .unset, .unset, .unset, .unset, .unset, .unset, .unset, .unset, .unset, .unset] [])
    refine Go.st (fun t k => XS.iloadN X0.here hx rfl (hb hby at_129) rfl  k) ?_
    show Go _ _ _ _ _ _ _  s₁ (mkF m 130 #[.val (.int p1), .val (.int p2), .val (.int p3), .val (.int p4), .val (.int (3 : Int32)), .val (.double (FP.i2d p2)), .second, .val (.double (FP.i2d p3)), .second, .unset, .unset, .unset, .unset, .unset, .unset, .unset, .unset, .unset, .unset] [(.int p3)])
    refine Go.st (T' := s₁) (g' := (mkF m 138 #[.val (.int p1), .val (.int p2), .val (.int p3), .val (.int p4), .val (.int (3 : Int32)), .val (.double (FP.i2d p2)), .second, .val (.double (FP.i2d p3)), .second, .unset, .unset, .unset, .unset, .unset, .unset, .unset, .unset, .unset, .unset] [(.int (if p3 = (0 : Int32) then (1 : Int32) else p3))])) (fun t k => ?_) ?_
    · show Steps p.tables e below (s₁.setTop (mkF m 130 #[.val (.int p1), .val (.int p2), .val (.int p3), .val (.int p4), .val (.int (3 : Int32)), .val (.double (FP.i2d p2)), .second, .val (.double (FP.i2d p3)), .second, .unset, .unset, .unset, .unset, .unset, .unset, .unset, .unset, .unset, .unset] [(.int p3)])) _
      by_cases c130_8 : p3 = (0 : Int32)
      · refine XS.ifNo X0.here hx rfl (hb hby at_130) rfl ((if0 _ _).trans (teq c130_8).2) ?_
        show Steps p.tables e below (s₁.setTop (mkF m 133 #[.val (.int p1), .val (.int p2), .val (.int p3), .val (.int p4), .val (.int (3 : Int32)), .val (.double (FP.i2d p2)), .second, .val (.double (FP.i2d p3)), .second, .unset, .unset, .unset, .unset, .unset, .unset, .unset, .unset, .unset, .unset] [])) _
        refine XS.iconst X0.here hx rfl (hb hby at_133) ?_
        show Steps p.tables e below (s₁.setTop (mkF m 134 #[.val (.int p1), .val (.int p2), .val (.int p3), .val (.int p4), .val (.int (3 : Int32)), .val (.double (FP.i2d p2)), .second, .val (.double (FP.i2d p3)), .second, .unset, .unset, .unset, .unset, .unset, .unset, .unset, .unset, .unset, .unset] [(.int (1 : Int32))])) _
        refine XS.goto X0.here hx rfl (pc0 := 134) (pc' := 138) rfl (hb hby at_134) (by decide) (by decide) ?_
        (try simp only [if_pos c130_8] at k); exact k
      · refine XS.ifYes X0.here hx rfl (pc0 := 130) (pc' := 137) rfl (hb hby at_130) rfl ((if0 _ _).trans (feq c130_8).2) (by decide) (by decide) ?_
        show Steps p.tables e below (s₁.setTop (mkF m 137 #[.val (.int p1), .val (.int p2), .val (.int p3), .val (.int p4), .val (.int (3 : Int32)), .val (.double (FP.i2d p2)), .second, .val (.double (FP.i2d p3)), .second, .unset, .unset, .unset, .unset, .unset, .unset, .unset, .unset, .unset, .unset] [])) _
        refine XS.iloadN X0.here hx rfl (hb hby at_137) rfl  ?_
        (try simp only [if_neg c130_8] at k); exact k
    show Go _ _ _ _ _ _ _  s₁ (mkF m 138 #[.val (.int p1), .val (.int p2), .val (.int p3), .val (.int p4), .val (.int (3 : Int32)), .val (.double (FP.i2d p2)), .second, .val (.double (FP.i2d p3)), .second, .unset, .unset, .unset, .unset, .unset, .unset, .unset, .unset, .unset, .unset] [(.int (if p3 = (0 : Int32) then (1 : Int32) else p3))])
    refine Go.st (fun t k => XS.istore X0.here hx rfl (hb hby at_138) rfl (l' := #[.val (.int p1), .val (.int p2), .val (.int p3), .val (.int p4), .val (.int (3 : Int32)), .val (.double (FP.i2d p2)), .second, .val (.double (FP.i2d p3)), .second, .val (.int (if p3 = (0 : Int32) then (1 : Int32) else p3)), .unset, .unset, .unset, .unset, .unset, .unset, .unset, .unset, .unset]) rfl k) ?_
    show Go _ _ _ _ _ _ _  s₁ (mkF m 140 #[.val (.int p1), .val (.int p2), .val (.int p3), .val (.int p4), .val (.int (3 : Int32)), .val (.double (FP.i2d p2)), .second, .val (.double (FP.i2d p3)), .second, .val (.int (if p3 = (0 : Int32) then (1 : Int32) else p3)), .unset, .unset, .unset, .unset, .unset, .unset, .unset, .unset, .unset] [])
    obtain ⟨bb, eq_bb⟩ : ∃ z, z = (if p3 = (0 : Int32) then (1 : Int32) else p3) := ⟨_, rfl⟩
    rw [← eq_bb]
    have hbb : bb ≠ 0 := by rw [eq_bb]; exact own_nz _
    show Go _ _ _ _ _ _ _  s₁ (mkF m 140 #[.val (.int p1), .val (.int p2), .val (.int p3), .val (.int p4), .val (.int (3 : Int32)), .val (.double (FP.i2d p2)), .second, .val (.double (FP.i2d p3)), .second, .val (.int bb), .unset, .unset, .unset, .unset, .unset, .unset, .unset, .unset, .unset] [])
    refine Go.st (fun t k => XS.iloadN X0.here hx rfl (hb hby at_140) rfl  k) ?_
    show Go _ _ _ _ _ _ _  s₁ (mkF m 141 #[.val (.int p1), .val (.int p2), .val (.int p3), .val (.int p4), .val (.int (3 : Int32)), .val (.double (FP.i2d p2)), .second, .val (.double (FP.i2d p3)), .second, .val (.int bb), .unset, .unset, .unset, .unset, .unset, .unset, .unset, .unset, .unset] [(.int p4)])
    refine Go.st (fun t k => XS.bipush X0.here hx rfl (hb hby at_141) k) ?_
    show Go _ _ _ _ _ _ _  s₁ (mkF m 143 #[.val (.int p1), .val (.int p2), .val (.int p3), .val (.int p4), .val (.int (3 : Int32)), .val (.double (FP.i2d p2)), .second, .val (.double (FP.i2d p3)), .second, .val (.int bb), .unset, .unset, .unset, .unset, .unset, .unset, .unset, .unset, .unset] [(.int (11 : Int32)), (.int p4)])
    refine Go.st (fun t k => XS.ishr X0.here hx rfl (hb hby at_143) rfl k) ?_
    show Go _ _ _ _ _ _ _  s₁ (mkF m 144 #[.val (.int p1), .val (.int p2), .val (.int p3), .val (.int p4), .val (.int (3 : Int32)), .val (.double (FP.i2d p2)), .second, .val (.double (FP.i2d p3)), .second, .val (.int bb), .unset, .unset, .unset, .unset, .unset, .unset, .unset, .unset, .unset] [(.int (p4 >>> ((11 : Int32) &&& 31)))])
    refine Go.st (fun t k => XS.istore X0.here hx rfl (hb hby at_144) rfl (l' := #[.val (.int p1), .val (.int p2), .val (.int p3), .val (.int p4), .val (.int (3 : Int32)), .val (.double (FP.i2d p2)), .second, .val (.double (FP.i2d p3)), .second, .val (.int bb), .val (.int (p4 >>> ((11 : Int32) &&& 31))), .unset, .unset, .unset, .unset, .unset, .unset, .unset, .unset]) rfl k) ?_
    show Go _ _ _ _ _ _ _  s₁ (mkF m 146 #[.val (.int p1), .val (.int p2), .val (.int p3), .val (.int p4), .val (.int (3 : Int32)), .val (.double (FP.i2d p2)), .second, .val (.double (FP.i2d p3)), .second, .val (.int bb), .val (.int (p4 >>> ((11 : Int32) &&& 31))), .unset, .unset, .unset, .unset, .unset, .unset, .unset, .unset] [])
    refine Go.st (fun t k => XS.iload X0.here hx rfl (hb hby at_146) rfl  k) ?_
    show Go _ _ _ _ _ _ _  s₁ (mkF m 148 #[.val (.int p1), .val (.int p2), .val (.int p3), .val (.int p4), .val (.int (3 : Int32)), .val (.double (FP.i2d p2)), .second, .val (.double (FP.i2d p3)), .second, .val (.int bb), .val (.int (p4 >>> ((11 : Int32) &&& 31))), .unset, .unset, .unset, .unset, .unset, .unset, .unset, .unset] [(.int (p4 >>> ((11 : Int32) &&& 31)))])
    refine Go.st (fun t k => XS.i2l X0.here hx rfl (hb hby at_148) rfl k) ?_
    show Go _ _ _ _ _ _ _  s₁ (mkF m 149 #[.val (.int p1), .val (.int p2), .val (.int p3), .val (.int p4), .val (.int (3 : Int32)), .val (.double (FP.i2d p2)), .second, .val (.double (FP.i2d p3)), .second, .val (.int bb), .val (.int (p4 >>> ((11 : Int32) &&& 31))), .unset, .unset, .unset, .unset, .unset, .unset, .unset, .unset] [(.long ((p4 >>> ((11 : Int32) &&& 31)).toInt64))])
    refine Go.st (fun t k => XS.iload X0.here hx rfl (hb hby at_149) rfl  k) ?_
    show Go _ _ _ _ _ _ _  s₁ (mkF m 151 #[.val (.int p1), .val (.int p2), .val (.int p3), .val (.int p4), .val (.int (3 : Int32)), .val (.double (FP.i2d p2)), .second, .val (.double (FP.i2d p3)), .second, .val (.int bb), .val (.int (p4 >>> ((11 : Int32) &&& 31))), .unset, .unset, .unset, .unset, .unset, .unset, .unset, .unset] [(.int bb), (.long ((p4 >>> ((11 : Int32) &&& 31)).toInt64))])
    refine Go.st (fun t k => XS.i2l X0.here hx rfl (hb hby at_151) rfl k) ?_
    show Go _ _ _ _ _ _ _  s₁ (mkF m 152 #[.val (.int p1), .val (.int p2), .val (.int p3), .val (.int p4), .val (.int (3 : Int32)), .val (.double (FP.i2d p2)), .second, .val (.double (FP.i2d p3)), .second, .val (.int bb), .val (.int (p4 >>> ((11 : Int32) &&& 31))), .unset, .unset, .unset, .unset, .unset, .unset, .unset, .unset] [(.long (bb.toInt64)), (.long ((p4 >>> ((11 : Int32) &&& 31)).toInt64))])
    refine Go.st (fun t k => XS.lmul X0.here hx rfl (hb hby at_152) rfl k) ?_
    show Go _ _ _ _ _ _ _  s₁ (mkF m 153 #[.val (.int p1), .val (.int p2), .val (.int p3), .val (.int p4), .val (.int (3 : Int32)), .val (.double (FP.i2d p2)), .second, .val (.double (FP.i2d p3)), .second, .val (.int bb), .val (.int (p4 >>> ((11 : Int32) &&& 31))), .unset, .unset, .unset, .unset, .unset, .unset, .unset, .unset] [(.long (((p4 >>> ((11 : Int32) &&& 31)).toInt64) * (bb.toInt64)))])
    refine Go.st (fun t k => XS.lstore X0.here hx rfl (hb hby at_153) rfl (l' := #[.val (.int p1), .val (.int p2), .val (.int p3), .val (.int p4), .val (.int (3 : Int32)), .val (.double (FP.i2d p2)), .second, .val (.double (FP.i2d p3)), .second, .val (.int bb), .val (.int (p4 >>> ((11 : Int32) &&& 31))), .val (.long (((p4 >>> ((11 : Int32) &&& 31)).toInt64) * (bb.toInt64))), .second, .unset, .unset, .unset, .unset, .unset, .unset]) rfl k) ?_
    show Go _ _ _ _ _ _ _  s₁ (mkF m 155 #[.val (.int p1), .val (.int p2), .val (.int p3), .val (.int p4), .val (.int (3 : Int32)), .val (.double (FP.i2d p2)), .second, .val (.double (FP.i2d p3)), .second, .val (.int bb), .val (.int (p4 >>> ((11 : Int32) &&& 31))), .val (.long (((p4 >>> ((11 : Int32) &&& 31)).toInt64) * (bb.toInt64))), .second, .unset, .unset, .unset, .unset, .unset, .unset] [])
    obtain ⟨T9, X9, e9, st9⟩ := getS2 X0 hx hZ hown (host := "") (Or.inl (hw _ (List.mem_of_getElem? (i := 23) rfl))) Via.refl e0 (S_DIVIDE.ext O.2) (g := (mkF m 155 #[.val (.int p1), .val (.int p2), .val (.int p3), .val (.int p4), .val (.int (3 : Int32)), .val (.double (FP.i2d p2)), .second, .val (.double (FP.i2d p3)), .second, .val (.int bb), .val (.int (p4 >>> ((11 : Int32) &&& 31))), .val (.long (((p4 >>> ((11 : Int32) &&& 31)).toInt64) * (bb.toInt64))), .second, .unset, .unset, .unset, .unset, .unset, .unset] [])) rfl (hb hby at_155)
    refine Go.st st9 ?_
    show Go _ _ _ _ _ _ _  T9 (mkF m 158 #[.val (.int p1), .val (.int p2), .val (.int p3), .val (.int p4), .val (.int (3 : Int32)), .val (.double (FP.i2d p2)), .second, .val (.double (FP.i2d p3)), .second, .val (.int bb), .val (.int (p4 >>> ((11 : Int32) &&& 31))), .val (.long (((p4 >>> ((11 : Int32) &&& 31)).toInt64) * (bb.toInt64))), .second, .unset, .unset, .unset, .unset, .unset, .unset] [(.ref w_DIVIDE)])
    refine Go.st (fun t k => XS.lload X9.here hx rfl (hb hby at_158) rfl  k) ?_
    show Go _ _ _ _ _ _ _  T9 (mkF m 160 #[.val (.int p1), .val (.int p2), .val (.int p3), .val (.int p4), .val (.int (3 : Int32)), .val (.double (FP.i2d p2)), .second, .val (.double (FP.i2d p3)), .second, .val (.int bb), .val (.int (p4 >>> ((11 : Int32) &&& 31))), .val (.long (((p4 >>> ((11 : Int32) &&& 31)).toInt64) * (bb.toInt64))), .second, .unset, .unset, .unset, .unset, .unset, .unset] [(.long (((p4 >>> ((11 : Int32) &&& 31)).toInt64) * (bb.toInt64))), (.ref w_DIVIDE)])
    refine Go.st (fun t k => XS.l2dS X9.here hx rfl (hb hby at_160) rfl rfl k) ?_
    show Go _ _ _ _ _ _ _  T9 (mkF m 161 #[.val (.int p1), .val (.int p2), .val (.int p3), .val (.int p4), .val (.int (3 : Int32)), .val (.double (FP.i2d p2)), .second, .val (.double (FP.i2d p3)), .second, .val (.int bb), .val (.int (p4 >>> ((11 : Int32) &&& 31))), .val (.long (((p4 >>> ((11 : Int32) &&& 31)).toInt64) * (bb.toInt64))), .second, .unset, .unset, .unset, .unset, .unset, .unset] [(.double (FP.l2d (((p4 >>> ((11 : Int32) &&& 31)).toInt64) * (bb.toInt64)))), (.ref w_DIVIDE)])
    refine Go.st (fun t k => XS.iload X9.here hx rfl (hb hby at_161) rfl  k) ?_
    show Go _ _ _ _ _ _ _  T9 (mkF m 163 #[.val (.int p1), .val (.int p2), .val (.int p3), .val (.int p4), .val (.int (3 : Int32)), .val (.double (FP.i2d p2)), .second, .val (.double (FP.i2d p3)), .second, .val (.int bb), .val (.int (p4 >>> ((11 : Int32) &&& 31))), .val (.long (((p4 >>> ((11 : Int32) &&& 31)).toInt64) * (bb.toInt64))), .second, .unset, .unset, .unset, .unset, .unset, .unset] [(.int bb), (.double (FP.l2d (((p4 >>> ((11 : Int32) &&& 31)).toInt64) * (bb.toInt64)))), (.ref w_DIVIDE)])
    refine Go.st (fun t k => XS.i2dS X9.here hx rfl (hb hby at_163) rfl rfl k) ?_
    show Go _ _ _ _ _ _ _  T9 (mkF m 164 #[.val (.int p1), .val (.int p2), .val (.int p3), .val (.int p4), .val (.int (3 : Int32)), .val (.double (FP.i2d p2)), .second, .val (.double (FP.i2d p3)), .second, .val (.int bb), .val (.int (p4 >>> ((11 : Int32) &&& 31))), .val (.long (((p4 >>> ((11 : Int32) &&& 31)).toInt64) * (bb.toInt64))), .second, .unset, .unset, .unset, .unset, .unset, .unset] [(.double (FP.i2d bb)), (.double (FP.l2d (((p4 >>> ((11 : Int32) &&& 31)).toInt64) * (bb.toInt64)))), (.ref w_DIVIDE)])
    obtain ⟨cq10, kq10, q10a, q10b, q10c⟩ := isOf hZ e9 (E_DIVIDE.ext O.2)
    obtain ⟨_, _, ⟨T10, L10, k10, n10⟩, -, X10, ⟨Lc10, hQ10, l10, y10, z10⟩, st10⟩ := X9.virtualBack hx (y := (⟨"com/example/sancho/sancho/model/ScriptExpression$ArithmeticOperator", "apply", "(DD)D"⟩ : MethodName)) (z := (⟨"com/example/sancho/sancho/model/ScriptExpression$ArithmeticOperator", "apply", "(DD)D"⟩ : MethodName)) hown (mvT hZ (hw _ (List.mem_of_getElem? (i := 3) rfl))) (mvT hZ (hw _ (List.mem_of_getElem? (i := 4) rfl))) (notFace_of_selects (args := #[]) (mvT hZ (hw _ (List.mem_of_getElem? (i := 6) rfl)))) (mvT hZ (hw _ (List.mem_of_getElem? (i := 6) rfl))) (mvT hZ (hw _ (List.mem_of_getElem? (i := 5) rfl))) (by decide) (backOf (W := 0) (rmS l Z a0 hw [] w_DIVIDE (FP.l2d (((p4 >>> ((11 : Int32) &&& 31)).toInt64) * (bb.toInt64))) (FP.i2d bb) 3 h0 n0 O O_DIVIDE E_DIVIDE (by decide) (own_n3 _ _ hbb)) hZ (hw _ (List.mem_of_getElem? (i := 7) rfl)) (hw _ (List.mem_of_getElem? (i := 1) rfl)) (by decide) (by decide)) q10a q10c (g := (mkF m 164 #[.val (.int p1), .val (.int p2), .val (.int p3), .val (.int p4), .val (.int (3 : Int32)), .val (.double (FP.i2d p2)), .second, .val (.double (FP.i2d p3)), .second, .val (.int bb), .val (.int (p4 >>> ((11 : Int32) &&& 31))), .val (.long (((p4 >>> ((11 : Int32) &&& 31)).toInt64) * (bb.toInt64))), .second, .unset, .unset, .unset, .unset, .unset, .unset] [(.double (FP.i2d bb)), (.double (FP.l2d (((p4 >>> ((11 : Int32) &&& 31)).toInt64) * (bb.toInt64)))), (.ref w_DIVIDE)])) rfl (by rw [hml]; rfl) (Steps.refl _) (argsL := [(.double (FP.l2d (((p4 >>> ((11 : Int32) &&& 31)).toInt64) * (bb.toInt64)))), (.double (FP.i2d bb))]) (rest := []) (lenOf pd__DD_D rfl) rfl (by show 2 * 0 + _ ≤ _; exact Nat.le_of_eq rfl) (hb hby at_164) (fun _ _ => ⟨rfl, e9, (by decide : 0 + 0 ≤ _), (by decide : 0 + 0 ≤ _)⟩)
    dsimp only [Pt.U, Pt.locs, Pt.cells, Pt.slots] at X10 l10 y10 z10 st10 hQ10
    subst l10 y10 z10
    obtain ⟨rfl, N10q, e10q⟩ := hQ10
    have N10 := Fr.app N0 N10q
    refine Go.tr st10 ?_
    show Go _ _ _ _ _ _ _  T10 (mkF m 167 #[.val (.int p1), .val (.int p2), .val (.int p3), .val (.int p4), .val (.int (3 : Int32)), .val (.double (FP.i2d p2)), .second, .val (.double (FP.i2d p3)), .second, .val (.int bb), .val (.int (p4 >>> ((11 : Int32) &&& 31))), .val (.long (((p4 >>> ((11 : Int32) &&& 31)).toInt64) * (bb.toInt64))), .second, .unset, .unset, .unset, .unset, .unset, .unset] [(.double (applyF 3 (FP.l2d (((p4 >>> ((11 : Int32) &&& 31)).toInt64) * (bb.toInt64))) (FP.i2d bb)))])
    refine Go.st (fun t k => XS.dstore X10.here hx rfl (hb hby at_167) rfl (l' := #[.val (.int p1), .val (.int p2), .val (.int p3), .val (.int p4), .val (.int (3 : Int32)), .val (.double (FP.i2d p2)), .second, .val (.double (FP.i2d p3)), .second, .val (.int bb), .val (.int (p4 >>> ((11 : Int32) &&& 31))), .val (.long (((p4 >>> ((11 : Int32) &&& 31)).toInt64) * (bb.toInt64))), .second, .val (.double (applyF 3 (FP.l2d (((p4 >>> ((11 : Int32) &&& 31)).toInt64) * (bb.toInt64))) (FP.i2d bb))), .second, .unset, .unset, .unset, .unset]) rfl k) ?_
    show Go _ _ _ _ _ _ _  T10 (mkF m 169 #[.val (.int p1), .val (.int p2), .val (.int p3), .val (.int p4), .val (.int (3 : Int32)), .val (.double (FP.i2d p2)), .second, .val (.double (FP.i2d p3)), .second, .val (.int bb), .val (.int (p4 >>> ((11 : Int32) &&& 31))), .val (.long (((p4 >>> ((11 : Int32) &&& 31)).toInt64) * (bb.toInt64))), .second, .val (.double (applyF 3 (FP.l2d (((p4 >>> ((11 : Int32) &&& 31)).toInt64) * (bb.toInt64))) (FP.i2d bb))), .second, .unset, .unset, .unset, .unset] [])
    refine Go.st (X10.ldc2Long hx hown (mvT hZ (hw _ (List.mem_of_getElem? (i := 25) rfl))) (g := (mkF m 169 #[.val (.int p1), .val (.int p2), .val (.int p3), .val (.int p4), .val (.int (3 : Int32)), .val (.double (FP.i2d p2)), .second, .val (.double (FP.i2d p3)), .second, .val (.int bb), .val (.int (p4 >>> ((11 : Int32) &&& 31))), .val (.long (((p4 >>> ((11 : Int32) &&& 31)).toInt64) * (bb.toInt64))), .second, .val (.double (applyF 3 (FP.l2d (((p4 >>> ((11 : Int32) &&& 31)).toInt64) * (bb.toInt64))) (FP.i2d bb))), .second, .unset, .unset, .unset, .unset] [])) rfl (hb hby at_169)) ?_
    show Go _ _ _ _ _ _ _  T10 (mkF m 172 #[.val (.int p1), .val (.int p2), .val (.int p3), .val (.int p4), .val (.int (3 : Int32)), .val (.double (FP.i2d p2)), .second, .val (.double (FP.i2d p3)), .second, .val (.int bb), .val (.int (p4 >>> ((11 : Int32) &&& 31))), .val (.long (((p4 >>> ((11 : Int32) &&& 31)).toInt64) * (bb.toInt64))), .second, .val (.double (applyF 3 (FP.l2d (((p4 >>> ((11 : Int32) &&& 31)).toInt64) * (bb.toInt64))) (FP.i2d bb))), .second, .unset, .unset, .unset, .unset] [(.long (2 : Int64))])
    refine Go.st (fun t k => XS.iloadN X10.here hx rfl (hb hby at_172) rfl  k) ?_
    show Go _ _ _ _ _ _ _  T10 (mkF m 173 #[.val (.int p1), .val (.int p2), .val (.int p3), .val (.int p4), .val (.int (3 : Int32)), .val (.double (FP.i2d p2)), .second, .val (.double (FP.i2d p3)), .second, .val (.int bb), .val (.int (p4 >>> ((11 : Int32) &&& 31))), .val (.long (((p4 >>> ((11 : Int32) &&& 31)).toInt64) * (bb.toInt64))), .second, .val (.double (applyF 3 (FP.l2d (((p4 >>> ((11 : Int32) &&& 31)).toInt64) * (bb.toInt64))) (FP.i2d bb))), .second, .unset, .unset, .unset, .unset] [(.int p2), (.long (2 : Int64))])
    refine Go.st (fun t k => XS.i2l X10.here hx rfl (hb hby at_173) rfl k) ?_
    show Go _ _ _ _ _ _ _  T10 (mkF m 174 #[.val (.int p1), .val (.int p2), .val (.int p3), .val (.int p4), .val (.int (3 : Int32)), .val (.double (FP.i2d p2)), .second, .val (.double (FP.i2d p3)), .second, .val (.int bb), .val (.int (p4 >>> ((11 : Int32) &&& 31))), .val (.long (((p4 >>> ((11 : Int32) &&& 31)).toInt64) * (bb.toInt64))), .second, .val (.double (applyF 3 (FP.l2d (((p4 >>> ((11 : Int32) &&& 31)).toInt64) * (bb.toInt64))) (FP.i2d bb))), .second, .unset, .unset, .unset, .unset] [(.long (p2.toInt64)), (.long (2 : Int64))])
    refine Go.st (fun t k => XS.lmul X10.here hx rfl (hb hby at_174) rfl k) ?_
    show Go _ _ _ _ _ _ _  T10 (mkF m 175 #[.val (.int p1), .val (.int p2), .val (.int p3), .val (.int p4), .val (.int (3 : Int32)), .val (.double (FP.i2d p2)), .second, .val (.double (FP.i2d p3)), .second, .val (.int bb), .val (.int (p4 >>> ((11 : Int32) &&& 31))), .val (.long (((p4 >>> ((11 : Int32) &&& 31)).toInt64) * (bb.toInt64))), .second, .val (.double (applyF 3 (FP.l2d (((p4 >>> ((11 : Int32) &&& 31)).toInt64) * (bb.toInt64))) (FP.i2d bb))), .second, .unset, .unset, .unset, .unset] [(.long ((2 : Int64) * (p2.toInt64)))])
    refine Go.st (fun t k => XS.lconst X10.here hx rfl (hb hby at_175) k) ?_
    show Go _ _ _ _ _ _ _  T10 (mkF m 176 #[.val (.int p1), .val (.int p2), .val (.int p3), .val (.int p4), .val (.int (3 : Int32)), .val (.double (FP.i2d p2)), .second, .val (.double (FP.i2d p3)), .second, .val (.int bb), .val (.int (p4 >>> ((11 : Int32) &&& 31))), .val (.long (((p4 >>> ((11 : Int32) &&& 31)).toInt64) * (bb.toInt64))), .second, .val (.double (applyF 3 (FP.l2d (((p4 >>> ((11 : Int32) &&& 31)).toInt64) * (bb.toInt64))) (FP.i2d bb))), .second, .unset, .unset, .unset, .unset] [(.long (1 : Int64)), (.long ((2 : Int64) * (p2.toInt64)))])
    refine Go.st (fun t k => XS.ladd X10.here hx rfl (hb hby at_176) rfl k) ?_
    show Go _ _ _ _ _ _ _  T10 (mkF m 177 #[.val (.int p1), .val (.int p2), .val (.int p3), .val (.int p4), .val (.int (3 : Int32)), .val (.double (FP.i2d p2)), .second, .val (.double (FP.i2d p3)), .second, .val (.int bb), .val (.int (p4 >>> ((11 : Int32) &&& 31))), .val (.long (((p4 >>> ((11 : Int32) &&& 31)).toInt64) * (bb.toInt64))), .second, .val (.double (applyF 3 (FP.l2d (((p4 >>> ((11 : Int32) &&& 31)).toInt64) * (bb.toInt64))) (FP.i2d bb))), .second, .unset, .unset, .unset, .unset] [(.long (((2 : Int64) * (p2.toInt64)) + (1 : Int64)))])
    refine Go.st (fun t k => XS.lstore X10.here hx rfl (hb hby at_177) rfl (l' := #[.val (.int p1), .val (.int p2), .val (.int p3), .val (.int p4), .val (.int (3 : Int32)), .val (.double (FP.i2d p2)), .second, .val (.double (FP.i2d p3)), .second, .val (.int bb), .val (.int (p4 >>> ((11 : Int32) &&& 31))), .val (.long (((p4 >>> ((11 : Int32) &&& 31)).toInt64) * (bb.toInt64))), .second, .val (.double (applyF 3 (FP.l2d (((p4 >>> ((11 : Int32) &&& 31)).toInt64) * (bb.toInt64))) (FP.i2d bb))), .second, .val (.long (((2 : Int64) * (p2.toInt64)) + (1 : Int64))), .second, .unset, .unset]) rfl k) ?_
    show Go _ _ _ _ _ _ _  T10 (mkF m 179 #[.val (.int p1), .val (.int p2), .val (.int p3), .val (.int p4), .val (.int (3 : Int32)), .val (.double (FP.i2d p2)), .second, .val (.double (FP.i2d p3)), .second, .val (.int bb), .val (.int (p4 >>> ((11 : Int32) &&& 31))), .val (.long (((p4 >>> ((11 : Int32) &&& 31)).toInt64) * (bb.toInt64))), .second, .val (.double (applyF 3 (FP.l2d (((p4 >>> ((11 : Int32) &&& 31)).toInt64) * (bb.toInt64))) (FP.i2d bb))), .second, .val (.long (((2 : Int64) * (p2.toInt64)) + (1 : Int64))), .second, .unset, .unset] [])
    obtain ⟨T11, X11, e11, st11⟩ := getS2 X10 hx hZ hown (host := "") (Or.inl (hw _ (List.mem_of_getElem? (i := 23) rfl))) Via.refl e10q (S_DIVIDE.ext O.2) (g := (mkF m 179 #[.val (.int p1), .val (.int p2), .val (.int p3), .val (.int p4), .val (.int (3 : Int32)), .val (.double (FP.i2d p2)), .second, .val (.double (FP.i2d p3)), .second, .val (.int bb), .val (.int (p4 >>> ((11 : Int32) &&& 31))), .val (.long (((p4 >>> ((11 : Int32) &&& 31)).toInt64) * (bb.toInt64))), .second, .val (.double (applyF 3 (FP.l2d (((p4 >>> ((11 : Int32) &&& 31)).toInt64) * (bb.toInt64))) (FP.i2d bb))), .second, .val (.long (((2 : Int64) * (p2.toInt64)) + (1 : Int64))), .second, .unset, .unset] [])) rfl (hb hby at_179)
    refine Go.st st11 ?_
    show Go _ _ _ _ _ _ _  T11 (mkF m 182 #[.val (.int p1), .val (.int p2), .val (.int p3), .val (.int p4), .val (.int (3 : Int32)), .val (.double (FP.i2d p2)), .second, .val (.double (FP.i2d p3)), .second, .val (.int bb), .val (.int (p4 >>> ((11 : Int32) &&& 31))), .val (.long (((p4 >>> ((11 : Int32) &&& 31)).toInt64) * (bb.toInt64))), .second, .val (.double (applyF 3 (FP.l2d (((p4 >>> ((11 : Int32) &&& 31)).toInt64) * (bb.toInt64))) (FP.i2d bb))), .second, .val (.long (((2 : Int64) * (p2.toInt64)) + (1 : Int64))), .second, .unset, .unset] [(.ref w_DIVIDE)])
    refine Go.st (fun t k => XS.lload X11.here hx rfl (hb hby at_182) rfl  k) ?_
    show Go _ _ _ _ _ _ _  T11 (mkF m 184 #[.val (.int p1), .val (.int p2), .val (.int p3), .val (.int p4), .val (.int (3 : Int32)), .val (.double (FP.i2d p2)), .second, .val (.double (FP.i2d p3)), .second, .val (.int bb), .val (.int (p4 >>> ((11 : Int32) &&& 31))), .val (.long (((p4 >>> ((11 : Int32) &&& 31)).toInt64) * (bb.toInt64))), .second, .val (.double (applyF 3 (FP.l2d (((p4 >>> ((11 : Int32) &&& 31)).toInt64) * (bb.toInt64))) (FP.i2d bb))), .second, .val (.long (((2 : Int64) * (p2.toInt64)) + (1 : Int64))), .second, .unset, .unset] [(.long (((2 : Int64) * (p2.toInt64)) + (1 : Int64))), (.ref w_DIVIDE)])
    refine Go.st (fun t k => XS.l2dS X11.here hx rfl (hb hby at_184) rfl rfl k) ?_
    show Go _ _ _ _ _ _ _  T11 (mkF m 185 #[.val (.int p1), .val (.int p2), .val (.int p3), .val (.int p4), .val (.int (3 : Int32)), .val (.double (FP.i2d p2)), .second, .val (.double (FP.i2d p3)), .second, .val (.int bb), .val (.int (p4 >>> ((11 : Int32) &&& 31))), .val (.long (((p4 >>> ((11 : Int32) &&& 31)).toInt64) * (bb.toInt64))), .second, .val (.double (applyF 3 (FP.l2d (((p4 >>> ((11 : Int32) &&& 31)).toInt64) * (bb.toInt64))) (FP.i2d bb))), .second, .val (.long (((2 : Int64) * (p2.toInt64)) + (1 : Int64))), .second, .unset, .unset] [(.double (FP.l2d (((2 : Int64) * (p2.toInt64)) + (1 : Int64)))), (.ref w_DIVIDE)])
    refine Go.st (X11.ldc2DoubleC hx hown (mvT hZ (hw _ (List.mem_of_getElem? (i := 26) rfl))) (g := (mkF m 185 #[.val (.int p1), .val (.int p2), .val (.int p3), .val (.int p4), .val (.int (3 : Int32)), .val (.double (FP.i2d p2)), .second, .val (.double (FP.i2d p3)), .second, .val (.int bb), .val (.int (p4 >>> ((11 : Int32) &&& 31))), .val (.long (((p4 >>> ((11 : Int32) &&& 31)).toInt64) * (bb.toInt64))), .second, .val (.double (applyF 3 (FP.l2d (((p4 >>> ((11 : Int32) &&& 31)).toInt64) * (bb.toInt64))) (FP.i2d bb))), .second, .val (.long (((2 : Int64) * (p2.toInt64)) + (1 : Int64))), .second, .unset, .unset] [(.double (FP.l2d (((2 : Int64) * (p2.toInt64)) + (1 : Int64)))), (.ref w_DIVIDE)])) rfl (hb hby at_185)) ?_
    show Go _ _ _ _ _ _ _  T11 (mkF m 188 #[.val (.int p1), .val (.int p2), .val (.int p3), .val (.int p4), .val (.int (3 : Int32)), .val (.double (FP.i2d p2)), .second, .val (.double (FP.i2d p3)), .second, .val (.int bb), .val (.int (p4 >>> ((11 : Int32) &&& 31))), .val (.long (((p4 >>> ((11 : Int32) &&& 31)).toInt64) * (bb.toInt64))), .second, .val (.double (applyF 3 (FP.l2d (((p4 >>> ((11 : Int32) &&& 31)).toInt64) * (bb.toInt64))) (FP.i2d bb))), .second, .val (.long (((2 : Int64) * (p2.toInt64)) + (1 : Int64))), .second, .unset, .unset] [(.double (4611686018427387904 : UInt64)), (.double (FP.l2d (((2 : Int64) * (p2.toInt64)) + (1 : Int64)))), (.ref w_DIVIDE)])
    obtain ⟨cq12, kq12, q12a, q12b, q12c⟩ := isOf hZ e11 (E_DIVIDE.ext O.2)
    obtain ⟨_, _, ⟨T12, L12, k12, n12⟩, -, X12, ⟨Lc12, hQ12, l12, y12, z12⟩, st12⟩ := X11.virtualBack hx (y := (⟨"com/example/sancho/sancho/model/ScriptExpression$ArithmeticOperator", "apply", "(DD)D"⟩ : MethodName)) (z := (⟨"com/example/sancho/sancho/model/ScriptExpression$ArithmeticOperator", "apply", "(DD)D"⟩ : MethodName)) hown (mvT hZ (hw _ (List.mem_of_getElem? (i := 3) rfl))) (mvT hZ (hw _ (List.mem_of_getElem? (i := 4) rfl))) (notFace_of_selects (args := #[]) (mvT hZ (hw _ (List.mem_of_getElem? (i := 6) rfl)))) (mvT hZ (hw _ (List.mem_of_getElem? (i := 6) rfl))) (mvT hZ (hw _ (List.mem_of_getElem? (i := 5) rfl))) (by decide) (backOf (W := 0) (rmS l Z a0 hw [] w_DIVIDE (FP.l2d (((2 : Int64) * (p2.toInt64)) + (1 : Int64))) (4611686018427387904 : UInt64) 3 h0 n0 O O_DIVIDE E_DIVIDE (by decide) (own_n3' _)) hZ (hw _ (List.mem_of_getElem? (i := 7) rfl)) (hw _ (List.mem_of_getElem? (i := 1) rfl)) (by decide) (by decide)) q12a q12c (g := (mkF m 188 #[.val (.int p1), .val (.int p2), .val (.int p3), .val (.int p4), .val (.int (3 : Int32)), .val (.double (FP.i2d p2)), .second, .val (.double (FP.i2d p3)), .second, .val (.int bb), .val (.int (p4 >>> ((11 : Int32) &&& 31))), .val (.long (((p4 >>> ((11 : Int32) &&& 31)).toInt64) * (bb.toInt64))), .second, .val (.double (applyF 3 (FP.l2d (((p4 >>> ((11 : Int32) &&& 31)).toInt64) * (bb.toInt64))) (FP.i2d bb))), .second, .val (.long (((2 : Int64) * (p2.toInt64)) + (1 : Int64))), .second, .unset, .unset] [(.double (4611686018427387904 : UInt64)), (.double (FP.l2d (((2 : Int64) * (p2.toInt64)) + (1 : Int64)))), (.ref w_DIVIDE)])) rfl (by rw [hml]; rfl) (Steps.refl _) (argsL := [(.double (FP.l2d (((2 : Int64) * (p2.toInt64)) + (1 : Int64)))), (.double (4611686018427387904 : UInt64))]) (rest := []) (lenOf pd__DD_D rfl) rfl (by show 2 * 0 + _ ≤ _; exact Nat.le_of_eq rfl) (hb hby at_188) (fun _ _ => ⟨rfl, e11, (by decide : 0 + 0 ≤ _), (by decide : 0 + 0 ≤ _)⟩)
    dsimp only [Pt.U, Pt.locs, Pt.cells, Pt.slots] at X12 l12 y12 z12 st12 hQ12
    subst l12 y12 z12
    obtain ⟨rfl, N12q, e12q⟩ := hQ12
    have N12 := Fr.app N10 N12q
    refine Go.tr st12 ?_
    show Go _ _ _ _ _ _ _  T12 (mkF m 191 #[.val (.int p1), .val (.int p2), .val (.int p3), .val (.int p4), .val (.int (3 : Int32)), .val (.double (FP.i2d p2)), .second, .val (.double (FP.i2d p3)), .second, .val (.int bb), .val (.int (p4 >>> ((11 : Int32) &&& 31))), .val (.long (((p4 >>> ((11 : Int32) &&& 31)).toInt64) * (bb.toInt64))), .second, .val (.double (applyF 3 (FP.l2d (((p4 >>> ((11 : Int32) &&& 31)).toInt64) * (bb.toInt64))) (FP.i2d bb))), .second, .val (.long (((2 : Int64) * (p2.toInt64)) + (1 : Int64))), .second, .unset, .unset] [(.double (applyF 3 (FP.l2d (((2 : Int64) * (p2.toInt64)) + (1 : Int64))) (4611686018427387904 : UInt64)))])
    refine Go.st (fun t k => XS.dstore X12.here hx rfl (hb hby at_191) rfl (l' := #[.val (.int p1), .val (.int p2), .val (.int p3), .val (.int p4), .val (.int (3 : Int32)), .val (.double (FP.i2d p2)), .second, .val (.double (FP.i2d p3)), .second, .val (.int bb), .val (.int (p4 >>> ((11 : Int32) &&& 31))), .val (.long (((p4 >>> ((11 : Int32) &&& 31)).toInt64) * (bb.toInt64))), .second, .val (.double (applyF 3 (FP.l2d (((p4 >>> ((11 : Int32) &&& 31)).toInt64) * (bb.toInt64))) (FP.i2d bb))), .second, .val (.long (((2 : Int64) * (p2.toInt64)) + (1 : Int64))), .second, .val (.double (applyF 3 (FP.l2d (((2 : Int64) * (p2.toInt64)) + (1 : Int64))) (4611686018427387904 : UInt64))), .second]) rfl k) ?_
    show Go _ _ _ _ _ _ _  T12 (mkF m 193 #[.val (.int p1), .val (.int p2), .val (.int p3), .val (.int p4), .val (.int (3 : Int32)), .val (.double (FP.i2d p2)), .second, .val (.double (FP.i2d p3)), .second, .val (.int bb), .val (.int (p4 >>> ((11 : Int32) &&& 31))), .val (.long (((p4 >>> ((11 : Int32) &&& 31)).toInt64) * (bb.toInt64))), .second, .val (.double (applyF 3 (FP.l2d (((p4 >>> ((11 : Int32) &&& 31)).toInt64) * (bb.toInt64))) (FP.i2d bb))), .second, .val (.long (((2 : Int64) * (p2.toInt64)) + (1 : Int64))), .second, .val (.double (applyF 3 (FP.l2d (((2 : Int64) * (p2.toInt64)) + (1 : Int64))) (4611686018427387904 : UInt64))), .second] [])
    refine Go.st (fun t k => XS.dload X12.here hx rfl (hb hby at_193) rfl k) ?_
    show Go _ _ _ _ _ _ _  T12 (mkF m 195 #[.val (.int p1), .val (.int p2), .val (.int p3), .val (.int p4), .val (.int (3 : Int32)), .val (.double (FP.i2d p2)), .second, .val (.double (FP.i2d p3)), .second, .val (.int bb), .val (.int (p4 >>> ((11 : Int32) &&& 31))), .val (.long (((p4 >>> ((11 : Int32) &&& 31)).toInt64) * (bb.toInt64))), .second, .val (.double (applyF 3 (FP.l2d (((p4 >>> ((11 : Int32) &&& 31)).toInt64) * (bb.toInt64))) (FP.i2d bb))), .second, .val (.long (((2 : Int64) * (p2.toInt64)) + (1 : Int64))), .second, .val (.double (applyF 3 (FP.l2d (((2 : Int64) * (p2.toInt64)) + (1 : Int64))) (4611686018427387904 : UInt64))), .second] [(.double (applyF 3 (FP.l2d (((p4 >>> ((11 : Int32) &&& 31)).toInt64) * (bb.toInt64))) (FP.i2d bb)))])
    refine Go.st (fun t k => XS.iload X12.here hx rfl (hb hby at_195) rfl  k) ?_
    show Go _ _ _ _ _ _ _  T12 (mkF m 197 #[.val (.int p1), .val (.int p2), .val (.int p3), .val (.int p4), .val (.int (3 : Int32)), .val (.double (FP.i2d p2)), .second, .val (.double (FP.i2d p3)), .second, .val (.int bb), .val (.int (p4 >>> ((11 : Int32) &&& 31))), .val (.long (((p4 >>> ((11 : Int32) &&& 31)).toInt64) * (bb.toInt64))), .second, .val (.double (applyF 3 (FP.l2d (((p4 >>> ((11 : Int32) &&& 31)).toInt64) * (bb.toInt64))) (FP.i2d bb))), .second, .val (.long (((2 : Int64) * (p2.toInt64)) + (1 : Int64))), .second, .val (.double (applyF 3 (FP.l2d (((2 : Int64) * (p2.toInt64)) + (1 : Int64))) (4611686018427387904 : UInt64))), .second] [(.int (p4 >>> ((11 : Int32) &&& 31))), (.double (applyF 3 (FP.l2d (((p4 >>> ((11 : Int32) &&& 31)).toInt64) * (bb.toInt64))) (FP.i2d bb)))])
    refine Go.st (fun t k => XS.i2dS X12.here hx rfl (hb hby at_197) rfl rfl k) ?_
    show Go _ _ _ _ _ _ _  T12 (mkF m 198 #[.val (.int p1), .val (.int p2), .val (.int p3), .val (.int p4), .val (.int (3 : Int32)), .val (.double (FP.i2d p2)), .second, .val (.double (FP.i2d p3)), .second, .val (.int bb), .val (.int (p4 >>> ((11 : Int32) &&& 31))), .val (.long (((p4 >>> ((11 : Int32) &&& 31)).toInt64) * (bb.toInt64))), .second, .val (.double (applyF 3 (FP.l2d (((p4 >>> ((11 : Int32) &&& 31)).toInt64) * (bb.toInt64))) (FP.i2d bb))), .second, .val (.long (((2 : Int64) * (p2.toInt64)) + (1 : Int64))), .second, .val (.double (applyF 3 (FP.l2d (((2 : Int64) * (p2.toInt64)) + (1 : Int64))) (4611686018427387904 : UInt64))), .second] [(.double (FP.i2d (p4 >>> ((11 : Int32) &&& 31)))), (.double (applyF 3 (FP.l2d (((p4 >>> ((11 : Int32) &&& 31)).toInt64) * (bb.toInt64))) (FP.i2d bb)))])
    refine Go.st (fun t k => XS.dcmpS X12.here hx rfl (hb hby at_198) rfl rfl k) ?_
    show Go _ _ _ _ _ _ _  T12 (mkF m 199 #[.val (.int p1), .val (.int p2), .val (.int p3), .val (.int p4), .val (.int (3 : Int32)), .val (.double (FP.i2d p2)), .second, .val (.double (FP.i2d p3)), .second, .val (.int bb), .val (.int (p4 >>> ((11 : Int32) &&& 31))), .val (.long (((p4 >>> ((11 : Int32) &&& 31)).toInt64) * (bb.toInt64))), .second, .val (.double (applyF 3 (FP.l2d (((p4 >>> ((11 : Int32) &&& 31)).toInt64) * (bb.toInt64))) (FP.i2d bb))), .second, .val (.long (((2 : Int64) * (p2.toInt64)) + (1 : Int64))), .second, .val (.double (applyF 3 (FP.l2d (((2 : Int64) * (p2.toInt64)) + (1 : Int64))) (4611686018427387904 : UInt64))), .second] [(.int (cmpValue (FP.dcmp (applyF 3 (FP.l2d (((p4 >>> ((11 : Int32) &&& 31)).toInt64) * (bb.toInt64))) (FP.i2d bb)) (FP.i2d (p4 >>> ((11 : Int32) &&& 31)))) .l))])
    refine Go.st (fun t k => XS.ifNo X12.here hx rfl (hb hby at_199) rfl ((if0 _ _).trans (teq (own_c3 _ _ hbb : (cmpValue (FP.dcmp (applyF 3 (FP.l2d (((p4 >>> ((11 : Int32) &&& 31)).toInt64) * (bb.toInt64))) (FP.i2d bb)) (FP.i2d (p4 >>> ((11 : Int32) &&& 31)))) .l) = (0 : Int32))).2) k) ?_
    show Go _ _ _ _ _ _ _  T12 (mkF m 202 #[.val (.int p1), .val (.int p2), .val (.int p3), .val (.int p4), .val (.int (3 : Int32)), .val (.double (FP.i2d p2)), .second, .val (.double (FP.i2d p3)), .second, .val (.int bb), .val (.int (p4 >>> ((11 : Int32) &&& 31))), .val (.long (((p4 >>> ((11 : Int32) &&& 31)).toInt64) * (bb.toInt64))), .second, .val (.double (applyF 3 (FP.l2d (((p4 >>> ((11 : Int32) &&& 31)).toInt64) * (bb.toInt64))) (FP.i2d bb))), .second, .val (.long (((2 : Int64) * (p2.toInt64)) + (1 : Int64))), .second, .val (.double (applyF 3 (FP.l2d (((2 : Int64) * (p2.toInt64)) + (1 : Int64))) (4611686018427387904 : UInt64))), .second] [])
    refine Go.st (fun t k => XS.dload X12.here hx rfl (hb hby at_202) rfl k) ?_
    show Go _ _ _ _ _ _ _  T12 (mkF m 204 #[.val (.int p1), .val (.int p2), .val (.int p3), .val (.int p4), .val (.int (3 : Int32)), .val (.double (FP.i2d p2)), .second, .val (.double (FP.i2d p3)), .second, .val (.int bb), .val (.int (p4 >>> ((11 : Int32) &&& 31))), .val (.long (((p4 >>> ((11 : Int32) &&& 31)).toInt64) * (bb.toInt64))), .second, .val (.double (applyF 3 (FP.l2d (((p4 >>> ((11 : Int32) &&& 31)).toInt64) * (bb.toInt64))) (FP.i2d bb))), .second, .val (.long (((2 : Int64) * (p2.toInt64)) + (1 : Int64))), .second, .val (.double (applyF 3 (FP.l2d (((2 : Int64) * (p2.toInt64)) + (1 : Int64))) (4611686018427387904 : UInt64))), .second] [(.double (applyF 3 (FP.l2d (((2 : Int64) * (p2.toInt64)) + (1 : Int64))) (4611686018427387904 : UInt64)))])
    refine Go.st (fun t k => XS.dload X12.here hx rfl (hb hby at_204) rfl k) ?_
    show Go _ _ _ _ _ _ _  T12 (mkF m 206 #[.val (.int p1), .val (.int p2), .val (.int p3), .val (.int p4), .val (.int (3 : Int32)), .val (.double (FP.i2d p2)), .second, .val (.double (FP.i2d p3)), .second, .val (.int bb), .val (.int (p4 >>> ((11 : Int32) &&& 31))), .val (.long (((p4 >>> ((11 : Int32) &&& 31)).toInt64) * (bb.toInt64))), .second, .val (.double (applyF 3 (FP.l2d (((p4 >>> ((11 : Int32) &&& 31)).toInt64) * (bb.toInt64))) (FP.i2d bb))), .second, .val (.long (((2 : Int64) * (p2.toInt64)) + (1 : Int64))), .second, .val (.double (applyF 3 (FP.l2d (((2 : Int64) * (p2.toInt64)) + (1 : Int64))) (4611686018427387904 : UInt64))), .second] [(.double (FP.i2d p2)), (.double (applyF 3 (FP.l2d (((2 : Int64) * (p2.toInt64)) + (1 : Int64))) (4611686018427387904 : UInt64)))])
    refine Go.st (X12.ldc2DoubleC hx hown (mvT hZ (hw _ (List.mem_of_getElem? (i := 27) rfl))) (g := (mkF m 206 #[.val (.int p1), .val (.int p2), .val (.int p3), .val (.int p4), .val (.int (3 : Int32)), .val (.double (FP.i2d p2)), .second, .val (.double (FP.i2d p3)), .second, .val (.int bb), .val (.int (p4 >>> ((11 : Int32) &&& 31))), .val (.long (((p4 >>> ((11 : Int32) &&& 31)).toInt64) * (bb.toInt64))), .second, .val (.double (applyF 3 (FP.l2d (((p4 >>> ((11 : Int32) &&& 31)).toInt64) * (bb.toInt64))) (FP.i2d bb))), .second, .val (.long (((2 : Int64) * (p2.toInt64)) + (1 : Int64))), .second, .val (.double (applyF 3 (FP.l2d (((2 : Int64) * (p2.toInt64)) + (1 : Int64))) (4611686018427387904 : UInt64))), .second] [(.double (FP.i2d p2)), (.double (applyF 3 (FP.l2d (((2 : Int64) * (p2.toInt64)) + (1 : Int64))) (4611686018427387904 : UInt64)))])) rfl (hb hby at_206)) ?_
    show Go _ _ _ _ _ _ _  T12 (mkF m 209 #[.val (.int p1), .val (.int p2), .val (.int p3), .val (.int p4), .val (.int (3 : Int32)), .val (.double (FP.i2d p2)), .second, .val (.double (FP.i2d p3)), .second, .val (.int bb), .val (.int (p4 >>> ((11 : Int32) &&& 31))), .val (.long (((p4 >>> ((11 : Int32) &&& 31)).toInt64) * (bb.toInt64))), .second, .val (.double (applyF 3 (FP.l2d (((p4 >>> ((11 : Int32) &&& 31)).toInt64) * (bb.toInt64))) (FP.i2d bb))), .second, .val (.long (((2 : Int64) * (p2.toInt64)) + (1 : Int64))), .second, .val (.double (applyF 3 (FP.l2d (((2 : Int64) * (p2.toInt64)) + (1 : Int64))) (4611686018427387904 : UInt64))), .second] [(.double (4602678819172646912 : UInt64)), (.double (FP.i2d p2)), (.double (applyF 3 (FP.l2d (((2 : Int64) * (p2.toInt64)) + (1 : Int64))) (4611686018427387904 : UInt64)))])
    refine Go.st (fun t k => XS.daddS X12.here hx rfl (hb hby at_209) rfl (own_nh _) rfl k) ?_
    show Go _ _ _ _ _ _ _  T12 (mkF m 210 #[.val (.int p1), .val (.int p2), .val (.int p3), .val (.int p4), .val (.int (3 : Int32)), .val (.double (FP.i2d p2)), .second, .val (.double (FP.i2d p3)), .second, .val (.int bb), .val (.int (p4 >>> ((11 : Int32) &&& 31))), .val (.long (((p4 >>> ((11 : Int32) &&& 31)).toInt64) * (bb.toInt64))), .second, .val (.double (applyF 3 (FP.l2d (((p4 >>> ((11 : Int32) &&& 31)).toInt64) * (bb.toInt64))) (FP.i2d bb))), .second, .val (.long (((2 : Int64) * (p2.toInt64)) + (1 : Int64))), .second, .val (.double (applyF 3 (FP.l2d (((2 : Int64) * (p2.toInt64)) + (1 : Int64))) (4611686018427387904 : UInt64))), .second] [(.double (FP.dadd (FP.i2d p2) (4602678819172646912 : UInt64))), (.double (applyF 3 (FP.l2d (((2 : Int64) * (p2.toInt64)) + (1 : Int64))) (4611686018427387904 : UInt64)))])
    refine Go.st (fun t k => XS.dcmpS X12.here hx rfl (hb hby at_210) rfl rfl k) ?_
    show Go _ _ _ _ _ _ _  T12 (mkF m 211 #[.val (.int p1), .val (.int p2), .val (.int p3), .val (.int p4), .val (.int (3 : Int32)), .val (.double (FP.i2d p2)), .second, .val (.double (FP.i2d p3)), .second, .val (.int bb), .val (.int (p4 >>> ((11 : Int32) &&& 31))), .val (.long (((p4 >>> ((11 : Int32) &&& 31)).toInt64) * (bb.toInt64))), .second, .val (.double (applyF 3 (FP.l2d (((p4 >>> ((11 : Int32) &&& 31)).toInt64) * (bb.toInt64))) (FP.i2d bb))), .second, .val (.long (((2 : Int64) * (p2.toInt64)) + (1 : Int64))), .second, .val (.double (applyF 3 (FP.l2d (((2 : Int64) * (p2.toInt64)) + (1 : Int64))) (4611686018427387904 : UInt64))), .second] [(.int (cmpValue (FP.dcmp (applyF 3 (FP.l2d (((2 : Int64) * (p2.toInt64)) + (1 : Int64))) (4611686018427387904 : UInt64)) (FP.dadd (FP.i2d p2) (4602678819172646912 : UInt64))) .l))])
    refine Go.st (fun t k => XS.ifNo X12.here hx rfl (hb hby at_211) rfl ((if0 _ _).trans (teq (own_c3' _ : (cmpValue (FP.dcmp (applyF 3 (FP.l2d (((2 : Int64) * (p2.toInt64)) + (1 : Int64))) (4611686018427387904 : UInt64)) (FP.dadd (FP.i2d p2) (4602678819172646912 : UInt64))) .l) = (0 : Int32))).2) k) ?_
    show Go _ _ _ _ _ _ _  T12 (mkF m 214 #[.val (.int p1), .val (.int p2), .val (.int p3), .val (.int p4), .val (.int (3 : Int32)), .val (.double (FP.i2d p2)), .second, .val (.double (FP.i2d p3)), .second, .val (.int bb), .val (.int (p4 >>> ((11 : Int32) &&& 31))), .val (.long (((p4 >>> ((11 : Int32) &&& 31)).toInt64) * (bb.toInt64))), .second, .val (.double (applyF 3 (FP.l2d (((p4 >>> ((11 : Int32) &&& 31)).toInt64) * (bb.toInt64))) (FP.i2d bb))), .second, .val (.long (((2 : Int64) * (p2.toInt64)) + (1 : Int64))), .second, .val (.double (applyF 3 (FP.l2d (((2 : Int64) * (p2.toInt64)) + (1 : Int64))) (4611686018427387904 : UInt64))), .second] [])
    refine Go.st (fun t k => XS.iconst X12.here hx rfl (hb hby at_214) k) ?_
    show Go _ _ _ _ _ _ _  T12 (mkF m 215 #[.val (.int p1), .val (.int p2), .val (.int p3), .val (.int p4), .val (.int (3 : Int32)), .val (.double (FP.i2d p2)), .second, .val (.double (FP.i2d p3)), .second, .val (.int bb), .val (.int (p4 >>> ((11 : Int32) &&& 31))), .val (.long (((p4 >>> ((11 : Int32) &&& 31)).toInt64) * (bb.toInt64))), .second, .val (.double (applyF 3 (FP.l2d (((p4 >>> ((11 : Int32) &&& 31)).toInt64) * (bb.toInt64))) (FP.i2d bb))), .second, .val (.long (((2 : Int64) * (p2.toInt64)) + (1 : Int64))), .second, .val (.double (applyF 3 (FP.l2d (((2 : Int64) * (p2.toInt64)) + (1 : Int64))) (4611686018427387904 : UInt64))), .second] [(.int (1 : Int32))])
    refine Go.st (fun t k => XS.goto X12.here hx rfl (pc0 := 215) (pc' := 219) rfl (hb hby at_215) (by decide) (by decide) k) ?_
    show Go _ _ _ _ _ _ _  T12 (mkF m 219 #[.val (.int p1), .val (.int p2), .val (.int p3), .val (.int p4), .val (.int (3 : Int32)), .val (.double (FP.i2d p2)), .second, .val (.double (FP.i2d p3)), .second, .val (.int bb), .val (.int (p4 >>> ((11 : Int32) &&& 31))), .val (.long (((p4 >>> ((11 : Int32) &&& 31)).toInt64) * (bb.toInt64))), .second, .val (.double (applyF 3 (FP.l2d (((p4 >>> ((11 : Int32) &&& 31)).toInt64) * (bb.toInt64))) (FP.i2d bb))), .second, .val (.long (((2 : Int64) * (p2.toInt64)) + (1 : Int64))), .second, .val (.double (applyF 3 (FP.l2d (((2 : Int64) * (p2.toInt64)) + (1 : Int64))) (4611686018427387904 : UInt64))), .second] [(.int (1 : Int32))])
    refine Go.retN X12 hlk hx (t := .boolean) (z' := (1 : Int32)) Bd.returns (by simp) (hb hby at_219) (by decide) (by decide) rfl ?_
    show Q_rm0 Z _ _ _ _ _ _ _ _ _ h0 n0 _ T12.heap _
    rw [e12q]
    exact ⟨rfl, N12⟩
  · rw [sp1]
    show Go _ _ _ _ _ _ _  s₁ (mkF m 16 #[.val (.int p1), .val (.int p2), .val (.int p3), .val (.int p4), .val (.int (4 : Int32)), .val (.double (FP.i2d p2)), .second, .val (.double (FP.i2d p3)), .second, .unset, .unset, .unset, .unset, .unset, .unset, .unset, .unset, .unset, .unset] [])
    refine Go.st (fun t k => XS.iload X0.here hx rfl (hb hby at_16) rfl  k) ?_
    show Go _ _ _ _ _ _ _  s₁ (mkF m 18 #[.val (.int p1), .val (.int p2), .val (.int p3), .val (.int p4), .val (.int (4 : Int32)), .val (.double (FP.i2d p2)), .second, .val (.double (FP.i2d p3)), .second, .unset, .unset, .unset, .unset, .unset, .unset, .unset, .unset, .unset, .unset] [(.int (4 : Int32))])
    refine Go.st (fun t k => XS.ifYes X0.here hx rfl (pc0 := 18) (pc' := 51) rfl (hb hby at_18) rfl ((if0 _ _).trans (feq (by decide : ¬ ((4 : Int32) = (0 : Int32)))).2) (by decide) (by decide) k) ?_
    show Go _ _ _ _ _ _ _  s₁ (mkF m 51 #[.val (.int p1), .val (.int p2), .val (.int p3), .val (.int p4), .val (.int (4 : Int32)), .val (.double (FP.i2d p2)), .second, .val (.double (FP.i2d p3)), .second, .unset, .unset, .unset, .unset, .unset, .unset, .unset, .unset, .unset, .unset] [])
    refine Go.st (fun t k => XS.iload X0.here hx rfl (hb hby at_51) rfl  k) ?_
    show Go _ _ _ _ _ _ _  s₁ (mkF m 53 #[.val (.int p1), .val (.int p2), .val (.int p3), .val (.int p4), .val (.int (4 : Int32)), .val (.double (FP.i2d p2)), .second, .val (.double (FP.i2d p3)), .second, .unset, .unset, .unset, .unset, .unset, .unset, .unset, .unset, .unset, .unset] [(.int (4 : Int32))])
    refine Go.st (fun t k => XS.iconst X0.here hx rfl (hb hby at_53) k) ?_
    show Go _ _ _ _ _ _ _  s₁ (mkF m 54 #[.val (.int p1), .val (.int p2), .val (.int p3), .val (.int p4), .val (.int (4 : Int32)), .val (.double (FP.i2d p2)), .second, .val (.double (FP.i2d p3)), .second, .unset, .unset, .unset, .unset, .unset, .unset, .unset, .unset, .unset, .unset] [(.int (1 : Int32)), (.int (4 : Int32))])
    refine Go.st (fun t k => XS.icmpYes X0.here hx rfl (pc0 := 54) (pc' := 87) rfl (hb hby at_54) rfl (feq (by decide : ¬ ((4 : Int32) = (1 : Int32)))).2 (by decide) (by decide) k) ?_
    show Go _ _ _ _ _ _ _  s₁ (mkF m 87 #[.val (.int p1), .val (.int p2), .val (.int p3), .val (.int p4), .val (.int (4 : Int32)), .val (.double (FP.i2d p2)), .second, .val (.double (FP.i2d p3)), .second, .unset, .unset, .unset, .unset, .unset, .unset, .unset, .unset, .unset, .unset] [])
    refine Go.st (fun t k => XS.iload X0.here hx rfl (hb hby at_87) rfl  k) ?_
    show Go _ _ _ _ _ _ _  s₁ (mkF m 89 #[.val (.int p1), .val (.int p2), .val (.int p3), .val (.int p4), .val (.int (4 : Int32)), .val (.double (FP.i2d p2)), .second, .val (.double (FP.i2d p3)), .second, .unset, .unset, .unset, .unset, .unset, .unset, .unset, .unset, .unset, .unset] [(.int (4 : Int32))])
    refine Go.st (fun t k => XS.iconst X0.here hx rfl (hb hby at_89) k) ?_
    show Go _ _ _ _ _ _ _  s₁ (mkF m 90 #[.val (.int p1), .val (.int p2), .val (.int p3), .val (.int p4), .val (.int (4 : Int32)), .val (.double (FP.i2d p2)), .second, .val (.double (FP.i2d p3)), .second, .unset, .unset, .unset, .unset, .unset, .unset, .unset, .unset, .unset, .unset] [(.int (2 : Int32)), (.int (4 : Int32))])
    refine Go.st (fun t k => XS.icmpYes X0.here hx rfl (pc0 := 90) (pc' := 123) rfl (hb hby at_90) rfl (feq (by decide : ¬ ((4 : Int32) = (2 : Int32)))).2 (by decide) (by decide) k) ?_
    show Go _ _ _ _ _ _ _  s₁ (mkF m 123 #[.val (.int p1), .val (.int p2), .val (.int p3), .val (.int p4), .val (.int (4 : Int32)), .val (.double (FP.i2d p2)), .second, .val (.double (FP.i2d p3)), .second, .unset, .unset, .unset, .unset, .unset, .unset, .unset, .unset, .unset, .unset] [])
    refine Go.st (fun t k => XS.iload X0.here hx rfl (hb hby at_123) rfl  k) ?_
    show Go _ _ _ _ _ _ _  s₁ (mkF m 125 #[.val (.int p1), .val (.int p2), .val (.int p3), .val (.int p4), .val (.int (4 : Int32)), .val (.double (FP.i2d p2)), .second, .val (.double (FP.i2d p3)), .second, .unset, .unset, .unset, .unset, .unset, .unset, .unset, .unset, .unset, .unset] [(.int (4 : Int32))])
    refine Go.st (fun t k => XS.iconst X0.here hx rfl (hb hby at_125) k) ?_
    show Go _ _ _ _ _ _ _  s₁ (mkF m 126 #[.val (.int p1), .val (.int p2), .val (.int p3), .val (.int p4), .val (.int (4 : Int32)), .val (.double (FP.i2d p2)), .second, .val (.double (FP.i2d p3)), .second, .unset, .unset, .unset, .unset, .unset, .unset, .unset, .unset, .unset, .unset] [(.int (3 : Int32)), (.int (4 : Int32))])
    refine Go.st (fun t k => XS.icmpYes X0.here hx rfl (pc0 := 126) (pc' := 220) rfl (hb hby at_126) rfl (feq (by decide : ¬ ((4 : Int32) = (3 : Int32)))).2 (by decide) (by decide) k) ?_
    show Go _ _ _ _ _ _ _  s₁ (mkF m 220 #[.val (.int p1), .val (.int p2), .val (.int p3), .val (.int p4), .val (.int (4 : Int32)), .val (.double (FP.i2d p2)), .second, .val (.double (FP.i2d p3)), .second, .unset, .unset, .unset, .unset, .unset, .unset, .unset, .unset, .unset, .unset] [])
    refine Go.st (fun t k => XS.iloadN X0.here hx rfl (hb hby at_220) rfl  k) ?_
    show Go _ _ _ _ _ _ _  s₁ (mkF m 221 #[.val (.int p1), .val (.int p2), .val (.int p3), .val (.int p4), .val (.int (4 : Int32)), .val (.double (FP.i2d p2)), .second, .val (.double (FP.i2d p3)), .second, .unset, .unset, .unset, .unset, .unset, .unset, .unset, .unset, .unset, .unset] [(.int p3)])
    refine Go.st (T' := s₁) (g' := (mkF m 229 #[.val (.int p1), .val (.int p2), .val (.int p3), .val (.int p4), .val (.int (4 : Int32)), .val (.double (FP.i2d p2)), .second, .val (.double (FP.i2d p3)), .second, .unset, .unset, .unset, .unset, .unset, .unset, .unset, .unset, .unset, .unset] [(.int (if p3 = (0 : Int32) then (1 : Int32) else p3))])) (fun t k => ?_) ?_
    · show Steps p.tables e below (s₁.setTop (mkF m 221 #[.val (.int p1), .val (.int p2), .val (.int p3), .val (.int p4), .val (.int (4 : Int32)), .val (.double (FP.i2d p2)), .second, .val (.double (FP.i2d p3)), .second, .unset, .unset, .unset, .unset, .unset, .unset, .unset, .unset, .unset, .unset] [(.int p3)])) _
      by_cases c221_13 : p3 = (0 : Int32)
      · refine XS.ifNo X0.here hx rfl (hb hby at_221) rfl ((if0 _ _).trans (teq c221_13).2) ?_
        show Steps p.tables e below (s₁.setTop (mkF m 224 #[.val (.int p1), .val (.int p2), .val (.int p3), .val (.int p4), .val (.int (4 : Int32)), .val (.double (FP.i2d p2)), .second, .val (.double (FP.i2d p3)), .second, .unset, .unset, .unset, .unset, .unset, .unset, .unset, .unset, .unset, .unset] [])) _
        refine XS.iconst X0.here hx rfl (hb hby at_224) ?_
        show Steps p.tables e below (s₁.setTop (mkF m 225 #[.val (.int p1), .val (.int p2), .val (.int p3), .val (.int p4), .val (.int (4 : Int32)), .val (.double (FP.i2d p2)), .second, .val (.double (FP.i2d p3)), .second, .unset, .unset, .unset, .unset, .unset, .unset, .unset, .unset, .unset, .unset] [(.int (1 : Int32))])) _
        refine XS.goto X0.here hx rfl (pc0 := 225) (pc' := 229) rfl (hb hby at_225) (by decide) (by decide) ?_
        (try simp only [if_pos c221_13] at k); exact k
      · refine XS.ifYes X0.here hx rfl (pc0 := 221) (pc' := 228) rfl (hb hby at_221) rfl ((if0 _ _).trans (feq c221_13).2) (by decide) (by decide) ?_
        show Steps p.tables e below (s₁.setTop (mkF m 228 #[.val (.int p1), .val (.int p2), .val (.int p3), .val (.int p4), .val (.int (4 : Int32)), .val (.double (FP.i2d p2)), .second, .val (.double (FP.i2d p3)), .second, .unset, .unset, .unset, .unset, .unset, .unset, .unset, .unset, .unset, .unset] [])) _
        refine XS.iloadN X0.here hx rfl (hb hby at_228) rfl  ?_
        (try simp only [if_neg c221_13] at k); exact k
    show Go _ _ _ _ _ _ _  s₁ (mkF m 229 #[.val (.int p1), .val (.int p2), .val (.int p3), .val (.int p4), .val (.int (4 : Int32)), .val (.double (FP.i2d p2)), .second, .val (.double (FP.i2d p3)), .second, .unset, .unset, .unset, .unset, .unset, .unset, .unset, .unset, .unset, .unset] [(.int (if p3 = (0 : Int32) then (1 : Int32) else p3))])
    refine Go.st (fun t k => XS.istore X0.here hx rfl (hb hby at_229) rfl (l' := #[.val (.int p1), .val (.int p2), .val (.int p3), .val (.int p4), .val (.int (4 : Int32)), .val (.double (FP.i2d p2)), .second, .val (.double (FP.i2d p3)), .second, .val (.int (if p3 = (0 : Int32) then (1 : Int32) else p3)), .unset, .unset, .unset, .unset, .unset, .unset, .unset, .unset, .unset]) rfl k) ?_
    show Go _ _ _ _ _ _ _  s₁ (mkF m 231 #[.val (.int p1), .val (.int p2), .val (.int p3), .val (.int p4), .val (.int (4 : Int32)), .val (.double (FP.i2d p2)), .second, .val (.double (FP.i2d p3)), .second, .val (.int (if p3 = (0 : Int32) then (1 : Int32) else p3)), .unset, .unset, .unset, .unset, .unset, .unset, .unset, .unset, .unset] [])
    obtain ⟨bb, eq_bb⟩ : ∃ z, z = (if p3 = (0 : Int32) then (1 : Int32) else p3) := ⟨_, rfl⟩
    rw [← eq_bb]
    have hbb : bb ≠ 0 := by rw [eq_bb]; exact own_nz _
    show Go _ _ _ _ _ _ _  s₁ (mkF m 231 #[.val (.int p1), .val (.int p2), .val (.int p3), .val (.int p4), .val (.int (4 : Int32)), .val (.double (FP.i2d p2)), .second, .val (.double (FP.i2d p3)), .second, .val (.int bb), .unset, .unset, .unset, .unset, .unset, .unset, .unset, .unset, .unset] [])
    obtain ⟨T14, X14, e14, st14⟩ := getS2 X0 hx hZ hown (host := "") (Or.inl (hw _ (List.mem_of_getElem? (i := 17) rfl))) Via.refl e0 (S_REMAINDER.ext O.2) (g := (mkF m 231 #[.val (.int p1), .val (.int p2), .val (.int p3), .val (.int p4), .val (.int (4 : Int32)), .val (.double (FP.i2d p2)), .second, .val (.double (FP.i2d p3)), .second, .val (.int bb), .unset, .unset, .unset, .unset, .unset, .unset, .unset, .unset, .unset] [])) rfl (hb hby at_231)
    refine Go.st st14 ?_
    show Go _ _ _ _ _ _ _  T14 (mkF m 234 #[.val (.int p1), .val (.int p2), .val (.int p3), .val (.int p4), .val (.int (4 : Int32)), .val (.double (FP.i2d p2)), .second, .val (.double (FP.i2d p3)), .second, .val (.int bb), .unset, .unset, .unset, .unset, .unset, .unset, .unset, .unset, .unset] [(.ref w_REMAINDER)])
    refine Go.st (fun t k => XS.dload X14.here hx rfl (hb hby at_234) rfl k) ?_
    show Go _ _ _ _ _ _ _  T14 (mkF m 236 #[.val (.int p1), .val (.int p2), .val (.int p3), .val (.int p4), .val (.int (4 : Int32)), .val (.double (FP.i2d p2)), .second, .val (.double (FP.i2d p3)), .second, .val (.int bb), .unset, .unset, .unset, .unset, .unset, .unset, .unset, .unset, .unset] [(.double (FP.i2d p2)), (.ref w_REMAINDER)])
    refine Go.st (fun t k => XS.iload X14.here hx rfl (hb hby at_236) rfl  k) ?_
    show Go _ _ _ _ _ _ _  T14 (mkF m 238 #[.val (.int p1), .val (.int p2), .val (.int p3), .val (.int p4), .val (.int (4 : Int32)), .val (.double (FP.i2d p2)), .second, .val (.double (FP.i2d p3)), .second, .val (.int bb), .unset, .unset, .unset, .unset, .unset, .unset, .unset, .unset, .unset] [(.int bb), (.double (FP.i2d p2)), (.ref w_REMAINDER)])
    refine Go.st (fun t k => XS.i2dS X14.here hx rfl (hb hby at_238) rfl rfl k) ?_
    show Go _ _ _ _ _ _ _  T14 (mkF m 239 #[.val (.int p1), .val (.int p2), .val (.int p3), .val (.int p4), .val (.int (4 : Int32)), .val (.double (FP.i2d p2)), .second, .val (.double (FP.i2d p3)), .second, .val (.int bb), .unset, .unset, .unset, .unset, .unset, .unset, .unset, .unset, .unset] [(.double (FP.i2d bb)), (.double (FP.i2d p2)), (.ref w_REMAINDER)])
    obtain ⟨cq15, kq15, q15a, q15b, q15c⟩ := isOf hZ e14 (E_REMAINDER.ext O.2)
    obtain ⟨_, _, ⟨T15, L15, k15, n15⟩, -, X15, ⟨Lc15, hQ15, l15, y15, z15⟩, st15⟩ := X14.virtualBack hx (y := (⟨"com/example/sancho/sancho/model/ScriptExpression$ArithmeticOperator", "apply", "(DD)D"⟩ : MethodName)) (z := (⟨"com/example/sancho/sancho/model/ScriptExpression$ArithmeticOperator", "apply", "(DD)D"⟩ : MethodName)) hown (mvT hZ (hw _ (List.mem_of_getElem? (i := 3) rfl))) (mvT hZ (hw _ (List.mem_of_getElem? (i := 4) rfl))) (notFace_of_selects (args := #[]) (mvT hZ (hw _ (List.mem_of_getElem? (i := 6) rfl)))) (mvT hZ (hw _ (List.mem_of_getElem? (i := 6) rfl))) (mvT hZ (hw _ (List.mem_of_getElem? (i := 5) rfl))) (by decide) (backOf (W := 0) (rmS l Z a0 hw [] w_REMAINDER (FP.i2d p2) (FP.i2d bb) 4 h0 n0 O O_REMAINDER E_REMAINDER (by decide) (own_n4 _ _ hbb)) hZ (hw _ (List.mem_of_getElem? (i := 7) rfl)) (hw _ (List.mem_of_getElem? (i := 1) rfl)) (by decide) (by decide)) q15a q15c (g := (mkF m 239 #[.val (.int p1), .val (.int p2), .val (.int p3), .val (.int p4), .val (.int (4 : Int32)), .val (.double (FP.i2d p2)), .second, .val (.double (FP.i2d p3)), .second, .val (.int bb), .unset, .unset, .unset, .unset, .unset, .unset, .unset, .unset, .unset] [(.double (FP.i2d bb)), (.double (FP.i2d p2)), (.ref w_REMAINDER)])) rfl (by rw [hml]; rfl) (Steps.refl _) (argsL := [(.double (FP.i2d p2)), (.double (FP.i2d bb))]) (rest := []) (lenOf pd__DD_D rfl) rfl (by show 2 * 0 + _ ≤ _; exact Nat.le_of_eq rfl) (hb hby at_239) (fun _ _ => ⟨rfl, e14, (by decide : 0 + 0 ≤ _), (by decide : 0 + 0 ≤ _)⟩)
    dsimp only [Pt.U, Pt.locs, Pt.cells, Pt.slots] at X15 l15 y15 z15 st15 hQ15
    subst l15 y15 z15
    obtain ⟨rfl, N15q, e15q⟩ := hQ15
    have N15 := Fr.app N0 N15q
    refine Go.tr st15 ?_
    show Go _ _ _ _ _ _ _  T15 (mkF m 242 #[.val (.int p1), .val (.int p2), .val (.int p3), .val (.int p4), .val (.int (4 : Int32)), .val (.double (FP.i2d p2)), .second, .val (.double (FP.i2d p3)), .second, .val (.int bb), .unset, .unset, .unset, .unset, .unset, .unset, .unset, .unset, .unset] [(.double (applyF 4 (FP.i2d p2) (FP.i2d bb)))])
    refine Go.st (fun t k => XS.dstore X15.here hx rfl (hb hby at_242) rfl (l' := #[.val (.int p1), .val (.int p2), .val (.int p3), .val (.int p4), .val (.int (4 : Int32)), .val (.double (FP.i2d p2)), .second, .val (.double (FP.i2d p3)), .second, .val (.int bb), .val (.double (applyF 4 (FP.i2d p2) (FP.i2d bb))), .second, .unset, .unset, .unset, .unset, .unset, .unset, .unset]) rfl k) ?_
    show Go _ _ _ _ _ _ _  T15 (mkF m 244 #[.val (.int p1), .val (.int p2), .val (.int p3), .val (.int p4), .val (.int (4 : Int32)), .val (.double (FP.i2d p2)), .second, .val (.double (FP.i2d p3)), .second, .val (.int bb), .val (.double (applyF 4 (FP.i2d p2) (FP.i2d bb))), .second, .unset, .unset, .unset, .unset, .unset, .unset, .unset] [])
    refine Go.st (fun t k => XS.dload X15.here hx rfl (hb hby at_244) rfl k) ?_
    show Go _ _ _ _ _ _ _  T15 (mkF m 246 #[.val (.int p1), .val (.int p2), .val (.int p3), .val (.int p4), .val (.int (4 : Int32)), .val (.double (FP.i2d p2)), .second, .val (.double (FP.i2d p3)), .second, .val (.int bb), .val (.double (applyF 4 (FP.i2d p2) (FP.i2d bb))), .second, .unset, .unset, .unset, .unset, .unset, .unset, .unset] [(.double (applyF 4 (FP.i2d p2) (FP.i2d bb)))])
    refine Go.st (fun t k => XS.iloadN X15.here hx rfl (hb hby at_246) rfl  k) ?_
    show Go _ _ _ _ _ _ _  T15 (mkF m 247 #[.val (.int p1), .val (.int p2), .val (.int p3), .val (.int p4), .val (.int (4 : Int32)), .val (.double (FP.i2d p2)), .second, .val (.double (FP.i2d p3)), .second, .val (.int bb), .val (.double (applyF 4 (FP.i2d p2) (FP.i2d bb))), .second, .unset, .unset, .unset, .unset, .unset, .unset, .unset] [(.int p2), (.double (applyF 4 (FP.i2d p2) (FP.i2d bb)))])
    refine Go.st (fun t k => XS.i2l X15.here hx rfl (hb hby at_247) rfl k) ?_
    show Go _ _ _ _ _ _ _  T15 (mkF m 248 #[.val (.int p1), .val (.int p2), .val (.int p3), .val (.int p4), .val (.int (4 : Int32)), .val (.double (FP.i2d p2)), .second, .val (.double (FP.i2d p3)), .second, .val (.int bb), .val (.double (applyF 4 (FP.i2d p2) (FP.i2d bb))), .second, .unset, .unset, .unset, .unset, .unset, .unset, .unset] [(.long (p2.toInt64)), (.double (applyF 4 (FP.i2d p2) (FP.i2d bb)))])
    refine Go.st (fun t k => XS.iload X15.here hx rfl (hb hby at_248) rfl  k) ?_
    show Go _ _ _ _ _ _ _  T15 (mkF m 250 #[.val (.int p1), .val (.int p2), .val (.int p3), .val (.int p4), .val (.int (4 : Int32)), .val (.double (FP.i2d p2)), .second, .val (.double (FP.i2d p3)), .second, .val (.int bb), .val (.double (applyF 4 (FP.i2d p2) (FP.i2d bb))), .second, .unset, .unset, .unset, .unset, .unset, .unset, .unset] [(.int bb), (.long (p2.toInt64)), (.double (applyF 4 (FP.i2d p2) (FP.i2d bb)))])
    refine Go.st (fun t k => XS.i2l X15.here hx rfl (hb hby at_250) rfl k) ?_
    show Go _ _ _ _ _ _ _  T15 (mkF m 251 #[.val (.int p1), .val (.int p2), .val (.int p3), .val (.int p4), .val (.int (4 : Int32)), .val (.double (FP.i2d p2)), .second, .val (.double (FP.i2d p3)), .second, .val (.int bb), .val (.double (applyF 4 (FP.i2d p2) (FP.i2d bb))), .second, .unset, .unset, .unset, .unset, .unset, .unset, .unset] [(.long (bb.toInt64)), (.long (p2.toInt64)), (.double (applyF 4 (FP.i2d p2) (FP.i2d bb)))])
    refine Go.st (fun t k => XS.lrem X15.here hx rfl (hb hby at_251) rfl (own_nz64 hbb) k) ?_
    show Go _ _ _ _ _ _ _  T15 (mkF m 252 #[.val (.int p1), .val (.int p2), .val (.int p3), .val (.int p4), .val (.int (4 : Int32)), .val (.double (FP.i2d p2)), .second, .val (.double (FP.i2d p3)), .second, .val (.int bb), .val (.double (applyF 4 (FP.i2d p2) (FP.i2d bb))), .second, .unset, .unset, .unset, .unset, .unset, .unset, .unset] [(.long ((p2.toInt64) - ((p2.toInt64) / (bb.toInt64)) * (bb.toInt64))), (.double (applyF 4 (FP.i2d p2) (FP.i2d bb)))])
    rw [lrem_mod]
    show Go _ _ _ _ _ _ _  T15 (mkF m 252 #[.val (.int p1), .val (.int p2), .val (.int p3), .val (.int p4), .val (.int (4 : Int32)), .val (.double (FP.i2d p2)), .second, .val (.double (FP.i2d p3)), .second, .val (.int bb), .val (.double (applyF 4 (FP.i2d p2) (FP.i2d bb))), .second, .unset, .unset, .unset, .unset, .unset, .unset, .unset] [(.long ((p2.toInt64) % (bb.toInt64))), (.double (applyF 4 (FP.i2d p2) (FP.i2d bb)))])
    refine Go.st (fun t k => XS.l2dS X15.here hx rfl (hb hby at_252) rfl rfl k) ?_
    show Go _ _ _ _ _ _ _  T15 (mkF m 253 #[.val (.int p1), .val (.int p2), .val (.int p3), .val (.int p4), .val (.int (4 : Int32)), .val (.double (FP.i2d p2)), .second, .val (.double (FP.i2d p3)), .second, .val (.int bb), .val (.double (applyF 4 (FP.i2d p2) (FP.i2d bb))), .second, .unset, .unset, .unset, .unset, .unset, .unset, .unset] [(.double (FP.l2d ((p2.toInt64) % (bb.toInt64)))), (.double (applyF 4 (FP.i2d p2) (FP.i2d bb)))])
    refine Go.st (fun t k => XS.dcmpS X15.here hx rfl (hb hby at_253) rfl rfl k) ?_
    show Go _ _ _ _ _ _ _  T15 (mkF m 254 #[.val (.int p1), .val (.int p2), .val (.int p3), .val (.int p4), .val (.int (4 : Int32)), .val (.double (FP.i2d p2)), .second, .val (.double (FP.i2d p3)), .second, .val (.int bb), .val (.double (applyF 4 (FP.i2d p2) (FP.i2d bb))), .second, .unset, .unset, .unset, .unset, .unset, .unset, .unset] [(.int (cmpValue (FP.dcmp (applyF 4 (FP.i2d p2) (FP.i2d bb)) (FP.l2d ((p2.toInt64) % (bb.toInt64)))) .l))])
    refine Go.st (fun t k => XS.ifNo X15.here hx rfl (hb hby at_254) rfl ((if0 _ _).trans (teq (own_c4 _ _ hbb : (cmpValue (FP.dcmp (applyF 4 (FP.i2d p2) (FP.i2d bb)) (FP.l2d ((p2.toInt64) % (bb.toInt64)))) .l) = (0 : Int32))).2) k) ?_
    show Go _ _ _ _ _ _ _  T15 (mkF m 257 #[.val (.int p1), .val (.int p2), .val (.int p3), .val (.int p4), .val (.int (4 : Int32)), .val (.double (FP.i2d p2)), .second, .val (.double (FP.i2d p3)), .second, .val (.int bb), .val (.double (applyF 4 (FP.i2d p2) (FP.i2d bb))), .second, .unset, .unset, .unset, .unset, .unset, .unset, .unset] [])
    refine Go.st (fun t k => XS.iconst X15.here hx rfl (hb hby at_257) k) ?_
    show Go _ _ _ _ _ _ _  T15 (mkF m 258 #[.val (.int p1), .val (.int p2), .val (.int p3), .val (.int p4), .val (.int (4 : Int32)), .val (.double (FP.i2d p2)), .second, .val (.double (FP.i2d p3)), .second, .val (.int bb), .val (.double (applyF 4 (FP.i2d p2) (FP.i2d bb))), .second, .unset, .unset, .unset, .unset, .unset, .unset, .unset] [(.int (1 : Int32))])
    refine Go.st (fun t k => XS.goto X15.here hx rfl (pc0 := 258) (pc' := 262) rfl (hb hby at_258) (by decide) (by decide) k) ?_
    show Go _ _ _ _ _ _ _  T15 (mkF m 262 #[.val (.int p1), .val (.int p2), .val (.int p3), .val (.int p4), .val (.int (4 : Int32)), .val (.double (FP.i2d p2)), .second, .val (.double (FP.i2d p3)), .second, .val (.int bb), .val (.double (applyF 4 (FP.i2d p2) (FP.i2d bb))), .second, .unset, .unset, .unset, .unset, .unset, .unset, .unset] [(.int (1 : Int32))])
    refine Go.retN X15 hlk hx (t := .boolean) (z' := (1 : Int32)) Bd.returns (by simp) (hb hby at_262) (by decide) (by decide) rfl ?_
    show Q_rm0 Z _ _ _ _ _ _ _ _ _ h0 n0 _ T15.heap _
    rw [e15q]
    exact ⟨rfl, N15⟩
set_option maxRecDepth 65536 in
set_option maxHeartbeats 40000000 in
theorem comes_1 {Post : Tables → Env → Array Value → State → Outcome → State → Prop} (hpost : ∀ tb e args s v u, (limb_1_1.after args s (.returned v) u = true ∧ limb_1_2.after args s (.returned v) u = true ∧ True) → FrameEnd s (.returned v) u (Jvm.fieldLocs frame_1_writes args s ++ Jvm.arrayLocs frame_1_arrays args s ++ Jvm.staticLocs frame_1_statics s) 0 0 → Post tb e args s (.returned v) u) :
    ArmFor flags0 classFile x code maxLocals ret World_1 tables_1 room_1 Calls_1 rest_1 Pre_1 Post := by
  intro l hfl _ _ p e ha hc hk s m args below hf hA hF happ hP
  obtain ⟨hcalls, hrest, hpre⟩ := hP
  obtain ⟨-, -, -, hnamed, -, -, -, hat⟩ := (Spec.applies_iff hf).mp happ
  obtain ⟨hg, hn⟩ := and_e (Cond.before_iff.mp (show (Jvm.Cond.and given_1 narrow_1).before args s = true from hpre))
  obtain ⟨g1, g2⟩ := and_e hg
  obtain ⟨g3, g4⟩ := and_e g2
  obtain ⟨g5, g6⟩ := and_e g4
  obtain ⟨g7, g8⟩ := and_e g6
  obtain ⟨w0, w1, w2, w3, rfl⟩ : ∃ w0 w1 w2 w3 : Value, args = #[w0, w1, w2, w3] := by
    have hs : args.size = 4 := by simpa [Cond.value, given_1] using g1
    obtain ⟨L⟩ := args
    match L, hs with
    | [w0, w1, w2, w3], _ => exact ⟨w0, w1, w2, w3, rfl⟩
  have hw := fun d (hd : d ∈ tables_1) => atoms_spec (ws := Jvm.Cond.code x code maxLocals ret :: tables_1) hat d (List.mem_cons_of_mem _ hd)
  have hfit : Fit s := fun {y c} hc i hi => by
    obtain ⟨ha, rfl⟩ := Array.getElem?_eq_some_iff.mp hc
    have q := List.all_eq_true.mp ((Array.all_eq_true_iff_forall_mem.mp hF) _ (Array.getElem_mem ha)) i (List.mem_range.mpr hi)
    simpa [Array.getElem?_eq_getElem hi] using q
  obtain ⟨i0, ei0⟩ := is_v g3
  obtain rfl : w0 = (.int i0) := Option.some.inj ei0
  obtain ⟨i1, ei1⟩ := is_v g5
  obtain rfl : w1 = (.int i1) := Option.some.inj ei1
  obtain ⟨i2, ei2⟩ := is_v g7
  obtain rfl : w2 = (.int i2) := Option.some.inj ei2
  obtain ⟨i3, ei3⟩ := is_v g8
  obtain rfl : w3 = (.int i3) := Option.some.inj ei3
  obtain ⟨nr1, nr2⟩ := and_e hn
  obtain ⟨nr3, nr4⟩ := and_e nr2
  obtain ⟨nr5, nr6⟩ := and_e nr4
  obtain ⟨nr7, nr8⟩ := and_e nr6
  obtain ⟨nr9, nr10⟩ := and_e nr8
  obtain ⟨nr11, nr12⟩ := and_e nr10
  obtain ⟨nr13, nr14⟩ := and_e nr12
  obtain ⟨nr15, nr16⟩ := and_e nr14
  obtain ⟨nr17, nr18⟩ := and_e nr16
  obtain ⟨w_ADD, S_ADD, E_ADD, O_ADD⟩ := own_en nr1 nr3 (hw _ (List.mem_of_getElem? (i := 1) rfl)) (hw _ (List.mem_of_getElem? (i := 2) rfl))
  obtain ⟨w_SUBTRACT, S_SUBTRACT, E_SUBTRACT, O_SUBTRACT⟩ := own_en nr13 nr15 (hw _ (List.mem_of_getElem? (i := 1) rfl)) (hw _ (List.mem_of_getElem? (i := 22) rfl))
  obtain ⟨w_MULTIPLY, S_MULTIPLY, E_MULTIPLY, O_MULTIPLY⟩ := own_en nr9 nr11 (hw _ (List.mem_of_getElem? (i := 1) rfl)) (hw _ (List.mem_of_getElem? (i := 20) rfl))
  obtain ⟨w_DIVIDE, S_DIVIDE, E_DIVIDE, O_DIVIDE⟩ := own_en nr17 nr18 (hw _ (List.mem_of_getElem? (i := 1) rfl)) (hw _ (List.mem_of_getElem? (i := 24) rfl))
  obtain ⟨w_REMAINDER, S_REMAINDER, E_REMAINDER, O_REMAINDER⟩ := own_en nr5 nr7 (hw _ (List.mem_of_getElem? (i := 1) rfl)) (hw _ (List.mem_of_getElem? (i := 18) rfl))
  obtain ⟨n, o, h1, h2, h3, _, L, rfl, ⟨rfl, N⟩, hq⟩ := rm0 l s _ hw tables_1 i0 i1 i2 i3 w_ADD w_SUBTRACT w_MULTIPLY w_DIVIDE w_REMAINDER s.heap s.heap.size (Old.start s) S_ADD S_SUBTRACT S_MULTIPLY S_DIVIDE S_REMAINDER E_ADD E_SUBTRACT E_MULTIPLY E_DIVIDE E_REMAINDER O_ADD O_SUBTRACT O_MULTIPLY O_DIVIDE O_REMAINDER p e ha hc hk s m _ below hf ((Spec.applies_iff_loose hf).mp happ).1 ⟨rfl, State.Warmed39.refl s, rfl⟩ trivial
  refine ⟨n, _, h1, h2, h3, hpost _ _ _ _ _ _ ⟨Cond.after_iff.mpr rfl, Cond.after_iff.mpr (eq_i res_at (Term.int_eval (1)) rfl), trivial⟩ ⟨hq.1, hq.2.1, (hq.2.2.sift fun y hy => Or.inr (N y hy)).mono (by decide) (by decide)⟩⟩
theorem main_1_1 : Claimed_1_1 := comes_1 fun _ _ _ _ _ _ h hF => ⟨h.1, hF⟩
theorem main_1_2 : Claimed_1_2 := comes_1 fun _ _ _ _ _ _ h hF => ⟨h.2.1, hF⟩
end Jvm.Pilot.@@N@@
namespace Jvm.Pilot.@@N@@
open Jvm Jvm.ClassFile Sem Op Lib Jvm.Free Jvm.Stand Jvm.Pilot.@@N@@.Jvm.D
/-! MADE BY PROGRAM (witnessworld.py) out of the Statement's table words and the real class files: 12 classes; the members and pool entries that the words name. The judged class is class 1, her method 1. -/
namespace start1
open Jvm.ClassFile
def u (s : String) : CpInfo := .utf8 (stringToUtf16 s)
/-- a pool by its gaps: so many unusable entries, then the entry; so many at the end -/
def gap : Nat → List CpInfo → List CpInfo
  | 0, r => r
  | n + 1, r => .unusable :: gap n r
def poolList (es : List (Nat × CpInfo)) (last : Nat) : List CpInfo := es.foldr (fun e r => gap e.1 (e.2 :: r)) (gap last [])
def pool (es : List (Nat × CpInfo)) (last : Nat) : Array CpInfo := ⟨poolList es last⟩
def fileOf (pool : Array CpInfo) (this : Nat) (attrs : Array Attribute := #[]) (ms : Array MethodInfo := #[]) (fl : Nat := 33) (sup : Nat := 0) (ifs : Array Nat := #[]) (fds : Array FieldInfo := #[]) : ClassFile where
  minorVersion := 0
  majorVersion := 65
  constantPool := pool
  accessFlags := fl
  thisClass := this
  superClass := sup
  interfaces := ifs
  fields := fds
  methods := ms
  attributes := attrs
def plain (name : String) (sup : Option ClassId) : Class where
  name := name
  kind := .ordinary
  loader := none
  accessFlags := 33
  super := sup
  interfaces := #[]
  cf := none
  fields := #[]
  methods := #[]
  instanceTypes := #[]
  staticTypes := #[]
  resolved := #[]
  callSites := []
  init := .initialized
  statics := none
  mirror := none

def pool0 : Array CpInfo := pool [(5, u "<init>"), (0, u "()V"), (1, .class_ 10), (1, u "java/lang/Object")] 113

def k0m0 : Method := { name := "<init>", desc := "()V", sig := { parameters := [], returnType := none }, accessFlags := 1, code := none }
/-- java/lang/Object -/
def k0 : Class := { plain "java/lang/Object" none with
  accessFlags := 33
  interfaces := #[]
  cf := some (fileOf pool0 8 #[] #[{ accessFlags := 1, nameIndex := 5, descriptorIndex := 6, attributes := #[] }] 33 0 #[] #[])
  fields := #[]
  methods := #[k0m0]
  instanceTypes := #[]
  staticTypes := #[]
  resolved := Array.replicate 124 none
  statics := none }

def pool1 : Array CpInfo := pool [(2, .class_ 4), (1, u "java/lang/Object"), (0, u "<init>"), (0, u "()V"), (0, .fieldref 8 9), (0, .class_ 10), (0, .nameAndType 11 12), (0, u "com/example/sancho/sancho/model/ScriptExpression$ArithmeticOperator"), (0, u "ADD"), (0, u "Lcom/example/sancho/sancho/model/ScriptExpression$ArithmeticOperator;"), (0, .methodref 8 14), (0, .nameAndType 15 16), (0, u "apply"), (0, u "(DD)D"), (0, .fieldref 8 18), (0, .nameAndType 19 12), (0, u "SUBTRACT"), (0, .fieldref 8 21), (0, .nameAndType 22 12), (0, u "MULTIPLY"), (0, .fieldref 8 24), (0, .nameAndType 25 12), (0, u "DIVIDE"), (0, .long 2), (1, .double 4611686018427387904), (1, .double 4602678819172646912), (1, .fieldref 8 33), (0, .nameAndType 34 12), (0, u "REMAINDER"), (0, .class_ 36), (0, u "com/example/sancho/sancho/model/ArithmeticOperatorApplyPinLaw"), (2, u "law"), (0, u "(IIII)Z")] 7

def k1m0 : Method := { name := "<init>", desc := "()V", sig := { parameters := [], returnType := none }, accessFlags := 2, code := none }
def k1c1 : Code := { maxStack := 6, maxLocals := 19, code := code, exceptionTable := #[], attributes := #[] }
def k1m1 : Method := { name := "law", desc := "(IIII)Z", sig := { parameters := [.int, .int, .int, .int], returnType := some .boolean }, accessFlags := 9, code := some k1c1 }
/-- com/example/sancho/sancho/model/ArithmeticOperatorApplyPinLaw -/
def k1 : Class := { plain "com/example/sancho/sancho/model/ArithmeticOperatorApplyPinLaw" (some 0) with
  accessFlags := 49
  interfaces := #[]
  cf := some (fileOf pool1 35 #[] #[{ accessFlags := 2, nameIndex := 5, descriptorIndex := 6, attributes := #[] }, { accessFlags := 9, nameIndex := 39, descriptorIndex := 40, attributes := #[] }] 49 2 #[] #[])
  fields := #[]
  methods := #[k1m0, k1m1]
  instanceTypes := #[]
  staticTypes := #[]
  resolved := Array.replicate 48 none
  statics := none }

def pool2 : Array CpInfo := pool [(1, .class_ 2), (0, u "java/lang/constant/Constable"), (0, .class_ 4), (0, u "java/lang/Object")] 6

/-- java/lang/constant/Constable -/
def k2 : Class := { plain "java/lang/constant/Constable" (some 0) with
  accessFlags := 1537
  interfaces := #[]
  cf := some (fileOf pool2 1 #[] #[] 1537 3 #[] #[])
  fields := #[]
  methods := #[]
  instanceTypes := #[]
  staticTypes := #[]
  resolved := Array.replicate 11 none
  statics := none }

def pool3 : Array CpInfo := pool [(1, .class_ 2), (0, u "java/lang/Comparable"), (0, .class_ 4), (0, u "java/lang/Object")] 7

/-- java/lang/Comparable -/
def k3 : Class := { plain "java/lang/Comparable" (some 0) with
  accessFlags := 1537
  interfaces := #[]
  cf := some (fileOf pool3 1 #[] #[] 1537 3 #[] #[])
  fields := #[]
  methods := #[]
  instanceTypes := #[]
  staticTypes := #[]
  resolved := Array.replicate 12 none
  statics := none }

def pool4 : Array CpInfo := pool [(1, .class_ 2), (0, u "java/io/Serializable"), (0, .class_ 4), (0, u "java/lang/Object")] 2

/-- java/io/Serializable -/
def k4 : Class := { plain "java/io/Serializable" (some 0) with
  accessFlags := 1537
  interfaces := #[]
  cf := some (fileOf pool4 1 #[] #[] 1537 3 #[] #[])
  fields := #[]
  methods := #[]
  instanceTypes := #[]
  staticTypes := #[]
  resolved := Array.replicate 7 none
  statics := none }

def pool5 : Array CpInfo := pool [(2, .class_ 4), (1, u "java/lang/Enum"), (0, u "name"), (0, u "Ljava/lang/String;"), (0, .fieldref 2 8), (0, .nameAndType 9 10), (0, u "ordinal"), (0, u "I"), (1, .class_ 14), (1, u "java/lang/Object"), (4, u "hash"), (86, .class_ 108), (1, u "java/lang/Enum$EnumDesc"), (2, .class_ 112), (0, u "java/lang/constant/Constable"), (0, .class_ 114), (0, u "java/lang/Comparable"), (0, .class_ 116), (0, u "java/io/Serializable"), (9, u "()I")] 77

def k5c0 : Code := { maxStack := 1, maxLocals := 1, code := jdk_37_method_2_code, exceptionTable := #[], attributes := #[] }
def k5m0 : Method := { name := "ordinal", desc := "()I", sig := { parameters := [], returnType := some .int }, accessFlags := 17, code := some k5c0 }
/-- java/lang/Enum -/
def k5 : Class := { plain "java/lang/Enum" (some 0) with
  accessFlags := 1057
  interfaces := #[2, 3, 4]
  cf := some (fileOf pool5 2 #[.nestMembers #[106]] #[{ accessFlags := 17, nameIndex := 9, descriptorIndex := 126, attributes := #[] }] 1057 12 #[111, 113, 115] #[{ accessFlags := 18, nameIndex := 5, descriptorIndex := 6, attributes := #[] }, { accessFlags := 18, nameIndex := 9, descriptorIndex := 10, attributes := #[] }, { accessFlags := 2, nameIndex := 19, descriptorIndex := 10, attributes := #[] }])
  fields := #[{ name := "name", type := (.object "java/lang/String"), accessFlags := 18, slot := 0, constantValue := 0 }, { name := "ordinal", type := .int, accessFlags := 18, slot := 1, constantValue := 0 }, { name := "hash", type := .int, accessFlags := 2, slot := 2, constantValue := 0 }]
  methods := #[k5m0]
  instanceTypes := #[(.object "java/lang/String"), .int, .int]
  staticTypes := #[]
  resolved := Array.replicate 204 none
  statics := none }

def pool6 : Array CpInfo := pool [(1, .class_ 2), (0, u "com/example/sancho/sancho/model/ScriptExpression$ArithmeticOperator"), (2, u "ADD"), (0, u "Lcom/example/sancho/sancho/model/ScriptExpression$ArithmeticOperator;"), (2, u "SUBTRACT"), (2, u "MULTIPLY"), (2, u "DIVIDE"), (2, u "REMAINDER"), (2, u "$VALUES"), (0, u "[Lcom/example/sancho/sancho/model/ScriptExpression$ArithmeticOperator;"), (6, .class_ 31), (1, u "java/lang/Enum"), (6, .methodref 1 39), (0, .nameAndType 40 41), (0, u "ordinal"), (0, u "()I"), (22, u "apply"), (0, u "(DD)D"), (6, .class_ 73), (0, u "com/example/sancho/sancho/model/ScriptExpression")] 2

def k6c0 : Code := { maxStack := 4, maxLocals := 7, code := prog_23_method_4_code, exceptionTable := #[], attributes := #[] }
def k6m0 : Method := { name := "apply", desc := "(DD)D", sig := { parameters := [.double, .double], returnType := some .double }, accessFlags := 0, code := some k6c0 }
/-- com/example/sancho/sancho/model/ScriptExpression$ArithmeticOperator -/
def k6 : Class := { plain "com/example/sancho/sancho/model/ScriptExpression$ArithmeticOperator" (some 5) with
  accessFlags := 16433
  interfaces := #[]
  cf := some (fileOf pool6 1 #[.nestHost 72] #[{ accessFlags := 0, nameIndex := 64, descriptorIndex := 65, attributes := #[] }] 16433 29 #[] #[{ accessFlags := 16409, nameIndex := 5, descriptorIndex := 6, attributes := #[] }, { accessFlags := 16409, nameIndex := 9, descriptorIndex := 6, attributes := #[] }, { accessFlags := 16409, nameIndex := 12, descriptorIndex := 6, attributes := #[] }, { accessFlags := 16409, nameIndex := 15, descriptorIndex := 6, attributes := #[] }, { accessFlags := 16409, nameIndex := 18, descriptorIndex := 6, attributes := #[] }, { accessFlags := 4122, nameIndex := 21, descriptorIndex := 22, attributes := #[] }])
  fields := #[{ name := "ADD", type := (.object "com/example/sancho/sancho/model/ScriptExpression$ArithmeticOperator"), accessFlags := 16409, slot := 0, constantValue := 0 }, { name := "SUBTRACT", type := (.object "com/example/sancho/sancho/model/ScriptExpression$ArithmeticOperator"), accessFlags := 16409, slot := 1, constantValue := 0 }, { name := "MULTIPLY", type := (.object "com/example/sancho/sancho/model/ScriptExpression$ArithmeticOperator"), accessFlags := 16409, slot := 2, constantValue := 0 }, { name := "DIVIDE", type := (.object "com/example/sancho/sancho/model/ScriptExpression$ArithmeticOperator"), accessFlags := 16409, slot := 3, constantValue := 0 }, { name := "REMAINDER", type := (.object "com/example/sancho/sancho/model/ScriptExpression$ArithmeticOperator"), accessFlags := 16409, slot := 4, constantValue := 0 }, { name := "$VALUES", type := (.array (.object "com/example/sancho/sancho/model/ScriptExpression$ArithmeticOperator")), accessFlags := 4122, slot := 5, constantValue := 0 }]
  methods := #[k6m0]
  instanceTypes := #[(.object "java/lang/String"), .int, .int]
  staticTypes := #[(.object "com/example/sancho/sancho/model/ScriptExpression$ArithmeticOperator"), (.object "com/example/sancho/sancho/model/ScriptExpression$ArithmeticOperator"), (.object "com/example/sancho/sancho/model/ScriptExpression$ArithmeticOperator"), (.object "com/example/sancho/sancho/model/ScriptExpression$ArithmeticOperator"), (.object "com/example/sancho/sancho/model/ScriptExpression$ArithmeticOperator"), (.array (.object "com/example/sancho/sancho/model/ScriptExpression$ArithmeticOperator"))]
  resolved := Array.replicate 76 none
  statics := some 0 }

def pool7 : Array CpInfo := pool [(1, u "java/lang/Cloneable"), (0, .class_ 1), (0, u "java/lang/Object"), (0, .class_ 3)] 3

/-- java/lang/Cloneable -/
def k7 : Class := { plain "java/lang/Cloneable" (some 0) with
  accessFlags := 1537
  interfaces := #[]
  cf := some (fileOf pool7 2 #[] #[] 1537 4 #[] #[])
  fields := #[]
  methods := #[]
  instanceTypes := #[]
  staticTypes := #[]
  resolved := Array.replicate 8 none
  statics := none }

/-- the primitive byte -/
def k8 : Class := { plain "byte" none with kind := .primitive 'B', accessFlags := 0x411 }
/-- [B -/
def k9 : Class := { plain "[B" (some 0) with kind := .array 8 .byte, interfaces := #[7, 4], accessFlags := 1041 }

/-- the primitive int -/
def k10 : Class := { plain "int" none with kind := .primitive 'I', accessFlags := 0x411 }
/-- [I -/
def k11 : Class := { plain "[I" (some 0) with kind := .array 10 .int, interfaces := #[7, 4], accessFlags := 1041 }

def heap : Heap := #[{ cls := 6, slots := #[.ref 1, .ref 2, .ref 3, .ref 4, .ref 5, .null], vm := .statics 6 },
  { cls := 6, slots := #[.null, .int 0, .int 0], vm := .none },
  { cls := 6, slots := #[.null, .int 1, .int 0], vm := .none },
  { cls := 6, slots := #[.null, .int 2, .int 0], vm := .none },
  { cls := 6, slots := #[.null, .int 3, .int 0], vm := .none },
  { cls := 6, slots := #[.null, .int 4, .int 0], vm := .none }]
def classes : Array Class := #[k0, k1, k2, k3, k4, k5, k6, k7, k8, k9, k10, k11]
def interned : List (Array UInt16 × Addr) := []
def slotsUsed : Nat := 21
def theMethod : MethodId := ⟨1, 1⟩
def args0 : Array Value := #[.int 5, .int 7, .int 9, .int 11]
def aboutOver (below : List Frame) : State where
  vm := { classes := classes, interned := interned.toArray }
  heap := heap
  slotsUsed := slotsUsed
  threads := #[{ frames := .invoking theMethod args0 :: below }]
def below0 : List Frame := [.native { method := ⟨0, 0⟩, args := #[] }]
def about1 : State := aboutOver below0
def p0 : Program := .bare "" "" ""
def e0 : Env := launch0.env 0 0 0
theorem w_frames : about1.frames = Frame.invoking theMethod args0 :: below0 := rfl
set_option maxRecDepth 65536 in
theorem w_args : argsFit about1.vm theMethod args0 = true := by decide +kernel
set_option maxRecDepth 65536 in
theorem w_heap : heapFits about1 = true := by decide +kernel
set_option maxRecDepth 65536 in
theorem w_runnable : about1.curStatus? = some .runnable := by decide +kernel
set_option maxRecDepth 65536 in
theorem w_alone : about1.alone = true := by decide +kernel
set_option maxRecDepth 65536 in
theorem w_named : about1.methodNamed? x = some theMethod := by decide +kernel
set_option maxRecDepth 65536 in
theorem w_hears : about1.hears theMethod below0 = true := by decide +kernel
set_option maxRecDepth 65536 in
theorem w_ripe : about1.ripe theMethod args0 below0 = true := by decide +kernel
theorem w_running : about1.status = .running := rfl
set_option maxRecDepth 65536 in
theorem w_room : about1.hasRoom e0.platform room_1 = true :=
  launch0.hasRoom_least _ room_1 (by decide +kernel) (by decide +kernel) (by decide +kernel) (by decide +kernel) (by decide +kernel) (by decide +kernel)
theorem allAtoms_all (ts : List Jvm.Cond) (a : Array Jvm.Value) (st : Jvm.State) : (allAtoms ts).before a st = ts.all (fun c => c.before a st) := by
  induction ts with
  | nil => rfl
  | cons c t ih =>
    show (Jvm.Cond.and c (allAtoms t)).before a st = _
    rw [Jvm.Cond.before_and, ih, List.all_cons]
def words1 : List Jvm.Cond := Jvm.Cond.code x code maxLocals ret :: tables_1
/-- a 'code' word, met by the world's own term for the bytes: nothing is compared byte by byte -/
theorem code_word {y : MethodName} {bytes : ByteArray} {mx : Nat} {rt : Option FieldType} {a : Array Value} {s : State} {m : MethodId} {meth : Method} {c : Code} (h1 : s.methodNamed? y = some m) (h2 : s.vm.method? m = some meth) (h3 : meth.code = some c) (h4 : c.code = bytes)
    (h5 : (c.maxLocals == mx && c.exceptionTable.isEmpty && decide (c.maxStack ≤ mostOperands) && decide (meth.sig.returnType = rt) && !meth.locks && decide (parseMethodDescriptor y.desc = some meth.sig)) = true) : (Jvm.Cond.code y bytes mx rt).before a s = true := by
  simp only [Bool.and_eq_true, beq_iff_eq, Bool.not_eq_true', decide_eq_true_eq] at h5
  obtain ⟨⟨⟨⟨⟨g1, g2⟩, g3⟩, g4⟩, g5⟩, g6⟩ := h5
  simp [Cond.before, Cond.holds, Cond.value, h1, h2, h3, h4, g1, g2, g3, g4, g5, g6]
def isCode : Jvm.Cond → Bool
  | .code _ _ _ _ => true
  | _ => false
theorem all_split {L : List Jvm.Cond} {P : Jvm.Cond → Bool} (h1 : L.all (fun c => isCode c || P c) = true) (h2 : ∀ c ∈ L.filter isCode, P c = true) : L.all P = true := by
  refine List.all_eq_true.mpr fun c hc => ?_
  have h := List.all_eq_true.mp h1 c hc
  rcases Bool.eq_false_or_eq_true (isCode c) with hi | hi
  · exact h2 c (List.mem_filter.mpr ⟨hc, hi⟩)
  · simpa [hi] using h
set_option maxRecDepth 65536 in
theorem w_c0 : (Jvm.Cond.code x code maxLocals ret).before args0 about1 = true := code_word (m := ⟨1, 1⟩) (meth := k1m1) (c := k1c1) (by decide +kernel) rfl rfl rfl (by decide +kernel)
set_option maxRecDepth 65536 in
theorem w_c1 : (Jvm.Cond.code ({ cls := "com/example/sancho/sancho/model/ScriptExpression$ArithmeticOperator", name := "apply", desc := "(DD)D" } : Jvm.MethodName) prog_23_method_4_code (7 : Nat) (Option.some Jvm.ClassFile.FieldType.double)).before args0 about1 = true := code_word (m := ⟨6, 0⟩) (meth := k6m0) (c := k6c0) (by decide +kernel) rfl rfl rfl (by decide +kernel)
set_option maxRecDepth 65536 in
theorem w_c2 : (Jvm.Cond.code ({ cls := "java/lang/Enum", name := "ordinal", desc := "()I" } : Jvm.MethodName) jdk_37_method_2_code (1 : Nat) (Option.some Jvm.ClassFile.FieldType.int)).before args0 about1 = true := code_word (m := ⟨5, 0⟩) (meth := k5m0) (c := k5c0) (by decide +kernel) rfl rfl rfl (by decide +kernel)
def codes1 : List Jvm.Cond := [Jvm.Cond.code x code maxLocals ret, Jvm.Cond.code ({ cls := "com/example/sancho/sancho/model/ScriptExpression$ArithmeticOperator", name := "apply", desc := "(DD)D" } : Jvm.MethodName) prog_23_method_4_code (7 : Nat) (Option.some Jvm.ClassFile.FieldType.double), Jvm.Cond.code ({ cls := "java/lang/Enum", name := "ordinal", desc := "()I" } : Jvm.MethodName) jdk_37_method_2_code (1 : Nat) (Option.some Jvm.ClassFile.FieldType.int)]
set_option maxRecDepth 65536 in
theorem codes_eq : words1.filter isCode = codes1 := rfl
theorem w_codes : ∀ c ∈ words1.filter isCode, c.before args0 about1 = true := by
  rw [codes_eq]
  intro c hc
  simp only [codes1, List.mem_cons, List.not_mem_nil, or_false] at hc
  rcases hc with rfl | rfl | rfl
  · exact w_c0
  · exact w_c1
  · exact w_c2
set_option maxRecDepth 65536 in
theorem w_t1 : (words1.take 24).all (fun c => isCode c || c.before args0 about1) = true := by decide +kernel
set_option maxRecDepth 65536 in
theorem w_t2 : (words1.drop 24).all (fun c => isCode c || c.before args0 about1) = true := by decide +kernel
theorem w_tables : (allAtoms (Jvm.Cond.code x code maxLocals ret :: tables_1)).before args0 about1 = true := by
  rw [allAtoms_all]
  show words1.all (fun c => c.before args0 about1) = true
  refine all_split ?_ w_codes
  rw [← List.take_append_drop 24 words1, List.all_append, w_t1, w_t2]
  rfl
set_option maxRecDepth 65536 in
theorem w_case : (Jvm.Cond.and given_1 narrow_1).before args0 about1 = true := by decide +kernel
theorem w_applies : (headSpec (Jvm.Cond.code x code maxLocals ret :: tables_1) room_1).applies x e0.platform about1 = true :=
  (Spec.applies_iff w_frames).mpr ⟨w_running, w_runnable, w_alone, w_named, w_hears, w_ripe, w_room, w_tables⟩
theorem atStart : AtStart classFile x code maxLocals ret World_1 tables_1 room_1 Calls_1 rest_1 Pre_1 launch0 p0 e0 about1 theMethod args0 below0 :=
  ⟨lists_1, trivial, launch0.admits_env _ _ _, launch0.least_env, fairChoices_fair.cas, fairChoices_fair.clock, w_frames, w_args, w_heap, w_applies, trivial, trivial, w_case⟩
end start1
theorem witness_1 : WitnessClaimed_1 := ⟨start1.p0, start1.e0, start1.about1, start1.theMethod, start1.args0, start1.below0, start1.atStart⟩
end Jvm.Pilot.@@N@@
