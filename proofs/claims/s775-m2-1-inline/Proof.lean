import JvmDerived
import JvmDerived.Pilot.@@N@@Statement
import JvmDerived.Pilot.@@N@@Code
set_option linter.unusedVariables false
set_option linter.unusedSimpArgs false
@@BLOCK:NumsL.lean.txt@@
namespace Jvm.Pilot.@@N@@
open Jvm Jvm.ClassFile Sem Op Lib Jvm.Free Jvm.Stand Jvm.LawKit Jvm.RoadKit Bundle Jvm.Pilot.@@N@@.Jvm.D
theorem hwi {a0 : Array Value} {Z : State} (hw : ∀ d ∈ tables_1, d.before a0 Z = true) (i : Nat) {d : Jvm.Cond} (h : tables_1[i]? = some d) : d.before a0 Z = true := hw _ (List.mem_of_getElem? h)
/-! the walk in continuation form: from T with the frame g on top the run comes to an end that says Q -/
def Go (p : Program) (e : Env) (below : List Frame) (s : State) (C S : Nat) (Q : Option Value → Heap → List Loc → Prop) (T : State) (g : JFrame) : Prop :=
  ∃ s₂ o, Steps p.tables e below (T.setTop g) s₂ ∧ s₂.status = .running ∧ Ended s₂ below o ∧ ∃ v L, o = .returned v ∧ Q v s₂.heap L ∧ FrameEnd s o s₂ L C S
section GoKit
variable {p : Program} {l : Launch} {e : Env} {R : Room} {s : State} {m : MethodId} {args : Array Value} {below : List Frame} {meth : Method} {c : Code} {T T' : State} {g g' : JFrame} {locs : List Loc} {cells slots C S : Nat} {Q : Option Value → Heap → List Loc → Prop} {Z : State} {h h' : Heap} {n0 : Nat}
theorem Go.st (st : ∀ t, Steps p.tables e below (T'.setTop g') t → Steps p.tables e below (T.setTop g) t) (k : Go p e below s C S Q T' g') : Go p e below s C S Q T g := by
  obtain ⟨s₂, o, h1, h2⟩ := k; exact ⟨s₂, o, st _ h1, h2⟩
theorem Go.tr (st : Steps p.tables e below (T.setTop g) (T'.setTop g')) (k : Go p e below s C S Q T' g') : Go p e below s C S Q T g := by
  obtain ⟨s₂, o, h1, h2⟩ := k; exact ⟨s₂, o, st.trans h1, h2⟩
theorem Go.eq (q : g = g') (k : Go p e below s C S Q T g') : Go p e below s C S Q T g := q ▸ k
theorem Go.fin (X : Stand p l e R s m args below meth c T locs cells slots) (hlk : meth.locks = false) {v : Option Value} (hv : meth.sig.returnType = none → v = none) (hc : cells ≤ C) (hs : slots ≤ S) (q : Q v T.heap locs)
    (k : ∀ fs, (∀ (f : JFrame) (acts : List Action), f.method = m → f.locked = none → f.entered = [] → (doReturn e (T.setTop f) acts v).1 = T.setFrames fs) → Steps p.tables e below (T.setTop g) (T.setFrames fs)) : Go p e below s C S Q T g := by
  obtain ⟨fs, hr, hrun, hended, hW, hsame⟩ := X.leave (v := v) hv hlk
  exact ⟨_, _, k fs hr, hrun, hended, _, _, rfl, q, ⟨_, rfl⟩, hW, hsame.mono hc hs⟩
theorem Go.retN (X : Stand p l e R s m args below meth c T locs cells slots) (hlk : meth.locks = false) (hx : p.tables.exec = Jvm.exec) {pc : Nat} {Ls : Array Slot} {z z' : Int32} {t : FieldType} {rest : List Value} (hret : meth.sig.returnType = some t) (ht : t = .boolean ∨ t = .byte ∨ t = .char ∨ t = .short)
    (hd : decode c.code pc = .ok (.ireturn, 1)) (hc : cells ≤ C) (hs : slots ≤ S) (hz : nar t z = z') (q : Q (some (.int z')) T.heap locs) : Go p e below s C S Q T (mkF m pc Ls (.int z :: rest)) := by
  subst hz
  exact Go.fin X hlk (fun h => by rw [hret] at h; cases h) hc hs q fun fs hr => Jvm.RoadKit.retN X hx hret ht hd hr
theorem Go.retV (X : Stand p l e R s m args below meth c T locs cells slots) (hlk : meth.locks = false) (hx : p.tables.exec = Jvm.exec) {pc : Nat} {Ls : Array Slot} {w : Value} {t : FieldType} {i : Instr} {rest : List Value} (hret : meth.sig.returnType = some t) (hn : narrow t w = w)
    (hi : (i = .ireturn ∧ (t = .int ∨ t = .boolean ∨ t = .byte ∨ t = .char ∨ t = .short) ∧ ∃ z, w = .int z) ∨ (i = .lreturn ∧ t = .long ∧ ∃ z, w = .long z) ∨ (i = .dreturn ∧ t = .double ∧ ∃ z, w = .double z) ∨ (i = .freturn ∧ t = .float ∧ ∃ z, w = .float z) ∨ (i = .areturn ∧ t.isReference = true ∧ w.isRef = true))
    (hd : decode c.code pc = .ok (i, 1)) (hc : cells ≤ C) (hs : slots ≤ S) (q : Q (some w) T.heap locs) : Go p e below s C S Q T (mkF m pc Ls (w :: rest)) :=
  Go.fin X hlk (fun h => by rw [hret] at h; cases h) hc hs q fun fs hr => Jvm.RoadKit.retOut X hx hret hn hi hd hr
theorem Go.retR (X : Stand p l e R s m args below meth c T locs cells slots) (hlk : meth.locks = false) (hx : p.tables.exec = Jvm.exec) {pc : Nat} {Ls : Array Slot} {w : Value} {t : FieldType} {rest : List Value} (hret : meth.sig.returnType = some t) (ht : t.isReference = true) (hw : w.isRef = true) (hn : narrow t w = w)
    (hd : decode c.code pc = .ok (.areturn, 1)) (hc : cells ≤ C) (hs : slots ≤ S) (q : Q (some w) T.heap locs) : Go p e below s C S Q T (mkF m pc Ls (w :: rest)) :=
  Go.retV X hlk hx hret hn (Or.inr (Or.inr (Or.inr (Or.inr ⟨rfl, ht, hw⟩)))) hd hc hs q
theorem Go.retI (X : Stand p l e R s m args below meth c T locs cells slots) (hlk : meth.locks = false) (hx : p.tables.exec = Jvm.exec) {pc : Nat} {Ls : Array Slot} {z : Int32} {rest : List Value} (hret : meth.sig.returnType = some .int)
    (hd : decode c.code pc = .ok (.ireturn, 1)) (hc : cells ≤ C) (hs : slots ≤ S) (q : Q (some (.int z)) T.heap locs) : Go p e below s C S Q T (mkF m pc Ls (.int z :: rest)) :=
  Go.retV X hlk hx hret rfl (Or.inl ⟨rfl, Or.inl rfl, z, rfl⟩) hd hc hs q
theorem Go.retJ (X : Stand p l e R s m args below meth c T locs cells slots) (hlk : meth.locks = false) (hx : p.tables.exec = Jvm.exec) {pc : Nat} {Ls : Array Slot} {z : Int64} {rest : List Value} (hret : meth.sig.returnType = some .long)
    (hd : decode c.code pc = .ok (.lreturn, 1)) (hc : cells ≤ C) (hs : slots ≤ S) (q : Q (some (.long z)) T.heap locs) : Go p e below s C S Q T (mkF m pc Ls (.long z :: rest)) :=
  Go.retV X hlk hx hret rfl (Or.inr (Or.inl ⟨rfl, rfl, z, rfl⟩)) hd hc hs q
theorem Go.ret0 (X : Stand p l e R s m args below meth c T locs cells slots) (hlk : meth.locks = false) (hx : p.tables.exec = Jvm.exec) {pc : Nat} {Ls : Array Slot} (hret : meth.sig.returnType = none)
    (hd : decode c.code pc = .ok (.return_, 1)) (hc : cells ≤ C) (hs : slots ≤ S) (q : Q none T.heap locs) : Go p e below s C S Q T (mkF m pc Ls []) :=
  Go.fin X hlk (fun _ => rfl) hc hs q fun fs hr => X.returnOut hx hret hd hr
theorem own_le (O : Old Z n0 h) : n0 ≤ h.size := O.1 ▸ O.2.1
theorem own_ext {ws : List Addr} (K : Keep h h' ws) (q : ∀ x ∈ ws, h.size ≤ x) : Ext h h' := ⟨K.1, fun x c r => K.2.1 x c r fun z => absurd (Array.getElem?_eq_some_iff.mp r).1 (Nat.not_lt.mpr (q x z))⟩
theorem own_ext0 (K : Keep h h' []) : Ext h h' := own_ext K all0
theorem own_exr (h : Heap) : Ext h h := ⟨Nat.le_refl _, fun _ _ q => q⟩
theorem own_ext_t {h'' : Heap} (E : Ext h h') (E' : Ext h' h'') : Ext h h'' := ⟨Nat.le_trans E.1 E'.1, fun x c r => E'.2 x c (E.2 x c r)⟩
theorem Go.pure {w : Option Value} {Qc : Option Value → Heap → List Loc → Prop} {rest : List Value} {pc' : Nat} (H : ∃ (v : Option Value) (vm₁ : Vm) (B : Pt), s.WarmedH vm₁ ∧ Stand p l e R s m args below meth c B.U B.locs B.cells B.slots ∧ (∃ L, Qc v B.U.heap L ∧ B.locs = locs ++ L ∧ B.cells = cells + 0 ∧ B.slots = slots + 0) ∧ Steps p.tables e below (T.setTop g) (B.U.setTop { g with pc := pc', stack := v.toList ++ rest })) (hq : ∀ v h' L, Qc v h' L → v = w ∧ Fr n0 L ∧ h' = h) (N : Fr n0 locs)
    (k : ∀ T' L', Stand p l e R s m args below meth c T' L' cells slots → T'.heap = h → Fr n0 L' → Go p e below s C S Q T' { g with pc := pc', stack := w.toList ++ rest }) : Go p e below s C S Q T g := by
  obtain ⟨v, vm1, ⟨T', L', c', s'⟩, -, X, ⟨L, q, e1, e2, e3⟩, st⟩ := H
  obtain ⟨rfl, q2, q3⟩ := hq _ _ _ q
  dsimp only [Pt.U, Pt.locs, Pt.cells, Pt.slots] at X e1 e2 e3 st q3
  subst e1 e2 e3
  exact Go.tr st (k _ _ X q3 (Fr.app N q2))
theorem Go.pureS {w : Option Value} {Qc : Option Value → Heap → List Loc → Prop} {rest : List Value} {pc' : Nat} (H : ∃ (v : Option Value) (vm₁ : Vm) (B : Pt), s.WarmedH vm₁ ∧ Stand p l e R s m args below meth c B.U B.locs B.cells B.slots ∧ (∃ L, Qc v B.U.heap L ∧ B.locs = locs ++ L ∧ B.cells = cells + 0 ∧ B.slots = slots + 0) ∧ ∀ target, Steps p.tables e below (B.U.setTop { g with pc := pc', stack := v.toList ++ rest }) target → Steps p.tables e below (T.setTop g) target) (hq : ∀ v h' L, Qc v h' L → v = w ∧ Fr n0 L ∧ h' = h) (N : Fr n0 locs)
    (k : ∀ T' L', Stand p l e R s m args below meth c T' L' cells slots → T'.heap = h → Fr n0 L' → Go p e below s C S Q T' { g with pc := pc', stack := w.toList ++ rest }) : Go p e below s C S Q T g := by
  obtain ⟨v, vm1, ⟨T', L', c', s'⟩, -, X, ⟨L, q, e1, e2, e3⟩, st⟩ := H
  obtain ⟨rfl, q2, q3⟩ := hq _ _ _ q
  dsimp only [Pt.U, Pt.locs, Pt.cells, Pt.slots] at X e1 e2 e3 st q3
  subst e1 e2 e3
  exact Go.st st (k _ _ X q3 (Fr.app N q2))
end GoKit
theorem pn_14 : plainName "java/lang/String" = true := by first | (simp [plainName, overriddenIn]; done) | decide +kernel
theorem ef_rmCoder (m : MethodId) (a1 : Addr) : entryFrame m #[(.ref a1)] 1 = mkF m 0 #[.val (.ref a1)] [] := by first | (simp [entryFrame, mkF, argsToLocals, Value.category]; done) | rfl
theorem d14_0 : decode jdk_42_method_152_code 0 = .ok (.getstatic 38, 3) := by decide +kernel
theorem d14_3 : decode jdk_42_method_152_code 3 = .ok (.ifCond .eq 10, 3) := by decide +kernel
theorem d14_6 : decode jdk_42_method_152_code 6 = .ok (.aload_n 0, 1) := by decide +kernel
theorem d14_7 : decode jdk_42_method_152_code 7 = .ok (.getfield 15, 3) := by decide +kernel
theorem d14_10 : decode jdk_42_method_152_code 10 = .ok (.goto 4, 3) := by decide +kernel
theorem d14_14 : decode jdk_42_method_152_code 14 = .ok (.ireturn, 1) := by decide +kernel
theorem pn_13 : plainName "java/lang/String" = true := by first | (simp [plainName, overriddenIn]; done) | decide +kernel
theorem ef_rmLen (m : MethodId) (a1 : Addr) : entryFrame m #[(.ref a1)] 1 = mkF m 0 #[.val (.ref a1)] [] := by first | (simp [entryFrame, mkF, argsToLocals, Value.category]; done) | rfl
theorem d13_0 : decode jdk_42_method_54_code 0 = .ok (.aload_n 0, 1) := by decide +kernel
theorem d13_1 : decode jdk_42_method_54_code 1 = .ok (.getfield 9, 3) := by decide +kernel
theorem d13_4 : decode jdk_42_method_54_code 4 = .ok (.arraylength, 1) := by decide +kernel
theorem d13_5 : decode jdk_42_method_54_code 5 = .ok (.aload_n 0, 1) := by decide +kernel
theorem d13_6 : decode jdk_42_method_54_code 6 = .ok (.invokevirtual 335, 3) := by decide +kernel
theorem pd___B : parseMethodDescriptor "()B" = some ⟨[], some .byte⟩ := by decide +kernel
theorem d13_9 : decode jdk_42_method_54_code 9 = .ok (.ishr, 1) := by decide +kernel
theorem d13_10 : decode jdk_42_method_54_code 10 = .ok (.ireturn, 1) := by decide +kernel
theorem pn_17 : plainName "java/lang/String" = true := by first | (simp [plainName, overriddenIn]; done) | decide +kernel
theorem ef_rmGB (m : MethodId) (a1 : Addr) (a2 : Addr) (y_2 : Int32) (y_3 : Int32) : entryFrame m #[(.ref a1), (.ref a2), (.int y_2), (.int y_3)] 4 = mkF m 0 #[.val (.ref a1), .val (.ref a2), .val (.int y_2), .val (.int y_3)] [] := by first | (simp [entryFrame, mkF, argsToLocals, Value.category]; done) | rfl
theorem d17_0 : decode jdk_42_method_147_code 0 = .ok (.aload_n 0, 1) := by decide +kernel
theorem d17_1 : decode jdk_42_method_147_code 1 = .ok (.invokevirtual 335, 3) := by decide +kernel
theorem d17_4 : decode jdk_42_method_147_code 4 = .ok (.iload_n 3, 1) := by decide +kernel
theorem d17_5 : decode jdk_42_method_147_code 5 = .ok (.if_icmp .ne 23, 3) := by decide +kernel
theorem d17_8 : decode jdk_42_method_147_code 8 = .ok (.aload_n 0, 1) := by decide +kernel
theorem d17_9 : decode jdk_42_method_147_code 9 = .ok (.getfield 9, 3) := by decide +kernel
theorem d17_12 : decode jdk_42_method_147_code 12 = .ok (.iconst 0, 1) := by decide +kernel
theorem d17_13 : decode jdk_42_method_147_code 13 = .ok (.aload_n 1, 1) := by decide +kernel
theorem d17_14 : decode jdk_42_method_147_code 14 = .ok (.iload_n 2, 1) := by decide +kernel
theorem d17_15 : decode jdk_42_method_147_code 15 = .ok (.iload_n 3, 1) := by decide +kernel
theorem d17_16 : decode jdk_42_method_147_code 16 = .ok (.ishl, 1) := by decide +kernel
theorem d17_17 : decode jdk_42_method_147_code 17 = .ok (.aload_n 0, 1) := by decide +kernel
theorem d17_18 : decode jdk_42_method_147_code 18 = .ok (.getfield 9, 3) := by decide +kernel
theorem d17_21 : decode jdk_42_method_147_code 21 = .ok (.arraylength, 1) := by decide +kernel
theorem d17_22 : decode jdk_42_method_147_code 22 = .ok (.invokestatic 212, 3) := by decide +kernel
theorem d17_25 : decode jdk_42_method_147_code 25 = .ok (.goto 18, 3) := by decide +kernel
theorem d17_43 : decode jdk_42_method_147_code 43 = .ok (.return_, 1) := by decide +kernel
theorem pn_16 : plainName "java/lang/AbstractStringBuilder" = true := by first | (simp [plainName, overriddenIn]; done) | decide +kernel
theorem ef_rmInf (m : MethodId) (a1 : Addr) (a2 : Addr) : entryFrame m #[(.ref a1), (.ref a2)] 2 = mkF m 0 #[.val (.ref a1), .val (.ref a2)] [] := by first | (simp [entryFrame, mkF, argsToLocals, Value.category]; done) | rfl
theorem d16_0 : decode jdk_68_method_71_code 0 = .ok (.getstatic 18, 3) := by decide +kernel
theorem d16_3 : decode jdk_68_method_71_code 3 = .ok (.ifCond .eq 18, 3) := by decide +kernel
theorem d16_6 : decode jdk_68_method_71_code 6 = .ok (.aload_n 0, 1) := by decide +kernel
theorem d16_7 : decode jdk_68_method_71_code 7 = .ok (.getfield 22, 3) := by decide +kernel
theorem d16_10 : decode jdk_68_method_71_code 10 = .ok (.aload_n 1, 1) := by decide +kernel
theorem d16_11 : decode jdk_68_method_71_code 11 = .ok (.invokevirtual 40, 3) := by decide +kernel
theorem d16_14 : decode jdk_68_method_71_code 14 = .ok (.if_icmp .eq 7, 3) := by decide +kernel
theorem d16_21 : decode jdk_68_method_71_code 21 = .ok (.return_, 1) := by decide +kernel
theorem pn_15 : plainName "java/lang/AbstractStringBuilder" = true := by first | (simp [plainName, overriddenIn]; done) | decide +kernel
theorem ef_rmPut (m : MethodId) (a1 : Addr) (y_1 : Int32) (a2 : Addr) : entryFrame m #[(.ref a1), (.int y_1), (.ref a2)] 3 = mkF m 0 #[.val (.ref a1), .val (.int y_1), .val (.ref a2)] [] := by first | (simp [entryFrame, mkF, argsToLocals, Value.category]; done) | rfl
theorem d15_0 : decode jdk_68_method_73_code 0 = .ok (.aload_n 0, 1) := by decide +kernel
theorem d15_1 : decode jdk_68_method_73_code 1 = .ok (.aload_n 2, 1) := by decide +kernel
theorem d15_2 : decode jdk_68_method_73_code 2 = .ok (.invokevirtual 397, 3) := by decide +kernel
theorem pd__Ljava_lang_String__V : parseMethodDescriptor "(Ljava/lang/String;)V" = some ⟨[(.object "java/lang/String")], none⟩ := by decide +kernel
theorem d15_5 : decode jdk_68_method_73_code 5 = .ok (.aload_n 2, 1) := by decide +kernel
theorem d15_6 : decode jdk_68_method_73_code 6 = .ok (.aload_n 0, 1) := by decide +kernel
theorem d15_7 : decode jdk_68_method_73_code 7 = .ok (.getfield 15, 3) := by decide +kernel
theorem d15_10 : decode jdk_68_method_73_code 10 = .ok (.iload_n 1, 1) := by decide +kernel
theorem d15_11 : decode jdk_68_method_73_code 11 = .ok (.aload_n 0, 1) := by decide +kernel
theorem d15_12 : decode jdk_68_method_73_code 12 = .ok (.getfield 22, 3) := by decide +kernel
theorem d15_15 : decode jdk_68_method_73_code 15 = .ok (.invokevirtual 399, 3) := by decide +kernel
theorem pd___BIB_V : parseMethodDescriptor "([BIB)V" = some ⟨[(.array .byte), .int, .byte], none⟩ := by decide +kernel
theorem d15_18 : decode jdk_68_method_73_code 18 = .ok (.return_, 1) := by decide +kernel
theorem ef_rmMax (m : MethodId) (y_0 : Int32) (y_1 : Int32) : entryFrame m #[(.int y_0), (.int y_1)] 2 = mkF m 0 #[.val (.int y_0), .val (.int y_1)] [] := by first | (simp [entryFrame, mkF, argsToLocals, Value.category]; done) | rfl
theorem d36_0 : decode jdk_29_method_65_code 0 = .ok (.iload_n 0, 1) := by decide +kernel
theorem d36_1 : decode jdk_29_method_65_code 1 = .ok (.iload_n 1, 1) := by decide +kernel
theorem d36_2 : decode jdk_29_method_65_code 2 = .ok (.if_icmp .lt 7, 3) := by decide +kernel
theorem d36_9 : decode jdk_29_method_65_code 9 = .ok (.iload_n 1, 1) := by decide +kernel
theorem d36_10 : decode jdk_29_method_65_code 10 = .ok (.ireturn, 1) := by decide +kernel
theorem d36_5 : decode jdk_29_method_65_code 5 = .ok (.iload_n 0, 1) := by decide +kernel
theorem d36_6 : decode jdk_29_method_65_code 6 = .ok (.goto 4, 3) := by decide +kernel
theorem ef_rmMin (m : MethodId) (y_0 : Int32) (y_1 : Int32) : entryFrame m #[(.int y_0), (.int y_1)] 2 = mkF m 0 #[.val (.int y_0), .val (.int y_1)] [] := by first | (simp [entryFrame, mkF, argsToLocals, Value.category]; done) | rfl
theorem d27_0 : decode jdk_29_method_69_code 0 = .ok (.iload_n 0, 1) := by decide +kernel
theorem d27_1 : decode jdk_29_method_69_code 1 = .ok (.iload_n 1, 1) := by decide +kernel
theorem d27_2 : decode jdk_29_method_69_code 2 = .ok (.if_icmp .gt 7, 3) := by decide +kernel
theorem d27_9 : decode jdk_29_method_69_code 9 = .ok (.iload_n 1, 1) := by decide +kernel
theorem d27_10 : decode jdk_29_method_69_code 10 = .ok (.ireturn, 1) := by decide +kernel
theorem d27_5 : decode jdk_29_method_69_code 5 = .ok (.iload_n 0, 1) := by decide +kernel
theorem d27_6 : decode jdk_29_method_69_code 6 = .ok (.goto 4, 3) := by decide +kernel
theorem pn_35 : plainName "jdk/internal/util/ArraysSupport" = true := by first | (simp [plainName, overriddenIn]; done) | decide +kernel
theorem ef_rmNL (m : MethodId) (y_0 : Int32) (y_1 : Int32) (y_2 : Int32) : entryFrame m #[(.int y_0), (.int y_1), (.int y_2)] 4 = mkF m 0 #[.val (.int y_0), .val (.int y_1), .val (.int y_2), .unset] [] := by first | (simp [entryFrame, mkF, argsToLocals, Value.category]; done) | rfl
theorem d35_0 : decode jdk_48_method_27_code 0 = .ok (.iload_n 0, 1) := by decide +kernel
theorem d35_1 : decode jdk_48_method_27_code 1 = .ok (.iload_n 1, 1) := by decide +kernel
theorem d35_2 : decode jdk_48_method_27_code 2 = .ok (.iload_n 2, 1) := by decide +kernel
theorem d35_3 : decode jdk_48_method_27_code 3 = .ok (.invokestatic 194, 3) := by decide +kernel
theorem pd__II_I : parseMethodDescriptor "(II)I" = some ⟨[.int, .int], some .int⟩ := by decide +kernel
theorem d35_6 : decode jdk_48_method_27_code 6 = .ok (.iadd, 1) := by decide +kernel
theorem d35_7 : decode jdk_48_method_27_code 7 = .ok (.istore_n 3, 1) := by decide +kernel
theorem d35_8 : decode jdk_48_method_27_code 8 = .ok (.iconst 0, 1) := by decide +kernel
theorem d35_9 : decode jdk_48_method_27_code 9 = .ok (.iload_n 3, 1) := by decide +kernel
theorem d35_10 : decode jdk_48_method_27_code 10 = .ok (.if_icmp .ge 11, 3) := by decide +kernel
theorem d35_13 : decode jdk_48_method_27_code 13 = .ok (.iload_n 3, 1) := by decide +kernel
theorem d35_14 : decode jdk_48_method_27_code 14 = .ok (.ldc 200, 2) := by decide +kernel
theorem d35_16 : decode jdk_48_method_27_code 16 = .ok (.if_icmp .gt 5, 3) := by decide +kernel
theorem d35_19 : decode jdk_48_method_27_code 19 = .ok (.iload_n 3, 1) := by decide +kernel
theorem d35_20 : decode jdk_48_method_27_code 20 = .ok (.ireturn, 1) := by decide +kernel
theorem pn_34 : plainName "java/lang/AbstractStringBuilder" = true := by first | (simp [plainName, overriddenIn]; done) | decide +kernel
theorem ef_rmNC (m : MethodId) (a1 : Addr) (y_1 : Int32) : entryFrame m #[(.ref a1), (.int y_1)] 6 = mkF m 0 #[.val (.ref a1), .val (.int y_1), .unset, .unset, .unset, .unset] [] := by first | (simp [entryFrame, mkF, argsToLocals, Value.category]; done) | rfl
theorem d34_0 : decode jdk_68_method_10_code 0 = .ok (.aload_n 0, 1) := by decide +kernel
theorem d34_1 : decode jdk_68_method_10_code 1 = .ok (.getfield 15, 3) := by decide +kernel
theorem d34_4 : decode jdk_68_method_10_code 4 = .ok (.arraylength, 1) := by decide +kernel
theorem d34_5 : decode jdk_68_method_10_code 5 = .ok (.istore_n 2, 1) := by decide +kernel
theorem d34_6 : decode jdk_68_method_10_code 6 = .ok (.iload_n 1, 1) := by decide +kernel
theorem d34_7 : decode jdk_68_method_10_code 7 = .ok (.aload_n 0, 1) := by decide +kernel
theorem d34_8 : decode jdk_68_method_10_code 8 = .ok (.getfield 22, 3) := by decide +kernel
theorem d34_11 : decode jdk_68_method_10_code 11 = .ok (.ishl, 1) := by decide +kernel
theorem d34_12 : decode jdk_68_method_10_code 12 = .ok (.istore_n 3, 1) := by decide +kernel
theorem d34_13 : decode jdk_68_method_10_code 13 = .ok (.iload_n 3, 1) := by decide +kernel
theorem d34_14 : decode jdk_68_method_10_code 14 = .ok (.iload_n 2, 1) := by decide +kernel
theorem d34_15 : decode jdk_68_method_10_code 15 = .ok (.isub, 1) := by decide +kernel
theorem d34_16 : decode jdk_68_method_10_code 16 = .ok (.istore 4, 2) := by decide +kernel
theorem d34_18 : decode jdk_68_method_10_code 18 = .ok (.iload_n 2, 1) := by decide +kernel
theorem d34_19 : decode jdk_68_method_10_code 19 = .ok (.iload 4, 2) := by decide +kernel
theorem d34_21 : decode jdk_68_method_10_code 21 = .ok (.iload_n 2, 1) := by decide +kernel
theorem d34_22 : decode jdk_68_method_10_code 22 = .ok (.iconst 2, 1) := by decide +kernel
theorem d34_23 : decode jdk_68_method_10_code 23 = .ok (.aload_n 0, 1) := by decide +kernel
theorem d34_24 : decode jdk_68_method_10_code 24 = .ok (.getfield 22, 3) := by decide +kernel
theorem d34_27 : decode jdk_68_method_10_code 27 = .ok (.ishl, 1) := by decide +kernel
theorem d34_28 : decode jdk_68_method_10_code 28 = .ok (.iadd, 1) := by decide +kernel
theorem d34_29 : decode jdk_68_method_10_code 29 = .ok (.invokestatic 114, 3) := by decide +kernel
theorem pd__III_I : parseMethodDescriptor "(III)I" = some ⟨[.int, .int, .int], some .int⟩ := by decide +kernel
theorem d34_32 : decode jdk_68_method_10_code 32 = .ok (.istore 5, 2) := by decide +kernel
theorem d34_34 : decode jdk_68_method_10_code 34 = .ok (.iload 5, 2) := by decide +kernel
theorem d34_36 : decode jdk_68_method_10_code 36 = .ok (.ldc 39, 2) := by decide +kernel
theorem d34_38 : decode jdk_68_method_10_code 38 = .ok (.if_icmp .ne 13, 3) := by decide +kernel
theorem d34_51 : decode jdk_68_method_10_code 51 = .ok (.iload 5, 2) := by decide +kernel
theorem d34_53 : decode jdk_68_method_10_code 53 = .ok (.aload_n 0, 1) := by decide +kernel
theorem d34_54 : decode jdk_68_method_10_code 54 = .ok (.getfield 22, 3) := by decide +kernel
theorem d34_57 : decode jdk_68_method_10_code 57 = .ok (.ishr, 1) := by decide +kernel
theorem d34_58 : decode jdk_68_method_10_code 58 = .ok (.ireturn, 1) := by decide +kernel
theorem pn_37 : plainName "java/util/Arrays" = true := by first | (simp [plainName, overriddenIn]; done) | decide +kernel
theorem ef_rmCO (m : MethodId) (a1 : Addr) (y_1 : Int32) : entryFrame m #[(.ref a1), (.int y_1)] 3 = mkF m 0 #[.val (.ref a1), .val (.int y_1), .unset] [] := by first | (simp [entryFrame, mkF, argsToLocals, Value.category]; done) | rfl
theorem d37_0 : decode jdk_65_method_121_code 0 = .ok (.iload_n 1, 1) := by decide +kernel
theorem d37_1 : decode jdk_65_method_121_code 1 = .ok (.aload_n 0, 1) := by decide +kernel
theorem d37_2 : decode jdk_65_method_121_code 2 = .ok (.arraylength, 1) := by decide +kernel
theorem d37_3 : decode jdk_65_method_121_code 3 = .ok (.if_icmp .ne 11, 3) := by decide +kernel
theorem d37_14 : decode jdk_65_method_121_code 14 = .ok (.iload_n 1, 1) := by decide +kernel
theorem d37_15 : decode jdk_65_method_121_code 15 = .ok (.newarray .byte, 2) := by decide +kernel
theorem d37_17 : decode jdk_65_method_121_code 17 = .ok (.astore_n 2, 1) := by decide +kernel
theorem d37_18 : decode jdk_65_method_121_code 18 = .ok (.aload_n 0, 1) := by decide +kernel
theorem d37_19 : decode jdk_65_method_121_code 19 = .ok (.iconst 0, 1) := by decide +kernel
theorem d37_20 : decode jdk_65_method_121_code 20 = .ok (.aload_n 2, 1) := by decide +kernel
theorem d37_21 : decode jdk_65_method_121_code 21 = .ok (.iconst 0, 1) := by decide +kernel
theorem d37_22 : decode jdk_65_method_121_code 22 = .ok (.aload_n 0, 1) := by decide +kernel
theorem d37_23 : decode jdk_65_method_121_code 23 = .ok (.arraylength, 1) := by decide +kernel
theorem d37_24 : decode jdk_65_method_121_code 24 = .ok (.iload_n 1, 1) := by decide +kernel
theorem d37_25 : decode jdk_65_method_121_code 25 = .ok (.invokestatic 304, 3) := by decide +kernel
theorem d37_28 : decode jdk_65_method_121_code 28 = .ok (.invokestatic 150, 3) := by decide +kernel
theorem d37_31 : decode jdk_65_method_121_code 31 = .ok (.aload_n 2, 1) := by decide +kernel
theorem d37_32 : decode jdk_65_method_121_code 32 = .ok (.areturn, 1) := by decide +kernel
theorem pn_8 : plainName "java/lang/AbstractStringBuilder" = true := by first | (simp [plainName, overriddenIn]; done) | decide +kernel
theorem ef_rmE0 (m : MethodId) (a1 : Addr) (y_1 : Int32) : entryFrame m #[(.ref a1), (.int y_1)] 3 = mkF m 0 #[.val (.ref a1), .val (.int y_1), .unset] [] := by first | (simp [entryFrame, mkF, argsToLocals, Value.category]; done) | rfl
theorem d8_0 : decode jdk_68_method_9_code 0 = .ok (.aload_n 0, 1) := by decide +kernel
theorem d8_1 : decode jdk_68_method_9_code 1 = .ok (.getfield 15, 3) := by decide +kernel
theorem d8_4 : decode jdk_68_method_9_code 4 = .ok (.arraylength, 1) := by decide +kernel
theorem d8_5 : decode jdk_68_method_9_code 5 = .ok (.aload_n 0, 1) := by decide +kernel
theorem d8_6 : decode jdk_68_method_9_code 6 = .ok (.getfield 22, 3) := by decide +kernel
theorem d8_9 : decode jdk_68_method_9_code 9 = .ok (.ishr, 1) := by decide +kernel
theorem d8_10 : decode jdk_68_method_9_code 10 = .ok (.istore_n 2, 1) := by decide +kernel
theorem d8_11 : decode jdk_68_method_9_code 11 = .ok (.iload_n 1, 1) := by decide +kernel
theorem d8_12 : decode jdk_68_method_9_code 12 = .ok (.iload_n 2, 1) := by decide +kernel
theorem d8_13 : decode jdk_68_method_9_code 13 = .ok (.isub, 1) := by decide +kernel
theorem d8_14 : decode jdk_68_method_9_code 14 = .ok (.ifCond .le 24, 3) := by decide +kernel
theorem d8_38 : decode jdk_68_method_9_code 38 = .ok (.return_, 1) := by decide +kernel
theorem ef_rmE1 (m : MethodId) (a1 : Addr) (y_1 : Int32) : entryFrame m #[(.ref a1), (.int y_1)] 3 = mkF m 0 #[.val (.ref a1), .val (.int y_1), .unset] [] := by first | (simp [entryFrame, mkF, argsToLocals, Value.category]; done) | rfl
theorem d8_17 : decode jdk_68_method_9_code 17 = .ok (.aload_n 0, 1) := by decide +kernel
theorem d8_18 : decode jdk_68_method_9_code 18 = .ok (.aload_n 0, 1) := by decide +kernel
theorem d8_19 : decode jdk_68_method_9_code 19 = .ok (.getfield 15, 3) := by decide +kernel
theorem d8_22 : decode jdk_68_method_9_code 22 = .ok (.aload_n 0, 1) := by decide +kernel
theorem d8_23 : decode jdk_68_method_9_code 23 = .ok (.iload_n 1, 1) := by decide +kernel
theorem d8_24 : decode jdk_68_method_9_code 24 = .ok (.invokevirtual 104, 3) := by decide +kernel
theorem pd__I_I : parseMethodDescriptor "(I)I" = some ⟨[.int], some .int⟩ := by decide +kernel
theorem d8_27 : decode jdk_68_method_9_code 27 = .ok (.aload_n 0, 1) := by decide +kernel
theorem d8_28 : decode jdk_68_method_9_code 28 = .ok (.getfield 22, 3) := by decide +kernel
theorem d8_31 : decode jdk_68_method_9_code 31 = .ok (.ishl, 1) := by decide +kernel
theorem d8_32 : decode jdk_68_method_9_code 32 = .ok (.invokestatic 108, 3) := by decide +kernel
theorem pd___BI__B : parseMethodDescriptor "([BI)[B" = some ⟨[(.array .byte), .int], some (.array .byte)⟩ := by decide +kernel
theorem d8_35 : decode jdk_68_method_9_code 35 = .ok (.putfield 15, 3) := by decide +kernel
theorem pn_12 : plainName "java/lang/AbstractStringBuilder" = true := by first | (simp [plainName, overriddenIn]; done) | decide +kernel
theorem ef_rmA0 (m : MethodId) (a1 : Addr) (a2 : Addr) : entryFrame m #[(.ref a1), (.ref a2)] 3 = mkF m 0 #[.val (.ref a1), .val (.ref a2), .unset] [] := by first | (simp [entryFrame, mkF, argsToLocals, Value.category]; done) | rfl
theorem d12_0 : decode jdk_68_method_22_code 0 = .ok (.aload_n 1, 1) := by decide +kernel
theorem d12_1 : decode jdk_68_method_22_code 1 = .ok (.ifnonnull 8, 3) := by decide +kernel
theorem d12_9 : decode jdk_68_method_22_code 9 = .ok (.aload_n 1, 1) := by decide +kernel
theorem d12_10 : decode jdk_68_method_22_code 10 = .ok (.invokevirtual 32, 3) := by decide +kernel
theorem pd___I : parseMethodDescriptor "()I" = some ⟨[], some .int⟩ := by decide +kernel
theorem d12_13 : decode jdk_68_method_22_code 13 = .ok (.istore_n 2, 1) := by decide +kernel
theorem d12_14 : decode jdk_68_method_22_code 14 = .ok (.aload_n 0, 1) := by decide +kernel
theorem d12_15 : decode jdk_68_method_22_code 15 = .ok (.aload_n 0, 1) := by decide +kernel
theorem d12_16 : decode jdk_68_method_22_code 16 = .ok (.getfield 79, 3) := by decide +kernel
theorem d12_19 : decode jdk_68_method_22_code 19 = .ok (.iload_n 2, 1) := by decide +kernel
theorem d12_20 : decode jdk_68_method_22_code 20 = .ok (.iadd, 1) := by decide +kernel
theorem d12_21 : decode jdk_68_method_22_code 21 = .ok (.invokevirtual 100, 3) := by decide +kernel
theorem pd__I_V : parseMethodDescriptor "(I)V" = some ⟨[.int], none⟩ := by decide +kernel
theorem d12_24 : decode jdk_68_method_22_code 24 = .ok (.aload_n 0, 1) := by decide +kernel
theorem d12_25 : decode jdk_68_method_22_code 25 = .ok (.aload_n 0, 1) := by decide +kernel
theorem d12_26 : decode jdk_68_method_22_code 26 = .ok (.getfield 79, 3) := by decide +kernel
theorem d12_29 : decode jdk_68_method_22_code 29 = .ok (.aload_n 1, 1) := by decide +kernel
theorem d12_30 : decode jdk_68_method_22_code 30 = .ok (.invokevirtual 208, 3) := by decide +kernel
theorem pd__ILjava_lang_String__V : parseMethodDescriptor "(ILjava/lang/String;)V" = some ⟨[.int, (.object "java/lang/String")], none⟩ := by decide +kernel
theorem d12_33 : decode jdk_68_method_22_code 33 = .ok (.aload_n 0, 1) := by decide +kernel
theorem d12_34 : decode jdk_68_method_22_code 34 = .ok (.dup, 1) := by decide +kernel
theorem d12_35 : decode jdk_68_method_22_code 35 = .ok (.getfield 79, 3) := by decide +kernel
theorem d12_38 : decode jdk_68_method_22_code 38 = .ok (.iload_n 2, 1) := by decide +kernel
theorem d12_39 : decode jdk_68_method_22_code 39 = .ok (.iadd, 1) := by decide +kernel
theorem d12_40 : decode jdk_68_method_22_code 40 = .ok (.putfield 79, 3) := by decide +kernel
theorem d12_43 : decode jdk_68_method_22_code 43 = .ok (.aload_n 0, 1) := by decide +kernel
theorem d12_44 : decode jdk_68_method_22_code 44 = .ok (.areturn, 1) := by decide +kernel
theorem pn_11 : plainName "java/lang/StringBuilder" = true := by first | (simp [plainName, overriddenIn]; done) | decide +kernel
theorem ef_rmS0 (m : MethodId) (a1 : Addr) (a2 : Addr) : entryFrame m #[(.ref a1), (.ref a2)] 2 = mkF m 0 #[.val (.ref a1), .val (.ref a2)] [] := by first | (simp [entryFrame, mkF, argsToLocals, Value.category]; done) | rfl
theorem d11_0 : decode jdk_67_method_7_code 0 = .ok (.aload_n 0, 1) := by decide +kernel
theorem d11_1 : decode jdk_67_method_7_code 1 = .ok (.aload_n 1, 1) := by decide +kernel
theorem d11_2 : decode jdk_67_method_7_code 2 = .ok (.invokespecial 29, 3) := by decide +kernel
theorem pd__Ljava_lang_String__Ljava_lang_AbstractStringBuilder_ : parseMethodDescriptor "(Ljava/lang/String;)Ljava/lang/AbstractStringBuilder;" = some ⟨[(.object "java/lang/String")], some (.object "java/lang/AbstractStringBuilder")⟩ := by decide +kernel
theorem d11_5 : decode jdk_67_method_7_code 5 = .ok (.pop, 1) := by decide +kernel
theorem d11_6 : decode jdk_67_method_7_code 6 = .ok (.aload_n 0, 1) := by decide +kernel
theorem d11_7 : decode jdk_67_method_7_code 7 = .ok (.areturn, 1) := by decide +kernel
theorem ef_rmA1 (m : MethodId) (a1 : Addr) (a2 : Addr) : entryFrame m #[(.ref a1), (.ref a2)] 3 = mkF m 0 #[.val (.ref a1), .val (.ref a2), .unset] [] := by first | (simp [entryFrame, mkF, argsToLocals, Value.category]; done) | rfl
theorem ef_rmS1 (m : MethodId) (a1 : Addr) (a2 : Addr) : entryFrame m #[(.ref a1), (.ref a2)] 2 = mkF m 0 #[.val (.ref a1), .val (.ref a2)] [] := by first | (simp [entryFrame, mkF, argsToLocals, Value.category]; done) | rfl
theorem pn_3 : plainName "java/lang/AbstractStringBuilder" = true := by first | (simp [plainName, overriddenIn]; done) | decide +kernel
theorem ef_rmI1 (m : MethodId) (a1 : Addr) : entryFrame m #[(.ref a1), (.int (16 : Int32))] 2 = mkF m 0 #[.val (.ref a1), .val (.int (16 : Int32))] [] := by first | (simp [entryFrame, mkF, argsToLocals, Value.category]; done) | rfl
theorem d3_0 : decode jdk_68_method_2_code 0 = .ok (.aload_n 0, 1) := by decide +kernel
theorem d3_1 : decode jdk_68_method_2_code 1 = .ok (.invokespecial 3, 3) := by decide +kernel
theorem d3_4 : decode jdk_68_method_2_code 4 = .ok (.getstatic 18, 3) := by decide +kernel
theorem d3_7 : decode jdk_68_method_2_code 7 = .ok (.ifCond .eq 18, 3) := by decide +kernel
theorem d3_10 : decode jdk_68_method_2_code 10 = .ok (.aload_n 0, 1) := by decide +kernel
theorem d3_11 : decode jdk_68_method_2_code 11 = .ok (.iload_n 1, 1) := by decide +kernel
theorem d3_12 : decode jdk_68_method_2_code 12 = .ok (.newarray .byte, 2) := by decide +kernel
theorem d3_14 : decode jdk_68_method_2_code 14 = .ok (.putfield 15, 3) := by decide +kernel
theorem d3_17 : decode jdk_68_method_2_code 17 = .ok (.aload_n 0, 1) := by decide +kernel
theorem d3_18 : decode jdk_68_method_2_code 18 = .ok (.iconst 0, 1) := by decide +kernel
theorem d3_19 : decode jdk_68_method_2_code 19 = .ok (.putfield 22, 3) := by decide +kernel
theorem d3_22 : decode jdk_68_method_2_code 22 = .ok (.goto 16, 3) := by decide +kernel
theorem d3_38 : decode jdk_68_method_2_code 38 = .ok (.return_, 1) := by decide +kernel
theorem pn_2 : plainName "java/lang/StringBuilder" = true := by first | (simp [plainName, overriddenIn]; done) | decide +kernel
theorem ef_rmI0 (m : MethodId) (a1 : Addr) : entryFrame m #[(.ref a1)] 1 = mkF m 0 #[.val (.ref a1)] [] := by first | (simp [entryFrame, mkF, argsToLocals, Value.category]; done) | rfl
theorem d2_0 : decode jdk_67_method_1_code 0 = .ok (.aload_n 0, 1) := by decide +kernel
theorem d2_1 : decode jdk_67_method_1_code 1 = .ok (.bipush 16, 2) := by decide +kernel
theorem d2_3 : decode jdk_67_method_1_code 3 = .ok (.invokespecial 1, 3) := by decide +kernel
theorem d2_6 : decode jdk_67_method_1_code 6 = .ok (.return_, 1) := by decide +kernel
theorem pn_21 : plainName "java/lang/AbstractStringBuilder" = true := by first | (simp [plainName, overriddenIn]; done) | decide +kernel
theorem ef_rmGV (m : MethodId) (a1 : Addr) : entryFrame m #[(.ref a1)] 1 = mkF m 0 #[.val (.ref a1)] [] := by first | (simp [entryFrame, mkF, argsToLocals, Value.category]; done) | rfl
theorem d21_0 : decode jdk_68_method_64_code 0 = .ok (.aload_n 0, 1) := by decide +kernel
theorem d21_1 : decode jdk_68_method_64_code 1 = .ok (.getfield 15, 3) := by decide +kernel
theorem d21_4 : decode jdk_68_method_64_code 4 = .ok (.areturn, 1) := by decide +kernel
theorem pn_23 : plainName "java/lang/AbstractStringBuilder" = true := by first | (simp [plainName, overriddenIn]; done) | decide +kernel
theorem ef_rmAL (m : MethodId) (a1 : Addr) : entryFrame m #[(.ref a1)] 1 = mkF m 0 #[.val (.ref a1)] [] := by first | (simp [entryFrame, mkF, argsToLocals, Value.category]; done) | rfl
theorem d23_0 : decode jdk_68_method_6_code 0 = .ok (.aload_n 0, 1) := by decide +kernel
theorem d23_1 : decode jdk_68_method_6_code 1 = .ok (.getfield 79, 3) := by decide +kernel
theorem d23_4 : decode jdk_68_method_6_code 4 = .ok (.ireturn, 1) := by decide +kernel
theorem pn_22 : plainName "java/lang/StringBuilder" = true := by first | (simp [plainName, overriddenIn]; done) | decide +kernel
theorem ef_rmSL (m : MethodId) (a1 : Addr) : entryFrame m #[(.ref a1)] 1 = mkF m 0 #[.val (.ref a1)] [] := by first | (simp [entryFrame, mkF, argsToLocals, Value.category]; done) | rfl
theorem d22_0 : decode jdk_67_method_93_code 0 = .ok (.aload_n 0, 1) := by decide +kernel
theorem d22_1 : decode jdk_67_method_93_code 1 = .ok (.invokespecial 343, 3) := by decide +kernel
theorem d22_4 : decode jdk_67_method_93_code 4 = .ok (.ireturn, 1) := by decide +kernel
theorem pn_9 : plainName "java/lang/AbstractStringBuilder" = true := by first | (simp [plainName, overriddenIn]; done) | decide +kernel
theorem ef_rmIL (m : MethodId) (a1 : Addr) : entryFrame m #[(.ref a1)] 1 = mkF m 0 #[.val (.ref a1)] [] := by first | (simp [entryFrame, mkF, argsToLocals, Value.category]; done) | rfl
theorem d9_0 : decode jdk_68_method_68_code 0 = .ok (.getstatic 18, 3) := by decide +kernel
theorem d9_3 : decode jdk_68_method_68_code 3 = .ok (.ifCond .eq 14, 3) := by decide +kernel
theorem d9_6 : decode jdk_68_method_68_code 6 = .ok (.aload_n 0, 1) := by decide +kernel
theorem d9_7 : decode jdk_68_method_68_code 7 = .ok (.getfield 22, 3) := by decide +kernel
theorem d9_10 : decode jdk_68_method_68_code 10 = .ok (.ifCond .ne 7, 3) := by decide +kernel
theorem d9_13 : decode jdk_68_method_68_code 13 = .ok (.iconst 1, 1) := by decide +kernel
theorem d9_14 : decode jdk_68_method_68_code 14 = .ok (.goto 4, 3) := by decide +kernel
theorem d9_18 : decode jdk_68_method_68_code 18 = .ok (.ireturn, 1) := by decide +kernel
theorem pn_26 : plainName "java/util/Arrays" = true := by first | (simp [plainName, overriddenIn]; done) | decide +kernel
theorem ef_rmCL (m : MethodId) (y_0 : Int32) (y_1 : Int32) : entryFrame m #[(.int y_0), (.int y_1)] 2 = mkF m 0 #[.val (.int y_0), .val (.int y_1)] [] := by first | (simp [entryFrame, mkF, argsToLocals, Value.category]; done) | rfl
theorem d26_0 : decode jdk_65_method_131_code 0 = .ok (.iload_n 1, 1) := by decide +kernel
theorem d26_1 : decode jdk_65_method_131_code 1 = .ok (.iload_n 0, 1) := by decide +kernel
theorem d26_2 : decode jdk_65_method_131_code 2 = .ok (.if_icmp .ge 35, 3) := by decide +kernel
theorem d26_37 : decode jdk_65_method_131_code 37 = .ok (.return_, 1) := by decide +kernel
theorem pn_25 : plainName "java/util/Arrays" = true := by first | (simp [plainName, overriddenIn]; done) | decide +kernel
theorem ef_rmCRB (m : MethodId) (a1 : Addr) (y_1 : Int32) (y_2 : Int32) : entryFrame m #[(.ref a1), (.int y_1), (.int y_2)] 5 = mkF m 0 #[.val (.ref a1), .val (.int y_1), .val (.int y_2), .unset, .unset] [] := by first | (simp [entryFrame, mkF, argsToLocals, Value.category]; done) | rfl
theorem d25_0 : decode jdk_65_method_133_code 0 = .ok (.iload_n 1, 1) := by decide +kernel
theorem d25_1 : decode jdk_65_method_133_code 1 = .ok (.iload_n 2, 1) := by decide +kernel
theorem d25_2 : decode jdk_65_method_133_code 2 = .ok (.invokestatic 343, 3) := by decide +kernel
theorem pd__II_V : parseMethodDescriptor "(II)V" = some ⟨[.int, .int], none⟩ := by decide +kernel
theorem d25_5 : decode jdk_65_method_133_code 5 = .ok (.iload_n 2, 1) := by decide +kernel
theorem d25_6 : decode jdk_65_method_133_code 6 = .ok (.iload_n 1, 1) := by decide +kernel
theorem d25_7 : decode jdk_65_method_133_code 7 = .ok (.isub, 1) := by decide +kernel
theorem d25_8 : decode jdk_65_method_133_code 8 = .ok (.istore_n 3, 1) := by decide +kernel
theorem d25_9 : decode jdk_65_method_133_code 9 = .ok (.iload_n 3, 1) := by decide +kernel
theorem d25_10 : decode jdk_65_method_133_code 10 = .ok (.newarray .byte, 2) := by decide +kernel
theorem d25_12 : decode jdk_65_method_133_code 12 = .ok (.astore 4, 2) := by decide +kernel
theorem d25_14 : decode jdk_65_method_133_code 14 = .ok (.aload_n 0, 1) := by decide +kernel
theorem d25_15 : decode jdk_65_method_133_code 15 = .ok (.iload_n 1, 1) := by decide +kernel
theorem d25_16 : decode jdk_65_method_133_code 16 = .ok (.aload 4, 2) := by decide +kernel
theorem d25_18 : decode jdk_65_method_133_code 18 = .ok (.iconst 0, 1) := by decide +kernel
theorem d25_19 : decode jdk_65_method_133_code 19 = .ok (.aload_n 0, 1) := by decide +kernel
theorem d25_20 : decode jdk_65_method_133_code 20 = .ok (.arraylength, 1) := by decide +kernel
theorem d25_21 : decode jdk_65_method_133_code 21 = .ok (.iload_n 1, 1) := by decide +kernel
theorem d25_22 : decode jdk_65_method_133_code 22 = .ok (.isub, 1) := by decide +kernel
theorem d25_23 : decode jdk_65_method_133_code 23 = .ok (.iload_n 3, 1) := by decide +kernel
theorem d25_24 : decode jdk_65_method_133_code 24 = .ok (.invokestatic 304, 3) := by decide +kernel
theorem d25_27 : decode jdk_65_method_133_code 27 = .ok (.invokestatic 150, 3) := by decide +kernel
theorem d25_30 : decode jdk_65_method_133_code 30 = .ok (.aload 4, 2) := by decide +kernel
theorem d25_32 : decode jdk_65_method_133_code 32 = .ok (.areturn, 1) := by decide +kernel
theorem pn_24 : plainName "java/util/Arrays" = true := by first | (simp [plainName, overriddenIn]; done) | decide +kernel
theorem ef_rmCR (m : MethodId) (a1 : Addr) (y_1 : Int32) (y_2 : Int32) : entryFrame m #[(.ref a1), (.int y_1), (.int y_2)] 3 = mkF m 0 #[.val (.ref a1), .val (.int y_1), .val (.int y_2)] [] := by first | (simp [entryFrame, mkF, argsToLocals, Value.category]; done) | rfl
theorem d24_0 : decode jdk_65_method_132_code 0 = .ok (.iload_n 1, 1) := by decide +kernel
theorem d24_1 : decode jdk_65_method_132_code 1 = .ok (.ifCond .ne 9, 3) := by decide +kernel
theorem d24_4 : decode jdk_65_method_132_code 4 = .ok (.iload_n 2, 1) := by decide +kernel
theorem d24_5 : decode jdk_65_method_132_code 5 = .ok (.aload_n 0, 1) := by decide +kernel
theorem d24_6 : decode jdk_65_method_132_code 6 = .ok (.arraylength, 1) := by decide +kernel
theorem d24_7 : decode jdk_65_method_132_code 7 = .ok (.if_icmp .eq 10, 3) := by decide +kernel
theorem d24_10 : decode jdk_65_method_132_code 10 = .ok (.aload_n 0, 1) := by decide +kernel
theorem d24_11 : decode jdk_65_method_132_code 11 = .ok (.iload_n 1, 1) := by decide +kernel
theorem d24_12 : decode jdk_65_method_132_code 12 = .ok (.iload_n 2, 1) := by decide +kernel
theorem d24_13 : decode jdk_65_method_132_code 13 = .ok (.invokestatic 339, 3) := by decide +kernel
theorem pd___BII__B : parseMethodDescriptor "([BII)[B" = some ⟨[(.array .byte), .int, .int], some (.array .byte)⟩ := by decide +kernel
theorem d24_16 : decode jdk_65_method_132_code 16 = .ok (.areturn, 1) := by decide +kernel
theorem ef_rmCRc (m : MethodId) (a1 : Addr) (y_1 : Int32) (y_2 : Int32) : entryFrame m #[(.ref a1), (.int y_1), (.int y_2)] 3 = mkF m 0 #[.val (.ref a1), .val (.int y_1), .val (.int y_2)] [] := by first | (simp [entryFrame, mkF, argsToLocals, Value.category]; done) | rfl
theorem d24_17 : decode jdk_65_method_132_code 17 = .ok (.aload_n 0, 1) := by decide +kernel
theorem d24_18 : decode jdk_65_method_132_code 18 = .ok (.invokevirtual 310, 3) := by decide +kernel
theorem d24_21 : decode jdk_65_method_132_code 21 = .ok (.checkcast 311, 3) := by decide +kernel
theorem d24_24 : decode jdk_65_method_132_code 24 = .ok (.areturn, 1) := by decide +kernel
theorem pn_20 : plainName "java/lang/String" = true := by first | (simp [plainName, overriddenIn]; done) | decide +kernel
theorem ef_rmT2 (m : MethodId) (a1 : Addr) (a2 : Addr) : entryFrame m #[(.ref a1), (.ref a2), .null] 5 = mkF m 0 #[.val (.ref a1), .val (.ref a2), .val .null, .unset, .unset] [] := by first | (simp [entryFrame, mkF, argsToLocals, Value.category]; done) | rfl
theorem d20_0 : decode jdk_42_method_150_code 0 = .ok (.aload_n 0, 1) := by decide +kernel
theorem d20_1 : decode jdk_42_method_150_code 1 = .ok (.invokespecial 1, 3) := by decide +kernel
theorem d20_4 : decode jdk_42_method_150_code 4 = .ok (.aload_n 1, 1) := by decide +kernel
theorem d20_5 : decode jdk_42_method_150_code 5 = .ok (.invokevirtual 552, 3) := by decide +kernel
theorem pd____B : parseMethodDescriptor "()[B" = some ⟨[], some (.array .byte)⟩ := by decide +kernel
theorem d20_8 : decode jdk_42_method_150_code 8 = .ok (.astore_n 3, 1) := by decide +kernel
theorem d20_9 : decode jdk_42_method_150_code 9 = .ok (.aload_n 1, 1) := by decide +kernel
theorem d20_10 : decode jdk_42_method_150_code 10 = .ok (.invokevirtual 549, 3) := by decide +kernel
theorem d20_13 : decode jdk_42_method_150_code 13 = .ok (.istore 4, 2) := by decide +kernel
theorem d20_15 : decode jdk_42_method_150_code 15 = .ok (.aload_n 1, 1) := by decide +kernel
theorem d20_16 : decode jdk_42_method_150_code 16 = .ok (.invokevirtual 1047, 3) := by decide +kernel
theorem pd___Z : parseMethodDescriptor "()Z" = some ⟨[], some .boolean⟩ := by decide +kernel
theorem d20_19 : decode jdk_42_method_150_code 19 = .ok (.ifCond .eq 22, 3) := by decide +kernel
theorem d20_22 : decode jdk_42_method_150_code 22 = .ok (.aload_n 0, 1) := by decide +kernel
theorem d20_23 : decode jdk_42_method_150_code 23 = .ok (.iconst 0, 1) := by decide +kernel
theorem d20_24 : decode jdk_42_method_150_code 24 = .ok (.putfield 15, 3) := by decide +kernel
theorem d20_27 : decode jdk_42_method_150_code 27 = .ok (.aload_n 0, 1) := by decide +kernel
theorem d20_28 : decode jdk_42_method_150_code 28 = .ok (.aload_n 3, 1) := by decide +kernel
theorem d20_29 : decode jdk_42_method_150_code 29 = .ok (.iconst 0, 1) := by decide +kernel
theorem d20_30 : decode jdk_42_method_150_code 30 = .ok (.iload 4, 2) := by decide +kernel
theorem d20_32 : decode jdk_42_method_150_code 32 = .ok (.invokestatic 54, 3) := by decide +kernel
theorem d20_35 : decode jdk_42_method_150_code 35 = .ok (.putfield 9, 3) := by decide +kernel
theorem d20_38 : decode jdk_42_method_150_code 38 = .ok (.goto 59, 3) := by decide +kernel
theorem d20_97 : decode jdk_42_method_150_code 97 = .ok (.return_, 1) := by decide +kernel
theorem pn_19 : plainName "java/lang/String" = true := by first | (simp [plainName, overriddenIn]; done) | decide +kernel
theorem ef_rmT1 (m : MethodId) (a1 : Addr) (a2 : Addr) : entryFrame m #[(.ref a1), (.ref a2)] 2 = mkF m 0 #[.val (.ref a1), .val (.ref a2)] [] := by first | (simp [entryFrame, mkF, argsToLocals, Value.category]; done) | rfl
theorem d19_0 : decode jdk_42_method_53_code 0 = .ok (.aload_n 0, 1) := by decide +kernel
theorem d19_1 : decode jdk_42_method_53_code 1 = .ok (.aload_n 1, 1) := by decide +kernel
theorem d19_2 : decode jdk_42_method_53_code 2 = .ok (.aconst_null, 1) := by decide +kernel
theorem d19_3 : decode jdk_42_method_53_code 3 = .ok (.invokespecial 489, 3) := by decide +kernel
theorem pd__Ljava_lang_AbstractStringBuilder_Ljava_lang_Void__V : parseMethodDescriptor "(Ljava/lang/AbstractStringBuilder;Ljava/lang/Void;)V" = some ⟨[(.object "java/lang/AbstractStringBuilder"), (.object "java/lang/Void")], none⟩ := by decide +kernel
theorem d19_6 : decode jdk_42_method_53_code 6 = .ok (.return_, 1) := by decide +kernel
theorem pn_18 : plainName "java/lang/StringBuilder" = true := by first | (simp [plainName, overriddenIn]; done) | decide +kernel
theorem ef_rmTS (m : MethodId) (a1 : Addr) : entryFrame m #[(.ref a1)] 1 = mkF m 0 #[.val (.ref a1)] [] := by first | (simp [entryFrame, mkF, argsToLocals, Value.category]; done) | rfl
theorem d18_0 : decode jdk_67_method_42_code 0 = .ok (.new 18, 3) := by decide +kernel
theorem d18_3 : decode jdk_67_method_42_code 3 = .ok (.dup, 1) := by decide +kernel
theorem d18_4 : decode jdk_67_method_42_code 4 = .ok (.aload_n 0, 1) := by decide +kernel
theorem d18_5 : decode jdk_67_method_42_code 5 = .ok (.invokespecial 137, 3) := by decide +kernel
theorem pd__Ljava_lang_StringBuilder__V : parseMethodDescriptor "(Ljava/lang/StringBuilder;)V" = some ⟨[(.object "java/lang/StringBuilder")], none⟩ := by decide +kernel
theorem d18_8 : decode jdk_67_method_42_code 8 = .ok (.areturn, 1) := by decide +kernel
theorem ef_rmT2c (m : MethodId) (a1 : Addr) (a2 : Addr) : entryFrame m #[(.ref a1), (.ref a2), .null] 5 = mkF m 0 #[.val (.ref a1), .val (.ref a2), .val .null, .unset, .unset] [] := by first | (simp [entryFrame, mkF, argsToLocals, Value.category]; done) | rfl
theorem ef_rmT1c (m : MethodId) (a1 : Addr) (a2 : Addr) : entryFrame m #[(.ref a1), (.ref a2)] 2 = mkF m 0 #[.val (.ref a1), .val (.ref a2)] [] := by first | (simp [entryFrame, mkF, argsToLocals, Value.category]; done) | rfl
theorem ef_rmTSc (m : MethodId) (a1 : Addr) : entryFrame m #[(.ref a1)] 1 = mkF m 0 #[.val (.ref a1)] [] := by first | (simp [entryFrame, mkF, argsToLocals, Value.category]; done) | rfl
theorem pn_32 : plainName "jdk/internal/util/Preconditions" = true := by first | (simp [plainName, overriddenIn]; done) | decide +kernel
theorem ef_rmPC (m : MethodId) (y_0 : Int32) (y_1 : Int32) (fm : Value) (ref_fm : fm.isRef = true) : entryFrame m #[(.int y_0), (.int y_1), fm] 3 = mkF m 0 #[.val (.int y_0), .val (.int y_1), .val fm] [] := by rcases ref_cases ref_fm with rfl | ⟨_, rfl⟩ <;> first | (simp [entryFrame, mkF, argsToLocals, Value.category]; done) | rfl
theorem d32_0 : decode jdk_41_method_11_code 0 = .ok (.iload_n 0, 1) := by decide +kernel
theorem d32_1 : decode jdk_41_method_11_code 1 = .ok (.ifCond .lt 8, 3) := by decide +kernel
theorem d32_4 : decode jdk_41_method_11_code 4 = .ok (.iload_n 0, 1) := by decide +kernel
theorem d32_5 : decode jdk_41_method_11_code 5 = .ok (.iload_n 1, 1) := by decide +kernel
theorem d32_6 : decode jdk_41_method_11_code 6 = .ok (.if_icmp .lt 10, 3) := by decide +kernel
theorem d32_16 : decode jdk_41_method_11_code 16 = .ok (.iload_n 0, 1) := by decide +kernel
theorem d32_17 : decode jdk_41_method_11_code 17 = .ok (.ireturn, 1) := by decide +kernel
theorem pn_31 : plainName "java/lang/String" = true := by first | (simp [plainName, overriddenIn]; done) | decide +kernel
theorem ef_rmCI (m : MethodId) (y_0 : Int32) (y_1 : Int32) : entryFrame m #[(.int y_0), (.int y_1)] 2 = mkF m 0 #[.val (.int y_0), .val (.int y_1)] [] := by first | (simp [entryFrame, mkF, argsToLocals, Value.category]; done) | rfl
theorem d31_0 : decode jdk_42_method_155_code 0 = .ok (.iload_n 0, 1) := by decide +kernel
theorem d31_1 : decode jdk_42_method_155_code 1 = .ok (.iload_n 1, 1) := by decide +kernel
theorem d31_2 : decode jdk_42_method_155_code 2 = .ok (.getstatic 1053, 3) := by decide +kernel
theorem d31_5 : decode jdk_42_method_155_code 5 = .ok (.invokestatic 1059, 3) := by decide +kernel
theorem pd__IILjava_util_function_BiFunction__I : parseMethodDescriptor "(IILjava/util/function/BiFunction;)I" = some ⟨[.int, .int, (.object "java/util/function/BiFunction")], some .int⟩ := by decide +kernel
theorem d31_8 : decode jdk_42_method_155_code 8 = .ok (.pop, 1) := by decide +kernel
theorem d31_9 : decode jdk_42_method_155_code 9 = .ok (.return_, 1) := by decide +kernel
theorem pn_30 : plainName "java/lang/StringLatin1" = true := by first | (simp [plainName, overriddenIn]; done) | decide +kernel
theorem ef_rmLC (m : MethodId) (a1 : Addr) (y_1 : Int32) : entryFrame m #[(.ref a1), (.int y_1)] 2 = mkF m 0 #[.val (.ref a1), .val (.int y_1)] [] := by first | (simp [entryFrame, mkF, argsToLocals, Value.category]; done) | rfl
theorem d30_0 : decode jdk_43_method_2_code 0 = .ok (.iload_n 1, 1) := by decide +kernel
theorem d30_1 : decode jdk_43_method_2_code 1 = .ok (.aload_n 0, 1) := by decide +kernel
theorem d30_2 : decode jdk_43_method_2_code 2 = .ok (.arraylength, 1) := by decide +kernel
theorem d30_3 : decode jdk_43_method_2_code 3 = .ok (.invokestatic 9, 3) := by decide +kernel
theorem d30_6 : decode jdk_43_method_2_code 6 = .ok (.aload_n 0, 1) := by decide +kernel
theorem d30_7 : decode jdk_43_method_2_code 7 = .ok (.iload_n 1, 1) := by decide +kernel
theorem d30_8 : decode jdk_43_method_2_code 8 = .ok (.baload, 1) := by decide +kernel
theorem d30_9 : decode jdk_43_method_2_code 9 = .ok (.sipush 255, 3) := by decide +kernel
theorem d30_12 : decode jdk_43_method_2_code 12 = .ok (.iand, 1) := by decide +kernel
theorem d30_13 : decode jdk_43_method_2_code 13 = .ok (.i2c, 1) := by decide +kernel
theorem d30_14 : decode jdk_43_method_2_code 14 = .ok (.ireturn, 1) := by decide +kernel
theorem pn_29 : plainName "java/lang/String" = true := by first | (simp [plainName, overriddenIn]; done) | decide +kernel
theorem ef_rmIsL (m : MethodId) (a1 : Addr) : entryFrame m #[(.ref a1)] 1 = mkF m 0 #[.val (.ref a1)] [] := by first | (simp [entryFrame, mkF, argsToLocals, Value.category]; done) | rfl
theorem d29_0 : decode jdk_42_method_154_code 0 = .ok (.getstatic 38, 3) := by decide +kernel
theorem d29_3 : decode jdk_42_method_154_code 3 = .ok (.ifCond .eq 14, 3) := by decide +kernel
theorem d29_6 : decode jdk_42_method_154_code 6 = .ok (.aload_n 0, 1) := by decide +kernel
theorem d29_7 : decode jdk_42_method_154_code 7 = .ok (.getfield 15, 3) := by decide +kernel
theorem d29_10 : decode jdk_42_method_154_code 10 = .ok (.ifCond .ne 7, 3) := by decide +kernel
theorem d29_13 : decode jdk_42_method_154_code 13 = .ok (.iconst 1, 1) := by decide +kernel
theorem d29_14 : decode jdk_42_method_154_code 14 = .ok (.goto 4, 3) := by decide +kernel
theorem d29_18 : decode jdk_42_method_154_code 18 = .ok (.ireturn, 1) := by decide +kernel
theorem pn_28 : plainName "java/lang/String" = true := by first | (simp [plainName, overriddenIn]; done) | decide +kernel
theorem ef_rmCA (m : MethodId) (a1 : Addr) (y_1 : Int32) : entryFrame m #[(.ref a1), (.int y_1)] 2 = mkF m 0 #[.val (.ref a1), .val (.int y_1)] [] := by first | (simp [entryFrame, mkF, argsToLocals, Value.category]; done) | rfl
theorem d28_0 : decode jdk_42_method_56_code 0 = .ok (.aload_n 0, 1) := by decide +kernel
theorem d28_1 : decode jdk_42_method_56_code 1 = .ok (.invokevirtual 492, 3) := by decide +kernel
theorem d28_4 : decode jdk_42_method_56_code 4 = .ok (.ifCond .eq 12, 3) := by decide +kernel
theorem d28_7 : decode jdk_42_method_56_code 7 = .ok (.aload_n 0, 1) := by decide +kernel
theorem d28_8 : decode jdk_42_method_56_code 8 = .ok (.getfield 9, 3) := by decide +kernel
theorem d28_11 : decode jdk_42_method_56_code 11 = .ok (.iload_n 1, 1) := by decide +kernel
theorem d28_12 : decode jdk_42_method_56_code 12 = .ok (.invokestatic 495, 3) := by decide +kernel
theorem pd___BI_C : parseMethodDescriptor "([BI)C" = some ⟨[(.array .byte), .int], some .char⟩ := by decide +kernel
theorem d28_15 : decode jdk_42_method_56_code 15 = .ok (.ireturn, 1) := by decide +kernel
theorem pn_6 : plainName "java/lang/AbstractStringBuilder" = true := by first | (simp [plainName, overriddenIn]; done) | decide +kernel
theorem ef_rmAJ0 (m : MethodId) (a1 : Addr) (x1 : Int64) : entryFrame m #[(.ref a1), (.long x1)] 5 = mkF m 0 #[.val (.ref a1), .val (.long x1), .second, .unset, .unset] [] := by first | (simp [entryFrame, mkF, argsToLocals, Value.category]; done) | rfl
theorem d6_0 : decode jdk_68_method_33_code 0 = .ok (.aload_n 0, 1) := by decide +kernel
theorem d6_1 : decode jdk_68_method_33_code 1 = .ok (.getfield 79, 3) := by decide +kernel
theorem d6_4 : decode jdk_68_method_33_code 4 = .ok (.istore_n 3, 1) := by decide +kernel
theorem d6_5 : decode jdk_68_method_33_code 5 = .ok (.iload_n 3, 1) := by decide +kernel
theorem d6_6 : decode jdk_68_method_33_code 6 = .ok (.lload_n 1, 1) := by decide +kernel
theorem d6_7 : decode jdk_68_method_33_code 7 = .ok (.invokestatic 254, 3) := by decide +kernel
theorem pd__J_I : parseMethodDescriptor "(J)I" = some ⟨[.long], some .int⟩ := by decide +kernel
theorem d6_10 : decode jdk_68_method_33_code 10 = .ok (.iadd, 1) := by decide +kernel
theorem d6_11 : decode jdk_68_method_33_code 11 = .ok (.istore 4, 2) := by decide +kernel
theorem d6_13 : decode jdk_68_method_33_code 13 = .ok (.aload_n 0, 1) := by decide +kernel
theorem d6_14 : decode jdk_68_method_33_code 14 = .ok (.iload 4, 2) := by decide +kernel
theorem d6_16 : decode jdk_68_method_33_code 16 = .ok (.invokevirtual 100, 3) := by decide +kernel
theorem d6_19 : decode jdk_68_method_33_code 19 = .ok (.aload_n 0, 1) := by decide +kernel
theorem d6_20 : decode jdk_68_method_33_code 20 = .ok (.invokevirtual 83, 3) := by decide +kernel
theorem d6_23 : decode jdk_68_method_33_code 23 = .ok (.ifCond .eq 17, 3) := by decide +kernel
theorem d6_26 : decode jdk_68_method_33_code 26 = .ok (.lload_n 1, 1) := by decide +kernel
theorem d6_27 : decode jdk_68_method_33_code 27 = .ok (.iload 4, 2) := by decide +kernel
theorem d6_29 : decode jdk_68_method_33_code 29 = .ok (.aload_n 0, 1) := by decide +kernel
theorem d6_30 : decode jdk_68_method_33_code 30 = .ok (.getfield 15, 3) := by decide +kernel
theorem d6_33 : decode jdk_68_method_33_code 33 = .ok (.invokestatic 259, 3) := by decide +kernel
theorem pd__JI_B_I : parseMethodDescriptor "(JI[B)I" = some ⟨[.long, .int, (.array .byte)], some .int⟩ := by decide +kernel
theorem d6_36 : decode jdk_68_method_33_code 36 = .ok (.pop, 1) := by decide +kernel
theorem d6_37 : decode jdk_68_method_33_code 37 = .ok (.goto 15, 3) := by decide +kernel
theorem d6_52 : decode jdk_68_method_33_code 52 = .ok (.aload_n 0, 1) := by decide +kernel
theorem d6_53 : decode jdk_68_method_33_code 53 = .ok (.iload 4, 2) := by decide +kernel
theorem d6_55 : decode jdk_68_method_33_code 55 = .ok (.putfield 79, 3) := by decide +kernel
theorem d6_58 : decode jdk_68_method_33_code 58 = .ok (.aload_n 0, 1) := by decide +kernel
theorem d6_59 : decode jdk_68_method_33_code 59 = .ok (.areturn, 1) := by decide +kernel
theorem ef_rmAJ1 (m : MethodId) (a1 : Addr) (x1 : Int64) : entryFrame m #[(.ref a1), (.long x1)] 5 = mkF m 0 #[.val (.ref a1), .val (.long x1), .second, .unset, .unset] [] := by first | (simp [entryFrame, mkF, argsToLocals, Value.category]; done) | rfl
theorem pn_5 : plainName "java/lang/StringBuilder" = true := by first | (simp [plainName, overriddenIn]; done) | decide +kernel
theorem ef_rmSJ0 (m : MethodId) (a1 : Addr) (x1 : Int64) : entryFrame m #[(.ref a1), (.long x1)] 3 = mkF m 0 #[.val (.ref a1), .val (.long x1), .second] [] := by first | (simp [entryFrame, mkF, argsToLocals, Value.category]; done) | rfl
theorem d5_0 : decode jdk_67_method_16_code 0 = .ok (.aload_n 0, 1) := by decide +kernel
theorem d5_1 : decode jdk_67_method_16_code 1 = .ok (.lload_n 1, 1) := by decide +kernel
theorem d5_2 : decode jdk_67_method_16_code 2 = .ok (.invokespecial 56, 3) := by decide +kernel
theorem pd__J_Ljava_lang_AbstractStringBuilder_ : parseMethodDescriptor "(J)Ljava/lang/AbstractStringBuilder;" = some ⟨[.long], some (.object "java/lang/AbstractStringBuilder")⟩ := by decide +kernel
theorem d5_5 : decode jdk_67_method_16_code 5 = .ok (.pop, 1) := by decide +kernel
theorem d5_6 : decode jdk_67_method_16_code 6 = .ok (.aload_n 0, 1) := by decide +kernel
theorem d5_7 : decode jdk_67_method_16_code 7 = .ok (.areturn, 1) := by decide +kernel
theorem ef_rmSJ1 (m : MethodId) (a1 : Addr) (x1 : Int64) : entryFrame m #[(.ref a1), (.long x1)] 3 = mkF m 0 #[.val (.ref a1), .val (.long x1), .second] [] := by first | (simp [entryFrame, mkF, argsToLocals, Value.category]; done) | rfl
theorem pn_1 : plainName "com/example/oplim/oplim/Keys" = true := by first | (simp [plainName, overriddenIn]; done) | decide +kernel
theorem ef_rmPer (m : MethodId) (x1 : Int64) : entryFrame m #[(.long x1)] 3 = mkF m 0 #[.val (.long x1), .second, .unset] [] := by first | (simp [entryFrame, mkF, argsToLocals, Value.category]; done) | rfl
theorem d1_0 : decode prog_4_method_4_code 0 = .ok (.iconst 0, 1) := by decide +kernel
theorem d1_1 : decode prog_4_method_4_code 1 = .ok (.istore_n 2, 1) := by decide +kernel
theorem d1_2 : decode prog_4_method_4_code 2 = .ok (.lload_n 0, 1) := by decide +kernel
theorem d1_3 : decode prog_4_method_4_code 3 = .ok (.getstatic 80, 3) := by decide +kernel
theorem d1_6 : decode prog_4_method_4_code 6 = .ok (.iload_n 2, 1) := by decide +kernel
theorem d1_7 : decode prog_4_method_4_code 7 = .ok (.laload, 1) := by decide +kernel
theorem d1_8 : decode prog_4_method_4_code 8 = .ok (.lrem, 1) := by decide +kernel
theorem d1_9 : decode prog_4_method_4_code 9 = .ok (.lconst 0, 1) := by decide +kernel
theorem d1_10 : decode prog_4_method_4_code 10 = .ok (.lcmp, 1) := by decide +kernel
theorem d1_11 : decode prog_4_method_4_code 11 = .ok (.ifCond .eq 9, 3) := by decide +kernel
theorem d1_20 : decode prog_4_method_4_code 20 = .ok (.new 27, 3) := by decide +kernel
theorem d1_23 : decode prog_4_method_4_code 23 = .ok (.dup, 1) := by decide +kernel
theorem d1_24 : decode prog_4_method_4_code 24 = .ok (.invokespecial 29, 3) := by decide +kernel
theorem pd___V : parseMethodDescriptor "()V" = some ⟨[], none⟩ := by decide +kernel
theorem d1_27 : decode prog_4_method_4_code 27 = .ok (.lload_n 0, 1) := by decide +kernel
theorem d1_28 : decode prog_4_method_4_code 28 = .ok (.getstatic 80, 3) := by decide +kernel
theorem d1_31 : decode prog_4_method_4_code 31 = .ok (.iload_n 2, 1) := by decide +kernel
theorem d1_32 : decode prog_4_method_4_code 32 = .ok (.laload, 1) := by decide +kernel
theorem d1_33 : decode prog_4_method_4_code 33 = .ok (.ldiv, 1) := by decide +kernel
theorem d1_34 : decode prog_4_method_4_code 34 = .ok (.invokevirtual 84, 3) := by decide +kernel
theorem pd__J_Ljava_lang_StringBuilder_ : parseMethodDescriptor "(J)Ljava/lang/StringBuilder;" = some ⟨[.long], some (.object "java/lang/StringBuilder")⟩ := by decide +kernel
theorem d1_37 : decode prog_4_method_4_code 37 = .ok (.getstatic 87, 3) := by decide +kernel
theorem d1_40 : decode prog_4_method_4_code 40 = .ok (.iload_n 2, 1) := by decide +kernel
theorem d1_41 : decode prog_4_method_4_code 41 = .ok (.aaload, 1) := by decide +kernel
theorem d1_42 : decode prog_4_method_4_code 42 = .ok (.invokevirtual 32, 3) := by decide +kernel
theorem pd__Ljava_lang_String__Ljava_lang_StringBuilder_ : parseMethodDescriptor "(Ljava/lang/String;)Ljava/lang/StringBuilder;" = some ⟨[(.object "java/lang/String")], some (.object "java/lang/StringBuilder")⟩ := by decide +kernel
theorem d1_45 : decode prog_4_method_4_code 45 = .ok (.invokevirtual 36, 3) := by decide +kernel
theorem pd___Ljava_lang_String_ : parseMethodDescriptor "()Ljava/lang/String;" = some ⟨[], some (.object "java/lang/String")⟩ := by decide +kernel
theorem d1_48 : decode prog_4_method_4_code 48 = .ok (.areturn, 1) := by decide +kernel
theorem d1_14 : decode prog_4_method_4_code 14 = .ok (.iinc 2 1, 3) := by decide +kernel
theorem d1_17 : decode prog_4_method_4_code 17 = .ok (.goto (-15), 3) := by decide +kernel
theorem pn_33 : plainName "com/example/oplim/oplim/KeysPeriodPinLaw" = true := by first | (simp [plainName, overriddenIn]; done) | decide +kernel
theorem ef_rmDg (m : MethodId) (a1 : Addr) (y_1 : Int32) (x3 : Int64) (a4 : Addr) (y_4 : Int32) : entryFrame m #[(.ref a1), (.int y_1), (.long x3), (.ref a4), (.int y_4)] 7 = mkF m 0 #[.val (.ref a1), .val (.int y_1), .val (.long x3), .second, .val (.ref a4), .val (.int y_4), .unset] [] := by first | (simp [entryFrame, mkF, argsToLocals, Value.category]; done) | rfl
theorem d33_0 : decode method_3_code 0 = .ok (.iload 5, 2) := by decide +kernel
theorem d33_2 : decode method_3_code 2 = .ok (.iload_n 1, 1) := by decide +kernel
theorem d33_3 : decode method_3_code 3 = .ok (.if_icmp .lt 5, 3) := by decide +kernel
theorem d33_8 : decode method_3_code 8 = .ok (.lload_n 2, 1) := by decide +kernel
theorem d33_9 : decode method_3_code 9 = .ok (.aload 4, 2) := by decide +kernel
theorem d33_11 : decode method_3_code 11 = .ok (.iload_n 1, 1) := by decide +kernel
theorem d33_12 : decode method_3_code 12 = .ok (.iconst 1, 1) := by decide +kernel
theorem d33_13 : decode method_3_code 13 = .ok (.isub, 1) := by decide +kernel
theorem d33_14 : decode method_3_code 14 = .ok (.iload 5, 2) := by decide +kernel
theorem d33_16 : decode method_3_code 16 = .ok (.isub, 1) := by decide +kernel
theorem d33_17 : decode method_3_code 17 = .ok (.laload, 1) := by decide +kernel
theorem d33_18 : decode method_3_code 18 = .ok (.ldiv, 1) := by decide +kernel
theorem d33_19 : decode method_3_code 19 = .ok (.ldc2_w 15, 3) := by decide +kernel
theorem d33_22 : decode method_3_code 22 = .ok (.lrem, 1) := by decide +kernel
theorem d33_23 : decode method_3_code 23 = .ok (.l2i, 1) := by decide +kernel
theorem d33_24 : decode method_3_code 24 = .ok (.istore 6, 2) := by decide +kernel
theorem d33_26 : decode method_3_code 26 = .ok (.aload_n 0, 1) := by decide +kernel
theorem d33_27 : decode method_3_code 27 = .ok (.iload 5, 2) := by decide +kernel
theorem d33_29 : decode method_3_code 29 = .ok (.invokevirtual 76, 3) := by decide +kernel
theorem pd__I_C : parseMethodDescriptor "(I)C" = some ⟨[.int], some .char⟩ := by decide +kernel
theorem d33_32 : decode method_3_code 32 = .ok (.bipush 48, 2) := by decide +kernel
theorem d33_34 : decode method_3_code 34 = .ok (.iload 6, 2) := by decide +kernel
theorem d33_36 : decode method_3_code 36 = .ok (.iadd, 1) := by decide +kernel
theorem d33_37 : decode method_3_code 37 = .ok (.i2c, 1) := by decide +kernel
theorem d33_38 : decode method_3_code 38 = .ok (.if_icmp .ne 7, 3) := by decide +kernel
theorem d33_41 : decode method_3_code 41 = .ok (.iconst 1, 1) := by decide +kernel
theorem d33_42 : decode method_3_code 42 = .ok (.goto 4, 3) := by decide +kernel
theorem d33_46 : decode method_3_code 46 = .ok (.ireturn, 1) := by decide +kernel
theorem d33_6 : decode method_3_code 6 = .ok (.iconst 1, 1) := by decide +kernel
theorem d33_7 : decode method_3_code 7 = .ok (.ireturn, 1) := by decide +kernel
theorem pn_0 : plainName "com/example/oplim/oplim/KeysPeriodPinLaw" = true := by first | (simp [plainName, overriddenIn]; done) | decide +kernel
theorem ef_rm0 (m : MethodId) (p1 : Int64) (p3 : Int32) : entryFrame m #[(.long p1), (.int p3)] maxLocals = mkF m 0 #[.val (.long p1), .second, .val (.int p3), .unset, .unset, .unset, .unset, .unset, .unset, .unset, .unset, .unset, .unset, .unset, .unset, .unset, .unset] [] := by first | (simp [entryFrame, mkF, argsToLocals, Value.category, maxLocals]; done) | rfl
theorem pd__Ljava_lang_String_IJ_JI_Z : parseMethodDescriptor "(Ljava/lang/String;IJ[JI)Z" = some ⟨[(.object "java/lang/String"), .int, .long, (.array .long), .int], some .boolean⟩ := by decide +kernel
theorem pd__J_Ljava_lang_String_ : parseMethodDescriptor "(J)Ljava/lang/String;" = some ⟨[.long], some (.object "java/lang/String")⟩ := by decide +kernel
/-! the same, where String constants may be loaded on the way (the library's LawHeld: CHv, CHr, Safe) -/
def GoH (p : Program) (e : Env) (below : List Frame) (s : State) (C S : Nat) (Z : State) (h0 : Heap) (EL : List (String × Nat)) (Q : Option Value → Heap → List Loc → Prop) (T : State) (g : JFrame) : Prop :=
  ∃ s₂ o, Steps p.tables e below (T.setTop g) s₂ ∧ s₂.status = .running ∧ Ended s₂ below o ∧ ∃ v L, o = .returned v ∧ Q v s₂.heap L ∧ CHr Z EL s.vm h0 s₂.vm s₂.heap ∧ ReturnedEndW s o s₂ L C S
section GoHKit
variable {p : Program} {l : Launch} {e : Env} {R : Room} {s : State} {vm0 : Vm} {m : MethodId} {args : Array Value} {below : List Frame} {meth : Method} {c : Code} {T T' : State} {g g' : JFrame} {locs : List Loc} {cells slots C S k0 : Nat} {Q : Option Value → Heap → List Loc → Prop} {Z : State} {a0 : Array Value} {h h0 h' : Heap} {n0 : Nat} {EL : List (String × Nat)}
theorem GoH.st (st : ∀ t, Steps p.tables e below (T'.setTop g') t → Steps p.tables e below (T.setTop g) t) (k : GoH p e below s C S Z h0 EL Q T' g') : GoH p e below s C S Z h0 EL Q T g := by
  obtain ⟨s₂, o, h1, h2⟩ := k; exact ⟨s₂, o, st _ h1, h2⟩
theorem GoH.tr (st : Steps p.tables e below (T.setTop g) (T'.setTop g')) (k : GoH p e below s C S Z h0 EL Q T' g') : GoH p e below s C S Z h0 EL Q T g := by
  obtain ⟨s₂, o, h1, h2⟩ := k; exact ⟨s₂, o, st.trans h1, h2⟩
theorem GoH.eq (q : g = g') (k : GoH p e below s C S Z h0 EL Q T g') : GoH p e below s C S Z h0 EL Q T g := q ▸ k
theorem GoH.fin (X : Stand p l e R (s.setVm vm0) m args below meth c T locs cells slots) (hS : s.Since vm0 k0) (hk : k0 ≤ h.size) (eT : T.heap = h) (hZ : Z.Warmed39 vm0) (hEL : EW Z a0 EL) (H : CHv Z EL vm0 h) (RR : CHr Z EL s.vm h0 vm0 h) (hlk : meth.locks = false) {v : Option Value} (hv : meth.sig.returnType = none → v = none) (hc : cells ≤ C) (hs : slots ≤ S) (q : Q v T.heap locs)
    (k : ∀ fs, (∀ (f : JFrame) (acts : List Action), f.method = m → f.locked = none → f.entered = [] → (doReturn e (T.setTop f) acts v).1 = T.setFrames fs) → Steps p.tables e below (T.setTop g) (T.setFrames fs)) : GoH p e below s C S Z h0 EL Q T g := by
  obtain ⟨fs, hr, hrun, hended, hW⟩ := X.leaveW hS (eT ▸ hk) (v := v) hv hlk
  refine ⟨_, _, k fs hr, hrun, hended, _, _, rfl, q, ?_, hW.1, hW.2.1, hW.2.2.1, hW.2.2.2.mono hc hs⟩
  show CHr Z EL s.vm h0 T.vm T.heap
  rw [eT]; exact RR.trans (CHv.at X hZ hEL H)
theorem GoH.retN (X : Stand p l e R (s.setVm vm0) m args below meth c T locs cells slots) (hS : s.Since vm0 k0) (hk : k0 ≤ h.size) (eT : T.heap = h) (hZ : Z.Warmed39 vm0) (hEL : EW Z a0 EL) (H : CHv Z EL vm0 h) (RR : CHr Z EL s.vm h0 vm0 h) (hlk : meth.locks = false) (hx : p.tables.exec = Jvm.exec) {pc : Nat} {Ls : Array Slot} {z z' : Int32} {t : FieldType} {rest : List Value} (hret : meth.sig.returnType = some t) (ht : t = .boolean ∨ t = .byte ∨ t = .char ∨ t = .short)
    (hd : decode c.code pc = .ok (.ireturn, 1)) (hc : cells ≤ C) (hs : slots ≤ S) (hz : nar t z = z') (q : Q (some (.int z')) T.heap locs) : GoH p e below s C S Z h0 EL Q T (mkF m pc Ls (.int z :: rest)) := by
  subst hz
  exact GoH.fin X hS hk eT hZ hEL H RR hlk (fun h => by rw [hret] at h; cases h) hc hs q fun fs hr => Jvm.RoadKit.retN X hx hret ht hd hr
theorem GoH.retV (X : Stand p l e R (s.setVm vm0) m args below meth c T locs cells slots) (hS : s.Since vm0 k0) (hk : k0 ≤ h.size) (eT : T.heap = h) (hZ : Z.Warmed39 vm0) (hEL : EW Z a0 EL) (H : CHv Z EL vm0 h) (RR : CHr Z EL s.vm h0 vm0 h) (hlk : meth.locks = false) (hx : p.tables.exec = Jvm.exec) {pc : Nat} {Ls : Array Slot} {w : Value} {t : FieldType} {i : Instr} {rest : List Value} (hret : meth.sig.returnType = some t) (hn : narrow t w = w)
    (hi : (i = .ireturn ∧ (t = .int ∨ t = .boolean ∨ t = .byte ∨ t = .char ∨ t = .short) ∧ ∃ z, w = .int z) ∨ (i = .lreturn ∧ t = .long ∧ ∃ z, w = .long z) ∨ (i = .dreturn ∧ t = .double ∧ ∃ z, w = .double z) ∨ (i = .freturn ∧ t = .float ∧ ∃ z, w = .float z) ∨ (i = .areturn ∧ t.isReference = true ∧ w.isRef = true))
    (hd : decode c.code pc = .ok (i, 1)) (hc : cells ≤ C) (hs : slots ≤ S) (q : Q (some w) T.heap locs) : GoH p e below s C S Z h0 EL Q T (mkF m pc Ls (w :: rest)) :=
  GoH.fin X hS hk eT hZ hEL H RR hlk (fun h => by rw [hret] at h; cases h) hc hs q fun fs hr => Jvm.RoadKit.retOut X hx hret hn hi hd hr
theorem GoH.retR (X : Stand p l e R (s.setVm vm0) m args below meth c T locs cells slots) (hS : s.Since vm0 k0) (hk : k0 ≤ h.size) (eT : T.heap = h) (hZ : Z.Warmed39 vm0) (hEL : EW Z a0 EL) (H : CHv Z EL vm0 h) (RR : CHr Z EL s.vm h0 vm0 h) (hlk : meth.locks = false) (hx : p.tables.exec = Jvm.exec) {pc : Nat} {Ls : Array Slot} {w : Value} {t : FieldType} {rest : List Value} (hret : meth.sig.returnType = some t) (ht : t.isReference = true) (hw : w.isRef = true) (hn : narrow t w = w)
    (hd : decode c.code pc = .ok (.areturn, 1)) (hc : cells ≤ C) (hs : slots ≤ S) (q : Q (some w) T.heap locs) : GoH p e below s C S Z h0 EL Q T (mkF m pc Ls (w :: rest)) :=
  GoH.retV X hS hk eT hZ hEL H RR hlk hx hret hn (Or.inr (Or.inr (Or.inr (Or.inr ⟨rfl, ht, hw⟩)))) hd hc hs q
theorem GoH.retI (X : Stand p l e R (s.setVm vm0) m args below meth c T locs cells slots) (hS : s.Since vm0 k0) (hk : k0 ≤ h.size) (eT : T.heap = h) (hZ : Z.Warmed39 vm0) (hEL : EW Z a0 EL) (H : CHv Z EL vm0 h) (RR : CHr Z EL s.vm h0 vm0 h) (hlk : meth.locks = false) (hx : p.tables.exec = Jvm.exec) {pc : Nat} {Ls : Array Slot} {z : Int32} {rest : List Value} (hret : meth.sig.returnType = some .int)
    (hd : decode c.code pc = .ok (.ireturn, 1)) (hc : cells ≤ C) (hs : slots ≤ S) (q : Q (some (.int z)) T.heap locs) : GoH p e below s C S Z h0 EL Q T (mkF m pc Ls (.int z :: rest)) :=
  GoH.retV X hS hk eT hZ hEL H RR hlk hx hret rfl (Or.inl ⟨rfl, Or.inl rfl, z, rfl⟩) hd hc hs q
theorem GoH.ret0 (X : Stand p l e R (s.setVm vm0) m args below meth c T locs cells slots) (hS : s.Since vm0 k0) (hk : k0 ≤ h.size) (eT : T.heap = h) (hZ : Z.Warmed39 vm0) (hEL : EW Z a0 EL) (H : CHv Z EL vm0 h) (RR : CHr Z EL s.vm h0 vm0 h) (hlk : meth.locks = false) (hx : p.tables.exec = Jvm.exec) {pc : Nat} {Ls : Array Slot} (hret : meth.sig.returnType = none)
    (hd : decode c.code pc = .ok (.return_, 1)) (hc : cells ≤ C) (hs : slots ≤ S) (q : Q none T.heap locs) : GoH p e below s C S Z h0 EL Q T (mkF m pc Ls []) :=
  GoH.fin X hS hk eT hZ hEL H RR hlk (fun _ => rfl) hc hs q fun fs hr => X.returnOut hx hret hd hr
theorem own_backSH {y : MethodName} {bytes : ByteArray} {maxL : Nat} {ret : Option FieldType} {rm : Room} {len W : Nat} {as' : Array Value} {sf : List Addr}
    (hM : MetFree l y (head1 [Cond.code y bytes maxL ret] rm) (fun a U => a = as' ∧ Z.Warmed39 U.vm ∧ U.heap = h ∧ CHv Z EL U.vm h ∧ ∀ x ∈ sf, Safe Z EL U.vm h x) (fun _ _ _ _ _ => True) (fun _ U o U' => ∃ v L, o = .returned v ∧ Q v U'.heap L ∧ CHr Z EL U.vm U.heap U'.vm U'.heap ∧ ReturnedEndW U o U' L rm.cells rm.slots))
    (hZ : Z.Warmed39 vm0) (wc : (Cond.code y bytes maxL ret).before a0 Z = true) (wz : (Cond.initialized y.cls).before a0 Z = true) (hf : rm.frames + 1 ≤ R.frames) (hl : W + (maxL + 11) + rm.locals ≤ R.locals) (hEL : EW Z a0 EL) (H : CHv Z EL vm0 h) (hsf : ∀ x ∈ sf, Safe Z EL vm0 h x ∧ x < Array.size h) :
    BackS l R p e below (s.setVm vm0) args y len W (fun A a => a = as' ∧ A.U.heap = h ∧ A.cells + rm.cells ≤ R.cells ∧ A.slots + rm.slots ≤ R.slots)
      (fun A _ v B => ∃ L, Q v B.U.heap L ∧ B.locs = A.locs ++ L ∧ B.cells = A.cells + rm.cells ∧ B.slots = A.slots + rm.slots ∧ CHr Z EL vm0 h B.U.vm B.U.heap) := by
  have up : ∀ {m meth c} {A : Pt}, Stand p l e R (s.setVm vm0) m args below meth c A.U A.locs A.cells A.slots → Z.Warmed39 A.U.vm := fun Y => wtrans (s := s.setVm vm0) hZ Y.warmed
  refine BackS.of_freeW (bytes := bytes) (maxL := maxL) (ret := ret) (E := fun _ first o t L k n => (k = rm.cells ∧ n = rm.slots) ∧ (∃ v, o = .returned v ∧ Q v t.heap L) ∧ CHr Z EL first.vm first.heap t.vm t.heap) hM hf hl ?_ ?_ ?_ ?_ ?_
  · intro m meth c A a Y hp
    refine ⟨?_, mv (up Y) wc, mv (up Y) wz, hp.2.2.1, hp.2.2.2⟩
    show (Cond.and _ .tt).before a A.U = true
    rw [Cond.before_and, mv (up Y) wc]; rfl
  · intro m meth c A a g mk Y hp
    have q := CHv.at Y hZ hEL H
    exact ⟨hp.1, up Y, hp.2.1, q.1, fun x hx => q.safe (hsf x hx).2 (hsf x hx).1⟩
  · intro _ _ _ _ _ _ _ _ _; trivial
  · intro _ _ _ _ hq
    obtain ⟨v, L, h1, h2, h3, h4⟩ := hq
    exact ⟨L, _, _, h4, ⟨rfl, rfl⟩, ⟨v, h1, h2⟩, h3⟩
  · intro m meth c A a g mk v t L k n Y hp _ _ hq
    obtain ⟨⟨e1, e2⟩, ⟨v', e3, e4⟩, e5⟩ := hq
    cases e3; subst e1 e2
    refine ⟨L, e4, rfl, rfl, rfl, (CHv.at Y hZ hEL H).trans ?_⟩
    rw [← hp.2.1]; exact e5
theorem own_backSKH {y : MethodName} {bytes : ByteArray} {maxL : Nat} {ret : Option FieldType} {rm : Room} {len W : Nat} {as' : Array Value} {sf : List Addr}
    (hM : MetFree l y (head1 [Cond.code y bytes maxL ret] rm) (fun a U => a = as' ∧ Z.Warmed39 U.vm ∧ U.heap = h ∧ CHv Z EL U.vm h ∧ ∀ x ∈ sf, Safe Z EL U.vm h x) (fun _ _ bl s _ => s.vm.MethodsKnown ∧ s.vm.FramesKnown bl) (fun _ U o U' => ∃ v L, o = .returned v ∧ Q v U'.heap L ∧ CHr Z EL U.vm U.heap U'.vm U'.heap ∧ ReturnedEndW U o U' L rm.cells rm.slots))
    (hZ : Z.Warmed39 vm0) (wc : (Cond.code y bytes maxL ret).before a0 Z = true) (wz : (Cond.initialized y.cls).before a0 Z = true) (hf : rm.frames + 1 ≤ R.frames) (hl : W + (maxL + 11) + rm.locals ≤ R.locals) (hEL : EW Z a0 EL) (H : CHv Z EL vm0 h) (hsf : ∀ x ∈ sf, Safe Z EL vm0 h x ∧ x < Array.size h) (hTK : vm0.MethodsKnown) (hBelow : vm0.FramesKnown below) :
    BackS l R p e below (s.setVm vm0) args y len W (fun A a => a = as' ∧ A.U.heap = h ∧ A.cells + rm.cells ≤ R.cells ∧ A.slots + rm.slots ≤ R.slots)
      (fun A _ v B => ∃ L, Q v B.U.heap L ∧ B.locs = A.locs ++ L ∧ B.cells = A.cells + rm.cells ∧ B.slots = A.slots + rm.slots ∧ CHr Z EL vm0 h B.U.vm B.U.heap) := by
  have up : ∀ {m meth c} {A : Pt}, Stand p l e R (s.setVm vm0) m args below meth c A.U A.locs A.cells A.slots → Z.Warmed39 A.U.vm := fun Y => wtrans (s := s.setVm vm0) hZ Y.warmed
  refine BackS.of_freeWG (bytes := bytes) (maxL := maxL) (ret := ret) (E := fun _ first o t L k n => (k = rm.cells ∧ n = rm.slots) ∧ (∃ v, o = .returned v ∧ Q v t.heap L) ∧ CHr Z EL first.vm first.heap t.vm t.heap) hM hf hl ?_ ?_ ?_ ?_ ?_
  · intro m meth c A a Y hp
    refine ⟨?_, mv (up Y) wc, mv (up Y) wz, hp.2.2.1, hp.2.2.2⟩
    show (Cond.and _ .tt).before a A.U = true
    rw [Cond.before_and, mv (up Y) wc]; rfl
  · intro m meth c A a g mk Y hp
    have q := CHv.at Y hZ hEL H
    exact ⟨hp.1, up Y, hp.2.1, q.1, fun x hx => q.safe (hsf x hx).2 (hsf x hx).1⟩
  · intro m meth c A a g mk Y hp hg; exact known_frames Y hg hTK hBelow
  · intro _ _ _ _ hq
    obtain ⟨v, L, h1, h2, h3, h4⟩ := hq
    exact ⟨L, _, _, h4, ⟨rfl, rfl⟩, ⟨v, h1, h2⟩, h3⟩
  · intro m meth c A a g mk v t L k n Y hp _ _ hq
    obtain ⟨⟨e1, e2⟩, ⟨v', e3, e4⟩, e5⟩ := hq
    cases e3; subst e1 e2
    refine ⟨L, e4, rfl, rfl, rfl, (CHv.at Y hZ hEL H).trans ?_⟩
    rw [← hp.2.1]; exact e5
theorem own_since (s : State) (n : Nat) : s.Since s.vm n := (State.WarmedH.since (s := s) (vm₁ := s.vm) (State.WarmedH.refl s) n)
theorem GoH.pure {w : Option Value} {Qc : Option Value → Heap → List Loc → Prop} {rest : List Value} {pc' : Nat} (H : ∃ (v : Option Value) (vm₁ : Vm) (B : Pt), (s.setVm vm0).WarmedH vm₁ ∧ Stand p l e R (s.setVm vm0) m args below meth c B.U B.locs B.cells B.slots ∧ (∃ L, Qc v B.U.heap L ∧ B.locs = locs ++ L ∧ B.cells = cells + 0 ∧ B.slots = slots + 0) ∧ Steps p.tables e below (T.setTop g) (B.U.setTop { g with pc := pc', stack := v.toList ++ rest })) (hq : ∀ v h' L, Qc v h' L → v = w ∧ Fr n0 L ∧ h' = h) (N : Fr n0 locs)
    (k : ∀ T' L', Stand p l e R (s.setVm vm0) m args below meth c T' L' cells slots → T'.heap = h → Fr n0 L' → GoH p e below s C S Z h0 EL Q T' { g with pc := pc', stack := w.toList ++ rest }) : GoH p e below s C S Z h0 EL Q T g := by
  obtain ⟨v, vm1, ⟨T', L', c', s'⟩, -, X, ⟨L, q, e1, e2, e3⟩, st⟩ := H
  obtain ⟨rfl, q2, q3⟩ := hq _ _ _ q
  dsimp only [Pt.U, Pt.locs, Pt.cells, Pt.slots] at X e1 e2 e3 st q3
  subst e1 e2 e3
  exact GoH.tr st (k _ _ X q3 (Fr.app N q2))
theorem GoH.pureS {w : Option Value} {Qc : Option Value → Heap → List Loc → Prop} {rest : List Value} {pc' : Nat} (H : ∃ (v : Option Value) (vm₁ : Vm) (B : Pt), (s.setVm vm0).WarmedH vm₁ ∧ Stand p l e R (s.setVm vm0) m args below meth c B.U B.locs B.cells B.slots ∧ (∃ L, Qc v B.U.heap L ∧ B.locs = locs ++ L ∧ B.cells = cells + 0 ∧ B.slots = slots + 0) ∧ ∀ target, Steps p.tables e below (B.U.setTop { g with pc := pc', stack := v.toList ++ rest }) target → Steps p.tables e below (T.setTop g) target) (hq : ∀ v h' L, Qc v h' L → v = w ∧ Fr n0 L ∧ h' = h) (N : Fr n0 locs)
    (k : ∀ T' L', Stand p l e R (s.setVm vm0) m args below meth c T' L' cells slots → T'.heap = h → Fr n0 L' → GoH p e below s C S Z h0 EL Q T' { g with pc := pc', stack := w.toList ++ rest }) : GoH p e below s C S Z h0 EL Q T g := by
  obtain ⟨v, vm1, ⟨T', L', c', s'⟩, -, X, ⟨L, q, e1, e2, e3⟩, st⟩ := H
  obtain ⟨rfl, q2, q3⟩ := hq _ _ _ q
  dsimp only [Pt.U, Pt.locs, Pt.cells, Pt.slots] at X e1 e2 e3 st q3
  subst e1 e2 e3
  exact GoH.st st (k _ _ X q3 (Fr.app N q2))
end GoHKit

abbrev EL : List (String × Nat) := consts_1
theorem own_m255 (z : Int32) : ¬ nar .char ((z &&& (255 : Int32)).toUInt32.toUInt16.toUInt32.toInt32) < 0 ∧ ¬ (255 : Int32) < nar .char ((z &&& (255 : Int32)).toUInt32.toUInt16.toUInt32.toInt32) := by
  have small : ∀ k : Fin 256, ¬ nar .char ((Int32.ofNat k.val).toUInt32.toUInt16.toUInt32.toInt32) < 0 ∧ ¬ (255 : Int32) < nar .char ((Int32.ofNat k.val).toUInt32.toUInt16.toUInt32.toInt32) := by decide +kernel
  have lt : (z &&& 255).toBitVec.toNat < 256 := by
    rw [Int32.toBitVec_and, BitVec.toNat_and]; exact Nat.lt_succ_of_le Nat.and_le_right
  have eq : (z &&& 255) = Int32.ofNat (z &&& 255).toBitVec.toNat := by
    apply Int32.toBitVec_inj.mp
    show _ = BitVec.ofNat 32 _
    rw [BitVec.ofNat_toNat]; simp
  rw [eq]; exact small ⟨_, lt⟩
theorem own_nil {P : Int32 → Prop} : ∀ c ∈ ([] : List Int32), P c := fun _ q => nomatch q
theorem own_cons {P : Int32 → Prop} {y : Int32} {L : List Int32} (q : P y) (r : ∀ c ∈ L, P c) : ∀ c ∈ y :: L, P c := fun x z => (List.mem_cons.mp z).elim (fun u => u ▸ q) (r x)
theorem own_narrow {x : Value} {c : String} (h : x.isRef = true) : narrow (.object c) x = x := by cases x <;> first | rfl | simp [Value.isRef] at h
theorem own_fits {x : Value} {c : String} (h : x.isRef = true) : fits (.object c) x = true := by cases x <;> first | rfl | simp [Value.isRef] at h
theorem own_selfsel2 {C : String} {y : MethodName} {args : Array Value} {s : State} (hs : (Jvm.Cond.selects C y y).before args s = true) (hp : (Jvm.Cond.privateMethod y).before args s = true) (hi : (Jvm.Cond.instanceMethod y).before args s = true) (hy : y.cls ≠ "java/lang/invoke/MethodHandle" ∧ y.cls ≠ "java/lang/invoke/VarHandle") : (Jvm.Cond.selects y.cls y y).before args s = true := by
  obtain ⟨c2, r2, m2, -, -, q3, -, kP, hkP, hkPi⟩ := Cond.selects_spec hs
  exact selects_self_of_private (findClass_of_methodNamed q3) hkP hkPi (Cond.privateMethod_at hp) hi hy
theorem own_selfsel3 {C : String} {y z : MethodName} {args : Array Value} {s : State} (hs : (Jvm.Cond.selects C z z).before args s = true) (e : z.cls = y.cls) (hp : (Jvm.Cond.privateMethod y).before args s = true) (hi : (Jvm.Cond.instanceMethod y).before args s = true) (hy : y.cls ≠ "java/lang/invoke/MethodHandle" ∧ y.cls ≠ "java/lang/invoke/VarHandle") : (Jvm.Cond.selects y.cls y y).before args s = true := by
  obtain ⟨c2, r2, m2, -, -, q3, -, kP, hkP, hkPi⟩ := Cond.selects_spec hs
  exact selects_self_of_private (e ▸ findClass_of_methodNamed q3) hkP hkPi (Cond.privateMethod_at hp) hi hy
theorem own_same {C : String} {y z : MethodName} {args : Array Value} {s : State} (hd : (Jvm.Cond.declares y).before args s = true) (hs : (Jvm.Cond.selects C z z).before args s = true) (e : z.cls = y.cls) (hy : y.cls ≠ "java/lang/invoke/MethodHandle" ∧ y.cls ≠ "java/lang/invoke/VarHandle") : (Jvm.Cond.sameMethod y.cls y.cls y.name y.desc).before args s = true := by
  obtain ⟨m, meth, hm, -, -, -⟩ := Cond.declares_spec hd
  obtain ⟨c2, r2, m2, -, -, q3, -, kP, hkP, hkPi⟩ := Cond.selects_spec hs
  have hf := State.methodFound?_of_named hm hy
  have hc : s.vm.findClass y.cls = some m2.cls := e ▸ findClass_of_methodNamed q3
  have hm' : s.methodNamed? ⟨y.cls, y.name, y.desc⟩ = some m := hm
  simp [Cond.before, Cond.holds, Cond.value, hc, hf, hm', hkP, hkPi]
theorem own_nf {C : String} {y z : MethodName} {args : Array Value} {s : State} (hs : (Jvm.Cond.selects C z z).before args s = true) (e : z.cls = y.cls) : NotFace s y := fun r0 h0 => by
  obtain ⟨c2, r2, m2, -, -, q3, -, kP, hkP, hkPi⟩ := Cond.selects_spec hs
  have h1 : s.vm.findClass y.cls = some m2.cls := e ▸ findClass_of_methodNamed q3
  have h2 : s.vm.findClass y.cls = some r0.cls := findClass_of_methodNamed h0
  have q := Option.some.inj (h1.symm.trans h2)
  exact ⟨kP, q ▸ hkP, hkPi⟩
theorem own_shr0 (x : Int32) : x >>> ((0 : Int32) &&& 31) = x := by
  have h := c_ishr x 0 0 (by decide)
  apply Int32.toInt_inj.mp; rw [h]; simp
theorem own_shl0 (x : Int32) : x <<< ((0 : Int32) &&& 31) = x := by
  have h := c_ishl x 0 0 (by decide); have h1 := Int32.le_toInt x; have h2 := Int32.toInt_lt x; have h3 := Int32.le_toInt (x <<< ((0 : Int32) &&& 31)); have h4 := Int32.toInt_lt (x <<< ((0 : Int32) &&& 31))
  apply Int32.toInt_inj.mp
  have e : ((2 ^ 0 : Nat) : Int) = 1 := rfl
  rw [e] at h; omega
theorem own_oi {a : Nat} (h : a < 2147483648) : (Int32.ofNat a).toInt = a := Int32.toInt_ofNat_of_lt h
theorem own_oadd (a b : Nat) : Int32.ofNat a + Int32.ofNat b = Int32.ofNat (a + b) := (Int32.ofNat_add a b).symm
theorem own_oadd2 (a : Nat) : Int32.ofNat a + (2 : Int32) = Int32.ofNat (a + 2) := (Int32.ofNat_add a 2).symm
theorem own_osub {a b : Nat} (h : b ≤ a) (ha : a < 1073741824) : Int32.ofNat a - Int32.ofNat b = Int32.ofNat (a - b) := by
  apply Int32.toInt_inj.mp
  have h2 := c_isub (Int32.ofNat a) (Int32.ofNat b); rw [own_oi (by omega), own_oi (by omega)] at h2; rw [own_oi (by omega)]
  have h3 := Int32.le_toInt (Int32.ofNat a - Int32.ofNat b); have h4 := Int32.toInt_lt (Int32.ofNat a - Int32.ofNat b); omega
theorem own_osub0 {a : Nat} : Int32.ofNat a - (0 : Int32) = Int32.ofNat a := Int32.sub_zero _
theorem own_le0 {a b : Nat} (h : a ≤ b) (hb : b < 1073741824) : ¬ ((0 : Int32) < (Int32.ofNat a - Int32.ofNat b)) := by
  rw [Int32.lt_iff_toInt_lt]
  have h2 := c_isub (Int32.ofNat a) (Int32.ofNat b); rw [own_oi (by omega), own_oi (by omega)] at h2
  have h3 := Int32.le_toInt (Int32.ofNat a - Int32.ofNat b); have h4 := Int32.toInt_lt (Int32.ofNat a - Int32.ofNat b); have e : (0 : Int32).toInt = 0 := rfl; omega
theorem own_gt0 {a b : Nat} (h : b < a) (ha : a < 1073741824) : (0 : Int32) < (Int32.ofNat a - Int32.ofNat b) := by
  rw [own_osub (Nat.le_of_lt h) ha, Int32.lt_iff_toInt_lt, own_oi (by omega)]; have e : (0 : Int32).toInt = 0 := rfl; omega
theorem own_olt {a b : Nat} (ha : a < 2147483648) (hb : b < 2147483648) : Int32.ofNat a < Int32.ofNat b ↔ a < b := by
  rw [Int32.lt_iff_toInt_lt, own_oi ha, own_oi hb]; omega
theorem own_oeq {a b : Nat} (ha : a < 2147483648) (hb : b < 2147483648) : Int32.ofNat a = Int32.ofNat b ↔ a = b := by
  constructor
  · intro h; have := congrArg Int32.toInt h; rw [own_oi ha, own_oi hb] at this; omega
  · intro h; rw [h]
theorem own_ocl {a : Nat} (h : a < 2147483648) : (Int32.ofNat a).toNatClampNeg = a := by
  rw [Int32.toNatClampNeg, own_oi h]; rfl
theorem own_onn {a : Nat} (h : a < 2147483648) : ¬ (Int32.ofNat a < 0) := by
  rw [Int32.lt_iff_toInt_lt, own_oi h]; have e : (0 : Int32).toInt = 0 := rfl; omega
theorem own_rng {vs : List Value} {dv : Value} (m : Nat) (i : Nat) (h : vs.length ≤ m) : ((List.range m).map fun i => vs.getD (0 + i) dv).getD i dv = vs.getD i dv := by
  simp only [List.getD_eq_getElem?_getD, List.getElem?_map, Nat.zero_add]
  by_cases q : i < m
  · simp [List.getElem?_range q]
  · rw [List.getElem?_eq_none (by simpa using q)]; simp [List.getElem?_eq_none (by omega : vs.length ≤ i)]
theorem own_rep (r i : Nat) (dv : Value) : (List.replicate r dv).getD i dv = dv := by
  simp only [List.getD_eq_getElem?_getD, List.getElem?_replicate]; split <;> rfl
theorem own_cp {bs vs : List Value} {dv : Value} {d m r : Nat} (hb : bs.length = d) (hv : vs.length ≤ m) : ∀ i, (bs ++ vs).getD i dv = ((bs ++ List.replicate r dv).take d ++ ((List.range m).map fun i => vs.getD (0 + i) dv) ++ (bs ++ List.replicate r dv).drop (d + m)).getD i dv := by
  intro i
  subst hb
  rw [List.take_left]
  have e1 : (bs ++ List.replicate r dv).drop (bs.length + m) = List.replicate (r - m) dv := by
    rw [← List.drop_drop, List.drop_left, List.drop_replicate]
  rw [e1, List.append_assoc]
  simp only [List.getD_eq_getElem?_getD]
  by_cases q : i < bs.length
  · rw [List.getElem?_append_left q, List.getElem?_append_left q]
  · rw [List.getElem?_append_right (Nat.le_of_not_lt q), List.getElem?_append_right (Nat.le_of_not_lt q)]
    generalize i - bs.length = j
    have a1 := own_rng (vs := vs) (dv := dv) m j hv
    have a2 := own_rep (r - m) (j - m) dv
    simp only [List.getD_eq_getElem?_getD] at a1 a2
    by_cases w : j < m
    · rw [List.getElem?_append_left (by simpa using w)]; exact a1.symm
    · rw [List.getElem?_append_right (by simpa using w)]; simp only [List.length_map, List.length_range]
      rw [a2, List.getElem?_eq_none (by omega)]; rfl
theorem own_opos {a : Nat} (h : 0 < a) (h2 : a < 2147483648) : (0 : Int32) < Int32.ofNat a := by
  rw [Int32.lt_iff_toInt_lt, own_oi h2]; have e : (0 : Int32).toInt = 0 := rfl; omega
theorem own_onbig {a : Nat} (h : a < 2000000000) : ¬ ((2147483639 : Int32) < Int32.ofNat a) := by
  rw [Int32.lt_iff_toInt_lt, own_oi (by omega)]; have e : (2147483639 : Int32).toInt = 2147483639 := rfl; omega
theorem own_onmax {a : Nat} (h : a < 2000000000) : ¬ (Int32.ofNat a = (2147483647 : Int32)) := by
  intro q; have := congrArg Int32.toInt q; rw [own_oi (by omega)] at this; have e : (2147483647 : Int32).toInt = 2147483647 := rfl; omega
theorem own_lapp {bs vs : List Value} {n m : Nat} (h : bs.length = n) (g : vs.length = m) : (bs ++ vs).length = n + m := by rw [List.length_append, h, g]
theorem own_nch (x : Int32) : nar .char ((x &&& (255 : Int32)).toUInt32.toUInt16.toUInt32.toInt32) = (x &&& (255 : Int32)).toUInt32.toUInt16.toUInt32.toInt32 := by
  generalize (x &&& (255 : Int32)).toUInt32.toUInt16 = u
  show (u.toUInt32.toInt32).toUInt32.toUInt16.toUInt32.toInt32 = u.toUInt32.toInt32
  simp
def own_chr (x : Int32) : Int32 := (x &&& (255 : Int32)).toUInt32.toUInt16.toUInt32.toInt32
theorem own_nchr (x : Int32) : nar .char (own_chr x) = own_chr x := own_nch x
theorem own_gm (cs : List Int32) (i : Nat) : (cs.map Value.int).getD i (.int 0) = .int (cs.getD i 0) := by
  simp only [List.getD_eq_getElem?_getD, List.getElem?_map]
  cases cs[i]? <;> rfl
theorem own_mid {M A B C : List Int32} {i k : Nat} (e : M = A ++ (B ++ C)) (hi : i = A.length + k) (hk : k < B.length) : M.getD i 0 = B.getD k 0 := by
  subst e hi
  simp only [List.getD_eq_getElem?_getD]
  rw [List.getElem?_append_right (Nat.le_add_right _ _), Nat.add_sub_cancel_left, List.getElem?_append_left hk]
theorem own_lit {M A B C : List Int32} {i k : Nat} {z : Int32} (e : M = A ++ (B ++ C)) (hi : i = A.length + k) (hk : k < B.length) (hz : own_chr (B.getD k 0) = z) : own_chr (M.getD i 0) = z := by
  rw [own_mid e hi hk]; exact hz
theorem own_free {l : Launch} {y : MethodName} {S : Spec} {P : Array Value → State → Prop} {Q : Array Value → State → Outcome → State → Prop} {wl : List Jvm.Cond} {rm : Room} {as' : Array Value} {Z : State} {h : Heap} {Q' : Option Value → Heap → List Loc → Prop}
    (hM : MetFree l y S P (fun _ _ _ _ _ => True) Q) (hpre : ∀ U : State, Z.Warmed39 U.vm → S.pre.before as' U = true) (hf : S.room.frames ≤ rm.frames) (hl : S.room.locals ≤ rm.locals) (hc : S.room.cells ≤ rm.cells) (hs : S.room.slots ≤ rm.slots)
    (hP : ∀ U : State, Z.Warmed39 U.vm → U.heap = h → P as' U) (hQ : ∀ (U : State) (o : Outcome) (U' : State), U.heap = h → Q as' U o U' → ∃ v L, o = .returned v ∧ Q' v U'.heap L ∧ FrameEnd U o U' L rm.cells rm.slots) :
    MetFree l y (head1 wl rm) (fun a U => a = as' ∧ Z.Warmed39 U.vm ∧ U.heap = h) (fun _ _ _ _ _ => True) (fun _ U o U' => ∃ v L, o = .returned v ∧ Q' v U'.heap L ∧ FrameEnd U o U' L rm.cells rm.slots) := by
  intro p e ha hcs hk s m args below hfr happ hP' hK
  obtain ⟨rfl, hZ, hh⟩ := hP'
  obtain ⟨a1, a2, a3, a4, a5, a6, a7, a8⟩ := (Spec.appliesLoose_iff hfr).mp happ
  obtain ⟨n, o, q1, q2, q3, q4⟩ := hM p e ha hcs hk s m _ below hfr ((Spec.appliesLoose_iff hfr).mpr ⟨a1, a2, a3, a4, a5, a6, hasRoom_mono hf hl hc hs a7, hpre _ hZ⟩) (hP _ hZ hh) trivial
  exact ⟨n, o, q1, q2, q3, hQ _ _ _ hh q4⟩
open Jvm.Free.SBG in
def own_k (x : Int64) : Nat := digitsL x.toInt.natAbs
def own_dl (x : Int64) : List Int32 := (List.range (own_k x)).map fun j => Int32.ofNat (48 + x.toInt.natAbs / 10 ^ (own_k x - 1 - j) % 10)
theorem own_dll (x : Int64) : (own_dl x).length = own_k x := by simp [own_dl]
theorem own_dld (x : Int64) {j : Nat} (h : j < own_k x) : (own_dl x).getD j 0 = Int32.ofNat (48 + x.toInt.natAbs / 10 ^ (own_k x - 1 - j) % 10) := by
  simp [own_dl, List.getD_eq_getElem?_getD, h]
theorem own_negx {x : Int64} (hx : ¬ x < 0) : x.toInt.natAbs ≤ 2 ^ 63 ∧ (if x < 0 then x else -x) = Jvm.Free.SBG.negL x.toInt.natAbs := by
  have h1 := Int64.toInt_lt x; have h2 := Int64.le_toInt x
  have z0 : (0 : Int64).toInt = 0 := by decide
  have hx' : 0 ≤ x.toInt := by have := Int64.not_lt.mp hx; have := Int64.le_iff_toInt_le.mp this; rw [z0] at this; exact this
  refine ⟨by omega, ?_⟩
  rw [if_neg hx]; apply Int64.toInt_inj.mp; rw [Int64.toInt_neg, Jvm.Free.SBG.negL_toInt (by omega), Jvm.Free.SBG.bmL (by omega) (by omega)]; omega
theorem own_dlm (x : Int64) : ((own_dl x).map Value.int).length = own_k x := by rw [List.length_map, own_dll]
theorem own_mod (a n : Int32) (hn : 0 < n.toInt) : 0 ≤ ((a &&& 2147483647) % n).toInt ∧ ((a &&& 2147483647) % n).toInt < n.toInt := by
  have e1 : (a &&& 2147483647).toInt = a.toInt % 2 ^ 31 := Jvm.Kit.i32_mask a 2147483647 (k := 31) (by decide) (by decide)
  rw [Int32.toInt_mod, e1]
  have p0 : 0 ≤ a.toInt % 2 ^ 31 := Int.emod_nonneg _ (by decide)
  rw [Int.tmod_eq_emod_of_nonneg p0]
  exact ⟨Int.emod_nonneg _ (by omega), Int.emod_lt_of_pos _ hn⟩
theorem own_mod5 (a : Int32) : (a &&& 2147483647) % 5 = 0 ∨ (a &&& 2147483647) % 5 = 1 ∨ (a &&& 2147483647) % 5 = 2 ∨ (a &&& 2147483647) % 5 = 3 ∨ (a &&& 2147483647) % 5 = 4 := by
  have h := own_mod a 5 (by decide)
  have e : (5 : Int32).toInt = 5 := rfl
  rw [e] at h
  have : ((a &&& 2147483647) % 5).toInt = 0 ∨ ((a &&& 2147483647) % 5).toInt = 1 ∨ ((a &&& 2147483647) % 5).toInt = 2 ∨ ((a &&& 2147483647) % 5).toInt = 3 ∨ ((a &&& 2147483647) % 5).toInt = 4 := by omega
  rcases this with h | h | h | h | h <;> simp [← Int32.toInt_inj, h]
theorem own_wN : ∀ (f n : Nat), 1 ≤ n → n < 100 ^ f → 1 ≤ Jvm.Free.SBG.wN f n ∧ 10 ^ (Jvm.Free.SBG.wN f n - 1) ≤ n ∧ n < 10 ^ Jvm.Free.SBG.wN f n := by
  intro f
  induction f with
  | zero => intro n h1 h2; simp at h2; omega
  | succ f ih =>
    intro n h1 h2
    simp only [Jvm.Free.SBG.wN]
    by_cases c : 100 ≤ n
    · rw [if_pos c]
      obtain ⟨a, b, d⟩ := ih (n / 100) (by omega) (by rw [Nat.pow_succ] at h2; omega)
      generalize Jvm.Free.SBG.wN f (n / 100) = w at a b d
      refine ⟨by omega, ?_, ?_⟩
      · rw [show 2 + w - 1 = (w - 1) + 2 by omega, Nat.pow_add]; omega
      · rw [show 2 + w = w + 2 by omega, Nat.pow_add]; omega
    · rw [if_neg c]
      by_cases c2 : 9 < n
      · rw [if_pos c2]; refine ⟨by omega, ?_, ?_⟩ <;> simp <;> omega
      · rw [if_neg c2]; refine ⟨by omega, ?_, ?_⟩ <;> simp <;> omega
theorem own_kk {x : Int64} (h : 1 ≤ x.toInt) : 1 ≤ own_k x ∧ own_k x ≤ 19 ∧ 10 ^ (own_k x - 1) ≤ x.toInt.natAbs ∧ x.toInt.natAbs < 10 ^ own_k x := by
  have h1 := Int64.toInt_lt x
  have e100 : (100 : Nat) ^ 10 = 100000000000000000000 := by decide
  obtain ⟨a, b, c⟩ := own_wN 10 x.toInt.natAbs (by omega) (by omega)
  refine ⟨a, ?_, b, c⟩
  show Jvm.Free.SBG.wN 10 x.toInt.natAbs ≤ 19
  refine Nat.le_of_not_lt fun q => ?_
  have := Nat.pow_le_pow_right (n := 10) (by decide) (show 19 ≤ Jvm.Free.SBG.wN 10 x.toInt.natAbs - 1 by omega)
  have e : (10 : Nat) ^ 19 = 10000000000000000000 := by decide
  omega
theorem own_p10 : ∀ i : Fin 19, (Int64.ofNat (10 ^ i.val)).toInt = 10 ^ i.val := by decide +kernel
theorem own_pt {i : Nat} (h : i < 19) : (Int64.ofNat (10 ^ i)).toInt = ((10 ^ i : Nat) : Int) := by
  have := own_p10 ⟨i, h⟩; simpa using this
theorem own_pnz {i : Nat} (h : i < 19) : ¬ (Int64.ofNat (10 ^ i) = 0) := fun q => by
  have := own_pt h; rw [q] at this
  have e : (0 : Int64).toInt = 0 := rfl
  have p := Nat.pow_pos (n := i) (show 0 < 10 by decide); omega
theorem own_div {a b : Int64} (ha : 0 ≤ a.toInt) (hb : 0 < b.toInt) : (a / b).toInt = a.toInt / b.toInt := by
  have h1 := Int64.toInt_lt a
  rw [Int64.toInt_div, Int.tdiv_eq_ediv_of_nonneg ha]
  have h2 : 0 ≤ a.toInt / b.toInt := Int.ediv_nonneg ha (by omega)
  have h3 : a.toInt / b.toInt ≤ a.toInt := Int.ediv_le_self _ ha
  exact Int.bmod_eq_of_le (by omega) (by omega)
theorem own_rem {a b : Int64} (ha : 0 ≤ a.toInt) : (a % b).toInt = a.toInt % b.toInt := by
  rw [Int64.toInt_mod, Int.tmod_eq_emod_of_nonneg ha]
theorem own_max (x : Int64) : 0 ≤ (x &&& 9223372036854775807).toInt := by
  have lt : (x &&& 9223372036854775807).toBitVec.toNat ≤ 9223372036854775807 := by
    rw [Int64.toBitVec_and, BitVec.toNat_and]; exact Nat.and_le_right
  show 0 ≤ (x &&& 9223372036854775807).toBitVec.toInt
  rw [BitVec.toInt_eq_toNat_cond]; split <;> omega
def own_ui (u : Int32) : Int64 := if u = 0 then 86400000 else if u = 1 then 3600000 else if u = 2 then 60000 else if u = 3 then 1000 else 1
theorem own_uip (u : Int32) : 1 ≤ (own_ui u).toInt ∧ (own_ui u).toInt ≤ 86400000 := by
  unfold own_ui; split; · decide
  split; · decide
  split; · decide
  split <;> decide
theorem own_uinz (u : Int32) : ¬ (own_ui u = 0) := fun q => by have := own_uip u; rw [q] at this; exact absurd this.1 (by decide)
theorem own_mulI {a b : Int64} (h : -9223372036854775808 ≤ a.toInt * b.toInt ∧ a.toInt * b.toInt < 9223372036854775808) : (a * b).toInt = a.toInt * b.toInt := by
  rw [Int64.toInt_mul]; exact Int.bmod_eq_of_le (by omega) (by omega)
theorem own_Mpos (x : Int64) (u : Int32) : 0 < ((if lcmpW ((x &&& 9223372036854775807) / own_ui u) 0 = 0 then 1 else (x &&& 9223372036854775807) / own_ui u) * own_ui u).toInt := by
  obtain ⟨c1, c2⟩ := own_uip u
  have ha := own_max x; have hb := Int64.toInt_lt (x &&& 9223372036854775807)
  generalize own_ui u = c at c1 c2
  generalize x &&& 9223372036854775807 = a at ha hb
  have e1 : (1 : Int64).toInt = 1 := rfl
  have e0 : (0 : Int64).toInt = 0 := rfl
  split
  · rw [own_mulI (by rw [e1]; omega), e1]; omega
  · rename_i q
    rw [lw_eq] at q
    have hd := own_div ha (b := c) (by omega)
    have hq : ¬ (a / c).toInt = 0 := fun z => q (Int64.toInt_inj.mp z)
    have h0 : 0 ≤ a.toInt / c.toInt := Int.ediv_nonneg ha (by omega)
    rw [hd] at hq
    have hm : a.toInt / c.toInt * c.toInt ≤ a.toInt := Int.ediv_mul_le _ (by omega)
    have hp : 0 < a.toInt / c.toInt * c.toInt := Int.mul_pos (by omega) (by omega)
    rw [own_mulI (by rw [hd]; omega), hd]; exact hp
theorem own_dnn {a b : Int64} (ha : 0 < a.toInt) (hb : 0 < b.toInt) : ¬ (a / b) < 0 := by
  rw [Int64.lt_iff_toInt_lt, own_div (by omega) hb]; have e0 : (0 : Int64).toInt = 0 := rfl
  have := Int.ediv_nonneg (a := a.toInt) (b := b.toInt) (by omega) (by omega); omega
theorem own_X1 {a b : Int64} (ha : 0 < a.toInt) (hb : 0 < b.toInt) (h : lcmpW (a % b) 0 = 0) : 1 ≤ (a / b).toInt := by
  rw [lw_eq] at h
  have h' := congrArg Int64.toInt h; rw [own_rem (by omega)] at h'; have e0 : (0 : Int64).toInt = 0 := rfl; rw [e0] at h'
  rw [own_div (by omega) hb]
  have e := Int.mul_ediv_add_emod a.toInt b.toInt; rw [h'] at e
  have h0 : 0 ≤ a.toInt / b.toInt := Int.ediv_nonneg (by omega) (by omega)
  have : a.toInt / b.toInt ≠ 0 := fun z => by rw [z] at e; simp at e; omega
  omega
theorem own_m1 (x : Int64) : lcmpW (x % 1) 0 = 0 := by
  rw [lw_eq]; apply Int64.toInt_inj.mp; rw [Int64.toInt_mod]; exact Int.tmod_one _
theorem own_dgt : ∀ d : Fin 10, own_chr (Int32.ofNat (48 + d.val)) = ((48 : Int32) + Int32.ofNat d.val).toUInt32.toUInt16.toUInt32.toInt32 := by decide +kernel
theorem own_hd {R us : List Int32} {x : Int64} (e : R = own_dl x ++ us) (h : 1 ≤ x.toInt) (j : Nat) (hj : j < own_k x) : own_chr (R.getD j 0) = ((48 : Int32) + ((x / Int64.ofNat (10 ^ (own_k x - 1 - j))) % 10).toInt32).toUInt32.toUInt16.toUInt32.toInt32 := by
  obtain ⟨k1, k2, -, -⟩ := own_kk h
  have e1 : R.getD j 0 = (own_dl x).getD j 0 := by
    rw [e]; simp only [List.getD_eq_getElem?_getD]; rw [List.getElem?_append_left (by rw [own_dll]; exact hj)]
  have hp := own_pt (i := own_k x - 1 - j) (by omega)
  have p0 := Nat.pow_pos (n := own_k x - 1 - j) (show 0 < 10 by decide)
  have t10 : (10 : Int64).toInt = 10 := rfl
  have hd0 := own_div (a := x) (b := Int64.ofNat (10 ^ (own_k x - 1 - j))) (by omega) (by rw [hp]; omega)
  have nn : 0 ≤ x.toInt / ((10 ^ (own_k x - 1 - j) : Nat) : Int) := Int.ediv_nonneg (by omega) (by omega)
  have hr := own_rem (a := x / Int64.ofNat (10 ^ (own_k x - 1 - j))) (b := 10) (by rw [hd0, hp]; exact nn)
  rw [hd0, hp, t10] at hr
  have hn : x.toInt = ((x.toInt.natAbs : Nat) : Int) := by omega
  have ee : (x / Int64.ofNat (10 ^ (own_k x - 1 - j)) % 10).toInt = ((x.toInt.natAbs / 10 ^ (own_k x - 1 - j) % 10 : Nat) : Int) := by
    rw [hr]; generalize x.toInt.natAbs = N at hn; rw [hn]; norm_cast
  have eI : (x / Int64.ofNat (10 ^ (own_k x - 1 - j)) % 10).toInt32 = Int32.ofNat (x.toInt.natAbs / 10 ^ (own_k x - 1 - j) % 10) := by
    have hlt : x.toInt.natAbs / 10 ^ (own_k x - 1 - j) % 10 < 10 := Nat.mod_lt _ (by decide)
    generalize x.toInt.natAbs / 10 ^ (own_k x - 1 - j) % 10 = d at ee hlt
    apply Int32.toInt_inj.mp
    rw [Int64.toInt_toInt32, ee, Int32.toInt_ofNat_of_lt (by omega)]
    exact Int.bmod_eq_of_le (by omega) (by omega)
  rw [e1, own_dld x hj, eI]
  exact own_dgt ⟨_, Nat.mod_lt _ (by decide)⟩
theorem own_us {R us : List Int32} {x : Int64} {i j : Nat} (e : R = own_dl x ++ us) (hi : i = own_k x + j) : R.getD i 0 = us.getD j 0 := by
  subst e hi; simp only [List.getD_eq_getElem?_getD]; rw [List.getElem?_append_right (by rw [own_dll]; omega), own_dll, Nat.add_sub_cancel_left]
theorem own_rl {R us : List Int32} {x : Int64} {k m : Nat} (e : R = own_dl x ++ us) (hk : k = own_k x) (hm : us.length = m) : R.length = k + m := by
  rw [e, List.length_append, own_dll, hk, hm]
theorem own_plo {x : Int64} {k : Nat} (h : 1 ≤ x.toInt) (hk : k = own_k x) : ¬ (lcmpW x (Int64.ofNat (10 ^ (k - 1))) < 0) := by
  subst hk; obtain ⟨k1, k2, k3, -⟩ := own_kk h
  rw [lw_lt, Int64.lt_iff_toInt_lt, own_pt (by omega)]; omega
theorem own_phi {x : Int64} {k : Nat} (h : 1 ≤ x.toInt) (hk : k = own_k x) (hlt : k < 19) : lcmpW x (Int64.ofNat (10 ^ k)) < 0 := by
  subst hk; obtain ⟨k1, k2, -, k3⟩ := own_kk h
  rw [lw_lt, Int64.lt_iff_toInt_lt, own_pt hlt]; omega
def own_per (x : Int64) : List Int32 := if lcmpW (x % (86400000 : Int64)) (0 : Int64) = (0 : Int32) then own_dl (x / (86400000 : Int64)) ++ [(100 : Int32)] else if lcmpW (x % (3600000 : Int64)) (0 : Int64) = (0 : Int32) then own_dl (x / (3600000 : Int64)) ++ [(104 : Int32)] else if lcmpW (x % (60000 : Int64)) (0 : Int64) = (0 : Int32) then own_dl (x / (60000 : Int64)) ++ [(109 : Int32)] else if lcmpW (x % (1000 : Int64)) (0 : Int64) = (0 : Int32) then own_dl (x / (1000 : Int64)) ++ [(115 : Int32)] else own_dl (x / (1 : Int64)) ++ [(109 : Int32), (115 : Int32)]
theorem own_k20 (x : Int64) : 1 ≤ own_k x ∧ own_k x ≤ 20 := Jvm.Free.SBG.digitsL_pos _
theorem own_two {a : Nat} (h : Int32.ofNat a = (2 : Int32)) (q : a < 100000) : a = 2 := (own_oeq (b := 2) (by omega) (by omega)).mp h
theorem own_lt19 {a b : Nat} (h : Int32.ofNat a < Int32.ofNat b) (q : a < 100000 ∧ b < 100000) : a < b := (own_olt (by omega) (by omega)).mp h
theorem own_p19 {i : Nat} (h : i < 19) : ([(.long (1 : Int64)), (.long (10 : Int64)), (.long (100 : Int64)), (.long (1000 : Int64)), (.long (10000 : Int64)), (.long (100000 : Int64)), (.long (1000000 : Int64)), (.long (10000000 : Int64)), (.long (100000000 : Int64)), (.long (1000000000 : Int64)), (.long (10000000000 : Int64)), (.long (100000000000 : Int64)), (.long (1000000000000 : Int64)), (.long (10000000000000 : Int64)), (.long (100000000000000 : Int64)), (.long (1000000000000000 : Int64)), (.long (10000000000000000 : Int64)), (.long (100000000000000000 : Int64)), (.long (1000000000000000000 : Int64))] : List Value).getD i (.long 0) = .long (Int64.ofNat (10 ^ i)) := by
  have q : ∀ i : Fin 19, ([(.long (1 : Int64)), (.long (10 : Int64)), (.long (100 : Int64)), (.long (1000 : Int64)), (.long (10000 : Int64)), (.long (100000 : Int64)), (.long (1000000 : Int64)), (.long (10000000 : Int64)), (.long (100000000 : Int64)), (.long (1000000000 : Int64)), (.long (10000000000 : Int64)), (.long (100000000000 : Int64)), (.long (1000000000000 : Int64)), (.long (10000000000000 : Int64)), (.long (100000000000000 : Int64)), (.long (1000000000000000 : Int64)), (.long (10000000000000000 : Int64)), (.long (100000000000000000 : Int64)), (.long (1000000000000000000 : Int64))] : List Value).getD i.val (.long 0) = .long (Int64.ofNat (10 ^ i.val)) := by decide +kernel
  exact q ⟨i, h⟩
theorem own_rsub {R : List Int32} {k m : Nat} (h : R.length = k + m) : Int32.ofNat R.length - Int32.ofNat m = Int32.ofNat k := by
  rw [h, Int32.ofNat_add]; exact Int32.add_sub_cancel _ _
theorem own_ge1 {k : Nat} (h : 1 ≤ k) (q : k < 100000) : ¬ (Int32.ofNat k < 1) := fun z => by
  have := (own_olt (a := k) (b := 1) (by omega) (by omega)).mp z; omega
theorem own_le19 {k : Nat} (h : k ≤ 19) : ¬ ((19 : Int32) < Int32.ofNat k) := fun z => by
  have := (own_olt (a := 19) (b := k) (by omega) (by omega)).mp z; omega
theorem own_uin {u : Int32} (h : u = 0 ∨ u = 1 ∨ u = 2 ∨ u = 3 ∨ u = 4) : ¬ u < 0 ∧ u < 5 := by rcases h with rfl | rfl | rfl | rfl | rfl <;> decide
theorem own_uat {u : Int32} (h : u = 0 ∨ u = 1 ∨ u = 2 ∨ u = 3 ∨ u = 4) : ([(.long (86400000 : Int64)), (.long (3600000 : Int64)), (.long (60000 : Int64)), (.long (1000 : Int64)), (.long (1 : Int64))] : List Value).getD u.toNatClampNeg (.long 0) = .long (own_ui u) := by rcases h with rfl | rfl | rfl | rfl | rfl <;> decide +kernel

def Q_rmCoder (Z : State) (a1 : Addr) (zc : Int32) (h0 : Heap) (n0 : Nat) (v : Option Value) (h : Heap) (L : List Loc) : Prop := v = some (.int 0) ∧ Fr n0 L ∧ h = h0
set_option maxRecDepth 65536 in
set_option maxHeartbeats 40000000 in
theorem rmCoder (l : Launch) (Z : State) (a0 : Array Value) (hw : ∀ d ∈ tables_1, d.before a0 Z = true) (ws : List Jvm.Cond) (a1 : Addr) (zc : Int32) (h0 : Heap) (n0 : Nat) (O : Old Z n0 h0) (S_COMPACT : Sta Z Z.heap "java/lang/String" "COMPACT_STRINGS" "Z" (.int zc)) (hcs : ¬ zc = 0) (C_a1 : Fld Z h0 a1 "java/lang/String" "coder" "B" (.int 0)) :
    MetFree l (⟨"java/lang/String", "coder", "()B"⟩ : MethodName) (head1 (Jvm.Cond.code (⟨"java/lang/String", "coder", "()B"⟩ : MethodName) jdk_42_method_152_code 1 (some .byte) :: ws) ({ frames := 0, cells := 0, slots := 0, locals := 0 } : Room)) (fun a U => a = #[(.ref a1)] ∧ Z.Warmed39 U.vm ∧ U.heap = h0) (fun _ _ _ _ _ => True) (fun _ U o U' => ∃ v L, o = .returned v ∧ Q_rmCoder Z a1 zc h0 n0 v U'.heap L ∧ FrameEnd U o U' L ({ frames := 0, cells := 0, slots := 0, locals := 0 } : Room).cells ({ frames := 0, cells := 0, slots := 0, locals := 0 } : Room).slots) := by
  refine MetFree.of_bodySF (plainFor_of_name pn_14) hisR ?_
  intro p e s m args below meth c s₁ Bd hml0 hP hK
  obtain ⟨rfl, hZ, hh⟩ := hP
  have hx := Bd.exec
  have hby := Bd.bytes
  have hml : c.maxLocals = 1 := hml0
  have hown : s.vm.findClass "java/lang/String" = some m.cls := findClass_of_methodNamed Bd.named
  have hnm := (name_of_methodNamed Bd.named Bd.method).1
  have hlk : meth.locks = false := BodyLoose.notSynchronized Bd
  have X0 : Stand p l e ({ frames := 0, cells := 0, slots := 0, locals := 0 } : Room) s m #[(.ref a1)] below meth c s₁ [] 0 0 := Stand.of_body Bd
  have e0 : s₁.heap = h0 := by rw [← hh, Bd.state]; rfl
  have N0 := Fr.nil n0
  show Go p e below s ({ frames := 0, cells := 0, slots := 0, locals := 0 } : Room).cells ({ frames := 0, cells := 0, slots := 0, locals := 0 } : Room).slots (Q_rmCoder Z a1 zc h0 n0) s₁ (entryFrame m #[(.ref a1)] 1)
  refine Go.eq (ef_rmCoder m a1) ?_
  show Go _ _ _ _ _ _ _  s₁ (mkF m 0 #[.val (.ref a1)] [])
  obtain ⟨T1, X1, e1, st1⟩ := getS2 X0 hx hZ hown (host := "") (Or.inl (hwi hw 113 rfl)) Via.refl e0 (S_COMPACT.ext O.2) (g := (mkF m 0 #[.val (.ref a1)] [])) rfl (hb hby d14_0)
  refine Go.st st1 ?_
  show Go _ _ _ _ _ _ _  T1 (mkF m 3 #[.val (.ref a1)] [(.int zc)])
  refine Go.st (fun tT kT => XS.ifNo X1.here hx rfl (hb hby d14_3) rfl ((if0 _ _).trans (feq (hcs : ¬ (zc = (0 : Int32)))).1) kT) ?_
  show Go _ _ _ _ _ _ _  T1 (mkF m 6 #[.val (.ref a1)] [])
  refine Go.st (fun tT kT => XS.aloadN X1.here hx rfl (hb hby d14_6) rfl rfl  kT) ?_
  show Go _ _ _ _ _ _ _  T1 (mkF m 7 #[.val (.ref a1)] [(.ref a1)])
  obtain ⟨T2, X2, e2, st2⟩ := getF X1 hx hZ hown (host := "") (Or.inl (hwi hw 114 rfl)) Via.refl e1 C_a1 (g := (mkF m 7 #[.val (.ref a1)] [(.ref a1)])) rfl rfl (hb hby d14_7)
  refine Go.st st2 ?_
  show Go _ _ _ _ _ _ _  T2 (mkF m 10 #[.val (.ref a1)] [(.int (0 : Int32))])
  refine Go.st (fun tT kT => XS.goto X2.here hx rfl (pc0 := 10) (pc' := 14) rfl (hb hby d14_10) (by decide) (by decide) kT) ?_
  show Go _ _ _ _ _ _ _  T2 (mkF m 14 #[.val (.ref a1)] [(.int (0 : Int32))])
  refine Go.retN X2 hlk hx (t := .byte) (z' := (0 : Int32)) Bd.returns (by simp) (hb hby d14_14) (by decide) (by decide) rfl ?_
  show Q_rmCoder Z _ _ h0 n0 _ T2.heap _
  rw [e2]
  exact ⟨rfl, N0, rfl⟩
def Q_rmLen (Z : State) (a1 : Addr) (zc : Int32) (t : Addr) (kb : ClassId) (mm : Nat) (vs : List Value) (h0 : Heap) (n0 : Nat) (v : Option Value) (h : Heap) (L : List Loc) : Prop := v = some (.int (Int32.ofNat mm)) ∧ Fr n0 L ∧ h = h0
set_option maxRecDepth 65536 in
set_option maxHeartbeats 40000000 in
theorem rmLen (l : Launch) (Z : State) (a0 : Array Value) (hw : ∀ d ∈ tables_1, d.before a0 Z = true) (ws : List Jvm.Cond) (a1 : Addr) (zc : Int32) (t : Addr) (kb : ClassId) (mm : Nat) (vs : List Value) (h0 : Heap) (n0 : Nat) (O : Old Z n0 h0) (S_COMPACT : Sta Z Z.heap "java/lang/String" "COMPACT_STRINGS" "Z" (.int zc)) (hcs : ¬ zc = 0) (E_a1 : Exa Z h0 a1 "java/lang/String") (C_a1 : Fld Z h0 a1 "java/lang/String" "coder" "B" (.int 0)) (V_a1 : Fld Z h0 a1 "java/lang/String" "value" "[B" (.ref t)) (A_t : Arv Z h0 t kb .byte (Int32.ofNat mm) vs (.int 0)) (L_a1 : vs.length = mm) (B_a1 : mm < 100000) :
    MetFree l (⟨"java/lang/String", "length", "()I"⟩ : MethodName) (head1 (Jvm.Cond.code (⟨"java/lang/String", "length", "()I"⟩ : MethodName) jdk_42_method_54_code 1 (some .int) :: ws) ({ frames := 1, cells := 0, slots := 0, locals := 13 } : Room)) (fun a U => a = #[(.ref a1)] ∧ Z.Warmed39 U.vm ∧ U.heap = h0) (fun _ _ _ _ _ => True) (fun _ U o U' => ∃ v L, o = .returned v ∧ Q_rmLen Z a1 zc t kb mm vs h0 n0 v U'.heap L ∧ FrameEnd U o U' L ({ frames := 1, cells := 0, slots := 0, locals := 13 } : Room).cells ({ frames := 1, cells := 0, slots := 0, locals := 13 } : Room).slots) := by
  refine MetFree.of_bodySF (plainFor_of_name pn_13) hisR ?_
  intro p e s m args below meth c s₁ Bd hml0 hP hK
  obtain ⟨rfl, hZ, hh⟩ := hP
  have hx := Bd.exec
  have hby := Bd.bytes
  have hml : c.maxLocals = 1 := hml0
  have hown : s.vm.findClass "java/lang/String" = some m.cls := findClass_of_methodNamed Bd.named
  have hnm := (name_of_methodNamed Bd.named Bd.method).1
  have hlk : meth.locks = false := BodyLoose.notSynchronized Bd
  have X0 : Stand p l e ({ frames := 1, cells := 0, slots := 0, locals := 13 } : Room) s m #[(.ref a1)] below meth c s₁ [] 0 0 := Stand.of_body Bd
  have e0 : s₁.heap = h0 := by rw [← hh, Bd.state]; rfl
  have N0 := Fr.nil n0
  show Go p e below s ({ frames := 1, cells := 0, slots := 0, locals := 13 } : Room).cells ({ frames := 1, cells := 0, slots := 0, locals := 13 } : Room).slots (Q_rmLen Z a1 zc t kb mm vs h0 n0) s₁ (entryFrame m #[(.ref a1)] 1)
  refine Go.eq (ef_rmLen m a1) ?_
  show Go _ _ _ _ _ _ _  s₁ (mkF m 0 #[.val (.ref a1)] [])
  refine Go.st (fun tT kT => XS.aloadN X0.here hx rfl (hb hby d13_0) rfl rfl  kT) ?_
  show Go _ _ _ _ _ _ _  s₁ (mkF m 1 #[.val (.ref a1)] [(.ref a1)])
  obtain ⟨T1, X1, e1, st1⟩ := getF X0 hx hZ hown (host := "") (Or.inl (hwi hw 107 rfl)) Via.refl e0 V_a1 (g := (mkF m 1 #[.val (.ref a1)] [(.ref a1)])) rfl rfl (hb hby d13_1)
  refine Go.st st1 ?_
  show Go _ _ _ _ _ _ _  T1 (mkF m 4 #[.val (.ref a1)] [(.ref t)])
  obtain ⟨cl2, Ar2, q2, S2, M2, Hh2, G2⟩ := id A_t
  refine Go.st (X1.arraylength hx (by rw [e1]; exact Ar2.1) (State.isArrayOf_alike hZ.alike Ar2.2.1) (g := (mkF m 4 #[.val (.ref a1)] [(.ref t)])) rfl rfl (hb hby d13_4)) ?_
  rw [len_of S2 M2]
  show Go _ _ _ _ _ _ _  T1 (mkF m 5 #[.val (.ref a1)] [(.int (Int32.ofNat mm))])
  refine Go.st (fun tT kT => XS.aloadN X1.here hx rfl (hb hby d13_5) rfl rfl  kT) ?_
  show Go _ _ _ _ _ _ _  T1 (mkF m 6 #[.val (.ref a1)] [(.ref a1), (.int (Int32.ofNat mm))])
  obtain ⟨cq3, kq3, q3a, q3b, q3c⟩ := isOf hZ e1 E_a1
  refine Go.pure (w := (some (.int (0 : Int32)))) (rest := [(.int (Int32.ofNat mm))]) (pc' := 9) (X1.virtualBack hx (y := (⟨"java/lang/String", "coder", "()B"⟩ : MethodName)) (z := (⟨"java/lang/String", "coder", "()B"⟩ : MethodName)) hown (mvT hZ (hwi hw 108 rfl)) (mvT hZ (hwi hw 109 rfl)) (notFace_of_selects (args := #[]) (mvT hZ (hwi hw 111 rfl))) (mvT hZ (hwi hw 111 rfl)) (mvT hZ (hwi hw 110 rfl)) (by decide) (backOf (W := 1) (rmCoder l Z a0 hw [] a1 zc h0 n0 O S_COMPACT hcs C_a1) hZ (hwi hw 112 rfl) (hwi hw 25 rfl) (by decide) (by decide)) q3a q3c (g := (mkF m 6 #[.val (.ref a1)] [(.ref a1), (.int (Int32.ofNat mm))])) rfl (by rw [hml]; rfl) (Steps.refl _) (argsL := []) (rest := [(.int (Int32.ofNat mm))]) (lenOf pd___B rfl) rfl (by show 2 * 0 + _ ≤ _; exact Nat.le_of_eq rfl) (hb hby d13_6) (fun _ _ => ⟨rfl, e1, (by decide : 0 + 0 ≤ _), (by decide : 0 + 0 ≤ _)⟩)) (fun _ _ _ q => q) N0 (fun T3 L3 X3 e3q N3 => ?_)
  show Go _ _ _ _ _ _ _  T3 (mkF m 9 #[.val (.ref a1)] [(.int (0 : Int32)), (.int (Int32.ofNat mm))])
  refine Go.st (fun tT kT => XS.ishr X3.here hx rfl (hb hby d13_9) rfl kT) ?_
  show Go _ _ _ _ _ _ _  T3 (mkF m 10 #[.val (.ref a1)] [(.int ((Int32.ofNat mm) >>> ((0 : Int32) &&& 31)))])
  rw [own_shr0]
  show Go _ _ _ _ _ _ _  T3 (mkF m 10 #[.val (.ref a1)] [(.int (Int32.ofNat mm))])
  refine Go.retI X3 hlk hx Bd.returns (hb hby d13_10) (by decide) (by decide) ?_
  show Q_rmLen Z _ _ _ _ _ _ h0 n0 _ T3.heap _
  rw [e3q]
  exact ⟨rfl, N3, rfl⟩
def Q_rmGB (Z : State) (a1 : Addr) (a2 : Addr) (zc : Int32) (t : Addr) (kb : ClassId) (mm : Nat) (vs : List Value) (kd : ClassId) (n : Nat) (cap : Nat) (bs : List Value) (h0 : Heap) (n0 : Nat) (v : Option Value) (h : Heap) (L : List Loc) : Prop := v = none ∧ Fr n0 L ∧ Keep h0 h [a2] ∧ Arv Z h a2 kd .byte (Int32.ofNat cap) (bs ++ vs) (.int 0)
set_option maxRecDepth 65536 in
set_option maxHeartbeats 40000000 in
theorem rmGB (l : Launch) (Z : State) (a0 : Array Value) (hw : ∀ d ∈ tables_1, d.before a0 Z = true) (ws : List Jvm.Cond) (a1 : Addr) (a2 : Addr) (zc : Int32) (t : Addr) (kb : ClassId) (mm : Nat) (vs : List Value) (kd : ClassId) (n : Nat) (cap : Nat) (bs : List Value) (h0 : Heap) (n0 : Nat) (O : Old Z n0 h0) (S_COMPACT : Sta Z Z.heap "java/lang/String" "COMPACT_STRINGS" "Z" (.int zc)) (hcs : ¬ zc = 0) (E_a1 : Exa Z h0 a1 "java/lang/String") (C_a1 : Fld Z h0 a1 "java/lang/String" "coder" "B" (.int 0)) (V_a1 : Fld Z h0 a1 "java/lang/String" "value" "[B" (.ref t)) (A_t : Arv Z h0 t kb .byte (Int32.ofNat mm) vs (.int 0)) (L_a1 : vs.length = mm) (B_a1 : mm < 100000) (A_a2 : Arv Z h0 a2 kd .byte (Int32.ofNat cap) bs (.int 0)) (hbs : bs.length = n) (hcap : n + mm ≤ cap) (hcb : cap < 100000) (g_a2 : n0 ≤ a2) (ne_t_a2 : t ≠ a2) :
    MetFree l (⟨"java/lang/String", "getBytes", "([BIB)V"⟩ : MethodName) (head1 (Jvm.Cond.code (⟨"java/lang/String", "getBytes", "([BIB)V"⟩ : MethodName) jdk_42_method_147_code 4 none :: ws) ({ frames := 1, cells := 0, slots := 0, locals := 18 } : Room)) (fun a U => a = #[(.ref a1), (.ref a2), (.int (Int32.ofNat n)), (.int (0 : Int32))] ∧ Z.Warmed39 U.vm ∧ U.heap = h0) (fun _ _ _ _ _ => True) (fun _ U o U' => ∃ v L, o = .returned v ∧ Q_rmGB Z a1 a2 zc t kb mm vs kd n cap bs h0 n0 v U'.heap L ∧ FrameEnd U o U' L ({ frames := 1, cells := 0, slots := 0, locals := 18 } : Room).cells ({ frames := 1, cells := 0, slots := 0, locals := 18 } : Room).slots) := by
  refine MetFree.of_bodySF (plainFor_of_name pn_17) hisR ?_
  intro p e s m args below meth c s₁ Bd hml0 hP hK
  obtain ⟨rfl, hZ, hh⟩ := hP
  have hx := Bd.exec
  have hby := Bd.bytes
  have hml : c.maxLocals = 4 := hml0
  have hown : s.vm.findClass "java/lang/String" = some m.cls := findClass_of_methodNamed Bd.named
  have hnm := (name_of_methodNamed Bd.named Bd.method).1
  have hlk : meth.locks = false := BodyLoose.notSynchronized Bd
  have X0 : Stand p l e ({ frames := 1, cells := 0, slots := 0, locals := 18 } : Room) s m #[(.ref a1), (.ref a2), (.int (Int32.ofNat n)), (.int (0 : Int32))] below meth c s₁ [] 0 0 := Stand.of_body Bd
  have e0 : s₁.heap = h0 := by rw [← hh, Bd.state]; rfl
  have N0 := Fr.nil n0
  have KK : Keep h0 h0 [a2] := Keep.refl h0 _
  show Go p e below s ({ frames := 1, cells := 0, slots := 0, locals := 18 } : Room).cells ({ frames := 1, cells := 0, slots := 0, locals := 18 } : Room).slots (Q_rmGB Z a1 a2 zc t kb mm vs kd n cap bs h0 n0) s₁ (entryFrame m #[(.ref a1), (.ref a2), (.int (Int32.ofNat n)), (.int (0 : Int32))] 4)
  refine Go.eq (ef_rmGB m a1 a2 (Int32.ofNat n) (0 : Int32)) ?_
  show Go _ _ _ _ _ _ _  s₁ (mkF m 0 #[.val (.ref a1), .val (.ref a2), .val (.int (Int32.ofNat n)), .val (.int (0 : Int32))] [])
  refine Go.st (fun tT kT => XS.aloadN X0.here hx rfl (hb hby d17_0) rfl rfl  kT) ?_
  show Go _ _ _ _ _ _ _  s₁ (mkF m 1 #[.val (.ref a1), .val (.ref a2), .val (.int (Int32.ofNat n)), .val (.int (0 : Int32))] [(.ref a1)])
  obtain ⟨cq1, kq1, q1a, q1b, q1c⟩ := isOf hZ e0 E_a1
  refine Go.pure (w := (some (.int (0 : Int32)))) (rest := []) (pc' := 4) (X0.virtualBack hx (y := (⟨"java/lang/String", "coder", "()B"⟩ : MethodName)) (z := (⟨"java/lang/String", "coder", "()B"⟩ : MethodName)) hown (mvT hZ (hwi hw 108 rfl)) (mvT hZ (hwi hw 109 rfl)) (notFace_of_selects (args := #[]) (mvT hZ (hwi hw 111 rfl))) (mvT hZ (hwi hw 111 rfl)) (mvT hZ (hwi hw 110 rfl)) (by decide) (backOf (W := 0) (rmCoder l Z a0 hw [] a1 zc h0 n0 O S_COMPACT hcs C_a1) hZ (hwi hw 112 rfl) (hwi hw 25 rfl) (by decide) (by decide)) q1a q1c (g := (mkF m 1 #[.val (.ref a1), .val (.ref a2), .val (.int (Int32.ofNat n)), .val (.int (0 : Int32))] [(.ref a1)])) rfl (by rw [hml]; rfl) (Steps.refl _) (argsL := []) (rest := []) (lenOf pd___B rfl) rfl (by show 2 * 0 + _ ≤ _; exact Nat.le_of_eq rfl) (hb hby d17_1) (fun _ _ => ⟨rfl, e0, (by decide : 0 + 0 ≤ _), (by decide : 0 + 0 ≤ _)⟩)) (fun _ _ _ q => q) N0 (fun T1 L1 X1 e1q N1 => ?_)
  show Go _ _ _ _ _ _ _  T1 (mkF m 4 #[.val (.ref a1), .val (.ref a2), .val (.int (Int32.ofNat n)), .val (.int (0 : Int32))] [(.int (0 : Int32))])
  refine Go.st (fun tT kT => XS.iloadN X1.here hx rfl (hb hby d17_4) rfl  kT) ?_
  show Go _ _ _ _ _ _ _  T1 (mkF m 5 #[.val (.ref a1), .val (.ref a2), .val (.int (Int32.ofNat n)), .val (.int (0 : Int32))] [(.int (0 : Int32)), (.int (0 : Int32))])
  refine Go.st (fun tT kT => XS.icmpNo X1.here hx rfl (hb hby d17_5) rfl (teq (rfl : (0 : Int32) = (0 : Int32))).2 kT) ?_
  show Go _ _ _ _ _ _ _  T1 (mkF m 8 #[.val (.ref a1), .val (.ref a2), .val (.int (Int32.ofNat n)), .val (.int (0 : Int32))] [])
  refine Go.st (fun tT kT => XS.aloadN X1.here hx rfl (hb hby d17_8) rfl rfl  kT) ?_
  show Go _ _ _ _ _ _ _  T1 (mkF m 9 #[.val (.ref a1), .val (.ref a2), .val (.int (Int32.ofNat n)), .val (.int (0 : Int32))] [(.ref a1)])
  obtain ⟨T2, X2, e2, st2⟩ := getF X1 hx hZ hown (host := "") (Or.inl (hwi hw 107 rfl)) Via.refl e1q V_a1 (g := (mkF m 9 #[.val (.ref a1), .val (.ref a2), .val (.int (Int32.ofNat n)), .val (.int (0 : Int32))] [(.ref a1)])) rfl rfl (hb hby d17_9)
  refine Go.st st2 ?_
  show Go _ _ _ _ _ _ _  T2 (mkF m 12 #[.val (.ref a1), .val (.ref a2), .val (.int (Int32.ofNat n)), .val (.int (0 : Int32))] [(.ref t)])
  refine Go.st (fun tT kT => XS.iconst X2.here hx rfl (hb hby d17_12) kT) ?_
  refine Go.st (fun tT kT => XS.aloadN X2.here hx rfl (hb hby d17_13) rfl rfl  kT) ?_
  refine Go.st (fun tT kT => XS.iloadN X2.here hx rfl (hb hby d17_14) rfl  kT) ?_
  show Go _ _ _ _ _ _ _  T2 (mkF m 15 #[.val (.ref a1), .val (.ref a2), .val (.int (Int32.ofNat n)), .val (.int (0 : Int32))] [(.int (Int32.ofNat n)), (.ref a2), (.int (0 : Int32)), (.ref t)])
  refine Go.st (fun tT kT => XS.iloadN X2.here hx rfl (hb hby d17_15) rfl  kT) ?_
  refine Go.st (fun tT kT => XS.ishl X2.here hx rfl (hb hby d17_16) rfl kT) ?_
  show Go _ _ _ _ _ _ _  T2 (mkF m 17 #[.val (.ref a1), .val (.ref a2), .val (.int (Int32.ofNat n)), .val (.int (0 : Int32))] [(.int ((Int32.ofNat n) <<< ((0 : Int32) &&& 31))), (.ref a2), (.int (0 : Int32)), (.ref t)])
  rw [own_shl0]
  refine Go.st (fun tT kT => XS.aloadN X2.here hx rfl (hb hby d17_17) rfl rfl  kT) ?_
  show Go _ _ _ _ _ _ _  T2 (mkF m 18 #[.val (.ref a1), .val (.ref a2), .val (.int (Int32.ofNat n)), .val (.int (0 : Int32))] [(.ref a1), (.int (Int32.ofNat n)), (.ref a2), (.int (0 : Int32)), (.ref t)])
  obtain ⟨T3, X3, e3, st3⟩ := getF X2 hx hZ hown (host := "") (Or.inl (hwi hw 107 rfl)) Via.refl e2 V_a1 (g := (mkF m 18 #[.val (.ref a1), .val (.ref a2), .val (.int (Int32.ofNat n)), .val (.int (0 : Int32))] [(.ref a1), (.int (Int32.ofNat n)), (.ref a2), (.int (0 : Int32)), (.ref t)])) rfl rfl (hb hby d17_18)
  refine Go.st st3 ?_
  show Go _ _ _ _ _ _ _  T3 (mkF m 21 #[.val (.ref a1), .val (.ref a2), .val (.int (Int32.ofNat n)), .val (.int (0 : Int32))] [(.ref t), (.int (Int32.ofNat n)), (.ref a2), (.int (0 : Int32)), (.ref t)])
  obtain ⟨cl4, Ar4, q4, S4, M4, Hh4, G4⟩ := id A_t
  refine Go.st (X3.arraylength hx (by rw [e3]; exact Ar4.1) (State.isArrayOf_alike hZ.alike Ar4.2.1) (g := (mkF m 21 #[.val (.ref a1), .val (.ref a2), .val (.int (Int32.ofNat n)), .val (.int (0 : Int32))] [(.ref t), (.int (Int32.ofNat n)), (.ref a2), (.int (0 : Int32)), (.ref t)])) rfl rfl (hb hby d17_21)) ?_
  rw [len_of S4 M4]
  show Go _ _ _ _ _ _ _  T3 (mkF m 22 #[.val (.ref a1), .val (.ref a2), .val (.int (Int32.ofNat n)), .val (.int (0 : Int32))] [(.int (Int32.ofNat mm)), (.int (Int32.ofNat n)), (.ref a2), (.int (0 : Int32)), (.ref t)])
  obtain ⟨T5, h5, L5, X5, e5, N5, K5, V5, st5⟩ := cpA X3 hx hZ hown (hwi hw 131 rfl) (hwi hw 134 rfl) (hwi hw 132 rfl) (hwi hw 133 rfl) e3 A_t (A_a2.pad (pad_rep bs (.int 0) mm)) (Or.inl ⟨rfl, rfl⟩) (by decide) (own_onn (by omega)) (own_onn (by omega)) (by rw [own_ocl (by omega)]; exact Nat.le_of_eq (Nat.zero_add _)) (by rw [own_ocl (by omega), own_ocl (by omega), own_ocl (by omega)]; omega) (us := (List.range mm).map fun i => vs.getD (0 + i) (.int 0)) (by rw [own_ocl (by omega)]; rfl) (by rw [own_ocl (by omega), own_ocl (by omega)]; simp; omega) N1 g_a2 (g := (mkF m 22 #[.val (.ref a1), .val (.ref a2), .val (.int (Int32.ofNat n)), .val (.int (0 : Int32))] [(.int (Int32.ofNat mm)), (.int (Int32.ofNat n)), (.ref a2), (.int (0 : Int32)), (.ref t)])) rfl (by rw [hml]; rfl) rfl (hb hby d17_22) (by decide) (W := 0) (by show 2 * 0 + _ ≤ _; exact Nat.le_of_eq rfl) (by decide)
  refine Go.st st5 ?_
  have V5 := V5.pad (by rw [own_ocl (by omega), own_ocl (by omega)]; exact own_cp hbs (Nat.le_of_eq L_a1))
  have ne_a1_a2 : a1 ≠ a2 := (Exa.neArv E_a1 A_a2 (hwi hw 26 rfl))
  have E_a1 := E_a1.keep K5
  have A_t := A_t.keep K5 (ninS ne_t_a2 nin0)
  have C_a1 := C_a1.keep K5 (ninS ne_a1_a2 nin0)
  have V_a1 := V_a1.keep K5 (ninS ne_a1_a2 nin0)
  have O := O.keep K5 (allS g_a2 all0)
  have KK := KK.trans K5 (allS (Or.inl (List.mem_of_getElem? (i := 0) rfl)) all0)
  have A_a2 := V5
  show Go _ _ _ _ _ _ _  T5 (mkF m 25 #[.val (.ref a1), .val (.ref a2), .val (.int (Int32.ofNat n)), .val (.int (0 : Int32))] [])
  refine Go.st (fun tT kT => XS.goto X5.here hx rfl (pc0 := 25) (pc' := 43) rfl (hb hby d17_25) (by decide) (by decide) kT) ?_
  show Go _ _ _ _ _ _ _  T5 (mkF m 43 #[.val (.ref a1), .val (.ref a2), .val (.int (Int32.ofNat n)), .val (.int (0 : Int32))] [])
  refine Go.ret0 X5 hlk hx Bd.returns (hb hby d17_43) (by decide) (by decide) ?_
  show Q_rmGB Z _ _ _ _ _ _ _ _ _ _ _ h0 n0 _ T5.heap _
  rw [e5]
  exact ⟨rfl, N5, KK, A_a2⟩
def Q_rmInf (Z : State) (a1 : Addr) (a2 : Addr) (zc : Int32) (h0 : Heap) (n0 : Nat) (v : Option Value) (h : Heap) (L : List Loc) : Prop := v = none ∧ Fr n0 L ∧ h = h0
set_option maxRecDepth 65536 in
set_option maxHeartbeats 40000000 in
theorem rmInf (l : Launch) (Z : State) (a0 : Array Value) (hw : ∀ d ∈ tables_1, d.before a0 Z = true) (ws : List Jvm.Cond) (a1 : Addr) (a2 : Addr) (zc : Int32) (h0 : Heap) (n0 : Nat) (O : Old Z n0 h0) (S_COMPACT : Sta Z Z.heap "java/lang/String" "COMPACT_STRINGS" "Z" (.int zc)) (hcs : ¬ zc = 0) (C_a1 : Fld Z h0 a1 "java/lang/AbstractStringBuilder" "coder" "B" (.int 0)) (E_a2 : Exa Z h0 a2 "java/lang/String") (C_a2 : Fld Z h0 a2 "java/lang/String" "coder" "B" (.int 0)) :
    MetFree l (⟨"java/lang/AbstractStringBuilder", "inflateIfNeededFor", "(Ljava/lang/String;)V"⟩ : MethodName) (head1 (Jvm.Cond.code (⟨"java/lang/AbstractStringBuilder", "inflateIfNeededFor", "(Ljava/lang/String;)V"⟩ : MethodName) jdk_68_method_71_code 2 none :: ws) ({ frames := 1, cells := 0, slots := 0, locals := 13 } : Room)) (fun a U => a = #[(.ref a1), (.ref a2)] ∧ Z.Warmed39 U.vm ∧ U.heap = h0) (fun _ _ _ _ _ => True) (fun _ U o U' => ∃ v L, o = .returned v ∧ Q_rmInf Z a1 a2 zc h0 n0 v U'.heap L ∧ FrameEnd U o U' L ({ frames := 1, cells := 0, slots := 0, locals := 13 } : Room).cells ({ frames := 1, cells := 0, slots := 0, locals := 13 } : Room).slots) := by
  refine MetFree.of_bodySF (plainFor_of_name pn_16) hisR ?_
  intro p e s m args below meth c s₁ Bd hml0 hP hK
  obtain ⟨rfl, hZ, hh⟩ := hP
  have hx := Bd.exec
  have hby := Bd.bytes
  have hml : c.maxLocals = 2 := hml0
  have hown : s.vm.findClass "java/lang/AbstractStringBuilder" = some m.cls := findClass_of_methodNamed Bd.named
  have hnm := (name_of_methodNamed Bd.named Bd.method).1
  have hlk : meth.locks = false := BodyLoose.notSynchronized Bd
  have X0 : Stand p l e ({ frames := 1, cells := 0, slots := 0, locals := 13 } : Room) s m #[(.ref a1), (.ref a2)] below meth c s₁ [] 0 0 := Stand.of_body Bd
  have e0 : s₁.heap = h0 := by rw [← hh, Bd.state]; rfl
  have N0 := Fr.nil n0
  show Go p e below s ({ frames := 1, cells := 0, slots := 0, locals := 13 } : Room).cells ({ frames := 1, cells := 0, slots := 0, locals := 13 } : Room).slots (Q_rmInf Z a1 a2 zc h0 n0) s₁ (entryFrame m #[(.ref a1), (.ref a2)] 2)
  refine Go.eq (ef_rmInf m a1 a2) ?_
  show Go _ _ _ _ _ _ _  s₁ (mkF m 0 #[.val (.ref a1), .val (.ref a2)] [])
  obtain ⟨T1, X1, e1, st1⟩ := getS2 X0 hx hZ hown (host := "") (Or.inl (hwi hw 53 rfl)) Via.refl e0 (S_COMPACT.ext O.2) (g := (mkF m 0 #[.val (.ref a1), .val (.ref a2)] [])) rfl (hb hby d16_0)
  refine Go.st st1 ?_
  show Go _ _ _ _ _ _ _  T1 (mkF m 3 #[.val (.ref a1), .val (.ref a2)] [(.int zc)])
  refine Go.st (fun tT kT => XS.ifNo X1.here hx rfl (hb hby d16_3) rfl ((if0 _ _).trans (feq (hcs : ¬ (zc = (0 : Int32)))).1) kT) ?_
  show Go _ _ _ _ _ _ _  T1 (mkF m 6 #[.val (.ref a1), .val (.ref a2)] [])
  refine Go.st (fun tT kT => XS.aloadN X1.here hx rfl (hb hby d16_6) rfl rfl  kT) ?_
  show Go _ _ _ _ _ _ _  T1 (mkF m 7 #[.val (.ref a1), .val (.ref a2)] [(.ref a1)])
  obtain ⟨T2, X2, e2, st2⟩ := getF X1 hx hZ hown (host := "") (Or.inl (hwi hw 56 rfl)) Via.refl e1 C_a1 (g := (mkF m 7 #[.val (.ref a1), .val (.ref a2)] [(.ref a1)])) rfl rfl (hb hby d16_7)
  refine Go.st st2 ?_
  show Go _ _ _ _ _ _ _  T2 (mkF m 10 #[.val (.ref a1), .val (.ref a2)] [(.int (0 : Int32))])
  refine Go.st (fun tT kT => XS.aloadN X2.here hx rfl (hb hby d16_10) rfl rfl  kT) ?_
  show Go _ _ _ _ _ _ _  T2 (mkF m 11 #[.val (.ref a1), .val (.ref a2)] [(.ref a2), (.int (0 : Int32))])
  obtain ⟨cq3, kq3, q3a, q3b, q3c⟩ := isOf hZ e2 E_a2
  refine Go.pure (w := (some (.int (0 : Int32)))) (rest := [(.int (0 : Int32))]) (pc' := 14) (X2.virtualBack hx (y := (⟨"java/lang/String", "coder", "()B"⟩ : MethodName)) (z := (⟨"java/lang/String", "coder", "()B"⟩ : MethodName)) hown (mvT hZ (hwi hw 125 rfl)) (mvT hZ (hwi hw 109 rfl)) (notFace_of_selects (args := #[]) (mvT hZ (hwi hw 111 rfl))) (mvT hZ (hwi hw 111 rfl)) (mvT hZ (hwi hw 110 rfl)) (by decide) (backOf (W := 1) (rmCoder l Z a0 hw [] a2 zc h0 n0 O S_COMPACT hcs C_a2) hZ (hwi hw 112 rfl) (hwi hw 25 rfl) (by decide) (by decide)) q3a q3c (g := (mkF m 11 #[.val (.ref a1), .val (.ref a2)] [(.ref a2), (.int (0 : Int32))])) rfl (by rw [hml]; rfl) (Steps.refl _) (argsL := []) (rest := [(.int (0 : Int32))]) (lenOf pd___B rfl) rfl (by show 2 * 0 + _ ≤ _; exact Nat.le_of_eq rfl) (hb hby d16_11) (fun _ _ => ⟨rfl, e2, (by decide : 0 + 0 ≤ _), (by decide : 0 + 0 ≤ _)⟩)) (fun _ _ _ q => q) N0 (fun T3 L3 X3 e3q N3 => ?_)
  show Go _ _ _ _ _ _ _  T3 (mkF m 14 #[.val (.ref a1), .val (.ref a2)] [(.int (0 : Int32)), (.int (0 : Int32))])
  refine Go.st (fun tT kT => XS.icmpYes X3.here hx rfl (pc0 := 14) (pc' := 21) rfl (hb hby d16_14) rfl (teq (rfl : (0 : Int32) = (0 : Int32))).1 (by decide) (by decide) kT) ?_
  show Go _ _ _ _ _ _ _  T3 (mkF m 21 #[.val (.ref a1), .val (.ref a2)] [])
  refine Go.ret0 X3 hlk hx Bd.returns (hb hby d16_21) (by decide) (by decide) ?_
  show Q_rmInf Z _ _ _ h0 n0 _ T3.heap _
  rw [e3q]
  exact ⟨rfl, N3, rfl⟩
def Q_rmPut (Z : State) (a1 : Addr) (a2 : Addr) (zc : Int32) (t : Addr) (kd : ClassId) (n : Nat) (cap : Nat) (bs : List Value) (u : Addr) (ku : ClassId) (mm : Nat) (vs : List Value) (h0 : Heap) (n0 : Nat) (v : Option Value) (h : Heap) (L : List Loc) : Prop := v = none ∧ Fr n0 L ∧ Keep h0 h [t] ∧ Arv Z h t kd .byte (Int32.ofNat cap) (bs ++ vs) (.int 0)
set_option maxRecDepth 65536 in
set_option maxHeartbeats 40000000 in
theorem rmPut (l : Launch) (Z : State) (a0 : Array Value) (hw : ∀ d ∈ tables_1, d.before a0 Z = true) (ws : List Jvm.Cond) (a1 : Addr) (a2 : Addr) (zc : Int32) (t : Addr) (kd : ClassId) (n : Nat) (cap : Nat) (bs : List Value) (u : Addr) (ku : ClassId) (mm : Nat) (vs : List Value) (h0 : Heap) (n0 : Nat) (O : Old Z n0 h0) (S_COMPACT : Sta Z Z.heap "java/lang/String" "COMPACT_STRINGS" "Z" (.int zc)) (hcs : ¬ zc = 0) (E_a1 : Exa Z h0 a1 "java/lang/StringBuilder") (C_a1 : Fld Z h0 a1 "java/lang/AbstractStringBuilder" "coder" "B" (.int 0)) (V_a1 : Fld Z h0 a1 "java/lang/AbstractStringBuilder" "value" "[B" (.ref t)) (N_a1 : Fld Z h0 a1 "java/lang/AbstractStringBuilder" "count" "I" (.int (Int32.ofNat n))) (A_t : Arv Z h0 t kd .byte (Int32.ofNat cap) bs (.int 0)) (L_a1 : bs.length = n) (K_a1 : n ≤ cap) (B_a1 : cap < 100000) (g_a1 : n0 ≤ a1) (g_t : n0 ≤ t) (E_a2 : Exa Z h0 a2 "java/lang/String") (C_a2 : Fld Z h0 a2 "java/lang/String" "coder" "B" (.int 0)) (V_a2 : Fld Z h0 a2 "java/lang/String" "value" "[B" (.ref u)) (A_u : Arv Z h0 u ku .byte (Int32.ofNat mm) vs (.int 0)) (L_a2 : vs.length = mm) (B_a2 : mm < 100000) (hcap : n + mm ≤ cap) (ne_u_t : u ≠ t) :
    MetFree l (⟨"java/lang/AbstractStringBuilder", "putStringAt", "(ILjava/lang/String;)V"⟩ : MethodName) (head1 (Jvm.Cond.code (⟨"java/lang/AbstractStringBuilder", "putStringAt", "(ILjava/lang/String;)V"⟩ : MethodName) jdk_68_method_73_code 3 none :: ws) ({ frames := 2, cells := 0, slots := 0, locals := 33 } : Room)) (fun a U => a = #[(.ref a1), (.int (Int32.ofNat n)), (.ref a2)] ∧ Z.Warmed39 U.vm ∧ U.heap = h0) (fun _ _ _ _ _ => True) (fun _ U o U' => ∃ v L, o = .returned v ∧ Q_rmPut Z a1 a2 zc t kd n cap bs u ku mm vs h0 n0 v U'.heap L ∧ FrameEnd U o U' L ({ frames := 2, cells := 0, slots := 0, locals := 33 } : Room).cells ({ frames := 2, cells := 0, slots := 0, locals := 33 } : Room).slots) := by
  refine MetFree.of_bodySF (plainFor_of_name pn_15) hisR ?_
  intro p e s m args below meth c s₁ Bd hml0 hP hK
  obtain ⟨rfl, hZ, hh⟩ := hP
  have hx := Bd.exec
  have hby := Bd.bytes
  have hml : c.maxLocals = 3 := hml0
  have hown : s.vm.findClass "java/lang/AbstractStringBuilder" = some m.cls := findClass_of_methodNamed Bd.named
  have hnm := (name_of_methodNamed Bd.named Bd.method).1
  have hlk : meth.locks = false := BodyLoose.notSynchronized Bd
  have X0 : Stand p l e ({ frames := 2, cells := 0, slots := 0, locals := 33 } : Room) s m #[(.ref a1), (.int (Int32.ofNat n)), (.ref a2)] below meth c s₁ [] 0 0 := Stand.of_body Bd
  have e0 : s₁.heap = h0 := by rw [← hh, Bd.state]; rfl
  have N0 := Fr.nil n0
  have KK : Keep h0 h0 [t] := Keep.refl h0 _
  show Go p e below s ({ frames := 2, cells := 0, slots := 0, locals := 33 } : Room).cells ({ frames := 2, cells := 0, slots := 0, locals := 33 } : Room).slots (Q_rmPut Z a1 a2 zc t kd n cap bs u ku mm vs h0 n0) s₁ (entryFrame m #[(.ref a1), (.int (Int32.ofNat n)), (.ref a2)] 3)
  refine Go.eq (ef_rmPut m a1 (Int32.ofNat n) a2) ?_
  show Go _ _ _ _ _ _ _  s₁ (mkF m 0 #[.val (.ref a1), .val (.int (Int32.ofNat n)), .val (.ref a2)] [])
  refine Go.st (fun tT kT => XS.aloadN X0.here hx rfl (hb hby d15_0) rfl rfl  kT) ?_
  refine Go.st (fun tT kT => XS.aloadN X0.here hx rfl (hb hby d15_1) rfl rfl  kT) ?_
  show Go _ _ _ _ _ _ _  s₁ (mkF m 2 #[.val (.ref a1), .val (.int (Int32.ofNat n)), .val (.ref a2)] [(.ref a2), (.ref a1)])
  obtain ⟨cq1, q1, q1'⟩ := Exa.cell E_a1
  refine Go.pure (w := none) (rest := []) (pc' := 5) (X0.privateBack hx (y := (⟨"java/lang/AbstractStringBuilder", "inflateIfNeededFor", "(Ljava/lang/String;)V"⟩ : MethodName)) hown (mvT hZ (hwi hw 120 rfl)) (mvT hZ (hwi hw 121 rfl)) (own_selfsel2 (mvT hZ (hwi hw 123 rfl)) (mvP hZ (hwi hw 122 rfl)) (mvT hZ (hwi hw 121 rfl)) (by decide)) (Cond.privateMethod_at (mvP hZ (hwi hw 122 rfl) (args := #[]))) (mvT hZ (hwi hw 124 rfl)) (by decide) (backOf (W := 0) (rmInf l Z a0 hw [] a1 a2 zc h0 n0 O S_COMPACT hcs C_a1 E_a2 C_a2) hZ (hwi hw 124 rfl) (hwi hw 48 rfl) (by decide) (by decide)) (g := (mkF m 2 #[.val (.ref a1), .val (.int (Int32.ofNat n)), .val (.ref a2)] [(.ref a2), (.ref a1)])) rfl (by rw [hml]; rfl) (Steps.refl _) (a := a1) (by rw [e0]; exact q1) q1' (argsL := [(.ref a2)]) (rest := []) (lenOf pd__Ljava_lang_String__V rfl) rfl (by show 2 * 0 + _ ≤ _; exact Nat.le_of_eq rfl) (hb hby d15_2) (fun _ _ => ⟨rfl, e0, (by decide : 0 + 0 ≤ _), (by decide : 0 + 0 ≤ _)⟩)) (fun _ _ _ q => q) N0 (fun T1 L1 X1 e1q N1 => ?_)
  show Go _ _ _ _ _ _ _  T1 (mkF m 5 #[.val (.ref a1), .val (.int (Int32.ofNat n)), .val (.ref a2)] [])
  refine Go.st (fun tT kT => XS.aloadN X1.here hx rfl (hb hby d15_5) rfl rfl  kT) ?_
  refine Go.st (fun tT kT => XS.aloadN X1.here hx rfl (hb hby d15_6) rfl rfl  kT) ?_
  show Go _ _ _ _ _ _ _  T1 (mkF m 7 #[.val (.ref a1), .val (.int (Int32.ofNat n)), .val (.ref a2)] [(.ref a1), (.ref a2)])
  obtain ⟨T2, X2, e2, st2⟩ := getF X1 hx hZ hown (host := "") (Or.inl (hwi hw 54 rfl)) Via.refl e1q V_a1 (g := (mkF m 7 #[.val (.ref a1), .val (.int (Int32.ofNat n)), .val (.ref a2)] [(.ref a1), (.ref a2)])) rfl rfl (hb hby d15_7)
  refine Go.st st2 ?_
  show Go _ _ _ _ _ _ _  T2 (mkF m 10 #[.val (.ref a1), .val (.int (Int32.ofNat n)), .val (.ref a2)] [(.ref t), (.ref a2)])
  refine Go.st (fun tT kT => XS.iloadN X2.here hx rfl (hb hby d15_10) rfl  kT) ?_
  refine Go.st (fun tT kT => XS.aloadN X2.here hx rfl (hb hby d15_11) rfl rfl  kT) ?_
  show Go _ _ _ _ _ _ _  T2 (mkF m 12 #[.val (.ref a1), .val (.int (Int32.ofNat n)), .val (.ref a2)] [(.ref a1), (.int (Int32.ofNat n)), (.ref t), (.ref a2)])
  obtain ⟨T3, X3, e3, st3⟩ := getF X2 hx hZ hown (host := "") (Or.inl (hwi hw 56 rfl)) Via.refl e2 C_a1 (g := (mkF m 12 #[.val (.ref a1), .val (.int (Int32.ofNat n)), .val (.ref a2)] [(.ref a1), (.int (Int32.ofNat n)), (.ref t), (.ref a2)])) rfl rfl (hb hby d15_12)
  refine Go.st st3 ?_
  show Go _ _ _ _ _ _ _  T3 (mkF m 15 #[.val (.ref a1), .val (.int (Int32.ofNat n)), .val (.ref a2)] [(.int (0 : Int32)), (.int (Int32.ofNat n)), (.ref t), (.ref a2)])
  obtain ⟨cq4, kq4, q4a, q4b, q4c⟩ := isOf hZ e3 E_a2
  obtain ⟨_, _, ⟨T4, L4, k4, n4⟩, -, X4, ⟨Lc4, hQ4, l4, y4, z4⟩, st4⟩ := X3.virtualBack hx (y := (⟨"java/lang/String", "getBytes", "([BIB)V"⟩ : MethodName)) (z := (⟨"java/lang/String", "getBytes", "([BIB)V"⟩ : MethodName)) hown (mvT hZ (hwi hw 126 rfl)) (mvT hZ (hwi hw 127 rfl)) (notFace_of_selects (args := #[]) (mvT hZ (hwi hw 129 rfl))) (mvT hZ (hwi hw 129 rfl)) (mvT hZ (hwi hw 128 rfl)) (by decide) (backOf (W := 0) (rmGB l Z a0 hw [] a2 t zc u ku mm vs kd n cap bs h0 n0 O S_COMPACT hcs E_a2 C_a2 V_a2 A_u L_a2 B_a2 A_t L_a1 hcap B_a1 g_t ne_u_t) hZ (hwi hw 130 rfl) (hwi hw 25 rfl) (by decide) (by decide)) q4a q4c (g := (mkF m 15 #[.val (.ref a1), .val (.int (Int32.ofNat n)), .val (.ref a2)] [(.int (0 : Int32)), (.int (Int32.ofNat n)), (.ref t), (.ref a2)])) rfl (by rw [hml]; rfl) (Steps.refl _) (argsL := [(.ref t), (.int (Int32.ofNat n)), (.int (0 : Int32))]) (rest := []) (lenOf pd___BIB_V rfl) rfl (by show 2 * 0 + _ ≤ _; exact Nat.le_of_eq rfl) (hb hby d15_15) (fun _ _ => ⟨rfl, e3, (by decide : 0 + 0 ≤ _), (by decide : 0 + 0 ≤ _)⟩)
  dsimp only [Pt.U, Pt.locs, Pt.cells, Pt.slots] at X4 l4 y4 z4 st4 hQ4
  rw [l4, y4, z4] at X4
  have X4 : Stand p l e _ _ m _ below meth c T4 _ 0 0 := X4
  obtain ⟨rfl, N4q, K4q, Vq4⟩ := hQ4
  have N4 := Fr.app N1 N4q
  refine Go.tr st4 ?_
  have ne_a1_t : a1 ≠ t := (Exa.neArv E_a1 A_t (hwi hw 39 rfl))
  have ne_a2_t : a2 ≠ t := (Exa.neArv E_a2 A_t (hwi hw 26 rfl))
  have E_a1 := E_a1.keep K4q
  have C_a1 := C_a1.keep K4q (ninS ne_a1_t nin0)
  have V_a1 := V_a1.keep K4q (ninS ne_a1_t nin0)
  have N_a1 := N_a1.keep K4q (ninS ne_a1_t nin0)
  have E_a2 := E_a2.keep K4q
  have A_u := A_u.keep K4q (ninS ne_u_t nin0)
  have C_a2 := C_a2.keep K4q (ninS ne_a2_t nin0)
  have V_a2 := V_a2.keep K4q (ninS ne_a2_t nin0)
  have O := O.keep K4q (allS g_t all0)
  have KK := KK.trans K4q (allS (Or.inl (List.mem_of_getElem? (i := 0) rfl)) all0)
  show Go _ _ _ _ _ _ _  T4 (mkF m 18 #[.val (.ref a1), .val (.int (Int32.ofNat n)), .val (.ref a2)] [])
  refine Go.ret0 X4 hlk hx Bd.returns (hb hby d15_18) (by decide) (by decide) ?_
  show Q_rmPut Z _ _ _ _ _ _ _ _ _ _ _ _ h0 n0 _ T4.heap _
  exact ⟨rfl, N4, KK, Vq4⟩
def Q_rmMax (Z : State) (na : Nat) (nb : Nat) (h0 : Heap) (n0 : Nat) (v : Option Value) (h : Heap) (L : List Loc) : Prop := v = some (.int (Int32.ofNat (max na nb))) ∧ Fr n0 L ∧ h = h0
set_option maxRecDepth 65536 in
set_option maxHeartbeats 40000000 in
theorem rmMax (l : Launch) (Z : State) (a0 : Array Value) (hw : ∀ d ∈ tables_1, d.before a0 Z = true) (ws : List Jvm.Cond) (na : Nat) (nb : Nat) (h0 : Heap) (n0 : Nat) (O : Old Z n0 h0) (ha : na < 1073741824) (hb_ : nb < 1073741824) :
    MetFree l (⟨"java/lang/Math", "max", "(II)I"⟩ : MethodName) (head1 (Jvm.Cond.code (⟨"java/lang/Math", "max", "(II)I"⟩ : MethodName) jdk_29_method_65_code 2 (some .int) :: ws) ({ frames := 0, cells := 0, slots := 0, locals := 0 } : Room)) (fun a U => a = #[(.int (Int32.ofNat na)), (.int (Int32.ofNat nb))] ∧ Z.Warmed39 U.vm ∧ U.heap = h0) (fun _ _ _ _ _ => True) (fun _ U o U' => ∃ v L, o = .returned v ∧ Q_rmMax Z na nb h0 n0 v U'.heap L ∧ FrameEnd U o U' L ({ frames := 0, cells := 0, slots := 0, locals := 0 } : Room).cells ({ frames := 0, cells := 0, slots := 0, locals := 0 } : Room).slots) := by
  refine MetFree.of_bodySF (Jvm.Free.JP.mathPlain rfl (by decide +kernel)) hisR ?_
  intro p e s m args below meth c s₁ Bd hml0 hP hK
  obtain ⟨rfl, hZ, hh⟩ := hP
  have hx := Bd.exec
  have hby := Bd.bytes
  have hml : c.maxLocals = 2 := hml0
  have hown : s.vm.findClass "java/lang/Math" = some m.cls := findClass_of_methodNamed Bd.named
  have hnm := (name_of_methodNamed Bd.named Bd.method).1
  have hlk : meth.locks = false := BodyLoose.notSynchronized Bd
  have X0 : Stand p l e ({ frames := 0, cells := 0, slots := 0, locals := 0 } : Room) s m #[(.int (Int32.ofNat na)), (.int (Int32.ofNat nb))] below meth c s₁ [] 0 0 := Stand.of_body Bd
  have e0 : s₁.heap = h0 := by rw [← hh, Bd.state]; rfl
  have N0 := Fr.nil n0
  show Go p e below s ({ frames := 0, cells := 0, slots := 0, locals := 0 } : Room).cells ({ frames := 0, cells := 0, slots := 0, locals := 0 } : Room).slots (Q_rmMax Z na nb h0 n0) s₁ (entryFrame m #[(.int (Int32.ofNat na)), (.int (Int32.ofNat nb))] 2)
  refine Go.eq (ef_rmMax m (Int32.ofNat na) (Int32.ofNat nb)) ?_
  show Go _ _ _ _ _ _ _  s₁ (mkF m 0 #[.val (.int (Int32.ofNat na)), .val (.int (Int32.ofNat nb))] [])
  refine Go.st (fun tT kT => XS.iloadN X0.here hx rfl (hb hby d36_0) rfl  kT) ?_
  refine Go.st (fun tT kT => XS.iloadN X0.here hx rfl (hb hby d36_1) rfl  kT) ?_
  show Go _ _ _ _ _ _ _  s₁ (mkF m 2 #[.val (.int (Int32.ofNat na)), .val (.int (Int32.ofNat nb))] [(.int (Int32.ofNat nb)), (.int (Int32.ofNat na))])
  by_cases c2_1 : (Int32.ofNat na) < (Int32.ofNat nb)
  · refine Go.st (fun tT kT => XS.icmpYes X0.here hx rfl (pc0 := 2) (pc' := 9) rfl (hb hby d36_2) rfl (tlt c2_1).1 (by decide) (by decide) kT) ?_
    show Go _ _ _ _ _ _ _  s₁ (mkF m 9 #[.val (.int (Int32.ofNat na)), .val (.int (Int32.ofNat nb))] [])
    refine Go.st (fun tT kT => XS.iloadN X0.here hx rfl (hb hby d36_9) rfl  kT) ?_
    show Go _ _ _ _ _ _ _  s₁ (mkF m 10 #[.val (.int (Int32.ofNat na)), .val (.int (Int32.ofNat nb))] [(.int (Int32.ofNat nb))])
    refine Go.retI X0 hlk hx Bd.returns (hb hby d36_10) (by decide) (by decide) ?_
    show Q_rmMax Z _ _ h0 n0 _ s₁.heap _
    rw [e0]
    exact ⟨by have q := c2_1; rw [own_olt (by omega) (by omega)] at q; rw [show max na nb = nb by omega], N0, rfl⟩
  · refine Go.st (fun tT kT => XS.icmpNo X0.here hx rfl (hb hby d36_2) rfl (flt c2_1).1 kT) ?_
    show Go _ _ _ _ _ _ _  s₁ (mkF m 5 #[.val (.int (Int32.ofNat na)), .val (.int (Int32.ofNat nb))] [])
    refine Go.st (fun tT kT => XS.iloadN X0.here hx rfl (hb hby d36_5) rfl  kT) ?_
    refine Go.st (fun tT kT => XS.goto X0.here hx rfl (pc0 := 6) (pc' := 10) rfl (hb hby d36_6) (by decide) (by decide) kT) ?_
    show Go _ _ _ _ _ _ _  s₁ (mkF m 10 #[.val (.int (Int32.ofNat na)), .val (.int (Int32.ofNat nb))] [(.int (Int32.ofNat na))])
    refine Go.retI X0 hlk hx Bd.returns (hb hby d36_10) (by decide) (by decide) ?_
    show Q_rmMax Z _ _ h0 n0 _ s₁.heap _
    rw [e0]
    exact ⟨by have q := c2_1; rw [own_olt (by omega) (by omega)] at q; rw [show max na nb = na by omega], N0, rfl⟩
def Q_rmMin (Z : State) (na : Nat) (nb : Nat) (h0 : Heap) (n0 : Nat) (v : Option Value) (h : Heap) (L : List Loc) : Prop := v = some (.int (Int32.ofNat (min na nb))) ∧ Fr n0 L ∧ h = h0
set_option maxRecDepth 65536 in
set_option maxHeartbeats 40000000 in
theorem rmMin (l : Launch) (Z : State) (a0 : Array Value) (hw : ∀ d ∈ tables_1, d.before a0 Z = true) (ws : List Jvm.Cond) (na : Nat) (nb : Nat) (h0 : Heap) (n0 : Nat) (O : Old Z n0 h0) (ha : na < 1073741824) (hb_ : nb < 1073741824) :
    MetFree l (⟨"java/lang/Math", "min", "(II)I"⟩ : MethodName) (head1 (Jvm.Cond.code (⟨"java/lang/Math", "min", "(II)I"⟩ : MethodName) jdk_29_method_69_code 2 (some .int) :: ws) ({ frames := 0, cells := 0, slots := 0, locals := 0 } : Room)) (fun a U => a = #[(.int (Int32.ofNat na)), (.int (Int32.ofNat nb))] ∧ Z.Warmed39 U.vm ∧ U.heap = h0) (fun _ _ _ _ _ => True) (fun _ U o U' => ∃ v L, o = .returned v ∧ Q_rmMin Z na nb h0 n0 v U'.heap L ∧ FrameEnd U o U' L ({ frames := 0, cells := 0, slots := 0, locals := 0 } : Room).cells ({ frames := 0, cells := 0, slots := 0, locals := 0 } : Room).slots) := by
  refine MetFree.of_bodySF (Jvm.Free.JP.mathPlain rfl (by decide +kernel)) hisR ?_
  intro p e s m args below meth c s₁ Bd hml0 hP hK
  obtain ⟨rfl, hZ, hh⟩ := hP
  have hx := Bd.exec
  have hby := Bd.bytes
  have hml : c.maxLocals = 2 := hml0
  have hown : s.vm.findClass "java/lang/Math" = some m.cls := findClass_of_methodNamed Bd.named
  have hnm := (name_of_methodNamed Bd.named Bd.method).1
  have hlk : meth.locks = false := BodyLoose.notSynchronized Bd
  have X0 : Stand p l e ({ frames := 0, cells := 0, slots := 0, locals := 0 } : Room) s m #[(.int (Int32.ofNat na)), (.int (Int32.ofNat nb))] below meth c s₁ [] 0 0 := Stand.of_body Bd
  have e0 : s₁.heap = h0 := by rw [← hh, Bd.state]; rfl
  have N0 := Fr.nil n0
  show Go p e below s ({ frames := 0, cells := 0, slots := 0, locals := 0 } : Room).cells ({ frames := 0, cells := 0, slots := 0, locals := 0 } : Room).slots (Q_rmMin Z na nb h0 n0) s₁ (entryFrame m #[(.int (Int32.ofNat na)), (.int (Int32.ofNat nb))] 2)
  refine Go.eq (ef_rmMin m (Int32.ofNat na) (Int32.ofNat nb)) ?_
  show Go _ _ _ _ _ _ _  s₁ (mkF m 0 #[.val (.int (Int32.ofNat na)), .val (.int (Int32.ofNat nb))] [])
  refine Go.st (fun tT kT => XS.iloadN X0.here hx rfl (hb hby d27_0) rfl  kT) ?_
  refine Go.st (fun tT kT => XS.iloadN X0.here hx rfl (hb hby d27_1) rfl  kT) ?_
  show Go _ _ _ _ _ _ _  s₁ (mkF m 2 #[.val (.int (Int32.ofNat na)), .val (.int (Int32.ofNat nb))] [(.int (Int32.ofNat nb)), (.int (Int32.ofNat na))])
  by_cases c2_1 : (Int32.ofNat nb) < (Int32.ofNat na)
  · refine Go.st (fun tT kT => XS.icmpYes X0.here hx rfl (pc0 := 2) (pc' := 9) rfl (hb hby d27_2) rfl (tlt c2_1).2.2.1 (by decide) (by decide) kT) ?_
    show Go _ _ _ _ _ _ _  s₁ (mkF m 9 #[.val (.int (Int32.ofNat na)), .val (.int (Int32.ofNat nb))] [])
    refine Go.st (fun tT kT => XS.iloadN X0.here hx rfl (hb hby d27_9) rfl  kT) ?_
    show Go _ _ _ _ _ _ _  s₁ (mkF m 10 #[.val (.int (Int32.ofNat na)), .val (.int (Int32.ofNat nb))] [(.int (Int32.ofNat nb))])
    refine Go.retI X0 hlk hx Bd.returns (hb hby d27_10) (by decide) (by decide) ?_
    show Q_rmMin Z _ _ h0 n0 _ s₁.heap _
    rw [e0]
    exact ⟨by have q := c2_1; rw [own_olt (by omega) (by omega)] at q; rw [show min na nb = nb by omega], N0, rfl⟩
  · refine Go.st (fun tT kT => XS.icmpNo X0.here hx rfl (hb hby d27_2) rfl (flt c2_1).2.2.1 kT) ?_
    show Go _ _ _ _ _ _ _  s₁ (mkF m 5 #[.val (.int (Int32.ofNat na)), .val (.int (Int32.ofNat nb))] [])
    refine Go.st (fun tT kT => XS.iloadN X0.here hx rfl (hb hby d27_5) rfl  kT) ?_
    refine Go.st (fun tT kT => XS.goto X0.here hx rfl (pc0 := 6) (pc' := 10) rfl (hb hby d27_6) (by decide) (by decide) kT) ?_
    show Go _ _ _ _ _ _ _  s₁ (mkF m 10 #[.val (.int (Int32.ofNat na)), .val (.int (Int32.ofNat nb))] [(.int (Int32.ofNat na))])
    refine Go.retI X0 hlk hx Bd.returns (hb hby d27_10) (by decide) (by decide) ?_
    show Q_rmMin Z _ _ h0 n0 _ s₁.heap _
    rw [e0]
    exact ⟨by have q := c2_1; rw [own_olt (by omega) (by omega)] at q; rw [show min na nb = na by omega], N0, rfl⟩
def Q_rmNL (Z : State) (c0 : Nat) (na : Nat) (nb : Nat) (h0 : Heap) (n0 : Nat) (v : Option Value) (h : Heap) (L : List Loc) : Prop := v = some (.int (Int32.ofNat (c0 + max na nb))) ∧ Fr n0 L ∧ h = h0
set_option maxRecDepth 65536 in
set_option maxHeartbeats 40000000 in
theorem rmNL (l : Launch) (Z : State) (a0 : Array Value) (hw : ∀ d ∈ tables_1, d.before a0 Z = true) (ws : List Jvm.Cond) (c0 : Nat) (na : Nat) (nb : Nat) (h0 : Heap) (n0 : Nat) (O : Old Z n0 h0) (hc : c0 < 500000000) (ha : na < 500000000) (hb_ : nb < 500000000) (hpos : 0 < nb) :
    MetFree l (⟨"jdk/internal/util/ArraysSupport", "newLength", "(III)I"⟩ : MethodName) (head1 (Jvm.Cond.code (⟨"jdk/internal/util/ArraysSupport", "newLength", "(III)I"⟩ : MethodName) jdk_48_method_27_code 4 (some .int) :: ws) ({ frames := 1, cells := 0, slots := 0, locals := 14 } : Room)) (fun a U => a = #[(.int (Int32.ofNat c0)), (.int (Int32.ofNat na)), (.int (Int32.ofNat nb))] ∧ Z.Warmed39 U.vm ∧ U.heap = h0) (fun _ _ _ _ _ => True) (fun _ U o U' => ∃ v L, o = .returned v ∧ Q_rmNL Z c0 na nb h0 n0 v U'.heap L ∧ FrameEnd U o U' L ({ frames := 1, cells := 0, slots := 0, locals := 14 } : Room).cells ({ frames := 1, cells := 0, slots := 0, locals := 14 } : Room).slots) := by
  refine MetFree.of_bodySF (plainFor_of_name pn_35) hisR ?_
  intro p e s m args below meth c s₁ Bd hml0 hP hK
  obtain ⟨rfl, hZ, hh⟩ := hP
  have hx := Bd.exec
  have hby := Bd.bytes
  have hml : c.maxLocals = 4 := hml0
  have hown : s.vm.findClass "jdk/internal/util/ArraysSupport" = some m.cls := findClass_of_methodNamed Bd.named
  have hnm := (name_of_methodNamed Bd.named Bd.method).1
  have hlk : meth.locks = false := BodyLoose.notSynchronized Bd
  have X0 : Stand p l e ({ frames := 1, cells := 0, slots := 0, locals := 14 } : Room) s m #[(.int (Int32.ofNat c0)), (.int (Int32.ofNat na)), (.int (Int32.ofNat nb))] below meth c s₁ [] 0 0 := Stand.of_body Bd
  have e0 : s₁.heap = h0 := by rw [← hh, Bd.state]; rfl
  have N0 := Fr.nil n0
  show Go p e below s ({ frames := 1, cells := 0, slots := 0, locals := 14 } : Room).cells ({ frames := 1, cells := 0, slots := 0, locals := 14 } : Room).slots (Q_rmNL Z c0 na nb h0 n0) s₁ (entryFrame m #[(.int (Int32.ofNat c0)), (.int (Int32.ofNat na)), (.int (Int32.ofNat nb))] 4)
  refine Go.eq (ef_rmNL m (Int32.ofNat c0) (Int32.ofNat na) (Int32.ofNat nb)) ?_
  show Go _ _ _ _ _ _ _  s₁ (mkF m 0 #[.val (.int (Int32.ofNat c0)), .val (.int (Int32.ofNat na)), .val (.int (Int32.ofNat nb)), .unset] [])
  refine Go.st (fun tT kT => XS.iloadN X0.here hx rfl (hb hby d35_0) rfl  kT) ?_
  refine Go.st (fun tT kT => XS.iloadN X0.here hx rfl (hb hby d35_1) rfl  kT) ?_
  refine Go.st (fun tT kT => XS.iloadN X0.here hx rfl (hb hby d35_2) rfl  kT) ?_
  show Go _ _ _ _ _ _ _  s₁ (mkF m 3 #[.val (.int (Int32.ofNat c0)), .val (.int (Int32.ofNat na)), .val (.int (Int32.ofNat nb)), .unset] [(.int (Int32.ofNat nb)), (.int (Int32.ofNat na)), (.int (Int32.ofNat c0))])
  refine Go.pureS (w := (some (.int (Int32.ofNat (max na nb))))) (rest := [(.int (Int32.ofNat c0))]) (pc' := 6) (Jvm.LawKit.callS X0 hx (y := (⟨"java/lang/Math", "max", "(II)I"⟩ : MethodName)) hown (mvT hZ (hwi hw 216 rfl)) (mvT hZ (hwi hw 217 rfl)) (mvT hZ (hwi hw 175 rfl)) (mvT hZ (hwi hw 218 rfl)) (by decide) (backOf (W := 1) (rmMax l Z a0 hw [] na nb h0 n0 O (by omega) (by omega)) hZ (hwi hw 218 rfl) (hwi hw 175 rfl) (by decide) (by decide)) (g := (mkF m 3 #[.val (.int (Int32.ofNat c0)), .val (.int (Int32.ofNat na)), .val (.int (Int32.ofNat nb)), .unset] [(.int (Int32.ofNat nb)), (.int (Int32.ofNat na)), (.int (Int32.ofNat c0))])) rfl (by rw [hml]; rfl) (argsL := [(.int (Int32.ofNat na)), (.int (Int32.ofNat nb))]) (rest := [(.int (Int32.ofNat c0))]) (lenOf pd__II_I rfl) rfl (by show 2 * 0 + _ ≤ _; exact Nat.le_of_eq rfl) (hb hby d35_3) (fun _ _ => ⟨rfl, e0, (by decide : 0 + 0 ≤ _), (by decide : 0 + 0 ≤ _)⟩)) (fun _ _ _ q => q) N0 (fun T1 L1 X1 e1q N1 => ?_)
  show Go _ _ _ _ _ _ _  T1 (mkF m 6 #[.val (.int (Int32.ofNat c0)), .val (.int (Int32.ofNat na)), .val (.int (Int32.ofNat nb)), .unset] [(.int (Int32.ofNat (max na nb))), (.int (Int32.ofNat c0))])
  refine Go.st (fun tT kT => XS.iadd X1.here hx rfl (hb hby d35_6) rfl kT) ?_
  show Go _ _ _ _ _ _ _  T1 (mkF m 7 #[.val (.int (Int32.ofNat c0)), .val (.int (Int32.ofNat na)), .val (.int (Int32.ofNat nb)), .unset] [(.int ((Int32.ofNat c0) + (Int32.ofNat (max na nb))))])
  rw [own_oadd]
  refine Go.st (fun tT kT => XS.istoreN X1.here hx rfl (hb hby d35_7) rfl (l' := #[.val (.int (Int32.ofNat c0)), .val (.int (Int32.ofNat na)), .val (.int (Int32.ofNat nb)), .val (.int (Int32.ofNat (c0 + max na nb)))]) rfl kT) ?_
  refine Go.st (fun tT kT => XS.iconst X1.here hx rfl (hb hby d35_8) kT) ?_
  show Go _ _ _ _ _ _ _  T1 (mkF m 9 #[.val (.int (Int32.ofNat c0)), .val (.int (Int32.ofNat na)), .val (.int (Int32.ofNat nb)), .val (.int (Int32.ofNat (c0 + max na nb)))] [(.int (0 : Int32))])
  refine Go.st (fun tT kT => XS.iloadN X1.here hx rfl (hb hby d35_9) rfl  kT) ?_
  show Go _ _ _ _ _ _ _  T1 (mkF m 10 #[.val (.int (Int32.ofNat c0)), .val (.int (Int32.ofNat na)), .val (.int (Int32.ofNat nb)), .val (.int (Int32.ofNat (c0 + max na nb)))] [(.int (Int32.ofNat (c0 + max na nb))), (.int (0 : Int32))])
  refine Go.st (fun tT kT => XS.icmpNo X1.here hx rfl (hb hby d35_10) rfl (tlt (own_opos (by omega) (by omega) : (0 : Int32) < (Int32.ofNat (c0 + max na nb)))).2.1 kT) ?_
  show Go _ _ _ _ _ _ _  T1 (mkF m 13 #[.val (.int (Int32.ofNat c0)), .val (.int (Int32.ofNat na)), .val (.int (Int32.ofNat nb)), .val (.int (Int32.ofNat (c0 + max na nb)))] [])
  refine Go.st (fun tT kT => XS.iloadN X1.here hx rfl (hb hby d35_13) rfl  kT) ?_
  show Go _ _ _ _ _ _ _  T1 (mkF m 14 #[.val (.int (Int32.ofNat c0)), .val (.int (Int32.ofNat na)), .val (.int (Int32.ofNat nb)), .val (.int (Int32.ofNat (c0 + max na nb)))] [(.int (Int32.ofNat (c0 + max na nb)))])
  refine Go.st (X1.ldcInt hx hown (mvT hZ (hwi hw 219 rfl)) (g := (mkF m 14 #[.val (.int (Int32.ofNat c0)), .val (.int (Int32.ofNat na)), .val (.int (Int32.ofNat nb)), .val (.int (Int32.ofNat (c0 + max na nb)))] [(.int (Int32.ofNat (c0 + max na nb)))])) rfl (hb hby d35_14)) ?_
  show Go _ _ _ _ _ _ _  T1 (mkF m 16 #[.val (.int (Int32.ofNat c0)), .val (.int (Int32.ofNat na)), .val (.int (Int32.ofNat nb)), .val (.int (Int32.ofNat (c0 + max na nb)))] [(.int (2147483639 : Int32)), (.int (Int32.ofNat (c0 + max na nb)))])
  refine Go.st (fun tT kT => XS.icmpNo X1.here hx rfl (hb hby d35_16) rfl (flt (own_onbig (by omega) : ¬ ((2147483639 : Int32) < (Int32.ofNat (c0 + max na nb))))).2.2.1 kT) ?_
  show Go _ _ _ _ _ _ _  T1 (mkF m 19 #[.val (.int (Int32.ofNat c0)), .val (.int (Int32.ofNat na)), .val (.int (Int32.ofNat nb)), .val (.int (Int32.ofNat (c0 + max na nb)))] [])
  refine Go.st (fun tT kT => XS.iloadN X1.here hx rfl (hb hby d35_19) rfl  kT) ?_
  show Go _ _ _ _ _ _ _  T1 (mkF m 20 #[.val (.int (Int32.ofNat c0)), .val (.int (Int32.ofNat na)), .val (.int (Int32.ofNat nb)), .val (.int (Int32.ofNat (c0 + max na nb)))] [(.int (Int32.ofNat (c0 + max na nb)))])
  refine Go.retI X1 hlk hx Bd.returns (hb hby d35_20) (by decide) (by decide) ?_
  show Q_rmNL Z _ _ _ h0 n0 _ T1.heap _
  rw [e1q]
  exact ⟨rfl, N1, rfl⟩
def Q_rmNC (Z : State) (a1 : Addr) (kk : Nat) (t : Addr) (kd : ClassId) (n : Nat) (cap : Nat) (bs : List Value) (h0 : Heap) (n0 : Nat) (v : Option Value) (h : Heap) (L : List Loc) : Prop := v = some (.int (Int32.ofNat (cap + max (kk - cap) (cap + 2)))) ∧ Fr n0 L ∧ h = h0
set_option maxRecDepth 65536 in
set_option maxHeartbeats 40000000 in
theorem rmNC (l : Launch) (Z : State) (a0 : Array Value) (hw : ∀ d ∈ tables_1, d.before a0 Z = true) (ws : List Jvm.Cond) (a1 : Addr) (kk : Nat) (t : Addr) (kd : ClassId) (n : Nat) (cap : Nat) (bs : List Value) (h0 : Heap) (n0 : Nat) (O : Old Z n0 h0) (E_a1 : Exa Z h0 a1 "java/lang/StringBuilder") (C_a1 : Fld Z h0 a1 "java/lang/AbstractStringBuilder" "coder" "B" (.int 0)) (V_a1 : Fld Z h0 a1 "java/lang/AbstractStringBuilder" "value" "[B" (.ref t)) (N_a1 : Fld Z h0 a1 "java/lang/AbstractStringBuilder" "count" "I" (.int (Int32.ofNat n))) (A_t : Arv Z h0 t kd .byte (Int32.ofNat cap) bs (.int 0)) (L_a1 : bs.length = n) (K_a1 : n ≤ cap) (B_a1 : cap < 100000) (g_a1 : n0 ≤ a1) (g_t : n0 ≤ t) (hk1 : cap < kk) (hk2 : kk < 200000) :
    MetFree l (⟨"java/lang/AbstractStringBuilder", "newCapacity", "(I)I"⟩ : MethodName) (head1 (Jvm.Cond.code (⟨"java/lang/AbstractStringBuilder", "newCapacity", "(I)I"⟩ : MethodName) jdk_68_method_10_code 6 (some .int) :: ws) ({ frames := 2, cells := 0, slots := 0, locals := 29 } : Room)) (fun a U => a = #[(.ref a1), (.int (Int32.ofNat kk))] ∧ Z.Warmed39 U.vm ∧ U.heap = h0) (fun _ _ _ _ _ => True) (fun _ U o U' => ∃ v L, o = .returned v ∧ Q_rmNC Z a1 kk t kd n cap bs h0 n0 v U'.heap L ∧ FrameEnd U o U' L ({ frames := 2, cells := 0, slots := 0, locals := 29 } : Room).cells ({ frames := 2, cells := 0, slots := 0, locals := 29 } : Room).slots) := by
  refine MetFree.of_bodySF (plainFor_of_name pn_34) hisR ?_
  intro p e s m args below meth c s₁ Bd hml0 hP hK
  obtain ⟨rfl, hZ, hh⟩ := hP
  have hx := Bd.exec
  have hby := Bd.bytes
  have hml : c.maxLocals = 6 := hml0
  have hown : s.vm.findClass "java/lang/AbstractStringBuilder" = some m.cls := findClass_of_methodNamed Bd.named
  have hnm := (name_of_methodNamed Bd.named Bd.method).1
  have hlk : meth.locks = false := BodyLoose.notSynchronized Bd
  have X0 : Stand p l e ({ frames := 2, cells := 0, slots := 0, locals := 29 } : Room) s m #[(.ref a1), (.int (Int32.ofNat kk))] below meth c s₁ [] 0 0 := Stand.of_body Bd
  have e0 : s₁.heap = h0 := by rw [← hh, Bd.state]; rfl
  have N0 := Fr.nil n0
  show Go p e below s ({ frames := 2, cells := 0, slots := 0, locals := 29 } : Room).cells ({ frames := 2, cells := 0, slots := 0, locals := 29 } : Room).slots (Q_rmNC Z a1 kk t kd n cap bs h0 n0) s₁ (entryFrame m #[(.ref a1), (.int (Int32.ofNat kk))] 6)
  refine Go.eq (ef_rmNC m a1 (Int32.ofNat kk)) ?_
  show Go _ _ _ _ _ _ _  s₁ (mkF m 0 #[.val (.ref a1), .val (.int (Int32.ofNat kk)), .unset, .unset, .unset, .unset] [])
  refine Go.st (fun tT kT => XS.aloadN X0.here hx rfl (hb hby d34_0) rfl rfl  kT) ?_
  show Go _ _ _ _ _ _ _  s₁ (mkF m 1 #[.val (.ref a1), .val (.int (Int32.ofNat kk)), .unset, .unset, .unset, .unset] [(.ref a1)])
  obtain ⟨T1, X1, e1, st1⟩ := getF X0 hx hZ hown (host := "") (Or.inl (hwi hw 54 rfl)) Via.refl e0 V_a1 (g := (mkF m 1 #[.val (.ref a1), .val (.int (Int32.ofNat kk)), .unset, .unset, .unset, .unset] [(.ref a1)])) rfl rfl (hb hby d34_1)
  refine Go.st st1 ?_
  show Go _ _ _ _ _ _ _  T1 (mkF m 4 #[.val (.ref a1), .val (.int (Int32.ofNat kk)), .unset, .unset, .unset, .unset] [(.ref t)])
  obtain ⟨cl2, Ar2, q2, S2, M2, Hh2, G2⟩ := id A_t
  refine Go.st (X1.arraylength hx (by rw [e1]; exact Ar2.1) (State.isArrayOf_alike hZ.alike Ar2.2.1) (g := (mkF m 4 #[.val (.ref a1), .val (.int (Int32.ofNat kk)), .unset, .unset, .unset, .unset] [(.ref t)])) rfl rfl (hb hby d34_4)) ?_
  rw [len_of S2 M2]
  show Go _ _ _ _ _ _ _  T1 (mkF m 5 #[.val (.ref a1), .val (.int (Int32.ofNat kk)), .unset, .unset, .unset, .unset] [(.int (Int32.ofNat cap))])
  refine Go.st (fun tT kT => XS.istoreN X1.here hx rfl (hb hby d34_5) rfl (l' := #[.val (.ref a1), .val (.int (Int32.ofNat kk)), .val (.int (Int32.ofNat cap)), .unset, .unset, .unset]) rfl kT) ?_
  refine Go.st (fun tT kT => XS.iloadN X1.here hx rfl (hb hby d34_6) rfl  kT) ?_
  refine Go.st (fun tT kT => XS.aloadN X1.here hx rfl (hb hby d34_7) rfl rfl  kT) ?_
  show Go _ _ _ _ _ _ _  T1 (mkF m 8 #[.val (.ref a1), .val (.int (Int32.ofNat kk)), .val (.int (Int32.ofNat cap)), .unset, .unset, .unset] [(.ref a1), (.int (Int32.ofNat kk))])
  obtain ⟨T3, X3, e3, st3⟩ := getF X1 hx hZ hown (host := "") (Or.inl (hwi hw 56 rfl)) Via.refl e1 C_a1 (g := (mkF m 8 #[.val (.ref a1), .val (.int (Int32.ofNat kk)), .val (.int (Int32.ofNat cap)), .unset, .unset, .unset] [(.ref a1), (.int (Int32.ofNat kk))])) rfl rfl (hb hby d34_8)
  refine Go.st st3 ?_
  show Go _ _ _ _ _ _ _  T3 (mkF m 11 #[.val (.ref a1), .val (.int (Int32.ofNat kk)), .val (.int (Int32.ofNat cap)), .unset, .unset, .unset] [(.int (0 : Int32)), (.int (Int32.ofNat kk))])
  refine Go.st (fun tT kT => XS.ishl X3.here hx rfl (hb hby d34_11) rfl kT) ?_
  show Go _ _ _ _ _ _ _  T3 (mkF m 12 #[.val (.ref a1), .val (.int (Int32.ofNat kk)), .val (.int (Int32.ofNat cap)), .unset, .unset, .unset] [(.int ((Int32.ofNat kk) <<< ((0 : Int32) &&& 31)))])
  rw [own_shl0]
  refine Go.st (fun tT kT => XS.istoreN X3.here hx rfl (hb hby d34_12) rfl (l' := #[.val (.ref a1), .val (.int (Int32.ofNat kk)), .val (.int (Int32.ofNat cap)), .val (.int (Int32.ofNat kk)), .unset, .unset]) rfl kT) ?_
  refine Go.st (fun tT kT => XS.iloadN X3.here hx rfl (hb hby d34_13) rfl  kT) ?_
  show Go _ _ _ _ _ _ _  T3 (mkF m 14 #[.val (.ref a1), .val (.int (Int32.ofNat kk)), .val (.int (Int32.ofNat cap)), .val (.int (Int32.ofNat kk)), .unset, .unset] [(.int (Int32.ofNat kk))])
  refine Go.st (fun tT kT => XS.iloadN X3.here hx rfl (hb hby d34_14) rfl  kT) ?_
  refine Go.st (fun tT kT => XS.isub X3.here hx rfl (hb hby d34_15) rfl kT) ?_
  show Go _ _ _ _ _ _ _  T3 (mkF m 16 #[.val (.ref a1), .val (.int (Int32.ofNat kk)), .val (.int (Int32.ofNat cap)), .val (.int (Int32.ofNat kk)), .unset, .unset] [(.int ((Int32.ofNat kk) - (Int32.ofNat cap)))])
  rw [own_osub (by omega) (by omega)]
  refine Go.st (fun tT kT => XS.istore X3.here hx rfl (hb hby d34_16) rfl (l' := #[.val (.ref a1), .val (.int (Int32.ofNat kk)), .val (.int (Int32.ofNat cap)), .val (.int (Int32.ofNat kk)), .val (.int (Int32.ofNat (kk - cap))), .unset]) rfl kT) ?_
  show Go _ _ _ _ _ _ _  T3 (mkF m 18 #[.val (.ref a1), .val (.int (Int32.ofNat kk)), .val (.int (Int32.ofNat cap)), .val (.int (Int32.ofNat kk)), .val (.int (Int32.ofNat (kk - cap))), .unset] [])
  refine Go.st (fun tT kT => XS.iloadN X3.here hx rfl (hb hby d34_18) rfl  kT) ?_
  refine Go.st (fun tT kT => XS.iload X3.here hx rfl (hb hby d34_19) rfl  kT) ?_
  refine Go.st (fun tT kT => XS.iloadN X3.here hx rfl (hb hby d34_21) rfl  kT) ?_
  show Go _ _ _ _ _ _ _  T3 (mkF m 22 #[.val (.ref a1), .val (.int (Int32.ofNat kk)), .val (.int (Int32.ofNat cap)), .val (.int (Int32.ofNat kk)), .val (.int (Int32.ofNat (kk - cap))), .unset] [(.int (Int32.ofNat cap)), (.int (Int32.ofNat (kk - cap))), (.int (Int32.ofNat cap))])
  refine Go.st (fun tT kT => XS.iconst X3.here hx rfl (hb hby d34_22) kT) ?_
  refine Go.st (fun tT kT => XS.aloadN X3.here hx rfl (hb hby d34_23) rfl rfl  kT) ?_
  show Go _ _ _ _ _ _ _  T3 (mkF m 24 #[.val (.ref a1), .val (.int (Int32.ofNat kk)), .val (.int (Int32.ofNat cap)), .val (.int (Int32.ofNat kk)), .val (.int (Int32.ofNat (kk - cap))), .unset] [(.ref a1), (.int (2 : Int32)), (.int (Int32.ofNat cap)), (.int (Int32.ofNat (kk - cap))), (.int (Int32.ofNat cap))])
  obtain ⟨T4, X4, e4, st4⟩ := getF X3 hx hZ hown (host := "") (Or.inl (hwi hw 56 rfl)) Via.refl e3 C_a1 (g := (mkF m 24 #[.val (.ref a1), .val (.int (Int32.ofNat kk)), .val (.int (Int32.ofNat cap)), .val (.int (Int32.ofNat kk)), .val (.int (Int32.ofNat (kk - cap))), .unset] [(.ref a1), (.int (2 : Int32)), (.int (Int32.ofNat cap)), (.int (Int32.ofNat (kk - cap))), (.int (Int32.ofNat cap))])) rfl rfl (hb hby d34_24)
  refine Go.st st4 ?_
  show Go _ _ _ _ _ _ _  T4 (mkF m 27 #[.val (.ref a1), .val (.int (Int32.ofNat kk)), .val (.int (Int32.ofNat cap)), .val (.int (Int32.ofNat kk)), .val (.int (Int32.ofNat (kk - cap))), .unset] [(.int (0 : Int32)), (.int (2 : Int32)), (.int (Int32.ofNat cap)), (.int (Int32.ofNat (kk - cap))), (.int (Int32.ofNat cap))])
  refine Go.st (fun tT kT => XS.ishl X4.here hx rfl (hb hby d34_27) rfl kT) ?_
  show Go _ _ _ _ _ _ _  T4 (mkF m 28 #[.val (.ref a1), .val (.int (Int32.ofNat kk)), .val (.int (Int32.ofNat cap)), .val (.int (Int32.ofNat kk)), .val (.int (Int32.ofNat (kk - cap))), .unset] [(.int ((2 : Int32) <<< ((0 : Int32) &&& 31))), (.int (Int32.ofNat cap)), (.int (Int32.ofNat (kk - cap))), (.int (Int32.ofNat cap))])
  rw [own_shl0]
  refine Go.st (fun tT kT => XS.iadd X4.here hx rfl (hb hby d34_28) rfl kT) ?_
  show Go _ _ _ _ _ _ _  T4 (mkF m 29 #[.val (.ref a1), .val (.int (Int32.ofNat kk)), .val (.int (Int32.ofNat cap)), .val (.int (Int32.ofNat kk)), .val (.int (Int32.ofNat (kk - cap))), .unset] [(.int ((Int32.ofNat cap) + (2 : Int32))), (.int (Int32.ofNat (kk - cap))), (.int (Int32.ofNat cap))])
  rw [own_oadd2]
  show Go _ _ _ _ _ _ _  T4 (mkF m 29 #[.val (.ref a1), .val (.int (Int32.ofNat kk)), .val (.int (Int32.ofNat cap)), .val (.int (Int32.ofNat kk)), .val (.int (Int32.ofNat (kk - cap))), .unset] [(.int (Int32.ofNat (cap + 2))), (.int (Int32.ofNat (kk - cap))), (.int (Int32.ofNat cap))])
  refine Go.pureS (w := (some (.int (Int32.ofNat (cap + max (kk - cap) (cap + 2)))))) (rest := []) (pc' := 32) (Jvm.LawKit.callS X4 hx (y := (⟨"jdk/internal/util/ArraysSupport", "newLength", "(III)I"⟩ : MethodName)) hown (mvT hZ (hwi hw 212 rfl)) (mvT hZ (hwi hw 213 rfl)) (mvT hZ (hwi hw 214 rfl)) (mvT hZ (hwi hw 215 rfl)) (by decide) (backOf (W := 0) (rmNL l Z a0 hw [] cap (kk - cap) (cap + 2) h0 n0 O (by omega) (by omega) (by omega) (by omega)) hZ (hwi hw 215 rfl) (hwi hw 214 rfl) (by decide) (by decide)) (g := (mkF m 29 #[.val (.ref a1), .val (.int (Int32.ofNat kk)), .val (.int (Int32.ofNat cap)), .val (.int (Int32.ofNat kk)), .val (.int (Int32.ofNat (kk - cap))), .unset] [(.int (Int32.ofNat (cap + 2))), (.int (Int32.ofNat (kk - cap))), (.int (Int32.ofNat cap))])) rfl (by rw [hml]; rfl) (argsL := [(.int (Int32.ofNat cap)), (.int (Int32.ofNat (kk - cap))), (.int (Int32.ofNat (cap + 2)))]) (rest := []) (lenOf pd__III_I rfl) rfl (by show 2 * 0 + _ ≤ _; exact Nat.le_of_eq rfl) (hb hby d34_29) (fun _ _ => ⟨rfl, e4, (by decide : 0 + 0 ≤ _), (by decide : 0 + 0 ≤ _)⟩)) (fun _ _ _ q => q) N0 (fun T5 L5 X5 e5q N5 => ?_)
  show Go _ _ _ _ _ _ _  T5 (mkF m 32 #[.val (.ref a1), .val (.int (Int32.ofNat kk)), .val (.int (Int32.ofNat cap)), .val (.int (Int32.ofNat kk)), .val (.int (Int32.ofNat (kk - cap))), .unset] [(.int (Int32.ofNat (cap + max (kk - cap) (cap + 2))))])
  refine Go.st (fun tT kT => XS.istore X5.here hx rfl (hb hby d34_32) rfl (l' := #[.val (.ref a1), .val (.int (Int32.ofNat kk)), .val (.int (Int32.ofNat cap)), .val (.int (Int32.ofNat kk)), .val (.int (Int32.ofNat (kk - cap))), .val (.int (Int32.ofNat (cap + max (kk - cap) (cap + 2))))]) rfl kT) ?_
  refine Go.st (fun tT kT => XS.iload X5.here hx rfl (hb hby d34_34) rfl  kT) ?_
  show Go _ _ _ _ _ _ _  T5 (mkF m 36 #[.val (.ref a1), .val (.int (Int32.ofNat kk)), .val (.int (Int32.ofNat cap)), .val (.int (Int32.ofNat kk)), .val (.int (Int32.ofNat (kk - cap))), .val (.int (Int32.ofNat (cap + max (kk - cap) (cap + 2))))] [(.int (Int32.ofNat (cap + max (kk - cap) (cap + 2))))])
  refine Go.st (X5.ldcInt hx hown (mvT hZ (hwi hw 220 rfl)) (g := (mkF m 36 #[.val (.ref a1), .val (.int (Int32.ofNat kk)), .val (.int (Int32.ofNat cap)), .val (.int (Int32.ofNat kk)), .val (.int (Int32.ofNat (kk - cap))), .val (.int (Int32.ofNat (cap + max (kk - cap) (cap + 2))))] [(.int (Int32.ofNat (cap + max (kk - cap) (cap + 2))))])) rfl (hb hby d34_36)) ?_
  show Go _ _ _ _ _ _ _  T5 (mkF m 38 #[.val (.ref a1), .val (.int (Int32.ofNat kk)), .val (.int (Int32.ofNat cap)), .val (.int (Int32.ofNat kk)), .val (.int (Int32.ofNat (kk - cap))), .val (.int (Int32.ofNat (cap + max (kk - cap) (cap + 2))))] [(.int (2147483647 : Int32)), (.int (Int32.ofNat (cap + max (kk - cap) (cap + 2))))])
  refine Go.st (fun tT kT => XS.icmpYes X5.here hx rfl (pc0 := 38) (pc' := 51) rfl (hb hby d34_38) rfl (feq (own_onmax (by omega) : ¬ ((Int32.ofNat (cap + max (kk - cap) (cap + 2))) = (2147483647 : Int32)))).2 (by decide) (by decide) kT) ?_
  show Go _ _ _ _ _ _ _  T5 (mkF m 51 #[.val (.ref a1), .val (.int (Int32.ofNat kk)), .val (.int (Int32.ofNat cap)), .val (.int (Int32.ofNat kk)), .val (.int (Int32.ofNat (kk - cap))), .val (.int (Int32.ofNat (cap + max (kk - cap) (cap + 2))))] [])
  refine Go.st (fun tT kT => XS.iload X5.here hx rfl (hb hby d34_51) rfl  kT) ?_
  refine Go.st (fun tT kT => XS.aloadN X5.here hx rfl (hb hby d34_53) rfl rfl  kT) ?_
  show Go _ _ _ _ _ _ _  T5 (mkF m 54 #[.val (.ref a1), .val (.int (Int32.ofNat kk)), .val (.int (Int32.ofNat cap)), .val (.int (Int32.ofNat kk)), .val (.int (Int32.ofNat (kk - cap))), .val (.int (Int32.ofNat (cap + max (kk - cap) (cap + 2))))] [(.ref a1), (.int (Int32.ofNat (cap + max (kk - cap) (cap + 2))))])
  obtain ⟨T6, X6, e6, st6⟩ := getF X5 hx hZ hown (host := "") (Or.inl (hwi hw 56 rfl)) Via.refl e5q C_a1 (g := (mkF m 54 #[.val (.ref a1), .val (.int (Int32.ofNat kk)), .val (.int (Int32.ofNat cap)), .val (.int (Int32.ofNat kk)), .val (.int (Int32.ofNat (kk - cap))), .val (.int (Int32.ofNat (cap + max (kk - cap) (cap + 2))))] [(.ref a1), (.int (Int32.ofNat (cap + max (kk - cap) (cap + 2))))])) rfl rfl (hb hby d34_54)
  refine Go.st st6 ?_
  show Go _ _ _ _ _ _ _  T6 (mkF m 57 #[.val (.ref a1), .val (.int (Int32.ofNat kk)), .val (.int (Int32.ofNat cap)), .val (.int (Int32.ofNat kk)), .val (.int (Int32.ofNat (kk - cap))), .val (.int (Int32.ofNat (cap + max (kk - cap) (cap + 2))))] [(.int (0 : Int32)), (.int (Int32.ofNat (cap + max (kk - cap) (cap + 2))))])
  refine Go.st (fun tT kT => XS.ishr X6.here hx rfl (hb hby d34_57) rfl kT) ?_
  show Go _ _ _ _ _ _ _  T6 (mkF m 58 #[.val (.ref a1), .val (.int (Int32.ofNat kk)), .val (.int (Int32.ofNat cap)), .val (.int (Int32.ofNat kk)), .val (.int (Int32.ofNat (kk - cap))), .val (.int (Int32.ofNat (cap + max (kk - cap) (cap + 2))))] [(.int ((Int32.ofNat (cap + max (kk - cap) (cap + 2))) >>> ((0 : Int32) &&& 31)))])
  rw [own_shr0]
  show Go _ _ _ _ _ _ _  T6 (mkF m 58 #[.val (.ref a1), .val (.int (Int32.ofNat kk)), .val (.int (Int32.ofNat cap)), .val (.int (Int32.ofNat kk)), .val (.int (Int32.ofNat (kk - cap))), .val (.int (Int32.ofNat (cap + max (kk - cap) (cap + 2))))] [(.int (Int32.ofNat (cap + max (kk - cap) (cap + 2))))])
  refine Go.retI X6 hlk hx Bd.returns (hb hby d34_58) (by decide) (by decide) ?_
  show Q_rmNC Z _ _ _ _ _ _ _ h0 n0 _ T6.heap _
  rw [e6]
  exact ⟨rfl, N5, rfl⟩
def Q_rmCO (Z : State) (a1 : Addr) (N : Nat) (kd : ClassId) (cap : Nat) (bs : List Value) (h0 : Heap) (n0 : Nat) (v : Option Value) (h : Heap) (L : List Loc) : Prop := ∃ (b : Addr) (kb : ClassId), v = some (.ref b) ∧ Fr n0 L ∧ Ext h0 h ∧ h0.size ≤ b ∧ Arv Z h b kb .byte (Int32.ofNat N) bs (.int 0)
set_option maxRecDepth 65536 in
set_option maxHeartbeats 40000000 in
theorem rmCO (l : Launch) (Z : State) (a0 : Array Value) (hw : ∀ d ∈ tables_1, d.before a0 Z = true) (ws : List Jvm.Cond) (a1 : Addr) (N : Nat) (kd : ClassId) (cap : Nat) (bs : List Value) (h0 : Heap) (n0 : Nat) (O : Old Z n0 h0) (A_a1 : Arv Z h0 a1 kd .byte (Int32.ofNat cap) bs (.int 0)) (hbs : bs.length ≤ cap) (hN1 : cap ≤ N) (hN2 : N ≠ cap) (hN3 : N ≤ 64) :
    MetFree l (⟨"java/util/Arrays", "copyOf", "([BI)[B"⟩ : MethodName) (head1 (Jvm.Cond.code (⟨"java/util/Arrays", "copyOf", "([BI)[B"⟩ : MethodName) jdk_65_method_121_code 3 (some (.array .byte)) :: ws) ({ frames := 1, cells := 1, slots := 64, locals := 18 } : Room)) (fun a U => a = #[(.ref a1), (.int (Int32.ofNat N))] ∧ Z.Warmed39 U.vm ∧ U.heap = h0) (fun _ _ _ _ _ => True) (fun _ U o U' => ∃ v L, o = .returned v ∧ Q_rmCO Z a1 N kd cap bs h0 n0 v U'.heap L ∧ FrameEnd U o U' L ({ frames := 1, cells := 1, slots := 64, locals := 18 } : Room).cells ({ frames := 1, cells := 1, slots := 64, locals := 18 } : Room).slots) := by
  refine MetFree.of_bodySF (plainFor_of_name pn_37) hisR ?_
  intro p e s m args below meth c s₁ Bd hml0 hP hK
  obtain ⟨rfl, hZ, hh⟩ := hP
  have hx := Bd.exec
  have hby := Bd.bytes
  have hml : c.maxLocals = 3 := hml0
  have hown : s.vm.findClass "java/util/Arrays" = some m.cls := findClass_of_methodNamed Bd.named
  have hnm := (name_of_methodNamed Bd.named Bd.method).1
  have hlk : meth.locks = false := BodyLoose.notSynchronized Bd
  have X0 : Stand p l e ({ frames := 1, cells := 1, slots := 64, locals := 18 } : Room) s m #[(.ref a1), (.int (Int32.ofNat N))] below meth c s₁ [] 0 0 := Stand.of_body Bd
  have e0 : s₁.heap = h0 := by rw [← hh, Bd.state]; rfl
  have N0 := Fr.nil n0
  have KK : Keep h0 h0 [] := Keep.refl h0 _
  show Go p e below s ({ frames := 1, cells := 1, slots := 64, locals := 18 } : Room).cells ({ frames := 1, cells := 1, slots := 64, locals := 18 } : Room).slots (Q_rmCO Z a1 N kd cap bs h0 n0) s₁ (entryFrame m #[(.ref a1), (.int (Int32.ofNat N))] 3)
  refine Go.eq (ef_rmCO m a1 (Int32.ofNat N)) ?_
  show Go _ _ _ _ _ _ _  s₁ (mkF m 0 #[.val (.ref a1), .val (.int (Int32.ofNat N)), .unset] [])
  refine Go.st (fun tT kT => XS.iloadN X0.here hx rfl (hb hby d37_0) rfl  kT) ?_
  refine Go.st (fun tT kT => XS.aloadN X0.here hx rfl (hb hby d37_1) rfl rfl  kT) ?_
  show Go _ _ _ _ _ _ _  s₁ (mkF m 2 #[.val (.ref a1), .val (.int (Int32.ofNat N)), .unset] [(.ref a1), (.int (Int32.ofNat N))])
  obtain ⟨cl1, Ar1, q1, S1, M1, Hh1, G1⟩ := id A_a1
  refine Go.st (X0.arraylength hx (by rw [e0]; exact Ar1.1) (State.isArrayOf_alike hZ.alike Ar1.2.1) (g := (mkF m 2 #[.val (.ref a1), .val (.int (Int32.ofNat N)), .unset] [(.ref a1), (.int (Int32.ofNat N))])) rfl rfl (hb hby d37_2)) ?_
  rw [len_of S1 M1]
  show Go _ _ _ _ _ _ _  s₁ (mkF m 3 #[.val (.ref a1), .val (.int (Int32.ofNat N)), .unset] [(.int (Int32.ofNat cap)), (.int (Int32.ofNat N))])
  refine Go.st (fun tT kT => XS.icmpYes X0.here hx rfl (pc0 := 3) (pc' := 14) rfl (hb hby d37_3) rfl (feq (fun q => hN2 ((own_oeq (by omega) (by omega)).mp q) : ¬ ((Int32.ofNat N) = (Int32.ofNat cap)))).2 (by decide) (by decide) kT) ?_
  show Go _ _ _ _ _ _ _  s₁ (mkF m 14 #[.val (.ref a1), .val (.int (Int32.ofNat N)), .unset] [])
  refine Go.st (fun tT kT => XS.iloadN X0.here hx rfl (hb hby d37_14) rfl  kT) ?_
  show Go _ _ _ _ _ _ _  s₁ (mkF m 15 #[.val (.ref a1), .val (.int (Int32.ofNat N)), .unset] [(.int (Int32.ofNat N))])
  obtain ⟨T2, h2, k2, X2, e2, E2, A2, st2⟩ := newP X0 hx hZ (hwi hw 27 rfl) e0 (g := (mkF m 15 #[.val (.ref a1), .val (.int (Int32.ofNat N)), .unset] [(.int (Int32.ofNat N))])) rfl (hb hby d37_15) rfl (own_onn (by omega)) (cap := 64) (by rw [own_ocl (by omega)]; omega) (by decide) (by decide) (by decide)
  obtain ⟨b2, g2⟩ : ∃ z, z = h0.size := ⟨_, rfl⟩
  rw [← g2] at A2 st2
  refine Go.st st2 ?_
  have g_b2 : n0 ≤ b2 := by rw [g2]; exact own_le O
  have sz_b2 : h0.size ≤ b2 := by rw [g2]; exact KK.1
  have ne_a1_b2 : a1 ≠ b2 := Nat.ne_of_lt (by rw [g2]; exact A_a1.lt)
  have A_a1 := A_a1.ext E2
  have O := O.ext E2
  have KK := KK.ext E2
  have V_b2 := Arv.new A2 (own_onn (by omega))
  show Go _ _ _ _ _ _ _  T2 (mkF m 17 #[.val (.ref a1), .val (.int (Int32.ofNat N)), .unset] [(.ref b2)])
  refine Go.st (fun tT kT => XS.astoreN X2.here hx rfl (hb hby d37_17) rfl rfl (l' := #[.val (.ref a1), .val (.int (Int32.ofNat N)), .val (.ref b2)]) rfl kT) ?_
  refine Go.st (fun tT kT => XS.aloadN X2.here hx rfl (hb hby d37_18) rfl rfl  kT) ?_
  refine Go.st (fun tT kT => XS.iconst X2.here hx rfl (hb hby d37_19) kT) ?_
  show Go _ _ _ _ _ _ _  T2 (mkF m 20 #[.val (.ref a1), .val (.int (Int32.ofNat N)), .val (.ref b2)] [(.int (0 : Int32)), (.ref a1)])
  refine Go.st (fun tT kT => XS.aloadN X2.here hx rfl (hb hby d37_20) rfl rfl  kT) ?_
  refine Go.st (fun tT kT => XS.iconst X2.here hx rfl (hb hby d37_21) kT) ?_
  refine Go.st (fun tT kT => XS.aloadN X2.here hx rfl (hb hby d37_22) rfl rfl  kT) ?_
  show Go _ _ _ _ _ _ _  T2 (mkF m 23 #[.val (.ref a1), .val (.int (Int32.ofNat N)), .val (.ref b2)] [(.ref a1), (.int (0 : Int32)), (.ref b2), (.int (0 : Int32)), (.ref a1)])
  obtain ⟨cl3, Ar3, q3, S3, M3, Hh3, G3⟩ := id A_a1
  refine Go.st (X2.arraylength hx (by rw [e2]; exact Ar3.1) (State.isArrayOf_alike hZ.alike Ar3.2.1) (g := (mkF m 23 #[.val (.ref a1), .val (.int (Int32.ofNat N)), .val (.ref b2)] [(.ref a1), (.int (0 : Int32)), (.ref b2), (.int (0 : Int32)), (.ref a1)])) rfl rfl (hb hby d37_23)) ?_
  rw [len_of S3 M3]
  show Go _ _ _ _ _ _ _  T2 (mkF m 24 #[.val (.ref a1), .val (.int (Int32.ofNat N)), .val (.ref b2)] [(.int (Int32.ofNat cap)), (.int (0 : Int32)), (.ref b2), (.int (0 : Int32)), (.ref a1)])
  refine Go.st (fun tT kT => XS.iloadN X2.here hx rfl (hb hby d37_24) rfl  kT) ?_
  show Go _ _ _ _ _ _ _  T2 (mkF m 25 #[.val (.ref a1), .val (.int (Int32.ofNat N)), .val (.ref b2)] [(.int (Int32.ofNat N)), (.int (Int32.ofNat cap)), (.int (0 : Int32)), (.ref b2), (.int (0 : Int32)), (.ref a1)])
  refine Go.pureS (w := (some (.int (Int32.ofNat (min cap N))))) (rest := [(.int (0 : Int32)), (.ref b2), (.int (0 : Int32)), (.ref a1)]) (pc' := 28) (Jvm.LawKit.callS X2 hx (y := (⟨"java/lang/Math", "min", "(II)I"⟩ : MethodName)) hown (mvT hZ (hwi hw 173 rfl)) (mvT hZ (hwi hw 174 rfl)) (mvT hZ (hwi hw 175 rfl)) (mvT hZ (hwi hw 176 rfl)) (by decide) (backOf (W := 4) (rmMin l Z a0 hw [] cap N h2 n0 O (by omega) (by omega)) hZ (hwi hw 176 rfl) (hwi hw 175 rfl) (by decide) (by decide)) (g := (mkF m 25 #[.val (.ref a1), .val (.int (Int32.ofNat N)), .val (.ref b2)] [(.int (Int32.ofNat N)), (.int (Int32.ofNat cap)), (.int (0 : Int32)), (.ref b2), (.int (0 : Int32)), (.ref a1)])) rfl (by rw [hml]; rfl) (argsL := [(.int (Int32.ofNat cap)), (.int (Int32.ofNat N))]) (rest := [(.int (0 : Int32)), (.ref b2), (.int (0 : Int32)), (.ref a1)]) (lenOf pd__II_I rfl) rfl (by show 2 * 0 + _ ≤ _; exact Nat.le_of_eq rfl) (hb hby d37_25) (fun _ _ => ⟨rfl, e2, (by decide : 1 + 0 ≤ _), (by decide : 64 + 0 ≤ _)⟩)) (fun _ _ _ q => q) N0 (fun T4 L4 X4 e4q N4 => ?_)
  rw [Nat.min_eq_left hN1]
  show Go _ _ _ _ _ _ _  T4 (mkF m 28 #[.val (.ref a1), .val (.int (Int32.ofNat N)), .val (.ref b2)] [(.int (Int32.ofNat cap)), (.int (0 : Int32)), (.ref b2), (.int (0 : Int32)), (.ref a1)])
  obtain ⟨T5, h5, L5, X5, e5, N5, K5, V5, st5⟩ := cpA X4 hx hZ hown (hwi hw 177 rfl) (hwi hw 134 rfl) (hwi hw 132 rfl) (hwi hw 133 rfl) e4q A_a1 (V_b2.pad (pad_rep [] (.int 0) cap)) (Or.inl ⟨rfl, rfl⟩) (by decide) (by decide) (own_onn (by omega)) (by rw [own_ocl (by omega)]; exact Nat.le_of_eq (Nat.zero_add _)) (by rw [own_ocl (by omega), own_ocl (by omega)]; exact Nat.le_trans (Nat.le_of_eq (Nat.zero_add _)) hN1) (us := (List.range cap).map fun i => bs.getD (0 + i) (.int 0)) (by rw [own_ocl (by omega)]; rfl) (by rw [own_ocl (by omega)]; simp) N4 g_b2 (g := (mkF m 28 #[.val (.ref a1), .val (.int (Int32.ofNat N)), .val (.ref b2)] [(.int (Int32.ofNat cap)), (.int (0 : Int32)), (.ref b2), (.int (0 : Int32)), (.ref a1)])) rfl (by rw [hml]; rfl) rfl (hb hby d37_28) (by decide) (W := 0) (by show 2 * 0 + _ ≤ _; exact Nat.le_of_eq rfl) (by decide)
  refine Go.st st5 ?_
  have V5 := V5.pad (by rw [own_ocl (by omega)]; exact own_cp (bs := []) (d := 0) rfl hbs)
  have A_a1 := A_a1.keep K5 (ninS ne_a1_b2 nin0)
  have O := O.keep K5 (allS g_b2 all0)
  have KK := KK.trans K5 (allS (Or.inr sz_b2) all0)
  have V_b2 := V5
  show Go _ _ _ _ _ _ _  T5 (mkF m 31 #[.val (.ref a1), .val (.int (Int32.ofNat N)), .val (.ref b2)] [])
  refine Go.st (fun tT kT => XS.aloadN X5.here hx rfl (hb hby d37_31) rfl rfl  kT) ?_
  show Go _ _ _ _ _ _ _  T5 (mkF m 32 #[.val (.ref a1), .val (.int (Int32.ofNat N)), .val (.ref b2)] [(.ref b2)])
  refine Go.retR X5 hlk hx Bd.returns rfl rfl rfl (hb hby d37_32) (by decide) (by decide) ?_
  show Q_rmCO Z _ _ _ _ _ h0 n0 _ T5.heap _
  rw [e5]
  exact ⟨_, _, rfl, N5, own_ext0 KK, sz_b2, V_b2⟩
def Q_rmE0 (Z : State) (a1 : Addr) (kk : Nat) (t : Addr) (kd : ClassId) (n : Nat) (cap : Nat) (bs : List Value) (h0 : Heap) (n0 : Nat) (v : Option Value) (h : Heap) (L : List Loc) : Prop := v = none ∧ Fr n0 L ∧ h = h0
set_option maxRecDepth 65536 in
set_option maxHeartbeats 40000000 in
theorem rmE0 (l : Launch) (Z : State) (a0 : Array Value) (hw : ∀ d ∈ tables_1, d.before a0 Z = true) (ws : List Jvm.Cond) (a1 : Addr) (kk : Nat) (t : Addr) (kd : ClassId) (n : Nat) (cap : Nat) (bs : List Value) (h0 : Heap) (n0 : Nat) (O : Old Z n0 h0) (E_a1 : Exa Z h0 a1 "java/lang/StringBuilder") (C_a1 : Fld Z h0 a1 "java/lang/AbstractStringBuilder" "coder" "B" (.int 0)) (V_a1 : Fld Z h0 a1 "java/lang/AbstractStringBuilder" "value" "[B" (.ref t)) (N_a1 : Fld Z h0 a1 "java/lang/AbstractStringBuilder" "count" "I" (.int (Int32.ofNat n))) (A_t : Arv Z h0 t kd .byte (Int32.ofNat cap) bs (.int 0)) (L_a1 : bs.length = n) (K_a1 : n ≤ cap) (B_a1 : cap < 100000) (g_a1 : n0 ≤ a1) (g_t : n0 ≤ t) (hk1 : kk ≤ cap) :
    MetFree l (⟨"java/lang/AbstractStringBuilder", "ensureCapacityInternal", "(I)V"⟩ : MethodName) (head1 (Jvm.Cond.code (⟨"java/lang/AbstractStringBuilder", "ensureCapacityInternal", "(I)V"⟩ : MethodName) jdk_68_method_9_code 3 none :: ws) ({ frames := 0, cells := 0, slots := 0, locals := 0 } : Room)) (fun a U => a = #[(.ref a1), (.int (Int32.ofNat kk))] ∧ Z.Warmed39 U.vm ∧ U.heap = h0) (fun _ _ _ _ _ => True) (fun _ U o U' => ∃ v L, o = .returned v ∧ Q_rmE0 Z a1 kk t kd n cap bs h0 n0 v U'.heap L ∧ FrameEnd U o U' L ({ frames := 0, cells := 0, slots := 0, locals := 0 } : Room).cells ({ frames := 0, cells := 0, slots := 0, locals := 0 } : Room).slots) := by
  refine MetFree.of_bodySF (plainFor_of_name pn_8) hisR ?_
  intro p e s m args below meth c s₁ Bd hml0 hP hK
  obtain ⟨rfl, hZ, hh⟩ := hP
  have hx := Bd.exec
  have hby := Bd.bytes
  have hml : c.maxLocals = 3 := hml0
  have hown : s.vm.findClass "java/lang/AbstractStringBuilder" = some m.cls := findClass_of_methodNamed Bd.named
  have hnm := (name_of_methodNamed Bd.named Bd.method).1
  have hlk : meth.locks = false := BodyLoose.notSynchronized Bd
  have X0 : Stand p l e ({ frames := 0, cells := 0, slots := 0, locals := 0 } : Room) s m #[(.ref a1), (.int (Int32.ofNat kk))] below meth c s₁ [] 0 0 := Stand.of_body Bd
  have e0 : s₁.heap = h0 := by rw [← hh, Bd.state]; rfl
  have N0 := Fr.nil n0
  show Go p e below s ({ frames := 0, cells := 0, slots := 0, locals := 0 } : Room).cells ({ frames := 0, cells := 0, slots := 0, locals := 0 } : Room).slots (Q_rmE0 Z a1 kk t kd n cap bs h0 n0) s₁ (entryFrame m #[(.ref a1), (.int (Int32.ofNat kk))] 3)
  refine Go.eq (ef_rmE0 m a1 (Int32.ofNat kk)) ?_
  show Go _ _ _ _ _ _ _  s₁ (mkF m 0 #[.val (.ref a1), .val (.int (Int32.ofNat kk)), .unset] [])
  refine Go.st (fun tT kT => XS.aloadN X0.here hx rfl (hb hby d8_0) rfl rfl  kT) ?_
  show Go _ _ _ _ _ _ _  s₁ (mkF m 1 #[.val (.ref a1), .val (.int (Int32.ofNat kk)), .unset] [(.ref a1)])
  obtain ⟨T1, X1, e1, st1⟩ := getF X0 hx hZ hown (host := "") (Or.inl (hwi hw 54 rfl)) Via.refl e0 V_a1 (g := (mkF m 1 #[.val (.ref a1), .val (.int (Int32.ofNat kk)), .unset] [(.ref a1)])) rfl rfl (hb hby d8_1)
  refine Go.st st1 ?_
  show Go _ _ _ _ _ _ _  T1 (mkF m 4 #[.val (.ref a1), .val (.int (Int32.ofNat kk)), .unset] [(.ref t)])
  obtain ⟨cl2, Ar2, q2, S2, M2, Hh2, G2⟩ := id A_t
  refine Go.st (X1.arraylength hx (by rw [e1]; exact Ar2.1) (State.isArrayOf_alike hZ.alike Ar2.2.1) (g := (mkF m 4 #[.val (.ref a1), .val (.int (Int32.ofNat kk)), .unset] [(.ref t)])) rfl rfl (hb hby d8_4)) ?_
  rw [len_of S2 M2]
  show Go _ _ _ _ _ _ _  T1 (mkF m 5 #[.val (.ref a1), .val (.int (Int32.ofNat kk)), .unset] [(.int (Int32.ofNat cap))])
  refine Go.st (fun tT kT => XS.aloadN X1.here hx rfl (hb hby d8_5) rfl rfl  kT) ?_
  show Go _ _ _ _ _ _ _  T1 (mkF m 6 #[.val (.ref a1), .val (.int (Int32.ofNat kk)), .unset] [(.ref a1), (.int (Int32.ofNat cap))])
  obtain ⟨T3, X3, e3, st3⟩ := getF X1 hx hZ hown (host := "") (Or.inl (hwi hw 56 rfl)) Via.refl e1 C_a1 (g := (mkF m 6 #[.val (.ref a1), .val (.int (Int32.ofNat kk)), .unset] [(.ref a1), (.int (Int32.ofNat cap))])) rfl rfl (hb hby d8_6)
  refine Go.st st3 ?_
  show Go _ _ _ _ _ _ _  T3 (mkF m 9 #[.val (.ref a1), .val (.int (Int32.ofNat kk)), .unset] [(.int (0 : Int32)), (.int (Int32.ofNat cap))])
  refine Go.st (fun tT kT => XS.ishr X3.here hx rfl (hb hby d8_9) rfl kT) ?_
  show Go _ _ _ _ _ _ _  T3 (mkF m 10 #[.val (.ref a1), .val (.int (Int32.ofNat kk)), .unset] [(.int ((Int32.ofNat cap) >>> ((0 : Int32) &&& 31)))])
  rw [own_shr0]
  refine Go.st (fun tT kT => XS.istoreN X3.here hx rfl (hb hby d8_10) rfl (l' := #[.val (.ref a1), .val (.int (Int32.ofNat kk)), .val (.int (Int32.ofNat cap))]) rfl kT) ?_
  refine Go.st (fun tT kT => XS.iloadN X3.here hx rfl (hb hby d8_11) rfl  kT) ?_
  show Go _ _ _ _ _ _ _  T3 (mkF m 12 #[.val (.ref a1), .val (.int (Int32.ofNat kk)), .val (.int (Int32.ofNat cap))] [(.int (Int32.ofNat kk))])
  refine Go.st (fun tT kT => XS.iloadN X3.here hx rfl (hb hby d8_12) rfl  kT) ?_
  refine Go.st (fun tT kT => XS.isub X3.here hx rfl (hb hby d8_13) rfl kT) ?_
  show Go _ _ _ _ _ _ _  T3 (mkF m 14 #[.val (.ref a1), .val (.int (Int32.ofNat kk)), .val (.int (Int32.ofNat cap))] [(.int ((Int32.ofNat kk) - (Int32.ofNat cap)))])
  refine Go.st (fun tT kT => XS.ifYes X3.here hx rfl (pc0 := 14) (pc' := 38) rfl (hb hby d8_14) rfl ((if0 _ _).trans (flt (own_le0 hk1 (by omega) : ¬ ((0 : Int32) < ((Int32.ofNat kk) - (Int32.ofNat cap))))).2.2.2) (by decide) (by decide) kT) ?_
  show Go _ _ _ _ _ _ _  T3 (mkF m 38 #[.val (.ref a1), .val (.int (Int32.ofNat kk)), .val (.int (Int32.ofNat cap))] [])
  refine Go.ret0 X3 hlk hx Bd.returns (hb hby d8_38) (by decide) (by decide) ?_
  show Q_rmE0 Z _ _ _ _ _ _ _ h0 n0 _ T3.heap _
  rw [e3]
  exact ⟨rfl, N0, rfl⟩
def Q_rmE1 (Z : State) (a1 : Addr) (kk : Nat) (t : Addr) (kd : ClassId) (n : Nat) (cap : Nat) (bs : List Value) (h0 : Heap) (n0 : Nat) (v : Option Value) (h : Heap) (L : List Loc) : Prop := v = none ∧ Fr n0 L ∧ Keep h0 h [a1] ∧ Exa Z h a1 "java/lang/StringBuilder" ∧ Fld Z h a1 "java/lang/AbstractStringBuilder" "coder" "B" (.int 0) ∧ Fld Z h a1 "java/lang/AbstractStringBuilder" "count" "I" (.int (Int32.ofNat n)) ∧ ∃ (b : Addr) (kb : ClassId), h0.size ≤ b ∧ Fld Z h a1 "java/lang/AbstractStringBuilder" "value" "[B" (.ref b) ∧ Arv Z h b kb .byte (Int32.ofNat (cap + max (kk - cap) (cap + 2))) bs (.int 0)
set_option maxRecDepth 65536 in
set_option maxHeartbeats 40000000 in
theorem rmE1 (l : Launch) (Z : State) (a0 : Array Value) (hw : ∀ d ∈ tables_1, d.before a0 Z = true) (ws : List Jvm.Cond) (a1 : Addr) (kk : Nat) (t : Addr) (kd : ClassId) (n : Nat) (cap : Nat) (bs : List Value) (h0 : Heap) (n0 : Nat) (O : Old Z n0 h0) (E_a1 : Exa Z h0 a1 "java/lang/StringBuilder") (C_a1 : Fld Z h0 a1 "java/lang/AbstractStringBuilder" "coder" "B" (.int 0)) (V_a1 : Fld Z h0 a1 "java/lang/AbstractStringBuilder" "value" "[B" (.ref t)) (N_a1 : Fld Z h0 a1 "java/lang/AbstractStringBuilder" "count" "I" (.int (Int32.ofNat n))) (A_t : Arv Z h0 t kd .byte (Int32.ofNat cap) bs (.int 0)) (L_a1 : bs.length = n) (K_a1 : n ≤ cap) (B_a1 : cap < 100000) (g_a1 : n0 ≤ a1) (g_t : n0 ≤ t) (hk1 : cap < kk) (hk2 : kk < 200000) (hk3 : (cap + max (kk - cap) (cap + 2)) ≤ 64) :
    MetFree l (⟨"java/lang/AbstractStringBuilder", "ensureCapacityInternal", "(I)V"⟩ : MethodName) (head1 (Jvm.Cond.code (⟨"java/lang/AbstractStringBuilder", "ensureCapacityInternal", "(I)V"⟩ : MethodName) jdk_68_method_9_code 3 none :: ws) ({ frames := 3, cells := 1, slots := 64, locals := 48 } : Room)) (fun a U => a = #[(.ref a1), (.int (Int32.ofNat kk))] ∧ Z.Warmed39 U.vm ∧ U.heap = h0) (fun _ _ _ _ _ => True) (fun _ U o U' => ∃ v L, o = .returned v ∧ Q_rmE1 Z a1 kk t kd n cap bs h0 n0 v U'.heap L ∧ FrameEnd U o U' L ({ frames := 3, cells := 1, slots := 64, locals := 48 } : Room).cells ({ frames := 3, cells := 1, slots := 64, locals := 48 } : Room).slots) := by
  refine MetFree.of_bodySF (plainFor_of_name pn_8) hisR ?_
  intro p e s m args below meth c s₁ Bd hml0 hP hK
  obtain ⟨rfl, hZ, hh⟩ := hP
  have hx := Bd.exec
  have hby := Bd.bytes
  have hml : c.maxLocals = 3 := hml0
  have hown : s.vm.findClass "java/lang/AbstractStringBuilder" = some m.cls := findClass_of_methodNamed Bd.named
  have hnm := (name_of_methodNamed Bd.named Bd.method).1
  have hlk : meth.locks = false := BodyLoose.notSynchronized Bd
  have X0 : Stand p l e ({ frames := 3, cells := 1, slots := 64, locals := 48 } : Room) s m #[(.ref a1), (.int (Int32.ofNat kk))] below meth c s₁ [] 0 0 := Stand.of_body Bd
  have e0 : s₁.heap = h0 := by rw [← hh, Bd.state]; rfl
  have N0 := Fr.nil n0
  have KK : Keep h0 h0 [a1] := Keep.refl h0 _
  show Go p e below s ({ frames := 3, cells := 1, slots := 64, locals := 48 } : Room).cells ({ frames := 3, cells := 1, slots := 64, locals := 48 } : Room).slots (Q_rmE1 Z a1 kk t kd n cap bs h0 n0) s₁ (entryFrame m #[(.ref a1), (.int (Int32.ofNat kk))] 3)
  refine Go.eq (ef_rmE1 m a1 (Int32.ofNat kk)) ?_
  show Go _ _ _ _ _ _ _  s₁ (mkF m 0 #[.val (.ref a1), .val (.int (Int32.ofNat kk)), .unset] [])
  refine Go.st (fun tT kT => XS.aloadN X0.here hx rfl (hb hby d8_0) rfl rfl  kT) ?_
  show Go _ _ _ _ _ _ _  s₁ (mkF m 1 #[.val (.ref a1), .val (.int (Int32.ofNat kk)), .unset] [(.ref a1)])
  obtain ⟨T1, X1, e1, st1⟩ := getF X0 hx hZ hown (host := "") (Or.inl (hwi hw 54 rfl)) Via.refl e0 V_a1 (g := (mkF m 1 #[.val (.ref a1), .val (.int (Int32.ofNat kk)), .unset] [(.ref a1)])) rfl rfl (hb hby d8_1)
  refine Go.st st1 ?_
  show Go _ _ _ _ _ _ _  T1 (mkF m 4 #[.val (.ref a1), .val (.int (Int32.ofNat kk)), .unset] [(.ref t)])
  obtain ⟨cl2, Ar2, q2, S2, M2, Hh2, G2⟩ := id A_t
  refine Go.st (X1.arraylength hx (by rw [e1]; exact Ar2.1) (State.isArrayOf_alike hZ.alike Ar2.2.1) (g := (mkF m 4 #[.val (.ref a1), .val (.int (Int32.ofNat kk)), .unset] [(.ref t)])) rfl rfl (hb hby d8_4)) ?_
  rw [len_of S2 M2]
  show Go _ _ _ _ _ _ _  T1 (mkF m 5 #[.val (.ref a1), .val (.int (Int32.ofNat kk)), .unset] [(.int (Int32.ofNat cap))])
  refine Go.st (fun tT kT => XS.aloadN X1.here hx rfl (hb hby d8_5) rfl rfl  kT) ?_
  show Go _ _ _ _ _ _ _  T1 (mkF m 6 #[.val (.ref a1), .val (.int (Int32.ofNat kk)), .unset] [(.ref a1), (.int (Int32.ofNat cap))])
  obtain ⟨T3, X3, e3, st3⟩ := getF X1 hx hZ hown (host := "") (Or.inl (hwi hw 56 rfl)) Via.refl e1 C_a1 (g := (mkF m 6 #[.val (.ref a1), .val (.int (Int32.ofNat kk)), .unset] [(.ref a1), (.int (Int32.ofNat cap))])) rfl rfl (hb hby d8_6)
  refine Go.st st3 ?_
  show Go _ _ _ _ _ _ _  T3 (mkF m 9 #[.val (.ref a1), .val (.int (Int32.ofNat kk)), .unset] [(.int (0 : Int32)), (.int (Int32.ofNat cap))])
  refine Go.st (fun tT kT => XS.ishr X3.here hx rfl (hb hby d8_9) rfl kT) ?_
  show Go _ _ _ _ _ _ _  T3 (mkF m 10 #[.val (.ref a1), .val (.int (Int32.ofNat kk)), .unset] [(.int ((Int32.ofNat cap) >>> ((0 : Int32) &&& 31)))])
  rw [own_shr0]
  refine Go.st (fun tT kT => XS.istoreN X3.here hx rfl (hb hby d8_10) rfl (l' := #[.val (.ref a1), .val (.int (Int32.ofNat kk)), .val (.int (Int32.ofNat cap))]) rfl kT) ?_
  refine Go.st (fun tT kT => XS.iloadN X3.here hx rfl (hb hby d8_11) rfl  kT) ?_
  show Go _ _ _ _ _ _ _  T3 (mkF m 12 #[.val (.ref a1), .val (.int (Int32.ofNat kk)), .val (.int (Int32.ofNat cap))] [(.int (Int32.ofNat kk))])
  refine Go.st (fun tT kT => XS.iloadN X3.here hx rfl (hb hby d8_12) rfl  kT) ?_
  refine Go.st (fun tT kT => XS.isub X3.here hx rfl (hb hby d8_13) rfl kT) ?_
  show Go _ _ _ _ _ _ _  T3 (mkF m 14 #[.val (.ref a1), .val (.int (Int32.ofNat kk)), .val (.int (Int32.ofNat cap))] [(.int ((Int32.ofNat kk) - (Int32.ofNat cap)))])
  refine Go.st (fun tT kT => XS.ifNo X3.here hx rfl (hb hby d8_14) rfl ((if0 _ _).trans (tlt (own_gt0 hk1 (by omega) : (0 : Int32) < ((Int32.ofNat kk) - (Int32.ofNat cap)))).2.2.2) kT) ?_
  show Go _ _ _ _ _ _ _  T3 (mkF m 17 #[.val (.ref a1), .val (.int (Int32.ofNat kk)), .val (.int (Int32.ofNat cap))] [])
  refine Go.st (fun tT kT => XS.aloadN X3.here hx rfl (hb hby d8_17) rfl rfl  kT) ?_
  refine Go.st (fun tT kT => XS.aloadN X3.here hx rfl (hb hby d8_18) rfl rfl  kT) ?_
  show Go _ _ _ _ _ _ _  T3 (mkF m 19 #[.val (.ref a1), .val (.int (Int32.ofNat kk)), .val (.int (Int32.ofNat cap))] [(.ref a1), (.ref a1)])
  obtain ⟨T4, X4, e4, st4⟩ := getF X3 hx hZ hown (host := "") (Or.inl (hwi hw 54 rfl)) Via.refl e3 V_a1 (g := (mkF m 19 #[.val (.ref a1), .val (.int (Int32.ofNat kk)), .val (.int (Int32.ofNat cap))] [(.ref a1), (.ref a1)])) rfl rfl (hb hby d8_19)
  refine Go.st st4 ?_
  show Go _ _ _ _ _ _ _  T4 (mkF m 22 #[.val (.ref a1), .val (.int (Int32.ofNat kk)), .val (.int (Int32.ofNat cap))] [(.ref t), (.ref a1)])
  refine Go.st (fun tT kT => XS.aloadN X4.here hx rfl (hb hby d8_22) rfl rfl  kT) ?_
  refine Go.st (fun tT kT => XS.iloadN X4.here hx rfl (hb hby d8_23) rfl  kT) ?_
  show Go _ _ _ _ _ _ _  T4 (mkF m 24 #[.val (.ref a1), .val (.int (Int32.ofNat kk)), .val (.int (Int32.ofNat cap))] [(.int (Int32.ofNat kk)), (.ref a1), (.ref t), (.ref a1)])
  obtain ⟨cq5, q5, q5'⟩ := Exa.cell E_a1
  refine Go.pure (w := (some (.int (Int32.ofNat (cap + max (kk - cap) (cap + 2)))))) (rest := [(.ref t), (.ref a1)]) (pc' := 27) (X4.privateBack hx (y := (⟨"java/lang/AbstractStringBuilder", "newCapacity", "(I)I"⟩ : MethodName)) hown (mvT hZ (hwi hw 207 rfl)) (mvT hZ (hwi hw 208 rfl)) (own_selfsel2 (mvT hZ (hwi hw 210 rfl)) (mvP hZ (hwi hw 209 rfl)) (mvT hZ (hwi hw 208 rfl)) (by decide)) (Cond.privateMethod_at (mvP hZ (hwi hw 209 rfl) (args := #[]))) (mvT hZ (hwi hw 211 rfl)) (by decide) (backOf (W := 2) (rmNC l Z a0 hw [] a1 kk t kd n cap bs h0 n0 O E_a1 C_a1 V_a1 N_a1 A_t L_a1 K_a1 B_a1 g_a1 g_t hk1 hk2) hZ (hwi hw 211 rfl) (hwi hw 48 rfl) (by decide) (by decide)) (g := (mkF m 24 #[.val (.ref a1), .val (.int (Int32.ofNat kk)), .val (.int (Int32.ofNat cap))] [(.int (Int32.ofNat kk)), (.ref a1), (.ref t), (.ref a1)])) rfl (by rw [hml]; rfl) (Steps.refl _) (a := a1) (by rw [e4]; exact q5) q5' (argsL := [(.int (Int32.ofNat kk))]) (rest := [(.ref t), (.ref a1)]) (lenOf pd__I_I rfl) rfl (by show 2 * 0 + _ ≤ _; exact Nat.le_of_eq rfl) (hb hby d8_24) (fun _ _ => ⟨rfl, e4, (by decide : 0 + 0 ≤ _), (by decide : 0 + 0 ≤ _)⟩)) (fun _ _ _ q => q) N0 (fun T5 L5 X5 e5q N5 => ?_)
  show Go _ _ _ _ _ _ _  T5 (mkF m 27 #[.val (.ref a1), .val (.int (Int32.ofNat kk)), .val (.int (Int32.ofNat cap))] [(.int (Int32.ofNat (cap + max (kk - cap) (cap + 2)))), (.ref t), (.ref a1)])
  refine Go.st (fun tT kT => XS.aloadN X5.here hx rfl (hb hby d8_27) rfl rfl  kT) ?_
  show Go _ _ _ _ _ _ _  T5 (mkF m 28 #[.val (.ref a1), .val (.int (Int32.ofNat kk)), .val (.int (Int32.ofNat cap))] [(.ref a1), (.int (Int32.ofNat (cap + max (kk - cap) (cap + 2)))), (.ref t), (.ref a1)])
  obtain ⟨T6, X6, e6, st6⟩ := getF X5 hx hZ hown (host := "") (Or.inl (hwi hw 56 rfl)) Via.refl e5q C_a1 (g := (mkF m 28 #[.val (.ref a1), .val (.int (Int32.ofNat kk)), .val (.int (Int32.ofNat cap))] [(.ref a1), (.int (Int32.ofNat (cap + max (kk - cap) (cap + 2)))), (.ref t), (.ref a1)])) rfl rfl (hb hby d8_28)
  refine Go.st st6 ?_
  show Go _ _ _ _ _ _ _  T6 (mkF m 31 #[.val (.ref a1), .val (.int (Int32.ofNat kk)), .val (.int (Int32.ofNat cap))] [(.int (0 : Int32)), (.int (Int32.ofNat (cap + max (kk - cap) (cap + 2)))), (.ref t), (.ref a1)])
  refine Go.st (fun tT kT => XS.ishl X6.here hx rfl (hb hby d8_31) rfl kT) ?_
  show Go _ _ _ _ _ _ _  T6 (mkF m 32 #[.val (.ref a1), .val (.int (Int32.ofNat kk)), .val (.int (Int32.ofNat cap))] [(.int ((Int32.ofNat (cap + max (kk - cap) (cap + 2))) <<< ((0 : Int32) &&& 31))), (.ref t), (.ref a1)])
  rw [own_shl0]
  show Go _ _ _ _ _ _ _  T6 (mkF m 32 #[.val (.ref a1), .val (.int (Int32.ofNat kk)), .val (.int (Int32.ofNat cap))] [(.int (Int32.ofNat (cap + max (kk - cap) (cap + 2)))), (.ref t), (.ref a1)])
  obtain ⟨_, _, ⟨T7, L7, k7, n7⟩, -, X7, ⟨Lc7, hQ7, l7, y7, z7⟩, st7⟩ := Jvm.LawKit.callS X6 hx (y := (⟨"java/util/Arrays", "copyOf", "([BI)[B"⟩ : MethodName)) hown (mvT hZ (hwi hw 221 rfl)) (mvT hZ (hwi hw 222 rfl)) (mvT hZ (hwi hw 165 rfl)) (mvT hZ (hwi hw 223 rfl)) (by decide) (backOf (W := 1) (rmCO l Z a0 hw [] t (cap + max (kk - cap) (cap + 2)) kd cap bs h0 n0 O A_t (by omega) (by omega) (by omega) hk3) hZ (hwi hw 223 rfl) (hwi hw 165 rfl) (by decide) (by decide)) (g := (mkF m 32 #[.val (.ref a1), .val (.int (Int32.ofNat kk)), .val (.int (Int32.ofNat cap))] [(.int (Int32.ofNat (cap + max (kk - cap) (cap + 2)))), (.ref t), (.ref a1)])) rfl (by rw [hml]; rfl) (argsL := [(.ref t), (.int (Int32.ofNat (cap + max (kk - cap) (cap + 2))))]) (rest := [(.ref a1)]) (lenOf pd___BI__B rfl) rfl (by show 2 * 0 + _ ≤ _; exact Nat.le_of_eq rfl) (hb hby d8_32) (fun _ _ => ⟨rfl, e6, (by decide : 0 + 1 ≤ _), (by decide : 0 + 64 ≤ _)⟩)
  dsimp only [Pt.U, Pt.locs, Pt.cells, Pt.slots] at X7 l7 y7 z7 st7 hQ7
  rw [l7, y7, z7] at X7
  have X7 : Stand p l e _ _ m _ below meth c T7 _ 1 64 := X7
  obtain ⟨t7, kt7, rfl, N7q, E7q, lt7, Vq7⟩ := hQ7
  have N7 := Fr.app N5 N7q
  refine Go.st st7 ?_
  have g_t7 : n0 ≤ t7 := Nat.le_trans (own_le O) lt7
  have sz_t7 : h0.size ≤ t7 := Nat.le_trans KK.1 lt7
  have ne_a1_t7 : a1 ≠ t7 := Nat.ne_of_lt (Nat.lt_of_lt_of_le E_a1.lt lt7)
  have ne_t_t7 : t ≠ t7 := Nat.ne_of_lt (Nat.lt_of_lt_of_le A_t.lt lt7)
  have E7 := E7q
  have E_a1 := E_a1.ext E7
  have A_t := A_t.ext E7
  have C_a1 := C_a1.ext E7
  have V_a1 := V_a1.ext E7
  have N_a1 := N_a1.ext E7
  have O := O.ext E7
  have KK := KK.ext E7
  show Go _ _ _ _ _ _ _  T7 (mkF m 35 #[.val (.ref a1), .val (.int (Int32.ofNat kk)), .val (.int (Int32.ofNat cap))] [(.ref t7), (.ref a1)])
  obtain ⟨T8, h8, X8, e8, W8, st8⟩ := putF X7 hx hZ hown (host := "") (Or.inl (hwi hw 54 rfl)) Via.refl rfl V_a1 E_a1 (Or.inl (hwi hw 55 rfl)) (hwi hw 39 rfl) (ty := (.array .byte)) (by decide) rfl rfl (g := (mkF m 35 #[.val (.ref a1), .val (.int (Int32.ofNat kk)), .val (.int (Int32.ofNat cap))] [(.ref t7), (.ref a1)])) rfl rfl (hb hby d8_35)
  refine Go.st st8 ?_
  have V_a1 : Fld Z h8 a1 "java/lang/AbstractStringBuilder" "value" "[B" (.ref t7) := V_a1.same W8
  have N8 := Fr.snoc X8 N7 g_a1
  have ne_t_a1 : t ≠ a1 := (Ne.symm (Exa.neArv E_a1 A_t (hwi hw 39 rfl)))
  have E_a1 := E_a1.wr W8
  have A_t := A_t.other W8 ne_t_a1
  have C_a1 := C_a1.other W8 (Or.inr (slot_ne (Or.inl (hwi hw 57 rfl)) (Or.inl (hwi hw 55 rfl)) (by decide) (t := .byte) (t' := (.array .byte)) (by decide) (by decide)))
  have N_a1 := N_a1.other W8 (Or.inr (slot_ne (Or.inl (hwi hw 69 rfl)) (Or.inl (hwi hw 55 rfl)) (by decide) (t := .int) (t' := (.array .byte)) (by decide) (by decide)))
  have Vq7 := Vq7.other W8 (Ne.symm ne_a1_t7)
  have O := O.wr W8 g_a1
  have KK := KK.wr W8 (Or.inl (List.mem_of_getElem? (i := 0) rfl))
  show Go _ _ _ _ _ _ _  T8 (mkF m 38 #[.val (.ref a1), .val (.int (Int32.ofNat kk)), .val (.int (Int32.ofNat cap))] [])
  refine Go.ret0 X8 hlk hx Bd.returns (hb hby d8_38) (by decide) (by decide) ?_
  show Q_rmE1 Z _ _ _ _ _ _ _ h0 n0 _ T8.heap _
  rw [e8]
  exact ⟨rfl, N8, KK, E_a1, C_a1, N_a1, t7, _, sz_t7, V_a1, Vq7⟩
def Q_rmA0 (Z : State) (a1 : Addr) (a2 : Addr) (zc : Int32) (t : Addr) (kd : ClassId) (n : Nat) (cap : Nat) (bs : List Value) (u : Addr) (ku : ClassId) (mm : Nat) (vs : List Value) (h0 : Heap) (n0 : Nat) (v : Option Value) (h : Heap) (L : List Loc) : Prop := v = some (.ref a1) ∧ Fr n0 L ∧ Keep h0 h [a1, t] ∧ Exa Z h a1 "java/lang/StringBuilder" ∧ Fld Z h a1 "java/lang/AbstractStringBuilder" "coder" "B" (.int 0) ∧ Fld Z h a1 "java/lang/AbstractStringBuilder" "count" "I" (.int (Int32.ofNat (n + mm))) ∧ Fld Z h a1 "java/lang/AbstractStringBuilder" "value" "[B" (.ref t) ∧ Arv Z h t kd .byte (Int32.ofNat cap) (bs ++ vs) (.int 0)
set_option maxRecDepth 65536 in
set_option maxHeartbeats 40000000 in
theorem rmA0 (l : Launch) (Z : State) (a0 : Array Value) (hw : ∀ d ∈ tables_1, d.before a0 Z = true) (ws : List Jvm.Cond) (a1 : Addr) (a2 : Addr) (zc : Int32) (t : Addr) (kd : ClassId) (n : Nat) (cap : Nat) (bs : List Value) (u : Addr) (ku : ClassId) (mm : Nat) (vs : List Value) (h0 : Heap) (n0 : Nat) (O : Old Z n0 h0) (S_COMPACT : Sta Z Z.heap "java/lang/String" "COMPACT_STRINGS" "Z" (.int zc)) (hcs : ¬ zc = 0) (E_a1 : Exa Z h0 a1 "java/lang/StringBuilder") (C_a1 : Fld Z h0 a1 "java/lang/AbstractStringBuilder" "coder" "B" (.int 0)) (V_a1 : Fld Z h0 a1 "java/lang/AbstractStringBuilder" "value" "[B" (.ref t)) (N_a1 : Fld Z h0 a1 "java/lang/AbstractStringBuilder" "count" "I" (.int (Int32.ofNat n))) (A_t : Arv Z h0 t kd .byte (Int32.ofNat cap) bs (.int 0)) (L_a1 : bs.length = n) (K_a1 : n ≤ cap) (B_a1 : cap < 100000) (g_a1 : n0 ≤ a1) (g_t : n0 ≤ t) (E_a2 : Exa Z h0 a2 "java/lang/String") (C_a2 : Fld Z h0 a2 "java/lang/String" "coder" "B" (.int 0)) (V_a2 : Fld Z h0 a2 "java/lang/String" "value" "[B" (.ref u)) (A_u : Arv Z h0 u ku .byte (Int32.ofNat mm) vs (.int 0)) (L_a2 : vs.length = mm) (B_a2 : mm < 100000) (hcap : n + mm ≤ cap) (ne_u_t : u ≠ t) :
    MetFree l (⟨"java/lang/AbstractStringBuilder", "append", "(Ljava/lang/String;)Ljava/lang/AbstractStringBuilder;"⟩ : MethodName) (head1 (Jvm.Cond.code (⟨"java/lang/AbstractStringBuilder", "append", "(Ljava/lang/String;)Ljava/lang/AbstractStringBuilder;"⟩ : MethodName) jdk_68_method_22_code 3 (some (.object "java/lang/AbstractStringBuilder")) :: ws) ({ frames := 3, cells := 0, slots := 0, locals := 47 } : Room)) (fun a U => a = #[(.ref a1), (.ref a2)] ∧ Z.Warmed39 U.vm ∧ U.heap = h0) (fun _ _ _ _ _ => True) (fun _ U o U' => ∃ v L, o = .returned v ∧ Q_rmA0 Z a1 a2 zc t kd n cap bs u ku mm vs h0 n0 v U'.heap L ∧ FrameEnd U o U' L ({ frames := 3, cells := 0, slots := 0, locals := 47 } : Room).cells ({ frames := 3, cells := 0, slots := 0, locals := 47 } : Room).slots) := by
  refine MetFree.of_bodySF (plainFor_of_name pn_12) hisR ?_
  intro p e s m args below meth c s₁ Bd hml0 hP hK
  obtain ⟨rfl, hZ, hh⟩ := hP
  have hx := Bd.exec
  have hby := Bd.bytes
  have hml : c.maxLocals = 3 := hml0
  have hown : s.vm.findClass "java/lang/AbstractStringBuilder" = some m.cls := findClass_of_methodNamed Bd.named
  have hnm := (name_of_methodNamed Bd.named Bd.method).1
  have hlk : meth.locks = false := BodyLoose.notSynchronized Bd
  have X0 : Stand p l e ({ frames := 3, cells := 0, slots := 0, locals := 47 } : Room) s m #[(.ref a1), (.ref a2)] below meth c s₁ [] 0 0 := Stand.of_body Bd
  have e0 : s₁.heap = h0 := by rw [← hh, Bd.state]; rfl
  have N0 := Fr.nil n0
  have KK : Keep h0 h0 [a1, t] := Keep.refl h0 _
  show Go p e below s ({ frames := 3, cells := 0, slots := 0, locals := 47 } : Room).cells ({ frames := 3, cells := 0, slots := 0, locals := 47 } : Room).slots (Q_rmA0 Z a1 a2 zc t kd n cap bs u ku mm vs h0 n0) s₁ (entryFrame m #[(.ref a1), (.ref a2)] 3)
  refine Go.eq (ef_rmA0 m a1 a2) ?_
  show Go _ _ _ _ _ _ _  s₁ (mkF m 0 #[.val (.ref a1), .val (.ref a2), .unset] [])
  refine Go.st (fun tT kT => XS.aloadN X0.here hx rfl (hb hby d12_0) rfl rfl  kT) ?_
  show Go _ _ _ _ _ _ _  s₁ (mkF m 1 #[.val (.ref a1), .val (.ref a2), .unset] [(.ref a2)])
  refine Go.st (fun tT kT => XS.ifnonnullYes X0.here hx rfl (pc0 := 1) (pc' := 9) rfl (hb hby d12_1) rfl (by decide) (by decide) kT) ?_
  show Go _ _ _ _ _ _ _  s₁ (mkF m 9 #[.val (.ref a1), .val (.ref a2), .unset] [])
  refine Go.st (fun tT kT => XS.aloadN X0.here hx rfl (hb hby d12_9) rfl rfl  kT) ?_
  show Go _ _ _ _ _ _ _  s₁ (mkF m 10 #[.val (.ref a1), .val (.ref a2), .unset] [(.ref a2)])
  obtain ⟨cq1, kq1, q1a, q1b, q1c⟩ := isOf hZ e0 E_a2
  refine Go.pure (w := (some (.int (Int32.ofNat mm)))) (rest := []) (pc' := 13) (X0.virtualBack hx (y := (⟨"java/lang/String", "length", "()I"⟩ : MethodName)) (z := (⟨"java/lang/String", "length", "()I"⟩ : MethodName)) hown (mvT hZ (hwi hw 102 rfl)) (mvT hZ (hwi hw 103 rfl)) (notFace_of_selects (args := #[]) (mvT hZ (hwi hw 105 rfl))) (mvT hZ (hwi hw 105 rfl)) (mvT hZ (hwi hw 104 rfl)) (by decide) (backOf (W := 0) (rmLen l Z a0 hw [] a2 zc u ku mm vs h0 n0 O S_COMPACT hcs E_a2 C_a2 V_a2 A_u L_a2 B_a2) hZ (hwi hw 106 rfl) (hwi hw 25 rfl) (by decide) (by decide)) q1a q1c (g := (mkF m 10 #[.val (.ref a1), .val (.ref a2), .unset] [(.ref a2)])) rfl (by rw [hml]; rfl) (Steps.refl _) (argsL := []) (rest := []) (lenOf pd___I rfl) rfl (by show 2 * 0 + _ ≤ _; exact Nat.le_of_eq rfl) (hb hby d12_10) (fun _ _ => ⟨rfl, e0, (by decide : 0 + 0 ≤ _), (by decide : 0 + 0 ≤ _)⟩)) (fun _ _ _ q => q) N0 (fun T1 L1 X1 e1q N1 => ?_)
  show Go _ _ _ _ _ _ _  T1 (mkF m 13 #[.val (.ref a1), .val (.ref a2), .unset] [(.int (Int32.ofNat mm))])
  refine Go.st (fun tT kT => XS.istoreN X1.here hx rfl (hb hby d12_13) rfl (l' := #[.val (.ref a1), .val (.ref a2), .val (.int (Int32.ofNat mm))]) rfl kT) ?_
  refine Go.st (fun tT kT => XS.aloadN X1.here hx rfl (hb hby d12_14) rfl rfl  kT) ?_
  refine Go.st (fun tT kT => XS.aloadN X1.here hx rfl (hb hby d12_15) rfl rfl  kT) ?_
  show Go _ _ _ _ _ _ _  T1 (mkF m 16 #[.val (.ref a1), .val (.ref a2), .val (.int (Int32.ofNat mm))] [(.ref a1), (.ref a1)])
  obtain ⟨T2, X2, e2, st2⟩ := getF X1 hx hZ hown (host := "") (Or.inl (hwi hw 68 rfl)) Via.refl e1q N_a1 (g := (mkF m 16 #[.val (.ref a1), .val (.ref a2), .val (.int (Int32.ofNat mm))] [(.ref a1), (.ref a1)])) rfl rfl (hb hby d12_16)
  refine Go.st st2 ?_
  show Go _ _ _ _ _ _ _  T2 (mkF m 19 #[.val (.ref a1), .val (.ref a2), .val (.int (Int32.ofNat mm))] [(.int (Int32.ofNat n)), (.ref a1)])
  refine Go.st (fun tT kT => XS.iloadN X2.here hx rfl (hb hby d12_19) rfl  kT) ?_
  refine Go.st (fun tT kT => XS.iadd X2.here hx rfl (hb hby d12_20) rfl kT) ?_
  show Go _ _ _ _ _ _ _  T2 (mkF m 21 #[.val (.ref a1), .val (.ref a2), .val (.int (Int32.ofNat mm))] [(.int ((Int32.ofNat n) + (Int32.ofNat mm))), (.ref a1)])
  rw [own_oadd]
  show Go _ _ _ _ _ _ _  T2 (mkF m 21 #[.val (.ref a1), .val (.ref a2), .val (.int (Int32.ofNat mm))] [(.int (Int32.ofNat (n + mm))), (.ref a1)])
  obtain ⟨cq3, q3, q3'⟩ := Exa.cell E_a1
  refine Go.pure (w := none) (rest := []) (pc' := 24) (X2.privateBack hx (y := (⟨"java/lang/AbstractStringBuilder", "ensureCapacityInternal", "(I)V"⟩ : MethodName)) hown (mvT hZ (hwi hw 75 rfl)) (mvT hZ (hwi hw 76 rfl)) (own_selfsel2 (mvT hZ (hwi hw 78 rfl)) (mvP hZ (hwi hw 77 rfl)) (mvT hZ (hwi hw 76 rfl)) (by decide)) (Cond.privateMethod_at (mvP hZ (hwi hw 77 rfl) (args := #[]))) (mvT hZ (hwi hw 79 rfl)) (by decide) (backOf (W := 0) (rmE0 l Z a0 hw [] a1 (n + mm) t kd n cap bs h0 n0 O E_a1 C_a1 V_a1 N_a1 A_t L_a1 K_a1 B_a1 g_a1 g_t hcap) hZ (hwi hw 79 rfl) (hwi hw 48 rfl) (by decide) (by decide)) (g := (mkF m 21 #[.val (.ref a1), .val (.ref a2), .val (.int (Int32.ofNat mm))] [(.int (Int32.ofNat (n + mm))), (.ref a1)])) rfl (by rw [hml]; rfl) (Steps.refl _) (a := a1) (by rw [e2]; exact q3) q3' (argsL := [(.int (Int32.ofNat (n + mm)))]) (rest := []) (lenOf pd__I_V rfl) rfl (by show 2 * 0 + _ ≤ _; exact Nat.le_of_eq rfl) (hb hby d12_21) (fun _ _ => ⟨rfl, e2, (by decide : 0 + 0 ≤ _), (by decide : 0 + 0 ≤ _)⟩)) (fun _ _ _ q => q) N1 (fun T3 L3 X3 e3q N3 => ?_)
  show Go _ _ _ _ _ _ _  T3 (mkF m 24 #[.val (.ref a1), .val (.ref a2), .val (.int (Int32.ofNat mm))] [])
  refine Go.st (fun tT kT => XS.aloadN X3.here hx rfl (hb hby d12_24) rfl rfl  kT) ?_
  refine Go.st (fun tT kT => XS.aloadN X3.here hx rfl (hb hby d12_25) rfl rfl  kT) ?_
  show Go _ _ _ _ _ _ _  T3 (mkF m 26 #[.val (.ref a1), .val (.ref a2), .val (.int (Int32.ofNat mm))] [(.ref a1), (.ref a1)])
  obtain ⟨T4, X4, e4, st4⟩ := getF X3 hx hZ hown (host := "") (Or.inl (hwi hw 68 rfl)) Via.refl e3q N_a1 (g := (mkF m 26 #[.val (.ref a1), .val (.ref a2), .val (.int (Int32.ofNat mm))] [(.ref a1), (.ref a1)])) rfl rfl (hb hby d12_26)
  refine Go.st st4 ?_
  show Go _ _ _ _ _ _ _  T4 (mkF m 29 #[.val (.ref a1), .val (.ref a2), .val (.int (Int32.ofNat mm))] [(.int (Int32.ofNat n)), (.ref a1)])
  refine Go.st (fun tT kT => XS.aloadN X4.here hx rfl (hb hby d12_29) rfl rfl  kT) ?_
  show Go _ _ _ _ _ _ _  T4 (mkF m 30 #[.val (.ref a1), .val (.ref a2), .val (.int (Int32.ofNat mm))] [(.ref a2), (.int (Int32.ofNat n)), (.ref a1)])
  obtain ⟨cq5, q5, q5'⟩ := Exa.cell E_a1
  obtain ⟨_, _, ⟨T5, L5, k5, n5⟩, -, X5, ⟨Lc5, hQ5, l5, y5, z5⟩, st5⟩ := X4.privateBack hx (y := (⟨"java/lang/AbstractStringBuilder", "putStringAt", "(ILjava/lang/String;)V"⟩ : MethodName)) hown (mvT hZ (hwi hw 115 rfl)) (mvT hZ (hwi hw 116 rfl)) (own_selfsel2 (mvT hZ (hwi hw 118 rfl)) (mvP hZ (hwi hw 117 rfl)) (mvT hZ (hwi hw 116 rfl)) (by decide)) (Cond.privateMethod_at (mvP hZ (hwi hw 117 rfl) (args := #[]))) (mvT hZ (hwi hw 119 rfl)) (by decide) (backOf (W := 0) (rmPut l Z a0 hw [] a1 a2 zc t kd n cap bs u ku mm vs h0 n0 O S_COMPACT hcs E_a1 C_a1 V_a1 N_a1 A_t L_a1 K_a1 B_a1 g_a1 g_t E_a2 C_a2 V_a2 A_u L_a2 B_a2 hcap ne_u_t) hZ (hwi hw 119 rfl) (hwi hw 48 rfl) (by decide) (by decide)) (g := (mkF m 30 #[.val (.ref a1), .val (.ref a2), .val (.int (Int32.ofNat mm))] [(.ref a2), (.int (Int32.ofNat n)), (.ref a1)])) rfl (by rw [hml]; rfl) (Steps.refl _) (a := a1) (by rw [e4]; exact q5) q5' (argsL := [(.int (Int32.ofNat n)), (.ref a2)]) (rest := []) (lenOf pd__ILjava_lang_String__V rfl) rfl (by show 2 * 0 + _ ≤ _; exact Nat.le_of_eq rfl) (hb hby d12_30) (fun _ _ => ⟨rfl, e4, (by decide : 0 + 0 ≤ _), (by decide : 0 + 0 ≤ _)⟩)
  dsimp only [Pt.U, Pt.locs, Pt.cells, Pt.slots] at X5 l5 y5 z5 st5 hQ5
  rw [l5, y5, z5] at X5
  have X5 : Stand p l e _ _ m _ below meth c T5 _ 0 0 := X5
  obtain ⟨rfl, N5q, K5q, Pq5⟩ := hQ5
  have N5 := Fr.app N3 N5q
  refine Go.tr st5 ?_
  have ne_a1_t : a1 ≠ t := (Exa.neArv E_a1 A_t (hwi hw 39 rfl))
  have ne_a2_t : a2 ≠ t := (Exa.neArv E_a2 A_t (hwi hw 26 rfl))
  have E_a1 := E_a1.keep K5q
  have C_a1 := C_a1.keep K5q (ninS ne_a1_t nin0)
  have V_a1 := V_a1.keep K5q (ninS ne_a1_t nin0)
  have N_a1 := N_a1.keep K5q (ninS ne_a1_t nin0)
  have E_a2 := E_a2.keep K5q
  have A_u := A_u.keep K5q (ninS ne_u_t nin0)
  have C_a2 := C_a2.keep K5q (ninS ne_a2_t nin0)
  have V_a2 := V_a2.keep K5q (ninS ne_a2_t nin0)
  have O := O.keep K5q (allS g_t all0)
  have KK := KK.trans K5q (allS (Or.inl (List.mem_of_getElem? (i := 1) rfl)) all0)
  show Go _ _ _ _ _ _ _  T5 (mkF m 33 #[.val (.ref a1), .val (.ref a2), .val (.int (Int32.ofNat mm))] [])
  refine Go.st (fun tT kT => XS.aloadN X5.here hx rfl (hb hby d12_33) rfl rfl  kT) ?_
  refine Go.st (fun tT kT => XS.dup X5.here hx rfl (hb hby d12_34) rfl rfl kT) ?_
  show Go _ _ _ _ _ _ _  T5 (mkF m 35 #[.val (.ref a1), .val (.ref a2), .val (.int (Int32.ofNat mm))] [(.ref a1), (.ref a1)])
  obtain ⟨T6, X6, e6, st6⟩ := getF X5 hx hZ hown (host := "") (Or.inl (hwi hw 68 rfl)) Via.refl rfl N_a1 (g := (mkF m 35 #[.val (.ref a1), .val (.ref a2), .val (.int (Int32.ofNat mm))] [(.ref a1), (.ref a1)])) rfl rfl (hb hby d12_35)
  refine Go.st st6 ?_
  show Go _ _ _ _ _ _ _  T6 (mkF m 38 #[.val (.ref a1), .val (.ref a2), .val (.int (Int32.ofNat mm))] [(.int (Int32.ofNat n)), (.ref a1)])
  refine Go.st (fun tT kT => XS.iloadN X6.here hx rfl (hb hby d12_38) rfl  kT) ?_
  refine Go.st (fun tT kT => XS.iadd X6.here hx rfl (hb hby d12_39) rfl kT) ?_
  show Go _ _ _ _ _ _ _  T6 (mkF m 40 #[.val (.ref a1), .val (.ref a2), .val (.int (Int32.ofNat mm))] [(.int ((Int32.ofNat n) + (Int32.ofNat mm))), (.ref a1)])
  rw [own_oadd]
  show Go _ _ _ _ _ _ _  T6 (mkF m 40 #[.val (.ref a1), .val (.ref a2), .val (.int (Int32.ofNat mm))] [(.int (Int32.ofNat (n + mm))), (.ref a1)])
  obtain ⟨T7, h7, X7, e7, W7, st7⟩ := putF X6 hx hZ hown (host := "") (Or.inl (hwi hw 68 rfl)) Via.refl e6 N_a1 E_a1 (Or.inl (hwi hw 69 rfl)) (hwi hw 39 rfl) (ty := .int) (by decide) rfl rfl (g := (mkF m 40 #[.val (.ref a1), .val (.ref a2), .val (.int (Int32.ofNat mm))] [(.int (Int32.ofNat (n + mm))), (.ref a1)])) rfl rfl (hb hby d12_40)
  refine Go.st st7 ?_
  have N_a1 : Fld Z h7 a1 "java/lang/AbstractStringBuilder" "count" "I" (.int (Int32.ofNat (n + mm))) := N_a1.same W7
  have N7 := Fr.snoc X7 N5 g_a1
  have ne_u_a1 : u ≠ a1 := (Ne.symm (Exa.neArv E_a1 A_u (hwi hw 39 rfl)))
  have ne_a2_a1 : a2 ≠ a1 := (ne_exa E_a2 E_a1 (by decide))
  have E_a1 := E_a1.wr W7
  have C_a1 := C_a1.other W7 (Or.inr (slot_ne (Or.inl (hwi hw 57 rfl)) (Or.inl (hwi hw 69 rfl)) (by decide) (t := .byte) (t' := .int) (by decide) (by decide)))
  have V_a1 := V_a1.other W7 (Or.inr (slot_ne (Or.inl (hwi hw 55 rfl)) (Or.inl (hwi hw 69 rfl)) (by decide) (t := (.array .byte)) (t' := .int) (by decide) (by decide)))
  have E_a2 := E_a2.wr W7
  have A_u := A_u.other W7 ne_u_a1
  have C_a2 := C_a2.other W7 (Or.inl ne_a2_a1)
  have V_a2 := V_a2.other W7 (Or.inl ne_a2_a1)
  have Pq5 := Pq5.other W7 (Ne.symm ne_a1_t)
  have O := O.wr W7 g_a1
  have KK := KK.wr W7 (Or.inl (List.mem_of_getElem? (i := 0) rfl))
  show Go _ _ _ _ _ _ _  T7 (mkF m 43 #[.val (.ref a1), .val (.ref a2), .val (.int (Int32.ofNat mm))] [])
  refine Go.st (fun tT kT => XS.aloadN X7.here hx rfl (hb hby d12_43) rfl rfl  kT) ?_
  show Go _ _ _ _ _ _ _  T7 (mkF m 44 #[.val (.ref a1), .val (.ref a2), .val (.int (Int32.ofNat mm))] [(.ref a1)])
  refine Go.retR X7 hlk hx Bd.returns rfl rfl rfl (hb hby d12_44) (by decide) (by decide) ?_
  show Q_rmA0 Z _ _ _ _ _ _ _ _ _ _ _ _ h0 n0 _ T7.heap _
  rw [e7]
  exact ⟨rfl, N7, KK, E_a1, C_a1, N_a1, V_a1, Pq5⟩
def Q_rmS0 (Z : State) (a1 : Addr) (a2 : Addr) (zc : Int32) (t : Addr) (kd : ClassId) (n : Nat) (cap : Nat) (bs : List Value) (u : Addr) (ku : ClassId) (mm : Nat) (vs : List Value) (h0 : Heap) (n0 : Nat) (v : Option Value) (h : Heap) (L : List Loc) : Prop := v = some (.ref a1) ∧ Fr n0 L ∧ Keep h0 h [a1, t] ∧ Exa Z h a1 "java/lang/StringBuilder" ∧ Fld Z h a1 "java/lang/AbstractStringBuilder" "coder" "B" (.int 0) ∧ Fld Z h a1 "java/lang/AbstractStringBuilder" "count" "I" (.int (Int32.ofNat (n + mm))) ∧ Fld Z h a1 "java/lang/AbstractStringBuilder" "value" "[B" (.ref t) ∧ Arv Z h t kd .byte (Int32.ofNat cap) (bs ++ vs) (.int 0)
set_option maxRecDepth 65536 in
set_option maxHeartbeats 40000000 in
theorem rmS0 (l : Launch) (Z : State) (a0 : Array Value) (hw : ∀ d ∈ tables_1, d.before a0 Z = true) (ws : List Jvm.Cond) (a1 : Addr) (a2 : Addr) (zc : Int32) (t : Addr) (kd : ClassId) (n : Nat) (cap : Nat) (bs : List Value) (u : Addr) (ku : ClassId) (mm : Nat) (vs : List Value) (h0 : Heap) (n0 : Nat) (O : Old Z n0 h0) (S_COMPACT : Sta Z Z.heap "java/lang/String" "COMPACT_STRINGS" "Z" (.int zc)) (hcs : ¬ zc = 0) (E_a1 : Exa Z h0 a1 "java/lang/StringBuilder") (C_a1 : Fld Z h0 a1 "java/lang/AbstractStringBuilder" "coder" "B" (.int 0)) (V_a1 : Fld Z h0 a1 "java/lang/AbstractStringBuilder" "value" "[B" (.ref t)) (N_a1 : Fld Z h0 a1 "java/lang/AbstractStringBuilder" "count" "I" (.int (Int32.ofNat n))) (A_t : Arv Z h0 t kd .byte (Int32.ofNat cap) bs (.int 0)) (L_a1 : bs.length = n) (K_a1 : n ≤ cap) (B_a1 : cap < 100000) (g_a1 : n0 ≤ a1) (g_t : n0 ≤ t) (E_a2 : Exa Z h0 a2 "java/lang/String") (C_a2 : Fld Z h0 a2 "java/lang/String" "coder" "B" (.int 0)) (V_a2 : Fld Z h0 a2 "java/lang/String" "value" "[B" (.ref u)) (A_u : Arv Z h0 u ku .byte (Int32.ofNat mm) vs (.int 0)) (L_a2 : vs.length = mm) (B_a2 : mm < 100000) (hcap : n + mm ≤ cap) (ne_u_t : u ≠ t) :
    MetFree l (⟨"java/lang/StringBuilder", "append", "(Ljava/lang/String;)Ljava/lang/StringBuilder;"⟩ : MethodName) (head1 (Jvm.Cond.code (⟨"java/lang/StringBuilder", "append", "(Ljava/lang/String;)Ljava/lang/StringBuilder;"⟩ : MethodName) jdk_67_method_7_code 2 (some (.object "java/lang/StringBuilder")) :: ws) ({ frames := 4, cells := 0, slots := 0, locals := 61 } : Room)) (fun a U => a = #[(.ref a1), (.ref a2)] ∧ Z.Warmed39 U.vm ∧ U.heap = h0) (fun _ _ _ _ _ => True) (fun _ U o U' => ∃ v L, o = .returned v ∧ Q_rmS0 Z a1 a2 zc t kd n cap bs u ku mm vs h0 n0 v U'.heap L ∧ FrameEnd U o U' L ({ frames := 4, cells := 0, slots := 0, locals := 61 } : Room).cells ({ frames := 4, cells := 0, slots := 0, locals := 61 } : Room).slots) := by
  refine MetFree.of_bodySF (plainFor_of_name pn_11) hisR ?_
  intro p e s m args below meth c s₁ Bd hml0 hP hK
  obtain ⟨rfl, hZ, hh⟩ := hP
  have hx := Bd.exec
  have hby := Bd.bytes
  have hml : c.maxLocals = 2 := hml0
  have hown : s.vm.findClass "java/lang/StringBuilder" = some m.cls := findClass_of_methodNamed Bd.named
  have hnm := (name_of_methodNamed Bd.named Bd.method).1
  have hlk : meth.locks = false := BodyLoose.notSynchronized Bd
  have X0 : Stand p l e ({ frames := 4, cells := 0, slots := 0, locals := 61 } : Room) s m #[(.ref a1), (.ref a2)] below meth c s₁ [] 0 0 := Stand.of_body Bd
  have e0 : s₁.heap = h0 := by rw [← hh, Bd.state]; rfl
  have N0 := Fr.nil n0
  have KK : Keep h0 h0 [a1, t] := Keep.refl h0 _
  show Go p e below s ({ frames := 4, cells := 0, slots := 0, locals := 61 } : Room).cells ({ frames := 4, cells := 0, slots := 0, locals := 61 } : Room).slots (Q_rmS0 Z a1 a2 zc t kd n cap bs u ku mm vs h0 n0) s₁ (entryFrame m #[(.ref a1), (.ref a2)] 2)
  refine Go.eq (ef_rmS0 m a1 a2) ?_
  show Go _ _ _ _ _ _ _  s₁ (mkF m 0 #[.val (.ref a1), .val (.ref a2)] [])
  refine Go.st (fun tT kT => XS.aloadN X0.here hx rfl (hb hby d11_0) rfl rfl  kT) ?_
  refine Go.st (fun tT kT => XS.aloadN X0.here hx rfl (hb hby d11_1) rfl rfl  kT) ?_
  show Go _ _ _ _ _ _ _  s₁ (mkF m 2 #[.val (.ref a1), .val (.ref a2)] [(.ref a2), (.ref a1)])
  obtain ⟨_, _, ⟨T1, L1, k1, n1⟩, -, X1, ⟨Lc1, hQ1, l1, y1, z1⟩, st1⟩ := superBack X0 hx hZ (y := (⟨"java/lang/AbstractStringBuilder", "append", "(Ljava/lang/String;)Ljava/lang/AbstractStringBuilder;"⟩ : MethodName)) hown (hwi hw 98 rfl) (own_same (hwi hw 100 rfl) (hwi hw 78 rfl) rfl (by decide)) (hwi hw 99 rfl) (hwi hw 65 rfl) (by decide) (backOf (W := 0) (rmA0 l Z a0 hw [] a1 a2 zc t kd n cap bs u ku mm vs h0 n0 O S_COMPACT hcs E_a1 C_a1 V_a1 N_a1 A_t L_a1 K_a1 B_a1 g_a1 g_t E_a2 C_a2 V_a2 A_u L_a2 B_a2 hcap ne_u_t) hZ (hwi hw 101 rfl) (hwi hw 48 rfl) (by decide) (by decide)) e0 (Ins.self E_a1) (g := (mkF m 2 #[.val (.ref a1), .val (.ref a2)] [(.ref a2), (.ref a1)])) rfl (by rw [hml]; rfl) (hwi hw 101 rfl) (argsL := [(.ref a2)]) (rest := []) (lenOf pd__Ljava_lang_String__Ljava_lang_AbstractStringBuilder_ rfl) rfl (by show 2 * 0 + _ ≤ _; exact Nat.le_of_eq rfl) (hb hby d11_2) (fun _ _ => ⟨rfl, e0, (by decide : 0 + 0 ≤ _), (by decide : 0 + 0 ≤ _)⟩)
  dsimp only [Pt.U, Pt.locs, Pt.cells, Pt.slots] at X1 l1 y1 z1 st1 hQ1
  rw [l1, y1, z1] at X1
  have X1 : Stand p l e _ _ m _ below meth c T1 _ 0 0 := X1
  obtain ⟨rfl, N1q, K1q, Q1⟩ := hQ1
  have N1 := Fr.app N0 N1q
  refine Go.tr st1 ?_
  have ne_u_a1 : u ≠ a1 := (Ne.symm (Exa.neArv E_a1 A_u (hwi hw 39 rfl)))
  have ne_a2_a1 : a2 ≠ a1 := (ne_exa E_a2 E_a1 (by decide))
  have ne_a2_t : a2 ≠ t := (Exa.neArv E_a2 A_t (hwi hw 26 rfl))
  have E_a1 := E_a1.keep K1q
  have E_a2 := E_a2.keep K1q
  have A_u := A_u.keep K1q (ninS ne_u_a1 (ninS ne_u_t nin0))
  have C_a2 := C_a2.keep K1q (ninS ne_a2_a1 (ninS ne_a2_t nin0))
  have V_a2 := V_a2.keep K1q (ninS ne_a2_a1 (ninS ne_a2_t nin0))
  have O := O.keep K1q (allS g_a1 (allS g_t all0))
  have KK := KK.trans K1q (allS (Or.inl (List.mem_of_getElem? (i := 0) rfl)) (allS (Or.inl (List.mem_of_getElem? (i := 1) rfl)) all0))
  show Go _ _ _ _ _ _ _  T1 (mkF m 5 #[.val (.ref a1), .val (.ref a2)] [(.ref a1)])
  refine Go.st (fun tT kT => XS.pop X1.here hx rfl (hb hby d11_5) rfl rfl kT) ?_
  refine Go.st (fun tT kT => XS.aloadN X1.here hx rfl (hb hby d11_6) rfl rfl  kT) ?_
  show Go _ _ _ _ _ _ _  T1 (mkF m 7 #[.val (.ref a1), .val (.ref a2)] [(.ref a1)])
  refine Go.retR X1 hlk hx Bd.returns rfl rfl rfl (hb hby d11_7) (by decide) (by decide) ?_
  show Q_rmS0 Z _ _ _ _ _ _ _ _ _ _ _ _ h0 n0 _ T1.heap _
  exact ⟨rfl, N1, KK, Q1⟩
def Q_rmA1 (Z : State) (a1 : Addr) (a2 : Addr) (zc : Int32) (t : Addr) (kd : ClassId) (n : Nat) (cap : Nat) (bs : List Value) (u : Addr) (ku : ClassId) (mm : Nat) (vs : List Value) (h0 : Heap) (n0 : Nat) (v : Option Value) (h : Heap) (L : List Loc) : Prop := v = some (.ref a1) ∧ Fr n0 L ∧ Keep h0 h [a1] ∧ Exa Z h a1 "java/lang/StringBuilder" ∧ Fld Z h a1 "java/lang/AbstractStringBuilder" "coder" "B" (.int 0) ∧ Fld Z h a1 "java/lang/AbstractStringBuilder" "count" "I" (.int (Int32.ofNat (n + mm))) ∧ ∃ (b : Addr) (kb : ClassId), h0.size ≤ b ∧ Fld Z h a1 "java/lang/AbstractStringBuilder" "value" "[B" (.ref b) ∧ Arv Z h b kb .byte (Int32.ofNat (cap + max (n + mm - cap) (cap + 2))) (bs ++ vs) (.int 0)
set_option maxRecDepth 65536 in
set_option maxHeartbeats 40000000 in
theorem rmA1 (l : Launch) (Z : State) (a0 : Array Value) (hw : ∀ d ∈ tables_1, d.before a0 Z = true) (ws : List Jvm.Cond) (a1 : Addr) (a2 : Addr) (zc : Int32) (t : Addr) (kd : ClassId) (n : Nat) (cap : Nat) (bs : List Value) (u : Addr) (ku : ClassId) (mm : Nat) (vs : List Value) (h0 : Heap) (n0 : Nat) (O : Old Z n0 h0) (S_COMPACT : Sta Z Z.heap "java/lang/String" "COMPACT_STRINGS" "Z" (.int zc)) (hcs : ¬ zc = 0) (E_a1 : Exa Z h0 a1 "java/lang/StringBuilder") (C_a1 : Fld Z h0 a1 "java/lang/AbstractStringBuilder" "coder" "B" (.int 0)) (V_a1 : Fld Z h0 a1 "java/lang/AbstractStringBuilder" "value" "[B" (.ref t)) (N_a1 : Fld Z h0 a1 "java/lang/AbstractStringBuilder" "count" "I" (.int (Int32.ofNat n))) (A_t : Arv Z h0 t kd .byte (Int32.ofNat cap) bs (.int 0)) (L_a1 : bs.length = n) (K_a1 : n ≤ cap) (B_a1 : cap < 100000) (g_a1 : n0 ≤ a1) (g_t : n0 ≤ t) (E_a2 : Exa Z h0 a2 "java/lang/String") (C_a2 : Fld Z h0 a2 "java/lang/String" "coder" "B" (.int 0)) (V_a2 : Fld Z h0 a2 "java/lang/String" "value" "[B" (.ref u)) (A_u : Arv Z h0 u ku .byte (Int32.ofNat mm) vs (.int 0)) (L_a2 : vs.length = mm) (B_a2 : mm < 100000) (hcap : cap < n + mm) (hgc : (cap + max (n + mm - cap) (cap + 2)) ≤ 64) :
    MetFree l (⟨"java/lang/AbstractStringBuilder", "append", "(Ljava/lang/String;)Ljava/lang/AbstractStringBuilder;"⟩ : MethodName) (head1 (Jvm.Cond.code (⟨"java/lang/AbstractStringBuilder", "append", "(Ljava/lang/String;)Ljava/lang/AbstractStringBuilder;"⟩ : MethodName) jdk_68_method_22_code 3 (some (.object "java/lang/AbstractStringBuilder")) :: ws) ({ frames := 4, cells := 1, slots := 64, locals := 62 } : Room)) (fun a U => a = #[(.ref a1), (.ref a2)] ∧ Z.Warmed39 U.vm ∧ U.heap = h0) (fun _ _ _ _ _ => True) (fun _ U o U' => ∃ v L, o = .returned v ∧ Q_rmA1 Z a1 a2 zc t kd n cap bs u ku mm vs h0 n0 v U'.heap L ∧ FrameEnd U o U' L ({ frames := 4, cells := 1, slots := 64, locals := 62 } : Room).cells ({ frames := 4, cells := 1, slots := 64, locals := 62 } : Room).slots) := by
  refine MetFree.of_bodySF (plainFor_of_name pn_12) hisR ?_
  intro p e s m args below meth c s₁ Bd hml0 hP hK
  obtain ⟨rfl, hZ, hh⟩ := hP
  have hx := Bd.exec
  have hby := Bd.bytes
  have hml : c.maxLocals = 3 := hml0
  have hown : s.vm.findClass "java/lang/AbstractStringBuilder" = some m.cls := findClass_of_methodNamed Bd.named
  have hnm := (name_of_methodNamed Bd.named Bd.method).1
  have hlk : meth.locks = false := BodyLoose.notSynchronized Bd
  have X0 : Stand p l e ({ frames := 4, cells := 1, slots := 64, locals := 62 } : Room) s m #[(.ref a1), (.ref a2)] below meth c s₁ [] 0 0 := Stand.of_body Bd
  have e0 : s₁.heap = h0 := by rw [← hh, Bd.state]; rfl
  have N0 := Fr.nil n0
  have KK : Keep h0 h0 [a1] := Keep.refl h0 _
  show Go p e below s ({ frames := 4, cells := 1, slots := 64, locals := 62 } : Room).cells ({ frames := 4, cells := 1, slots := 64, locals := 62 } : Room).slots (Q_rmA1 Z a1 a2 zc t kd n cap bs u ku mm vs h0 n0) s₁ (entryFrame m #[(.ref a1), (.ref a2)] 3)
  refine Go.eq (ef_rmA1 m a1 a2) ?_
  show Go _ _ _ _ _ _ _  s₁ (mkF m 0 #[.val (.ref a1), .val (.ref a2), .unset] [])
  refine Go.st (fun tT kT => XS.aloadN X0.here hx rfl (hb hby d12_0) rfl rfl  kT) ?_
  show Go _ _ _ _ _ _ _  s₁ (mkF m 1 #[.val (.ref a1), .val (.ref a2), .unset] [(.ref a2)])
  refine Go.st (fun tT kT => XS.ifnonnullYes X0.here hx rfl (pc0 := 1) (pc' := 9) rfl (hb hby d12_1) rfl (by decide) (by decide) kT) ?_
  show Go _ _ _ _ _ _ _  s₁ (mkF m 9 #[.val (.ref a1), .val (.ref a2), .unset] [])
  refine Go.st (fun tT kT => XS.aloadN X0.here hx rfl (hb hby d12_9) rfl rfl  kT) ?_
  show Go _ _ _ _ _ _ _  s₁ (mkF m 10 #[.val (.ref a1), .val (.ref a2), .unset] [(.ref a2)])
  obtain ⟨cq1, kq1, q1a, q1b, q1c⟩ := isOf hZ e0 E_a2
  refine Go.pure (w := (some (.int (Int32.ofNat mm)))) (rest := []) (pc' := 13) (X0.virtualBack hx (y := (⟨"java/lang/String", "length", "()I"⟩ : MethodName)) (z := (⟨"java/lang/String", "length", "()I"⟩ : MethodName)) hown (mvT hZ (hwi hw 102 rfl)) (mvT hZ (hwi hw 103 rfl)) (notFace_of_selects (args := #[]) (mvT hZ (hwi hw 105 rfl))) (mvT hZ (hwi hw 105 rfl)) (mvT hZ (hwi hw 104 rfl)) (by decide) (backOf (W := 0) (rmLen l Z a0 hw [] a2 zc u ku mm vs h0 n0 O S_COMPACT hcs E_a2 C_a2 V_a2 A_u L_a2 B_a2) hZ (hwi hw 106 rfl) (hwi hw 25 rfl) (by decide) (by decide)) q1a q1c (g := (mkF m 10 #[.val (.ref a1), .val (.ref a2), .unset] [(.ref a2)])) rfl (by rw [hml]; rfl) (Steps.refl _) (argsL := []) (rest := []) (lenOf pd___I rfl) rfl (by show 2 * 0 + _ ≤ _; exact Nat.le_of_eq rfl) (hb hby d12_10) (fun _ _ => ⟨rfl, e0, (by decide : 0 + 0 ≤ _), (by decide : 0 + 0 ≤ _)⟩)) (fun _ _ _ q => q) N0 (fun T1 L1 X1 e1q N1 => ?_)
  show Go _ _ _ _ _ _ _  T1 (mkF m 13 #[.val (.ref a1), .val (.ref a2), .unset] [(.int (Int32.ofNat mm))])
  refine Go.st (fun tT kT => XS.istoreN X1.here hx rfl (hb hby d12_13) rfl (l' := #[.val (.ref a1), .val (.ref a2), .val (.int (Int32.ofNat mm))]) rfl kT) ?_
  refine Go.st (fun tT kT => XS.aloadN X1.here hx rfl (hb hby d12_14) rfl rfl  kT) ?_
  refine Go.st (fun tT kT => XS.aloadN X1.here hx rfl (hb hby d12_15) rfl rfl  kT) ?_
  show Go _ _ _ _ _ _ _  T1 (mkF m 16 #[.val (.ref a1), .val (.ref a2), .val (.int (Int32.ofNat mm))] [(.ref a1), (.ref a1)])
  obtain ⟨T2, X2, e2, st2⟩ := getF X1 hx hZ hown (host := "") (Or.inl (hwi hw 68 rfl)) Via.refl e1q N_a1 (g := (mkF m 16 #[.val (.ref a1), .val (.ref a2), .val (.int (Int32.ofNat mm))] [(.ref a1), (.ref a1)])) rfl rfl (hb hby d12_16)
  refine Go.st st2 ?_
  show Go _ _ _ _ _ _ _  T2 (mkF m 19 #[.val (.ref a1), .val (.ref a2), .val (.int (Int32.ofNat mm))] [(.int (Int32.ofNat n)), (.ref a1)])
  refine Go.st (fun tT kT => XS.iloadN X2.here hx rfl (hb hby d12_19) rfl  kT) ?_
  refine Go.st (fun tT kT => XS.iadd X2.here hx rfl (hb hby d12_20) rfl kT) ?_
  show Go _ _ _ _ _ _ _  T2 (mkF m 21 #[.val (.ref a1), .val (.ref a2), .val (.int (Int32.ofNat mm))] [(.int ((Int32.ofNat n) + (Int32.ofNat mm))), (.ref a1)])
  rw [own_oadd]
  show Go _ _ _ _ _ _ _  T2 (mkF m 21 #[.val (.ref a1), .val (.ref a2), .val (.int (Int32.ofNat mm))] [(.int (Int32.ofNat (n + mm))), (.ref a1)])
  obtain ⟨cq3, q3, q3'⟩ := Exa.cell E_a1
  obtain ⟨_, _, ⟨T3, L3, k3, n3⟩, -, X3, ⟨Lc3, hQ3, l3, y3, z3⟩, st3⟩ := X2.privateBack hx (y := (⟨"java/lang/AbstractStringBuilder", "ensureCapacityInternal", "(I)V"⟩ : MethodName)) hown (mvT hZ (hwi hw 75 rfl)) (mvT hZ (hwi hw 76 rfl)) (own_selfsel2 (mvT hZ (hwi hw 78 rfl)) (mvP hZ (hwi hw 77 rfl)) (mvT hZ (hwi hw 76 rfl)) (by decide)) (Cond.privateMethod_at (mvP hZ (hwi hw 77 rfl) (args := #[]))) (mvT hZ (hwi hw 79 rfl)) (by decide) (backOf (W := 0) (rmE1 l Z a0 hw [] a1 (n + mm) t kd n cap bs h0 n0 O E_a1 C_a1 V_a1 N_a1 A_t L_a1 K_a1 B_a1 g_a1 g_t hcap (by omega) hgc) hZ (hwi hw 79 rfl) (hwi hw 48 rfl) (by decide) (by decide)) (g := (mkF m 21 #[.val (.ref a1), .val (.ref a2), .val (.int (Int32.ofNat mm))] [(.int (Int32.ofNat (n + mm))), (.ref a1)])) rfl (by rw [hml]; rfl) (Steps.refl _) (a := a1) (by rw [e2]; exact q3) q3' (argsL := [(.int (Int32.ofNat (n + mm)))]) (rest := []) (lenOf pd__I_V rfl) rfl (by show 2 * 0 + _ ≤ _; exact Nat.le_of_eq rfl) (hb hby d12_21) (fun _ _ => ⟨rfl, e2, (by decide : 0 + 1 ≤ _), (by decide : 0 + 64 ≤ _)⟩)
  dsimp only [Pt.U, Pt.locs, Pt.cells, Pt.slots] at X3 l3 y3 z3 st3 hQ3
  rw [l3, y3, z3] at X3
  have X3 : Stand p l e _ _ m _ below meth c T3 _ 1 64 := X3
  obtain ⟨rfl, N3q, K3q, Eq3, Cq3, Nq3, t3, kt3, lt3, Vq3, Wq3⟩ := hQ3
  have N3 := Fr.app N1 N3q
  refine Go.tr st3 ?_
  have g_t3 : n0 ≤ t3 := Nat.le_trans (own_le O) lt3
  have sz_t3 : h0.size ≤ t3 := Nat.le_trans KK.1 lt3
  have ne_a1_t3 : a1 ≠ t3 := Nat.ne_of_lt (Nat.lt_of_lt_of_le E_a1.lt lt3)
  have ne_t_t3 : t ≠ t3 := Nat.ne_of_lt (Nat.lt_of_lt_of_le A_t.lt lt3)
  have ne_a2_t3 : a2 ≠ t3 := Nat.ne_of_lt (Nat.lt_of_lt_of_le E_a2.lt lt3)
  have ne_u_t3 : u ≠ t3 := Nat.ne_of_lt (Nat.lt_of_lt_of_le A_u.lt lt3)
  have ne_t_a1 : t ≠ a1 := (Ne.symm (Exa.neArv E_a1 A_t (hwi hw 39 rfl)))
  have ne_u_a1 : u ≠ a1 := (Ne.symm (Exa.neArv E_a1 A_u (hwi hw 39 rfl)))
  have ne_a2_a1 : a2 ≠ a1 := (ne_exa E_a2 E_a1 (by decide))
  have E_a1 := E_a1.keep K3q
  have A_t := A_t.keep K3q (ninS ne_t_a1 nin0)
  have E_a2 := E_a2.keep K3q
  have A_u := A_u.keep K3q (ninS ne_u_a1 nin0)
  have C_a2 := C_a2.keep K3q (ninS ne_a2_a1 nin0)
  have V_a2 := V_a2.keep K3q (ninS ne_a2_a1 nin0)
  have O := O.keep K3q (allS g_a1 all0)
  have KK := KK.trans K3q (allS (Or.inl (List.mem_of_getElem? (i := 0) rfl)) all0)
  have E_a1 := Eq3
  have C_a1 := Cq3
  have N_a1 := Nq3
  have V_a1 := Vq3
  show Go _ _ _ _ _ _ _  T3 (mkF m 24 #[.val (.ref a1), .val (.ref a2), .val (.int (Int32.ofNat mm))] [])
  refine Go.st (fun tT kT => XS.aloadN X3.here hx rfl (hb hby d12_24) rfl rfl  kT) ?_
  refine Go.st (fun tT kT => XS.aloadN X3.here hx rfl (hb hby d12_25) rfl rfl  kT) ?_
  show Go _ _ _ _ _ _ _  T3 (mkF m 26 #[.val (.ref a1), .val (.ref a2), .val (.int (Int32.ofNat mm))] [(.ref a1), (.ref a1)])
  obtain ⟨T4, X4, e4, st4⟩ := getF X3 hx hZ hown (host := "") (Or.inl (hwi hw 68 rfl)) Via.refl rfl N_a1 (g := (mkF m 26 #[.val (.ref a1), .val (.ref a2), .val (.int (Int32.ofNat mm))] [(.ref a1), (.ref a1)])) rfl rfl (hb hby d12_26)
  refine Go.st st4 ?_
  show Go _ _ _ _ _ _ _  T4 (mkF m 29 #[.val (.ref a1), .val (.ref a2), .val (.int (Int32.ofNat mm))] [(.int (Int32.ofNat n)), (.ref a1)])
  refine Go.st (fun tT kT => XS.aloadN X4.here hx rfl (hb hby d12_29) rfl rfl  kT) ?_
  show Go _ _ _ _ _ _ _  T4 (mkF m 30 #[.val (.ref a1), .val (.ref a2), .val (.int (Int32.ofNat mm))] [(.ref a2), (.int (Int32.ofNat n)), (.ref a1)])
  obtain ⟨cq5, q5, q5'⟩ := Exa.cell E_a1
  obtain ⟨_, _, ⟨T5, L5, k5, n5⟩, -, X5, ⟨Lc5, hQ5, l5, y5, z5⟩, st5⟩ := X4.privateBack hx (y := (⟨"java/lang/AbstractStringBuilder", "putStringAt", "(ILjava/lang/String;)V"⟩ : MethodName)) hown (mvT hZ (hwi hw 115 rfl)) (mvT hZ (hwi hw 116 rfl)) (own_selfsel2 (mvT hZ (hwi hw 118 rfl)) (mvP hZ (hwi hw 117 rfl)) (mvT hZ (hwi hw 116 rfl)) (by decide)) (Cond.privateMethod_at (mvP hZ (hwi hw 117 rfl) (args := #[]))) (mvT hZ (hwi hw 119 rfl)) (by decide) (backOf (W := 0) (rmPut l Z a0 hw [] a1 a2 zc t3 kt3 n (cap + max (n + mm - cap) (cap + 2)) bs u ku mm vs T3.heap n0 O S_COMPACT hcs E_a1 C_a1 V_a1 N_a1 Wq3 L_a1 (by omega) (by omega) g_a1 g_t3 E_a2 C_a2 V_a2 A_u L_a2 B_a2 (by omega) ne_u_t3) hZ (hwi hw 119 rfl) (hwi hw 48 rfl) (by decide) (by decide)) (g := (mkF m 30 #[.val (.ref a1), .val (.ref a2), .val (.int (Int32.ofNat mm))] [(.ref a2), (.int (Int32.ofNat n)), (.ref a1)])) rfl (by rw [hml]; rfl) (Steps.refl _) (a := a1) (by rw [e4]; exact q5) q5' (argsL := [(.int (Int32.ofNat n)), (.ref a2)]) (rest := []) (lenOf pd__ILjava_lang_String__V rfl) rfl (by show 2 * 0 + _ ≤ _; exact Nat.le_of_eq rfl) (hb hby d12_30) (fun _ _ => ⟨rfl, e4, (by decide : 1 + 0 ≤ _), (by decide : 64 + 0 ≤ _)⟩)
  dsimp only [Pt.U, Pt.locs, Pt.cells, Pt.slots] at X5 l5 y5 z5 st5 hQ5
  rw [l5, y5, z5] at X5
  have X5 : Stand p l e _ _ m _ below meth c T5 _ 1 64 := X5
  obtain ⟨rfl, N5q, K5q, Pq5⟩ := hQ5
  have N5 := Fr.app N3 N5q
  refine Go.tr st5 ?_
  have E_a1 := E_a1.keep K5q
  have A_t := A_t.keep K5q (ninS ne_t_t3 nin0)
  have E_a2 := E_a2.keep K5q
  have A_u := A_u.keep K5q (ninS ne_u_t3 nin0)
  have C_a2 := C_a2.keep K5q (ninS ne_a2_t3 nin0)
  have V_a2 := V_a2.keep K5q (ninS ne_a2_t3 nin0)
  have C_a1 := C_a1.keep K5q (ninS ne_a1_t3 nin0)
  have V_a1 := V_a1.keep K5q (ninS ne_a1_t3 nin0)
  have N_a1 := N_a1.keep K5q (ninS ne_a1_t3 nin0)
  have O := O.keep K5q (allS g_t3 all0)
  have KK := KK.trans K5q (allS (Or.inr sz_t3) all0)
  show Go _ _ _ _ _ _ _  T5 (mkF m 33 #[.val (.ref a1), .val (.ref a2), .val (.int (Int32.ofNat mm))] [])
  refine Go.st (fun tT kT => XS.aloadN X5.here hx rfl (hb hby d12_33) rfl rfl  kT) ?_
  refine Go.st (fun tT kT => XS.dup X5.here hx rfl (hb hby d12_34) rfl rfl kT) ?_
  show Go _ _ _ _ _ _ _  T5 (mkF m 35 #[.val (.ref a1), .val (.ref a2), .val (.int (Int32.ofNat mm))] [(.ref a1), (.ref a1)])
  obtain ⟨T6, X6, e6, st6⟩ := getF X5 hx hZ hown (host := "") (Or.inl (hwi hw 68 rfl)) Via.refl rfl N_a1 (g := (mkF m 35 #[.val (.ref a1), .val (.ref a2), .val (.int (Int32.ofNat mm))] [(.ref a1), (.ref a1)])) rfl rfl (hb hby d12_35)
  refine Go.st st6 ?_
  show Go _ _ _ _ _ _ _  T6 (mkF m 38 #[.val (.ref a1), .val (.ref a2), .val (.int (Int32.ofNat mm))] [(.int (Int32.ofNat n)), (.ref a1)])
  refine Go.st (fun tT kT => XS.iloadN X6.here hx rfl (hb hby d12_38) rfl  kT) ?_
  refine Go.st (fun tT kT => XS.iadd X6.here hx rfl (hb hby d12_39) rfl kT) ?_
  show Go _ _ _ _ _ _ _  T6 (mkF m 40 #[.val (.ref a1), .val (.ref a2), .val (.int (Int32.ofNat mm))] [(.int ((Int32.ofNat n) + (Int32.ofNat mm))), (.ref a1)])
  rw [own_oadd]
  show Go _ _ _ _ _ _ _  T6 (mkF m 40 #[.val (.ref a1), .val (.ref a2), .val (.int (Int32.ofNat mm))] [(.int (Int32.ofNat (n + mm))), (.ref a1)])
  obtain ⟨T7, h7, X7, e7, W7, st7⟩ := putF X6 hx hZ hown (host := "") (Or.inl (hwi hw 68 rfl)) Via.refl e6 N_a1 E_a1 (Or.inl (hwi hw 69 rfl)) (hwi hw 39 rfl) (ty := .int) (by decide) rfl rfl (g := (mkF m 40 #[.val (.ref a1), .val (.ref a2), .val (.int (Int32.ofNat mm))] [(.int (Int32.ofNat (n + mm))), (.ref a1)])) rfl rfl (hb hby d12_40)
  refine Go.st st7 ?_
  have N_a1 : Fld Z h7 a1 "java/lang/AbstractStringBuilder" "count" "I" (.int (Int32.ofNat (n + mm))) := N_a1.same W7
  have N7 := Fr.snoc X7 N5 g_a1
  have E_a1 := E_a1.wr W7
  have A_t := A_t.other W7 ne_t_a1
  have E_a2 := E_a2.wr W7
  have A_u := A_u.other W7 ne_u_a1
  have C_a2 := C_a2.other W7 (Or.inl ne_a2_a1)
  have V_a2 := V_a2.other W7 (Or.inl ne_a2_a1)
  have C_a1 := C_a1.other W7 (Or.inr (slot_ne (Or.inl (hwi hw 57 rfl)) (Or.inl (hwi hw 69 rfl)) (by decide) (t := .byte) (t' := .int) (by decide) (by decide)))
  have V_a1 := V_a1.other W7 (Or.inr (slot_ne (Or.inl (hwi hw 55 rfl)) (Or.inl (hwi hw 69 rfl)) (by decide) (t := (.array .byte)) (t' := .int) (by decide) (by decide)))
  have Pq5 := Pq5.other W7 (Ne.symm ne_a1_t3)
  have O := O.wr W7 g_a1
  have KK := KK.wr W7 (Or.inl (List.mem_of_getElem? (i := 0) rfl))
  show Go _ _ _ _ _ _ _  T7 (mkF m 43 #[.val (.ref a1), .val (.ref a2), .val (.int (Int32.ofNat mm))] [])
  refine Go.st (fun tT kT => XS.aloadN X7.here hx rfl (hb hby d12_43) rfl rfl  kT) ?_
  show Go _ _ _ _ _ _ _  T7 (mkF m 44 #[.val (.ref a1), .val (.ref a2), .val (.int (Int32.ofNat mm))] [(.ref a1)])
  refine Go.retR X7 hlk hx Bd.returns rfl rfl rfl (hb hby d12_44) (by decide) (by decide) ?_
  show Q_rmA1 Z _ _ _ _ _ _ _ _ _ _ _ _ h0 n0 _ T7.heap _
  rw [e7]
  exact ⟨rfl, N7, KK, E_a1, C_a1, N_a1, t3, _, sz_t3, V_a1, Pq5⟩
def Q_rmS1 (Z : State) (a1 : Addr) (a2 : Addr) (zc : Int32) (t : Addr) (kd : ClassId) (n : Nat) (cap : Nat) (bs : List Value) (u : Addr) (ku : ClassId) (mm : Nat) (vs : List Value) (h0 : Heap) (n0 : Nat) (v : Option Value) (h : Heap) (L : List Loc) : Prop := v = some (.ref a1) ∧ Fr n0 L ∧ Keep h0 h [a1] ∧ Exa Z h a1 "java/lang/StringBuilder" ∧ Fld Z h a1 "java/lang/AbstractStringBuilder" "coder" "B" (.int 0) ∧ Fld Z h a1 "java/lang/AbstractStringBuilder" "count" "I" (.int (Int32.ofNat (n + mm))) ∧ ∃ (b : Addr) (kb : ClassId), h0.size ≤ b ∧ Fld Z h a1 "java/lang/AbstractStringBuilder" "value" "[B" (.ref b) ∧ Arv Z h b kb .byte (Int32.ofNat (cap + max (n + mm - cap) (cap + 2))) (bs ++ vs) (.int 0)
set_option maxRecDepth 65536 in
set_option maxHeartbeats 40000000 in
theorem rmS1 (l : Launch) (Z : State) (a0 : Array Value) (hw : ∀ d ∈ tables_1, d.before a0 Z = true) (ws : List Jvm.Cond) (a1 : Addr) (a2 : Addr) (zc : Int32) (t : Addr) (kd : ClassId) (n : Nat) (cap : Nat) (bs : List Value) (u : Addr) (ku : ClassId) (mm : Nat) (vs : List Value) (h0 : Heap) (n0 : Nat) (O : Old Z n0 h0) (S_COMPACT : Sta Z Z.heap "java/lang/String" "COMPACT_STRINGS" "Z" (.int zc)) (hcs : ¬ zc = 0) (E_a1 : Exa Z h0 a1 "java/lang/StringBuilder") (C_a1 : Fld Z h0 a1 "java/lang/AbstractStringBuilder" "coder" "B" (.int 0)) (V_a1 : Fld Z h0 a1 "java/lang/AbstractStringBuilder" "value" "[B" (.ref t)) (N_a1 : Fld Z h0 a1 "java/lang/AbstractStringBuilder" "count" "I" (.int (Int32.ofNat n))) (A_t : Arv Z h0 t kd .byte (Int32.ofNat cap) bs (.int 0)) (L_a1 : bs.length = n) (K_a1 : n ≤ cap) (B_a1 : cap < 100000) (g_a1 : n0 ≤ a1) (g_t : n0 ≤ t) (E_a2 : Exa Z h0 a2 "java/lang/String") (C_a2 : Fld Z h0 a2 "java/lang/String" "coder" "B" (.int 0)) (V_a2 : Fld Z h0 a2 "java/lang/String" "value" "[B" (.ref u)) (A_u : Arv Z h0 u ku .byte (Int32.ofNat mm) vs (.int 0)) (L_a2 : vs.length = mm) (B_a2 : mm < 100000) (hcap : cap < n + mm) (hgc : (cap + max (n + mm - cap) (cap + 2)) ≤ 64) :
    MetFree l (⟨"java/lang/StringBuilder", "append", "(Ljava/lang/String;)Ljava/lang/StringBuilder;"⟩ : MethodName) (head1 (Jvm.Cond.code (⟨"java/lang/StringBuilder", "append", "(Ljava/lang/String;)Ljava/lang/StringBuilder;"⟩ : MethodName) jdk_67_method_7_code 2 (some (.object "java/lang/StringBuilder")) :: ws) ({ frames := 5, cells := 1, slots := 64, locals := 76 } : Room)) (fun a U => a = #[(.ref a1), (.ref a2)] ∧ Z.Warmed39 U.vm ∧ U.heap = h0) (fun _ _ _ _ _ => True) (fun _ U o U' => ∃ v L, o = .returned v ∧ Q_rmS1 Z a1 a2 zc t kd n cap bs u ku mm vs h0 n0 v U'.heap L ∧ FrameEnd U o U' L ({ frames := 5, cells := 1, slots := 64, locals := 76 } : Room).cells ({ frames := 5, cells := 1, slots := 64, locals := 76 } : Room).slots) := by
  refine MetFree.of_bodySF (plainFor_of_name pn_11) hisR ?_
  intro p e s m args below meth c s₁ Bd hml0 hP hK
  obtain ⟨rfl, hZ, hh⟩ := hP
  have hx := Bd.exec
  have hby := Bd.bytes
  have hml : c.maxLocals = 2 := hml0
  have hown : s.vm.findClass "java/lang/StringBuilder" = some m.cls := findClass_of_methodNamed Bd.named
  have hnm := (name_of_methodNamed Bd.named Bd.method).1
  have hlk : meth.locks = false := BodyLoose.notSynchronized Bd
  have X0 : Stand p l e ({ frames := 5, cells := 1, slots := 64, locals := 76 } : Room) s m #[(.ref a1), (.ref a2)] below meth c s₁ [] 0 0 := Stand.of_body Bd
  have e0 : s₁.heap = h0 := by rw [← hh, Bd.state]; rfl
  have N0 := Fr.nil n0
  have KK : Keep h0 h0 [a1] := Keep.refl h0 _
  show Go p e below s ({ frames := 5, cells := 1, slots := 64, locals := 76 } : Room).cells ({ frames := 5, cells := 1, slots := 64, locals := 76 } : Room).slots (Q_rmS1 Z a1 a2 zc t kd n cap bs u ku mm vs h0 n0) s₁ (entryFrame m #[(.ref a1), (.ref a2)] 2)
  refine Go.eq (ef_rmS1 m a1 a2) ?_
  show Go _ _ _ _ _ _ _  s₁ (mkF m 0 #[.val (.ref a1), .val (.ref a2)] [])
  refine Go.st (fun tT kT => XS.aloadN X0.here hx rfl (hb hby d11_0) rfl rfl  kT) ?_
  refine Go.st (fun tT kT => XS.aloadN X0.here hx rfl (hb hby d11_1) rfl rfl  kT) ?_
  show Go _ _ _ _ _ _ _  s₁ (mkF m 2 #[.val (.ref a1), .val (.ref a2)] [(.ref a2), (.ref a1)])
  obtain ⟨_, _, ⟨T1, L1, k1, n1⟩, -, X1, ⟨Lc1, hQ1, l1, y1, z1⟩, st1⟩ := superBack X0 hx hZ (y := (⟨"java/lang/AbstractStringBuilder", "append", "(Ljava/lang/String;)Ljava/lang/AbstractStringBuilder;"⟩ : MethodName)) hown (hwi hw 98 rfl) (own_same (hwi hw 100 rfl) (hwi hw 78 rfl) rfl (by decide)) (hwi hw 99 rfl) (hwi hw 65 rfl) (by decide) (backOf (W := 0) (rmA1 l Z a0 hw [] a1 a2 zc t kd n cap bs u ku mm vs h0 n0 O S_COMPACT hcs E_a1 C_a1 V_a1 N_a1 A_t L_a1 K_a1 B_a1 g_a1 g_t E_a2 C_a2 V_a2 A_u L_a2 B_a2 hcap hgc) hZ (hwi hw 101 rfl) (hwi hw 48 rfl) (by decide) (by decide)) e0 (Ins.self E_a1) (g := (mkF m 2 #[.val (.ref a1), .val (.ref a2)] [(.ref a2), (.ref a1)])) rfl (by rw [hml]; rfl) (hwi hw 101 rfl) (argsL := [(.ref a2)]) (rest := []) (lenOf pd__Ljava_lang_String__Ljava_lang_AbstractStringBuilder_ rfl) rfl (by show 2 * 0 + _ ≤ _; exact Nat.le_of_eq rfl) (hb hby d11_2) (fun _ _ => ⟨rfl, e0, (by decide : 0 + 1 ≤ _), (by decide : 0 + 64 ≤ _)⟩)
  dsimp only [Pt.U, Pt.locs, Pt.cells, Pt.slots] at X1 l1 y1 z1 st1 hQ1
  rw [l1, y1, z1] at X1
  have X1 : Stand p l e _ _ m _ below meth c T1 _ 1 64 := X1
  obtain ⟨rfl, N1q, K1q, Q1⟩ := hQ1
  have N1 := Fr.app N0 N1q
  refine Go.tr st1 ?_
  have ne_t_a1 : t ≠ a1 := (Ne.symm (Exa.neArv E_a1 A_t (hwi hw 39 rfl)))
  have ne_u_a1 : u ≠ a1 := (Ne.symm (Exa.neArv E_a1 A_u (hwi hw 39 rfl)))
  have ne_a2_a1 : a2 ≠ a1 := (ne_exa E_a2 E_a1 (by decide))
  have E_a1 := E_a1.keep K1q
  have A_t := A_t.keep K1q (ninS ne_t_a1 nin0)
  have E_a2 := E_a2.keep K1q
  have A_u := A_u.keep K1q (ninS ne_u_a1 nin0)
  have C_a2 := C_a2.keep K1q (ninS ne_a2_a1 nin0)
  have V_a2 := V_a2.keep K1q (ninS ne_a2_a1 nin0)
  have O := O.keep K1q (allS g_a1 all0)
  have KK := KK.trans K1q (allS (Or.inl (List.mem_of_getElem? (i := 0) rfl)) all0)
  show Go _ _ _ _ _ _ _  T1 (mkF m 5 #[.val (.ref a1), .val (.ref a2)] [(.ref a1)])
  refine Go.st (fun tT kT => XS.pop X1.here hx rfl (hb hby d11_5) rfl rfl kT) ?_
  refine Go.st (fun tT kT => XS.aloadN X1.here hx rfl (hb hby d11_6) rfl rfl  kT) ?_
  show Go _ _ _ _ _ _ _  T1 (mkF m 7 #[.val (.ref a1), .val (.ref a2)] [(.ref a1)])
  refine Go.retR X1 hlk hx Bd.returns rfl rfl rfl (hb hby d11_7) (by decide) (by decide) ?_
  show Q_rmS1 Z _ _ _ _ _ _ _ _ _ _ _ _ h0 n0 _ T1.heap _
  exact ⟨rfl, N1, KK, Q1⟩
def Q_rmI1 (Z : State) (a1 : Addr) (zc : Int32) (h0 : Heap) (n0 : Nat) (v : Option Value) (h : Heap) (L : List Loc) : Prop := v = none ∧ Fr n0 L ∧ Keep h0 h [a1] ∧ Exa Z h a1 "java/lang/StringBuilder" ∧ Fld Z h a1 "java/lang/AbstractStringBuilder" "coder" "B" (.int 0) ∧ Fld Z h a1 "java/lang/AbstractStringBuilder" "count" "I" (.int (Int32.ofNat 0)) ∧ ∃ (b : Addr) (kb : ClassId), h0.size ≤ b ∧ Fld Z h a1 "java/lang/AbstractStringBuilder" "value" "[B" (.ref b) ∧ Arv Z h b kb .byte (Int32.ofNat 16) [] (.int 0) ∧ Exa Z h b "[B"
set_option maxRecDepth 65536 in
set_option maxHeartbeats 40000000 in
theorem rmI1 (l : Launch) (Z : State) (a0 : Array Value) (hw : ∀ d ∈ tables_1, d.before a0 Z = true) (ws : List Jvm.Cond) (a1 : Addr) (zc : Int32) (h0 : Heap) (n0 : Nat) (O : Old Z n0 h0) (S_COMPACT : Sta Z Z.heap "java/lang/String" "COMPACT_STRINGS" "Z" (.int zc)) (hcs : ¬ zc = 0) (E_a1 : Exa Z h0 a1 "java/lang/StringBuilder") (F_value_a1 : Fld Z h0 a1 "java/lang/AbstractStringBuilder" "value" "[B" .null) (F_coder_a1 : Fld Z h0 a1 "java/lang/AbstractStringBuilder" "coder" "B" (.int (0 : Int32))) (F_count_a1 : Fld Z h0 a1 "java/lang/AbstractStringBuilder" "count" "I" (.int (0 : Int32))) (g_a1 : n0 ≤ a1) :
    MetFree l (⟨"java/lang/AbstractStringBuilder", "<init>", "(I)V"⟩ : MethodName) (head1 (Jvm.Cond.code (⟨"java/lang/AbstractStringBuilder", "<init>", "(I)V"⟩ : MethodName) jdk_68_method_2_code 2 none :: ws) ({ frames := 1, cells := 1, slots := 16, locals := 12 } : Room)) (fun a U => a = #[(.ref a1), (.int (16 : Int32))] ∧ Z.Warmed39 U.vm ∧ U.heap = h0) (fun _ _ _ _ _ => True) (fun _ U o U' => ∃ v L, o = .returned v ∧ Q_rmI1 Z a1 zc h0 n0 v U'.heap L ∧ FrameEnd U o U' L ({ frames := 1, cells := 1, slots := 16, locals := 12 } : Room).cells ({ frames := 1, cells := 1, slots := 16, locals := 12 } : Room).slots) := by
  refine MetFree.of_bodySF (plainFor_of_name pn_3) hisR ?_
  intro p e s m args below meth c s₁ Bd hml0 hP hK
  obtain ⟨rfl, hZ, hh⟩ := hP
  have hx := Bd.exec
  have hby := Bd.bytes
  have hml : c.maxLocals = 2 := hml0
  have hown : s.vm.findClass "java/lang/AbstractStringBuilder" = some m.cls := findClass_of_methodNamed Bd.named
  have hnm := (name_of_methodNamed Bd.named Bd.method).1
  have hlk : meth.locks = false := BodyLoose.notSynchronized Bd
  have X0 : Stand p l e ({ frames := 1, cells := 1, slots := 16, locals := 12 } : Room) s m #[(.ref a1), (.int (16 : Int32))] below meth c s₁ [] 0 0 := Stand.of_body Bd
  have e0 : s₁.heap = h0 := by rw [← hh, Bd.state]; rfl
  have N0 := Fr.nil n0
  have KK : Keep h0 h0 [a1] := Keep.refl h0 _
  show Go p e below s ({ frames := 1, cells := 1, slots := 16, locals := 12 } : Room).cells ({ frames := 1, cells := 1, slots := 16, locals := 12 } : Room).slots (Q_rmI1 Z a1 zc h0 n0) s₁ (entryFrame m #[(.ref a1), (.int (16 : Int32))] 2)
  refine Go.eq (ef_rmI1 m a1) ?_
  show Go _ _ _ _ _ _ _  s₁ (mkF m 0 #[.val (.ref a1), .val (.int (16 : Int32))] [])
  refine Go.st (fun tT kT => XS.aloadN X0.here hx rfl (hb hby d3_0) rfl rfl  kT) ?_
  show Go _ _ _ _ _ _ _  s₁ (mkF m 1 #[.val (.ref a1), .val (.int (16 : Int32))] [(.ref a1)])
  obtain ⟨T1, X1, e1, st1⟩ := initO X0 hx hZ hown (hwi hw 50 rfl) (hwi hw 51 rfl) (hwi hw 52 rfl) e0 (g := (mkF m 1 #[.val (.ref a1), .val (.int (16 : Int32))] [(.ref a1)])) rfl (by rw [hml]; rfl) rfl (hb hby d3_1) (by decide) (W := 0) (by show 2 * 0 + _ ≤ _; exact Nat.le_of_eq rfl) (by decide)
  refine Go.st st1 ?_
  show Go _ _ _ _ _ _ _  T1 (mkF m 4 #[.val (.ref a1), .val (.int (16 : Int32))] [])
  obtain ⟨T2, X2, e2, st2⟩ := getS2 X1 hx hZ hown (host := "") (Or.inl (hwi hw 53 rfl)) Via.refl e1 (S_COMPACT.ext O.2) (g := (mkF m 4 #[.val (.ref a1), .val (.int (16 : Int32))] [])) rfl (hb hby d3_4)
  refine Go.st st2 ?_
  show Go _ _ _ _ _ _ _  T2 (mkF m 7 #[.val (.ref a1), .val (.int (16 : Int32))] [(.int zc)])
  refine Go.st (fun tT kT => XS.ifNo X2.here hx rfl (hb hby d3_7) rfl ((if0 _ _).trans (feq (hcs : ¬ (zc = (0 : Int32)))).1) kT) ?_
  show Go _ _ _ _ _ _ _  T2 (mkF m 10 #[.val (.ref a1), .val (.int (16 : Int32))] [])
  refine Go.st (fun tT kT => XS.aloadN X2.here hx rfl (hb hby d3_10) rfl rfl  kT) ?_
  refine Go.st (fun tT kT => XS.iloadN X2.here hx rfl (hb hby d3_11) rfl  kT) ?_
  show Go _ _ _ _ _ _ _  T2 (mkF m 12 #[.val (.ref a1), .val (.int (16 : Int32))] [(.int (16 : Int32)), (.ref a1)])
  obtain ⟨T3, h3, k3, X3, e3, E3, A3, B3, st3⟩ := newPE X2 hx hZ (hwi hw 27 rfl) e2 (g := (mkF m 12 #[.val (.ref a1), .val (.int (16 : Int32))] [(.int (16 : Int32)), (.ref a1)])) rfl (hb hby d3_12) rfl (by decide) (cap := 16) (by decide) (by decide) (by decide) (by decide) (ad := "[B") (by decide +kernel)
  obtain ⟨b3, g3⟩ : ∃ z, z = h0.size := ⟨_, rfl⟩
  rw [← g3] at A3 B3 st3
  refine Go.st st3 ?_
  have g_b3 : n0 ≤ b3 := by rw [g3]; exact own_le O
  have sz_b3 : h0.size ≤ b3 := by rw [g3]; exact KK.1
  have ne_a1_b3 : a1 ≠ b3 := Nat.ne_of_lt (by rw [g3]; exact E_a1.lt)
  have E_a1 := E_a1.ext E3
  have F_value_a1 := F_value_a1.ext E3
  have F_coder_a1 := F_coder_a1.ext E3
  have F_count_a1 := F_count_a1.ext E3
  have O := O.ext E3
  have KK := KK.ext E3
  have E_b3 := B3
  have V_b3 : Arv Z h3 b3 k3 .byte (16 : Int32) [(.int (0 : Int32)), (.int (0 : Int32)), (.int (0 : Int32)), (.int (0 : Int32)), (.int (0 : Int32)), (.int (0 : Int32)), (.int (0 : Int32)), (.int (0 : Int32)), (.int (0 : Int32)), (.int (0 : Int32)), (.int (0 : Int32)), (.int (0 : Int32)), (.int (0 : Int32)), (.int (0 : Int32)), (.int (0 : Int32)), (.int (0 : Int32))] (.int (0 : Int32)) := (Arv.new A3 (by decide)).pad (pad_rep [] (.int (0 : Int32)) 16)
  show Go _ _ _ _ _ _ _  T3 (mkF m 14 #[.val (.ref a1), .val (.int (16 : Int32))] [(.ref b3), (.ref a1)])
  obtain ⟨T4, h4, X4, e4, W4, st4⟩ := putF X3 hx hZ hown (host := "") (Or.inl (hwi hw 54 rfl)) Via.refl e3 F_value_a1 E_a1 (Or.inl (hwi hw 55 rfl)) (hwi hw 39 rfl) (ty := (.array .byte)) (by decide) rfl rfl (g := (mkF m 14 #[.val (.ref a1), .val (.int (16 : Int32))] [(.ref b3), (.ref a1)])) rfl rfl (hb hby d3_14)
  refine Go.st st4 ?_
  have F_value_a1 : Fld Z h4 a1 "java/lang/AbstractStringBuilder" "value" "[B" (.ref b3) := F_value_a1.same W4
  have N4 := Fr.snoc X4 N0 g_a1
  have E_a1 := E_a1.wr W4
  have F_coder_a1 := F_coder_a1.other W4 (Or.inr (slot_ne (Or.inl (hwi hw 57 rfl)) (Or.inl (hwi hw 55 rfl)) (by decide) (t := .byte) (t' := (.array .byte)) (by decide) (by decide)))
  have F_count_a1 := F_count_a1.other W4 (Or.inr (slot_ne (Or.inl (hwi hw 69 rfl)) (Or.inl (hwi hw 55 rfl)) (by decide) (t := .int) (t' := (.array .byte)) (by decide) (by decide)))
  have E_b3 := E_b3.wr W4
  have V_b3 := V_b3.other W4 (Ne.symm ne_a1_b3)
  have O := O.wr W4 g_a1
  have KK := KK.wr W4 (Or.inl (List.mem_of_getElem? (i := 0) rfl))
  show Go _ _ _ _ _ _ _  T4 (mkF m 17 #[.val (.ref a1), .val (.int (16 : Int32))] [])
  refine Go.st (fun tT kT => XS.aloadN X4.here hx rfl (hb hby d3_17) rfl rfl  kT) ?_
  refine Go.st (fun tT kT => XS.iconst X4.here hx rfl (hb hby d3_18) kT) ?_
  show Go _ _ _ _ _ _ _  T4 (mkF m 19 #[.val (.ref a1), .val (.int (16 : Int32))] [(.int (0 : Int32)), (.ref a1)])
  obtain ⟨T5, h5, X5, e5, W5, st5⟩ := putFN X4 hx hZ hown (hwi hw 56 rfl) Via.refl e4 F_coder_a1 E_a1 (Or.inl (hwi hw 57 rfl)) (hwi hw 39 rfl) (ty := .byte) (v' := .int (0 : Int32)) (by decide) rfl rfl (g := (mkF m 19 #[.val (.ref a1), .val (.int (16 : Int32))] [(.int (0 : Int32)), (.ref a1)])) rfl rfl (hb hby d3_19)
  refine Go.st st5 ?_
  have F_coder_a1 : Fld Z h5 a1 "java/lang/AbstractStringBuilder" "coder" "B" (.int (0 : Int32)) := F_coder_a1.same W5
  have N5 := Fr.snoc X5 N4 g_a1
  have E_a1 := E_a1.wr W5
  have F_value_a1 := F_value_a1.other W5 (Or.inr (slot_ne (Or.inl (hwi hw 55 rfl)) (Or.inl (hwi hw 57 rfl)) (by decide) (t := (.array .byte)) (t' := .byte) (by decide) (by decide)))
  have F_count_a1 := F_count_a1.other W5 (Or.inr (slot_ne (Or.inl (hwi hw 69 rfl)) (Or.inl (hwi hw 57 rfl)) (by decide) (t := .int) (t' := .byte) (by decide) (by decide)))
  have E_b3 := E_b3.wr W5
  have V_b3 := V_b3.other W5 (Ne.symm ne_a1_b3)
  have O := O.wr W5 g_a1
  have KK := KK.wr W5 (Or.inl (List.mem_of_getElem? (i := 0) rfl))
  show Go _ _ _ _ _ _ _  T5 (mkF m 22 #[.val (.ref a1), .val (.int (16 : Int32))] [])
  refine Go.st (fun tT kT => XS.goto X5.here hx rfl (pc0 := 22) (pc' := 38) rfl (hb hby d3_22) (by decide) (by decide) kT) ?_
  show Go _ _ _ _ _ _ _  T5 (mkF m 38 #[.val (.ref a1), .val (.int (16 : Int32))] [])
  refine Go.ret0 X5 hlk hx Bd.returns (hb hby d3_38) (by decide) (by decide) ?_
  show Q_rmI1 Z _ _ h0 n0 _ T5.heap _
  rw [e5]
  exact ⟨rfl, N5, KK, E_a1, F_coder_a1, F_count_a1, b3, _, sz_b3, F_value_a1, V_b3.pad (fun i => (pad_rep [] (.int 0) 16 i).symm), E_b3⟩
def Q_rmI0 (Z : State) (a1 : Addr) (zc : Int32) (h0 : Heap) (n0 : Nat) (v : Option Value) (h : Heap) (L : List Loc) : Prop := v = none ∧ Fr n0 L ∧ Keep h0 h [a1] ∧ Exa Z h a1 "java/lang/StringBuilder" ∧ Fld Z h a1 "java/lang/AbstractStringBuilder" "coder" "B" (.int 0) ∧ Fld Z h a1 "java/lang/AbstractStringBuilder" "count" "I" (.int (Int32.ofNat 0)) ∧ ∃ (b : Addr) (kb : ClassId), h0.size ≤ b ∧ Fld Z h a1 "java/lang/AbstractStringBuilder" "value" "[B" (.ref b) ∧ Arv Z h b kb .byte (Int32.ofNat 16) [] (.int 0) ∧ Exa Z h b "[B"
set_option maxRecDepth 65536 in
set_option maxHeartbeats 40000000 in
theorem rmI0 (l : Launch) (Z : State) (a0 : Array Value) (hw : ∀ d ∈ tables_1, d.before a0 Z = true) (ws : List Jvm.Cond) (a1 : Addr) (zc : Int32) (h0 : Heap) (n0 : Nat) (O : Old Z n0 h0) (S_COMPACT : Sta Z Z.heap "java/lang/String" "COMPACT_STRINGS" "Z" (.int zc)) (hcs : ¬ zc = 0) (E_a1 : Exa Z h0 a1 "java/lang/StringBuilder") (F_value_a1 : Fld Z h0 a1 "java/lang/AbstractStringBuilder" "value" "[B" .null) (F_coder_a1 : Fld Z h0 a1 "java/lang/AbstractStringBuilder" "coder" "B" (.int (0 : Int32))) (F_count_a1 : Fld Z h0 a1 "java/lang/AbstractStringBuilder" "count" "I" (.int (0 : Int32))) (g_a1 : n0 ≤ a1) :
    MetFree l (⟨"java/lang/StringBuilder", "<init>", "()V"⟩ : MethodName) (head1 (Jvm.Cond.code (⟨"java/lang/StringBuilder", "<init>", "()V"⟩ : MethodName) jdk_67_method_1_code 1 none :: ws) ({ frames := 2, cells := 1, slots := 16, locals := 25 } : Room)) (fun a U => a = #[(.ref a1)] ∧ Z.Warmed39 U.vm ∧ U.heap = h0) (fun _ _ _ _ _ => True) (fun _ U o U' => ∃ v L, o = .returned v ∧ Q_rmI0 Z a1 zc h0 n0 v U'.heap L ∧ FrameEnd U o U' L ({ frames := 2, cells := 1, slots := 16, locals := 25 } : Room).cells ({ frames := 2, cells := 1, slots := 16, locals := 25 } : Room).slots) := by
  refine MetFree.of_bodySF (plainFor_of_name pn_2) hisR ?_
  intro p e s m args below meth c s₁ Bd hml0 hP hK
  obtain ⟨rfl, hZ, hh⟩ := hP
  have hx := Bd.exec
  have hby := Bd.bytes
  have hml : c.maxLocals = 1 := hml0
  have hown : s.vm.findClass "java/lang/StringBuilder" = some m.cls := findClass_of_methodNamed Bd.named
  have hnm := (name_of_methodNamed Bd.named Bd.method).1
  have hlk : meth.locks = false := BodyLoose.notSynchronized Bd
  have X0 : Stand p l e ({ frames := 2, cells := 1, slots := 16, locals := 25 } : Room) s m #[(.ref a1)] below meth c s₁ [] 0 0 := Stand.of_body Bd
  have e0 : s₁.heap = h0 := by rw [← hh, Bd.state]; rfl
  have N0 := Fr.nil n0
  have KK : Keep h0 h0 [a1] := Keep.refl h0 _
  show Go p e below s ({ frames := 2, cells := 1, slots := 16, locals := 25 } : Room).cells ({ frames := 2, cells := 1, slots := 16, locals := 25 } : Room).slots (Q_rmI0 Z a1 zc h0 n0) s₁ (entryFrame m #[(.ref a1)] 1)
  refine Go.eq (ef_rmI0 m a1) ?_
  show Go _ _ _ _ _ _ _  s₁ (mkF m 0 #[.val (.ref a1)] [])
  refine Go.st (fun tT kT => XS.aloadN X0.here hx rfl (hb hby d2_0) rfl rfl  kT) ?_
  refine Go.st (fun tT kT => XS.bipush X0.here hx rfl (hb hby d2_1) kT) ?_
  show Go _ _ _ _ _ _ _  s₁ (mkF m 3 #[.val (.ref a1)] [(.int (16 : Int32)), (.ref a1)])
  obtain ⟨_, _, ⟨T1, L1, k1, n1⟩, -, X1, ⟨Lc1, hQ1, l1, y1, z1⟩, st1⟩ := X0.specialBack hx (y := (⟨"java/lang/AbstractStringBuilder", "<init>", "(I)V"⟩ : MethodName)) rfl hown (mvT hZ (hwi hw 44 rfl)) (mvT hZ (hwi hw 45 rfl)) (mvT hZ (hwi hw 49 rfl)) (by decide) (backOf (W := 0) (rmI1 l Z a0 hw [] a1 zc h0 n0 O S_COMPACT hcs E_a1 F_value_a1 F_coder_a1 F_count_a1 g_a1) hZ (hwi hw 49 rfl) (hwi hw 48 rfl) (by decide) (by decide)) (g := (mkF m 3 #[.val (.ref a1)] [(.int (16 : Int32)), (.ref a1)])) rfl (by rw [hml]; rfl) (Steps.refl _) (a := a1) (argsL := [(.int (16 : Int32))]) (rest := []) (lenOf pd__I_V rfl) rfl (by show 2 * 0 + _ ≤ _; exact Nat.le_of_eq rfl) (hb hby d2_3) (fun _ _ => ⟨rfl, e0, (by decide : 0 + 1 ≤ _), (by decide : 0 + 16 ≤ _)⟩)
  dsimp only [Pt.U, Pt.locs, Pt.cells, Pt.slots] at X1 l1 y1 z1 st1 hQ1
  rw [l1, y1, z1] at X1
  have X1 : Stand p l e _ _ m _ below meth c T1 _ 1 16 := X1
  obtain ⟨rfl, N1q, K1q, Q1⟩ := hQ1
  have N1 := Fr.app N0 N1q
  refine Go.tr st1 ?_
  have E_a1 := E_a1.keep K1q
  have O := O.keep K1q (allS g_a1 all0)
  have KK := KK.trans K1q (allS (Or.inl (List.mem_of_getElem? (i := 0) rfl)) all0)
  show Go _ _ _ _ _ _ _  T1 (mkF m 6 #[.val (.ref a1)] [])
  refine Go.ret0 X1 hlk hx Bd.returns (hb hby d2_6) (by decide) (by decide) ?_
  show Q_rmI0 Z _ _ h0 n0 _ T1.heap _
  exact ⟨rfl, N1, KK, Q1⟩
def Q_rmGV (Z : State) (a1 : Addr) (t : Addr) (h0 : Heap) (n0 : Nat) (v : Option Value) (h : Heap) (L : List Loc) : Prop := v = some (.ref t) ∧ Fr n0 L ∧ h = h0
set_option maxRecDepth 65536 in
set_option maxHeartbeats 40000000 in
theorem rmGV (l : Launch) (Z : State) (a0 : Array Value) (hw : ∀ d ∈ tables_1, d.before a0 Z = true) (ws : List Jvm.Cond) (a1 : Addr) (t : Addr) (h0 : Heap) (n0 : Nat) (O : Old Z n0 h0) (V_a1 : Fld Z h0 a1 "java/lang/AbstractStringBuilder" "value" "[B" (.ref t)) :
    MetFree l (⟨"java/lang/AbstractStringBuilder", "getValue", "()[B"⟩ : MethodName) (head1 (Jvm.Cond.code (⟨"java/lang/AbstractStringBuilder", "getValue", "()[B"⟩ : MethodName) jdk_68_method_64_code 1 (some (.array .byte)) :: ws) ({ frames := 0, cells := 0, slots := 0, locals := 0 } : Room)) (fun a U => a = #[(.ref a1)] ∧ Z.Warmed39 U.vm ∧ U.heap = h0) (fun _ _ _ _ _ => True) (fun _ U o U' => ∃ v L, o = .returned v ∧ Q_rmGV Z a1 t h0 n0 v U'.heap L ∧ FrameEnd U o U' L ({ frames := 0, cells := 0, slots := 0, locals := 0 } : Room).cells ({ frames := 0, cells := 0, slots := 0, locals := 0 } : Room).slots) := by
  refine MetFree.of_bodySF (plainFor_of_name pn_21) hisR ?_
  intro p e s m args below meth c s₁ Bd hml0 hP hK
  obtain ⟨rfl, hZ, hh⟩ := hP
  have hx := Bd.exec
  have hby := Bd.bytes
  have hml : c.maxLocals = 1 := hml0
  have hown : s.vm.findClass "java/lang/AbstractStringBuilder" = some m.cls := findClass_of_methodNamed Bd.named
  have hnm := (name_of_methodNamed Bd.named Bd.method).1
  have hlk : meth.locks = false := BodyLoose.notSynchronized Bd
  have X0 : Stand p l e ({ frames := 0, cells := 0, slots := 0, locals := 0 } : Room) s m #[(.ref a1)] below meth c s₁ [] 0 0 := Stand.of_body Bd
  have e0 : s₁.heap = h0 := by rw [← hh, Bd.state]; rfl
  have N0 := Fr.nil n0
  show Go p e below s ({ frames := 0, cells := 0, slots := 0, locals := 0 } : Room).cells ({ frames := 0, cells := 0, slots := 0, locals := 0 } : Room).slots (Q_rmGV Z a1 t h0 n0) s₁ (entryFrame m #[(.ref a1)] 1)
  refine Go.eq (ef_rmGV m a1) ?_
  show Go _ _ _ _ _ _ _  s₁ (mkF m 0 #[.val (.ref a1)] [])
  refine Go.st (fun tT kT => XS.aloadN X0.here hx rfl (hb hby d21_0) rfl rfl  kT) ?_
  show Go _ _ _ _ _ _ _  s₁ (mkF m 1 #[.val (.ref a1)] [(.ref a1)])
  obtain ⟨T1, X1, e1, st1⟩ := getF X0 hx hZ hown (host := "") (Or.inl (hwi hw 54 rfl)) Via.refl e0 V_a1 (g := (mkF m 1 #[.val (.ref a1)] [(.ref a1)])) rfl rfl (hb hby d21_1)
  refine Go.st st1 ?_
  show Go _ _ _ _ _ _ _  T1 (mkF m 4 #[.val (.ref a1)] [(.ref t)])
  refine Go.retR X1 hlk hx Bd.returns rfl rfl rfl (hb hby d21_4) (by decide) (by decide) ?_
  show Q_rmGV Z _ _ h0 n0 _ T1.heap _
  rw [e1]
  exact ⟨rfl, N0, rfl⟩
def Q_rmAL (Z : State) (a1 : Addr) (z : Int32) (h0 : Heap) (n0 : Nat) (v : Option Value) (h : Heap) (L : List Loc) : Prop := v = some (.int z) ∧ Fr n0 L ∧ h = h0
set_option maxRecDepth 65536 in
set_option maxHeartbeats 40000000 in
theorem rmAL (l : Launch) (Z : State) (a0 : Array Value) (hw : ∀ d ∈ tables_1, d.before a0 Z = true) (ws : List Jvm.Cond) (a1 : Addr) (z : Int32) (h0 : Heap) (n0 : Nat) (O : Old Z n0 h0) (N_a1 : Fld Z h0 a1 "java/lang/AbstractStringBuilder" "count" "I" (.int z)) :
    MetFree l (⟨"java/lang/AbstractStringBuilder", "length", "()I"⟩ : MethodName) (head1 (Jvm.Cond.code (⟨"java/lang/AbstractStringBuilder", "length", "()I"⟩ : MethodName) jdk_68_method_6_code 1 (some .int) :: ws) ({ frames := 0, cells := 0, slots := 0, locals := 0 } : Room)) (fun a U => a = #[(.ref a1)] ∧ Z.Warmed39 U.vm ∧ U.heap = h0) (fun _ _ _ _ _ => True) (fun _ U o U' => ∃ v L, o = .returned v ∧ Q_rmAL Z a1 z h0 n0 v U'.heap L ∧ FrameEnd U o U' L ({ frames := 0, cells := 0, slots := 0, locals := 0 } : Room).cells ({ frames := 0, cells := 0, slots := 0, locals := 0 } : Room).slots) := by
  refine MetFree.of_bodySF (plainFor_of_name pn_23) hisR ?_
  intro p e s m args below meth c s₁ Bd hml0 hP hK
  obtain ⟨rfl, hZ, hh⟩ := hP
  have hx := Bd.exec
  have hby := Bd.bytes
  have hml : c.maxLocals = 1 := hml0
  have hown : s.vm.findClass "java/lang/AbstractStringBuilder" = some m.cls := findClass_of_methodNamed Bd.named
  have hnm := (name_of_methodNamed Bd.named Bd.method).1
  have hlk : meth.locks = false := BodyLoose.notSynchronized Bd
  have X0 : Stand p l e ({ frames := 0, cells := 0, slots := 0, locals := 0 } : Room) s m #[(.ref a1)] below meth c s₁ [] 0 0 := Stand.of_body Bd
  have e0 : s₁.heap = h0 := by rw [← hh, Bd.state]; rfl
  have N0 := Fr.nil n0
  show Go p e below s ({ frames := 0, cells := 0, slots := 0, locals := 0 } : Room).cells ({ frames := 0, cells := 0, slots := 0, locals := 0 } : Room).slots (Q_rmAL Z a1 z h0 n0) s₁ (entryFrame m #[(.ref a1)] 1)
  refine Go.eq (ef_rmAL m a1) ?_
  show Go _ _ _ _ _ _ _  s₁ (mkF m 0 #[.val (.ref a1)] [])
  refine Go.st (fun tT kT => XS.aloadN X0.here hx rfl (hb hby d23_0) rfl rfl  kT) ?_
  show Go _ _ _ _ _ _ _  s₁ (mkF m 1 #[.val (.ref a1)] [(.ref a1)])
  obtain ⟨T1, X1, e1, st1⟩ := getF X0 hx hZ hown (host := "") (Or.inl (hwi hw 68 rfl)) Via.refl e0 N_a1 (g := (mkF m 1 #[.val (.ref a1)] [(.ref a1)])) rfl rfl (hb hby d23_1)
  refine Go.st st1 ?_
  show Go _ _ _ _ _ _ _  T1 (mkF m 4 #[.val (.ref a1)] [(.int z)])
  refine Go.retI X1 hlk hx Bd.returns (hb hby d23_4) (by decide) (by decide) ?_
  show Q_rmAL Z _ _ h0 n0 _ T1.heap _
  rw [e1]
  exact ⟨rfl, N0, rfl⟩
def Q_rmSL (Z : State) (a1 : Addr) (z : Int32) (h0 : Heap) (n0 : Nat) (v : Option Value) (h : Heap) (L : List Loc) : Prop := v = some (.int z) ∧ Fr n0 L ∧ h = h0
set_option maxRecDepth 65536 in
set_option maxHeartbeats 40000000 in
theorem rmSL (l : Launch) (Z : State) (a0 : Array Value) (hw : ∀ d ∈ tables_1, d.before a0 Z = true) (ws : List Jvm.Cond) (a1 : Addr) (z : Int32) (h0 : Heap) (n0 : Nat) (O : Old Z n0 h0) (E_a1 : Exa Z h0 a1 "java/lang/StringBuilder") (N_a1 : Fld Z h0 a1 "java/lang/AbstractStringBuilder" "count" "I" (.int z)) :
    MetFree l (⟨"java/lang/StringBuilder", "length", "()I"⟩ : MethodName) (head1 (Jvm.Cond.code (⟨"java/lang/StringBuilder", "length", "()I"⟩ : MethodName) jdk_67_method_93_code 1 (some .int) :: ws) ({ frames := 1, cells := 0, slots := 0, locals := 12 } : Room)) (fun a U => a = #[(.ref a1)] ∧ Z.Warmed39 U.vm ∧ U.heap = h0) (fun _ _ _ _ _ => True) (fun _ U o U' => ∃ v L, o = .returned v ∧ Q_rmSL Z a1 z h0 n0 v U'.heap L ∧ FrameEnd U o U' L ({ frames := 1, cells := 0, slots := 0, locals := 12 } : Room).cells ({ frames := 1, cells := 0, slots := 0, locals := 12 } : Room).slots) := by
  refine MetFree.of_bodySF (plainFor_of_name pn_22) hisR ?_
  intro p e s m args below meth c s₁ Bd hml0 hP hK
  obtain ⟨rfl, hZ, hh⟩ := hP
  have hx := Bd.exec
  have hby := Bd.bytes
  have hml : c.maxLocals = 1 := hml0
  have hown : s.vm.findClass "java/lang/StringBuilder" = some m.cls := findClass_of_methodNamed Bd.named
  have hnm := (name_of_methodNamed Bd.named Bd.method).1
  have hlk : meth.locks = false := BodyLoose.notSynchronized Bd
  have X0 : Stand p l e ({ frames := 1, cells := 0, slots := 0, locals := 12 } : Room) s m #[(.ref a1)] below meth c s₁ [] 0 0 := Stand.of_body Bd
  have e0 : s₁.heap = h0 := by rw [← hh, Bd.state]; rfl
  have N0 := Fr.nil n0
  show Go p e below s ({ frames := 1, cells := 0, slots := 0, locals := 12 } : Room).cells ({ frames := 1, cells := 0, slots := 0, locals := 12 } : Room).slots (Q_rmSL Z a1 z h0 n0) s₁ (entryFrame m #[(.ref a1)] 1)
  refine Go.eq (ef_rmSL m a1) ?_
  show Go _ _ _ _ _ _ _  s₁ (mkF m 0 #[.val (.ref a1)] [])
  refine Go.st (fun tT kT => XS.aloadN X0.here hx rfl (hb hby d22_0) rfl rfl  kT) ?_
  show Go _ _ _ _ _ _ _  s₁ (mkF m 1 #[.val (.ref a1)] [(.ref a1)])
  refine Go.pure (w := (some (.int z))) (rest := []) (pc' := 4) (superBack X0 hx hZ (y := (⟨"java/lang/AbstractStringBuilder", "length", "()I"⟩ : MethodName)) hown (hwi hw 160 rfl) (own_same (hwi hw 155 rfl) (hwi hw 78 rfl) rfl (by decide)) (hwi hw 156 rfl) (hwi hw 65 rfl) (by decide) (backOf (W := 0) (rmAL l Z a0 hw [] a1 z h0 n0 O N_a1) hZ (hwi hw 161 rfl) (hwi hw 48 rfl) (by decide) (by decide)) e0 (Ins.self E_a1) (g := (mkF m 1 #[.val (.ref a1)] [(.ref a1)])) rfl (by rw [hml]; rfl) (hwi hw 161 rfl) (argsL := []) (rest := []) (lenOf pd___I rfl) rfl (by show 2 * 0 + _ ≤ _; exact Nat.le_of_eq rfl) (hb hby d22_1) (fun _ _ => ⟨rfl, e0, (by decide : 0 + 0 ≤ _), (by decide : 0 + 0 ≤ _)⟩)) (fun _ _ _ q => q) N0 (fun T1 L1 X1 e1q N1 => ?_)
  show Go _ _ _ _ _ _ _  T1 (mkF m 4 #[.val (.ref a1)] [(.int z)])
  refine Go.retI X1 hlk hx Bd.returns (hb hby d22_4) (by decide) (by decide) ?_
  show Q_rmSL Z _ _ h0 n0 _ T1.heap _
  rw [e1q]
  exact ⟨rfl, N1, rfl⟩
def Q_rmIL (Z : State) (a1 : Addr) (zc : Int32) (h0 : Heap) (n0 : Nat) (v : Option Value) (h : Heap) (L : List Loc) : Prop := v = some (.int 1) ∧ Fr n0 L ∧ h = h0
set_option maxRecDepth 65536 in
set_option maxHeartbeats 40000000 in
theorem rmIL (l : Launch) (Z : State) (a0 : Array Value) (hw : ∀ d ∈ tables_1, d.before a0 Z = true) (ws : List Jvm.Cond) (a1 : Addr) (zc : Int32) (h0 : Heap) (n0 : Nat) (O : Old Z n0 h0) (S_COMPACT : Sta Z Z.heap "java/lang/String" "COMPACT_STRINGS" "Z" (.int zc)) (hcs : ¬ zc = 0) (C_a1 : Fld Z h0 a1 "java/lang/AbstractStringBuilder" "coder" "B" (.int 0)) :
    MetFree l (⟨"java/lang/AbstractStringBuilder", "isLatin1", "()Z"⟩ : MethodName) (head1 (Jvm.Cond.code (⟨"java/lang/AbstractStringBuilder", "isLatin1", "()Z"⟩ : MethodName) jdk_68_method_68_code 1 (some .boolean) :: ws) ({ frames := 0, cells := 0, slots := 0, locals := 0 } : Room)) (fun a U => a = #[(.ref a1)] ∧ Z.Warmed39 U.vm ∧ U.heap = h0) (fun _ _ _ _ _ => True) (fun _ U o U' => ∃ v L, o = .returned v ∧ Q_rmIL Z a1 zc h0 n0 v U'.heap L ∧ FrameEnd U o U' L ({ frames := 0, cells := 0, slots := 0, locals := 0 } : Room).cells ({ frames := 0, cells := 0, slots := 0, locals := 0 } : Room).slots) := by
  refine MetFree.of_bodySF (plainFor_of_name pn_9) hisR ?_
  intro p e s m args below meth c s₁ Bd hml0 hP hK
  obtain ⟨rfl, hZ, hh⟩ := hP
  have hx := Bd.exec
  have hby := Bd.bytes
  have hml : c.maxLocals = 1 := hml0
  have hown : s.vm.findClass "java/lang/AbstractStringBuilder" = some m.cls := findClass_of_methodNamed Bd.named
  have hnm := (name_of_methodNamed Bd.named Bd.method).1
  have hlk : meth.locks = false := BodyLoose.notSynchronized Bd
  have X0 : Stand p l e ({ frames := 0, cells := 0, slots := 0, locals := 0 } : Room) s m #[(.ref a1)] below meth c s₁ [] 0 0 := Stand.of_body Bd
  have e0 : s₁.heap = h0 := by rw [← hh, Bd.state]; rfl
  have N0 := Fr.nil n0
  show Go p e below s ({ frames := 0, cells := 0, slots := 0, locals := 0 } : Room).cells ({ frames := 0, cells := 0, slots := 0, locals := 0 } : Room).slots (Q_rmIL Z a1 zc h0 n0) s₁ (entryFrame m #[(.ref a1)] 1)
  refine Go.eq (ef_rmIL m a1) ?_
  show Go _ _ _ _ _ _ _  s₁ (mkF m 0 #[.val (.ref a1)] [])
  obtain ⟨T1, X1, e1, st1⟩ := getS2 X0 hx hZ hown (host := "") (Or.inl (hwi hw 53 rfl)) Via.refl e0 (S_COMPACT.ext O.2) (g := (mkF m 0 #[.val (.ref a1)] [])) rfl (hb hby d9_0)
  refine Go.st st1 ?_
  show Go _ _ _ _ _ _ _  T1 (mkF m 3 #[.val (.ref a1)] [(.int zc)])
  refine Go.st (fun tT kT => XS.ifNo X1.here hx rfl (hb hby d9_3) rfl ((if0 _ _).trans (feq (hcs : ¬ (zc = (0 : Int32)))).1) kT) ?_
  show Go _ _ _ _ _ _ _  T1 (mkF m 6 #[.val (.ref a1)] [])
  refine Go.st (fun tT kT => XS.aloadN X1.here hx rfl (hb hby d9_6) rfl rfl  kT) ?_
  show Go _ _ _ _ _ _ _  T1 (mkF m 7 #[.val (.ref a1)] [(.ref a1)])
  obtain ⟨T2, X2, e2, st2⟩ := getF X1 hx hZ hown (host := "") (Or.inl (hwi hw 56 rfl)) Via.refl e1 C_a1 (g := (mkF m 7 #[.val (.ref a1)] [(.ref a1)])) rfl rfl (hb hby d9_7)
  refine Go.st st2 ?_
  show Go _ _ _ _ _ _ _  T2 (mkF m 10 #[.val (.ref a1)] [(.int (0 : Int32))])
  refine Go.st (fun tT kT => XS.ifNo X2.here hx rfl (hb hby d9_10) rfl ((if0 _ _).trans (teq (rfl : (0 : Int32) = (0 : Int32))).2) kT) ?_
  show Go _ _ _ _ _ _ _  T2 (mkF m 13 #[.val (.ref a1)] [])
  refine Go.st (fun tT kT => XS.iconst X2.here hx rfl (hb hby d9_13) kT) ?_
  refine Go.st (fun tT kT => XS.goto X2.here hx rfl (pc0 := 14) (pc' := 18) rfl (hb hby d9_14) (by decide) (by decide) kT) ?_
  show Go _ _ _ _ _ _ _  T2 (mkF m 18 #[.val (.ref a1)] [(.int (1 : Int32))])
  refine Go.retN X2 hlk hx (t := .boolean) (z' := (1 : Int32)) Bd.returns (by simp) (hb hby d9_18) (by decide) (by decide) rfl ?_
  show Q_rmIL Z _ _ h0 n0 _ T2.heap _
  rw [e2]
  exact ⟨rfl, N0, rfl⟩
def Q_rmCL (Z : State) (n : Nat) (h0 : Heap) (n0 : Nat) (v : Option Value) (h : Heap) (L : List Loc) : Prop := v = none ∧ Fr n0 L ∧ h = h0
set_option maxRecDepth 65536 in
set_option maxHeartbeats 40000000 in
theorem rmCL (l : Launch) (Z : State) (a0 : Array Value) (hw : ∀ d ∈ tables_1, d.before a0 Z = true) (ws : List Jvm.Cond) (n : Nat) (h0 : Heap) (n0 : Nat) (O : Old Z n0 h0) (hn : n < 100000) :
    MetFree l (⟨"java/util/Arrays", "checkLength", "(II)V"⟩ : MethodName) (head1 (Jvm.Cond.code (⟨"java/util/Arrays", "checkLength", "(II)V"⟩ : MethodName) jdk_65_method_131_code 2 none :: ws) ({ frames := 0, cells := 0, slots := 0, locals := 0 } : Room)) (fun a U => a = #[(.int (0 : Int32)), (.int (Int32.ofNat n))] ∧ Z.Warmed39 U.vm ∧ U.heap = h0) (fun _ _ _ _ _ => True) (fun _ U o U' => ∃ v L, o = .returned v ∧ Q_rmCL Z n h0 n0 v U'.heap L ∧ FrameEnd U o U' L ({ frames := 0, cells := 0, slots := 0, locals := 0 } : Room).cells ({ frames := 0, cells := 0, slots := 0, locals := 0 } : Room).slots) := by
  refine MetFree.of_bodySF (plainFor_of_name pn_26) hisR ?_
  intro p e s m args below meth c s₁ Bd hml0 hP hK
  obtain ⟨rfl, hZ, hh⟩ := hP
  have hx := Bd.exec
  have hby := Bd.bytes
  have hml : c.maxLocals = 2 := hml0
  have hown : s.vm.findClass "java/util/Arrays" = some m.cls := findClass_of_methodNamed Bd.named
  have hnm := (name_of_methodNamed Bd.named Bd.method).1
  have hlk : meth.locks = false := BodyLoose.notSynchronized Bd
  have X0 : Stand p l e ({ frames := 0, cells := 0, slots := 0, locals := 0 } : Room) s m #[(.int (0 : Int32)), (.int (Int32.ofNat n))] below meth c s₁ [] 0 0 := Stand.of_body Bd
  have e0 : s₁.heap = h0 := by rw [← hh, Bd.state]; rfl
  have N0 := Fr.nil n0
  show Go p e below s ({ frames := 0, cells := 0, slots := 0, locals := 0 } : Room).cells ({ frames := 0, cells := 0, slots := 0, locals := 0 } : Room).slots (Q_rmCL Z n h0 n0) s₁ (entryFrame m #[(.int (0 : Int32)), (.int (Int32.ofNat n))] 2)
  refine Go.eq (ef_rmCL m (0 : Int32) (Int32.ofNat n)) ?_
  show Go _ _ _ _ _ _ _  s₁ (mkF m 0 #[.val (.int (0 : Int32)), .val (.int (Int32.ofNat n))] [])
  refine Go.st (fun tT kT => XS.iloadN X0.here hx rfl (hb hby d26_0) rfl  kT) ?_
  refine Go.st (fun tT kT => XS.iloadN X0.here hx rfl (hb hby d26_1) rfl  kT) ?_
  show Go _ _ _ _ _ _ _  s₁ (mkF m 2 #[.val (.int (0 : Int32)), .val (.int (Int32.ofNat n))] [(.int (0 : Int32)), (.int (Int32.ofNat n))])
  refine Go.st (fun tT kT => XS.icmpYes X0.here hx rfl (pc0 := 2) (pc' := 37) rfl (hb hby d26_2) rfl (flt (own_onn (by omega) : ¬ ((Int32.ofNat n) < (0 : Int32)))).2.1 (by decide) (by decide) kT) ?_
  show Go _ _ _ _ _ _ _  s₁ (mkF m 37 #[.val (.int (0 : Int32)), .val (.int (Int32.ofNat n))] [])
  refine Go.ret0 X0 hlk hx Bd.returns (hb hby d26_37) (by decide) (by decide) ?_
  show Q_rmCL Z _ h0 n0 _ s₁.heap _
  rw [e0]
  exact ⟨rfl, N0, rfl⟩
def Q_rmCRB (Z : State) (a1 : Addr) (n : Nat) (kd : ClassId) (cap : Nat) (bs : List Value) (h0 : Heap) (n0 : Nat) (v : Option Value) (h : Heap) (L : List Loc) : Prop := ∃ (b : Addr) (kb : ClassId), v = some (.ref b) ∧ Fr n0 L ∧ Ext h0 h ∧ h0.size ≤ b ∧ Arv Z h b kb .byte (Int32.ofNat n) bs (.int 0)
set_option maxRecDepth 65536 in
set_option maxHeartbeats 40000000 in
theorem rmCRB (l : Launch) (Z : State) (a0 : Array Value) (hw : ∀ d ∈ tables_1, d.before a0 Z = true) (ws : List Jvm.Cond) (a1 : Addr) (n : Nat) (kd : ClassId) (cap : Nat) (bs : List Value) (h0 : Heap) (n0 : Nat) (O : Old Z n0 h0) (A_a1 : Arv Z h0 a1 kd .byte (Int32.ofNat cap) bs (.int 0)) (hbs : bs.length = n) (hN1 : n < cap) (hN2 : cap < 100000) (hN3 : n ≤ 64) :
    MetFree l (⟨"java/util/Arrays", "copyOfRangeByte", "([BII)[B"⟩ : MethodName) (head1 (Jvm.Cond.code (⟨"java/util/Arrays", "copyOfRangeByte", "([BII)[B"⟩ : MethodName) jdk_65_method_133_code 5 (some (.array .byte)) :: ws) ({ frames := 1, cells := 1, slots := 64, locals := 18 } : Room)) (fun a U => a = #[(.ref a1), (.int (0 : Int32)), (.int (Int32.ofNat n))] ∧ Z.Warmed39 U.vm ∧ U.heap = h0) (fun _ _ _ _ _ => True) (fun _ U o U' => ∃ v L, o = .returned v ∧ Q_rmCRB Z a1 n kd cap bs h0 n0 v U'.heap L ∧ FrameEnd U o U' L ({ frames := 1, cells := 1, slots := 64, locals := 18 } : Room).cells ({ frames := 1, cells := 1, slots := 64, locals := 18 } : Room).slots) := by
  refine MetFree.of_bodySF (plainFor_of_name pn_25) hisR ?_
  intro p e s m args below meth c s₁ Bd hml0 hP hK
  obtain ⟨rfl, hZ, hh⟩ := hP
  have hx := Bd.exec
  have hby := Bd.bytes
  have hml : c.maxLocals = 5 := hml0
  have hown : s.vm.findClass "java/util/Arrays" = some m.cls := findClass_of_methodNamed Bd.named
  have hnm := (name_of_methodNamed Bd.named Bd.method).1
  have hlk : meth.locks = false := BodyLoose.notSynchronized Bd
  have X0 : Stand p l e ({ frames := 1, cells := 1, slots := 64, locals := 18 } : Room) s m #[(.ref a1), (.int (0 : Int32)), (.int (Int32.ofNat n))] below meth c s₁ [] 0 0 := Stand.of_body Bd
  have e0 : s₁.heap = h0 := by rw [← hh, Bd.state]; rfl
  have N0 := Fr.nil n0
  have KK : Keep h0 h0 [] := Keep.refl h0 _
  show Go p e below s ({ frames := 1, cells := 1, slots := 64, locals := 18 } : Room).cells ({ frames := 1, cells := 1, slots := 64, locals := 18 } : Room).slots (Q_rmCRB Z a1 n kd cap bs h0 n0) s₁ (entryFrame m #[(.ref a1), (.int (0 : Int32)), (.int (Int32.ofNat n))] 5)
  refine Go.eq (ef_rmCRB m a1 (0 : Int32) (Int32.ofNat n)) ?_
  show Go _ _ _ _ _ _ _  s₁ (mkF m 0 #[.val (.ref a1), .val (.int (0 : Int32)), .val (.int (Int32.ofNat n)), .unset, .unset] [])
  refine Go.st (fun tT kT => XS.iloadN X0.here hx rfl (hb hby d25_0) rfl  kT) ?_
  refine Go.st (fun tT kT => XS.iloadN X0.here hx rfl (hb hby d25_1) rfl  kT) ?_
  show Go _ _ _ _ _ _ _  s₁ (mkF m 2 #[.val (.ref a1), .val (.int (0 : Int32)), .val (.int (Int32.ofNat n)), .unset, .unset] [(.int (Int32.ofNat n)), (.int (0 : Int32))])
  refine Go.pureS (w := none) (rest := []) (pc' := 5) (Jvm.LawKit.callS X0 hx (y := (⟨"java/util/Arrays", "checkLength", "(II)V"⟩ : MethodName)) hown (mvT hZ (hwi hw 170 rfl)) (mvT hZ (hwi hw 171 rfl)) (mvT hZ (hwi hw 165 rfl)) (mvT hZ (hwi hw 172 rfl)) (by decide) (backOf (W := 0) (rmCL l Z a0 hw [] n h0 n0 O (by omega)) hZ (hwi hw 172 rfl) (hwi hw 165 rfl) (by decide) (by decide)) (g := (mkF m 2 #[.val (.ref a1), .val (.int (0 : Int32)), .val (.int (Int32.ofNat n)), .unset, .unset] [(.int (Int32.ofNat n)), (.int (0 : Int32))])) rfl (by rw [hml]; rfl) (argsL := [(.int (0 : Int32)), (.int (Int32.ofNat n))]) (rest := []) (lenOf pd__II_V rfl) rfl (by show 2 * 0 + _ ≤ _; exact Nat.le_of_eq rfl) (hb hby d25_2) (fun _ _ => ⟨rfl, e0, (by decide : 0 + 0 ≤ _), (by decide : 0 + 0 ≤ _)⟩)) (fun _ _ _ q => q) N0 (fun T1 L1 X1 e1q N1 => ?_)
  show Go _ _ _ _ _ _ _  T1 (mkF m 5 #[.val (.ref a1), .val (.int (0 : Int32)), .val (.int (Int32.ofNat n)), .unset, .unset] [])
  refine Go.st (fun tT kT => XS.iloadN X1.here hx rfl (hb hby d25_5) rfl  kT) ?_
  refine Go.st (fun tT kT => XS.iloadN X1.here hx rfl (hb hby d25_6) rfl  kT) ?_
  refine Go.st (fun tT kT => XS.isub X1.here hx rfl (hb hby d25_7) rfl kT) ?_
  show Go _ _ _ _ _ _ _  T1 (mkF m 8 #[.val (.ref a1), .val (.int (0 : Int32)), .val (.int (Int32.ofNat n)), .unset, .unset] [(.int ((Int32.ofNat n) - (0 : Int32)))])
  rw [Int32.sub_zero]
  show Go _ _ _ _ _ _ _  T1 (mkF m 8 #[.val (.ref a1), .val (.int (0 : Int32)), .val (.int (Int32.ofNat n)), .unset, .unset] [(.int (Int32.ofNat n))])
  refine Go.st (fun tT kT => XS.istoreN X1.here hx rfl (hb hby d25_8) rfl (l' := #[.val (.ref a1), .val (.int (0 : Int32)), .val (.int (Int32.ofNat n)), .val (.int (Int32.ofNat n)), .unset]) rfl kT) ?_
  refine Go.st (fun tT kT => XS.iloadN X1.here hx rfl (hb hby d25_9) rfl  kT) ?_
  show Go _ _ _ _ _ _ _  T1 (mkF m 10 #[.val (.ref a1), .val (.int (0 : Int32)), .val (.int (Int32.ofNat n)), .val (.int (Int32.ofNat n)), .unset] [(.int (Int32.ofNat n))])
  obtain ⟨T2, h2, k2, X2, e2, E2, A2, st2⟩ := newP X1 hx hZ (hwi hw 27 rfl) e1q (g := (mkF m 10 #[.val (.ref a1), .val (.int (0 : Int32)), .val (.int (Int32.ofNat n)), .val (.int (Int32.ofNat n)), .unset] [(.int (Int32.ofNat n))])) rfl (hb hby d25_10) rfl (own_onn (by omega)) (cap := 64) (by rw [own_ocl (by omega)]; omega) (by decide) (by decide) (by decide)
  obtain ⟨b2, g2⟩ : ∃ z, z = h0.size := ⟨_, rfl⟩
  rw [← g2] at A2 st2
  refine Go.st st2 ?_
  have g_b2 : n0 ≤ b2 := by rw [g2]; exact own_le O
  have sz_b2 : h0.size ≤ b2 := by rw [g2]; exact KK.1
  have ne_a1_b2 : a1 ≠ b2 := Nat.ne_of_lt (by rw [g2]; exact A_a1.lt)
  have A_a1 := A_a1.ext E2
  have O := O.ext E2
  have KK := KK.ext E2
  have V_b2 := Arv.new A2 (own_onn (by omega))
  show Go _ _ _ _ _ _ _  T2 (mkF m 12 #[.val (.ref a1), .val (.int (0 : Int32)), .val (.int (Int32.ofNat n)), .val (.int (Int32.ofNat n)), .unset] [(.ref b2)])
  refine Go.st (fun tT kT => XS.astore X2.here hx rfl (hb hby d25_12) rfl rfl (l' := #[.val (.ref a1), .val (.int (0 : Int32)), .val (.int (Int32.ofNat n)), .val (.int (Int32.ofNat n)), .val (.ref b2)]) rfl kT) ?_
  refine Go.st (fun tT kT => XS.aloadN X2.here hx rfl (hb hby d25_14) rfl rfl  kT) ?_
  refine Go.st (fun tT kT => XS.iloadN X2.here hx rfl (hb hby d25_15) rfl  kT) ?_
  show Go _ _ _ _ _ _ _  T2 (mkF m 16 #[.val (.ref a1), .val (.int (0 : Int32)), .val (.int (Int32.ofNat n)), .val (.int (Int32.ofNat n)), .val (.ref b2)] [(.int (0 : Int32)), (.ref a1)])
  refine Go.st (fun tT kT => XS.aload X2.here hx rfl (hb hby d25_16) rfl rfl  kT) ?_
  refine Go.st (fun tT kT => XS.iconst X2.here hx rfl (hb hby d25_18) kT) ?_
  refine Go.st (fun tT kT => XS.aloadN X2.here hx rfl (hb hby d25_19) rfl rfl  kT) ?_
  show Go _ _ _ _ _ _ _  T2 (mkF m 20 #[.val (.ref a1), .val (.int (0 : Int32)), .val (.int (Int32.ofNat n)), .val (.int (Int32.ofNat n)), .val (.ref b2)] [(.ref a1), (.int (0 : Int32)), (.ref b2), (.int (0 : Int32)), (.ref a1)])
  obtain ⟨cl3, Ar3, q3, S3, M3, Hh3, G3⟩ := id A_a1
  refine Go.st (X2.arraylength hx (by rw [e2]; exact Ar3.1) (State.isArrayOf_alike hZ.alike Ar3.2.1) (g := (mkF m 20 #[.val (.ref a1), .val (.int (0 : Int32)), .val (.int (Int32.ofNat n)), .val (.int (Int32.ofNat n)), .val (.ref b2)] [(.ref a1), (.int (0 : Int32)), (.ref b2), (.int (0 : Int32)), (.ref a1)])) rfl rfl (hb hby d25_20)) ?_
  rw [len_of S3 M3]
  show Go _ _ _ _ _ _ _  T2 (mkF m 21 #[.val (.ref a1), .val (.int (0 : Int32)), .val (.int (Int32.ofNat n)), .val (.int (Int32.ofNat n)), .val (.ref b2)] [(.int (Int32.ofNat cap)), (.int (0 : Int32)), (.ref b2), (.int (0 : Int32)), (.ref a1)])
  refine Go.st (fun tT kT => XS.iloadN X2.here hx rfl (hb hby d25_21) rfl  kT) ?_
  refine Go.st (fun tT kT => XS.isub X2.here hx rfl (hb hby d25_22) rfl kT) ?_
  show Go _ _ _ _ _ _ _  T2 (mkF m 23 #[.val (.ref a1), .val (.int (0 : Int32)), .val (.int (Int32.ofNat n)), .val (.int (Int32.ofNat n)), .val (.ref b2)] [(.int ((Int32.ofNat cap) - (0 : Int32))), (.int (0 : Int32)), (.ref b2), (.int (0 : Int32)), (.ref a1)])
  rw [Int32.sub_zero]
  refine Go.st (fun tT kT => XS.iloadN X2.here hx rfl (hb hby d25_23) rfl  kT) ?_
  show Go _ _ _ _ _ _ _  T2 (mkF m 24 #[.val (.ref a1), .val (.int (0 : Int32)), .val (.int (Int32.ofNat n)), .val (.int (Int32.ofNat n)), .val (.ref b2)] [(.int (Int32.ofNat n)), (.int (Int32.ofNat cap)), (.int (0 : Int32)), (.ref b2), (.int (0 : Int32)), (.ref a1)])
  refine Go.pureS (w := (some (.int (Int32.ofNat (min cap n))))) (rest := [(.int (0 : Int32)), (.ref b2), (.int (0 : Int32)), (.ref a1)]) (pc' := 27) (Jvm.LawKit.callS X2 hx (y := (⟨"java/lang/Math", "min", "(II)I"⟩ : MethodName)) hown (mvT hZ (hwi hw 173 rfl)) (mvT hZ (hwi hw 174 rfl)) (mvT hZ (hwi hw 175 rfl)) (mvT hZ (hwi hw 176 rfl)) (by decide) (backOf (W := 4) (rmMin l Z a0 hw [] cap n h2 n0 O (by omega) (by omega)) hZ (hwi hw 176 rfl) (hwi hw 175 rfl) (by decide) (by decide)) (g := (mkF m 24 #[.val (.ref a1), .val (.int (0 : Int32)), .val (.int (Int32.ofNat n)), .val (.int (Int32.ofNat n)), .val (.ref b2)] [(.int (Int32.ofNat n)), (.int (Int32.ofNat cap)), (.int (0 : Int32)), (.ref b2), (.int (0 : Int32)), (.ref a1)])) rfl (by rw [hml]; rfl) (argsL := [(.int (Int32.ofNat cap)), (.int (Int32.ofNat n))]) (rest := [(.int (0 : Int32)), (.ref b2), (.int (0 : Int32)), (.ref a1)]) (lenOf pd__II_I rfl) rfl (by show 2 * 0 + _ ≤ _; exact Nat.le_of_eq rfl) (hb hby d25_24) (fun _ _ => ⟨rfl, e2, (by decide : 1 + 0 ≤ _), (by decide : 64 + 0 ≤ _)⟩)) (fun _ _ _ q => q) N1 (fun T4 L4 X4 e4q N4 => ?_)
  rw [Nat.min_eq_right (Nat.le_of_lt hN1)]
  show Go _ _ _ _ _ _ _  T4 (mkF m 27 #[.val (.ref a1), .val (.int (0 : Int32)), .val (.int (Int32.ofNat n)), .val (.int (Int32.ofNat n)), .val (.ref b2)] [(.int (Int32.ofNat n)), (.int (0 : Int32)), (.ref b2), (.int (0 : Int32)), (.ref a1)])
  obtain ⟨T5, h5, L5, X5, e5, N5, K5, V5, st5⟩ := cpA X4 hx hZ hown (hwi hw 177 rfl) (hwi hw 134 rfl) (hwi hw 132 rfl) (hwi hw 133 rfl) e4q A_a1 (V_b2.pad (pad_rep [] (.int 0) n)) (Or.inl ⟨rfl, rfl⟩) (by decide) (by decide) (own_onn (by omega)) (by rw [own_ocl (by omega), own_ocl (by omega)]; show 0 + n ≤ cap; omega) (by rw [own_ocl (by omega)]; exact Nat.le_of_eq (Nat.zero_add _)) (us := (List.range n).map fun i => bs.getD (0 + i) (.int 0)) (by rw [own_ocl (by omega)]; rfl) (by rw [own_ocl (by omega)]; simp) N4 g_b2 (g := (mkF m 27 #[.val (.ref a1), .val (.int (0 : Int32)), .val (.int (Int32.ofNat n)), .val (.int (Int32.ofNat n)), .val (.ref b2)] [(.int (Int32.ofNat n)), (.int (0 : Int32)), (.ref b2), (.int (0 : Int32)), (.ref a1)])) rfl (by rw [hml]; rfl) rfl (hb hby d25_27) (by decide) (W := 0) (by show 2 * 0 + _ ≤ _; exact Nat.le_of_eq rfl) (by decide)
  refine Go.st st5 ?_
  have V5 := V5.pad (by rw [own_ocl (by omega)]; exact own_cp (bs := []) (d := 0) rfl (Nat.le_of_eq hbs))
  have A_a1 := A_a1.keep K5 (ninS ne_a1_b2 nin0)
  have O := O.keep K5 (allS g_b2 all0)
  have KK := KK.trans K5 (allS (Or.inr sz_b2) all0)
  have V_b2 := V5
  show Go _ _ _ _ _ _ _  T5 (mkF m 30 #[.val (.ref a1), .val (.int (0 : Int32)), .val (.int (Int32.ofNat n)), .val (.int (Int32.ofNat n)), .val (.ref b2)] [])
  refine Go.st (fun tT kT => XS.aload X5.here hx rfl (hb hby d25_30) rfl rfl  kT) ?_
  show Go _ _ _ _ _ _ _  T5 (mkF m 32 #[.val (.ref a1), .val (.int (0 : Int32)), .val (.int (Int32.ofNat n)), .val (.int (Int32.ofNat n)), .val (.ref b2)] [(.ref b2)])
  refine Go.retR X5 hlk hx Bd.returns rfl rfl rfl (hb hby d25_32) (by decide) (by decide) ?_
  show Q_rmCRB Z _ _ _ _ _ h0 n0 _ T5.heap _
  rw [e5]
  exact ⟨_, _, rfl, N5, own_ext0 KK, sz_b2, V_b2⟩
def Q_rmCR (Z : State) (a1 : Addr) (n : Nat) (kd : ClassId) (cap : Nat) (bs : List Value) (h0 : Heap) (n0 : Nat) (v : Option Value) (h : Heap) (L : List Loc) : Prop := ∃ (b : Addr) (kb : ClassId), v = some (.ref b) ∧ Fr n0 L ∧ Ext h0 h ∧ h0.size ≤ b ∧ Arv Z h b kb .byte (Int32.ofNat n) bs (.int 0)
set_option maxRecDepth 65536 in
set_option maxHeartbeats 40000000 in
theorem rmCR (l : Launch) (Z : State) (a0 : Array Value) (hw : ∀ d ∈ tables_1, d.before a0 Z = true) (ws : List Jvm.Cond) (a1 : Addr) (n : Nat) (kd : ClassId) (cap : Nat) (bs : List Value) (h0 : Heap) (n0 : Nat) (O : Old Z n0 h0) (A_a1 : Arv Z h0 a1 kd .byte (Int32.ofNat cap) bs (.int 0)) (hbs : bs.length = n) (hN1 : n < cap) (hN2 : cap < 100000) (hN3 : n ≤ 64) :
    MetFree l (⟨"java/util/Arrays", "copyOfRange", "([BII)[B"⟩ : MethodName) (head1 (Jvm.Cond.code (⟨"java/util/Arrays", "copyOfRange", "([BII)[B"⟩ : MethodName) jdk_65_method_132_code 3 (some (.array .byte)) :: ws) ({ frames := 2, cells := 1, slots := 64, locals := 34 } : Room)) (fun a U => a = #[(.ref a1), (.int (0 : Int32)), (.int (Int32.ofNat n))] ∧ Z.Warmed39 U.vm ∧ U.heap = h0) (fun _ _ _ _ _ => True) (fun _ U o U' => ∃ v L, o = .returned v ∧ Q_rmCR Z a1 n kd cap bs h0 n0 v U'.heap L ∧ FrameEnd U o U' L ({ frames := 2, cells := 1, slots := 64, locals := 34 } : Room).cells ({ frames := 2, cells := 1, slots := 64, locals := 34 } : Room).slots) := by
  refine MetFree.of_bodySF (plainFor_of_name pn_24) hisR ?_
  intro p e s m args below meth c s₁ Bd hml0 hP hK
  obtain ⟨rfl, hZ, hh⟩ := hP
  have hx := Bd.exec
  have hby := Bd.bytes
  have hml : c.maxLocals = 3 := hml0
  have hown : s.vm.findClass "java/util/Arrays" = some m.cls := findClass_of_methodNamed Bd.named
  have hnm := (name_of_methodNamed Bd.named Bd.method).1
  have hlk : meth.locks = false := BodyLoose.notSynchronized Bd
  have X0 : Stand p l e ({ frames := 2, cells := 1, slots := 64, locals := 34 } : Room) s m #[(.ref a1), (.int (0 : Int32)), (.int (Int32.ofNat n))] below meth c s₁ [] 0 0 := Stand.of_body Bd
  have e0 : s₁.heap = h0 := by rw [← hh, Bd.state]; rfl
  have N0 := Fr.nil n0
  have KK : Keep h0 h0 [] := Keep.refl h0 _
  show Go p e below s ({ frames := 2, cells := 1, slots := 64, locals := 34 } : Room).cells ({ frames := 2, cells := 1, slots := 64, locals := 34 } : Room).slots (Q_rmCR Z a1 n kd cap bs h0 n0) s₁ (entryFrame m #[(.ref a1), (.int (0 : Int32)), (.int (Int32.ofNat n))] 3)
  refine Go.eq (ef_rmCR m a1 (0 : Int32) (Int32.ofNat n)) ?_
  show Go _ _ _ _ _ _ _  s₁ (mkF m 0 #[.val (.ref a1), .val (.int (0 : Int32)), .val (.int (Int32.ofNat n))] [])
  refine Go.st (fun tT kT => XS.iloadN X0.here hx rfl (hb hby d24_0) rfl  kT) ?_
  show Go _ _ _ _ _ _ _  s₁ (mkF m 1 #[.val (.ref a1), .val (.int (0 : Int32)), .val (.int (Int32.ofNat n))] [(.int (0 : Int32))])
  refine Go.st (fun tT kT => XS.ifNo X0.here hx rfl (hb hby d24_1) rfl ((if0 _ _).trans (teq (rfl : (0 : Int32) = (0 : Int32))).2) kT) ?_
  show Go _ _ _ _ _ _ _  s₁ (mkF m 4 #[.val (.ref a1), .val (.int (0 : Int32)), .val (.int (Int32.ofNat n))] [])
  refine Go.st (fun tT kT => XS.iloadN X0.here hx rfl (hb hby d24_4) rfl  kT) ?_
  refine Go.st (fun tT kT => XS.aloadN X0.here hx rfl (hb hby d24_5) rfl rfl  kT) ?_
  show Go _ _ _ _ _ _ _  s₁ (mkF m 6 #[.val (.ref a1), .val (.int (0 : Int32)), .val (.int (Int32.ofNat n))] [(.ref a1), (.int (Int32.ofNat n))])
  obtain ⟨cl1, Ar1, q1, S1, M1, Hh1, G1⟩ := id A_a1
  refine Go.st (X0.arraylength hx (by rw [e0]; exact Ar1.1) (State.isArrayOf_alike hZ.alike Ar1.2.1) (g := (mkF m 6 #[.val (.ref a1), .val (.int (0 : Int32)), .val (.int (Int32.ofNat n))] [(.ref a1), (.int (Int32.ofNat n))])) rfl rfl (hb hby d24_6)) ?_
  rw [len_of S1 M1]
  show Go _ _ _ _ _ _ _  s₁ (mkF m 7 #[.val (.ref a1), .val (.int (0 : Int32)), .val (.int (Int32.ofNat n))] [(.int (Int32.ofNat cap)), (.int (Int32.ofNat n))])
  refine Go.st (fun tT kT => XS.icmpNo X0.here hx rfl (hb hby d24_7) rfl (feq (fun q => absurd ((own_oeq (by omega) (by omega)).mp q) (by omega) : ¬ ((Int32.ofNat n) = (Int32.ofNat cap)))).1 kT) ?_
  show Go _ _ _ _ _ _ _  s₁ (mkF m 10 #[.val (.ref a1), .val (.int (0 : Int32)), .val (.int (Int32.ofNat n))] [])
  refine Go.st (fun tT kT => XS.aloadN X0.here hx rfl (hb hby d24_10) rfl rfl  kT) ?_
  refine Go.st (fun tT kT => XS.iloadN X0.here hx rfl (hb hby d24_11) rfl  kT) ?_
  refine Go.st (fun tT kT => XS.iloadN X0.here hx rfl (hb hby d24_12) rfl  kT) ?_
  show Go _ _ _ _ _ _ _  s₁ (mkF m 13 #[.val (.ref a1), .val (.int (0 : Int32)), .val (.int (Int32.ofNat n))] [(.int (Int32.ofNat n)), (.int (0 : Int32)), (.ref a1)])
  obtain ⟨_, _, ⟨T2, L2, k2, n2⟩, -, X2, ⟨Lc2, hQ2, l2, y2, z2⟩, st2⟩ := Jvm.LawKit.callS X0 hx (y := (⟨"java/util/Arrays", "copyOfRangeByte", "([BII)[B"⟩ : MethodName)) hown (mvT hZ (hwi hw 167 rfl)) (mvT hZ (hwi hw 168 rfl)) (mvT hZ (hwi hw 165 rfl)) (mvT hZ (hwi hw 169 rfl)) (by decide) (backOf (W := 0) (rmCRB l Z a0 hw [] a1 n kd cap bs h0 n0 O A_a1 hbs hN1 hN2 hN3) hZ (hwi hw 169 rfl) (hwi hw 165 rfl) (by decide) (by decide)) (g := (mkF m 13 #[.val (.ref a1), .val (.int (0 : Int32)), .val (.int (Int32.ofNat n))] [(.int (Int32.ofNat n)), (.int (0 : Int32)), (.ref a1)])) rfl (by rw [hml]; rfl) (argsL := [(.ref a1), (.int (0 : Int32)), (.int (Int32.ofNat n))]) (rest := []) (lenOf pd___BII__B rfl) rfl (by show 2 * 0 + _ ≤ _; exact Nat.le_of_eq rfl) (hb hby d24_13) (fun _ _ => ⟨rfl, e0, (by decide : 0 + 1 ≤ _), (by decide : 0 + 64 ≤ _)⟩)
  dsimp only [Pt.U, Pt.locs, Pt.cells, Pt.slots] at X2 l2 y2 z2 st2 hQ2
  rw [l2, y2, z2] at X2
  have X2 : Stand p l e _ _ m _ below meth c T2 _ 1 64 := X2
  obtain ⟨t2, kt2, rfl, N2q, E2q, lt2, Vq2⟩ := hQ2
  have N2 := Fr.app N0 N2q
  refine Go.st st2 ?_
  have g_t2 : n0 ≤ t2 := Nat.le_trans (own_le O) lt2
  have sz_t2 : h0.size ≤ t2 := Nat.le_trans KK.1 lt2
  have ne_a1_t2 : a1 ≠ t2 := Nat.ne_of_lt (Nat.lt_of_lt_of_le A_a1.lt lt2)
  have E2 := E2q
  have A_a1 := A_a1.ext E2
  have O := O.ext E2
  have KK := KK.ext E2
  show Go _ _ _ _ _ _ _  T2 (mkF m 16 #[.val (.ref a1), .val (.int (0 : Int32)), .val (.int (Int32.ofNat n))] [(.ref t2)])
  refine Go.retR X2 hlk hx Bd.returns rfl rfl rfl (hb hby d24_16) (by decide) (by decide) ?_
  show Q_rmCR Z _ _ _ _ _ h0 n0 _ T2.heap _
  exact ⟨_, _, rfl, N2, own_ext0 KK, sz_t2, Vq2⟩
def Q_rmCRc (Z : State) (a1 : Addr) (n : Nat) (kd : ClassId) (bs : List Value) (h0 : Heap) (n0 : Nat) (v : Option Value) (h : Heap) (L : List Loc) : Prop := ∃ (b : Addr) (kb : ClassId), v = some (.ref b) ∧ Fr n0 L ∧ Ext h0 h ∧ h0.size ≤ b ∧ Arv Z h b kb .byte (Int32.ofNat n) bs (.int 0)
set_option maxRecDepth 65536 in
set_option maxHeartbeats 40000000 in
theorem rmCRc (l : Launch) (Z : State) (a0 : Array Value) (hw : ∀ d ∈ tables_1, d.before a0 Z = true) (ws : List Jvm.Cond) (a1 : Addr) (n : Nat) (kd : ClassId) (bs : List Value) (h0 : Heap) (n0 : Nat) (O : Old Z n0 h0) (A_a1 : Arv Z h0 a1 kd .byte (Int32.ofNat n) bs (.int 0)) (E_a1 : Exa Z h0 a1 "[B") (hN3 : n ≤ 64) :
    MetFree l (⟨"java/util/Arrays", "copyOfRange", "([BII)[B"⟩ : MethodName) (head1 (Jvm.Cond.code (⟨"java/util/Arrays", "copyOfRange", "([BII)[B"⟩ : MethodName) jdk_65_method_132_code 3 (some (.array .byte)) :: ws) ({ frames := 2, cells := 1, slots := 64, locals := 34 } : Room)) (fun a U => a = #[(.ref a1), (.int (0 : Int32)), (.int (Int32.ofNat n))] ∧ Z.Warmed39 U.vm ∧ U.heap = h0) (fun _ _ _ _ _ => True) (fun _ U o U' => ∃ v L, o = .returned v ∧ Q_rmCRc Z a1 n kd bs h0 n0 v U'.heap L ∧ FrameEnd U o U' L ({ frames := 2, cells := 1, slots := 64, locals := 34 } : Room).cells ({ frames := 2, cells := 1, slots := 64, locals := 34 } : Room).slots) := by
  refine MetFree.of_bodySF (plainFor_of_name pn_24) hisR ?_
  intro p e s m args below meth c s₁ Bd hml0 hP hK
  obtain ⟨rfl, hZ, hh⟩ := hP
  have hx := Bd.exec
  have hby := Bd.bytes
  have hml : c.maxLocals = 3 := hml0
  have hown : s.vm.findClass "java/util/Arrays" = some m.cls := findClass_of_methodNamed Bd.named
  have hnm := (name_of_methodNamed Bd.named Bd.method).1
  have hlk : meth.locks = false := BodyLoose.notSynchronized Bd
  have X0 : Stand p l e ({ frames := 2, cells := 1, slots := 64, locals := 34 } : Room) s m #[(.ref a1), (.int (0 : Int32)), (.int (Int32.ofNat n))] below meth c s₁ [] 0 0 := Stand.of_body Bd
  have e0 : s₁.heap = h0 := by rw [← hh, Bd.state]; rfl
  have N0 := Fr.nil n0
  have KK : Keep h0 h0 [] := Keep.refl h0 _
  show Go p e below s ({ frames := 2, cells := 1, slots := 64, locals := 34 } : Room).cells ({ frames := 2, cells := 1, slots := 64, locals := 34 } : Room).slots (Q_rmCRc Z a1 n kd bs h0 n0) s₁ (entryFrame m #[(.ref a1), (.int (0 : Int32)), (.int (Int32.ofNat n))] 3)
  refine Go.eq (ef_rmCRc m a1 (0 : Int32) (Int32.ofNat n)) ?_
  show Go _ _ _ _ _ _ _  s₁ (mkF m 0 #[.val (.ref a1), .val (.int (0 : Int32)), .val (.int (Int32.ofNat n))] [])
  refine Go.st (fun tT kT => XS.iloadN X0.here hx rfl (hb hby d24_0) rfl  kT) ?_
  show Go _ _ _ _ _ _ _  s₁ (mkF m 1 #[.val (.ref a1), .val (.int (0 : Int32)), .val (.int (Int32.ofNat n))] [(.int (0 : Int32))])
  refine Go.st (fun tT kT => XS.ifNo X0.here hx rfl (hb hby d24_1) rfl ((if0 _ _).trans (teq (rfl : (0 : Int32) = (0 : Int32))).2) kT) ?_
  show Go _ _ _ _ _ _ _  s₁ (mkF m 4 #[.val (.ref a1), .val (.int (0 : Int32)), .val (.int (Int32.ofNat n))] [])
  refine Go.st (fun tT kT => XS.iloadN X0.here hx rfl (hb hby d24_4) rfl  kT) ?_
  refine Go.st (fun tT kT => XS.aloadN X0.here hx rfl (hb hby d24_5) rfl rfl  kT) ?_
  show Go _ _ _ _ _ _ _  s₁ (mkF m 6 #[.val (.ref a1), .val (.int (0 : Int32)), .val (.int (Int32.ofNat n))] [(.ref a1), (.int (Int32.ofNat n))])
  obtain ⟨cl1, Ar1, q1, S1, M1, Hh1, G1⟩ := id A_a1
  refine Go.st (X0.arraylength hx (by rw [e0]; exact Ar1.1) (State.isArrayOf_alike hZ.alike Ar1.2.1) (g := (mkF m 6 #[.val (.ref a1), .val (.int (0 : Int32)), .val (.int (Int32.ofNat n))] [(.ref a1), (.int (Int32.ofNat n))])) rfl rfl (hb hby d24_6)) ?_
  rw [len_of S1 M1]
  show Go _ _ _ _ _ _ _  s₁ (mkF m 7 #[.val (.ref a1), .val (.int (0 : Int32)), .val (.int (Int32.ofNat n))] [(.int (Int32.ofNat n)), (.int (Int32.ofNat n))])
  refine Go.st (fun tT kT => XS.icmpYes X0.here hx rfl (pc0 := 7) (pc' := 17) rfl (hb hby d24_7) rfl (teq (rfl : (Int32.ofNat n) = (Int32.ofNat n))).1 (by decide) (by decide) kT) ?_
  show Go _ _ _ _ _ _ _  s₁ (mkF m 17 #[.val (.ref a1), .val (.int (0 : Int32)), .val (.int (Int32.ofNat n))] [])
  refine Go.st (fun tT kT => XS.aloadN X0.here hx rfl (hb hby d24_17) rfl rfl  kT) ?_
  show Go _ _ _ _ _ _ _  s₁ (mkF m 18 #[.val (.ref a1), .val (.int (0 : Int32)), .val (.int (Int32.ofNat n))] [(.ref a1)])
  obtain ⟨T2, h2, X2, e2, E2, A2, B2, st2⟩ := cloneH X0 hx hZ hown (hwi hw 229 rfl) (hwi hw 230 rfl) (hwi hw 234 rfl) (hwi hw 232 rfl) (hwi hw 233 rfl) (hwi hw 235 rfl) e0 (Arv.arh A_a1) E_a1 (g := (mkF m 18 #[.val (.ref a1), .val (.int (0 : Int32)), .val (.int (Int32.ofNat n))] [(.ref a1)])) rfl (by rw [hml]; rfl) rfl (hb hby d24_18) (by decide) (W := 0) (by show 2 * 0 + _ ≤ _; exact Nat.le_of_eq rfl) (by decide) (cap := 64) (by rw [own_ocl (by omega)]; exact hN3) (by decide) (by decide)
  obtain ⟨b2, g2⟩ : ∃ z, z = h0.size := ⟨_, rfl⟩
  rw [← g2] at A2 B2 st2
  refine Go.st st2 ?_
  have g_b2 : n0 ≤ b2 := by rw [g2]; exact own_le O
  have sz_b2 : h0.size ≤ b2 := by rw [g2]; exact KK.1
  have ne_a1_b2 : a1 ≠ b2 := Nat.ne_of_lt (by rw [g2]; exact A_a1.lt)
  have A_a1 := A_a1.ext E2
  have E_a1 := E_a1.ext E2
  have O := O.ext E2
  have KK := KK.ext E2
  have V_b2 : Arv Z h2 b2 kd .byte (Int32.ofNat n) bs (.int 0) := A2
  have E_b2 := B2
  show Go _ _ _ _ _ _ _  T2 (mkF m 21 #[.val (.ref a1), .val (.int (0 : Int32)), .val (.int (Int32.ofNat n))] [(.ref b2)])
  obtain ⟨T3, X3, e3, st3⟩ := castY X2 hx hZ hown (hwi hw 236 rfl) e2 (Ins.self E_b2) (g := (mkF m 21 #[.val (.ref a1), .val (.int (0 : Int32)), .val (.int (Int32.ofNat n))] [(.ref b2)])) rfl rfl (hb hby d24_21)
  refine Go.st st3 ?_
  show Go _ _ _ _ _ _ _  T3 (mkF m 24 #[.val (.ref a1), .val (.int (0 : Int32)), .val (.int (Int32.ofNat n))] [(.ref b2)])
  refine Go.retR X3 hlk hx Bd.returns rfl rfl rfl (hb hby d24_24) (by decide) (by decide) ?_
  show Q_rmCRc Z _ _ _ _ h0 n0 _ T3.heap _
  rw [e3]
  exact ⟨_, _, rfl, N0, own_ext0 KK, sz_b2, V_b2⟩
def Q_rmT2 (Z : State) (a1 : Addr) (a2 : Addr) (u1 : Value) (u2 : Value) (zc : Int32) (t : Addr) (kd : ClassId) (n : Nat) (cap : Nat) (bs : List Value) (h0 : Heap) (n0 : Nat) (v : Option Value) (h : Heap) (L : List Loc) : Prop := v = none ∧ Fr n0 L ∧ Keep h0 h [a1] ∧ Exa Z h a1 "java/lang/String" ∧ Fld Z h a1 "java/lang/String" "coder" "B" (.int 0) ∧ ∃ (b : Addr) (kb : ClassId), h0.size ≤ b ∧ Fld Z h a1 "java/lang/String" "value" "[B" (.ref b) ∧ Arv Z h b kb .byte (Int32.ofNat n) bs (.int 0)
set_option maxRecDepth 65536 in
set_option maxHeartbeats 40000000 in
theorem rmT2 (l : Launch) (Z : State) (a0 : Array Value) (hw : ∀ d ∈ tables_1, d.before a0 Z = true) (ws : List Jvm.Cond) (a1 : Addr) (a2 : Addr) (u1 : Value) (u2 : Value) (zc : Int32) (t : Addr) (kd : ClassId) (n : Nat) (cap : Nat) (bs : List Value) (h0 : Heap) (n0 : Nat) (O : Old Z n0 h0) (E_a1 : Exa Z h0 a1 "java/lang/String") (F_value_a1 : Fld Z h0 a1 "java/lang/String" "value" "[B" u1) (F_coder_a1 : Fld Z h0 a1 "java/lang/String" "coder" "B" u2) (g_a1 : n0 ≤ a1) (hlt : n < cap) (hcr : n ≤ 64) (S_COMPACT : Sta Z Z.heap "java/lang/String" "COMPACT_STRINGS" "Z" (.int zc)) (hcs : ¬ zc = 0) (E_a2 : Exa Z h0 a2 "java/lang/StringBuilder") (C_a2 : Fld Z h0 a2 "java/lang/AbstractStringBuilder" "coder" "B" (.int 0)) (V_a2 : Fld Z h0 a2 "java/lang/AbstractStringBuilder" "value" "[B" (.ref t)) (N_a2 : Fld Z h0 a2 "java/lang/AbstractStringBuilder" "count" "I" (.int (Int32.ofNat n))) (A_t : Arv Z h0 t kd .byte (Int32.ofNat cap) bs (.int 0)) (L_a2 : bs.length = n) (K_a2 : n ≤ cap) (B_a2 : cap < 100000) :
    MetFree l (⟨"java/lang/String", "<init>", "(Ljava/lang/AbstractStringBuilder;Ljava/lang/Void;)V"⟩ : MethodName) (head1 (Jvm.Cond.code (⟨"java/lang/String", "<init>", "(Ljava/lang/AbstractStringBuilder;Ljava/lang/Void;)V"⟩ : MethodName) jdk_42_method_150_code 5 none :: ws) ({ frames := 3, cells := 1, slots := 64, locals := 49 } : Room)) (fun a U => a = #[(.ref a1), (.ref a2), .null] ∧ Z.Warmed39 U.vm ∧ U.heap = h0) (fun _ _ _ _ _ => True) (fun _ U o U' => ∃ v L, o = .returned v ∧ Q_rmT2 Z a1 a2 u1 u2 zc t kd n cap bs h0 n0 v U'.heap L ∧ FrameEnd U o U' L ({ frames := 3, cells := 1, slots := 64, locals := 49 } : Room).cells ({ frames := 3, cells := 1, slots := 64, locals := 49 } : Room).slots) := by
  refine MetFree.of_bodySF (plainFor_of_name pn_20) hisR ?_
  intro p e s m args below meth c s₁ Bd hml0 hP hK
  obtain ⟨rfl, hZ, hh⟩ := hP
  have hx := Bd.exec
  have hby := Bd.bytes
  have hml : c.maxLocals = 5 := hml0
  have hown : s.vm.findClass "java/lang/String" = some m.cls := findClass_of_methodNamed Bd.named
  have hnm := (name_of_methodNamed Bd.named Bd.method).1
  have hlk : meth.locks = false := BodyLoose.notSynchronized Bd
  have X0 : Stand p l e ({ frames := 3, cells := 1, slots := 64, locals := 49 } : Room) s m #[(.ref a1), (.ref a2), .null] below meth c s₁ [] 0 0 := Stand.of_body Bd
  have e0 : s₁.heap = h0 := by rw [← hh, Bd.state]; rfl
  have N0 := Fr.nil n0
  have KK : Keep h0 h0 [a1] := Keep.refl h0 _
  show Go p e below s ({ frames := 3, cells := 1, slots := 64, locals := 49 } : Room).cells ({ frames := 3, cells := 1, slots := 64, locals := 49 } : Room).slots (Q_rmT2 Z a1 a2 u1 u2 zc t kd n cap bs h0 n0) s₁ (entryFrame m #[(.ref a1), (.ref a2), .null] 5)
  refine Go.eq (ef_rmT2 m a1 a2) ?_
  show Go _ _ _ _ _ _ _  s₁ (mkF m 0 #[.val (.ref a1), .val (.ref a2), .val .null, .unset, .unset] [])
  refine Go.st (fun tT kT => XS.aloadN X0.here hx rfl (hb hby d20_0) rfl rfl  kT) ?_
  show Go _ _ _ _ _ _ _  s₁ (mkF m 1 #[.val (.ref a1), .val (.ref a2), .val .null, .unset, .unset] [(.ref a1)])
  obtain ⟨T1, X1, e1, st1⟩ := initO X0 hx hZ hown (hwi hw 148 rfl) (hwi hw 51 rfl) (hwi hw 52 rfl) e0 (g := (mkF m 1 #[.val (.ref a1), .val (.ref a2), .val .null, .unset, .unset] [(.ref a1)])) rfl (by rw [hml]; rfl) rfl (hb hby d20_1) (by decide) (W := 0) (by show 2 * 0 + _ ≤ _; exact Nat.le_of_eq rfl) (by decide)
  refine Go.st st1 ?_
  show Go _ _ _ _ _ _ _  T1 (mkF m 4 #[.val (.ref a1), .val (.ref a2), .val .null, .unset, .unset] [])
  refine Go.st (fun tT kT => XS.aloadN X1.here hx rfl (hb hby d20_4) rfl rfl  kT) ?_
  show Go _ _ _ _ _ _ _  T1 (mkF m 5 #[.val (.ref a1), .val (.ref a2), .val .null, .unset, .unset] [(.ref a2)])
  obtain ⟨cq2, kq2, q2a, q2b, q2c⟩ := isOf hZ e1 E_a2
  refine Go.pure (w := (some (.ref t))) (rest := []) (pc' := 8) (X1.virtualBack hx (y := (⟨"java/lang/AbstractStringBuilder", "getValue", "()[B"⟩ : MethodName)) (z := (⟨"java/lang/AbstractStringBuilder", "getValue", "()[B"⟩ : MethodName)) hown (mvT hZ (hwi hw 149 rfl)) (mvT hZ (hwi hw 150 rfl)) (notFace_of_selects (args := #[]) (mvT hZ (hwi hw 152 rfl))) (mvT hZ (hwi hw 152 rfl)) (mvT hZ (hwi hw 151 rfl)) (by decide) (backOf (W := 0) (rmGV l Z a0 hw [] a2 t h0 n0 O V_a2) hZ (hwi hw 153 rfl) (hwi hw 48 rfl) (by decide) (by decide)) q2a q2c (g := (mkF m 5 #[.val (.ref a1), .val (.ref a2), .val .null, .unset, .unset] [(.ref a2)])) rfl (by rw [hml]; rfl) (Steps.refl _) (argsL := []) (rest := []) (lenOf pd____B rfl) rfl (by show 2 * 0 + _ ≤ _; exact Nat.le_of_eq rfl) (hb hby d20_5) (fun _ _ => ⟨rfl, e1, (by decide : 0 + 0 ≤ _), (by decide : 0 + 0 ≤ _)⟩)) (fun _ _ _ q => q) N0 (fun T2 L2 X2 e2q N2 => ?_)
  show Go _ _ _ _ _ _ _  T2 (mkF m 8 #[.val (.ref a1), .val (.ref a2), .val .null, .unset, .unset] [(.ref t)])
  refine Go.st (fun tT kT => XS.astoreN X2.here hx rfl (hb hby d20_8) rfl rfl (l' := #[.val (.ref a1), .val (.ref a2), .val .null, .val (.ref t), .unset]) rfl kT) ?_
  refine Go.st (fun tT kT => XS.aloadN X2.here hx rfl (hb hby d20_9) rfl rfl  kT) ?_
  show Go _ _ _ _ _ _ _  T2 (mkF m 10 #[.val (.ref a1), .val (.ref a2), .val .null, .val (.ref t), .unset] [(.ref a2)])
  obtain ⟨cq3, kq3, q3a, q3b, q3c⟩ := isOf hZ e2q E_a2
  refine Go.pure (w := (some (.int (Int32.ofNat n)))) (rest := []) (pc' := 13) (X2.virtualBack hx (y := (⟨"java/lang/AbstractStringBuilder", "length", "()I"⟩ : MethodName)) (z := (⟨"java/lang/StringBuilder", "length", "()I"⟩ : MethodName)) hown (mvT hZ (hwi hw 154 rfl)) (mvT hZ (hwi hw 155 rfl)) (own_nf (args := #[]) (mvT hZ (hwi hw 152 rfl)) rfl) (mvT hZ (hwi hw 157 rfl)) (mvT hZ (hwi hw 158 rfl)) (by decide) (backOf (W := 0) (rmSL l Z a0 hw [] a2 (Int32.ofNat n) h0 n0 O E_a2 N_a2) hZ (hwi hw 159 rfl) (hwi hw 40 rfl) (by decide) (by decide)) q3a q3c (g := (mkF m 10 #[.val (.ref a1), .val (.ref a2), .val .null, .val (.ref t), .unset] [(.ref a2)])) rfl (by rw [hml]; rfl) (Steps.refl _) (argsL := []) (rest := []) (lenOf pd___I rfl) rfl (by show 2 * 0 + _ ≤ _; exact Nat.le_of_eq rfl) (hb hby d20_10) (fun _ _ => ⟨rfl, e2q, (by decide : 0 + 0 ≤ _), (by decide : 0 + 0 ≤ _)⟩)) (fun _ _ _ q => q) N2 (fun T3 L3 X3 e3q N3 => ?_)
  show Go _ _ _ _ _ _ _  T3 (mkF m 13 #[.val (.ref a1), .val (.ref a2), .val .null, .val (.ref t), .unset] [(.int (Int32.ofNat n))])
  refine Go.st (fun tT kT => XS.istore X3.here hx rfl (hb hby d20_13) rfl (l' := #[.val (.ref a1), .val (.ref a2), .val .null, .val (.ref t), .val (.int (Int32.ofNat n))]) rfl kT) ?_
  refine Go.st (fun tT kT => XS.aloadN X3.here hx rfl (hb hby d20_15) rfl rfl  kT) ?_
  show Go _ _ _ _ _ _ _  T3 (mkF m 16 #[.val (.ref a1), .val (.ref a2), .val .null, .val (.ref t), .val (.int (Int32.ofNat n))] [(.ref a2)])
  obtain ⟨cq4, kq4, q4a, q4b, q4c⟩ := isOf hZ e3q E_a2
  refine Go.pure (w := (some (.int (1 : Int32)))) (rest := []) (pc' := 19) (X3.virtualBack hx (y := (⟨"java/lang/AbstractStringBuilder", "isLatin1", "()Z"⟩ : MethodName)) (z := (⟨"java/lang/AbstractStringBuilder", "isLatin1", "()Z"⟩ : MethodName)) hown (mvT hZ (hwi hw 162 rfl)) (mvT hZ (hwi hw 81 rfl)) (notFace_of_selects (args := #[]) (mvT hZ (hwi hw 83 rfl))) (mvT hZ (hwi hw 83 rfl)) (mvT hZ (hwi hw 82 rfl)) (by decide) (backOf (W := 0) (rmIL l Z a0 hw [] a2 zc h0 n0 O S_COMPACT hcs C_a2) hZ (hwi hw 84 rfl) (hwi hw 48 rfl) (by decide) (by decide)) q4a q4c (g := (mkF m 16 #[.val (.ref a1), .val (.ref a2), .val .null, .val (.ref t), .val (.int (Int32.ofNat n))] [(.ref a2)])) rfl (by rw [hml]; rfl) (Steps.refl _) (argsL := []) (rest := []) (lenOf pd___Z rfl) rfl (by show 2 * 0 + _ ≤ _; exact Nat.le_of_eq rfl) (hb hby d20_16) (fun _ _ => ⟨rfl, e3q, (by decide : 0 + 0 ≤ _), (by decide : 0 + 0 ≤ _)⟩)) (fun _ _ _ q => q) N3 (fun T4 L4 X4 e4q N4 => ?_)
  show Go _ _ _ _ _ _ _  T4 (mkF m 19 #[.val (.ref a1), .val (.ref a2), .val .null, .val (.ref t), .val (.int (Int32.ofNat n))] [(.int (1 : Int32))])
  refine Go.st (fun tT kT => XS.ifNo X4.here hx rfl (hb hby d20_19) rfl ((if0 _ _).trans (feq (by decide : ¬ ((1 : Int32) = (0 : Int32)))).1) kT) ?_
  show Go _ _ _ _ _ _ _  T4 (mkF m 22 #[.val (.ref a1), .val (.ref a2), .val .null, .val (.ref t), .val (.int (Int32.ofNat n))] [])
  refine Go.st (fun tT kT => XS.aloadN X4.here hx rfl (hb hby d20_22) rfl rfl  kT) ?_
  refine Go.st (fun tT kT => XS.iconst X4.here hx rfl (hb hby d20_23) kT) ?_
  show Go _ _ _ _ _ _ _  T4 (mkF m 24 #[.val (.ref a1), .val (.ref a2), .val .null, .val (.ref t), .val (.int (Int32.ofNat n))] [(.int (0 : Int32)), (.ref a1)])
  obtain ⟨T5, h5, X5, e5, W5, st5⟩ := putFN X4 hx hZ hown (hwi hw 114 rfl) Via.refl e4q F_coder_a1 E_a1 (Or.inr ⟨(hwi hw 29 rfl), rfl, hnm⟩) (hwi hw 26 rfl) (ty := .byte) (v' := .int (0 : Int32)) (by decide) rfl rfl (g := (mkF m 24 #[.val (.ref a1), .val (.ref a2), .val .null, .val (.ref t), .val (.int (Int32.ofNat n))] [(.int (0 : Int32)), (.ref a1)])) rfl rfl (hb hby d20_24)
  refine Go.st st5 ?_
  have F_coder_a1 : Fld Z h5 a1 "java/lang/String" "coder" "B" (.int (0 : Int32)) := F_coder_a1.same W5
  have N5 := Fr.snoc X5 N4 g_a1
  have ne_t_a1 : t ≠ a1 := (Ne.symm (Exa.neArv E_a1 A_t (hwi hw 26 rfl)))
  have ne_a2_a1 : a2 ≠ a1 := (ne_exa E_a2 E_a1 (by decide))
  have E_a2 := E_a2.wr W5
  have A_t := A_t.other W5 ne_t_a1
  have C_a2 := C_a2.other W5 (Or.inl ne_a2_a1)
  have V_a2 := V_a2.other W5 (Or.inl ne_a2_a1)
  have N_a2 := N_a2.other W5 (Or.inl ne_a2_a1)
  have E_a1 := E_a1.wr W5
  have F_value_a1 := F_value_a1.other W5 (Or.inr (slot_ne (Or.inr (hwi hw 28 rfl)) (Or.inr (hwi hw 29 rfl)) (by decide) (t := (.array .byte)) (t' := .byte) (by decide) (by decide)))
  have O := O.wr W5 g_a1
  have KK := KK.wr W5 (Or.inl (List.mem_of_getElem? (i := 0) rfl))
  show Go _ _ _ _ _ _ _  T5 (mkF m 27 #[.val (.ref a1), .val (.ref a2), .val .null, .val (.ref t), .val (.int (Int32.ofNat n))] [])
  refine Go.st (fun tT kT => XS.aloadN X5.here hx rfl (hb hby d20_27) rfl rfl  kT) ?_
  refine Go.st (fun tT kT => XS.aloadN X5.here hx rfl (hb hby d20_28) rfl rfl  kT) ?_
  refine Go.st (fun tT kT => XS.iconst X5.here hx rfl (hb hby d20_29) kT) ?_
  show Go _ _ _ _ _ _ _  T5 (mkF m 30 #[.val (.ref a1), .val (.ref a2), .val .null, .val (.ref t), .val (.int (Int32.ofNat n))] [(.int (0 : Int32)), (.ref t), (.ref a1)])
  refine Go.st (fun tT kT => XS.iload X5.here hx rfl (hb hby d20_30) rfl  kT) ?_
  show Go _ _ _ _ _ _ _  T5 (mkF m 32 #[.val (.ref a1), .val (.ref a2), .val .null, .val (.ref t), .val (.int (Int32.ofNat n))] [(.int (Int32.ofNat n)), (.int (0 : Int32)), (.ref t), (.ref a1)])
  obtain ⟨_, _, ⟨T6, L6, k6, n6⟩, -, X6, ⟨Lc6, hQ6, l6, y6, z6⟩, st6⟩ := Jvm.LawKit.callS X5 hx (y := (⟨"java/util/Arrays", "copyOfRange", "([BII)[B"⟩ : MethodName)) hown (mvT hZ (hwi hw 163 rfl)) (mvT hZ (hwi hw 164 rfl)) (mvT hZ (hwi hw 165 rfl)) (mvT hZ (hwi hw 166 rfl)) (by decide) (backOf (W := 1) (rmCR l Z a0 hw [] t n kd cap bs h5 n0 O A_t L_a2 hlt B_a2 hcr) hZ (hwi hw 166 rfl) (hwi hw 165 rfl) (by decide) (by decide)) (g := (mkF m 32 #[.val (.ref a1), .val (.ref a2), .val .null, .val (.ref t), .val (.int (Int32.ofNat n))] [(.int (Int32.ofNat n)), (.int (0 : Int32)), (.ref t), (.ref a1)])) rfl (by rw [hml]; rfl) (argsL := [(.ref t), (.int (0 : Int32)), (.int (Int32.ofNat n))]) (rest := [(.ref a1)]) (lenOf pd___BII__B rfl) rfl (by show 2 * 0 + _ ≤ _; exact Nat.le_of_eq rfl) (hb hby d20_32) (fun _ _ => ⟨rfl, e5, (by decide : 0 + 1 ≤ _), (by decide : 0 + 64 ≤ _)⟩)
  dsimp only [Pt.U, Pt.locs, Pt.cells, Pt.slots] at X6 l6 y6 z6 st6 hQ6
  rw [l6, y6, z6] at X6
  have X6 : Stand p l e _ _ m _ below meth c T6 _ 1 64 := X6
  obtain ⟨t6, kt6, rfl, N6q, E6q, lt6, Vq6⟩ := hQ6
  have N6 := Fr.app N5 N6q
  refine Go.st st6 ?_
  have g_t6 : n0 ≤ t6 := Nat.le_trans (own_le O) lt6
  have sz_t6 : h0.size ≤ t6 := Nat.le_trans KK.1 lt6
  have ne_a2_t6 : a2 ≠ t6 := Nat.ne_of_lt (Nat.lt_of_lt_of_le E_a2.lt lt6)
  have ne_t_t6 : t ≠ t6 := Nat.ne_of_lt (Nat.lt_of_lt_of_le A_t.lt lt6)
  have ne_a1_t6 : a1 ≠ t6 := Nat.ne_of_lt (Nat.lt_of_lt_of_le E_a1.lt lt6)
  have E6 := E6q
  have E_a2 := E_a2.ext E6
  have A_t := A_t.ext E6
  have C_a2 := C_a2.ext E6
  have V_a2 := V_a2.ext E6
  have N_a2 := N_a2.ext E6
  have E_a1 := E_a1.ext E6
  have F_value_a1 := F_value_a1.ext E6
  have F_coder_a1 := F_coder_a1.ext E6
  have O := O.ext E6
  have KK := KK.ext E6
  show Go _ _ _ _ _ _ _  T6 (mkF m 35 #[.val (.ref a1), .val (.ref a2), .val .null, .val (.ref t), .val (.int (Int32.ofNat n))] [(.ref t6), (.ref a1)])
  obtain ⟨T7, h7, X7, e7, W7, st7⟩ := putF X6 hx hZ hown (host := "") (Or.inl (hwi hw 107 rfl)) Via.refl rfl F_value_a1 E_a1 (Or.inr ⟨(hwi hw 28 rfl), rfl, hnm⟩) (hwi hw 26 rfl) (ty := (.array .byte)) (by decide) rfl rfl (g := (mkF m 35 #[.val (.ref a1), .val (.ref a2), .val .null, .val (.ref t), .val (.int (Int32.ofNat n))] [(.ref t6), (.ref a1)])) rfl rfl (hb hby d20_35)
  refine Go.st st7 ?_
  have F_value_a1 : Fld Z h7 a1 "java/lang/String" "value" "[B" (.ref t6) := F_value_a1.same W7
  have N7 := Fr.snoc X7 N6 g_a1
  have E_a2 := E_a2.wr W7
  have A_t := A_t.other W7 ne_t_a1
  have C_a2 := C_a2.other W7 (Or.inl ne_a2_a1)
  have V_a2 := V_a2.other W7 (Or.inl ne_a2_a1)
  have N_a2 := N_a2.other W7 (Or.inl ne_a2_a1)
  have E_a1 := E_a1.wr W7
  have F_coder_a1 := F_coder_a1.other W7 (Or.inr (slot_ne (Or.inr (hwi hw 29 rfl)) (Or.inr (hwi hw 28 rfl)) (by decide) (t := .byte) (t' := (.array .byte)) (by decide) (by decide)))
  have Vq6 := Vq6.other W7 (Ne.symm ne_a1_t6)
  have O := O.wr W7 g_a1
  have KK := KK.wr W7 (Or.inl (List.mem_of_getElem? (i := 0) rfl))
  show Go _ _ _ _ _ _ _  T7 (mkF m 38 #[.val (.ref a1), .val (.ref a2), .val .null, .val (.ref t), .val (.int (Int32.ofNat n))] [])
  refine Go.st (fun tT kT => XS.goto X7.here hx rfl (pc0 := 38) (pc' := 97) rfl (hb hby d20_38) (by decide) (by decide) kT) ?_
  show Go _ _ _ _ _ _ _  T7 (mkF m 97 #[.val (.ref a1), .val (.ref a2), .val .null, .val (.ref t), .val (.int (Int32.ofNat n))] [])
  refine Go.ret0 X7 hlk hx Bd.returns (hb hby d20_97) (by decide) (by decide) ?_
  show Q_rmT2 Z _ _ _ _ _ _ _ _ _ _ h0 n0 _ T7.heap _
  rw [e7]
  exact ⟨rfl, N7, KK, E_a1, F_coder_a1, t6, _, sz_t6, F_value_a1, Vq6⟩
def Q_rmT1 (Z : State) (a1 : Addr) (a2 : Addr) (u1 : Value) (u2 : Value) (zc : Int32) (t : Addr) (kd : ClassId) (n : Nat) (cap : Nat) (bs : List Value) (h0 : Heap) (n0 : Nat) (v : Option Value) (h : Heap) (L : List Loc) : Prop := v = none ∧ Fr n0 L ∧ Keep h0 h [a1] ∧ Exa Z h a1 "java/lang/String" ∧ Fld Z h a1 "java/lang/String" "coder" "B" (.int 0) ∧ ∃ (b : Addr) (kb : ClassId), h0.size ≤ b ∧ Fld Z h a1 "java/lang/String" "value" "[B" (.ref b) ∧ Arv Z h b kb .byte (Int32.ofNat n) bs (.int 0)
set_option maxRecDepth 65536 in
set_option maxHeartbeats 40000000 in
theorem rmT1 (l : Launch) (Z : State) (a0 : Array Value) (hw : ∀ d ∈ tables_1, d.before a0 Z = true) (ws : List Jvm.Cond) (a1 : Addr) (a2 : Addr) (u1 : Value) (u2 : Value) (zc : Int32) (t : Addr) (kd : ClassId) (n : Nat) (cap : Nat) (bs : List Value) (h0 : Heap) (n0 : Nat) (O : Old Z n0 h0) (E_a1 : Exa Z h0 a1 "java/lang/String") (F_value_a1 : Fld Z h0 a1 "java/lang/String" "value" "[B" u1) (F_coder_a1 : Fld Z h0 a1 "java/lang/String" "coder" "B" u2) (g_a1 : n0 ≤ a1) (hlt : n < cap) (hcr : n ≤ 64) (S_COMPACT : Sta Z Z.heap "java/lang/String" "COMPACT_STRINGS" "Z" (.int zc)) (hcs : ¬ zc = 0) (E_a2 : Exa Z h0 a2 "java/lang/StringBuilder") (C_a2 : Fld Z h0 a2 "java/lang/AbstractStringBuilder" "coder" "B" (.int 0)) (V_a2 : Fld Z h0 a2 "java/lang/AbstractStringBuilder" "value" "[B" (.ref t)) (N_a2 : Fld Z h0 a2 "java/lang/AbstractStringBuilder" "count" "I" (.int (Int32.ofNat n))) (A_t : Arv Z h0 t kd .byte (Int32.ofNat cap) bs (.int 0)) (L_a2 : bs.length = n) (K_a2 : n ≤ cap) (B_a2 : cap < 100000) :
    MetFree l (⟨"java/lang/String", "<init>", "(Ljava/lang/StringBuilder;)V"⟩ : MethodName) (head1 (Jvm.Cond.code (⟨"java/lang/String", "<init>", "(Ljava/lang/StringBuilder;)V"⟩ : MethodName) jdk_42_method_53_code 2 none :: ws) ({ frames := 4, cells := 1, slots := 64, locals := 65 } : Room)) (fun a U => a = #[(.ref a1), (.ref a2)] ∧ Z.Warmed39 U.vm ∧ U.heap = h0) (fun _ _ _ _ _ => True) (fun _ U o U' => ∃ v L, o = .returned v ∧ Q_rmT1 Z a1 a2 u1 u2 zc t kd n cap bs h0 n0 v U'.heap L ∧ FrameEnd U o U' L ({ frames := 4, cells := 1, slots := 64, locals := 65 } : Room).cells ({ frames := 4, cells := 1, slots := 64, locals := 65 } : Room).slots) := by
  refine MetFree.of_bodySF (plainFor_of_name pn_19) hisR ?_
  intro p e s m args below meth c s₁ Bd hml0 hP hK
  obtain ⟨rfl, hZ, hh⟩ := hP
  have hx := Bd.exec
  have hby := Bd.bytes
  have hml : c.maxLocals = 2 := hml0
  have hown : s.vm.findClass "java/lang/String" = some m.cls := findClass_of_methodNamed Bd.named
  have hnm := (name_of_methodNamed Bd.named Bd.method).1
  have hlk : meth.locks = false := BodyLoose.notSynchronized Bd
  have X0 : Stand p l e ({ frames := 4, cells := 1, slots := 64, locals := 65 } : Room) s m #[(.ref a1), (.ref a2)] below meth c s₁ [] 0 0 := Stand.of_body Bd
  have e0 : s₁.heap = h0 := by rw [← hh, Bd.state]; rfl
  have N0 := Fr.nil n0
  have KK : Keep h0 h0 [a1] := Keep.refl h0 _
  show Go p e below s ({ frames := 4, cells := 1, slots := 64, locals := 65 } : Room).cells ({ frames := 4, cells := 1, slots := 64, locals := 65 } : Room).slots (Q_rmT1 Z a1 a2 u1 u2 zc t kd n cap bs h0 n0) s₁ (entryFrame m #[(.ref a1), (.ref a2)] 2)
  refine Go.eq (ef_rmT1 m a1 a2) ?_
  show Go _ _ _ _ _ _ _  s₁ (mkF m 0 #[.val (.ref a1), .val (.ref a2)] [])
  refine Go.st (fun tT kT => XS.aloadN X0.here hx rfl (hb hby d19_0) rfl rfl  kT) ?_
  refine Go.st (fun tT kT => XS.aloadN X0.here hx rfl (hb hby d19_1) rfl rfl  kT) ?_
  refine Go.st (fun tT kT => XS.aconstNull X0.here hx rfl (hb hby d19_2) kT) ?_
  show Go _ _ _ _ _ _ _  s₁ (mkF m 3 #[.val (.ref a1), .val (.ref a2)] [.null, (.ref a2), (.ref a1)])
  obtain ⟨_, _, ⟨T1, L1, k1, n1⟩, -, X1, ⟨Lc1, hQ1, l1, y1, z1⟩, st1⟩ := X0.specialBack hx (y := (⟨"java/lang/String", "<init>", "(Ljava/lang/AbstractStringBuilder;Ljava/lang/Void;)V"⟩ : MethodName)) rfl hown (mvT hZ (hwi hw 145 rfl)) (mvT hZ (hwi hw 146 rfl)) (mvT hZ (hwi hw 147 rfl)) (by decide) (backOf (W := 0) (rmT2 l Z a0 hw [] a1 a2 u1 u2 zc t kd n cap bs h0 n0 O E_a1 F_value_a1 F_coder_a1 g_a1 hlt hcr S_COMPACT hcs E_a2 C_a2 V_a2 N_a2 A_t L_a2 K_a2 B_a2) hZ (hwi hw 147 rfl) (hwi hw 25 rfl) (by decide) (by decide)) (g := (mkF m 3 #[.val (.ref a1), .val (.ref a2)] [.null, (.ref a2), (.ref a1)])) rfl (by rw [hml]; rfl) (Steps.refl _) (a := a1) (argsL := [(.ref a2), .null]) (rest := []) (lenOf pd__Ljava_lang_AbstractStringBuilder_Ljava_lang_Void__V rfl) rfl (by show 2 * 0 + _ ≤ _; exact Nat.le_of_eq rfl) (hb hby d19_3) (fun _ _ => ⟨rfl, e0, (by decide : 0 + 1 ≤ _), (by decide : 0 + 64 ≤ _)⟩)
  dsimp only [Pt.U, Pt.locs, Pt.cells, Pt.slots] at X1 l1 y1 z1 st1 hQ1
  rw [l1, y1, z1] at X1
  have X1 : Stand p l e _ _ m _ below meth c T1 _ 1 64 := X1
  obtain ⟨rfl, N1q, K1q, Q1⟩ := hQ1
  have N1 := Fr.app N0 N1q
  refine Go.tr st1 ?_
  have ne_t_a1 : t ≠ a1 := (Ne.symm (Exa.neArv E_a1 A_t (hwi hw 26 rfl)))
  have ne_a2_a1 : a2 ≠ a1 := (ne_exa E_a2 E_a1 (by decide))
  have E_a2 := E_a2.keep K1q
  have A_t := A_t.keep K1q (ninS ne_t_a1 nin0)
  have C_a2 := C_a2.keep K1q (ninS ne_a2_a1 nin0)
  have V_a2 := V_a2.keep K1q (ninS ne_a2_a1 nin0)
  have N_a2 := N_a2.keep K1q (ninS ne_a2_a1 nin0)
  have E_a1 := E_a1.keep K1q
  have O := O.keep K1q (allS g_a1 all0)
  have KK := KK.trans K1q (allS (Or.inl (List.mem_of_getElem? (i := 0) rfl)) all0)
  show Go _ _ _ _ _ _ _  T1 (mkF m 6 #[.val (.ref a1), .val (.ref a2)] [])
  refine Go.ret0 X1 hlk hx Bd.returns (hb hby d19_6) (by decide) (by decide) ?_
  show Q_rmT1 Z _ _ _ _ _ _ _ _ _ _ h0 n0 _ T1.heap _
  exact ⟨rfl, N1, KK, Q1⟩
def Q_rmTS (Z : State) (a1 : Addr) (zc : Int32) (t : Addr) (kd : ClassId) (n : Nat) (cap : Nat) (bs : List Value) (h0 : Heap) (n0 : Nat) (v : Option Value) (h : Heap) (L : List Loc) : Prop := ∃ (x b : Addr) (kb : ClassId), v = some (.ref x) ∧ Fr n0 L ∧ Ext h0 h ∧ h0.size ≤ x ∧ h0.size ≤ b ∧ Exa Z h x "java/lang/String" ∧ Fld Z h x "java/lang/String" "coder" "B" (.int 0) ∧ Fld Z h x "java/lang/String" "value" "[B" (.ref b) ∧ Arv Z h b kb .byte (Int32.ofNat n) bs (.int 0)
set_option maxRecDepth 65536 in
set_option maxHeartbeats 40000000 in
theorem rmTS (l : Launch) (Z : State) (a0 : Array Value) (hw : ∀ d ∈ tables_1, d.before a0 Z = true) (ws : List Jvm.Cond) (a1 : Addr) (zc : Int32) (t : Addr) (kd : ClassId) (n : Nat) (cap : Nat) (bs : List Value) (h0 : Heap) (n0 : Nat) (O : Old Z n0 h0) (hlt : n < cap) (hcr : n ≤ 64) (S_COMPACT : Sta Z Z.heap "java/lang/String" "COMPACT_STRINGS" "Z" (.int zc)) (hcs : ¬ zc = 0) (E_a1 : Exa Z h0 a1 "java/lang/StringBuilder") (C_a1 : Fld Z h0 a1 "java/lang/AbstractStringBuilder" "coder" "B" (.int 0)) (V_a1 : Fld Z h0 a1 "java/lang/AbstractStringBuilder" "value" "[B" (.ref t)) (N_a1 : Fld Z h0 a1 "java/lang/AbstractStringBuilder" "count" "I" (.int (Int32.ofNat n))) (A_t : Arv Z h0 t kd .byte (Int32.ofNat cap) bs (.int 0)) (L_a1 : bs.length = n) (K_a1 : n ≤ cap) (B_a1 : cap < 100000) :
    MetFree l (⟨"java/lang/StringBuilder", "toString", "()Ljava/lang/String;"⟩ : MethodName) (head1 (Jvm.Cond.code (⟨"java/lang/StringBuilder", "toString", "()Ljava/lang/String;"⟩ : MethodName) jdk_67_method_42_code 1 (some (.object "java/lang/String")) :: ws) ({ frames := 5, cells := 2, slots := 68, locals := 79 } : Room)) (fun a U => a = #[(.ref a1)] ∧ Z.Warmed39 U.vm ∧ U.heap = h0) (fun _ _ _ _ _ => True) (fun _ U o U' => ∃ v L, o = .returned v ∧ Q_rmTS Z a1 zc t kd n cap bs h0 n0 v U'.heap L ∧ FrameEnd U o U' L ({ frames := 5, cells := 2, slots := 68, locals := 79 } : Room).cells ({ frames := 5, cells := 2, slots := 68, locals := 79 } : Room).slots) := by
  refine MetFree.of_bodySF (plainFor_of_name pn_18) hisR ?_
  intro p e s m args below meth c s₁ Bd hml0 hP hK
  obtain ⟨rfl, hZ, hh⟩ := hP
  have hx := Bd.exec
  have hby := Bd.bytes
  have hml : c.maxLocals = 1 := hml0
  have hown : s.vm.findClass "java/lang/StringBuilder" = some m.cls := findClass_of_methodNamed Bd.named
  have hnm := (name_of_methodNamed Bd.named Bd.method).1
  have hlk : meth.locks = false := BodyLoose.notSynchronized Bd
  have X0 : Stand p l e ({ frames := 5, cells := 2, slots := 68, locals := 79 } : Room) s m #[(.ref a1)] below meth c s₁ [] 0 0 := Stand.of_body Bd
  have e0 : s₁.heap = h0 := by rw [← hh, Bd.state]; rfl
  have N0 := Fr.nil n0
  have KK : Keep h0 h0 [] := Keep.refl h0 _
  show Go p e below s ({ frames := 5, cells := 2, slots := 68, locals := 79 } : Room).cells ({ frames := 5, cells := 2, slots := 68, locals := 79 } : Room).slots (Q_rmTS Z a1 zc t kd n cap bs h0 n0) s₁ (entryFrame m #[(.ref a1)] 1)
  refine Go.eq (ef_rmTS m a1) ?_
  show Go _ _ _ _ _ _ _  s₁ (mkF m 0 #[.val (.ref a1)] [])
  obtain ⟨T1, h1, X1, e1, E1, A1, D1, U1, st1⟩ := newO X0 hx hZ hown (hwi hw 140 rfl) (hwi hw 26 rfl) (hwi hw 25 rfl) e0 (g := (mkF m 0 #[.val (.ref a1)] [])) rfl (hb hby d18_0) (by decide) (by decide)
  obtain ⟨b1, g1⟩ : ∃ z, z = h0.size := ⟨_, rfl⟩
  rw [← g1] at A1 D1 U1 st1
  refine Go.st st1 ?_
  have g_b1 : n0 ≤ b1 := by rw [g1]; exact own_le O
  have sz_b1 : h0.size ≤ b1 := by rw [g1]; exact KK.1
  have ne_a1_b1 : a1 ≠ b1 := Nat.ne_of_lt (by rw [g1]; exact E_a1.lt)
  have ne_t_b1 : t ≠ b1 := Nat.ne_of_lt (by rw [g1]; exact A_t.lt)
  have E_a1 := E_a1.ext E1
  have A_t := A_t.ext E1
  have C_a1 := C_a1.ext E1
  have V_a1 := V_a1.ext E1
  have N_a1 := N_a1.ext E1
  have O := O.ext E1
  have KK := KK.ext E1
  have E_b1 := A1
  have F_value_b1 : Fld Z h1 b1 "java/lang/String" "value" "[B" .null := D1 (Or.inr (hwi hw 28 rfl)) (ty := (.array .byte)) (by decide)
  have F_coder_b1 : Fld Z h1 b1 "java/lang/String" "coder" "B" (.int (0 : Int32)) := D1 (Or.inr (hwi hw 29 rfl)) (ty := .byte) (by decide)
  show Go _ _ _ _ _ _ _  T1 (mkF m 3 #[.val (.ref a1)] [(.ref b1)])
  refine Go.st (fun tT kT => XS.dup X1.here hx rfl (hb hby d18_3) rfl rfl kT) ?_
  refine Go.st (fun tT kT => XS.aloadN X1.here hx rfl (hb hby d18_4) rfl rfl  kT) ?_
  have KK0 := KK
  show Go _ _ _ _ _ _ _  T1 (mkF m 5 #[.val (.ref a1)] [(.ref a1), (.ref b1), (.ref b1)])
  obtain ⟨_, _, ⟨T2, L2, k2, n2⟩, -, X2, ⟨Lc2, hQ2, l2, y2, z2⟩, st2⟩ := X1.specialBack hx (y := (⟨"java/lang/String", "<init>", "(Ljava/lang/StringBuilder;)V"⟩ : MethodName)) rfl hown (mvT hZ (hwi hw 141 rfl)) (mvT hZ (hwi hw 142 rfl)) (mvT hZ (hwi hw 144 rfl)) (by decide) (backOf (W := 1) (rmT1 l Z a0 hw [] b1 a1 .null (.int (0 : Int32)) zc t kd n cap bs h1 n0 O E_b1 F_value_b1 F_coder_b1 g_b1 hlt hcr S_COMPACT hcs E_a1 C_a1 V_a1 N_a1 A_t L_a1 K_a1 B_a1) hZ (hwi hw 144 rfl) (hwi hw 25 rfl) (by decide) (by decide)) (g := (mkF m 5 #[.val (.ref a1)] [(.ref a1), (.ref b1), (.ref b1)])) rfl (by rw [hml]; rfl) (Steps.refl _) (a := b1) (argsL := [(.ref a1)]) (rest := [(.ref b1)]) (lenOf pd__Ljava_lang_StringBuilder__V rfl) rfl (by show 2 * 0 + _ ≤ _; exact Nat.le_of_eq rfl) (hb hby d18_5) (fun _ _ => ⟨rfl, e1, (by decide : 1 + 1 ≤ _), (by decide : 4 + 64 ≤ _)⟩)
  dsimp only [Pt.U, Pt.locs, Pt.cells, Pt.slots] at X2 l2 y2 z2 st2 hQ2
  rw [l2, y2, z2] at X2
  have X2 : Stand p l e _ _ m _ below meth c T2 _ 2 68 := X2
  obtain ⟨rfl, N2q, K2q, Eq2, Cq2, t2, kt2, lt2, Vq2, Aq2⟩ := hQ2
  have N2 := Fr.app N0 N2q
  refine Go.tr st2 ?_
  have E_a1 := E_a1.keep K2q
  have A_t := A_t.keep K2q (ninS ne_t_b1 nin0)
  have C_a1 := C_a1.keep K2q (ninS ne_a1_b1 nin0)
  have V_a1 := V_a1.keep K2q (ninS ne_a1_b1 nin0)
  have N_a1 := N_a1.keep K2q (ninS ne_a1_b1 nin0)
  have E_b1 := E_b1.keep K2q
  have O := O.keep K2q (allS g_b1 all0)
  have KK := KK.trans K2q (allS (Or.inr sz_b1) all0)
  show Go _ _ _ _ _ _ _  T2 (mkF m 8 #[.val (.ref a1)] [(.ref b1)])
  refine Go.retR X2 hlk hx Bd.returns rfl rfl rfl (hb hby d18_8) (by decide) (by decide) ?_
  show Q_rmTS Z _ _ _ _ _ _ _ h0 n0 _ T2.heap _
  exact ⟨_, _, _, rfl, N2, own_ext0 KK, sz_b1, Nat.le_trans KK0.1 lt2, Eq2, Cq2, Vq2, Aq2⟩
def Q_rmT2c (Z : State) (a1 : Addr) (a2 : Addr) (u1 : Value) (u2 : Value) (zc : Int32) (t : Addr) (kd : ClassId) (n : Nat) (cap : Nat) (bs : List Value) (h0 : Heap) (n0 : Nat) (v : Option Value) (h : Heap) (L : List Loc) : Prop := v = none ∧ Fr n0 L ∧ Keep h0 h [a1] ∧ Exa Z h a1 "java/lang/String" ∧ Fld Z h a1 "java/lang/String" "coder" "B" (.int 0) ∧ ∃ (b : Addr) (kb : ClassId), h0.size ≤ b ∧ Fld Z h a1 "java/lang/String" "value" "[B" (.ref b) ∧ Arv Z h b kb .byte (Int32.ofNat n) bs (.int 0)
set_option maxRecDepth 65536 in
set_option maxHeartbeats 40000000 in
theorem rmT2c (l : Launch) (Z : State) (a0 : Array Value) (hw : ∀ d ∈ tables_1, d.before a0 Z = true) (ws : List Jvm.Cond) (a1 : Addr) (a2 : Addr) (u1 : Value) (u2 : Value) (zc : Int32) (t : Addr) (kd : ClassId) (n : Nat) (cap : Nat) (bs : List Value) (h0 : Heap) (n0 : Nat) (O : Old Z n0 h0) (E_a1 : Exa Z h0 a1 "java/lang/String") (F_value_a1 : Fld Z h0 a1 "java/lang/String" "value" "[B" u1) (F_coder_a1 : Fld Z h0 a1 "java/lang/String" "coder" "B" u2) (g_a1 : n0 ≤ a1) (hlt : n = cap) (hcr : n ≤ 64) (S_COMPACT : Sta Z Z.heap "java/lang/String" "COMPACT_STRINGS" "Z" (.int zc)) (hcs : ¬ zc = 0) (E_a2 : Exa Z h0 a2 "java/lang/StringBuilder") (C_a2 : Fld Z h0 a2 "java/lang/AbstractStringBuilder" "coder" "B" (.int 0)) (V_a2 : Fld Z h0 a2 "java/lang/AbstractStringBuilder" "value" "[B" (.ref t)) (N_a2 : Fld Z h0 a2 "java/lang/AbstractStringBuilder" "count" "I" (.int (Int32.ofNat n))) (A_t : Arv Z h0 t kd .byte (Int32.ofNat cap) bs (.int 0)) (L_a2 : bs.length = n) (K_a2 : n ≤ cap) (B_a2 : cap < 100000) (X_t : Exa Z h0 t "[B") :
    MetFree l (⟨"java/lang/String", "<init>", "(Ljava/lang/AbstractStringBuilder;Ljava/lang/Void;)V"⟩ : MethodName) (head1 (Jvm.Cond.code (⟨"java/lang/String", "<init>", "(Ljava/lang/AbstractStringBuilder;Ljava/lang/Void;)V"⟩ : MethodName) jdk_42_method_150_code 5 none :: ws) ({ frames := 3, cells := 1, slots := 64, locals := 49 } : Room)) (fun a U => a = #[(.ref a1), (.ref a2), .null] ∧ Z.Warmed39 U.vm ∧ U.heap = h0) (fun _ _ _ _ _ => True) (fun _ U o U' => ∃ v L, o = .returned v ∧ Q_rmT2c Z a1 a2 u1 u2 zc t kd n cap bs h0 n0 v U'.heap L ∧ FrameEnd U o U' L ({ frames := 3, cells := 1, slots := 64, locals := 49 } : Room).cells ({ frames := 3, cells := 1, slots := 64, locals := 49 } : Room).slots) := by
  refine MetFree.of_bodySF (plainFor_of_name pn_20) hisR ?_
  intro p e s m args below meth c s₁ Bd hml0 hP hK
  obtain ⟨rfl, hZ, hh⟩ := hP
  have hx := Bd.exec
  have hby := Bd.bytes
  have hml : c.maxLocals = 5 := hml0
  have hown : s.vm.findClass "java/lang/String" = some m.cls := findClass_of_methodNamed Bd.named
  have hnm := (name_of_methodNamed Bd.named Bd.method).1
  have hlk : meth.locks = false := BodyLoose.notSynchronized Bd
  have X0 : Stand p l e ({ frames := 3, cells := 1, slots := 64, locals := 49 } : Room) s m #[(.ref a1), (.ref a2), .null] below meth c s₁ [] 0 0 := Stand.of_body Bd
  have e0 : s₁.heap = h0 := by rw [← hh, Bd.state]; rfl
  have N0 := Fr.nil n0
  have KK : Keep h0 h0 [a1] := Keep.refl h0 _
  show Go p e below s ({ frames := 3, cells := 1, slots := 64, locals := 49 } : Room).cells ({ frames := 3, cells := 1, slots := 64, locals := 49 } : Room).slots (Q_rmT2c Z a1 a2 u1 u2 zc t kd n cap bs h0 n0) s₁ (entryFrame m #[(.ref a1), (.ref a2), .null] 5)
  refine Go.eq (ef_rmT2c m a1 a2) ?_
  show Go _ _ _ _ _ _ _  s₁ (mkF m 0 #[.val (.ref a1), .val (.ref a2), .val .null, .unset, .unset] [])
  refine Go.st (fun tT kT => XS.aloadN X0.here hx rfl (hb hby d20_0) rfl rfl  kT) ?_
  show Go _ _ _ _ _ _ _  s₁ (mkF m 1 #[.val (.ref a1), .val (.ref a2), .val .null, .unset, .unset] [(.ref a1)])
  obtain ⟨T1, X1, e1, st1⟩ := initO X0 hx hZ hown (hwi hw 148 rfl) (hwi hw 51 rfl) (hwi hw 52 rfl) e0 (g := (mkF m 1 #[.val (.ref a1), .val (.ref a2), .val .null, .unset, .unset] [(.ref a1)])) rfl (by rw [hml]; rfl) rfl (hb hby d20_1) (by decide) (W := 0) (by show 2 * 0 + _ ≤ _; exact Nat.le_of_eq rfl) (by decide)
  refine Go.st st1 ?_
  show Go _ _ _ _ _ _ _  T1 (mkF m 4 #[.val (.ref a1), .val (.ref a2), .val .null, .unset, .unset] [])
  refine Go.st (fun tT kT => XS.aloadN X1.here hx rfl (hb hby d20_4) rfl rfl  kT) ?_
  show Go _ _ _ _ _ _ _  T1 (mkF m 5 #[.val (.ref a1), .val (.ref a2), .val .null, .unset, .unset] [(.ref a2)])
  obtain ⟨cq2, kq2, q2a, q2b, q2c⟩ := isOf hZ e1 E_a2
  refine Go.pure (w := (some (.ref t))) (rest := []) (pc' := 8) (X1.virtualBack hx (y := (⟨"java/lang/AbstractStringBuilder", "getValue", "()[B"⟩ : MethodName)) (z := (⟨"java/lang/AbstractStringBuilder", "getValue", "()[B"⟩ : MethodName)) hown (mvT hZ (hwi hw 149 rfl)) (mvT hZ (hwi hw 150 rfl)) (notFace_of_selects (args := #[]) (mvT hZ (hwi hw 152 rfl))) (mvT hZ (hwi hw 152 rfl)) (mvT hZ (hwi hw 151 rfl)) (by decide) (backOf (W := 0) (rmGV l Z a0 hw [] a2 t h0 n0 O V_a2) hZ (hwi hw 153 rfl) (hwi hw 48 rfl) (by decide) (by decide)) q2a q2c (g := (mkF m 5 #[.val (.ref a1), .val (.ref a2), .val .null, .unset, .unset] [(.ref a2)])) rfl (by rw [hml]; rfl) (Steps.refl _) (argsL := []) (rest := []) (lenOf pd____B rfl) rfl (by show 2 * 0 + _ ≤ _; exact Nat.le_of_eq rfl) (hb hby d20_5) (fun _ _ => ⟨rfl, e1, (by decide : 0 + 0 ≤ _), (by decide : 0 + 0 ≤ _)⟩)) (fun _ _ _ q => q) N0 (fun T2 L2 X2 e2q N2 => ?_)
  show Go _ _ _ _ _ _ _  T2 (mkF m 8 #[.val (.ref a1), .val (.ref a2), .val .null, .unset, .unset] [(.ref t)])
  refine Go.st (fun tT kT => XS.astoreN X2.here hx rfl (hb hby d20_8) rfl rfl (l' := #[.val (.ref a1), .val (.ref a2), .val .null, .val (.ref t), .unset]) rfl kT) ?_
  refine Go.st (fun tT kT => XS.aloadN X2.here hx rfl (hb hby d20_9) rfl rfl  kT) ?_
  show Go _ _ _ _ _ _ _  T2 (mkF m 10 #[.val (.ref a1), .val (.ref a2), .val .null, .val (.ref t), .unset] [(.ref a2)])
  obtain ⟨cq3, kq3, q3a, q3b, q3c⟩ := isOf hZ e2q E_a2
  refine Go.pure (w := (some (.int (Int32.ofNat n)))) (rest := []) (pc' := 13) (X2.virtualBack hx (y := (⟨"java/lang/AbstractStringBuilder", "length", "()I"⟩ : MethodName)) (z := (⟨"java/lang/StringBuilder", "length", "()I"⟩ : MethodName)) hown (mvT hZ (hwi hw 154 rfl)) (mvT hZ (hwi hw 155 rfl)) (own_nf (args := #[]) (mvT hZ (hwi hw 152 rfl)) rfl) (mvT hZ (hwi hw 157 rfl)) (mvT hZ (hwi hw 158 rfl)) (by decide) (backOf (W := 0) (rmSL l Z a0 hw [] a2 (Int32.ofNat n) h0 n0 O E_a2 N_a2) hZ (hwi hw 159 rfl) (hwi hw 40 rfl) (by decide) (by decide)) q3a q3c (g := (mkF m 10 #[.val (.ref a1), .val (.ref a2), .val .null, .val (.ref t), .unset] [(.ref a2)])) rfl (by rw [hml]; rfl) (Steps.refl _) (argsL := []) (rest := []) (lenOf pd___I rfl) rfl (by show 2 * 0 + _ ≤ _; exact Nat.le_of_eq rfl) (hb hby d20_10) (fun _ _ => ⟨rfl, e2q, (by decide : 0 + 0 ≤ _), (by decide : 0 + 0 ≤ _)⟩)) (fun _ _ _ q => q) N2 (fun T3 L3 X3 e3q N3 => ?_)
  show Go _ _ _ _ _ _ _  T3 (mkF m 13 #[.val (.ref a1), .val (.ref a2), .val .null, .val (.ref t), .unset] [(.int (Int32.ofNat n))])
  refine Go.st (fun tT kT => XS.istore X3.here hx rfl (hb hby d20_13) rfl (l' := #[.val (.ref a1), .val (.ref a2), .val .null, .val (.ref t), .val (.int (Int32.ofNat n))]) rfl kT) ?_
  refine Go.st (fun tT kT => XS.aloadN X3.here hx rfl (hb hby d20_15) rfl rfl  kT) ?_
  show Go _ _ _ _ _ _ _  T3 (mkF m 16 #[.val (.ref a1), .val (.ref a2), .val .null, .val (.ref t), .val (.int (Int32.ofNat n))] [(.ref a2)])
  obtain ⟨cq4, kq4, q4a, q4b, q4c⟩ := isOf hZ e3q E_a2
  refine Go.pure (w := (some (.int (1 : Int32)))) (rest := []) (pc' := 19) (X3.virtualBack hx (y := (⟨"java/lang/AbstractStringBuilder", "isLatin1", "()Z"⟩ : MethodName)) (z := (⟨"java/lang/AbstractStringBuilder", "isLatin1", "()Z"⟩ : MethodName)) hown (mvT hZ (hwi hw 162 rfl)) (mvT hZ (hwi hw 81 rfl)) (notFace_of_selects (args := #[]) (mvT hZ (hwi hw 83 rfl))) (mvT hZ (hwi hw 83 rfl)) (mvT hZ (hwi hw 82 rfl)) (by decide) (backOf (W := 0) (rmIL l Z a0 hw [] a2 zc h0 n0 O S_COMPACT hcs C_a2) hZ (hwi hw 84 rfl) (hwi hw 48 rfl) (by decide) (by decide)) q4a q4c (g := (mkF m 16 #[.val (.ref a1), .val (.ref a2), .val .null, .val (.ref t), .val (.int (Int32.ofNat n))] [(.ref a2)])) rfl (by rw [hml]; rfl) (Steps.refl _) (argsL := []) (rest := []) (lenOf pd___Z rfl) rfl (by show 2 * 0 + _ ≤ _; exact Nat.le_of_eq rfl) (hb hby d20_16) (fun _ _ => ⟨rfl, e3q, (by decide : 0 + 0 ≤ _), (by decide : 0 + 0 ≤ _)⟩)) (fun _ _ _ q => q) N3 (fun T4 L4 X4 e4q N4 => ?_)
  show Go _ _ _ _ _ _ _  T4 (mkF m 19 #[.val (.ref a1), .val (.ref a2), .val .null, .val (.ref t), .val (.int (Int32.ofNat n))] [(.int (1 : Int32))])
  refine Go.st (fun tT kT => XS.ifNo X4.here hx rfl (hb hby d20_19) rfl ((if0 _ _).trans (feq (by decide : ¬ ((1 : Int32) = (0 : Int32)))).1) kT) ?_
  show Go _ _ _ _ _ _ _  T4 (mkF m 22 #[.val (.ref a1), .val (.ref a2), .val .null, .val (.ref t), .val (.int (Int32.ofNat n))] [])
  refine Go.st (fun tT kT => XS.aloadN X4.here hx rfl (hb hby d20_22) rfl rfl  kT) ?_
  refine Go.st (fun tT kT => XS.iconst X4.here hx rfl (hb hby d20_23) kT) ?_
  show Go _ _ _ _ _ _ _  T4 (mkF m 24 #[.val (.ref a1), .val (.ref a2), .val .null, .val (.ref t), .val (.int (Int32.ofNat n))] [(.int (0 : Int32)), (.ref a1)])
  obtain ⟨T5, h5, X5, e5, W5, st5⟩ := putFN X4 hx hZ hown (hwi hw 114 rfl) Via.refl e4q F_coder_a1 E_a1 (Or.inr ⟨(hwi hw 29 rfl), rfl, hnm⟩) (hwi hw 26 rfl) (ty := .byte) (v' := .int (0 : Int32)) (by decide) rfl rfl (g := (mkF m 24 #[.val (.ref a1), .val (.ref a2), .val .null, .val (.ref t), .val (.int (Int32.ofNat n))] [(.int (0 : Int32)), (.ref a1)])) rfl rfl (hb hby d20_24)
  refine Go.st st5 ?_
  have F_coder_a1 : Fld Z h5 a1 "java/lang/String" "coder" "B" (.int (0 : Int32)) := F_coder_a1.same W5
  have N5 := Fr.snoc X5 N4 g_a1
  have ne_t_a1 : t ≠ a1 := (ne_exa X_t E_a1 (by decide))
  have ne_a2_a1 : a2 ≠ a1 := (ne_exa E_a2 E_a1 (by decide))
  have E_a2 := E_a2.wr W5
  have A_t := A_t.other W5 ne_t_a1
  have C_a2 := C_a2.other W5 (Or.inl ne_a2_a1)
  have V_a2 := V_a2.other W5 (Or.inl ne_a2_a1)
  have N_a2 := N_a2.other W5 (Or.inl ne_a2_a1)
  have X_t := X_t.wr W5
  have E_a1 := E_a1.wr W5
  have F_value_a1 := F_value_a1.other W5 (Or.inr (slot_ne (Or.inr (hwi hw 28 rfl)) (Or.inr (hwi hw 29 rfl)) (by decide) (t := (.array .byte)) (t' := .byte) (by decide) (by decide)))
  have O := O.wr W5 g_a1
  have KK := KK.wr W5 (Or.inl (List.mem_of_getElem? (i := 0) rfl))
  show Go _ _ _ _ _ _ _  T5 (mkF m 27 #[.val (.ref a1), .val (.ref a2), .val .null, .val (.ref t), .val (.int (Int32.ofNat n))] [])
  refine Go.st (fun tT kT => XS.aloadN X5.here hx rfl (hb hby d20_27) rfl rfl  kT) ?_
  refine Go.st (fun tT kT => XS.aloadN X5.here hx rfl (hb hby d20_28) rfl rfl  kT) ?_
  refine Go.st (fun tT kT => XS.iconst X5.here hx rfl (hb hby d20_29) kT) ?_
  show Go _ _ _ _ _ _ _  T5 (mkF m 30 #[.val (.ref a1), .val (.ref a2), .val .null, .val (.ref t), .val (.int (Int32.ofNat n))] [(.int (0 : Int32)), (.ref t), (.ref a1)])
  refine Go.st (fun tT kT => XS.iload X5.here hx rfl (hb hby d20_30) rfl  kT) ?_
  show Go _ _ _ _ _ _ _  T5 (mkF m 32 #[.val (.ref a1), .val (.ref a2), .val .null, .val (.ref t), .val (.int (Int32.ofNat n))] [(.int (Int32.ofNat n)), (.int (0 : Int32)), (.ref t), (.ref a1)])
  obtain ⟨_, _, ⟨T6, L6, k6, n6⟩, -, X6, ⟨Lc6, hQ6, l6, y6, z6⟩, st6⟩ := Jvm.LawKit.callS X5 hx (y := (⟨"java/util/Arrays", "copyOfRange", "([BII)[B"⟩ : MethodName)) hown (mvT hZ (hwi hw 163 rfl)) (mvT hZ (hwi hw 164 rfl)) (mvT hZ (hwi hw 165 rfl)) (mvT hZ (hwi hw 166 rfl)) (by decide) (backOf (W := 1) (rmCRc l Z a0 hw [] t n kd bs h5 n0 O (hlt ▸ A_t) X_t hcr) hZ (hwi hw 166 rfl) (hwi hw 165 rfl) (by decide) (by decide)) (g := (mkF m 32 #[.val (.ref a1), .val (.ref a2), .val .null, .val (.ref t), .val (.int (Int32.ofNat n))] [(.int (Int32.ofNat n)), (.int (0 : Int32)), (.ref t), (.ref a1)])) rfl (by rw [hml]; rfl) (argsL := [(.ref t), (.int (0 : Int32)), (.int (Int32.ofNat n))]) (rest := [(.ref a1)]) (lenOf pd___BII__B rfl) rfl (by show 2 * 0 + _ ≤ _; exact Nat.le_of_eq rfl) (hb hby d20_32) (fun _ _ => ⟨rfl, e5, (by decide : 0 + 1 ≤ _), (by decide : 0 + 64 ≤ _)⟩)
  dsimp only [Pt.U, Pt.locs, Pt.cells, Pt.slots] at X6 l6 y6 z6 st6 hQ6
  rw [l6, y6, z6] at X6
  have X6 : Stand p l e _ _ m _ below meth c T6 _ 1 64 := X6
  obtain ⟨t6, kt6, rfl, N6q, E6q, lt6, Vq6⟩ := hQ6
  have N6 := Fr.app N5 N6q
  refine Go.st st6 ?_
  have g_t6 : n0 ≤ t6 := Nat.le_trans (own_le O) lt6
  have sz_t6 : h0.size ≤ t6 := Nat.le_trans KK.1 lt6
  have ne_a2_t6 : a2 ≠ t6 := Nat.ne_of_lt (Nat.lt_of_lt_of_le E_a2.lt lt6)
  have ne_t_t6 : t ≠ t6 := Nat.ne_of_lt (Nat.lt_of_lt_of_le A_t.lt lt6)
  have ne_a1_t6 : a1 ≠ t6 := Nat.ne_of_lt (Nat.lt_of_lt_of_le E_a1.lt lt6)
  have E6 := E6q
  have E_a2 := E_a2.ext E6
  have A_t := A_t.ext E6
  have C_a2 := C_a2.ext E6
  have V_a2 := V_a2.ext E6
  have N_a2 := N_a2.ext E6
  have X_t := X_t.ext E6
  have E_a1 := E_a1.ext E6
  have F_value_a1 := F_value_a1.ext E6
  have F_coder_a1 := F_coder_a1.ext E6
  have O := O.ext E6
  have KK := KK.ext E6
  show Go _ _ _ _ _ _ _  T6 (mkF m 35 #[.val (.ref a1), .val (.ref a2), .val .null, .val (.ref t), .val (.int (Int32.ofNat n))] [(.ref t6), (.ref a1)])
  obtain ⟨T7, h7, X7, e7, W7, st7⟩ := putF X6 hx hZ hown (host := "") (Or.inl (hwi hw 107 rfl)) Via.refl rfl F_value_a1 E_a1 (Or.inr ⟨(hwi hw 28 rfl), rfl, hnm⟩) (hwi hw 26 rfl) (ty := (.array .byte)) (by decide) rfl rfl (g := (mkF m 35 #[.val (.ref a1), .val (.ref a2), .val .null, .val (.ref t), .val (.int (Int32.ofNat n))] [(.ref t6), (.ref a1)])) rfl rfl (hb hby d20_35)
  refine Go.st st7 ?_
  have F_value_a1 : Fld Z h7 a1 "java/lang/String" "value" "[B" (.ref t6) := F_value_a1.same W7
  have N7 := Fr.snoc X7 N6 g_a1
  have E_a2 := E_a2.wr W7
  have A_t := A_t.other W7 ne_t_a1
  have C_a2 := C_a2.other W7 (Or.inl ne_a2_a1)
  have V_a2 := V_a2.other W7 (Or.inl ne_a2_a1)
  have N_a2 := N_a2.other W7 (Or.inl ne_a2_a1)
  have X_t := X_t.wr W7
  have E_a1 := E_a1.wr W7
  have F_coder_a1 := F_coder_a1.other W7 (Or.inr (slot_ne (Or.inr (hwi hw 29 rfl)) (Or.inr (hwi hw 28 rfl)) (by decide) (t := .byte) (t' := (.array .byte)) (by decide) (by decide)))
  have Vq6 := Vq6.other W7 (Ne.symm ne_a1_t6)
  have O := O.wr W7 g_a1
  have KK := KK.wr W7 (Or.inl (List.mem_of_getElem? (i := 0) rfl))
  show Go _ _ _ _ _ _ _  T7 (mkF m 38 #[.val (.ref a1), .val (.ref a2), .val .null, .val (.ref t), .val (.int (Int32.ofNat n))] [])
  refine Go.st (fun tT kT => XS.goto X7.here hx rfl (pc0 := 38) (pc' := 97) rfl (hb hby d20_38) (by decide) (by decide) kT) ?_
  show Go _ _ _ _ _ _ _  T7 (mkF m 97 #[.val (.ref a1), .val (.ref a2), .val .null, .val (.ref t), .val (.int (Int32.ofNat n))] [])
  refine Go.ret0 X7 hlk hx Bd.returns (hb hby d20_97) (by decide) (by decide) ?_
  show Q_rmT2c Z _ _ _ _ _ _ _ _ _ _ h0 n0 _ T7.heap _
  rw [e7]
  exact ⟨rfl, N7, KK, E_a1, F_coder_a1, t6, _, sz_t6, F_value_a1, Vq6⟩
def Q_rmT1c (Z : State) (a1 : Addr) (a2 : Addr) (u1 : Value) (u2 : Value) (zc : Int32) (t : Addr) (kd : ClassId) (n : Nat) (cap : Nat) (bs : List Value) (h0 : Heap) (n0 : Nat) (v : Option Value) (h : Heap) (L : List Loc) : Prop := v = none ∧ Fr n0 L ∧ Keep h0 h [a1] ∧ Exa Z h a1 "java/lang/String" ∧ Fld Z h a1 "java/lang/String" "coder" "B" (.int 0) ∧ ∃ (b : Addr) (kb : ClassId), h0.size ≤ b ∧ Fld Z h a1 "java/lang/String" "value" "[B" (.ref b) ∧ Arv Z h b kb .byte (Int32.ofNat n) bs (.int 0)
set_option maxRecDepth 65536 in
set_option maxHeartbeats 40000000 in
theorem rmT1c (l : Launch) (Z : State) (a0 : Array Value) (hw : ∀ d ∈ tables_1, d.before a0 Z = true) (ws : List Jvm.Cond) (a1 : Addr) (a2 : Addr) (u1 : Value) (u2 : Value) (zc : Int32) (t : Addr) (kd : ClassId) (n : Nat) (cap : Nat) (bs : List Value) (h0 : Heap) (n0 : Nat) (O : Old Z n0 h0) (E_a1 : Exa Z h0 a1 "java/lang/String") (F_value_a1 : Fld Z h0 a1 "java/lang/String" "value" "[B" u1) (F_coder_a1 : Fld Z h0 a1 "java/lang/String" "coder" "B" u2) (g_a1 : n0 ≤ a1) (hlt : n = cap) (hcr : n ≤ 64) (S_COMPACT : Sta Z Z.heap "java/lang/String" "COMPACT_STRINGS" "Z" (.int zc)) (hcs : ¬ zc = 0) (E_a2 : Exa Z h0 a2 "java/lang/StringBuilder") (C_a2 : Fld Z h0 a2 "java/lang/AbstractStringBuilder" "coder" "B" (.int 0)) (V_a2 : Fld Z h0 a2 "java/lang/AbstractStringBuilder" "value" "[B" (.ref t)) (N_a2 : Fld Z h0 a2 "java/lang/AbstractStringBuilder" "count" "I" (.int (Int32.ofNat n))) (A_t : Arv Z h0 t kd .byte (Int32.ofNat cap) bs (.int 0)) (L_a2 : bs.length = n) (K_a2 : n ≤ cap) (B_a2 : cap < 100000) (X_t : Exa Z h0 t "[B") :
    MetFree l (⟨"java/lang/String", "<init>", "(Ljava/lang/StringBuilder;)V"⟩ : MethodName) (head1 (Jvm.Cond.code (⟨"java/lang/String", "<init>", "(Ljava/lang/StringBuilder;)V"⟩ : MethodName) jdk_42_method_53_code 2 none :: ws) ({ frames := 4, cells := 1, slots := 64, locals := 65 } : Room)) (fun a U => a = #[(.ref a1), (.ref a2)] ∧ Z.Warmed39 U.vm ∧ U.heap = h0) (fun _ _ _ _ _ => True) (fun _ U o U' => ∃ v L, o = .returned v ∧ Q_rmT1c Z a1 a2 u1 u2 zc t kd n cap bs h0 n0 v U'.heap L ∧ FrameEnd U o U' L ({ frames := 4, cells := 1, slots := 64, locals := 65 } : Room).cells ({ frames := 4, cells := 1, slots := 64, locals := 65 } : Room).slots) := by
  refine MetFree.of_bodySF (plainFor_of_name pn_19) hisR ?_
  intro p e s m args below meth c s₁ Bd hml0 hP hK
  obtain ⟨rfl, hZ, hh⟩ := hP
  have hx := Bd.exec
  have hby := Bd.bytes
  have hml : c.maxLocals = 2 := hml0
  have hown : s.vm.findClass "java/lang/String" = some m.cls := findClass_of_methodNamed Bd.named
  have hnm := (name_of_methodNamed Bd.named Bd.method).1
  have hlk : meth.locks = false := BodyLoose.notSynchronized Bd
  have X0 : Stand p l e ({ frames := 4, cells := 1, slots := 64, locals := 65 } : Room) s m #[(.ref a1), (.ref a2)] below meth c s₁ [] 0 0 := Stand.of_body Bd
  have e0 : s₁.heap = h0 := by rw [← hh, Bd.state]; rfl
  have N0 := Fr.nil n0
  have KK : Keep h0 h0 [a1] := Keep.refl h0 _
  show Go p e below s ({ frames := 4, cells := 1, slots := 64, locals := 65 } : Room).cells ({ frames := 4, cells := 1, slots := 64, locals := 65 } : Room).slots (Q_rmT1c Z a1 a2 u1 u2 zc t kd n cap bs h0 n0) s₁ (entryFrame m #[(.ref a1), (.ref a2)] 2)
  refine Go.eq (ef_rmT1c m a1 a2) ?_
  show Go _ _ _ _ _ _ _  s₁ (mkF m 0 #[.val (.ref a1), .val (.ref a2)] [])
  refine Go.st (fun tT kT => XS.aloadN X0.here hx rfl (hb hby d19_0) rfl rfl  kT) ?_
  refine Go.st (fun tT kT => XS.aloadN X0.here hx rfl (hb hby d19_1) rfl rfl  kT) ?_
  refine Go.st (fun tT kT => XS.aconstNull X0.here hx rfl (hb hby d19_2) kT) ?_
  show Go _ _ _ _ _ _ _  s₁ (mkF m 3 #[.val (.ref a1), .val (.ref a2)] [.null, (.ref a2), (.ref a1)])
  obtain ⟨_, _, ⟨T1, L1, k1, n1⟩, -, X1, ⟨Lc1, hQ1, l1, y1, z1⟩, st1⟩ := X0.specialBack hx (y := (⟨"java/lang/String", "<init>", "(Ljava/lang/AbstractStringBuilder;Ljava/lang/Void;)V"⟩ : MethodName)) rfl hown (mvT hZ (hwi hw 145 rfl)) (mvT hZ (hwi hw 146 rfl)) (mvT hZ (hwi hw 147 rfl)) (by decide) (backOf (W := 0) (rmT2c l Z a0 hw [] a1 a2 u1 u2 zc t kd n cap bs h0 n0 O E_a1 F_value_a1 F_coder_a1 g_a1 hlt hcr S_COMPACT hcs E_a2 C_a2 V_a2 N_a2 A_t L_a2 K_a2 B_a2 X_t) hZ (hwi hw 147 rfl) (hwi hw 25 rfl) (by decide) (by decide)) (g := (mkF m 3 #[.val (.ref a1), .val (.ref a2)] [.null, (.ref a2), (.ref a1)])) rfl (by rw [hml]; rfl) (Steps.refl _) (a := a1) (argsL := [(.ref a2), .null]) (rest := []) (lenOf pd__Ljava_lang_AbstractStringBuilder_Ljava_lang_Void__V rfl) rfl (by show 2 * 0 + _ ≤ _; exact Nat.le_of_eq rfl) (hb hby d19_3) (fun _ _ => ⟨rfl, e0, (by decide : 0 + 1 ≤ _), (by decide : 0 + 64 ≤ _)⟩)
  dsimp only [Pt.U, Pt.locs, Pt.cells, Pt.slots] at X1 l1 y1 z1 st1 hQ1
  rw [l1, y1, z1] at X1
  have X1 : Stand p l e _ _ m _ below meth c T1 _ 1 64 := X1
  obtain ⟨rfl, N1q, K1q, Q1⟩ := hQ1
  have N1 := Fr.app N0 N1q
  refine Go.tr st1 ?_
  have ne_t_a1 : t ≠ a1 := (ne_exa X_t E_a1 (by decide))
  have ne_a2_a1 : a2 ≠ a1 := (ne_exa E_a2 E_a1 (by decide))
  have E_a2 := E_a2.keep K1q
  have A_t := A_t.keep K1q (ninS ne_t_a1 nin0)
  have C_a2 := C_a2.keep K1q (ninS ne_a2_a1 nin0)
  have V_a2 := V_a2.keep K1q (ninS ne_a2_a1 nin0)
  have N_a2 := N_a2.keep K1q (ninS ne_a2_a1 nin0)
  have X_t := X_t.keep K1q
  have E_a1 := E_a1.keep K1q
  have O := O.keep K1q (allS g_a1 all0)
  have KK := KK.trans K1q (allS (Or.inl (List.mem_of_getElem? (i := 0) rfl)) all0)
  show Go _ _ _ _ _ _ _  T1 (mkF m 6 #[.val (.ref a1), .val (.ref a2)] [])
  refine Go.ret0 X1 hlk hx Bd.returns (hb hby d19_6) (by decide) (by decide) ?_
  show Q_rmT1c Z _ _ _ _ _ _ _ _ _ _ h0 n0 _ T1.heap _
  exact ⟨rfl, N1, KK, Q1⟩
def Q_rmTSc (Z : State) (a1 : Addr) (zc : Int32) (t : Addr) (kd : ClassId) (n : Nat) (cap : Nat) (bs : List Value) (h0 : Heap) (n0 : Nat) (v : Option Value) (h : Heap) (L : List Loc) : Prop := ∃ (x b : Addr) (kb : ClassId), v = some (.ref x) ∧ Fr n0 L ∧ Ext h0 h ∧ h0.size ≤ x ∧ h0.size ≤ b ∧ Exa Z h x "java/lang/String" ∧ Fld Z h x "java/lang/String" "coder" "B" (.int 0) ∧ Fld Z h x "java/lang/String" "value" "[B" (.ref b) ∧ Arv Z h b kb .byte (Int32.ofNat n) bs (.int 0)
set_option maxRecDepth 65536 in
set_option maxHeartbeats 40000000 in
theorem rmTSc (l : Launch) (Z : State) (a0 : Array Value) (hw : ∀ d ∈ tables_1, d.before a0 Z = true) (ws : List Jvm.Cond) (a1 : Addr) (zc : Int32) (t : Addr) (kd : ClassId) (n : Nat) (cap : Nat) (bs : List Value) (h0 : Heap) (n0 : Nat) (O : Old Z n0 h0) (hlt : n = cap) (hcr : n ≤ 64) (S_COMPACT : Sta Z Z.heap "java/lang/String" "COMPACT_STRINGS" "Z" (.int zc)) (hcs : ¬ zc = 0) (E_a1 : Exa Z h0 a1 "java/lang/StringBuilder") (C_a1 : Fld Z h0 a1 "java/lang/AbstractStringBuilder" "coder" "B" (.int 0)) (V_a1 : Fld Z h0 a1 "java/lang/AbstractStringBuilder" "value" "[B" (.ref t)) (N_a1 : Fld Z h0 a1 "java/lang/AbstractStringBuilder" "count" "I" (.int (Int32.ofNat n))) (A_t : Arv Z h0 t kd .byte (Int32.ofNat cap) bs (.int 0)) (L_a1 : bs.length = n) (K_a1 : n ≤ cap) (B_a1 : cap < 100000) (X_t : Exa Z h0 t "[B") :
    MetFree l (⟨"java/lang/StringBuilder", "toString", "()Ljava/lang/String;"⟩ : MethodName) (head1 (Jvm.Cond.code (⟨"java/lang/StringBuilder", "toString", "()Ljava/lang/String;"⟩ : MethodName) jdk_67_method_42_code 1 (some (.object "java/lang/String")) :: ws) ({ frames := 5, cells := 2, slots := 68, locals := 79 } : Room)) (fun a U => a = #[(.ref a1)] ∧ Z.Warmed39 U.vm ∧ U.heap = h0) (fun _ _ _ _ _ => True) (fun _ U o U' => ∃ v L, o = .returned v ∧ Q_rmTSc Z a1 zc t kd n cap bs h0 n0 v U'.heap L ∧ FrameEnd U o U' L ({ frames := 5, cells := 2, slots := 68, locals := 79 } : Room).cells ({ frames := 5, cells := 2, slots := 68, locals := 79 } : Room).slots) := by
  refine MetFree.of_bodySF (plainFor_of_name pn_18) hisR ?_
  intro p e s m args below meth c s₁ Bd hml0 hP hK
  obtain ⟨rfl, hZ, hh⟩ := hP
  have hx := Bd.exec
  have hby := Bd.bytes
  have hml : c.maxLocals = 1 := hml0
  have hown : s.vm.findClass "java/lang/StringBuilder" = some m.cls := findClass_of_methodNamed Bd.named
  have hnm := (name_of_methodNamed Bd.named Bd.method).1
  have hlk : meth.locks = false := BodyLoose.notSynchronized Bd
  have X0 : Stand p l e ({ frames := 5, cells := 2, slots := 68, locals := 79 } : Room) s m #[(.ref a1)] below meth c s₁ [] 0 0 := Stand.of_body Bd
  have e0 : s₁.heap = h0 := by rw [← hh, Bd.state]; rfl
  have N0 := Fr.nil n0
  have KK : Keep h0 h0 [] := Keep.refl h0 _
  show Go p e below s ({ frames := 5, cells := 2, slots := 68, locals := 79 } : Room).cells ({ frames := 5, cells := 2, slots := 68, locals := 79 } : Room).slots (Q_rmTSc Z a1 zc t kd n cap bs h0 n0) s₁ (entryFrame m #[(.ref a1)] 1)
  refine Go.eq (ef_rmTSc m a1) ?_
  show Go _ _ _ _ _ _ _  s₁ (mkF m 0 #[.val (.ref a1)] [])
  obtain ⟨T1, h1, X1, e1, E1, A1, D1, U1, st1⟩ := newO X0 hx hZ hown (hwi hw 140 rfl) (hwi hw 26 rfl) (hwi hw 25 rfl) e0 (g := (mkF m 0 #[.val (.ref a1)] [])) rfl (hb hby d18_0) (by decide) (by decide)
  obtain ⟨b1, g1⟩ : ∃ z, z = h0.size := ⟨_, rfl⟩
  rw [← g1] at A1 D1 U1 st1
  refine Go.st st1 ?_
  have g_b1 : n0 ≤ b1 := by rw [g1]; exact own_le O
  have sz_b1 : h0.size ≤ b1 := by rw [g1]; exact KK.1
  have ne_a1_b1 : a1 ≠ b1 := Nat.ne_of_lt (by rw [g1]; exact E_a1.lt)
  have ne_t_b1 : t ≠ b1 := Nat.ne_of_lt (by rw [g1]; exact A_t.lt)
  have E_a1 := E_a1.ext E1
  have A_t := A_t.ext E1
  have C_a1 := C_a1.ext E1
  have V_a1 := V_a1.ext E1
  have N_a1 := N_a1.ext E1
  have X_t := X_t.ext E1
  have O := O.ext E1
  have KK := KK.ext E1
  have E_b1 := A1
  have F_value_b1 : Fld Z h1 b1 "java/lang/String" "value" "[B" .null := D1 (Or.inr (hwi hw 28 rfl)) (ty := (.array .byte)) (by decide)
  have F_coder_b1 : Fld Z h1 b1 "java/lang/String" "coder" "B" (.int (0 : Int32)) := D1 (Or.inr (hwi hw 29 rfl)) (ty := .byte) (by decide)
  show Go _ _ _ _ _ _ _  T1 (mkF m 3 #[.val (.ref a1)] [(.ref b1)])
  refine Go.st (fun tT kT => XS.dup X1.here hx rfl (hb hby d18_3) rfl rfl kT) ?_
  refine Go.st (fun tT kT => XS.aloadN X1.here hx rfl (hb hby d18_4) rfl rfl  kT) ?_
  have KK0 := KK
  show Go _ _ _ _ _ _ _  T1 (mkF m 5 #[.val (.ref a1)] [(.ref a1), (.ref b1), (.ref b1)])
  obtain ⟨_, _, ⟨T2, L2, k2, n2⟩, -, X2, ⟨Lc2, hQ2, l2, y2, z2⟩, st2⟩ := X1.specialBack hx (y := (⟨"java/lang/String", "<init>", "(Ljava/lang/StringBuilder;)V"⟩ : MethodName)) rfl hown (mvT hZ (hwi hw 141 rfl)) (mvT hZ (hwi hw 142 rfl)) (mvT hZ (hwi hw 144 rfl)) (by decide) (backOf (W := 1) (rmT1c l Z a0 hw [] b1 a1 .null (.int (0 : Int32)) zc t kd n cap bs h1 n0 O E_b1 F_value_b1 F_coder_b1 g_b1 hlt hcr S_COMPACT hcs E_a1 C_a1 V_a1 N_a1 A_t L_a1 K_a1 B_a1 X_t) hZ (hwi hw 144 rfl) (hwi hw 25 rfl) (by decide) (by decide)) (g := (mkF m 5 #[.val (.ref a1)] [(.ref a1), (.ref b1), (.ref b1)])) rfl (by rw [hml]; rfl) (Steps.refl _) (a := b1) (argsL := [(.ref a1)]) (rest := [(.ref b1)]) (lenOf pd__Ljava_lang_StringBuilder__V rfl) rfl (by show 2 * 0 + _ ≤ _; exact Nat.le_of_eq rfl) (hb hby d18_5) (fun _ _ => ⟨rfl, e1, (by decide : 1 + 1 ≤ _), (by decide : 4 + 64 ≤ _)⟩)
  dsimp only [Pt.U, Pt.locs, Pt.cells, Pt.slots] at X2 l2 y2 z2 st2 hQ2
  rw [l2, y2, z2] at X2
  have X2 : Stand p l e _ _ m _ below meth c T2 _ 2 68 := X2
  obtain ⟨rfl, N2q, K2q, Eq2, Cq2, t2, kt2, lt2, Vq2, Aq2⟩ := hQ2
  have N2 := Fr.app N0 N2q
  refine Go.tr st2 ?_
  have E_a1 := E_a1.keep K2q
  have A_t := A_t.keep K2q (ninS ne_t_b1 nin0)
  have C_a1 := C_a1.keep K2q (ninS ne_a1_b1 nin0)
  have V_a1 := V_a1.keep K2q (ninS ne_a1_b1 nin0)
  have N_a1 := N_a1.keep K2q (ninS ne_a1_b1 nin0)
  have X_t := X_t.keep K2q
  have E_b1 := E_b1.keep K2q
  have O := O.keep K2q (allS g_b1 all0)
  have KK := KK.trans K2q (allS (Or.inr sz_b1) all0)
  show Go _ _ _ _ _ _ _  T2 (mkF m 8 #[.val (.ref a1)] [(.ref b1)])
  refine Go.retR X2 hlk hx Bd.returns rfl rfl rfl (hb hby d18_8) (by decide) (by decide) ?_
  show Q_rmTSc Z _ _ _ _ _ _ _ h0 n0 _ T2.heap _
  exact ⟨_, _, _, rfl, N2, own_ext0 KK, sz_b1, Nat.le_trans KK0.1 lt2, Eq2, Cq2, Vq2, Aq2⟩
def Q_rmPC (Z : State) (fm : Value) (i : Nat) (n : Nat) (h0 : Heap) (n0 : Nat) (v : Option Value) (h : Heap) (L : List Loc) : Prop := v = some (.int (Int32.ofNat i)) ∧ Fr n0 L ∧ h = h0
set_option maxRecDepth 65536 in
set_option maxHeartbeats 40000000 in
theorem rmPC (l : Launch) (Z : State) (a0 : Array Value) (hw : ∀ d ∈ tables_1, d.before a0 Z = true) (ws : List Jvm.Cond) (fm : Value) (i : Nat) (n : Nat) (h0 : Heap) (n0 : Nat) (O : Old Z n0 h0) (ref_fm : fm.isRef = true) (hi : i < n) (hn : n < 100000) :
    MetFree l (⟨"jdk/internal/util/Preconditions", "checkIndex", "(IILjava/util/function/BiFunction;)I"⟩ : MethodName) (head1 (Jvm.Cond.code (⟨"jdk/internal/util/Preconditions", "checkIndex", "(IILjava/util/function/BiFunction;)I"⟩ : MethodName) jdk_41_method_11_code 3 (some .int) :: ws) ({ frames := 0, cells := 0, slots := 0, locals := 0 } : Room)) (fun a U => a = #[(.int (Int32.ofNat i)), (.int (Int32.ofNat n)), fm] ∧ Z.Warmed39 U.vm ∧ U.heap = h0) (fun _ _ _ _ _ => True) (fun _ U o U' => ∃ v L, o = .returned v ∧ Q_rmPC Z fm i n h0 n0 v U'.heap L ∧ FrameEnd U o U' L ({ frames := 0, cells := 0, slots := 0, locals := 0 } : Room).cells ({ frames := 0, cells := 0, slots := 0, locals := 0 } : Room).slots) := by
  refine MetFree.of_bodySF (plainFor_of_name pn_32) hisR ?_
  intro p e s m args below meth c s₁ Bd hml0 hP hK
  obtain ⟨rfl, hZ, hh⟩ := hP
  have hx := Bd.exec
  have hby := Bd.bytes
  have hml : c.maxLocals = 3 := hml0
  have hown : s.vm.findClass "jdk/internal/util/Preconditions" = some m.cls := findClass_of_methodNamed Bd.named
  have hnm := (name_of_methodNamed Bd.named Bd.method).1
  have hlk : meth.locks = false := BodyLoose.notSynchronized Bd
  have X0 : Stand p l e ({ frames := 0, cells := 0, slots := 0, locals := 0 } : Room) s m #[(.int (Int32.ofNat i)), (.int (Int32.ofNat n)), fm] below meth c s₁ [] 0 0 := Stand.of_body Bd
  have e0 : s₁.heap = h0 := by rw [← hh, Bd.state]; rfl
  have N0 := Fr.nil n0
  show Go p e below s ({ frames := 0, cells := 0, slots := 0, locals := 0 } : Room).cells ({ frames := 0, cells := 0, slots := 0, locals := 0 } : Room).slots (Q_rmPC Z fm i n h0 n0) s₁ (entryFrame m #[(.int (Int32.ofNat i)), (.int (Int32.ofNat n)), fm] 3)
  refine Go.eq (ef_rmPC m (Int32.ofNat i) (Int32.ofNat n) fm ref_fm) ?_
  show Go _ _ _ _ _ _ _  s₁ (mkF m 0 #[.val (.int (Int32.ofNat i)), .val (.int (Int32.ofNat n)), .val fm] [])
  refine Go.st (fun tT kT => XS.iloadN X0.here hx rfl (hb hby d32_0) rfl  kT) ?_
  show Go _ _ _ _ _ _ _  s₁ (mkF m 1 #[.val (.int (Int32.ofNat i)), .val (.int (Int32.ofNat n)), .val fm] [(.int (Int32.ofNat i))])
  refine Go.st (fun tT kT => XS.ifNo X0.here hx rfl (hb hby d32_1) rfl ((if0 _ _).trans (flt (own_onn (by omega) : ¬ ((Int32.ofNat i) < (0 : Int32)))).1) kT) ?_
  show Go _ _ _ _ _ _ _  s₁ (mkF m 4 #[.val (.int (Int32.ofNat i)), .val (.int (Int32.ofNat n)), .val fm] [])
  refine Go.st (fun tT kT => XS.iloadN X0.here hx rfl (hb hby d32_4) rfl  kT) ?_
  refine Go.st (fun tT kT => XS.iloadN X0.here hx rfl (hb hby d32_5) rfl  kT) ?_
  show Go _ _ _ _ _ _ _  s₁ (mkF m 6 #[.val (.int (Int32.ofNat i)), .val (.int (Int32.ofNat n)), .val fm] [(.int (Int32.ofNat n)), (.int (Int32.ofNat i))])
  refine Go.st (fun tT kT => XS.icmpYes X0.here hx rfl (pc0 := 6) (pc' := 16) rfl (hb hby d32_6) rfl (tlt ((own_olt (by omega) (by omega)).mpr hi : (Int32.ofNat i) < (Int32.ofNat n))).1 (by decide) (by decide) kT) ?_
  show Go _ _ _ _ _ _ _  s₁ (mkF m 16 #[.val (.int (Int32.ofNat i)), .val (.int (Int32.ofNat n)), .val fm] [])
  refine Go.st (fun tT kT => XS.iloadN X0.here hx rfl (hb hby d32_16) rfl  kT) ?_
  show Go _ _ _ _ _ _ _  s₁ (mkF m 17 #[.val (.int (Int32.ofNat i)), .val (.int (Int32.ofNat n)), .val fm] [(.int (Int32.ofNat i))])
  refine Go.retI X0 hlk hx Bd.returns (hb hby d32_17) (by decide) (by decide) ?_
  show Q_rmPC Z _ _ _ h0 n0 _ s₁.heap _
  rw [e0]
  exact ⟨rfl, N0, rfl⟩
def Q_rmCI (Z : State) (fm : Value) (i : Nat) (n : Nat) (h0 : Heap) (n0 : Nat) (v : Option Value) (h : Heap) (L : List Loc) : Prop := v = none ∧ Fr n0 L ∧ h = h0
set_option maxRecDepth 65536 in
set_option maxHeartbeats 40000000 in
theorem rmCI (l : Launch) (Z : State) (a0 : Array Value) (hw : ∀ d ∈ tables_1, d.before a0 Z = true) (ws : List Jvm.Cond) (fm : Value) (i : Nat) (n : Nat) (h0 : Heap) (n0 : Nat) (O : Old Z n0 h0) (S_SIO : Sta Z Z.heap "jdk/internal/util/Preconditions" "SIOOBE_FORMATTER" "Ljava/util/function/BiFunction;" fm) (ref_fm : fm.isRef = true) (hi : i < n) (hn : n < 100000) :
    MetFree l (⟨"java/lang/String", "checkIndex", "(II)V"⟩ : MethodName) (head1 (Jvm.Cond.code (⟨"java/lang/String", "checkIndex", "(II)V"⟩ : MethodName) jdk_42_method_155_code 2 none :: ws) ({ frames := 1, cells := 0, slots := 0, locals := 14 } : Room)) (fun a U => a = #[(.int (Int32.ofNat i)), (.int (Int32.ofNat n))] ∧ Z.Warmed39 U.vm ∧ U.heap = h0) (fun _ _ _ _ _ => True) (fun _ U o U' => ∃ v L, o = .returned v ∧ Q_rmCI Z fm i n h0 n0 v U'.heap L ∧ FrameEnd U o U' L ({ frames := 1, cells := 0, slots := 0, locals := 14 } : Room).cells ({ frames := 1, cells := 0, slots := 0, locals := 14 } : Room).slots) := by
  refine MetFree.of_bodySF (plainFor_of_name pn_31) hisR ?_
  intro p e s m args below meth c s₁ Bd hml0 hP hK
  obtain ⟨rfl, hZ, hh⟩ := hP
  have hx := Bd.exec
  have hby := Bd.bytes
  have hml : c.maxLocals = 2 := hml0
  have hown : s.vm.findClass "java/lang/String" = some m.cls := findClass_of_methodNamed Bd.named
  have hnm := (name_of_methodNamed Bd.named Bd.method).1
  have hlk : meth.locks = false := BodyLoose.notSynchronized Bd
  have X0 : Stand p l e ({ frames := 1, cells := 0, slots := 0, locals := 14 } : Room) s m #[(.int (Int32.ofNat i)), (.int (Int32.ofNat n))] below meth c s₁ [] 0 0 := Stand.of_body Bd
  have e0 : s₁.heap = h0 := by rw [← hh, Bd.state]; rfl
  have N0 := Fr.nil n0
  show Go p e below s ({ frames := 1, cells := 0, slots := 0, locals := 14 } : Room).cells ({ frames := 1, cells := 0, slots := 0, locals := 14 } : Room).slots (Q_rmCI Z fm i n h0 n0) s₁ (entryFrame m #[(.int (Int32.ofNat i)), (.int (Int32.ofNat n))] 2)
  refine Go.eq (ef_rmCI m (Int32.ofNat i) (Int32.ofNat n)) ?_
  show Go _ _ _ _ _ _ _  s₁ (mkF m 0 #[.val (.int (Int32.ofNat i)), .val (.int (Int32.ofNat n))] [])
  refine Go.st (fun tT kT => XS.iloadN X0.here hx rfl (hb hby d31_0) rfl  kT) ?_
  refine Go.st (fun tT kT => XS.iloadN X0.here hx rfl (hb hby d31_1) rfl  kT) ?_
  show Go _ _ _ _ _ _ _  s₁ (mkF m 2 #[.val (.int (Int32.ofNat i)), .val (.int (Int32.ofNat n))] [(.int (Int32.ofNat n)), (.int (Int32.ofNat i))])
  obtain ⟨T1, X1, e1, st1⟩ := getS2 X0 hx hZ hown (host := "") (Or.inl (hwi hw 196 rfl)) Via.refl e0 (S_SIO.ext O.2) (g := (mkF m 2 #[.val (.int (Int32.ofNat i)), .val (.int (Int32.ofNat n))] [(.int (Int32.ofNat n)), (.int (Int32.ofNat i))])) rfl (hb hby d31_2)
  refine Go.st st1 ?_
  show Go _ _ _ _ _ _ _  T1 (mkF m 5 #[.val (.int (Int32.ofNat i)), .val (.int (Int32.ofNat n))] [fm, (.int (Int32.ofNat n)), (.int (Int32.ofNat i))])
  refine Go.pureS (w := (some (.int (Int32.ofNat i)))) (rest := []) (pc' := 8) (Jvm.LawKit.callS X1 hx (y := (⟨"jdk/internal/util/Preconditions", "checkIndex", "(IILjava/util/function/BiFunction;)I"⟩ : MethodName)) hown (mvT hZ (hwi hw 198 rfl)) (mvT hZ (hwi hw 199 rfl)) (mvT hZ (hwi hw 197 rfl)) (mvT hZ (hwi hw 200 rfl)) (by decide) (backOf (W := 0) (rmPC l Z a0 hw [] fm i n h0 n0 O ref_fm hi hn) hZ (hwi hw 200 rfl) (hwi hw 197 rfl) (by decide) (by decide)) (g := (mkF m 5 #[.val (.int (Int32.ofNat i)), .val (.int (Int32.ofNat n))] [fm, (.int (Int32.ofNat n)), (.int (Int32.ofNat i))])) rfl (by rw [hml]; rfl) (argsL := [(.int (Int32.ofNat i)), (.int (Int32.ofNat n)), fm]) (rest := []) (lenOf pd__IILjava_util_function_BiFunction__I rfl) rfl (by show 2 * 0 + _ ≤ _; exact Nat.le_of_eq rfl) (hb hby d31_5) (fun _ _ => ⟨rfl, e1, (by decide : 0 + 0 ≤ _), (by decide : 0 + 0 ≤ _)⟩)) (fun _ _ _ q => q) N0 (fun T2 L2 X2 e2q N2 => ?_)
  show Go _ _ _ _ _ _ _  T2 (mkF m 8 #[.val (.int (Int32.ofNat i)), .val (.int (Int32.ofNat n))] [(.int (Int32.ofNat i))])
  refine Go.st (fun tT kT => XS.pop X2.here hx rfl (hb hby d31_8) rfl rfl kT) ?_
  show Go _ _ _ _ _ _ _  T2 (mkF m 9 #[.val (.int (Int32.ofNat i)), .val (.int (Int32.ofNat n))] [])
  refine Go.ret0 X2 hlk hx Bd.returns (hb hby d31_9) (by decide) (by decide) ?_
  show Q_rmCI Z _ _ _ h0 n0 _ T2.heap _
  rw [e2q]
  exact ⟨rfl, N2, rfl⟩
def Q_rmLC (Z : State) (a1 : Addr) (fm : Value) (kb : ClassId) (cs : List Int32) (i : Nat) (h0 : Heap) (n0 : Nat) (v : Option Value) (h : Heap) (L : List Loc) : Prop := v = some (.int (own_chr (cs.getD i 0))) ∧ Fr n0 L ∧ h = h0
set_option maxRecDepth 65536 in
set_option maxHeartbeats 40000000 in
theorem rmLC (l : Launch) (Z : State) (a0 : Array Value) (hw : ∀ d ∈ tables_1, d.before a0 Z = true) (ws : List Jvm.Cond) (a1 : Addr) (fm : Value) (kb : ClassId) (cs : List Int32) (i : Nat) (h0 : Heap) (n0 : Nat) (O : Old Z n0 h0) (S_SIO : Sta Z Z.heap "jdk/internal/util/Preconditions" "SIOOBE_FORMATTER" "Ljava/util/function/BiFunction;" fm) (ref_fm : fm.isRef = true) (A_a1 : Arv Z h0 a1 kb .byte (Int32.ofNat cs.length) (cs.map Value.int) (.int 0)) (hi : i < cs.length) (hn : cs.length < 100000) :
    MetFree l (⟨"java/lang/StringLatin1", "charAt", "([BI)C"⟩ : MethodName) (head1 (Jvm.Cond.code (⟨"java/lang/StringLatin1", "charAt", "([BI)C"⟩ : MethodName) jdk_43_method_2_code 2 (some .char) :: ws) ({ frames := 2, cells := 0, slots := 0, locals := 27 } : Room)) (fun a U => a = #[(.ref a1), (.int (Int32.ofNat i))] ∧ Z.Warmed39 U.vm ∧ U.heap = h0) (fun _ _ _ _ _ => True) (fun _ U o U' => ∃ v L, o = .returned v ∧ Q_rmLC Z a1 fm kb cs i h0 n0 v U'.heap L ∧ FrameEnd U o U' L ({ frames := 2, cells := 0, slots := 0, locals := 27 } : Room).cells ({ frames := 2, cells := 0, slots := 0, locals := 27 } : Room).slots) := by
  refine MetFree.of_bodySF (plainFor_of_name pn_30) hisR ?_
  intro p e s m args below meth c s₁ Bd hml0 hP hK
  obtain ⟨rfl, hZ, hh⟩ := hP
  have hx := Bd.exec
  have hby := Bd.bytes
  have hml : c.maxLocals = 2 := hml0
  have hown : s.vm.findClass "java/lang/StringLatin1" = some m.cls := findClass_of_methodNamed Bd.named
  have hnm := (name_of_methodNamed Bd.named Bd.method).1
  have hlk : meth.locks = false := BodyLoose.notSynchronized Bd
  have X0 : Stand p l e ({ frames := 2, cells := 0, slots := 0, locals := 27 } : Room) s m #[(.ref a1), (.int (Int32.ofNat i))] below meth c s₁ [] 0 0 := Stand.of_body Bd
  have e0 : s₁.heap = h0 := by rw [← hh, Bd.state]; rfl
  have N0 := Fr.nil n0
  show Go p e below s ({ frames := 2, cells := 0, slots := 0, locals := 27 } : Room).cells ({ frames := 2, cells := 0, slots := 0, locals := 27 } : Room).slots (Q_rmLC Z a1 fm kb cs i h0 n0) s₁ (entryFrame m #[(.ref a1), (.int (Int32.ofNat i))] 2)
  refine Go.eq (ef_rmLC m a1 (Int32.ofNat i)) ?_
  show Go _ _ _ _ _ _ _  s₁ (mkF m 0 #[.val (.ref a1), .val (.int (Int32.ofNat i))] [])
  refine Go.st (fun tT kT => XS.iloadN X0.here hx rfl (hb hby d30_0) rfl  kT) ?_
  refine Go.st (fun tT kT => XS.aloadN X0.here hx rfl (hb hby d30_1) rfl rfl  kT) ?_
  show Go _ _ _ _ _ _ _  s₁ (mkF m 2 #[.val (.ref a1), .val (.int (Int32.ofNat i))] [(.ref a1), (.int (Int32.ofNat i))])
  obtain ⟨cl1, Ar1, q1, S1, M1, Hh1, G1⟩ := id A_a1
  refine Go.st (X0.arraylength hx (by rw [e0]; exact Ar1.1) (State.isArrayOf_alike hZ.alike Ar1.2.1) (g := (mkF m 2 #[.val (.ref a1), .val (.int (Int32.ofNat i))] [(.ref a1), (.int (Int32.ofNat i))])) rfl rfl (hb hby d30_2)) ?_
  rw [len_of S1 M1]
  show Go _ _ _ _ _ _ _  s₁ (mkF m 3 #[.val (.ref a1), .val (.int (Int32.ofNat i))] [(.int (Int32.ofNat cs.length)), (.int (Int32.ofNat i))])
  refine Go.pureS (w := none) (rest := []) (pc' := 6) (Jvm.LawKit.callS X0 hx (y := (⟨"java/lang/String", "checkIndex", "(II)V"⟩ : MethodName)) hown (mvT hZ (hwi hw 193 rfl)) (mvT hZ (hwi hw 194 rfl)) (mvT hZ (hwi hw 25 rfl)) (mvT hZ (hwi hw 195 rfl)) (by decide) (backOf (W := 0) (rmCI l Z a0 hw [] fm i cs.length h0 n0 O S_SIO ref_fm hi hn) hZ (hwi hw 195 rfl) (hwi hw 25 rfl) (by decide) (by decide)) (g := (mkF m 3 #[.val (.ref a1), .val (.int (Int32.ofNat i))] [(.int (Int32.ofNat cs.length)), (.int (Int32.ofNat i))])) rfl (by rw [hml]; rfl) (argsL := [(.int (Int32.ofNat i)), (.int (Int32.ofNat cs.length))]) (rest := []) (lenOf pd__II_V rfl) rfl (by show 2 * 0 + _ ≤ _; exact Nat.le_of_eq rfl) (hb hby d30_3) (fun _ _ => ⟨rfl, e0, (by decide : 0 + 0 ≤ _), (by decide : 0 + 0 ≤ _)⟩)) (fun _ _ _ q => q) N0 (fun T2 L2 X2 e2q N2 => ?_)
  show Go _ _ _ _ _ _ _  T2 (mkF m 6 #[.val (.ref a1), .val (.int (Int32.ofNat i))] [])
  refine Go.st (fun tT kT => XS.aloadN X2.here hx rfl (hb hby d30_6) rfl rfl  kT) ?_
  refine Go.st (fun tT kT => XS.iloadN X2.here hx rfl (hb hby d30_7) rfl  kT) ?_
  show Go _ _ _ _ _ _ _  T2 (mkF m 8 #[.val (.ref a1), .val (.int (Int32.ofNat i))] [(.int (Int32.ofNat i)), (.ref a1)])
  obtain ⟨cl3, Ar3, q3, S3, M3, Hh3, G3⟩ := id A_a1
  refine Go.st (X2.baloadBytes hx (j := (Int32.ofNat i)) (v := (.int (cs.getD i 0))) (by rw [e2q]; exact Ar3.1) (State.isArrayOf_alike hZ.alike Ar3.2.1) Ar3.2.2 (inb_of S3 ⟨own_onn (by omega), (own_olt (by omega) (by omega)).mpr hi⟩) (Hh3.at (inb_of S3 ⟨own_onn (by omega), (own_olt (by omega) (by omega)).mpr hi⟩) (by rw [own_ocl (by omega)]; exact own_gm cs i)) (g := (mkF m 8 #[.val (.ref a1), .val (.int (Int32.ofNat i))] [(.int (Int32.ofNat i)), (.ref a1)])) rfl rfl (hb hby d30_8)) ?_
  show Go _ _ _ _ _ _ _  T2 (mkF m 9 #[.val (.ref a1), .val (.int (Int32.ofNat i))] [(.int (cs.getD i 0))])
  refine Go.st (fun tT kT => XS.sipush X2.here hx rfl (hb hby d30_9) kT) ?_
  refine Go.st (fun tT kT => XS.iand X2.here hx rfl (hb hby d30_12) rfl kT) ?_
  refine Go.st (fun tT kT => XS.i2c X2.here hx rfl (hb hby d30_13) rfl kT) ?_
  show Go _ _ _ _ _ _ _  T2 (mkF m 14 #[.val (.ref a1), .val (.int (Int32.ofNat i))] [(.int (((cs.getD i 0) &&& (255 : Int32)).toUInt32.toUInt16.toUInt32.toInt32))])
  refine Go.retN X2 hlk hx (t := .char) (z' := (((cs.getD i 0) &&& (255 : Int32)).toUInt32.toUInt16.toUInt32.toInt32)) Bd.returns (by simp) (hb hby d30_14) (by decide) (by decide) (own_nch _) ?_
  show Q_rmLC Z _ _ _ _ _ h0 n0 _ T2.heap _
  rw [e2q]
  exact ⟨rfl, N2, rfl⟩
def Q_rmIsL (Z : State) (a1 : Addr) (zc : Int32) (h0 : Heap) (n0 : Nat) (v : Option Value) (h : Heap) (L : List Loc) : Prop := v = some (.int 1) ∧ Fr n0 L ∧ h = h0
set_option maxRecDepth 65536 in
set_option maxHeartbeats 40000000 in
theorem rmIsL (l : Launch) (Z : State) (a0 : Array Value) (hw : ∀ d ∈ tables_1, d.before a0 Z = true) (ws : List Jvm.Cond) (a1 : Addr) (zc : Int32) (h0 : Heap) (n0 : Nat) (O : Old Z n0 h0) (S_COMPACT : Sta Z Z.heap "java/lang/String" "COMPACT_STRINGS" "Z" (.int zc)) (hcs : ¬ zc = 0) (C_a1 : Fld Z h0 a1 "java/lang/String" "coder" "B" (.int 0)) :
    MetFree l (⟨"java/lang/String", "isLatin1", "()Z"⟩ : MethodName) (head1 (Jvm.Cond.code (⟨"java/lang/String", "isLatin1", "()Z"⟩ : MethodName) jdk_42_method_154_code 1 (some .boolean) :: ws) ({ frames := 0, cells := 0, slots := 0, locals := 0 } : Room)) (fun a U => a = #[(.ref a1)] ∧ Z.Warmed39 U.vm ∧ U.heap = h0) (fun _ _ _ _ _ => True) (fun _ U o U' => ∃ v L, o = .returned v ∧ Q_rmIsL Z a1 zc h0 n0 v U'.heap L ∧ FrameEnd U o U' L ({ frames := 0, cells := 0, slots := 0, locals := 0 } : Room).cells ({ frames := 0, cells := 0, slots := 0, locals := 0 } : Room).slots) := by
  refine MetFree.of_bodySF (plainFor_of_name pn_29) hisR ?_
  intro p e s m args below meth c s₁ Bd hml0 hP hK
  obtain ⟨rfl, hZ, hh⟩ := hP
  have hx := Bd.exec
  have hby := Bd.bytes
  have hml : c.maxLocals = 1 := hml0
  have hown : s.vm.findClass "java/lang/String" = some m.cls := findClass_of_methodNamed Bd.named
  have hnm := (name_of_methodNamed Bd.named Bd.method).1
  have hlk : meth.locks = false := BodyLoose.notSynchronized Bd
  have X0 : Stand p l e ({ frames := 0, cells := 0, slots := 0, locals := 0 } : Room) s m #[(.ref a1)] below meth c s₁ [] 0 0 := Stand.of_body Bd
  have e0 : s₁.heap = h0 := by rw [← hh, Bd.state]; rfl
  have N0 := Fr.nil n0
  show Go p e below s ({ frames := 0, cells := 0, slots := 0, locals := 0 } : Room).cells ({ frames := 0, cells := 0, slots := 0, locals := 0 } : Room).slots (Q_rmIsL Z a1 zc h0 n0) s₁ (entryFrame m #[(.ref a1)] 1)
  refine Go.eq (ef_rmIsL m a1) ?_
  show Go _ _ _ _ _ _ _  s₁ (mkF m 0 #[.val (.ref a1)] [])
  obtain ⟨T1, X1, e1, st1⟩ := getS2 X0 hx hZ hown (host := "") (Or.inl (hwi hw 113 rfl)) Via.refl e0 (S_COMPACT.ext O.2) (g := (mkF m 0 #[.val (.ref a1)] [])) rfl (hb hby d29_0)
  refine Go.st st1 ?_
  show Go _ _ _ _ _ _ _  T1 (mkF m 3 #[.val (.ref a1)] [(.int zc)])
  refine Go.st (fun tT kT => XS.ifNo X1.here hx rfl (hb hby d29_3) rfl ((if0 _ _).trans (feq (hcs : ¬ (zc = (0 : Int32)))).1) kT) ?_
  show Go _ _ _ _ _ _ _  T1 (mkF m 6 #[.val (.ref a1)] [])
  refine Go.st (fun tT kT => XS.aloadN X1.here hx rfl (hb hby d29_6) rfl rfl  kT) ?_
  show Go _ _ _ _ _ _ _  T1 (mkF m 7 #[.val (.ref a1)] [(.ref a1)])
  obtain ⟨T2, X2, e2, st2⟩ := getF X1 hx hZ hown (host := "") (Or.inl (hwi hw 114 rfl)) Via.refl e1 C_a1 (g := (mkF m 7 #[.val (.ref a1)] [(.ref a1)])) rfl rfl (hb hby d29_7)
  refine Go.st st2 ?_
  show Go _ _ _ _ _ _ _  T2 (mkF m 10 #[.val (.ref a1)] [(.int (0 : Int32))])
  refine Go.st (fun tT kT => XS.ifNo X2.here hx rfl (hb hby d29_10) rfl ((if0 _ _).trans (teq (rfl : (0 : Int32) = (0 : Int32))).2) kT) ?_
  show Go _ _ _ _ _ _ _  T2 (mkF m 13 #[.val (.ref a1)] [])
  refine Go.st (fun tT kT => XS.iconst X2.here hx rfl (hb hby d29_13) kT) ?_
  refine Go.st (fun tT kT => XS.goto X2.here hx rfl (pc0 := 14) (pc' := 18) rfl (hb hby d29_14) (by decide) (by decide) kT) ?_
  show Go _ _ _ _ _ _ _  T2 (mkF m 18 #[.val (.ref a1)] [(.int (1 : Int32))])
  refine Go.retN X2 hlk hx (t := .boolean) (z' := (1 : Int32)) Bd.returns (by simp) (hb hby d29_18) (by decide) (by decide) rfl ?_
  show Q_rmIsL Z _ _ h0 n0 _ T2.heap _
  rw [e2]
  exact ⟨rfl, N0, rfl⟩
def Q_rmCA (Z : State) (a1 : Addr) (zc : Int32) (fm : Value) (t : Addr) (kb : ClassId) (cs : List Int32) (i : Nat) (h0 : Heap) (n0 : Nat) (v : Option Value) (h : Heap) (L : List Loc) : Prop := v = some (.int (own_chr (cs.getD i 0))) ∧ Fr n0 L ∧ h = h0
set_option maxRecDepth 65536 in
set_option maxHeartbeats 40000000 in
theorem rmCA (l : Launch) (Z : State) (a0 : Array Value) (hw : ∀ d ∈ tables_1, d.before a0 Z = true) (ws : List Jvm.Cond) (a1 : Addr) (zc : Int32) (fm : Value) (t : Addr) (kb : ClassId) (cs : List Int32) (i : Nat) (h0 : Heap) (n0 : Nat) (O : Old Z n0 h0) (S_COMPACT : Sta Z Z.heap "java/lang/String" "COMPACT_STRINGS" "Z" (.int zc)) (hcs : ¬ zc = 0) (S_SIO : Sta Z Z.heap "jdk/internal/util/Preconditions" "SIOOBE_FORMATTER" "Ljava/util/function/BiFunction;" fm) (ref_fm : fm.isRef = true) (E_a1 : Exa Z h0 a1 "java/lang/String") (C_a1 : Fld Z h0 a1 "java/lang/String" "coder" "B" (.int 0)) (V_a1 : Fld Z h0 a1 "java/lang/String" "value" "[B" (.ref t)) (A_t : Arv Z h0 t kb .byte (Int32.ofNat cs.length) (cs.map Value.int) (.int 0)) (hi : i < cs.length) (hn : cs.length < 100000) :
    MetFree l (⟨"java/lang/String", "charAt", "(I)C"⟩ : MethodName) (head1 (Jvm.Cond.code (⟨"java/lang/String", "charAt", "(I)C"⟩ : MethodName) jdk_42_method_56_code 2 (some .char) :: ws) ({ frames := 3, cells := 0, slots := 0, locals := 40 } : Room)) (fun a U => a = #[(.ref a1), (.int (Int32.ofNat i))] ∧ Z.Warmed39 U.vm ∧ U.heap = h0) (fun _ _ _ _ _ => True) (fun _ U o U' => ∃ v L, o = .returned v ∧ Q_rmCA Z a1 zc fm t kb cs i h0 n0 v U'.heap L ∧ FrameEnd U o U' L ({ frames := 3, cells := 0, slots := 0, locals := 40 } : Room).cells ({ frames := 3, cells := 0, slots := 0, locals := 40 } : Room).slots) := by
  refine MetFree.of_bodySF (plainFor_of_name pn_28) hisR ?_
  intro p e s m args below meth c s₁ Bd hml0 hP hK
  obtain ⟨rfl, hZ, hh⟩ := hP
  have hx := Bd.exec
  have hby := Bd.bytes
  have hml : c.maxLocals = 2 := hml0
  have hown : s.vm.findClass "java/lang/String" = some m.cls := findClass_of_methodNamed Bd.named
  have hnm := (name_of_methodNamed Bd.named Bd.method).1
  have hlk : meth.locks = false := BodyLoose.notSynchronized Bd
  have X0 : Stand p l e ({ frames := 3, cells := 0, slots := 0, locals := 40 } : Room) s m #[(.ref a1), (.int (Int32.ofNat i))] below meth c s₁ [] 0 0 := Stand.of_body Bd
  have e0 : s₁.heap = h0 := by rw [← hh, Bd.state]; rfl
  have N0 := Fr.nil n0
  show Go p e below s ({ frames := 3, cells := 0, slots := 0, locals := 40 } : Room).cells ({ frames := 3, cells := 0, slots := 0, locals := 40 } : Room).slots (Q_rmCA Z a1 zc fm t kb cs i h0 n0) s₁ (entryFrame m #[(.ref a1), (.int (Int32.ofNat i))] 2)
  refine Go.eq (ef_rmCA m a1 (Int32.ofNat i)) ?_
  show Go _ _ _ _ _ _ _  s₁ (mkF m 0 #[.val (.ref a1), .val (.int (Int32.ofNat i))] [])
  refine Go.st (fun tT kT => XS.aloadN X0.here hx rfl (hb hby d28_0) rfl rfl  kT) ?_
  show Go _ _ _ _ _ _ _  s₁ (mkF m 1 #[.val (.ref a1), .val (.int (Int32.ofNat i))] [(.ref a1)])
  obtain ⟨cq1, kq1, q1a, q1b, q1c⟩ := isOf hZ e0 E_a1
  refine Go.pure (w := (some (.int (1 : Int32)))) (rest := []) (pc' := 4) (X0.virtualBack hx (y := (⟨"java/lang/String", "isLatin1", "()Z"⟩ : MethodName)) (z := (⟨"java/lang/String", "isLatin1", "()Z"⟩ : MethodName)) hown (mvT hZ (hwi hw 184 rfl)) (mvT hZ (hwi hw 185 rfl)) (notFace_of_selects (args := #[]) (mvT hZ (hwi hw 187 rfl))) (mvT hZ (hwi hw 187 rfl)) (mvT hZ (hwi hw 186 rfl)) (by decide) (backOf (W := 0) (rmIsL l Z a0 hw [] a1 zc h0 n0 O S_COMPACT hcs C_a1) hZ (hwi hw 188 rfl) (hwi hw 25 rfl) (by decide) (by decide)) q1a q1c (g := (mkF m 1 #[.val (.ref a1), .val (.int (Int32.ofNat i))] [(.ref a1)])) rfl (by rw [hml]; rfl) (Steps.refl _) (argsL := []) (rest := []) (lenOf pd___Z rfl) rfl (by show 2 * 0 + _ ≤ _; exact Nat.le_of_eq rfl) (hb hby d28_1) (fun _ _ => ⟨rfl, e0, (by decide : 0 + 0 ≤ _), (by decide : 0 + 0 ≤ _)⟩)) (fun _ _ _ q => q) N0 (fun T1 L1 X1 e1q N1 => ?_)
  show Go _ _ _ _ _ _ _  T1 (mkF m 4 #[.val (.ref a1), .val (.int (Int32.ofNat i))] [(.int (1 : Int32))])
  refine Go.st (fun tT kT => XS.ifNo X1.here hx rfl (hb hby d28_4) rfl ((if0 _ _).trans (feq (by decide : ¬ ((1 : Int32) = (0 : Int32)))).1) kT) ?_
  show Go _ _ _ _ _ _ _  T1 (mkF m 7 #[.val (.ref a1), .val (.int (Int32.ofNat i))] [])
  refine Go.st (fun tT kT => XS.aloadN X1.here hx rfl (hb hby d28_7) rfl rfl  kT) ?_
  show Go _ _ _ _ _ _ _  T1 (mkF m 8 #[.val (.ref a1), .val (.int (Int32.ofNat i))] [(.ref a1)])
  obtain ⟨T2, X2, e2, st2⟩ := getF X1 hx hZ hown (host := "") (Or.inl (hwi hw 107 rfl)) Via.refl e1q V_a1 (g := (mkF m 8 #[.val (.ref a1), .val (.int (Int32.ofNat i))] [(.ref a1)])) rfl rfl (hb hby d28_8)
  refine Go.st st2 ?_
  show Go _ _ _ _ _ _ _  T2 (mkF m 11 #[.val (.ref a1), .val (.int (Int32.ofNat i))] [(.ref t)])
  refine Go.st (fun tT kT => XS.iloadN X2.here hx rfl (hb hby d28_11) rfl  kT) ?_
  show Go _ _ _ _ _ _ _  T2 (mkF m 12 #[.val (.ref a1), .val (.int (Int32.ofNat i))] [(.int (Int32.ofNat i)), (.ref t)])
  refine Go.pureS (w := (some (.int (own_chr (cs.getD i 0))))) (rest := []) (pc' := 15) (Jvm.LawKit.callS X2 hx (y := (⟨"java/lang/StringLatin1", "charAt", "([BI)C"⟩ : MethodName)) hown (mvT hZ (hwi hw 189 rfl)) (mvT hZ (hwi hw 190 rfl)) (mvT hZ (hwi hw 191 rfl)) (mvT hZ (hwi hw 192 rfl)) (by decide) (backOf (W := 0) (rmLC l Z a0 hw [] t fm kb cs i h0 n0 O S_SIO ref_fm A_t hi hn) hZ (hwi hw 192 rfl) (hwi hw 191 rfl) (by decide) (by decide)) (g := (mkF m 12 #[.val (.ref a1), .val (.int (Int32.ofNat i))] [(.int (Int32.ofNat i)), (.ref t)])) rfl (by rw [hml]; rfl) (argsL := [(.ref t), (.int (Int32.ofNat i))]) (rest := []) (lenOf pd___BI_C rfl) rfl (by show 2 * 0 + _ ≤ _; exact Nat.le_of_eq rfl) (hb hby d28_12) (fun _ _ => ⟨rfl, e2, (by decide : 0 + 0 ≤ _), (by decide : 0 + 0 ≤ _)⟩)) (fun _ _ _ q => q) N1 (fun T3 L3 X3 e3q N3 => ?_)
  show Go _ _ _ _ _ _ _  T3 (mkF m 15 #[.val (.ref a1), .val (.int (Int32.ofNat i))] [(.int (own_chr (cs.getD i 0)))])
  refine Go.retN X3 hlk hx (t := .char) (z' := (own_chr (cs.getD i 0))) Bd.returns (by simp) (hb hby d28_15) (by decide) (by decide) (own_nchr _) ?_
  show Q_rmCA Z _ _ _ _ _ _ _ h0 n0 _ T3.heap _
  rw [e3q]
  exact ⟨rfl, N3, rfl⟩
theorem rmCAf (p2 : Int32) (l : Launch) (Z : State) (a0 : Array Value) (hw : ∀ d ∈ tables_1, d.before a0 Z = true) (ws : List Jvm.Cond) (a1 : Addr) (zc : Int32) (fm : Value) (t : Addr) (kb : ClassId) (cs : List Int32) (i : Nat) (h0 : Heap) (n0 : Nat) (O : Old Z n0 h0) (S_COMPACT : Sta Z Z.heap "java/lang/String" "COMPACT_STRINGS" "Z" (.int zc)) (hcs : ¬ zc = 0) (S_SIO : Sta Z Z.heap "jdk/internal/util/Preconditions" "SIOOBE_FORMATTER" "Ljava/util/function/BiFunction;" fm) (ref_fm : fm.isRef = true) (E_a1 : Exa Z h0 a1 "java/lang/String") (C_a1 : Fld Z h0 a1 "java/lang/String" "coder" "B" (.int 0)) (V_a1 : Fld Z h0 a1 "java/lang/String" "value" "[B" (.ref t)) (A_t : Arv Z h0 t kb .byte (Int32.ofNat cs.length) (cs.map Value.int) (.int 0)) (hi : i < cs.length) (hn : cs.length < 100000) (hp_p2 : p2 = (Int32.ofNat i)) :
    MetFree l (⟨"java/lang/String", "charAt", "(I)C"⟩ : MethodName) (head1 (Jvm.Cond.code (⟨"java/lang/String", "charAt", "(I)C"⟩ : MethodName) jdk_42_method_56_code 2 (some .char) :: ws) ({ frames := 3, cells := 0, slots := 0, locals := 40 } : Room)) (fun a U => a = #[(.ref a1), (.int p2)] ∧ Z.Warmed39 U.vm ∧ U.heap = h0) (fun _ _ _ _ _ => True) (fun _ U o U' => ∃ v L, o = .returned v ∧ Q_rmCA Z a1 zc fm t kb cs i h0 n0 v U'.heap L ∧ FrameEnd U o U' L ({ frames := 3, cells := 0, slots := 0, locals := 40 } : Room).cells ({ frames := 3, cells := 0, slots := 0, locals := 40 } : Room).slots) := by
  subst hp_p2
  exact rmCA l Z a0 hw ws a1 zc fm t kb cs i h0 n0 O S_COMPACT hcs S_SIO ref_fm E_a1 C_a1 V_a1 A_t hi hn
theorem own_fe {s s' : State} {o : Outcome} {L : List Loc} {c k c' k' : Nat} (h : FrameEnd s o s' L c k) (hc : c ≤ c') (hk : k ≤ k') : FrameEnd s o s' L c' k' := ⟨h.1, h.2.1, h.2.2.mono hc hk⟩
theorem own_wide {l : Launch} {y : MethodName} {wl : List Jvm.Cond} {rm rm' : Room} {as' : Array Value} {Z : State} {h : Heap} {Q1 Q2 : Option Value → Heap → List Loc → Prop}
    (hM : MetFree l y (head1 wl rm) (fun a U => a = as' ∧ Z.Warmed39 U.vm ∧ U.heap = h) (fun _ _ _ _ _ => True) (fun _ U o U' => ∃ v L, o = .returned v ∧ Q1 v U'.heap L ∧ FrameEnd U o U' L rm.cells rm.slots))
    (hf : rm.frames ≤ rm'.frames) (hl : rm.locals ≤ rm'.locals) (hc : rm.cells ≤ rm'.cells) (hs : rm.slots ≤ rm'.slots) (hq : ∀ v h' L, Q1 v h' L → Q2 v h' L) :
    MetFree l y (head1 wl rm') (fun a U => a = as' ∧ Z.Warmed39 U.vm ∧ U.heap = h) (fun _ _ _ _ _ => True) (fun _ U o U' => ∃ v L, o = .returned v ∧ Q2 v U'.heap L ∧ FrameEnd U o U' L rm'.cells rm'.slots) := by
  intro p e ha hcs hk s m args below hfr happ hP' hK
  obtain ⟨a1, a2, a3, a4, a5, a6, a7, a8⟩ := (Spec.appliesLoose_iff hfr).mp happ
  obtain ⟨n, o, q1, q2, q3, v, L, q4, q5, q6⟩ := hM p e ha hcs hk s m args below hfr ((Spec.appliesLoose_iff hfr).mpr ⟨a1, a2, a3, a4, a5, a6, hasRoom_mono hf hl hc hs a7, a8⟩) hP' hK
  exact ⟨n, o, q1, q2, q3, v, L, q4, hq _ _ _ q5, own_fe q6 hc hs⟩
theorem own_kw {h h' : Heap} {a t : Addr} (K : Keep h h' [a]) : Keep h h' [a, t] := ⟨K.1, fun x c q r => K.2.1 x c q fun z => r (List.mem_cons.mpr (Or.inl (List.mem_singleton.mp z))), K.2.2⟩

def Q_rmSw (Z : State) (a1 : Addr) (a2 : Addr) (zc : Int32) (t : Addr) (kd : ClassId) (n : Nat) (cap : Nat) (bs : List Value) (u : Addr) (ku : ClassId) (mm : Nat) (vs : List Value) (m0 : Nat) (h0 : Heap) (n0 : Nat) (v : Option Value) (h : Heap) (L : List Loc) : Prop := v = some (.ref a1) ∧ Fr n0 L ∧ Keep h0 h [a1, t] ∧ Exa Z h a1 "java/lang/StringBuilder" ∧ Fld Z h a1 "java/lang/AbstractStringBuilder" "coder" "B" (.int 0) ∧ Fld Z h a1 "java/lang/AbstractStringBuilder" "count" "I" (.int (Int32.ofNat (n + mm))) ∧ ∃ (b : Addr) (kb : ClassId) (cap2 : Nat), n0 ≤ b ∧ m0 ≤ b ∧ Fld Z h a1 "java/lang/AbstractStringBuilder" "value" "[B" (.ref b) ∧ Arv Z h b kb .byte (Int32.ofNat cap2) (bs ++ vs) (.int 0) ∧ n + mm ≤ cap2 ∧ 16 ≤ cap2 ∧ cap2 ≤ 64 ∧ (Exa Z h b "[B" ∨ 30 < cap2)
theorem rmSw (l : Launch) (Z : State) (a0 : Array Value) (hw : ∀ d ∈ tables_1, d.before a0 Z = true) (ws : List Jvm.Cond) (a1 : Addr) (a2 : Addr) (zc : Int32) (t : Addr) (kd : ClassId) (n : Nat) (cap : Nat) (bs : List Value) (u : Addr) (ku : ClassId) (mm : Nat) (vs : List Value) (m0 : Nat) (h0 : Heap) (n0 : Nat) (O : Old Z n0 h0) (S_COMPACT : Sta Z Z.heap "java/lang/String" "COMPACT_STRINGS" "Z" (.int zc)) (hcs : ¬ zc = 0) (E_a1 : Exa Z h0 a1 "java/lang/StringBuilder") (C_a1 : Fld Z h0 a1 "java/lang/AbstractStringBuilder" "coder" "B" (.int 0)) (V_a1 : Fld Z h0 a1 "java/lang/AbstractStringBuilder" "value" "[B" (.ref t)) (N_a1 : Fld Z h0 a1 "java/lang/AbstractStringBuilder" "count" "I" (.int (Int32.ofNat n))) (A_t : Arv Z h0 t kd .byte (Int32.ofNat cap) bs (.int 0)) (L_a1 : bs.length = n) (K_a1 : n ≤ cap) (B_a1 : cap < 100000) (g_a1 : n0 ≤ a1) (g_t : n0 ≤ t) (E_a2 : Exa Z h0 a2 "java/lang/String") (C_a2 : Fld Z h0 a2 "java/lang/String" "coder" "B" (.int 0)) (V_a2 : Fld Z h0 a2 "java/lang/String" "value" "[B" (.ref u)) (A_u : Arv Z h0 u ku .byte (Int32.ofNat mm) vs (.int 0)) (L_a2 : vs.length = mm) (B_a2 : mm < 100000) (ne_u_t : u ≠ t) (hm1 : m0 ≤ t) (hm2 : m0 ≤ h0.size) (hc16 : 16 ≤ cap) (hc64 : cap ≤ 64) (XX : Exa Z h0 t "[B" ∨ 30 < cap) (hlim : n + mm ≤ 30) :
    MetFree l (⟨"java/lang/StringBuilder", "append", "(Ljava/lang/String;)Ljava/lang/StringBuilder;"⟩ : MethodName) (head1 (Jvm.Cond.code (⟨"java/lang/StringBuilder", "append", "(Ljava/lang/String;)Ljava/lang/StringBuilder;"⟩ : MethodName) jdk_67_method_7_code 2 (some (.object "java/lang/StringBuilder")) :: ws) ({ frames := 5, cells := 1, slots := 64, locals := 76 } : Room)) (fun a U => a = #[(.ref a1), (.ref a2)] ∧ Z.Warmed39 U.vm ∧ U.heap = h0) (fun _ _ _ _ _ => True) (fun _ U o U' => ∃ v L, o = .returned v ∧ Q_rmSw Z a1 a2 zc t kd n cap bs u ku mm vs m0 h0 n0 v U'.heap L ∧ FrameEnd U o U' L ({ frames := 5, cells := 1, slots := 64, locals := 76 } : Room).cells ({ frames := 5, cells := 1, slots := 64, locals := 76 } : Room).slots) := by
  by_cases hcap : n + mm ≤ cap
  · refine own_wide (rmS0 l Z a0 hw ws a1 a2 zc t kd n cap bs u ku mm vs h0 n0 O S_COMPACT hcs E_a1 C_a1 V_a1 N_a1 A_t L_a1 K_a1 B_a1 g_a1 g_t E_a2 C_a2 V_a2 A_u L_a2 B_a2 hcap ne_u_t) (by decide) (by decide) (by decide) (by decide) (fun v h L q => ?_)
    obtain ⟨q1, q2, q3, q4, q5, q6, q7, q8⟩ := q
    exact ⟨q1, q2, q3, q4, q5, q6, t, kd, cap, g_t, hm1, q7, q8, hcap, hc16, hc64, XX.imp (fun E => E.keep q3) id⟩
  · refine own_wide (rmS1 l Z a0 hw ws a1 a2 zc t kd n cap bs u ku mm vs h0 n0 O S_COMPACT hcs E_a1 C_a1 V_a1 N_a1 A_t L_a1 K_a1 B_a1 g_a1 g_t E_a2 C_a2 V_a2 A_u L_a2 B_a2 (Nat.lt_of_not_le hcap) (by omega)) (by decide) (by decide) (by decide) (by decide) (fun v h L q => ?_)
    obtain ⟨q1, q2, q3, q4, q5, q6, b, kb, lb, q7, q8⟩ := q
    exact ⟨q1, q2, own_kw q3, q4, q5, q6, b, kb, _, Nat.le_trans (own_le O) lb, Nat.le_trans hm2 lb, q7, q8, by omega, by omega, by omega, Or.inr (by omega)⟩
def Q_rmTSw (Z : State) (a1 : Addr) (zc : Int32) (t : Addr) (kd : ClassId) (n : Nat) (cap : Nat) (bs : List Value) (h0 : Heap) (n0 : Nat) (v : Option Value) (h : Heap) (L : List Loc) : Prop := ∃ (x b : Addr) (kb : ClassId), v = some (.ref x) ∧ Fr n0 L ∧ Ext h0 h ∧ h0.size ≤ x ∧ h0.size ≤ b ∧ Exa Z h x "java/lang/String" ∧ Fld Z h x "java/lang/String" "coder" "B" (.int 0) ∧ Fld Z h x "java/lang/String" "value" "[B" (.ref b) ∧ Arv Z h b kb .byte (Int32.ofNat n) bs (.int 0)
theorem rmTSw (l : Launch) (Z : State) (a0 : Array Value) (hw : ∀ d ∈ tables_1, d.before a0 Z = true) (ws : List Jvm.Cond) (a1 : Addr) (zc : Int32) (t : Addr) (kd : ClassId) (n : Nat) (cap : Nat) (bs : List Value) (h0 : Heap) (n0 : Nat) (O : Old Z n0 h0) (S_COMPACT : Sta Z Z.heap "java/lang/String" "COMPACT_STRINGS" "Z" (.int zc)) (hcs : ¬ zc = 0) (E_a1 : Exa Z h0 a1 "java/lang/StringBuilder") (C_a1 : Fld Z h0 a1 "java/lang/AbstractStringBuilder" "coder" "B" (.int 0)) (V_a1 : Fld Z h0 a1 "java/lang/AbstractStringBuilder" "value" "[B" (.ref t)) (N_a1 : Fld Z h0 a1 "java/lang/AbstractStringBuilder" "count" "I" (.int (Int32.ofNat n))) (A_t : Arv Z h0 t kd .byte (Int32.ofNat cap) bs (.int 0)) (L_a1 : bs.length = n) (K_a1 : n ≤ cap) (B_a1 : cap < 100000) (hlim : n ≤ 30) (XX : Exa Z h0 t "[B" ∨ 30 < cap) :
    MetFree l (⟨"java/lang/StringBuilder", "toString", "()Ljava/lang/String;"⟩ : MethodName) (head1 (Jvm.Cond.code (⟨"java/lang/StringBuilder", "toString", "()Ljava/lang/String;"⟩ : MethodName) jdk_67_method_42_code 1 (some (.object "java/lang/String")) :: ws) ({ frames := 5, cells := 2, slots := 68, locals := 79 } : Room)) (fun a U => a = #[(.ref a1)] ∧ Z.Warmed39 U.vm ∧ U.heap = h0) (fun _ _ _ _ _ => True) (fun _ U o U' => ∃ v L, o = .returned v ∧ Q_rmTSw Z a1 zc t kd n cap bs h0 n0 v U'.heap L ∧ FrameEnd U o U' L ({ frames := 5, cells := 2, slots := 68, locals := 79 } : Room).cells ({ frames := 5, cells := 2, slots := 68, locals := 79 } : Room).slots) := by
  by_cases hf : n = cap
  · have X_t : Exa Z h0 t "[B" := XX.resolve_right (by omega)
    exact own_wide (rmTSc l Z a0 hw ws a1 zc t kd n cap bs h0 n0 O hf (by omega) S_COMPACT hcs E_a1 C_a1 V_a1 N_a1 A_t L_a1 K_a1 B_a1 X_t) (by decide) (by decide) (by decide) (by decide) (fun _ _ _ q => q)
  · exact own_wide (rmTS l Z a0 hw ws a1 zc t kd n cap bs h0 n0 O (by omega) (by omega) S_COMPACT hcs E_a1 C_a1 V_a1 N_a1 A_t L_a1 K_a1 B_a1) (by decide) (by decide) (by decide) (by decide) (fun _ _ _ q => q)
def Q_rmSS (Z : State) (p1 : Int64) (h0 : Heap) (n0 : Nat) (v : Option Value) (h : Heap) (L : List Loc) : Prop := v = some (.int (Int32.ofNat (own_k p1))) ∧ Fr n0 L ∧ h = h0
theorem rmSS (l : Launch) (Z : State) (a0 : Array Value) (hw : ∀ d ∈ tables_1, d.before a0 Z = true) (ws : List Jvm.Cond) (p1 : Int64) (h0 : Heap) (n0 : Nat) (O : Old Z n0 h0) (hx0 : ¬ p1 < 0) :
    MetFree l (⟨"java/lang/Long", "stringSize", "(J)I"⟩ : MethodName) (head1 (Jvm.Cond.code (⟨"java/lang/Long", "stringSize", "(J)I"⟩ : MethodName) jdk_35_method_15_code 6 (some .int) :: ws) ({ frames := 1, cells := 0, slots := 0, locals := 40 } : Room)) (fun a U => a = #[.long p1] ∧ Z.Warmed39 U.vm ∧ U.heap = h0) (fun _ _ _ _ _ => True) (fun _ U o U' => ∃ v L, o = .returned v ∧ Q_rmSS Z p1 h0 n0 v U'.heap L ∧ FrameEnd U o U' L ({ frames := 1, cells := 0, slots := 0, locals := 40 } : Room).cells ({ frames := 1, cells := 0, slots := 0, locals := 40 } : Room).slots) := by
  have t : ∀ U : State, Z.Warmed39 U.vm → Jvm.Free.SBG.StrSizeL.tab.before #[.long p1] U = true := fun U hZ => by
    simp only [Jvm.Free.SBG.StrSizeL.tab, Cond.before_and, Bool.and_eq_true]
    exact ⟨mv hZ (hw _ (by decide +kernel)), mv hZ (hw _ (by decide +kernel)), mv hZ (hw _ (by decide +kernel))⟩
  refine own_free (Jvm.Free.SBG.StrSizeL.gets l p1) (fun U hZ => ?_) (by decide) (by decide) (by decide) (by decide) (fun U _ _ => rfl) (fun U o U' hh hq => ?_)
  · show (Cond.and (.count 1) Jvm.Free.SBG.StrSizeL.tab).before _ U = true
    rw [Cond.before_and, t U hZ]; rfl
  · obtain ⟨ho, he, hf⟩ := hq
    refine ⟨_, [], ho, ⟨?_, Fr.nil n0, he.trans hh⟩, hf⟩
    obtain ⟨e1, e2⟩ := own_negx hx0
    rw [Jvm.Free.SBG.strSizeOfL_eq e1 e2, Jvm.Free.SBG.GetCharsL.sgnL, if_neg hx0]; rfl
def Q_rmGC (Z : State) (p1 : Int64) (n : Nat) (a3 : Addr) (kd : ClassId) (cap : Nat) (bs : List Value) (sd : Addr) (d1 : Addr) (d2 : Addr) (dC1 : Cell) (dC2 : Cell) (h0 : Heap) (n0 : Nat) (v : Option Value) (h : Heap) (L : List Loc) : Prop := v = some (.int (Int32.ofNat n)) ∧ Fr n0 L ∧ Keep h0 h [a3] ∧ Arv Z h a3 kd .byte (Int32.ofNat cap) (bs ++ (own_dl p1).map Value.int) (.int 0)
theorem rmGC (l : Launch) (Z : State) (a0 : Array Value) (hw : ∀ d ∈ tables_1, d.before a0 Z = true) (ws : List Jvm.Cond) (p1 : Int64) (n : Nat) (a3 : Addr) (kd : ClassId) (cap : Nat) (bs : List Value) (sd : Addr) (d1 : Addr) (d2 : Addr) (dC1 : Cell) (dC2 : Cell) (h0 : Heap) (n0 : Nat) (O : Old Z n0 h0) (hx0 : ¬ p1 < 0) (A_a3 : Arv Z h0 a3 kd .byte (Int32.ofNat cap) bs (.int 0)) (hbs : bs.length = n) (hcap : n + own_k p1 ≤ cap) (hcb : cap < 100000) (g_a3 : n0 ≤ a3) (dT1 : Jvm.Free.SBG.Tbl Z "DigitOnes" sd d1 dC1) (dT2 : Jvm.Free.SBG.Tbl Z "DigitTens" sd d2 dC2) (dO1 : Jvm.Free.SBG.Ones dC1) (dO2 : Jvm.Free.SBG.Tens dC2) :
    MetFree l (⟨"java/lang/Long", "getChars", "(JI[B)I"⟩ : MethodName) (head1 (Jvm.Cond.code (⟨"java/lang/Long", "getChars", "(JI[B)I"⟩ : MethodName) jdk_35_method_14_code 11 (some .int) :: ws) ({ frames := 1, cells := 0, slots := 0, locals := 80 } : Room)) (fun a U => a = #[.long p1, .int (Int32.ofNat (n + own_k p1)), .ref a3] ∧ Z.Warmed39 U.vm ∧ U.heap = h0) (fun _ _ _ _ _ => True) (fun _ U o U' => ∃ v L, o = .returned v ∧ Q_rmGC Z p1 n a3 kd cap bs sd d1 d2 dC1 dC2 h0 n0 v U'.heap L ∧ FrameEnd U o U' L ({ frames := 1, cells := 0, slots := 0, locals := 80 } : Room).cells ({ frames := 1, cells := 0, slots := 0, locals := 80 } : Room).slots) := by
  obtain ⟨A, AA, q1, S, q3, H, G⟩ := id A_a3
  rw [own_ocl (by omega)] at S
  obtain ⟨e1, e2⟩ := own_negx hx0
  obtain ⟨_, _, _, _, cS, _, _, _, _, hS, _, _, dd1, _⟩ := id dT1
  obtain ⟨_, _, _, _, _, _, _, _, _, _, _, _, dd2, _⟩ := id dT2
  have t : ∀ U : State, Z.Warmed39 U.vm → Jvm.Free.SBG.GetCharsL.tab.before #[.long p1, .int (Int32.ofNat (n + own_k p1)), .ref a3] U = true := fun U hZ => by
    simp only [Jvm.Free.SBG.GetCharsL.tab, Cond.before_and, Bool.and_eq_true]
    exact ⟨mv hZ (hw _ (by decide +kernel)), mv hZ (hw _ (by decide +kernel)), mv hZ (hw _ (by decide +kernel)), mv hZ (hw _ (by decide +kernel)), mv hZ (hw _ (by decide +kernel))⟩
  have ne : ∀ {x : Addr} {c : Cell}, Z.heap[x]? = some c → a3 ≠ x := fun q => (O.ne (Array.getElem?_eq_some_iff.mp q).1 g_a3).symm
  have sg : Jvm.Free.SBG.GetCharsL.sgnL p1 = 0 := by rw [Jvm.Free.SBG.GetCharsL.sgnL, if_neg hx0]
  let g : Jvm.Free.SBG.GetCharsL.G := { x := p1, n := p1.toInt.natAbs, idx := n + own_k p1, da := a3, A := A, st := sd, d1 := d1, D1 := dC1, d2 := d2, D2 := dC2 }
  have hroom : Jvm.Free.SBG.digitsL g.n + Jvm.Free.SBG.GetCharsL.sgnL g.x ≤ g.idx := by show own_k p1 + Jvm.Free.SBG.GetCharsL.sgnL p1 ≤ n + own_k p1; rw [sg]; omega
  have hnull : ∀ i, i < A.slots.size → fits .byte (A.slots.getD i .null) = true := fun i hi => by
    have q := H i hi; have r := G i hi
    rw [Array.getD_eq_getD_getElem?, q]; exact r
  obtain ⟨f1, f2, f3, f4, f5⟩ := Jvm.Free.SBG.GetCharsL.outCell_facts g e1 hroom hnull
  have eo : Jvm.Free.SBG.GetCharsL.outCell g = (Jvm.Free.SBG.digLoop dC1 dC2 10 A p1.toInt.natAbs (n + own_k p1)).1 := by show (if p1 < 0 then _ else _) = _; rw [if_neg hx0]
  have e100 : (100 : Nat) ^ 10 = 100000000000000000000 := by decide
  have hlt : p1.toInt.natAbs < 100 ^ 10 := by omega
  obtain ⟨w1, w2⟩ := Jvm.Free.SBG.digLoop_at dO1 dO2 10 A p1.toInt.natAbs (n + own_k p1) hlt (by show own_k p1 ≤ _; omega) (by omega)
  rw [← eo] at w1 w2
  refine own_free (Jvm.Free.SBG.GetCharsL.gets l g) (fun U hZ => ?_) (by decide) (by decide) (by decide) (by decide) (fun U hZ hh => ?_) (fun U o U' hh hq => ?_)
  · show (Cond.and (.count 3) Jvm.Free.SBG.GetCharsL.tab).before _ U = true
    rw [Cond.before_and, t U hZ]; rfl
  · refine ⟨rfl, by rw [hh]; exact AA.1, State.isArrayOf_alike hZ.alike AA.2.1, AA.2.2, ?_, ?_, hroom, e1, e2, dT1.move hZ.alike (fun c q => by rw [hh]; exact O.2.2 _ _ q) (by rw [hh]; exact O.2.2 _ _ dd1), dT2.move hZ.alike (fun c q => by rw [hh]; exact O.2.2 _ _ q) (by rw [hh]; exact O.2.2 _ _ dd2), ne hS, ne dd1, ne dd2⟩
    · show A.slots.size < _; omega
    · show n + own_k p1 ≤ A.slots.size; omega
  · obtain ⟨ho, hcell, hkeep, L, hL, hfe⟩ := hq
    have hcell' : U'.heap[a3]? = some (Jvm.Free.SBG.GetCharsL.outCell g) := hcell
    have f3' : (Jvm.Free.SBG.GetCharsL.outCell g).slots.size = cap := f3.trans S
    have hh0 : ∀ i, i < (Jvm.Free.SBG.GetCharsL.outCell g).slots.size → (Jvm.Free.SBG.GetCharsL.outCell g).slots[i]? = some ((bs ++ (own_dl p1).map Value.int).getD i (.int 0)) := fun i hi => by
      have hi' : i < cap := by rw [← f3']; exact hi
      have hb : A.slots[i]? = some (bs.getD i (.int 0)) := H i (by omega)
      have ek : Jvm.Free.SBG.wN 10 p1.toInt.natAbs = own_k p1 := rfl
      rw [List.getD_eq_getElem?_getD]
      by_cases c1 : i < n
      · rw [w2 i (Or.inl (by rw [ek]; omega)), hb, List.getElem?_append_left (by omega), ← List.getD_eq_getElem?_getD]
      · rw [List.getElem?_append_right (by omega), hbs]
        by_cases c2 : i < n + own_k p1
        · have := w1 (n + own_k p1 - 1 - i) (by rw [ek]; omega)
          rw [show n + own_k p1 - 1 - (n + own_k p1 - 1 - i) = i by omega] at this
          rw [this, List.getElem?_map, show (own_dl p1)[i - n]? = some ((own_dl p1).getD (i - n) 0) by rw [List.getD_eq_getElem?_getD, List.getElem?_eq_getElem (by rw [own_dll]; omega)]; rfl, own_dld p1 (by omega)]
          rw [show own_k p1 - 1 - (i - n) = n + own_k p1 - 1 - i by omega]; rfl
        · rw [w2 i (Or.inr (by omega)), hb, List.getElem?_eq_none (by rw [List.length_map, own_dll]; omega), List.getD_eq_getElem?_getD, List.getElem?_eq_none (by omega)]
    refine ⟨_, L, ho, ⟨?_, fun y hy => by rw [hL y hy]; exact g_a3, ⟨?_, fun x c q r => hkeep x c (fun e => r (by rw [e]; exact List.mem_singleton.mpr rfl)) (by rw [hh]; exact q), fun x c q => ?_⟩, ⟨_, ⟨hcell', ?_, ?_⟩, ?_, ?_, own_onn (by omega), hh0, fun i hi => ?_⟩⟩, hfe⟩
    · show some (Value.int (Int32.ofNat (n + own_k p1 - (own_k p1 + Jvm.Free.SBG.GetCharsL.sgnL p1)))) = _
      rw [sg, show n + own_k p1 - (own_k p1 + 0) = n by omega]
    · have := hfe.2.2.2.1; rw [hh] at this; exact this
    · by_cases e : x = a3
      · subst e; cases AA.1.symm.trans q; exact ⟨_, hcell', f1, f2, f3⟩
      · exact ⟨c, hkeep x c e (by rw [hh]; exact q), rfl, rfl, rfl⟩
    · exact ⟨fun q => by rw [f2]; exact AA.2.1.1 q, by rw [f1]; exact AA.2.1.2⟩
    · rw [f2]; exact AA.2.2
    · rw [f1]; exact q1
    · rw [f3', own_ocl (by omega)]
    · have := f4 i hi; rw [Array.getD_eq_getD_getElem?, hh0 i hi] at this; exact this
def Q_rmAJ0 (Z : State) (a1 : Addr) (x1 : Int64) (zc : Int32) (t : Addr) (kd : ClassId) (n : Nat) (cap : Nat) (bs : List Value) (sd : Addr) (d1 : Addr) (d2 : Addr) (dC1 : Cell) (dC2 : Cell) (h0 : Heap) (n0 : Nat) (v : Option Value) (h : Heap) (L : List Loc) : Prop := v = some (.ref a1) ∧ Fr n0 L ∧ Keep h0 h [a1, t] ∧ Exa Z h a1 "java/lang/StringBuilder" ∧ Fld Z h a1 "java/lang/AbstractStringBuilder" "coder" "B" (.int 0) ∧ Fld Z h a1 "java/lang/AbstractStringBuilder" "count" "I" (.int (Int32.ofNat (n + own_k x1))) ∧ Fld Z h a1 "java/lang/AbstractStringBuilder" "value" "[B" (.ref t) ∧ Arv Z h t kd .byte (Int32.ofNat cap) (bs ++ ((own_dl x1).map Value.int)) (.int 0)
set_option maxRecDepth 65536 in
set_option maxHeartbeats 40000000 in
theorem rmAJ0 (l : Launch) (Z : State) (a0 : Array Value) (hw : ∀ d ∈ tables_1, d.before a0 Z = true) (ws : List Jvm.Cond) (a1 : Addr) (x1 : Int64) (zc : Int32) (t : Addr) (kd : ClassId) (n : Nat) (cap : Nat) (bs : List Value) (sd : Addr) (d1 : Addr) (d2 : Addr) (dC1 : Cell) (dC2 : Cell) (h0 : Heap) (n0 : Nat) (O : Old Z n0 h0) (S_COMPACT : Sta Z Z.heap "java/lang/String" "COMPACT_STRINGS" "Z" (.int zc)) (hcs : ¬ zc = 0) (E_a1 : Exa Z h0 a1 "java/lang/StringBuilder") (C_a1 : Fld Z h0 a1 "java/lang/AbstractStringBuilder" "coder" "B" (.int 0)) (V_a1 : Fld Z h0 a1 "java/lang/AbstractStringBuilder" "value" "[B" (.ref t)) (N_a1 : Fld Z h0 a1 "java/lang/AbstractStringBuilder" "count" "I" (.int (Int32.ofNat n))) (A_t : Arv Z h0 t kd .byte (Int32.ofNat cap) bs (.int 0)) (L_a1 : bs.length = n) (K_a1 : n ≤ cap) (B_a1 : cap < 100000) (g_a1 : n0 ≤ a1) (g_t : n0 ≤ t) (hx0 : ¬ x1 < 0) (dT1 : Jvm.Free.SBG.Tbl Z "DigitOnes" sd d1 dC1) (dT2 : Jvm.Free.SBG.Tbl Z "DigitTens" sd d2 dC2) (dO1 : Jvm.Free.SBG.Ones dC1) (dO2 : Jvm.Free.SBG.Tens dC2) (hcap : n + own_k x1 ≤ cap) :
    MetFree l (⟨"java/lang/AbstractStringBuilder", "append", "(J)Ljava/lang/AbstractStringBuilder;"⟩ : MethodName) (head1 (Jvm.Cond.code (⟨"java/lang/AbstractStringBuilder", "append", "(J)Ljava/lang/AbstractStringBuilder;"⟩ : MethodName) jdk_68_method_33_code 5 (some (.object "java/lang/AbstractStringBuilder")) :: ws) ({ frames := 2, cells := 0, slots := 0, locals := 102 } : Room)) (fun a U => a = #[(.ref a1), (.long x1)] ∧ Z.Warmed39 U.vm ∧ U.heap = h0) (fun _ _ _ _ _ => True) (fun _ U o U' => ∃ v L, o = .returned v ∧ Q_rmAJ0 Z a1 x1 zc t kd n cap bs sd d1 d2 dC1 dC2 h0 n0 v U'.heap L ∧ FrameEnd U o U' L ({ frames := 2, cells := 0, slots := 0, locals := 102 } : Room).cells ({ frames := 2, cells := 0, slots := 0, locals := 102 } : Room).slots) := by
  refine MetFree.of_bodySF (plainFor_of_name pn_6) hisR ?_
  intro p e s m args below meth c s₁ Bd hml0 hP hK
  obtain ⟨rfl, hZ, hh⟩ := hP
  have hx := Bd.exec
  have hby := Bd.bytes
  have hml : c.maxLocals = 5 := hml0
  have hown : s.vm.findClass "java/lang/AbstractStringBuilder" = some m.cls := findClass_of_methodNamed Bd.named
  have hnm := (name_of_methodNamed Bd.named Bd.method).1
  have hlk : meth.locks = false := BodyLoose.notSynchronized Bd
  have X0 : Stand p l e ({ frames := 2, cells := 0, slots := 0, locals := 102 } : Room) s m #[(.ref a1), (.long x1)] below meth c s₁ [] 0 0 := Stand.of_body Bd
  have e0 : s₁.heap = h0 := by rw [← hh, Bd.state]; rfl
  have N0 := Fr.nil n0
  have KK : Keep h0 h0 [a1, t] := Keep.refl h0 _
  show Go p e below s ({ frames := 2, cells := 0, slots := 0, locals := 102 } : Room).cells ({ frames := 2, cells := 0, slots := 0, locals := 102 } : Room).slots (Q_rmAJ0 Z a1 x1 zc t kd n cap bs sd d1 d2 dC1 dC2 h0 n0) s₁ (entryFrame m #[(.ref a1), (.long x1)] 5)
  refine Go.eq (ef_rmAJ0 m a1 x1) ?_
  show Go _ _ _ _ _ _ _  s₁ (mkF m 0 #[.val (.ref a1), .val (.long x1), .second, .unset, .unset] [])
  refine Go.st (fun tT kT => XS.aloadN X0.here hx rfl (hb hby d6_0) rfl rfl  kT) ?_
  show Go _ _ _ _ _ _ _  s₁ (mkF m 1 #[.val (.ref a1), .val (.long x1), .second, .unset, .unset] [(.ref a1)])
  obtain ⟨T1, X1, e1, st1⟩ := getF X0 hx hZ hown (host := "") (Or.inl (hwi hw 68 rfl)) Via.refl e0 N_a1 (g := (mkF m 1 #[.val (.ref a1), .val (.long x1), .second, .unset, .unset] [(.ref a1)])) rfl rfl (hb hby d6_1)
  refine Go.st st1 ?_
  show Go _ _ _ _ _ _ _  T1 (mkF m 4 #[.val (.ref a1), .val (.long x1), .second, .unset, .unset] [(.int (Int32.ofNat n))])
  refine Go.st (fun tT kT => XS.istoreN X1.here hx rfl (hb hby d6_4) rfl (l' := #[.val (.ref a1), .val (.long x1), .second, .val (.int (Int32.ofNat n)), .unset]) rfl kT) ?_
  refine Go.st (fun tT kT => XS.iloadN X1.here hx rfl (hb hby d6_5) rfl  kT) ?_
  refine Go.st (fun tT kT => XS.lloadN X1.here hx rfl (hb hby d6_6) rfl  kT) ?_
  show Go _ _ _ _ _ _ _  T1 (mkF m 7 #[.val (.ref a1), .val (.long x1), .second, .val (.int (Int32.ofNat n)), .unset] [(.long x1), (.int (Int32.ofNat n))])
  refine Go.pureS (w := (some (.int (Int32.ofNat (own_k x1))))) (rest := [(.int (Int32.ofNat n))]) (pc' := 10) (Jvm.LawKit.callS X1 hx (y := (⟨"java/lang/Long", "stringSize", "(J)I"⟩ : MethodName)) hown (mvT hZ (hwi hw 70 rfl)) (mvT hZ (hwi hw 71 rfl)) (mvT hZ (hwi hw 72 rfl)) (mvT hZ (hwi hw 73 rfl)) (by decide) (backOf (W := 1) (rmSS l Z a0 hw [] x1 h0 n0 O hx0) hZ (hwi hw 73 rfl) (hwi hw 72 rfl) (by decide) (by decide)) (g := (mkF m 7 #[.val (.ref a1), .val (.long x1), .second, .val (.int (Int32.ofNat n)), .unset] [(.long x1), (.int (Int32.ofNat n))])) rfl (by rw [hml]; rfl) (argsL := [(.long x1)]) (rest := [(.int (Int32.ofNat n))]) (lenOf pd__J_I rfl) rfl (by show 2 * 0 + _ ≤ _; exact Nat.le_of_eq rfl) (hb hby d6_7) (fun _ _ => ⟨rfl, e1, (by decide : 0 + 0 ≤ _), (by decide : 0 + 0 ≤ _)⟩)) (fun _ _ _ q => q) N0 (fun T2 L2 X2 e2q N2 => ?_)
  show Go _ _ _ _ _ _ _  T2 (mkF m 10 #[.val (.ref a1), .val (.long x1), .second, .val (.int (Int32.ofNat n)), .unset] [(.int (Int32.ofNat (own_k x1))), (.int (Int32.ofNat n))])
  refine Go.st (fun tT kT => XS.iadd X2.here hx rfl (hb hby d6_10) rfl kT) ?_
  show Go _ _ _ _ _ _ _  T2 (mkF m 11 #[.val (.ref a1), .val (.long x1), .second, .val (.int (Int32.ofNat n)), .unset] [(.int ((Int32.ofNat n) + (Int32.ofNat (own_k x1))))])
  rw [own_oadd]
  refine Go.st (fun tT kT => XS.istore X2.here hx rfl (hb hby d6_11) rfl (l' := #[.val (.ref a1), .val (.long x1), .second, .val (.int (Int32.ofNat n)), .val (.int (Int32.ofNat (n + own_k x1)))]) rfl kT) ?_
  refine Go.st (fun tT kT => XS.aloadN X2.here hx rfl (hb hby d6_13) rfl rfl  kT) ?_
  show Go _ _ _ _ _ _ _  T2 (mkF m 14 #[.val (.ref a1), .val (.long x1), .second, .val (.int (Int32.ofNat n)), .val (.int (Int32.ofNat (n + own_k x1)))] [(.ref a1)])
  refine Go.st (fun tT kT => XS.iload X2.here hx rfl (hb hby d6_14) rfl  kT) ?_
  show Go _ _ _ _ _ _ _  T2 (mkF m 16 #[.val (.ref a1), .val (.long x1), .second, .val (.int (Int32.ofNat n)), .val (.int (Int32.ofNat (n + own_k x1)))] [(.int (Int32.ofNat (n + own_k x1))), (.ref a1)])
  obtain ⟨cq3, q3, q3'⟩ := Exa.cell E_a1
  refine Go.pure (w := none) (rest := []) (pc' := 19) (X2.privateBack hx (y := (⟨"java/lang/AbstractStringBuilder", "ensureCapacityInternal", "(I)V"⟩ : MethodName)) hown (mvT hZ (hwi hw 75 rfl)) (mvT hZ (hwi hw 76 rfl)) (own_selfsel2 (mvT hZ (hwi hw 78 rfl)) (mvP hZ (hwi hw 77 rfl)) (mvT hZ (hwi hw 76 rfl)) (by decide)) (Cond.privateMethod_at (mvP hZ (hwi hw 77 rfl) (args := #[]))) (mvT hZ (hwi hw 79 rfl)) (by decide) (backOf (W := 0) (rmE0 l Z a0 hw [] a1 (n + own_k x1) t kd n cap bs h0 n0 O E_a1 C_a1 V_a1 N_a1 A_t L_a1 K_a1 B_a1 g_a1 g_t hcap) hZ (hwi hw 79 rfl) (hwi hw 48 rfl) (by decide) (by decide)) (g := (mkF m 16 #[.val (.ref a1), .val (.long x1), .second, .val (.int (Int32.ofNat n)), .val (.int (Int32.ofNat (n + own_k x1)))] [(.int (Int32.ofNat (n + own_k x1))), (.ref a1)])) rfl (by rw [hml]; rfl) (Steps.refl _) (a := a1) (by rw [e2q]; exact q3) q3' (argsL := [(.int (Int32.ofNat (n + own_k x1)))]) (rest := []) (lenOf pd__I_V rfl) rfl (by show 2 * 0 + _ ≤ _; exact Nat.le_of_eq rfl) (hb hby d6_16) (fun _ _ => ⟨rfl, e2q, (by decide : 0 + 0 ≤ _), (by decide : 0 + 0 ≤ _)⟩)) (fun _ _ _ q => q) N2 (fun T3 L3 X3 e3q N3 => ?_)
  show Go _ _ _ _ _ _ _  T3 (mkF m 19 #[.val (.ref a1), .val (.long x1), .second, .val (.int (Int32.ofNat n)), .val (.int (Int32.ofNat (n + own_k x1)))] [])
  refine Go.st (fun tT kT => XS.aloadN X3.here hx rfl (hb hby d6_19) rfl rfl  kT) ?_
  show Go _ _ _ _ _ _ _  T3 (mkF m 20 #[.val (.ref a1), .val (.long x1), .second, .val (.int (Int32.ofNat n)), .val (.int (Int32.ofNat (n + own_k x1)))] [(.ref a1)])
  obtain ⟨cq4, kq4, q4a, q4b, q4c⟩ := isOf hZ e3q E_a1
  refine Go.pure (w := (some (.int (1 : Int32)))) (rest := []) (pc' := 23) (X3.virtualBack hx (y := (⟨"java/lang/AbstractStringBuilder", "isLatin1", "()Z"⟩ : MethodName)) (z := (⟨"java/lang/AbstractStringBuilder", "isLatin1", "()Z"⟩ : MethodName)) hown (mvT hZ (hwi hw 80 rfl)) (mvT hZ (hwi hw 81 rfl)) (notFace_of_selects (args := #[]) (mvT hZ (hwi hw 83 rfl))) (mvT hZ (hwi hw 83 rfl)) (mvT hZ (hwi hw 82 rfl)) (by decide) (backOf (W := 0) (rmIL l Z a0 hw [] a1 zc h0 n0 O S_COMPACT hcs C_a1) hZ (hwi hw 84 rfl) (hwi hw 48 rfl) (by decide) (by decide)) q4a q4c (g := (mkF m 20 #[.val (.ref a1), .val (.long x1), .second, .val (.int (Int32.ofNat n)), .val (.int (Int32.ofNat (n + own_k x1)))] [(.ref a1)])) rfl (by rw [hml]; rfl) (Steps.refl _) (argsL := []) (rest := []) (lenOf pd___Z rfl) rfl (by show 2 * 0 + _ ≤ _; exact Nat.le_of_eq rfl) (hb hby d6_20) (fun _ _ => ⟨rfl, e3q, (by decide : 0 + 0 ≤ _), (by decide : 0 + 0 ≤ _)⟩)) (fun _ _ _ q => q) N3 (fun T4 L4 X4 e4q N4 => ?_)
  show Go _ _ _ _ _ _ _  T4 (mkF m 23 #[.val (.ref a1), .val (.long x1), .second, .val (.int (Int32.ofNat n)), .val (.int (Int32.ofNat (n + own_k x1)))] [(.int (1 : Int32))])
  refine Go.st (fun tT kT => XS.ifNo X4.here hx rfl (hb hby d6_23) rfl ((if0 _ _).trans (feq (by decide : ¬ ((1 : Int32) = (0 : Int32)))).1) kT) ?_
  show Go _ _ _ _ _ _ _  T4 (mkF m 26 #[.val (.ref a1), .val (.long x1), .second, .val (.int (Int32.ofNat n)), .val (.int (Int32.ofNat (n + own_k x1)))] [])
  refine Go.st (fun tT kT => XS.lloadN X4.here hx rfl (hb hby d6_26) rfl  kT) ?_
  refine Go.st (fun tT kT => XS.iload X4.here hx rfl (hb hby d6_27) rfl  kT) ?_
  refine Go.st (fun tT kT => XS.aloadN X4.here hx rfl (hb hby d6_29) rfl rfl  kT) ?_
  show Go _ _ _ _ _ _ _  T4 (mkF m 30 #[.val (.ref a1), .val (.long x1), .second, .val (.int (Int32.ofNat n)), .val (.int (Int32.ofNat (n + own_k x1)))] [(.ref a1), (.int (Int32.ofNat (n + own_k x1))), (.long x1)])
  obtain ⟨T5, X5, e5, st5⟩ := getF X4 hx hZ hown (host := "") (Or.inl (hwi hw 54 rfl)) Via.refl e4q V_a1 (g := (mkF m 30 #[.val (.ref a1), .val (.long x1), .second, .val (.int (Int32.ofNat n)), .val (.int (Int32.ofNat (n + own_k x1)))] [(.ref a1), (.int (Int32.ofNat (n + own_k x1))), (.long x1)])) rfl rfl (hb hby d6_30)
  refine Go.st st5 ?_
  show Go _ _ _ _ _ _ _  T5 (mkF m 33 #[.val (.ref a1), .val (.long x1), .second, .val (.int (Int32.ofNat n)), .val (.int (Int32.ofNat (n + own_k x1)))] [(.ref t), (.int (Int32.ofNat (n + own_k x1))), (.long x1)])
  obtain ⟨_, _, ⟨T6, L6, k6, n6⟩, -, X6, ⟨Lc6, hQ6, l6, y6, z6⟩, st6⟩ := Jvm.LawKit.callS X5 hx (y := (⟨"java/lang/Long", "getChars", "(JI[B)I"⟩ : MethodName)) hown (mvT hZ (hwi hw 85 rfl)) (mvT hZ (hwi hw 86 rfl)) (mvT hZ (hwi hw 72 rfl)) (mvT hZ (hwi hw 87 rfl)) (by decide) (backOf (W := 0) (rmGC l Z a0 hw [] x1 n t kd cap bs sd d1 d2 dC1 dC2 h0 n0 O hx0 A_t L_a1 hcap B_a1 g_t dT1 dT2 dO1 dO2) hZ (hwi hw 87 rfl) (hwi hw 72 rfl) (by decide) (by decide)) (g := (mkF m 33 #[.val (.ref a1), .val (.long x1), .second, .val (.int (Int32.ofNat n)), .val (.int (Int32.ofNat (n + own_k x1)))] [(.ref t), (.int (Int32.ofNat (n + own_k x1))), (.long x1)])) rfl (by rw [hml]; rfl) (argsL := [(.long x1), (.int (Int32.ofNat (n + own_k x1))), (.ref t)]) (rest := []) (lenOf pd__JI_B_I rfl) rfl (by show 2 * 0 + _ ≤ _; exact Nat.le_of_eq rfl) (hb hby d6_33) (fun _ _ => ⟨rfl, e5, (by decide : 0 + 0 ≤ _), (by decide : 0 + 0 ≤ _)⟩)
  dsimp only [Pt.U, Pt.locs, Pt.cells, Pt.slots] at X6 l6 y6 z6 st6 hQ6
  rw [l6, y6, z6] at X6
  have X6 : Stand p l e _ _ m _ below meth c T6 _ 0 0 := X6
  obtain ⟨rfl, N6q, K6q, Pq6⟩ := hQ6
  have N6 := Fr.app N4 N6q
  refine Go.st st6 ?_
  have ne_a1_t : a1 ≠ t := (Exa.neArv E_a1 A_t (hwi hw 39 rfl))
  have E_a1 := E_a1.keep K6q
  have C_a1 := C_a1.keep K6q (ninS ne_a1_t nin0)
  have V_a1 := V_a1.keep K6q (ninS ne_a1_t nin0)
  have N_a1 := N_a1.keep K6q (ninS ne_a1_t nin0)
  have O := O.keep K6q (allS g_t all0)
  have KK := KK.trans K6q (allS (Or.inl (List.mem_of_getElem? (i := 1) rfl)) all0)
  show Go _ _ _ _ _ _ _  T6 (mkF m 36 #[.val (.ref a1), .val (.long x1), .second, .val (.int (Int32.ofNat n)), .val (.int (Int32.ofNat (n + own_k x1)))] [(.int (Int32.ofNat n))])
  refine Go.st (fun tT kT => XS.pop X6.here hx rfl (hb hby d6_36) rfl rfl kT) ?_
  refine Go.st (fun tT kT => XS.goto X6.here hx rfl (pc0 := 37) (pc' := 52) rfl (hb hby d6_37) (by decide) (by decide) kT) ?_
  refine Go.st (fun tT kT => XS.aloadN X6.here hx rfl (hb hby d6_52) rfl rfl  kT) ?_
  show Go _ _ _ _ _ _ _  T6 (mkF m 53 #[.val (.ref a1), .val (.long x1), .second, .val (.int (Int32.ofNat n)), .val (.int (Int32.ofNat (n + own_k x1)))] [(.ref a1)])
  refine Go.st (fun tT kT => XS.iload X6.here hx rfl (hb hby d6_53) rfl  kT) ?_
  show Go _ _ _ _ _ _ _  T6 (mkF m 55 #[.val (.ref a1), .val (.long x1), .second, .val (.int (Int32.ofNat n)), .val (.int (Int32.ofNat (n + own_k x1)))] [(.int (Int32.ofNat (n + own_k x1))), (.ref a1)])
  obtain ⟨T7, h7, X7, e7, W7, st7⟩ := putF X6 hx hZ hown (host := "") (Or.inl (hwi hw 68 rfl)) Via.refl rfl N_a1 E_a1 (Or.inl (hwi hw 69 rfl)) (hwi hw 39 rfl) (ty := .int) (by decide) rfl rfl (g := (mkF m 55 #[.val (.ref a1), .val (.long x1), .second, .val (.int (Int32.ofNat n)), .val (.int (Int32.ofNat (n + own_k x1)))] [(.int (Int32.ofNat (n + own_k x1))), (.ref a1)])) rfl rfl (hb hby d6_55)
  refine Go.st st7 ?_
  have N_a1 : Fld Z h7 a1 "java/lang/AbstractStringBuilder" "count" "I" (.int (Int32.ofNat (n + own_k x1))) := N_a1.same W7
  have N7 := Fr.snoc X7 N6 g_a1
  have E_a1 := E_a1.wr W7
  have C_a1 := C_a1.other W7 (Or.inr (slot_ne (Or.inl (hwi hw 57 rfl)) (Or.inl (hwi hw 69 rfl)) (by decide) (t := .byte) (t' := .int) (by decide) (by decide)))
  have V_a1 := V_a1.other W7 (Or.inr (slot_ne (Or.inl (hwi hw 55 rfl)) (Or.inl (hwi hw 69 rfl)) (by decide) (t := (.array .byte)) (t' := .int) (by decide) (by decide)))
  have Pq6 := Pq6.other W7 (Ne.symm ne_a1_t)
  have O := O.wr W7 g_a1
  have KK := KK.wr W7 (Or.inl (List.mem_of_getElem? (i := 0) rfl))
  show Go _ _ _ _ _ _ _  T7 (mkF m 58 #[.val (.ref a1), .val (.long x1), .second, .val (.int (Int32.ofNat n)), .val (.int (Int32.ofNat (n + own_k x1)))] [])
  refine Go.st (fun tT kT => XS.aloadN X7.here hx rfl (hb hby d6_58) rfl rfl  kT) ?_
  show Go _ _ _ _ _ _ _  T7 (mkF m 59 #[.val (.ref a1), .val (.long x1), .second, .val (.int (Int32.ofNat n)), .val (.int (Int32.ofNat (n + own_k x1)))] [(.ref a1)])
  refine Go.retR X7 hlk hx Bd.returns rfl rfl rfl (hb hby d6_59) (by decide) (by decide) ?_
  show Q_rmAJ0 Z _ _ _ _ _ _ _ _ _ _ _ _ _ h0 n0 _ T7.heap _
  rw [e7]
  exact ⟨rfl, N7, KK, E_a1, C_a1, N_a1, V_a1, Pq6⟩
def Q_rmAJ1 (Z : State) (a1 : Addr) (x1 : Int64) (zc : Int32) (t : Addr) (kd : ClassId) (n : Nat) (cap : Nat) (bs : List Value) (sd : Addr) (d1 : Addr) (d2 : Addr) (dC1 : Cell) (dC2 : Cell) (h0 : Heap) (n0 : Nat) (v : Option Value) (h : Heap) (L : List Loc) : Prop := v = some (.ref a1) ∧ Fr n0 L ∧ Keep h0 h [a1] ∧ Exa Z h a1 "java/lang/StringBuilder" ∧ Fld Z h a1 "java/lang/AbstractStringBuilder" "coder" "B" (.int 0) ∧ Fld Z h a1 "java/lang/AbstractStringBuilder" "count" "I" (.int (Int32.ofNat (n + own_k x1))) ∧ ∃ (b : Addr) (kb : ClassId), h0.size ≤ b ∧ Fld Z h a1 "java/lang/AbstractStringBuilder" "value" "[B" (.ref b) ∧ Arv Z h b kb .byte (Int32.ofNat (cap + max (n + own_k x1 - cap) (cap + 2))) (bs ++ ((own_dl x1).map Value.int)) (.int 0)
set_option maxRecDepth 65536 in
set_option maxHeartbeats 40000000 in
theorem rmAJ1 (l : Launch) (Z : State) (a0 : Array Value) (hw : ∀ d ∈ tables_1, d.before a0 Z = true) (ws : List Jvm.Cond) (a1 : Addr) (x1 : Int64) (zc : Int32) (t : Addr) (kd : ClassId) (n : Nat) (cap : Nat) (bs : List Value) (sd : Addr) (d1 : Addr) (d2 : Addr) (dC1 : Cell) (dC2 : Cell) (h0 : Heap) (n0 : Nat) (O : Old Z n0 h0) (S_COMPACT : Sta Z Z.heap "java/lang/String" "COMPACT_STRINGS" "Z" (.int zc)) (hcs : ¬ zc = 0) (E_a1 : Exa Z h0 a1 "java/lang/StringBuilder") (C_a1 : Fld Z h0 a1 "java/lang/AbstractStringBuilder" "coder" "B" (.int 0)) (V_a1 : Fld Z h0 a1 "java/lang/AbstractStringBuilder" "value" "[B" (.ref t)) (N_a1 : Fld Z h0 a1 "java/lang/AbstractStringBuilder" "count" "I" (.int (Int32.ofNat n))) (A_t : Arv Z h0 t kd .byte (Int32.ofNat cap) bs (.int 0)) (L_a1 : bs.length = n) (K_a1 : n ≤ cap) (B_a1 : cap < 100000) (g_a1 : n0 ≤ a1) (g_t : n0 ≤ t) (hx0 : ¬ x1 < 0) (dT1 : Jvm.Free.SBG.Tbl Z "DigitOnes" sd d1 dC1) (dT2 : Jvm.Free.SBG.Tbl Z "DigitTens" sd d2 dC2) (dO1 : Jvm.Free.SBG.Ones dC1) (dO2 : Jvm.Free.SBG.Tens dC2) (hcap : cap < n + own_k x1) (hgc : (cap + max (n + own_k x1 - cap) (cap + 2)) ≤ 64) :
    MetFree l (⟨"java/lang/AbstractStringBuilder", "append", "(J)Ljava/lang/AbstractStringBuilder;"⟩ : MethodName) (head1 (Jvm.Cond.code (⟨"java/lang/AbstractStringBuilder", "append", "(J)Ljava/lang/AbstractStringBuilder;"⟩ : MethodName) jdk_68_method_33_code 5 (some (.object "java/lang/AbstractStringBuilder")) :: ws) ({ frames := 4, cells := 1, slots := 64, locals := 102 } : Room)) (fun a U => a = #[(.ref a1), (.long x1)] ∧ Z.Warmed39 U.vm ∧ U.heap = h0) (fun _ _ _ _ _ => True) (fun _ U o U' => ∃ v L, o = .returned v ∧ Q_rmAJ1 Z a1 x1 zc t kd n cap bs sd d1 d2 dC1 dC2 h0 n0 v U'.heap L ∧ FrameEnd U o U' L ({ frames := 4, cells := 1, slots := 64, locals := 102 } : Room).cells ({ frames := 4, cells := 1, slots := 64, locals := 102 } : Room).slots) := by
  refine MetFree.of_bodySF (plainFor_of_name pn_6) hisR ?_
  intro p e s m args below meth c s₁ Bd hml0 hP hK
  obtain ⟨rfl, hZ, hh⟩ := hP
  have hx := Bd.exec
  have hby := Bd.bytes
  have hml : c.maxLocals = 5 := hml0
  have hown : s.vm.findClass "java/lang/AbstractStringBuilder" = some m.cls := findClass_of_methodNamed Bd.named
  have hnm := (name_of_methodNamed Bd.named Bd.method).1
  have hlk : meth.locks = false := BodyLoose.notSynchronized Bd
  have X0 : Stand p l e ({ frames := 4, cells := 1, slots := 64, locals := 102 } : Room) s m #[(.ref a1), (.long x1)] below meth c s₁ [] 0 0 := Stand.of_body Bd
  have e0 : s₁.heap = h0 := by rw [← hh, Bd.state]; rfl
  have N0 := Fr.nil n0
  have KK : Keep h0 h0 [a1] := Keep.refl h0 _
  show Go p e below s ({ frames := 4, cells := 1, slots := 64, locals := 102 } : Room).cells ({ frames := 4, cells := 1, slots := 64, locals := 102 } : Room).slots (Q_rmAJ1 Z a1 x1 zc t kd n cap bs sd d1 d2 dC1 dC2 h0 n0) s₁ (entryFrame m #[(.ref a1), (.long x1)] 5)
  refine Go.eq (ef_rmAJ1 m a1 x1) ?_
  show Go _ _ _ _ _ _ _  s₁ (mkF m 0 #[.val (.ref a1), .val (.long x1), .second, .unset, .unset] [])
  refine Go.st (fun tT kT => XS.aloadN X0.here hx rfl (hb hby d6_0) rfl rfl  kT) ?_
  show Go _ _ _ _ _ _ _  s₁ (mkF m 1 #[.val (.ref a1), .val (.long x1), .second, .unset, .unset] [(.ref a1)])
  obtain ⟨T1, X1, e1, st1⟩ := getF X0 hx hZ hown (host := "") (Or.inl (hwi hw 68 rfl)) Via.refl e0 N_a1 (g := (mkF m 1 #[.val (.ref a1), .val (.long x1), .second, .unset, .unset] [(.ref a1)])) rfl rfl (hb hby d6_1)
  refine Go.st st1 ?_
  show Go _ _ _ _ _ _ _  T1 (mkF m 4 #[.val (.ref a1), .val (.long x1), .second, .unset, .unset] [(.int (Int32.ofNat n))])
  refine Go.st (fun tT kT => XS.istoreN X1.here hx rfl (hb hby d6_4) rfl (l' := #[.val (.ref a1), .val (.long x1), .second, .val (.int (Int32.ofNat n)), .unset]) rfl kT) ?_
  refine Go.st (fun tT kT => XS.iloadN X1.here hx rfl (hb hby d6_5) rfl  kT) ?_
  refine Go.st (fun tT kT => XS.lloadN X1.here hx rfl (hb hby d6_6) rfl  kT) ?_
  show Go _ _ _ _ _ _ _  T1 (mkF m 7 #[.val (.ref a1), .val (.long x1), .second, .val (.int (Int32.ofNat n)), .unset] [(.long x1), (.int (Int32.ofNat n))])
  refine Go.pureS (w := (some (.int (Int32.ofNat (own_k x1))))) (rest := [(.int (Int32.ofNat n))]) (pc' := 10) (Jvm.LawKit.callS X1 hx (y := (⟨"java/lang/Long", "stringSize", "(J)I"⟩ : MethodName)) hown (mvT hZ (hwi hw 70 rfl)) (mvT hZ (hwi hw 71 rfl)) (mvT hZ (hwi hw 72 rfl)) (mvT hZ (hwi hw 73 rfl)) (by decide) (backOf (W := 1) (rmSS l Z a0 hw [] x1 h0 n0 O hx0) hZ (hwi hw 73 rfl) (hwi hw 72 rfl) (by decide) (by decide)) (g := (mkF m 7 #[.val (.ref a1), .val (.long x1), .second, .val (.int (Int32.ofNat n)), .unset] [(.long x1), (.int (Int32.ofNat n))])) rfl (by rw [hml]; rfl) (argsL := [(.long x1)]) (rest := [(.int (Int32.ofNat n))]) (lenOf pd__J_I rfl) rfl (by show 2 * 0 + _ ≤ _; exact Nat.le_of_eq rfl) (hb hby d6_7) (fun _ _ => ⟨rfl, e1, (by decide : 0 + 0 ≤ _), (by decide : 0 + 0 ≤ _)⟩)) (fun _ _ _ q => q) N0 (fun T2 L2 X2 e2q N2 => ?_)
  show Go _ _ _ _ _ _ _  T2 (mkF m 10 #[.val (.ref a1), .val (.long x1), .second, .val (.int (Int32.ofNat n)), .unset] [(.int (Int32.ofNat (own_k x1))), (.int (Int32.ofNat n))])
  refine Go.st (fun tT kT => XS.iadd X2.here hx rfl (hb hby d6_10) rfl kT) ?_
  show Go _ _ _ _ _ _ _  T2 (mkF m 11 #[.val (.ref a1), .val (.long x1), .second, .val (.int (Int32.ofNat n)), .unset] [(.int ((Int32.ofNat n) + (Int32.ofNat (own_k x1))))])
  rw [own_oadd]
  refine Go.st (fun tT kT => XS.istore X2.here hx rfl (hb hby d6_11) rfl (l' := #[.val (.ref a1), .val (.long x1), .second, .val (.int (Int32.ofNat n)), .val (.int (Int32.ofNat (n + own_k x1)))]) rfl kT) ?_
  refine Go.st (fun tT kT => XS.aloadN X2.here hx rfl (hb hby d6_13) rfl rfl  kT) ?_
  show Go _ _ _ _ _ _ _  T2 (mkF m 14 #[.val (.ref a1), .val (.long x1), .second, .val (.int (Int32.ofNat n)), .val (.int (Int32.ofNat (n + own_k x1)))] [(.ref a1)])
  refine Go.st (fun tT kT => XS.iload X2.here hx rfl (hb hby d6_14) rfl  kT) ?_
  show Go _ _ _ _ _ _ _  T2 (mkF m 16 #[.val (.ref a1), .val (.long x1), .second, .val (.int (Int32.ofNat n)), .val (.int (Int32.ofNat (n + own_k x1)))] [(.int (Int32.ofNat (n + own_k x1))), (.ref a1)])
  obtain ⟨cq3, q3, q3'⟩ := Exa.cell E_a1
  obtain ⟨_, _, ⟨T3, L3, k3, n3⟩, -, X3, ⟨Lc3, hQ3, l3, y3, z3⟩, st3⟩ := X2.privateBack hx (y := (⟨"java/lang/AbstractStringBuilder", "ensureCapacityInternal", "(I)V"⟩ : MethodName)) hown (mvT hZ (hwi hw 75 rfl)) (mvT hZ (hwi hw 76 rfl)) (own_selfsel2 (mvT hZ (hwi hw 78 rfl)) (mvP hZ (hwi hw 77 rfl)) (mvT hZ (hwi hw 76 rfl)) (by decide)) (Cond.privateMethod_at (mvP hZ (hwi hw 77 rfl) (args := #[]))) (mvT hZ (hwi hw 79 rfl)) (by decide) (backOf (W := 0) (rmE1 l Z a0 hw [] a1 (n + own_k x1) t kd n cap bs h0 n0 O E_a1 C_a1 V_a1 N_a1 A_t L_a1 K_a1 B_a1 g_a1 g_t hcap (by omega) hgc) hZ (hwi hw 79 rfl) (hwi hw 48 rfl) (by decide) (by decide)) (g := (mkF m 16 #[.val (.ref a1), .val (.long x1), .second, .val (.int (Int32.ofNat n)), .val (.int (Int32.ofNat (n + own_k x1)))] [(.int (Int32.ofNat (n + own_k x1))), (.ref a1)])) rfl (by rw [hml]; rfl) (Steps.refl _) (a := a1) (by rw [e2q]; exact q3) q3' (argsL := [(.int (Int32.ofNat (n + own_k x1)))]) (rest := []) (lenOf pd__I_V rfl) rfl (by show 2 * 0 + _ ≤ _; exact Nat.le_of_eq rfl) (hb hby d6_16) (fun _ _ => ⟨rfl, e2q, (by decide : 0 + 1 ≤ _), (by decide : 0 + 64 ≤ _)⟩)
  dsimp only [Pt.U, Pt.locs, Pt.cells, Pt.slots] at X3 l3 y3 z3 st3 hQ3
  rw [l3, y3, z3] at X3
  have X3 : Stand p l e _ _ m _ below meth c T3 _ 1 64 := X3
  obtain ⟨rfl, N3q, K3q, Eq3, Cq3, Nq3, t3, kt3, lt3, Vq3, Wq3⟩ := hQ3
  have N3 := Fr.app N2 N3q
  refine Go.tr st3 ?_
  have g_t3 : n0 ≤ t3 := Nat.le_trans (own_le O) lt3
  have sz_t3 : h0.size ≤ t3 := Nat.le_trans KK.1 lt3
  have ne_a1_t3 : a1 ≠ t3 := Nat.ne_of_lt (Nat.lt_of_lt_of_le E_a1.lt lt3)
  have ne_t_t3 : t ≠ t3 := Nat.ne_of_lt (Nat.lt_of_lt_of_le A_t.lt lt3)
  have ne_t_a1 : t ≠ a1 := (Ne.symm (Exa.neArv E_a1 A_t (hwi hw 39 rfl)))
  have E_a1 := E_a1.keep K3q
  have A_t := A_t.keep K3q (ninS ne_t_a1 nin0)
  have O := O.keep K3q (allS g_a1 all0)
  have KK := KK.trans K3q (allS (Or.inl (List.mem_of_getElem? (i := 0) rfl)) all0)
  have E_a1 := Eq3
  have C_a1 := Cq3
  have N_a1 := Nq3
  have V_a1 := Vq3
  show Go _ _ _ _ _ _ _  T3 (mkF m 19 #[.val (.ref a1), .val (.long x1), .second, .val (.int (Int32.ofNat n)), .val (.int (Int32.ofNat (n + own_k x1)))] [])
  refine Go.st (fun tT kT => XS.aloadN X3.here hx rfl (hb hby d6_19) rfl rfl  kT) ?_
  show Go _ _ _ _ _ _ _  T3 (mkF m 20 #[.val (.ref a1), .val (.long x1), .second, .val (.int (Int32.ofNat n)), .val (.int (Int32.ofNat (n + own_k x1)))] [(.ref a1)])
  obtain ⟨cq4, kq4, q4a, q4b, q4c⟩ := isOf hZ rfl E_a1
  refine Go.pure (w := (some (.int (1 : Int32)))) (rest := []) (pc' := 23) (X3.virtualBack hx (y := (⟨"java/lang/AbstractStringBuilder", "isLatin1", "()Z"⟩ : MethodName)) (z := (⟨"java/lang/AbstractStringBuilder", "isLatin1", "()Z"⟩ : MethodName)) hown (mvT hZ (hwi hw 80 rfl)) (mvT hZ (hwi hw 81 rfl)) (notFace_of_selects (args := #[]) (mvT hZ (hwi hw 83 rfl))) (mvT hZ (hwi hw 83 rfl)) (mvT hZ (hwi hw 82 rfl)) (by decide) (backOf (W := 0) (rmIL l Z a0 hw [] a1 zc T3.heap n0 O S_COMPACT hcs C_a1) hZ (hwi hw 84 rfl) (hwi hw 48 rfl) (by decide) (by decide)) q4a q4c (g := (mkF m 20 #[.val (.ref a1), .val (.long x1), .second, .val (.int (Int32.ofNat n)), .val (.int (Int32.ofNat (n + own_k x1)))] [(.ref a1)])) rfl (by rw [hml]; rfl) (Steps.refl _) (argsL := []) (rest := []) (lenOf pd___Z rfl) rfl (by show 2 * 0 + _ ≤ _; exact Nat.le_of_eq rfl) (hb hby d6_20) (fun _ _ => ⟨rfl, rfl, (by decide : 1 + 0 ≤ _), (by decide : 64 + 0 ≤ _)⟩)) (fun _ _ _ q => q) N3 (fun T4 L4 X4 e4q N4 => ?_)
  show Go _ _ _ _ _ _ _  T4 (mkF m 23 #[.val (.ref a1), .val (.long x1), .second, .val (.int (Int32.ofNat n)), .val (.int (Int32.ofNat (n + own_k x1)))] [(.int (1 : Int32))])
  refine Go.st (fun tT kT => XS.ifNo X4.here hx rfl (hb hby d6_23) rfl ((if0 _ _).trans (feq (by decide : ¬ ((1 : Int32) = (0 : Int32)))).1) kT) ?_
  show Go _ _ _ _ _ _ _  T4 (mkF m 26 #[.val (.ref a1), .val (.long x1), .second, .val (.int (Int32.ofNat n)), .val (.int (Int32.ofNat (n + own_k x1)))] [])
  refine Go.st (fun tT kT => XS.lloadN X4.here hx rfl (hb hby d6_26) rfl  kT) ?_
  refine Go.st (fun tT kT => XS.iload X4.here hx rfl (hb hby d6_27) rfl  kT) ?_
  refine Go.st (fun tT kT => XS.aloadN X4.here hx rfl (hb hby d6_29) rfl rfl  kT) ?_
  show Go _ _ _ _ _ _ _  T4 (mkF m 30 #[.val (.ref a1), .val (.long x1), .second, .val (.int (Int32.ofNat n)), .val (.int (Int32.ofNat (n + own_k x1)))] [(.ref a1), (.int (Int32.ofNat (n + own_k x1))), (.long x1)])
  obtain ⟨T5, X5, e5, st5⟩ := getF X4 hx hZ hown (host := "") (Or.inl (hwi hw 54 rfl)) Via.refl e4q V_a1 (g := (mkF m 30 #[.val (.ref a1), .val (.long x1), .second, .val (.int (Int32.ofNat n)), .val (.int (Int32.ofNat (n + own_k x1)))] [(.ref a1), (.int (Int32.ofNat (n + own_k x1))), (.long x1)])) rfl rfl (hb hby d6_30)
  refine Go.st st5 ?_
  show Go _ _ _ _ _ _ _  T5 (mkF m 33 #[.val (.ref a1), .val (.long x1), .second, .val (.int (Int32.ofNat n)), .val (.int (Int32.ofNat (n + own_k x1)))] [(.ref t3), (.int (Int32.ofNat (n + own_k x1))), (.long x1)])
  obtain ⟨_, _, ⟨T6, L6, k6, n6⟩, -, X6, ⟨Lc6, hQ6, l6, y6, z6⟩, st6⟩ := Jvm.LawKit.callS X5 hx (y := (⟨"java/lang/Long", "getChars", "(JI[B)I"⟩ : MethodName)) hown (mvT hZ (hwi hw 85 rfl)) (mvT hZ (hwi hw 86 rfl)) (mvT hZ (hwi hw 72 rfl)) (mvT hZ (hwi hw 87 rfl)) (by decide) (backOf (W := 0) (rmGC l Z a0 hw [] x1 n t3 kt3 (cap + max (n + own_k x1 - cap) (cap + 2)) bs sd d1 d2 dC1 dC2 T3.heap n0 O hx0 Wq3 L_a1 (by omega) (by omega) g_t3 dT1 dT2 dO1 dO2) hZ (hwi hw 87 rfl) (hwi hw 72 rfl) (by decide) (by decide)) (g := (mkF m 33 #[.val (.ref a1), .val (.long x1), .second, .val (.int (Int32.ofNat n)), .val (.int (Int32.ofNat (n + own_k x1)))] [(.ref t3), (.int (Int32.ofNat (n + own_k x1))), (.long x1)])) rfl (by rw [hml]; rfl) (argsL := [(.long x1), (.int (Int32.ofNat (n + own_k x1))), (.ref t3)]) (rest := []) (lenOf pd__JI_B_I rfl) rfl (by show 2 * 0 + _ ≤ _; exact Nat.le_of_eq rfl) (hb hby d6_33) (fun _ _ => ⟨rfl, e5, (by decide : 1 + 0 ≤ _), (by decide : 64 + 0 ≤ _)⟩)
  dsimp only [Pt.U, Pt.locs, Pt.cells, Pt.slots] at X6 l6 y6 z6 st6 hQ6
  rw [l6, y6, z6] at X6
  have X6 : Stand p l e _ _ m _ below meth c T6 _ 1 64 := X6
  obtain ⟨rfl, N6q, K6q, Pq6⟩ := hQ6
  have N6 := Fr.app N4 N6q
  refine Go.st st6 ?_
  have E_a1 := E_a1.keep K6q
  have A_t := A_t.keep K6q (ninS ne_t_t3 nin0)
  have C_a1 := C_a1.keep K6q (ninS ne_a1_t3 nin0)
  have V_a1 := V_a1.keep K6q (ninS ne_a1_t3 nin0)
  have N_a1 := N_a1.keep K6q (ninS ne_a1_t3 nin0)
  have O := O.keep K6q (allS g_t3 all0)
  have KK := KK.trans K6q (allS (Or.inr sz_t3) all0)
  show Go _ _ _ _ _ _ _  T6 (mkF m 36 #[.val (.ref a1), .val (.long x1), .second, .val (.int (Int32.ofNat n)), .val (.int (Int32.ofNat (n + own_k x1)))] [(.int (Int32.ofNat n))])
  refine Go.st (fun tT kT => XS.pop X6.here hx rfl (hb hby d6_36) rfl rfl kT) ?_
  refine Go.st (fun tT kT => XS.goto X6.here hx rfl (pc0 := 37) (pc' := 52) rfl (hb hby d6_37) (by decide) (by decide) kT) ?_
  refine Go.st (fun tT kT => XS.aloadN X6.here hx rfl (hb hby d6_52) rfl rfl  kT) ?_
  show Go _ _ _ _ _ _ _  T6 (mkF m 53 #[.val (.ref a1), .val (.long x1), .second, .val (.int (Int32.ofNat n)), .val (.int (Int32.ofNat (n + own_k x1)))] [(.ref a1)])
  refine Go.st (fun tT kT => XS.iload X6.here hx rfl (hb hby d6_53) rfl  kT) ?_
  show Go _ _ _ _ _ _ _  T6 (mkF m 55 #[.val (.ref a1), .val (.long x1), .second, .val (.int (Int32.ofNat n)), .val (.int (Int32.ofNat (n + own_k x1)))] [(.int (Int32.ofNat (n + own_k x1))), (.ref a1)])
  obtain ⟨T7, h7, X7, e7, W7, st7⟩ := putF X6 hx hZ hown (host := "") (Or.inl (hwi hw 68 rfl)) Via.refl rfl N_a1 E_a1 (Or.inl (hwi hw 69 rfl)) (hwi hw 39 rfl) (ty := .int) (by decide) rfl rfl (g := (mkF m 55 #[.val (.ref a1), .val (.long x1), .second, .val (.int (Int32.ofNat n)), .val (.int (Int32.ofNat (n + own_k x1)))] [(.int (Int32.ofNat (n + own_k x1))), (.ref a1)])) rfl rfl (hb hby d6_55)
  refine Go.st st7 ?_
  have N_a1 : Fld Z h7 a1 "java/lang/AbstractStringBuilder" "count" "I" (.int (Int32.ofNat (n + own_k x1))) := N_a1.same W7
  have N7 := Fr.snoc X7 N6 g_a1
  have E_a1 := E_a1.wr W7
  have A_t := A_t.other W7 ne_t_a1
  have C_a1 := C_a1.other W7 (Or.inr (slot_ne (Or.inl (hwi hw 57 rfl)) (Or.inl (hwi hw 69 rfl)) (by decide) (t := .byte) (t' := .int) (by decide) (by decide)))
  have V_a1 := V_a1.other W7 (Or.inr (slot_ne (Or.inl (hwi hw 55 rfl)) (Or.inl (hwi hw 69 rfl)) (by decide) (t := (.array .byte)) (t' := .int) (by decide) (by decide)))
  have Pq6 := Pq6.other W7 (Ne.symm ne_a1_t3)
  have O := O.wr W7 g_a1
  have KK := KK.wr W7 (Or.inl (List.mem_of_getElem? (i := 0) rfl))
  show Go _ _ _ _ _ _ _  T7 (mkF m 58 #[.val (.ref a1), .val (.long x1), .second, .val (.int (Int32.ofNat n)), .val (.int (Int32.ofNat (n + own_k x1)))] [])
  refine Go.st (fun tT kT => XS.aloadN X7.here hx rfl (hb hby d6_58) rfl rfl  kT) ?_
  show Go _ _ _ _ _ _ _  T7 (mkF m 59 #[.val (.ref a1), .val (.long x1), .second, .val (.int (Int32.ofNat n)), .val (.int (Int32.ofNat (n + own_k x1)))] [(.ref a1)])
  refine Go.retR X7 hlk hx Bd.returns rfl rfl rfl (hb hby d6_59) (by decide) (by decide) ?_
  show Q_rmAJ1 Z _ _ _ _ _ _ _ _ _ _ _ _ _ h0 n0 _ T7.heap _
  rw [e7]
  exact ⟨rfl, N7, KK, E_a1, C_a1, N_a1, t3, _, sz_t3, V_a1, Pq6⟩
def Q_rmSJ0 (Z : State) (a1 : Addr) (x1 : Int64) (zc : Int32) (t : Addr) (kd : ClassId) (n : Nat) (cap : Nat) (bs : List Value) (sd : Addr) (d1 : Addr) (d2 : Addr) (dC1 : Cell) (dC2 : Cell) (h0 : Heap) (n0 : Nat) (v : Option Value) (h : Heap) (L : List Loc) : Prop := v = some (.ref a1) ∧ Fr n0 L ∧ Keep h0 h [a1, t] ∧ Exa Z h a1 "java/lang/StringBuilder" ∧ Fld Z h a1 "java/lang/AbstractStringBuilder" "coder" "B" (.int 0) ∧ Fld Z h a1 "java/lang/AbstractStringBuilder" "count" "I" (.int (Int32.ofNat (n + own_k x1))) ∧ Fld Z h a1 "java/lang/AbstractStringBuilder" "value" "[B" (.ref t) ∧ Arv Z h t kd .byte (Int32.ofNat cap) (bs ++ ((own_dl x1).map Value.int)) (.int 0)
set_option maxRecDepth 65536 in
set_option maxHeartbeats 40000000 in
theorem rmSJ0 (l : Launch) (Z : State) (a0 : Array Value) (hw : ∀ d ∈ tables_1, d.before a0 Z = true) (ws : List Jvm.Cond) (a1 : Addr) (x1 : Int64) (zc : Int32) (t : Addr) (kd : ClassId) (n : Nat) (cap : Nat) (bs : List Value) (sd : Addr) (d1 : Addr) (d2 : Addr) (dC1 : Cell) (dC2 : Cell) (h0 : Heap) (n0 : Nat) (O : Old Z n0 h0) (S_COMPACT : Sta Z Z.heap "java/lang/String" "COMPACT_STRINGS" "Z" (.int zc)) (hcs : ¬ zc = 0) (E_a1 : Exa Z h0 a1 "java/lang/StringBuilder") (C_a1 : Fld Z h0 a1 "java/lang/AbstractStringBuilder" "coder" "B" (.int 0)) (V_a1 : Fld Z h0 a1 "java/lang/AbstractStringBuilder" "value" "[B" (.ref t)) (N_a1 : Fld Z h0 a1 "java/lang/AbstractStringBuilder" "count" "I" (.int (Int32.ofNat n))) (A_t : Arv Z h0 t kd .byte (Int32.ofNat cap) bs (.int 0)) (L_a1 : bs.length = n) (K_a1 : n ≤ cap) (B_a1 : cap < 100000) (g_a1 : n0 ≤ a1) (g_t : n0 ≤ t) (hx0 : ¬ x1 < 0) (dT1 : Jvm.Free.SBG.Tbl Z "DigitOnes" sd d1 dC1) (dT2 : Jvm.Free.SBG.Tbl Z "DigitTens" sd d2 dC2) (dO1 : Jvm.Free.SBG.Ones dC1) (dO2 : Jvm.Free.SBG.Tens dC2) (hcap : n + own_k x1 ≤ cap) :
    MetFree l (⟨"java/lang/StringBuilder", "append", "(J)Ljava/lang/StringBuilder;"⟩ : MethodName) (head1 (Jvm.Cond.code (⟨"java/lang/StringBuilder", "append", "(J)Ljava/lang/StringBuilder;"⟩ : MethodName) jdk_67_method_16_code 3 (some (.object "java/lang/StringBuilder")) :: ws) ({ frames := 3, cells := 0, slots := 0, locals := 118 } : Room)) (fun a U => a = #[(.ref a1), (.long x1)] ∧ Z.Warmed39 U.vm ∧ U.heap = h0) (fun _ _ _ _ _ => True) (fun _ U o U' => ∃ v L, o = .returned v ∧ Q_rmSJ0 Z a1 x1 zc t kd n cap bs sd d1 d2 dC1 dC2 h0 n0 v U'.heap L ∧ FrameEnd U o U' L ({ frames := 3, cells := 0, slots := 0, locals := 118 } : Room).cells ({ frames := 3, cells := 0, slots := 0, locals := 118 } : Room).slots) := by
  refine MetFree.of_bodySF (plainFor_of_name pn_5) hisR ?_
  intro p e s m args below meth c s₁ Bd hml0 hP hK
  obtain ⟨rfl, hZ, hh⟩ := hP
  have hx := Bd.exec
  have hby := Bd.bytes
  have hml : c.maxLocals = 3 := hml0
  have hown : s.vm.findClass "java/lang/StringBuilder" = some m.cls := findClass_of_methodNamed Bd.named
  have hnm := (name_of_methodNamed Bd.named Bd.method).1
  have hlk : meth.locks = false := BodyLoose.notSynchronized Bd
  have X0 : Stand p l e ({ frames := 3, cells := 0, slots := 0, locals := 118 } : Room) s m #[(.ref a1), (.long x1)] below meth c s₁ [] 0 0 := Stand.of_body Bd
  have e0 : s₁.heap = h0 := by rw [← hh, Bd.state]; rfl
  have N0 := Fr.nil n0
  have KK : Keep h0 h0 [a1, t] := Keep.refl h0 _
  show Go p e below s ({ frames := 3, cells := 0, slots := 0, locals := 118 } : Room).cells ({ frames := 3, cells := 0, slots := 0, locals := 118 } : Room).slots (Q_rmSJ0 Z a1 x1 zc t kd n cap bs sd d1 d2 dC1 dC2 h0 n0) s₁ (entryFrame m #[(.ref a1), (.long x1)] 3)
  refine Go.eq (ef_rmSJ0 m a1 x1) ?_
  show Go _ _ _ _ _ _ _  s₁ (mkF m 0 #[.val (.ref a1), .val (.long x1), .second] [])
  refine Go.st (fun tT kT => XS.aloadN X0.here hx rfl (hb hby d5_0) rfl rfl  kT) ?_
  refine Go.st (fun tT kT => XS.lloadN X0.here hx rfl (hb hby d5_1) rfl  kT) ?_
  show Go _ _ _ _ _ _ _  s₁ (mkF m 2 #[.val (.ref a1), .val (.long x1), .second] [(.long x1), (.ref a1)])
  obtain ⟨_, _, ⟨T1, L1, k1, n1⟩, -, X1, ⟨Lc1, hQ1, l1, y1, z1⟩, st1⟩ := superBack X0 hx hZ (y := (⟨"java/lang/AbstractStringBuilder", "append", "(J)Ljava/lang/AbstractStringBuilder;"⟩ : MethodName)) hown (hwi hw 63 rfl) (own_same (hwi hw 66 rfl) (hwi hw 78 rfl) rfl (by decide)) (hwi hw 64 rfl) (hwi hw 65 rfl) (by decide) (backOf (W := 0) (rmAJ0 l Z a0 hw [] a1 x1 zc t kd n cap bs sd d1 d2 dC1 dC2 h0 n0 O S_COMPACT hcs E_a1 C_a1 V_a1 N_a1 A_t L_a1 K_a1 B_a1 g_a1 g_t hx0 dT1 dT2 dO1 dO2 hcap) hZ (hwi hw 67 rfl) (hwi hw 48 rfl) (by decide) (by decide)) e0 (Ins.self E_a1) (g := (mkF m 2 #[.val (.ref a1), .val (.long x1), .second] [(.long x1), (.ref a1)])) rfl (by rw [hml]; rfl) (hwi hw 67 rfl) (argsL := [(.long x1)]) (rest := []) (lenOf pd__J_Ljava_lang_AbstractStringBuilder_ rfl) rfl (by show 2 * 0 + _ ≤ _; exact Nat.le_of_eq rfl) (hb hby d5_2) (fun _ _ => ⟨rfl, e0, (by decide : 0 + 0 ≤ _), (by decide : 0 + 0 ≤ _)⟩)
  dsimp only [Pt.U, Pt.locs, Pt.cells, Pt.slots] at X1 l1 y1 z1 st1 hQ1
  rw [l1, y1, z1] at X1
  have X1 : Stand p l e _ _ m _ below meth c T1 _ 0 0 := X1
  obtain ⟨rfl, N1q, K1q, Q1⟩ := hQ1
  have N1 := Fr.app N0 N1q
  refine Go.tr st1 ?_
  have E_a1 := E_a1.keep K1q
  have O := O.keep K1q (allS g_a1 (allS g_t all0))
  have KK := KK.trans K1q (allS (Or.inl (List.mem_of_getElem? (i := 0) rfl)) (allS (Or.inl (List.mem_of_getElem? (i := 1) rfl)) all0))
  show Go _ _ _ _ _ _ _  T1 (mkF m 5 #[.val (.ref a1), .val (.long x1), .second] [(.ref a1)])
  refine Go.st (fun tT kT => XS.pop X1.here hx rfl (hb hby d5_5) rfl rfl kT) ?_
  refine Go.st (fun tT kT => XS.aloadN X1.here hx rfl (hb hby d5_6) rfl rfl  kT) ?_
  show Go _ _ _ _ _ _ _  T1 (mkF m 7 #[.val (.ref a1), .val (.long x1), .second] [(.ref a1)])
  refine Go.retR X1 hlk hx Bd.returns rfl rfl rfl (hb hby d5_7) (by decide) (by decide) ?_
  show Q_rmSJ0 Z _ _ _ _ _ _ _ _ _ _ _ _ _ h0 n0 _ T1.heap _
  exact ⟨rfl, N1, KK, Q1⟩
def Q_rmSJ1 (Z : State) (a1 : Addr) (x1 : Int64) (zc : Int32) (t : Addr) (kd : ClassId) (n : Nat) (cap : Nat) (bs : List Value) (sd : Addr) (d1 : Addr) (d2 : Addr) (dC1 : Cell) (dC2 : Cell) (h0 : Heap) (n0 : Nat) (v : Option Value) (h : Heap) (L : List Loc) : Prop := v = some (.ref a1) ∧ Fr n0 L ∧ Keep h0 h [a1] ∧ Exa Z h a1 "java/lang/StringBuilder" ∧ Fld Z h a1 "java/lang/AbstractStringBuilder" "coder" "B" (.int 0) ∧ Fld Z h a1 "java/lang/AbstractStringBuilder" "count" "I" (.int (Int32.ofNat (n + own_k x1))) ∧ ∃ (b : Addr) (kb : ClassId), h0.size ≤ b ∧ Fld Z h a1 "java/lang/AbstractStringBuilder" "value" "[B" (.ref b) ∧ Arv Z h b kb .byte (Int32.ofNat (cap + max (n + own_k x1 - cap) (cap + 2))) (bs ++ ((own_dl x1).map Value.int)) (.int 0)
set_option maxRecDepth 65536 in
set_option maxHeartbeats 40000000 in
theorem rmSJ1 (l : Launch) (Z : State) (a0 : Array Value) (hw : ∀ d ∈ tables_1, d.before a0 Z = true) (ws : List Jvm.Cond) (a1 : Addr) (x1 : Int64) (zc : Int32) (t : Addr) (kd : ClassId) (n : Nat) (cap : Nat) (bs : List Value) (sd : Addr) (d1 : Addr) (d2 : Addr) (dC1 : Cell) (dC2 : Cell) (h0 : Heap) (n0 : Nat) (O : Old Z n0 h0) (S_COMPACT : Sta Z Z.heap "java/lang/String" "COMPACT_STRINGS" "Z" (.int zc)) (hcs : ¬ zc = 0) (E_a1 : Exa Z h0 a1 "java/lang/StringBuilder") (C_a1 : Fld Z h0 a1 "java/lang/AbstractStringBuilder" "coder" "B" (.int 0)) (V_a1 : Fld Z h0 a1 "java/lang/AbstractStringBuilder" "value" "[B" (.ref t)) (N_a1 : Fld Z h0 a1 "java/lang/AbstractStringBuilder" "count" "I" (.int (Int32.ofNat n))) (A_t : Arv Z h0 t kd .byte (Int32.ofNat cap) bs (.int 0)) (L_a1 : bs.length = n) (K_a1 : n ≤ cap) (B_a1 : cap < 100000) (g_a1 : n0 ≤ a1) (g_t : n0 ≤ t) (hx0 : ¬ x1 < 0) (dT1 : Jvm.Free.SBG.Tbl Z "DigitOnes" sd d1 dC1) (dT2 : Jvm.Free.SBG.Tbl Z "DigitTens" sd d2 dC2) (dO1 : Jvm.Free.SBG.Ones dC1) (dO2 : Jvm.Free.SBG.Tens dC2) (hcap : cap < n + own_k x1) (hgc : (cap + max (n + own_k x1 - cap) (cap + 2)) ≤ 64) :
    MetFree l (⟨"java/lang/StringBuilder", "append", "(J)Ljava/lang/StringBuilder;"⟩ : MethodName) (head1 (Jvm.Cond.code (⟨"java/lang/StringBuilder", "append", "(J)Ljava/lang/StringBuilder;"⟩ : MethodName) jdk_67_method_16_code 3 (some (.object "java/lang/StringBuilder")) :: ws) ({ frames := 5, cells := 1, slots := 64, locals := 118 } : Room)) (fun a U => a = #[(.ref a1), (.long x1)] ∧ Z.Warmed39 U.vm ∧ U.heap = h0) (fun _ _ _ _ _ => True) (fun _ U o U' => ∃ v L, o = .returned v ∧ Q_rmSJ1 Z a1 x1 zc t kd n cap bs sd d1 d2 dC1 dC2 h0 n0 v U'.heap L ∧ FrameEnd U o U' L ({ frames := 5, cells := 1, slots := 64, locals := 118 } : Room).cells ({ frames := 5, cells := 1, slots := 64, locals := 118 } : Room).slots) := by
  refine MetFree.of_bodySF (plainFor_of_name pn_5) hisR ?_
  intro p e s m args below meth c s₁ Bd hml0 hP hK
  obtain ⟨rfl, hZ, hh⟩ := hP
  have hx := Bd.exec
  have hby := Bd.bytes
  have hml : c.maxLocals = 3 := hml0
  have hown : s.vm.findClass "java/lang/StringBuilder" = some m.cls := findClass_of_methodNamed Bd.named
  have hnm := (name_of_methodNamed Bd.named Bd.method).1
  have hlk : meth.locks = false := BodyLoose.notSynchronized Bd
  have X0 : Stand p l e ({ frames := 5, cells := 1, slots := 64, locals := 118 } : Room) s m #[(.ref a1), (.long x1)] below meth c s₁ [] 0 0 := Stand.of_body Bd
  have e0 : s₁.heap = h0 := by rw [← hh, Bd.state]; rfl
  have N0 := Fr.nil n0
  have KK : Keep h0 h0 [a1] := Keep.refl h0 _
  show Go p e below s ({ frames := 5, cells := 1, slots := 64, locals := 118 } : Room).cells ({ frames := 5, cells := 1, slots := 64, locals := 118 } : Room).slots (Q_rmSJ1 Z a1 x1 zc t kd n cap bs sd d1 d2 dC1 dC2 h0 n0) s₁ (entryFrame m #[(.ref a1), (.long x1)] 3)
  refine Go.eq (ef_rmSJ1 m a1 x1) ?_
  show Go _ _ _ _ _ _ _  s₁ (mkF m 0 #[.val (.ref a1), .val (.long x1), .second] [])
  refine Go.st (fun tT kT => XS.aloadN X0.here hx rfl (hb hby d5_0) rfl rfl  kT) ?_
  refine Go.st (fun tT kT => XS.lloadN X0.here hx rfl (hb hby d5_1) rfl  kT) ?_
  show Go _ _ _ _ _ _ _  s₁ (mkF m 2 #[.val (.ref a1), .val (.long x1), .second] [(.long x1), (.ref a1)])
  obtain ⟨_, _, ⟨T1, L1, k1, n1⟩, -, X1, ⟨Lc1, hQ1, l1, y1, z1⟩, st1⟩ := superBack X0 hx hZ (y := (⟨"java/lang/AbstractStringBuilder", "append", "(J)Ljava/lang/AbstractStringBuilder;"⟩ : MethodName)) hown (hwi hw 63 rfl) (own_same (hwi hw 66 rfl) (hwi hw 78 rfl) rfl (by decide)) (hwi hw 64 rfl) (hwi hw 65 rfl) (by decide) (backOf (W := 0) (rmAJ1 l Z a0 hw [] a1 x1 zc t kd n cap bs sd d1 d2 dC1 dC2 h0 n0 O S_COMPACT hcs E_a1 C_a1 V_a1 N_a1 A_t L_a1 K_a1 B_a1 g_a1 g_t hx0 dT1 dT2 dO1 dO2 hcap hgc) hZ (hwi hw 67 rfl) (hwi hw 48 rfl) (by decide) (by decide)) e0 (Ins.self E_a1) (g := (mkF m 2 #[.val (.ref a1), .val (.long x1), .second] [(.long x1), (.ref a1)])) rfl (by rw [hml]; rfl) (hwi hw 67 rfl) (argsL := [(.long x1)]) (rest := []) (lenOf pd__J_Ljava_lang_AbstractStringBuilder_ rfl) rfl (by show 2 * 0 + _ ≤ _; exact Nat.le_of_eq rfl) (hb hby d5_2) (fun _ _ => ⟨rfl, e0, (by decide : 0 + 1 ≤ _), (by decide : 0 + 64 ≤ _)⟩)
  dsimp only [Pt.U, Pt.locs, Pt.cells, Pt.slots] at X1 l1 y1 z1 st1 hQ1
  rw [l1, y1, z1] at X1
  have X1 : Stand p l e _ _ m _ below meth c T1 _ 1 64 := X1
  obtain ⟨rfl, N1q, K1q, Q1⟩ := hQ1
  have N1 := Fr.app N0 N1q
  refine Go.tr st1 ?_
  have ne_t_a1 : t ≠ a1 := (Ne.symm (Exa.neArv E_a1 A_t (hwi hw 39 rfl)))
  have E_a1 := E_a1.keep K1q
  have A_t := A_t.keep K1q (ninS ne_t_a1 nin0)
  have O := O.keep K1q (allS g_a1 all0)
  have KK := KK.trans K1q (allS (Or.inl (List.mem_of_getElem? (i := 0) rfl)) all0)
  show Go _ _ _ _ _ _ _  T1 (mkF m 5 #[.val (.ref a1), .val (.long x1), .second] [(.ref a1)])
  refine Go.st (fun tT kT => XS.pop X1.here hx rfl (hb hby d5_5) rfl rfl kT) ?_
  refine Go.st (fun tT kT => XS.aloadN X1.here hx rfl (hb hby d5_6) rfl rfl  kT) ?_
  show Go _ _ _ _ _ _ _  T1 (mkF m 7 #[.val (.ref a1), .val (.long x1), .second] [(.ref a1)])
  refine Go.retR X1 hlk hx Bd.returns rfl rfl rfl (hb hby d5_7) (by decide) (by decide) ?_
  show Q_rmSJ1 Z _ _ _ _ _ _ _ _ _ _ _ _ _ h0 n0 _ T1.heap _
  exact ⟨rfl, N1, KK, Q1⟩
def Q_rmSJw (Z : State) (a1 : Addr) (x1 : Int64) (zc : Int32) (t : Addr) (kd : ClassId) (n : Nat) (cap : Nat) (bs : List Value) (sd : Addr) (d1 : Addr) (d2 : Addr) (dC1 : Cell) (dC2 : Cell) (m0 : Nat) (h0 : Heap) (n0 : Nat) (v : Option Value) (h : Heap) (L : List Loc) : Prop := v = some (.ref a1) ∧ Fr n0 L ∧ Keep h0 h [a1, t] ∧ Exa Z h a1 "java/lang/StringBuilder" ∧ Fld Z h a1 "java/lang/AbstractStringBuilder" "coder" "B" (.int 0) ∧ Fld Z h a1 "java/lang/AbstractStringBuilder" "count" "I" (.int (Int32.ofNat (n + own_k x1))) ∧ ∃ (b : Addr) (kb : ClassId) (cap2 : Nat), n0 ≤ b ∧ m0 ≤ b ∧ Fld Z h a1 "java/lang/AbstractStringBuilder" "value" "[B" (.ref b) ∧ Arv Z h b kb .byte (Int32.ofNat cap2) (bs ++ ((own_dl x1).map Value.int)) (.int 0) ∧ n + own_k x1 ≤ cap2 ∧ 16 ≤ cap2 ∧ cap2 ≤ 64 ∧ (Exa Z h b "[B" ∨ 30 < cap2)
theorem rmSJw (l : Launch) (Z : State) (a0 : Array Value) (hw : ∀ d ∈ tables_1, d.before a0 Z = true) (ws : List Jvm.Cond) (a1 : Addr) (x1 : Int64) (zc : Int32) (t : Addr) (kd : ClassId) (n : Nat) (cap : Nat) (bs : List Value) (sd : Addr) (d1 : Addr) (d2 : Addr) (dC1 : Cell) (dC2 : Cell) (m0 : Nat) (h0 : Heap) (n0 : Nat) (O : Old Z n0 h0) (S_COMPACT : Sta Z Z.heap "java/lang/String" "COMPACT_STRINGS" "Z" (.int zc)) (hcs : ¬ zc = 0) (E_a1 : Exa Z h0 a1 "java/lang/StringBuilder") (C_a1 : Fld Z h0 a1 "java/lang/AbstractStringBuilder" "coder" "B" (.int 0)) (V_a1 : Fld Z h0 a1 "java/lang/AbstractStringBuilder" "value" "[B" (.ref t)) (N_a1 : Fld Z h0 a1 "java/lang/AbstractStringBuilder" "count" "I" (.int (Int32.ofNat n))) (A_t : Arv Z h0 t kd .byte (Int32.ofNat cap) bs (.int 0)) (L_a1 : bs.length = n) (K_a1 : n ≤ cap) (B_a1 : cap < 100000) (g_a1 : n0 ≤ a1) (g_t : n0 ≤ t) (hx0 : ¬ x1 < 0) (dT1 : Jvm.Free.SBG.Tbl Z "DigitOnes" sd d1 dC1) (dT2 : Jvm.Free.SBG.Tbl Z "DigitTens" sd d2 dC2) (dO1 : Jvm.Free.SBG.Ones dC1) (dO2 : Jvm.Free.SBG.Tens dC2) (hm1 : m0 ≤ t) (hm2 : m0 ≤ h0.size) (hc16 : 16 ≤ cap) (hc64 : cap ≤ 64) (XX : Exa Z h0 t "[B" ∨ 30 < cap) (hlim : n + own_k x1 ≤ 30) :
    MetFree l (⟨"java/lang/StringBuilder", "append", "(J)Ljava/lang/StringBuilder;"⟩ : MethodName) (head1 (Jvm.Cond.code (⟨"java/lang/StringBuilder", "append", "(J)Ljava/lang/StringBuilder;"⟩ : MethodName) jdk_67_method_16_code 3 (some (.object "java/lang/StringBuilder")) :: ws) ({ frames := 5, cells := 1, slots := 64, locals := 118 } : Room)) (fun a U => a = #[(.ref a1), (.long x1)] ∧ Z.Warmed39 U.vm ∧ U.heap = h0) (fun _ _ _ _ _ => True) (fun _ U o U' => ∃ v L, o = .returned v ∧ Q_rmSJw Z a1 x1 zc t kd n cap bs sd d1 d2 dC1 dC2 m0 h0 n0 v U'.heap L ∧ FrameEnd U o U' L ({ frames := 5, cells := 1, slots := 64, locals := 118 } : Room).cells ({ frames := 5, cells := 1, slots := 64, locals := 118 } : Room).slots) := by
  by_cases hcap : n + own_k x1 ≤ cap
  · refine own_wide (rmSJ0 l Z a0 hw ws a1 x1 zc t kd n cap bs sd d1 d2 dC1 dC2 h0 n0 O S_COMPACT hcs E_a1 C_a1 V_a1 N_a1 A_t L_a1 K_a1 B_a1 g_a1 g_t hx0 dT1 dT2 dO1 dO2 hcap) (by decide) (by decide) (by decide) (by decide) (fun v h L q => ?_)
    obtain ⟨q1, q2, q3, q4, q5, q6, q7, q8⟩ := q
    exact ⟨q1, q2, q3, q4, q5, q6, t, kd, cap, g_t, hm1, q7, q8, hcap, hc16, hc64, XX.imp (fun E => E.keep q3) id⟩
  · refine own_wide (rmSJ1 l Z a0 hw ws a1 x1 zc t kd n cap bs sd d1 d2 dC1 dC2 h0 n0 O S_COMPACT hcs E_a1 C_a1 V_a1 N_a1 A_t L_a1 K_a1 B_a1 g_a1 g_t hx0 dT1 dT2 dO1 dO2 (Nat.lt_of_not_le hcap) (by omega)) (by decide) (by decide) (by decide) (by decide) (fun v h L q => ?_)
    obtain ⟨q1, q2, q3, q4, q5, q6, b, kb, lb, q7, q8⟩ := q
    exact ⟨q1, q2, own_kw q3, q4, q5, q6, b, kb, _, Nat.le_trans (own_le O) lb, Nat.le_trans hm2 lb, q7, q8, by omega, by omega, by omega, Or.inr (by omega)⟩
def Q_rmPer (Z : State) (x1 : Int64) (zc : Int32) (sd : Addr) (d1 : Addr) (d2 : Addr) (dC1 : Cell) (dC2 : Cell) (um : Addr) (kum : ClassId) (un : Addr) (kun : ClassId) (s0 : Addr) (v0 : Addr) (kv0 : ClassId) (s1 : Addr) (v1 : Addr) (kv1 : ClassId) (s2 : Addr) (v2 : Addr) (kv2 : ClassId) (s3 : Addr) (v3 : Addr) (kv3 : ClassId) (s4 : Addr) (v4 : Addr) (kv4 : ClassId) (h0 : Heap) (n0 : Nat) (v : Option Value) (h : Heap) (L : List Loc) : Prop := ∃ (x t : Addr) (kt : ClassId), v = some (.ref x) ∧ Fr n0 L ∧ Ext h0 h ∧ Exa Z h x "java/lang/String" ∧ Fld Z h x "java/lang/String" "coder" "B" (.int 0) ∧ Fld Z h x "java/lang/String" "value" "[B" (.ref t) ∧ Arv Z h t kt .byte (Int32.ofNat (own_per x1).length) ((own_per x1).map Value.int) (.int 0)
set_option maxRecDepth 65536 in
set_option maxHeartbeats 40000000 in
theorem rmPer (l : Launch) (Z : State) (a0 : Array Value) (hw : ∀ d ∈ tables_1, d.before a0 Z = true) (ws : List Jvm.Cond) (x1 : Int64) (zc : Int32) (sd : Addr) (d1 : Addr) (d2 : Addr) (dC1 : Cell) (dC2 : Cell) (um : Addr) (kum : ClassId) (un : Addr) (kun : ClassId) (s0 : Addr) (v0 : Addr) (kv0 : ClassId) (s1 : Addr) (v1 : Addr) (kv1 : ClassId) (s2 : Addr) (v2 : Addr) (kv2 : ClassId) (s3 : Addr) (v3 : Addr) (kv3 : ClassId) (s4 : Addr) (v4 : Addr) (kv4 : ClassId) (h0 : Heap) (n0 : Nat) (O : Old Z n0 h0) (S_COMPACT : Sta Z Z.heap "java/lang/String" "COMPACT_STRINGS" "Z" (.int zc)) (hcs : ¬ zc = 0) (dT1 : Jvm.Free.SBG.Tbl Z "DigitOnes" sd d1 dC1) (dT2 : Jvm.Free.SBG.Tbl Z "DigitTens" sd d2 dC2) (dO1 : Jvm.Free.SBG.Ones dC1) (dO2 : Jvm.Free.SBG.Tens dC2) (S_um : Sta Z Z.heap "com/example/oplim/oplim/Keys" "UNIT_MILLIS" "[J" (.ref um)) (A_um : Arv Z Z.heap um kum .long (5 : Int32) [(.long (86400000 : Int64)), (.long (3600000 : Int64)), (.long (60000 : Int64)), (.long (1000 : Int64)), (.long (1 : Int64))] (.long 0)) (S_un : Sta Z Z.heap "com/example/oplim/oplim/Keys" "UNIT_NAMES" "[Ljava/lang/String;" (.ref un)) (A_un : Arv Z Z.heap un kun (.object "java/lang/String") (5 : Int32) [.ref s0, .ref s1, .ref s2, .ref s3, .ref s4] .null) (E_s0 : Exa Z Z.heap s0 "java/lang/String") (C_s0 : Fld Z Z.heap s0 "java/lang/String" "coder" "B" (.int 0)) (V_s0 : Fld Z Z.heap s0 "java/lang/String" "value" "[B" (.ref v0)) (A_v0 : Arv Z Z.heap v0 kv0 .byte (1 : Int32) [(.int (100 : Int32))] (.int 0)) (E_s1 : Exa Z Z.heap s1 "java/lang/String") (C_s1 : Fld Z Z.heap s1 "java/lang/String" "coder" "B" (.int 0)) (V_s1 : Fld Z Z.heap s1 "java/lang/String" "value" "[B" (.ref v1)) (A_v1 : Arv Z Z.heap v1 kv1 .byte (1 : Int32) [(.int (104 : Int32))] (.int 0)) (E_s2 : Exa Z Z.heap s2 "java/lang/String") (C_s2 : Fld Z Z.heap s2 "java/lang/String" "coder" "B" (.int 0)) (V_s2 : Fld Z Z.heap s2 "java/lang/String" "value" "[B" (.ref v2)) (A_v2 : Arv Z Z.heap v2 kv2 .byte (1 : Int32) [(.int (109 : Int32))] (.int 0)) (E_s3 : Exa Z Z.heap s3 "java/lang/String") (C_s3 : Fld Z Z.heap s3 "java/lang/String" "coder" "B" (.int 0)) (V_s3 : Fld Z Z.heap s3 "java/lang/String" "value" "[B" (.ref v3)) (A_v3 : Arv Z Z.heap v3 kv3 .byte (1 : Int32) [(.int (115 : Int32))] (.int 0)) (E_s4 : Exa Z Z.heap s4 "java/lang/String") (C_s4 : Fld Z Z.heap s4 "java/lang/String" "coder" "B" (.int 0)) (V_s4 : Fld Z Z.heap s4 "java/lang/String" "value" "[B" (.ref v4)) (A_v4 : Arv Z Z.heap v4 kv4 .byte (2 : Int32) [(.int (109 : Int32)), (.int (115 : Int32))] (.int 0)) (hM : 0 < x1.toInt) :
    MetFree l (⟨"com/example/oplim/oplim/Keys", "period", "(J)Ljava/lang/String;"⟩ : MethodName) (head1 (Jvm.Cond.code (⟨"com/example/oplim/oplim/Keys", "period", "(J)Ljava/lang/String;"⟩ : MethodName) prog_4_method_4_code 3 (some (.object "java/lang/String")) :: ws) ({ frames := 6, cells := 6, slots := 400, locals := 132 } : Room)) (fun a U => a = #[(.long x1)] ∧ Z.Warmed39 U.vm ∧ U.heap = h0) (fun _ _ _ _ _ => True) (fun _ U o U' => ∃ v L, o = .returned v ∧ Q_rmPer Z x1 zc sd d1 d2 dC1 dC2 um kum un kun s0 v0 kv0 s1 v1 kv1 s2 v2 kv2 s3 v3 kv3 s4 v4 kv4 h0 n0 v U'.heap L ∧ FrameEnd U o U' L ({ frames := 6, cells := 6, slots := 400, locals := 132 } : Room).cells ({ frames := 6, cells := 6, slots := 400, locals := 132 } : Room).slots) := by
  refine MetFree.of_bodySF (plainFor_of_name pn_1) hisR ?_
  intro p e s m args below meth c s₁ Bd hml0 hP hK
  obtain ⟨rfl, hZ, hh⟩ := hP
  have hx := Bd.exec
  have hby := Bd.bytes
  have hml : c.maxLocals = 3 := hml0
  have hown : s.vm.findClass "com/example/oplim/oplim/Keys" = some m.cls := findClass_of_methodNamed Bd.named
  have hnm := (name_of_methodNamed Bd.named Bd.method).1
  have hlk : meth.locks = false := BodyLoose.notSynchronized Bd
  have X0 : Stand p l e ({ frames := 6, cells := 6, slots := 400, locals := 132 } : Room) s m #[(.long x1)] below meth c s₁ [] 0 0 := Stand.of_body Bd
  have e0 : s₁.heap = h0 := by rw [← hh, Bd.state]; rfl
  have N0 := Fr.nil n0
  have KK : Keep h0 h0 [] := Keep.refl h0 _
  show Go p e below s ({ frames := 6, cells := 6, slots := 400, locals := 132 } : Room).cells ({ frames := 6, cells := 6, slots := 400, locals := 132 } : Room).slots (Q_rmPer Z x1 zc sd d1 d2 dC1 dC2 um kum un kun s0 v0 kv0 s1 v1 kv1 s2 v2 kv2 s3 v3 kv3 s4 v4 kv4 h0 n0) s₁ (entryFrame m #[(.long x1)] 3)
  refine Go.eq (ef_rmPer m x1) ?_
  show Go _ _ _ _ _ _ _  s₁ (mkF m 0 #[.val (.long x1), .second, .unset] [])
  refine Go.st (fun tT kT => XS.iconst X0.here hx rfl (hb hby d1_0) kT) ?_
  refine Go.st (fun tT kT => XS.istoreN X0.here hx rfl (hb hby d1_1) rfl (l' := #[.val (.long x1), .second, .val (.int (0 : Int32))]) rfl kT) ?_
  refine Go.st (fun tT kT => XS.lloadN X0.here hx rfl (hb hby d1_2) rfl  kT) ?_
  show Go _ _ _ _ _ _ _  s₁ (mkF m 3 #[.val (.long x1), .second, .val (.int (0 : Int32))] [(.long x1)])
  obtain ⟨T1, X1, e1, st1⟩ := getS2 X0 hx hZ hown (host := "") (Or.inl (hwi hw 36 rfl)) Via.refl e0 (S_um.ext O.2) (g := (mkF m 3 #[.val (.long x1), .second, .val (.int (0 : Int32))] [(.long x1)])) rfl (hb hby d1_3)
  refine Go.st st1 ?_
  show Go _ _ _ _ _ _ _  T1 (mkF m 6 #[.val (.long x1), .second, .val (.int (0 : Int32))] [(.ref um), (.long x1)])
  refine Go.st (fun tT kT => XS.iloadN X1.here hx rfl (hb hby d1_6) rfl  kT) ?_
  show Go _ _ _ _ _ _ _  T1 (mkF m 7 #[.val (.long x1), .second, .val (.int (0 : Int32))] [(.int (0 : Int32)), (.ref um), (.long x1)])
  obtain ⟨cl2, Ar2, q2, S2, M2, Hh2, G2⟩ := id (A_um.ext O.2)
  refine Go.st (X1.laload hx (j := (0 : Int32)) (v := (.long (86400000 : Int64))) (by rw [e1]; exact Ar2.1) (State.isArrayOf_alike hZ.alike Ar2.2.1) Ar2.2.2 (inb_of S2 ⟨by decide, by decide⟩) (Hh2.at (inb_of S2 ⟨by decide, by decide⟩) rfl) (g := (mkF m 7 #[.val (.long x1), .second, .val (.int (0 : Int32))] [(.int (0 : Int32)), (.ref um), (.long x1)])) rfl rfl (hb hby d1_7)) ?_
  show Go _ _ _ _ _ _ _  T1 (mkF m 8 #[.val (.long x1), .second, .val (.int (0 : Int32))] [(.long (86400000 : Int64)), (.long x1)])
  refine Go.st (fun tT kT => XS.lrem X1.here hx rfl (hb hby d1_8) rfl (by decide) kT) ?_
  show Go _ _ _ _ _ _ _  T1 (mkF m 9 #[.val (.long x1), .second, .val (.int (0 : Int32))] [(.long (x1 - (x1 / (86400000 : Int64)) * (86400000 : Int64)))])
  rw [lrem_mod]
  show Go _ _ _ _ _ _ _  T1 (mkF m 9 #[.val (.long x1), .second, .val (.int (0 : Int32))] [(.long (x1 % (86400000 : Int64)))])
  refine Go.st (fun tT kT => XS.lconst X1.here hx rfl (hb hby d1_9) kT) ?_
  show Go _ _ _ _ _ _ _  T1 (mkF m 10 #[.val (.long x1), .second, .val (.int (0 : Int32))] [(.long (0 : Int64)), (.long (x1 % (86400000 : Int64)))])
  refine Go.st (fun tT kT => XS.lcmp X1.here hx rfl (hb hby d1_10) rfl kT) ?_
  show Go _ _ _ _ _ _ _  T1 (mkF m 11 #[.val (.long x1), .second, .val (.int (0 : Int32))] [(.int (lcmpW (x1 % (86400000 : Int64)) (0 : Int64)))])
  by_cases c11_3 : (lcmpW (x1 % (86400000 : Int64)) (0 : Int64)) = (0 : Int32)
  · refine Go.st (fun tT kT => XS.ifYes X1.here hx rfl (pc0 := 11) (pc' := 20) rfl (hb hby d1_11) rfl ((if0 _ _).trans (teq c11_3).1) (by decide) (by decide) kT) ?_
    show Go _ _ _ _ _ _ _  T1 (mkF m 20 #[.val (.long x1), .second, .val (.int (0 : Int32))] [])
    have k20 := own_k20 (x1 / (86400000 : Int64))
    have xnn := own_dnn hM (b := (86400000 : Int64)) (by decide)
    show Go _ _ _ _ _ _ _  T1 (mkF m 20 #[.val (.long x1), .second, .val (.int (0 : Int32))] [])
    obtain ⟨T4, h4, X4, e4, E4, A4, D4, U4, st4⟩ := newO X1 hx hZ hown (hwi hw 38 rfl) (hwi hw 39 rfl) (hwi hw 40 rfl) e1 (g := (mkF m 20 #[.val (.long x1), .second, .val (.int (0 : Int32))] [])) rfl (hb hby d1_20) (by decide) (by decide)
    obtain ⟨b4, g4⟩ : ∃ z, z = h0.size := ⟨_, rfl⟩
    rw [← g4] at A4 D4 U4 st4
    refine Go.st st4 ?_
    have g_b4 : n0 ≤ b4 := by rw [g4]; exact own_le O
    have sz_b4 : h0.size ≤ b4 := by rw [g4]; exact KK.1
    have O := O.ext E4
    have KK := KK.ext E4
    have E_b4 := A4
    have F_value_b4 : Fld Z h4 b4 "java/lang/AbstractStringBuilder" "value" "[B" .null := D4 (Or.inl (hwi hw 55 rfl)) (ty := (.array .byte)) (by decide)
    have F_coder_b4 : Fld Z h4 b4 "java/lang/AbstractStringBuilder" "coder" "B" (.int (0 : Int32)) := D4 (Or.inl (hwi hw 57 rfl)) (ty := .byte) (by decide)
    have F_count_b4 : Fld Z h4 b4 "java/lang/AbstractStringBuilder" "count" "I" (.int (0 : Int32)) := D4 (Or.inl (hwi hw 69 rfl)) (ty := .int) (by decide)
    show Go _ _ _ _ _ _ _  T4 (mkF m 23 #[.val (.long x1), .second, .val (.int (0 : Int32))] [(.ref b4)])
    refine Go.st (fun tT kT => XS.dup X4.here hx rfl (hb hby d1_23) rfl rfl kT) ?_
    show Go _ _ _ _ _ _ _  T4 (mkF m 24 #[.val (.long x1), .second, .val (.int (0 : Int32))] [(.ref b4), (.ref b4)])
    obtain ⟨_, _, ⟨T5, L5, k5, n5⟩, -, X5, ⟨Lc5, hQ5, l5, y5, z5⟩, st5⟩ := X4.specialBack hx (y := (⟨"java/lang/StringBuilder", "<init>", "()V"⟩ : MethodName)) rfl hown (mvT hZ (hwi hw 41 rfl)) (mvT hZ (hwi hw 42 rfl)) (mvT hZ (hwi hw 43 rfl)) (by decide) (backOf (W := 1) (rmI0 l Z a0 hw [] b4 zc h4 n0 O S_COMPACT hcs E_b4 F_value_b4 F_coder_b4 F_count_b4 g_b4) hZ (hwi hw 43 rfl) (hwi hw 40 rfl) (by decide) (by decide)) (g := (mkF m 24 #[.val (.long x1), .second, .val (.int (0 : Int32))] [(.ref b4), (.ref b4)])) rfl (by rw [hml]; rfl) (Steps.refl _) (a := b4) (argsL := []) (rest := [(.ref b4)]) (lenOf pd___V rfl) rfl (by show 2 * 0 + _ ≤ _; exact Nat.le_of_eq rfl) (hb hby d1_24) (fun _ _ => ⟨rfl, e4, (by decide : 1 + 1 ≤ _), (by decide : 4 + 16 ≤ _)⟩)
    dsimp only [Pt.U, Pt.locs, Pt.cells, Pt.slots] at X5 l5 y5 z5 st5 hQ5
    rw [l5, y5, z5] at X5
    have X5 : Stand p l e _ _ m _ below meth c T5 _ 2 20 := X5
    obtain ⟨rfl, N5q, K5q, Eq5, Cq5, Nq5, t5, kt5, lt5, Vq5, Aq5, Xq5⟩ := hQ5
    have N5 := Fr.app N0 N5q
    refine Go.tr st5 ?_
    have g_t5 : n0 ≤ t5 := Nat.le_trans (own_le O) lt5
    have sz_t5 : h0.size ≤ t5 := Nat.le_trans KK.1 lt5
    have ne_b4_t5 : b4 ≠ t5 := Nat.ne_of_lt (Nat.lt_of_lt_of_le E_b4.lt lt5)
    have E_b4 := E_b4.keep K5q
    have O := O.keep K5q (allS g_b4 all0)
    have KK := KK.trans K5q (allS (Or.inr sz_b4) all0)
    have E_b4 := Eq5
    have XX_b4 : Exa Z _ t5 "[B" ∨ 30 < 16 := Or.inl Xq5
    show Go _ _ _ _ _ _ _  T5 (mkF m 27 #[.val (.long x1), .second, .val (.int (0 : Int32))] [(.ref b4)])
    refine Go.st (fun tT kT => XS.lloadN X5.here hx rfl (hb hby d1_27) rfl  kT) ?_
    show Go _ _ _ _ _ _ _  T5 (mkF m 28 #[.val (.long x1), .second, .val (.int (0 : Int32))] [(.long x1), (.ref b4)])
    obtain ⟨T6, X6, e6, st6⟩ := getS2 X5 hx hZ hown (host := "") (Or.inl (hwi hw 36 rfl)) Via.refl rfl (S_um.ext O.2) (g := (mkF m 28 #[.val (.long x1), .second, .val (.int (0 : Int32))] [(.long x1), (.ref b4)])) rfl (hb hby d1_28)
    refine Go.st st6 ?_
    show Go _ _ _ _ _ _ _  T6 (mkF m 31 #[.val (.long x1), .second, .val (.int (0 : Int32))] [(.ref um), (.long x1), (.ref b4)])
    refine Go.st (fun tT kT => XS.iloadN X6.here hx rfl (hb hby d1_31) rfl  kT) ?_
    show Go _ _ _ _ _ _ _  T6 (mkF m 32 #[.val (.long x1), .second, .val (.int (0 : Int32))] [(.int (0 : Int32)), (.ref um), (.long x1), (.ref b4)])
    obtain ⟨cl7, Ar7, q7, S7, M7, Hh7, G7⟩ := id (A_um.ext O.2)
    refine Go.st (X6.laload hx (j := (0 : Int32)) (v := (.long (86400000 : Int64))) (by rw [e6]; exact Ar7.1) (State.isArrayOf_alike hZ.alike Ar7.2.1) Ar7.2.2 (inb_of S7 ⟨by decide, by decide⟩) (Hh7.at (inb_of S7 ⟨by decide, by decide⟩) rfl) (g := (mkF m 32 #[.val (.long x1), .second, .val (.int (0 : Int32))] [(.int (0 : Int32)), (.ref um), (.long x1), (.ref b4)])) rfl rfl (hb hby d1_32)) ?_
    show Go _ _ _ _ _ _ _  T6 (mkF m 33 #[.val (.long x1), .second, .val (.int (0 : Int32))] [(.long (86400000 : Int64)), (.long x1), (.ref b4)])
    refine Go.st (fun tT kT => XS.ldiv X6.here hx rfl (hb hby d1_33) rfl (by decide) kT) ?_
    show Go _ _ _ _ _ _ _  T6 (mkF m 34 #[.val (.long x1), .second, .val (.int (0 : Int32))] [(.long (x1 / (86400000 : Int64))), (.ref b4)])
    obtain ⟨cq8, kq8, q8a, q8b, q8c⟩ := isOf hZ e6 E_b4
    obtain ⟨_, _, ⟨T8, L8, k8, n8⟩, -, X8, ⟨Lc8, hQ8, l8, y8, z8⟩, st8⟩ := X6.virtualBack hx (y := (⟨"java/lang/StringBuilder", "append", "(J)Ljava/lang/StringBuilder;"⟩ : MethodName)) (z := (⟨"java/lang/StringBuilder", "append", "(J)Ljava/lang/StringBuilder;"⟩ : MethodName)) hown (mvT hZ (hwi hw 58 rfl)) (mvT hZ (hwi hw 59 rfl)) (notFace_of_selects (args := #[]) (mvT hZ (hwi hw 61 rfl))) (mvT hZ (hwi hw 61 rfl)) (mvT hZ (hwi hw 60 rfl)) (by decide) (backOf (W := 0) (rmSJw l Z a0 hw [] b4 (x1 / (86400000 : Int64)) zc t5 kt5 0 16 [] sd d1 d2 dC1 dC2 h0.size T5.heap n0 O S_COMPACT hcs E_b4 Cq5 Vq5 Nq5 Aq5 rfl (by decide) (by omega) g_b4 g_t5 xnn dT1 dT2 dO1 dO2 sz_t5 KK.1 (by decide) (by decide) XX_b4 (by omega)) hZ (hwi hw 62 rfl) (hwi hw 40 rfl) (by decide) (by decide)) q8a q8c (g := (mkF m 34 #[.val (.long x1), .second, .val (.int (0 : Int32))] [(.long (x1 / (86400000 : Int64))), (.ref b4)])) rfl (by rw [hml]; rfl) (Steps.refl _) (argsL := [(.long (x1 / (86400000 : Int64)))]) (rest := []) (lenOf pd__J_Ljava_lang_StringBuilder_ rfl) rfl (by show 2 * 0 + _ ≤ _; exact Nat.le_of_eq rfl) (hb hby d1_34) (fun _ _ => ⟨rfl, e6, (by decide : 2 + 1 ≤ _), (by decide : 20 + 64 ≤ _)⟩)
    dsimp only [Pt.U, Pt.locs, Pt.cells, Pt.slots] at X8 l8 y8 z8 st8 hQ8
    rw [l8, y8, z8] at X8
    have X8 : Stand p l e _ _ m _ below meth c T8 _ 3 84 := X8
    obtain ⟨rfl, N8q, K8q, Eq8, Cq8, Nq8, t8, kt8, cp8, gb8, mb8, Vq8, Aq8, ka8, kb8, kc8, Xq8⟩ := hQ8
    have N8 := Fr.app N5 N8q
    refine Go.tr st8 ?_
    have E_b4 := E_b4.keep K8q
    have XX_b4 := XX_b4.imp (fun q => q.keep K8q) id
    have O := O.keep K8q (allS g_b4 (allS g_t5 all0))
    have KK := KK.trans K8q (allS (Or.inr sz_b4) (allS (Or.inr sz_t5) all0))
    have E_b4 := Eq8
    have g_t8 := gb8
    have sz_t8 : h0.size ≤ t8 := mb8
    have XX_b4 := Xq8
    show Go _ _ _ _ _ _ _  T8 (mkF m 37 #[.val (.long x1), .second, .val (.int (0 : Int32))] [(.ref b4)])
    obtain ⟨T9, X9, e9, st9⟩ := getS2 X8 hx hZ hown (host := "") (Or.inl (hwi hw 91 rfl)) Via.refl rfl (S_un.ext O.2) (g := (mkF m 37 #[.val (.long x1), .second, .val (.int (0 : Int32))] [(.ref b4)])) rfl (hb hby d1_37)
    refine Go.st st9 ?_
    show Go _ _ _ _ _ _ _  T9 (mkF m 40 #[.val (.long x1), .second, .val (.int (0 : Int32))] [(.ref un), (.ref b4)])
    refine Go.st (fun tT kT => XS.iloadN X9.here hx rfl (hb hby d1_40) rfl  kT) ?_
    show Go _ _ _ _ _ _ _  T9 (mkF m 41 #[.val (.long x1), .second, .val (.int (0 : Int32))] [(.int (0 : Int32)), (.ref un), (.ref b4)])
    obtain ⟨cl10, Ar10, q10, S10, M10, Hh10, G10⟩ := id (A_un.ext O.2)
    refine Go.st (X9.aaload hx (j := (0 : Int32)) (v := (.ref s0)) (by rw [e9]; exact Ar10.1) (State.isArrayOf_alike hZ.alike Ar10.2.1) rfl Ar10.2.2 (inb_of S10 ⟨by decide, by decide⟩) (Hh10.at (inb_of S10 ⟨by decide, by decide⟩) rfl) (g := (mkF m 41 #[.val (.long x1), .second, .val (.int (0 : Int32))] [(.int (0 : Int32)), (.ref un), (.ref b4)])) rfl rfl (hb hby d1_41)) ?_
    show Go _ _ _ _ _ _ _  T9 (mkF m 42 #[.val (.long x1), .second, .val (.int (0 : Int32))] [(.ref s0), (.ref b4)])
    obtain ⟨cq11, kq11, q11a, q11b, q11c⟩ := isOf hZ e9 E_b4
    obtain ⟨_, _, ⟨T11, L11, k11, n11⟩, -, X11, ⟨Lc11, hQ11, l11, y11, z11⟩, st11⟩ := X9.virtualBack hx (y := (⟨"java/lang/StringBuilder", "append", "(Ljava/lang/String;)Ljava/lang/StringBuilder;"⟩ : MethodName)) (z := (⟨"java/lang/StringBuilder", "append", "(Ljava/lang/String;)Ljava/lang/StringBuilder;"⟩ : MethodName)) hown (mvT hZ (hwi hw 93 rfl)) (mvT hZ (hwi hw 94 rfl)) (notFace_of_selects (args := #[]) (mvT hZ (hwi hw 96 rfl))) (mvT hZ (hwi hw 96 rfl)) (mvT hZ (hwi hw 95 rfl)) (by decide) (backOf (W := 0) (rmSw l Z a0 hw [] b4 s0 zc t8 kt8 (0 + own_k (x1 / (86400000 : Int64))) cp8 ([] ++ ((own_dl (x1 / (86400000 : Int64))).map Value.int)) v0 kv0 1 [(.int (100 : Int32))] h0.size T8.heap n0 O S_COMPACT hcs E_b4 Cq8 Vq8 Nq8 Aq8 (own_lapp rfl (own_dlm (x1 / (86400000 : Int64)))) ka8 (by omega) g_b4 g_t8 (E_s0.ext O.2) (C_s0.ext O.2) (V_s0.ext O.2) (A_v0.ext O.2) rfl (by decide) (O.ne A_v0.lt g_t8) sz_t8 KK.1 kb8 kc8 XX_b4 (by omega)) hZ (hwi hw 97 rfl) (hwi hw 40 rfl) (by decide) (by decide)) q11a q11c (g := (mkF m 42 #[.val (.long x1), .second, .val (.int (0 : Int32))] [(.ref s0), (.ref b4)])) rfl (by rw [hml]; rfl) (Steps.refl _) (argsL := [(.ref s0)]) (rest := []) (lenOf pd__Ljava_lang_String__Ljava_lang_StringBuilder_ rfl) rfl (by show 2 * 0 + _ ≤ _; exact Nat.le_of_eq rfl) (hb hby d1_42) (fun _ _ => ⟨rfl, e9, (by decide : 3 + 1 ≤ _), (by decide : 84 + 64 ≤ _)⟩)
    dsimp only [Pt.U, Pt.locs, Pt.cells, Pt.slots] at X11 l11 y11 z11 st11 hQ11
    rw [l11, y11, z11] at X11
    have X11 : Stand p l e _ _ m _ below meth c T11 _ 4 148 := X11
    obtain ⟨rfl, N11q, K11q, Eq11, Cq11, Nq11, t11, kt11, cp11, gb11, mb11, Vq11, Aq11, ka11, kb11, kc11, Xq11⟩ := hQ11
    have N11 := Fr.app N8 N11q
    refine Go.tr st11 ?_
    have E_b4 := E_b4.keep K11q
    have XX_b4 := XX_b4.imp (fun q => q.keep K11q) id
    have O := O.keep K11q (allS g_b4 (allS g_t8 all0))
    have KK := KK.trans K11q (allS (Or.inr sz_b4) (allS (Or.inr sz_t8) all0))
    have E_b4 := Eq11
    have g_t11 := gb11
    have sz_t11 : h0.size ≤ t11 := mb11
    have XX_b4 := Xq11
    show Go _ _ _ _ _ _ _  T11 (mkF m 45 #[.val (.long x1), .second, .val (.int (0 : Int32))] [(.ref b4)])
    obtain ⟨cq12, kq12, q12a, q12b, q12c⟩ := isOf hZ rfl E_b4
    obtain ⟨_, _, ⟨T12, L12, k12, n12⟩, -, X12, ⟨Lc12, hQ12, l12, y12, z12⟩, st12⟩ := X11.virtualBack hx (y := (⟨"java/lang/StringBuilder", "toString", "()Ljava/lang/String;"⟩ : MethodName)) (z := (⟨"java/lang/StringBuilder", "toString", "()Ljava/lang/String;"⟩ : MethodName)) hown (mvT hZ (hwi hw 135 rfl)) (mvT hZ (hwi hw 136 rfl)) (notFace_of_selects (args := #[]) (mvT hZ (hwi hw 138 rfl))) (mvT hZ (hwi hw 138 rfl)) (mvT hZ (hwi hw 137 rfl)) (by decide) (backOf (W := 0) (rmTSw l Z a0 hw [] b4 zc t11 kt11 ((0 + own_k (x1 / (86400000 : Int64))) + 1) cp11 (([] ++ ((own_dl (x1 / (86400000 : Int64))).map Value.int)) ++ [(.int (100 : Int32))]) T11.heap n0 O S_COMPACT hcs E_b4 Cq11 Vq11 Nq11 Aq11 (own_lapp (own_lapp rfl (own_dlm (x1 / (86400000 : Int64)))) rfl) ka11 (by omega) (by omega) XX_b4) hZ (hwi hw 139 rfl) (hwi hw 40 rfl) (by decide) (by decide)) q12a q12c (g := (mkF m 45 #[.val (.long x1), .second, .val (.int (0 : Int32))] [(.ref b4)])) rfl (by rw [hml]; rfl) (Steps.refl _) (argsL := []) (rest := []) (lenOf pd___Ljava_lang_String_ rfl) rfl (by show 2 * 0 + _ ≤ _; exact Nat.le_of_eq rfl) (hb hby d1_45) (fun _ _ => ⟨rfl, rfl, (by decide : 4 + 2 ≤ _), (by decide : 148 + 68 ≤ _)⟩)
    dsimp only [Pt.U, Pt.locs, Pt.cells, Pt.slots] at X12 l12 y12 z12 st12 hQ12
    rw [l12, y12, z12] at X12
    have X12 : Stand p l e _ _ m _ below meth c T12 _ 6 216 := X12
    obtain ⟨y12, t12, kt12, rfl, N12q, E12q, ly12, lt12, E_y12, C_y12, V_y12, A_t12⟩ := hQ12
    have N12 := Fr.app N11 N12q
    refine Go.tr st12 ?_
    have g_y12 : n0 ≤ y12 := Nat.le_trans (own_le O) ly12
    have sz_y12 : h0.size ≤ y12 := Nat.le_trans KK.1 ly12
    have ne_b4_y12 : b4 ≠ y12 := Nat.ne_of_lt (Nat.lt_of_lt_of_le E_b4.lt ly12)
    have ne_t11_y12 : t11 ≠ y12 := Nat.ne_of_lt (Nat.lt_of_lt_of_le Aq11.lt ly12)
    have g_t12 : n0 ≤ t12 := Nat.le_trans (own_le O) lt12
    have sz_t12 : h0.size ≤ t12 := Nat.le_trans KK.1 lt12
    have ne_b4_t12 : b4 ≠ t12 := Nat.ne_of_lt (Nat.lt_of_lt_of_le E_b4.lt lt12)
    have ne_t11_t12 : t11 ≠ t12 := Nat.ne_of_lt (Nat.lt_of_lt_of_le Aq11.lt lt12)
    have E12 := E12q
    have E_b4 := E_b4.ext E12
    have XX_b4 := XX_b4.imp (fun q => q.ext E12) id
    have Cq11 := Cq11.ext E12
    have Vq11 := Vq11.ext E12
    have Nq11 := Nq11.ext E12
    have Aq11 := Aq11.ext E12
    have O := O.ext E12
    have KK := KK.ext E12
    have ee12 : ((([] ++ ((own_dl (x1 / (86400000 : Int64))).map Value.int)) ++ [(.int (100 : Int32))]) : List Value) = (own_dl (x1 / (86400000 : Int64)) ++ [(100 : Int32)]).map Value.int := by simp []
    have el12 : ((0 + own_k (x1 / (86400000 : Int64))) + 1) = (own_dl (x1 / (86400000 : Int64)) ++ [(100 : Int32)]).length := Eq.trans (Eq.symm ((own_lapp (own_lapp rfl (own_dlm (x1 / (86400000 : Int64)))) rfl) : ((([] ++ ((own_dl (x1 / (86400000 : Int64))).map Value.int)) ++ [(.int (100 : Int32))]) : List Value).length = ((0 + own_k (x1 / (86400000 : Int64))) + 1))) ((congrArg List.length ee12).trans (List.length_map _))
    rw [ee12, el12] at A_t12
    have ne_y12_t12 : y12 ≠ t12 := Exa.neArv E_y12 A_t12 (hwi hw 26 rfl)
    show Go _ _ _ _ _ _ _  T12 (mkF m 48 #[.val (.long x1), .second, .val (.int (0 : Int32))] [(.ref y12)])
    refine Go.retR X12 hlk hx Bd.returns rfl rfl rfl (hb hby d1_48) (by decide) (by decide) ?_
    show Q_rmPer Z _ _ _ _ _ _ _ _ _ _ _ _ _ _ _ _ _ _ _ _ _ _ _ _ _ _ h0 n0 _ T12.heap _
    exact ⟨_, _, _, rfl, N12, own_ext0 KK, E_y12, C_y12, V_y12, (by rw [own_per, if_pos c11_3]; exact A_t12)⟩
  · refine Go.st (fun tT kT => XS.ifNo X1.here hx rfl (hb hby d1_11) rfl ((if0 _ _).trans (feq c11_3).1) kT) ?_
    show Go _ _ _ _ _ _ _  T1 (mkF m 14 #[.val (.long x1), .second, .val (.int (0 : Int32))] [])
    refine Go.st (fun tT kT => XS.iinc X1.here hx rfl (hb hby d1_14) rfl (l' := #[.val (.long x1), .second, .val (.int ((0 : Int32) + (1 : Int32)))]) rfl kT) ?_
    show Go _ _ _ _ _ _ _  T1 (mkF m 17 #[.val (.long x1), .second, .val (.int ((0 : Int32) + (1 : Int32)))] [])
    rw [show ((0 : Int32) + (1 : Int32)) = (1 : Int32) from by decide]
    show Go _ _ _ _ _ _ _  T1 (mkF m 17 #[.val (.long x1), .second, .val (.int (1 : Int32))] [])
    refine Go.st (fun tT kT => XS.goto X1.here hx rfl (pc0 := 17) (pc' := 2) rfl (hb hby d1_17) (by decide) (by decide) kT) ?_
    refine Go.st (fun tT kT => XS.lloadN X1.here hx rfl (hb hby d1_2) rfl  kT) ?_
    show Go _ _ _ _ _ _ _  T1 (mkF m 3 #[.val (.long x1), .second, .val (.int (1 : Int32))] [(.long x1)])
    obtain ⟨T13, X13, e13, st13⟩ := getS2 X1 hx hZ hown (host := "") (Or.inl (hwi hw 36 rfl)) Via.refl e1 (S_um.ext O.2) (g := (mkF m 3 #[.val (.long x1), .second, .val (.int (1 : Int32))] [(.long x1)])) rfl (hb hby d1_3)
    refine Go.st st13 ?_
    show Go _ _ _ _ _ _ _  T13 (mkF m 6 #[.val (.long x1), .second, .val (.int (1 : Int32))] [(.ref um), (.long x1)])
    refine Go.st (fun tT kT => XS.iloadN X13.here hx rfl (hb hby d1_6) rfl  kT) ?_
    show Go _ _ _ _ _ _ _  T13 (mkF m 7 #[.val (.long x1), .second, .val (.int (1 : Int32))] [(.int (1 : Int32)), (.ref um), (.long x1)])
    obtain ⟨cl14, Ar14, q14, S14, M14, Hh14, G14⟩ := id (A_um.ext O.2)
    refine Go.st (X13.laload hx (j := (1 : Int32)) (v := (.long (3600000 : Int64))) (by rw [e13]; exact Ar14.1) (State.isArrayOf_alike hZ.alike Ar14.2.1) Ar14.2.2 (inb_of S14 ⟨by decide, by decide⟩) (Hh14.at (inb_of S14 ⟨by decide, by decide⟩) rfl) (g := (mkF m 7 #[.val (.long x1), .second, .val (.int (1 : Int32))] [(.int (1 : Int32)), (.ref um), (.long x1)])) rfl rfl (hb hby d1_7)) ?_
    show Go _ _ _ _ _ _ _  T13 (mkF m 8 #[.val (.long x1), .second, .val (.int (1 : Int32))] [(.long (3600000 : Int64)), (.long x1)])
    refine Go.st (fun tT kT => XS.lrem X13.here hx rfl (hb hby d1_8) rfl (by decide) kT) ?_
    show Go _ _ _ _ _ _ _  T13 (mkF m 9 #[.val (.long x1), .second, .val (.int (1 : Int32))] [(.long (x1 - (x1 / (3600000 : Int64)) * (3600000 : Int64)))])
    rw [lrem_mod]
    show Go _ _ _ _ _ _ _  T13 (mkF m 9 #[.val (.long x1), .second, .val (.int (1 : Int32))] [(.long (x1 % (3600000 : Int64)))])
    refine Go.st (fun tT kT => XS.lconst X13.here hx rfl (hb hby d1_9) kT) ?_
    show Go _ _ _ _ _ _ _  T13 (mkF m 10 #[.val (.long x1), .second, .val (.int (1 : Int32))] [(.long (0 : Int64)), (.long (x1 % (3600000 : Int64)))])
    refine Go.st (fun tT kT => XS.lcmp X13.here hx rfl (hb hby d1_10) rfl kT) ?_
    show Go _ _ _ _ _ _ _  T13 (mkF m 11 #[.val (.long x1), .second, .val (.int (1 : Int32))] [(.int (lcmpW (x1 % (3600000 : Int64)) (0 : Int64)))])
    by_cases c11_15 : (lcmpW (x1 % (3600000 : Int64)) (0 : Int64)) = (0 : Int32)
    · refine Go.st (fun tT kT => XS.ifYes X13.here hx rfl (pc0 := 11) (pc' := 20) rfl (hb hby d1_11) rfl ((if0 _ _).trans (teq c11_15).1) (by decide) (by decide) kT) ?_
      show Go _ _ _ _ _ _ _  T13 (mkF m 20 #[.val (.long x1), .second, .val (.int (1 : Int32))] [])
      have k20 := own_k20 (x1 / (3600000 : Int64))
      have xnn := own_dnn hM (b := (3600000 : Int64)) (by decide)
      show Go _ _ _ _ _ _ _  T13 (mkF m 20 #[.val (.long x1), .second, .val (.int (1 : Int32))] [])
      obtain ⟨T16, h16, X16, e16, E16, A16, D16, U16, st16⟩ := newO X13 hx hZ hown (hwi hw 38 rfl) (hwi hw 39 rfl) (hwi hw 40 rfl) e13 (g := (mkF m 20 #[.val (.long x1), .second, .val (.int (1 : Int32))] [])) rfl (hb hby d1_20) (by decide) (by decide)
      obtain ⟨b16, g16⟩ : ∃ z, z = h0.size := ⟨_, rfl⟩
      rw [← g16] at A16 D16 U16 st16
      refine Go.st st16 ?_
      have g_b16 : n0 ≤ b16 := by rw [g16]; exact own_le O
      have sz_b16 : h0.size ≤ b16 := by rw [g16]; exact KK.1
      have O := O.ext E16
      have KK := KK.ext E16
      have E_b16 := A16
      have F_value_b16 : Fld Z h16 b16 "java/lang/AbstractStringBuilder" "value" "[B" .null := D16 (Or.inl (hwi hw 55 rfl)) (ty := (.array .byte)) (by decide)
      have F_coder_b16 : Fld Z h16 b16 "java/lang/AbstractStringBuilder" "coder" "B" (.int (0 : Int32)) := D16 (Or.inl (hwi hw 57 rfl)) (ty := .byte) (by decide)
      have F_count_b16 : Fld Z h16 b16 "java/lang/AbstractStringBuilder" "count" "I" (.int (0 : Int32)) := D16 (Or.inl (hwi hw 69 rfl)) (ty := .int) (by decide)
      show Go _ _ _ _ _ _ _  T16 (mkF m 23 #[.val (.long x1), .second, .val (.int (1 : Int32))] [(.ref b16)])
      refine Go.st (fun tT kT => XS.dup X16.here hx rfl (hb hby d1_23) rfl rfl kT) ?_
      show Go _ _ _ _ _ _ _  T16 (mkF m 24 #[.val (.long x1), .second, .val (.int (1 : Int32))] [(.ref b16), (.ref b16)])
      obtain ⟨_, _, ⟨T17, L17, k17, n17⟩, -, X17, ⟨Lc17, hQ17, l17, y17, z17⟩, st17⟩ := X16.specialBack hx (y := (⟨"java/lang/StringBuilder", "<init>", "()V"⟩ : MethodName)) rfl hown (mvT hZ (hwi hw 41 rfl)) (mvT hZ (hwi hw 42 rfl)) (mvT hZ (hwi hw 43 rfl)) (by decide) (backOf (W := 1) (rmI0 l Z a0 hw [] b16 zc h16 n0 O S_COMPACT hcs E_b16 F_value_b16 F_coder_b16 F_count_b16 g_b16) hZ (hwi hw 43 rfl) (hwi hw 40 rfl) (by decide) (by decide)) (g := (mkF m 24 #[.val (.long x1), .second, .val (.int (1 : Int32))] [(.ref b16), (.ref b16)])) rfl (by rw [hml]; rfl) (Steps.refl _) (a := b16) (argsL := []) (rest := [(.ref b16)]) (lenOf pd___V rfl) rfl (by show 2 * 0 + _ ≤ _; exact Nat.le_of_eq rfl) (hb hby d1_24) (fun _ _ => ⟨rfl, e16, (by decide : 1 + 1 ≤ _), (by decide : 4 + 16 ≤ _)⟩)
      dsimp only [Pt.U, Pt.locs, Pt.cells, Pt.slots] at X17 l17 y17 z17 st17 hQ17
      rw [l17, y17, z17] at X17
      have X17 : Stand p l e _ _ m _ below meth c T17 _ 2 20 := X17
      obtain ⟨rfl, N17q, K17q, Eq17, Cq17, Nq17, t17, kt17, lt17, Vq17, Aq17, Xq17⟩ := hQ17
      have N17 := Fr.app N0 N17q
      refine Go.tr st17 ?_
      have g_t17 : n0 ≤ t17 := Nat.le_trans (own_le O) lt17
      have sz_t17 : h0.size ≤ t17 := Nat.le_trans KK.1 lt17
      have ne_b16_t17 : b16 ≠ t17 := Nat.ne_of_lt (Nat.lt_of_lt_of_le E_b16.lt lt17)
      have E_b16 := E_b16.keep K17q
      have O := O.keep K17q (allS g_b16 all0)
      have KK := KK.trans K17q (allS (Or.inr sz_b16) all0)
      have E_b16 := Eq17
      have XX_b16 : Exa Z _ t17 "[B" ∨ 30 < 16 := Or.inl Xq17
      show Go _ _ _ _ _ _ _  T17 (mkF m 27 #[.val (.long x1), .second, .val (.int (1 : Int32))] [(.ref b16)])
      refine Go.st (fun tT kT => XS.lloadN X17.here hx rfl (hb hby d1_27) rfl  kT) ?_
      show Go _ _ _ _ _ _ _  T17 (mkF m 28 #[.val (.long x1), .second, .val (.int (1 : Int32))] [(.long x1), (.ref b16)])
      obtain ⟨T18, X18, e18, st18⟩ := getS2 X17 hx hZ hown (host := "") (Or.inl (hwi hw 36 rfl)) Via.refl rfl (S_um.ext O.2) (g := (mkF m 28 #[.val (.long x1), .second, .val (.int (1 : Int32))] [(.long x1), (.ref b16)])) rfl (hb hby d1_28)
      refine Go.st st18 ?_
      show Go _ _ _ _ _ _ _  T18 (mkF m 31 #[.val (.long x1), .second, .val (.int (1 : Int32))] [(.ref um), (.long x1), (.ref b16)])
      refine Go.st (fun tT kT => XS.iloadN X18.here hx rfl (hb hby d1_31) rfl  kT) ?_
      show Go _ _ _ _ _ _ _  T18 (mkF m 32 #[.val (.long x1), .second, .val (.int (1 : Int32))] [(.int (1 : Int32)), (.ref um), (.long x1), (.ref b16)])
      obtain ⟨cl19, Ar19, q19, S19, M19, Hh19, G19⟩ := id (A_um.ext O.2)
      refine Go.st (X18.laload hx (j := (1 : Int32)) (v := (.long (3600000 : Int64))) (by rw [e18]; exact Ar19.1) (State.isArrayOf_alike hZ.alike Ar19.2.1) Ar19.2.2 (inb_of S19 ⟨by decide, by decide⟩) (Hh19.at (inb_of S19 ⟨by decide, by decide⟩) rfl) (g := (mkF m 32 #[.val (.long x1), .second, .val (.int (1 : Int32))] [(.int (1 : Int32)), (.ref um), (.long x1), (.ref b16)])) rfl rfl (hb hby d1_32)) ?_
      show Go _ _ _ _ _ _ _  T18 (mkF m 33 #[.val (.long x1), .second, .val (.int (1 : Int32))] [(.long (3600000 : Int64)), (.long x1), (.ref b16)])
      refine Go.st (fun tT kT => XS.ldiv X18.here hx rfl (hb hby d1_33) rfl (by decide) kT) ?_
      show Go _ _ _ _ _ _ _  T18 (mkF m 34 #[.val (.long x1), .second, .val (.int (1 : Int32))] [(.long (x1 / (3600000 : Int64))), (.ref b16)])
      obtain ⟨cq20, kq20, q20a, q20b, q20c⟩ := isOf hZ e18 E_b16
      obtain ⟨_, _, ⟨T20, L20, k20, n20⟩, -, X20, ⟨Lc20, hQ20, l20, y20, z20⟩, st20⟩ := X18.virtualBack hx (y := (⟨"java/lang/StringBuilder", "append", "(J)Ljava/lang/StringBuilder;"⟩ : MethodName)) (z := (⟨"java/lang/StringBuilder", "append", "(J)Ljava/lang/StringBuilder;"⟩ : MethodName)) hown (mvT hZ (hwi hw 58 rfl)) (mvT hZ (hwi hw 59 rfl)) (notFace_of_selects (args := #[]) (mvT hZ (hwi hw 61 rfl))) (mvT hZ (hwi hw 61 rfl)) (mvT hZ (hwi hw 60 rfl)) (by decide) (backOf (W := 0) (rmSJw l Z a0 hw [] b16 (x1 / (3600000 : Int64)) zc t17 kt17 0 16 [] sd d1 d2 dC1 dC2 h0.size T17.heap n0 O S_COMPACT hcs E_b16 Cq17 Vq17 Nq17 Aq17 rfl (by decide) (by omega) g_b16 g_t17 xnn dT1 dT2 dO1 dO2 sz_t17 KK.1 (by decide) (by decide) XX_b16 (by omega)) hZ (hwi hw 62 rfl) (hwi hw 40 rfl) (by decide) (by decide)) q20a q20c (g := (mkF m 34 #[.val (.long x1), .second, .val (.int (1 : Int32))] [(.long (x1 / (3600000 : Int64))), (.ref b16)])) rfl (by rw [hml]; rfl) (Steps.refl _) (argsL := [(.long (x1 / (3600000 : Int64)))]) (rest := []) (lenOf pd__J_Ljava_lang_StringBuilder_ rfl) rfl (by show 2 * 0 + _ ≤ _; exact Nat.le_of_eq rfl) (hb hby d1_34) (fun _ _ => ⟨rfl, e18, (by decide : 2 + 1 ≤ _), (by decide : 20 + 64 ≤ _)⟩)
      dsimp only [Pt.U, Pt.locs, Pt.cells, Pt.slots] at X20 l20 y20 z20 st20 hQ20
      rw [l20, y20, z20] at X20
      have X20 : Stand p l e _ _ m _ below meth c T20 _ 3 84 := X20
      obtain ⟨rfl, N20q, K20q, Eq20, Cq20, Nq20, t20, kt20, cp20, gb20, mb20, Vq20, Aq20, ka20, kb20, kc20, Xq20⟩ := hQ20
      have N20 := Fr.app N17 N20q
      refine Go.tr st20 ?_
      have E_b16 := E_b16.keep K20q
      have XX_b16 := XX_b16.imp (fun q => q.keep K20q) id
      have O := O.keep K20q (allS g_b16 (allS g_t17 all0))
      have KK := KK.trans K20q (allS (Or.inr sz_b16) (allS (Or.inr sz_t17) all0))
      have E_b16 := Eq20
      have g_t20 := gb20
      have sz_t20 : h0.size ≤ t20 := mb20
      have XX_b16 := Xq20
      show Go _ _ _ _ _ _ _  T20 (mkF m 37 #[.val (.long x1), .second, .val (.int (1 : Int32))] [(.ref b16)])
      obtain ⟨T21, X21, e21, st21⟩ := getS2 X20 hx hZ hown (host := "") (Or.inl (hwi hw 91 rfl)) Via.refl rfl (S_un.ext O.2) (g := (mkF m 37 #[.val (.long x1), .second, .val (.int (1 : Int32))] [(.ref b16)])) rfl (hb hby d1_37)
      refine Go.st st21 ?_
      show Go _ _ _ _ _ _ _  T21 (mkF m 40 #[.val (.long x1), .second, .val (.int (1 : Int32))] [(.ref un), (.ref b16)])
      refine Go.st (fun tT kT => XS.iloadN X21.here hx rfl (hb hby d1_40) rfl  kT) ?_
      show Go _ _ _ _ _ _ _  T21 (mkF m 41 #[.val (.long x1), .second, .val (.int (1 : Int32))] [(.int (1 : Int32)), (.ref un), (.ref b16)])
      obtain ⟨cl22, Ar22, q22, S22, M22, Hh22, G22⟩ := id (A_un.ext O.2)
      refine Go.st (X21.aaload hx (j := (1 : Int32)) (v := (.ref s1)) (by rw [e21]; exact Ar22.1) (State.isArrayOf_alike hZ.alike Ar22.2.1) rfl Ar22.2.2 (inb_of S22 ⟨by decide, by decide⟩) (Hh22.at (inb_of S22 ⟨by decide, by decide⟩) rfl) (g := (mkF m 41 #[.val (.long x1), .second, .val (.int (1 : Int32))] [(.int (1 : Int32)), (.ref un), (.ref b16)])) rfl rfl (hb hby d1_41)) ?_
      show Go _ _ _ _ _ _ _  T21 (mkF m 42 #[.val (.long x1), .second, .val (.int (1 : Int32))] [(.ref s1), (.ref b16)])
      obtain ⟨cq23, kq23, q23a, q23b, q23c⟩ := isOf hZ e21 E_b16
      obtain ⟨_, _, ⟨T23, L23, k23, n23⟩, -, X23, ⟨Lc23, hQ23, l23, y23, z23⟩, st23⟩ := X21.virtualBack hx (y := (⟨"java/lang/StringBuilder", "append", "(Ljava/lang/String;)Ljava/lang/StringBuilder;"⟩ : MethodName)) (z := (⟨"java/lang/StringBuilder", "append", "(Ljava/lang/String;)Ljava/lang/StringBuilder;"⟩ : MethodName)) hown (mvT hZ (hwi hw 93 rfl)) (mvT hZ (hwi hw 94 rfl)) (notFace_of_selects (args := #[]) (mvT hZ (hwi hw 96 rfl))) (mvT hZ (hwi hw 96 rfl)) (mvT hZ (hwi hw 95 rfl)) (by decide) (backOf (W := 0) (rmSw l Z a0 hw [] b16 s1 zc t20 kt20 (0 + own_k (x1 / (3600000 : Int64))) cp20 ([] ++ ((own_dl (x1 / (3600000 : Int64))).map Value.int)) v1 kv1 1 [(.int (104 : Int32))] h0.size T20.heap n0 O S_COMPACT hcs E_b16 Cq20 Vq20 Nq20 Aq20 (own_lapp rfl (own_dlm (x1 / (3600000 : Int64)))) ka20 (by omega) g_b16 g_t20 (E_s1.ext O.2) (C_s1.ext O.2) (V_s1.ext O.2) (A_v1.ext O.2) rfl (by decide) (O.ne A_v1.lt g_t20) sz_t20 KK.1 kb20 kc20 XX_b16 (by omega)) hZ (hwi hw 97 rfl) (hwi hw 40 rfl) (by decide) (by decide)) q23a q23c (g := (mkF m 42 #[.val (.long x1), .second, .val (.int (1 : Int32))] [(.ref s1), (.ref b16)])) rfl (by rw [hml]; rfl) (Steps.refl _) (argsL := [(.ref s1)]) (rest := []) (lenOf pd__Ljava_lang_String__Ljava_lang_StringBuilder_ rfl) rfl (by show 2 * 0 + _ ≤ _; exact Nat.le_of_eq rfl) (hb hby d1_42) (fun _ _ => ⟨rfl, e21, (by decide : 3 + 1 ≤ _), (by decide : 84 + 64 ≤ _)⟩)
      dsimp only [Pt.U, Pt.locs, Pt.cells, Pt.slots] at X23 l23 y23 z23 st23 hQ23
      rw [l23, y23, z23] at X23
      have X23 : Stand p l e _ _ m _ below meth c T23 _ 4 148 := X23
      obtain ⟨rfl, N23q, K23q, Eq23, Cq23, Nq23, t23, kt23, cp23, gb23, mb23, Vq23, Aq23, ka23, kb23, kc23, Xq23⟩ := hQ23
      have N23 := Fr.app N20 N23q
      refine Go.tr st23 ?_
      have E_b16 := E_b16.keep K23q
      have XX_b16 := XX_b16.imp (fun q => q.keep K23q) id
      have O := O.keep K23q (allS g_b16 (allS g_t20 all0))
      have KK := KK.trans K23q (allS (Or.inr sz_b16) (allS (Or.inr sz_t20) all0))
      have E_b16 := Eq23
      have g_t23 := gb23
      have sz_t23 : h0.size ≤ t23 := mb23
      have XX_b16 := Xq23
      show Go _ _ _ _ _ _ _  T23 (mkF m 45 #[.val (.long x1), .second, .val (.int (1 : Int32))] [(.ref b16)])
      obtain ⟨cq24, kq24, q24a, q24b, q24c⟩ := isOf hZ rfl E_b16
      obtain ⟨_, _, ⟨T24, L24, k24, n24⟩, -, X24, ⟨Lc24, hQ24, l24, y24, z24⟩, st24⟩ := X23.virtualBack hx (y := (⟨"java/lang/StringBuilder", "toString", "()Ljava/lang/String;"⟩ : MethodName)) (z := (⟨"java/lang/StringBuilder", "toString", "()Ljava/lang/String;"⟩ : MethodName)) hown (mvT hZ (hwi hw 135 rfl)) (mvT hZ (hwi hw 136 rfl)) (notFace_of_selects (args := #[]) (mvT hZ (hwi hw 138 rfl))) (mvT hZ (hwi hw 138 rfl)) (mvT hZ (hwi hw 137 rfl)) (by decide) (backOf (W := 0) (rmTSw l Z a0 hw [] b16 zc t23 kt23 ((0 + own_k (x1 / (3600000 : Int64))) + 1) cp23 (([] ++ ((own_dl (x1 / (3600000 : Int64))).map Value.int)) ++ [(.int (104 : Int32))]) T23.heap n0 O S_COMPACT hcs E_b16 Cq23 Vq23 Nq23 Aq23 (own_lapp (own_lapp rfl (own_dlm (x1 / (3600000 : Int64)))) rfl) ka23 (by omega) (by omega) XX_b16) hZ (hwi hw 139 rfl) (hwi hw 40 rfl) (by decide) (by decide)) q24a q24c (g := (mkF m 45 #[.val (.long x1), .second, .val (.int (1 : Int32))] [(.ref b16)])) rfl (by rw [hml]; rfl) (Steps.refl _) (argsL := []) (rest := []) (lenOf pd___Ljava_lang_String_ rfl) rfl (by show 2 * 0 + _ ≤ _; exact Nat.le_of_eq rfl) (hb hby d1_45) (fun _ _ => ⟨rfl, rfl, (by decide : 4 + 2 ≤ _), (by decide : 148 + 68 ≤ _)⟩)
      dsimp only [Pt.U, Pt.locs, Pt.cells, Pt.slots] at X24 l24 y24 z24 st24 hQ24
      rw [l24, y24, z24] at X24
      have X24 : Stand p l e _ _ m _ below meth c T24 _ 6 216 := X24
      obtain ⟨y24, t24, kt24, rfl, N24q, E24q, ly24, lt24, E_y24, C_y24, V_y24, A_t24⟩ := hQ24
      have N24 := Fr.app N23 N24q
      refine Go.tr st24 ?_
      have g_y24 : n0 ≤ y24 := Nat.le_trans (own_le O) ly24
      have sz_y24 : h0.size ≤ y24 := Nat.le_trans KK.1 ly24
      have ne_b16_y24 : b16 ≠ y24 := Nat.ne_of_lt (Nat.lt_of_lt_of_le E_b16.lt ly24)
      have ne_t23_y24 : t23 ≠ y24 := Nat.ne_of_lt (Nat.lt_of_lt_of_le Aq23.lt ly24)
      have g_t24 : n0 ≤ t24 := Nat.le_trans (own_le O) lt24
      have sz_t24 : h0.size ≤ t24 := Nat.le_trans KK.1 lt24
      have ne_b16_t24 : b16 ≠ t24 := Nat.ne_of_lt (Nat.lt_of_lt_of_le E_b16.lt lt24)
      have ne_t23_t24 : t23 ≠ t24 := Nat.ne_of_lt (Nat.lt_of_lt_of_le Aq23.lt lt24)
      have E24 := E24q
      have E_b16 := E_b16.ext E24
      have XX_b16 := XX_b16.imp (fun q => q.ext E24) id
      have Cq23 := Cq23.ext E24
      have Vq23 := Vq23.ext E24
      have Nq23 := Nq23.ext E24
      have Aq23 := Aq23.ext E24
      have O := O.ext E24
      have KK := KK.ext E24
      have ee24 : ((([] ++ ((own_dl (x1 / (3600000 : Int64))).map Value.int)) ++ [(.int (104 : Int32))]) : List Value) = (own_dl (x1 / (3600000 : Int64)) ++ [(104 : Int32)]).map Value.int := by simp []
      have el24 : ((0 + own_k (x1 / (3600000 : Int64))) + 1) = (own_dl (x1 / (3600000 : Int64)) ++ [(104 : Int32)]).length := Eq.trans (Eq.symm ((own_lapp (own_lapp rfl (own_dlm (x1 / (3600000 : Int64)))) rfl) : ((([] ++ ((own_dl (x1 / (3600000 : Int64))).map Value.int)) ++ [(.int (104 : Int32))]) : List Value).length = ((0 + own_k (x1 / (3600000 : Int64))) + 1))) ((congrArg List.length ee24).trans (List.length_map _))
      rw [ee24, el24] at A_t24
      have ne_y24_t24 : y24 ≠ t24 := Exa.neArv E_y24 A_t24 (hwi hw 26 rfl)
      show Go _ _ _ _ _ _ _  T24 (mkF m 48 #[.val (.long x1), .second, .val (.int (1 : Int32))] [(.ref y24)])
      refine Go.retR X24 hlk hx Bd.returns rfl rfl rfl (hb hby d1_48) (by decide) (by decide) ?_
      show Q_rmPer Z _ _ _ _ _ _ _ _ _ _ _ _ _ _ _ _ _ _ _ _ _ _ _ _ _ _ h0 n0 _ T24.heap _
      exact ⟨_, _, _, rfl, N24, own_ext0 KK, E_y24, C_y24, V_y24, (by rw [own_per, if_neg c11_3, if_pos c11_15]; exact A_t24)⟩
    · refine Go.st (fun tT kT => XS.ifNo X13.here hx rfl (hb hby d1_11) rfl ((if0 _ _).trans (feq c11_15).1) kT) ?_
      show Go _ _ _ _ _ _ _  T13 (mkF m 14 #[.val (.long x1), .second, .val (.int (1 : Int32))] [])
      refine Go.st (fun tT kT => XS.iinc X13.here hx rfl (hb hby d1_14) rfl (l' := #[.val (.long x1), .second, .val (.int ((1 : Int32) + (1 : Int32)))]) rfl kT) ?_
      show Go _ _ _ _ _ _ _  T13 (mkF m 17 #[.val (.long x1), .second, .val (.int ((1 : Int32) + (1 : Int32)))] [])
      rw [show ((1 : Int32) + (1 : Int32)) = (2 : Int32) from by decide]
      show Go _ _ _ _ _ _ _  T13 (mkF m 17 #[.val (.long x1), .second, .val (.int (2 : Int32))] [])
      refine Go.st (fun tT kT => XS.goto X13.here hx rfl (pc0 := 17) (pc' := 2) rfl (hb hby d1_17) (by decide) (by decide) kT) ?_
      refine Go.st (fun tT kT => XS.lloadN X13.here hx rfl (hb hby d1_2) rfl  kT) ?_
      show Go _ _ _ _ _ _ _  T13 (mkF m 3 #[.val (.long x1), .second, .val (.int (2 : Int32))] [(.long x1)])
      obtain ⟨T25, X25, e25, st25⟩ := getS2 X13 hx hZ hown (host := "") (Or.inl (hwi hw 36 rfl)) Via.refl e13 (S_um.ext O.2) (g := (mkF m 3 #[.val (.long x1), .second, .val (.int (2 : Int32))] [(.long x1)])) rfl (hb hby d1_3)
      refine Go.st st25 ?_
      show Go _ _ _ _ _ _ _  T25 (mkF m 6 #[.val (.long x1), .second, .val (.int (2 : Int32))] [(.ref um), (.long x1)])
      refine Go.st (fun tT kT => XS.iloadN X25.here hx rfl (hb hby d1_6) rfl  kT) ?_
      show Go _ _ _ _ _ _ _  T25 (mkF m 7 #[.val (.long x1), .second, .val (.int (2 : Int32))] [(.int (2 : Int32)), (.ref um), (.long x1)])
      obtain ⟨cl26, Ar26, q26, S26, M26, Hh26, G26⟩ := id (A_um.ext O.2)
      refine Go.st (X25.laload hx (j := (2 : Int32)) (v := (.long (60000 : Int64))) (by rw [e25]; exact Ar26.1) (State.isArrayOf_alike hZ.alike Ar26.2.1) Ar26.2.2 (inb_of S26 ⟨by decide, by decide⟩) (Hh26.at (inb_of S26 ⟨by decide, by decide⟩) rfl) (g := (mkF m 7 #[.val (.long x1), .second, .val (.int (2 : Int32))] [(.int (2 : Int32)), (.ref um), (.long x1)])) rfl rfl (hb hby d1_7)) ?_
      show Go _ _ _ _ _ _ _  T25 (mkF m 8 #[.val (.long x1), .second, .val (.int (2 : Int32))] [(.long (60000 : Int64)), (.long x1)])
      refine Go.st (fun tT kT => XS.lrem X25.here hx rfl (hb hby d1_8) rfl (by decide) kT) ?_
      show Go _ _ _ _ _ _ _  T25 (mkF m 9 #[.val (.long x1), .second, .val (.int (2 : Int32))] [(.long (x1 - (x1 / (60000 : Int64)) * (60000 : Int64)))])
      rw [lrem_mod]
      show Go _ _ _ _ _ _ _  T25 (mkF m 9 #[.val (.long x1), .second, .val (.int (2 : Int32))] [(.long (x1 % (60000 : Int64)))])
      refine Go.st (fun tT kT => XS.lconst X25.here hx rfl (hb hby d1_9) kT) ?_
      show Go _ _ _ _ _ _ _  T25 (mkF m 10 #[.val (.long x1), .second, .val (.int (2 : Int32))] [(.long (0 : Int64)), (.long (x1 % (60000 : Int64)))])
      refine Go.st (fun tT kT => XS.lcmp X25.here hx rfl (hb hby d1_10) rfl kT) ?_
      show Go _ _ _ _ _ _ _  T25 (mkF m 11 #[.val (.long x1), .second, .val (.int (2 : Int32))] [(.int (lcmpW (x1 % (60000 : Int64)) (0 : Int64)))])
      by_cases c11_27 : (lcmpW (x1 % (60000 : Int64)) (0 : Int64)) = (0 : Int32)
      · refine Go.st (fun tT kT => XS.ifYes X25.here hx rfl (pc0 := 11) (pc' := 20) rfl (hb hby d1_11) rfl ((if0 _ _).trans (teq c11_27).1) (by decide) (by decide) kT) ?_
        show Go _ _ _ _ _ _ _  T25 (mkF m 20 #[.val (.long x1), .second, .val (.int (2 : Int32))] [])
        have k20 := own_k20 (x1 / (60000 : Int64))
        have xnn := own_dnn hM (b := (60000 : Int64)) (by decide)
        show Go _ _ _ _ _ _ _  T25 (mkF m 20 #[.val (.long x1), .second, .val (.int (2 : Int32))] [])
        obtain ⟨T28, h28, X28, e28, E28, A28, D28, U28, st28⟩ := newO X25 hx hZ hown (hwi hw 38 rfl) (hwi hw 39 rfl) (hwi hw 40 rfl) e25 (g := (mkF m 20 #[.val (.long x1), .second, .val (.int (2 : Int32))] [])) rfl (hb hby d1_20) (by decide) (by decide)
        obtain ⟨b28, g28⟩ : ∃ z, z = h0.size := ⟨_, rfl⟩
        rw [← g28] at A28 D28 U28 st28
        refine Go.st st28 ?_
        have g_b28 : n0 ≤ b28 := by rw [g28]; exact own_le O
        have sz_b28 : h0.size ≤ b28 := by rw [g28]; exact KK.1
        have O := O.ext E28
        have KK := KK.ext E28
        have E_b28 := A28
        have F_value_b28 : Fld Z h28 b28 "java/lang/AbstractStringBuilder" "value" "[B" .null := D28 (Or.inl (hwi hw 55 rfl)) (ty := (.array .byte)) (by decide)
        have F_coder_b28 : Fld Z h28 b28 "java/lang/AbstractStringBuilder" "coder" "B" (.int (0 : Int32)) := D28 (Or.inl (hwi hw 57 rfl)) (ty := .byte) (by decide)
        have F_count_b28 : Fld Z h28 b28 "java/lang/AbstractStringBuilder" "count" "I" (.int (0 : Int32)) := D28 (Or.inl (hwi hw 69 rfl)) (ty := .int) (by decide)
        show Go _ _ _ _ _ _ _  T28 (mkF m 23 #[.val (.long x1), .second, .val (.int (2 : Int32))] [(.ref b28)])
        refine Go.st (fun tT kT => XS.dup X28.here hx rfl (hb hby d1_23) rfl rfl kT) ?_
        show Go _ _ _ _ _ _ _  T28 (mkF m 24 #[.val (.long x1), .second, .val (.int (2 : Int32))] [(.ref b28), (.ref b28)])
        obtain ⟨_, _, ⟨T29, L29, k29, n29⟩, -, X29, ⟨Lc29, hQ29, l29, y29, z29⟩, st29⟩ := X28.specialBack hx (y := (⟨"java/lang/StringBuilder", "<init>", "()V"⟩ : MethodName)) rfl hown (mvT hZ (hwi hw 41 rfl)) (mvT hZ (hwi hw 42 rfl)) (mvT hZ (hwi hw 43 rfl)) (by decide) (backOf (W := 1) (rmI0 l Z a0 hw [] b28 zc h28 n0 O S_COMPACT hcs E_b28 F_value_b28 F_coder_b28 F_count_b28 g_b28) hZ (hwi hw 43 rfl) (hwi hw 40 rfl) (by decide) (by decide)) (g := (mkF m 24 #[.val (.long x1), .second, .val (.int (2 : Int32))] [(.ref b28), (.ref b28)])) rfl (by rw [hml]; rfl) (Steps.refl _) (a := b28) (argsL := []) (rest := [(.ref b28)]) (lenOf pd___V rfl) rfl (by show 2 * 0 + _ ≤ _; exact Nat.le_of_eq rfl) (hb hby d1_24) (fun _ _ => ⟨rfl, e28, (by decide : 1 + 1 ≤ _), (by decide : 4 + 16 ≤ _)⟩)
        dsimp only [Pt.U, Pt.locs, Pt.cells, Pt.slots] at X29 l29 y29 z29 st29 hQ29
        rw [l29, y29, z29] at X29
        have X29 : Stand p l e _ _ m _ below meth c T29 _ 2 20 := X29
        obtain ⟨rfl, N29q, K29q, Eq29, Cq29, Nq29, t29, kt29, lt29, Vq29, Aq29, Xq29⟩ := hQ29
        have N29 := Fr.app N0 N29q
        refine Go.tr st29 ?_
        have g_t29 : n0 ≤ t29 := Nat.le_trans (own_le O) lt29
        have sz_t29 : h0.size ≤ t29 := Nat.le_trans KK.1 lt29
        have ne_b28_t29 : b28 ≠ t29 := Nat.ne_of_lt (Nat.lt_of_lt_of_le E_b28.lt lt29)
        have E_b28 := E_b28.keep K29q
        have O := O.keep K29q (allS g_b28 all0)
        have KK := KK.trans K29q (allS (Or.inr sz_b28) all0)
        have E_b28 := Eq29
        have XX_b28 : Exa Z _ t29 "[B" ∨ 30 < 16 := Or.inl Xq29
        show Go _ _ _ _ _ _ _  T29 (mkF m 27 #[.val (.long x1), .second, .val (.int (2 : Int32))] [(.ref b28)])
        refine Go.st (fun tT kT => XS.lloadN X29.here hx rfl (hb hby d1_27) rfl  kT) ?_
        show Go _ _ _ _ _ _ _  T29 (mkF m 28 #[.val (.long x1), .second, .val (.int (2 : Int32))] [(.long x1), (.ref b28)])
        obtain ⟨T30, X30, e30, st30⟩ := getS2 X29 hx hZ hown (host := "") (Or.inl (hwi hw 36 rfl)) Via.refl rfl (S_um.ext O.2) (g := (mkF m 28 #[.val (.long x1), .second, .val (.int (2 : Int32))] [(.long x1), (.ref b28)])) rfl (hb hby d1_28)
        refine Go.st st30 ?_
        show Go _ _ _ _ _ _ _  T30 (mkF m 31 #[.val (.long x1), .second, .val (.int (2 : Int32))] [(.ref um), (.long x1), (.ref b28)])
        refine Go.st (fun tT kT => XS.iloadN X30.here hx rfl (hb hby d1_31) rfl  kT) ?_
        show Go _ _ _ _ _ _ _  T30 (mkF m 32 #[.val (.long x1), .second, .val (.int (2 : Int32))] [(.int (2 : Int32)), (.ref um), (.long x1), (.ref b28)])
        obtain ⟨cl31, Ar31, q31, S31, M31, Hh31, G31⟩ := id (A_um.ext O.2)
        refine Go.st (X30.laload hx (j := (2 : Int32)) (v := (.long (60000 : Int64))) (by rw [e30]; exact Ar31.1) (State.isArrayOf_alike hZ.alike Ar31.2.1) Ar31.2.2 (inb_of S31 ⟨by decide, by decide⟩) (Hh31.at (inb_of S31 ⟨by decide, by decide⟩) rfl) (g := (mkF m 32 #[.val (.long x1), .second, .val (.int (2 : Int32))] [(.int (2 : Int32)), (.ref um), (.long x1), (.ref b28)])) rfl rfl (hb hby d1_32)) ?_
        show Go _ _ _ _ _ _ _  T30 (mkF m 33 #[.val (.long x1), .second, .val (.int (2 : Int32))] [(.long (60000 : Int64)), (.long x1), (.ref b28)])
        refine Go.st (fun tT kT => XS.ldiv X30.here hx rfl (hb hby d1_33) rfl (by decide) kT) ?_
        show Go _ _ _ _ _ _ _  T30 (mkF m 34 #[.val (.long x1), .second, .val (.int (2 : Int32))] [(.long (x1 / (60000 : Int64))), (.ref b28)])
        obtain ⟨cq32, kq32, q32a, q32b, q32c⟩ := isOf hZ e30 E_b28
        obtain ⟨_, _, ⟨T32, L32, k32, n32⟩, -, X32, ⟨Lc32, hQ32, l32, y32, z32⟩, st32⟩ := X30.virtualBack hx (y := (⟨"java/lang/StringBuilder", "append", "(J)Ljava/lang/StringBuilder;"⟩ : MethodName)) (z := (⟨"java/lang/StringBuilder", "append", "(J)Ljava/lang/StringBuilder;"⟩ : MethodName)) hown (mvT hZ (hwi hw 58 rfl)) (mvT hZ (hwi hw 59 rfl)) (notFace_of_selects (args := #[]) (mvT hZ (hwi hw 61 rfl))) (mvT hZ (hwi hw 61 rfl)) (mvT hZ (hwi hw 60 rfl)) (by decide) (backOf (W := 0) (rmSJw l Z a0 hw [] b28 (x1 / (60000 : Int64)) zc t29 kt29 0 16 [] sd d1 d2 dC1 dC2 h0.size T29.heap n0 O S_COMPACT hcs E_b28 Cq29 Vq29 Nq29 Aq29 rfl (by decide) (by omega) g_b28 g_t29 xnn dT1 dT2 dO1 dO2 sz_t29 KK.1 (by decide) (by decide) XX_b28 (by omega)) hZ (hwi hw 62 rfl) (hwi hw 40 rfl) (by decide) (by decide)) q32a q32c (g := (mkF m 34 #[.val (.long x1), .second, .val (.int (2 : Int32))] [(.long (x1 / (60000 : Int64))), (.ref b28)])) rfl (by rw [hml]; rfl) (Steps.refl _) (argsL := [(.long (x1 / (60000 : Int64)))]) (rest := []) (lenOf pd__J_Ljava_lang_StringBuilder_ rfl) rfl (by show 2 * 0 + _ ≤ _; exact Nat.le_of_eq rfl) (hb hby d1_34) (fun _ _ => ⟨rfl, e30, (by decide : 2 + 1 ≤ _), (by decide : 20 + 64 ≤ _)⟩)
        dsimp only [Pt.U, Pt.locs, Pt.cells, Pt.slots] at X32 l32 y32 z32 st32 hQ32
        rw [l32, y32, z32] at X32
        have X32 : Stand p l e _ _ m _ below meth c T32 _ 3 84 := X32
        obtain ⟨rfl, N32q, K32q, Eq32, Cq32, Nq32, t32, kt32, cp32, gb32, mb32, Vq32, Aq32, ka32, kb32, kc32, Xq32⟩ := hQ32
        have N32 := Fr.app N29 N32q
        refine Go.tr st32 ?_
        have E_b28 := E_b28.keep K32q
        have XX_b28 := XX_b28.imp (fun q => q.keep K32q) id
        have O := O.keep K32q (allS g_b28 (allS g_t29 all0))
        have KK := KK.trans K32q (allS (Or.inr sz_b28) (allS (Or.inr sz_t29) all0))
        have E_b28 := Eq32
        have g_t32 := gb32
        have sz_t32 : h0.size ≤ t32 := mb32
        have XX_b28 := Xq32
        show Go _ _ _ _ _ _ _  T32 (mkF m 37 #[.val (.long x1), .second, .val (.int (2 : Int32))] [(.ref b28)])
        obtain ⟨T33, X33, e33, st33⟩ := getS2 X32 hx hZ hown (host := "") (Or.inl (hwi hw 91 rfl)) Via.refl rfl (S_un.ext O.2) (g := (mkF m 37 #[.val (.long x1), .second, .val (.int (2 : Int32))] [(.ref b28)])) rfl (hb hby d1_37)
        refine Go.st st33 ?_
        show Go _ _ _ _ _ _ _  T33 (mkF m 40 #[.val (.long x1), .second, .val (.int (2 : Int32))] [(.ref un), (.ref b28)])
        refine Go.st (fun tT kT => XS.iloadN X33.here hx rfl (hb hby d1_40) rfl  kT) ?_
        show Go _ _ _ _ _ _ _  T33 (mkF m 41 #[.val (.long x1), .second, .val (.int (2 : Int32))] [(.int (2 : Int32)), (.ref un), (.ref b28)])
        obtain ⟨cl34, Ar34, q34, S34, M34, Hh34, G34⟩ := id (A_un.ext O.2)
        refine Go.st (X33.aaload hx (j := (2 : Int32)) (v := (.ref s2)) (by rw [e33]; exact Ar34.1) (State.isArrayOf_alike hZ.alike Ar34.2.1) rfl Ar34.2.2 (inb_of S34 ⟨by decide, by decide⟩) (Hh34.at (inb_of S34 ⟨by decide, by decide⟩) rfl) (g := (mkF m 41 #[.val (.long x1), .second, .val (.int (2 : Int32))] [(.int (2 : Int32)), (.ref un), (.ref b28)])) rfl rfl (hb hby d1_41)) ?_
        show Go _ _ _ _ _ _ _  T33 (mkF m 42 #[.val (.long x1), .second, .val (.int (2 : Int32))] [(.ref s2), (.ref b28)])
        obtain ⟨cq35, kq35, q35a, q35b, q35c⟩ := isOf hZ e33 E_b28
        obtain ⟨_, _, ⟨T35, L35, k35, n35⟩, -, X35, ⟨Lc35, hQ35, l35, y35, z35⟩, st35⟩ := X33.virtualBack hx (y := (⟨"java/lang/StringBuilder", "append", "(Ljava/lang/String;)Ljava/lang/StringBuilder;"⟩ : MethodName)) (z := (⟨"java/lang/StringBuilder", "append", "(Ljava/lang/String;)Ljava/lang/StringBuilder;"⟩ : MethodName)) hown (mvT hZ (hwi hw 93 rfl)) (mvT hZ (hwi hw 94 rfl)) (notFace_of_selects (args := #[]) (mvT hZ (hwi hw 96 rfl))) (mvT hZ (hwi hw 96 rfl)) (mvT hZ (hwi hw 95 rfl)) (by decide) (backOf (W := 0) (rmSw l Z a0 hw [] b28 s2 zc t32 kt32 (0 + own_k (x1 / (60000 : Int64))) cp32 ([] ++ ((own_dl (x1 / (60000 : Int64))).map Value.int)) v2 kv2 1 [(.int (109 : Int32))] h0.size T32.heap n0 O S_COMPACT hcs E_b28 Cq32 Vq32 Nq32 Aq32 (own_lapp rfl (own_dlm (x1 / (60000 : Int64)))) ka32 (by omega) g_b28 g_t32 (E_s2.ext O.2) (C_s2.ext O.2) (V_s2.ext O.2) (A_v2.ext O.2) rfl (by decide) (O.ne A_v2.lt g_t32) sz_t32 KK.1 kb32 kc32 XX_b28 (by omega)) hZ (hwi hw 97 rfl) (hwi hw 40 rfl) (by decide) (by decide)) q35a q35c (g := (mkF m 42 #[.val (.long x1), .second, .val (.int (2 : Int32))] [(.ref s2), (.ref b28)])) rfl (by rw [hml]; rfl) (Steps.refl _) (argsL := [(.ref s2)]) (rest := []) (lenOf pd__Ljava_lang_String__Ljava_lang_StringBuilder_ rfl) rfl (by show 2 * 0 + _ ≤ _; exact Nat.le_of_eq rfl) (hb hby d1_42) (fun _ _ => ⟨rfl, e33, (by decide : 3 + 1 ≤ _), (by decide : 84 + 64 ≤ _)⟩)
        dsimp only [Pt.U, Pt.locs, Pt.cells, Pt.slots] at X35 l35 y35 z35 st35 hQ35
        rw [l35, y35, z35] at X35
        have X35 : Stand p l e _ _ m _ below meth c T35 _ 4 148 := X35
        obtain ⟨rfl, N35q, K35q, Eq35, Cq35, Nq35, t35, kt35, cp35, gb35, mb35, Vq35, Aq35, ka35, kb35, kc35, Xq35⟩ := hQ35
        have N35 := Fr.app N32 N35q
        refine Go.tr st35 ?_
        have E_b28 := E_b28.keep K35q
        have XX_b28 := XX_b28.imp (fun q => q.keep K35q) id
        have O := O.keep K35q (allS g_b28 (allS g_t32 all0))
        have KK := KK.trans K35q (allS (Or.inr sz_b28) (allS (Or.inr sz_t32) all0))
        have E_b28 := Eq35
        have g_t35 := gb35
        have sz_t35 : h0.size ≤ t35 := mb35
        have XX_b28 := Xq35
        show Go _ _ _ _ _ _ _  T35 (mkF m 45 #[.val (.long x1), .second, .val (.int (2 : Int32))] [(.ref b28)])
        obtain ⟨cq36, kq36, q36a, q36b, q36c⟩ := isOf hZ rfl E_b28
        obtain ⟨_, _, ⟨T36, L36, k36, n36⟩, -, X36, ⟨Lc36, hQ36, l36, y36, z36⟩, st36⟩ := X35.virtualBack hx (y := (⟨"java/lang/StringBuilder", "toString", "()Ljava/lang/String;"⟩ : MethodName)) (z := (⟨"java/lang/StringBuilder", "toString", "()Ljava/lang/String;"⟩ : MethodName)) hown (mvT hZ (hwi hw 135 rfl)) (mvT hZ (hwi hw 136 rfl)) (notFace_of_selects (args := #[]) (mvT hZ (hwi hw 138 rfl))) (mvT hZ (hwi hw 138 rfl)) (mvT hZ (hwi hw 137 rfl)) (by decide) (backOf (W := 0) (rmTSw l Z a0 hw [] b28 zc t35 kt35 ((0 + own_k (x1 / (60000 : Int64))) + 1) cp35 (([] ++ ((own_dl (x1 / (60000 : Int64))).map Value.int)) ++ [(.int (109 : Int32))]) T35.heap n0 O S_COMPACT hcs E_b28 Cq35 Vq35 Nq35 Aq35 (own_lapp (own_lapp rfl (own_dlm (x1 / (60000 : Int64)))) rfl) ka35 (by omega) (by omega) XX_b28) hZ (hwi hw 139 rfl) (hwi hw 40 rfl) (by decide) (by decide)) q36a q36c (g := (mkF m 45 #[.val (.long x1), .second, .val (.int (2 : Int32))] [(.ref b28)])) rfl (by rw [hml]; rfl) (Steps.refl _) (argsL := []) (rest := []) (lenOf pd___Ljava_lang_String_ rfl) rfl (by show 2 * 0 + _ ≤ _; exact Nat.le_of_eq rfl) (hb hby d1_45) (fun _ _ => ⟨rfl, rfl, (by decide : 4 + 2 ≤ _), (by decide : 148 + 68 ≤ _)⟩)
        dsimp only [Pt.U, Pt.locs, Pt.cells, Pt.slots] at X36 l36 y36 z36 st36 hQ36
        rw [l36, y36, z36] at X36
        have X36 : Stand p l e _ _ m _ below meth c T36 _ 6 216 := X36
        obtain ⟨y36, t36, kt36, rfl, N36q, E36q, ly36, lt36, E_y36, C_y36, V_y36, A_t36⟩ := hQ36
        have N36 := Fr.app N35 N36q
        refine Go.tr st36 ?_
        have g_y36 : n0 ≤ y36 := Nat.le_trans (own_le O) ly36
        have sz_y36 : h0.size ≤ y36 := Nat.le_trans KK.1 ly36
        have ne_b28_y36 : b28 ≠ y36 := Nat.ne_of_lt (Nat.lt_of_lt_of_le E_b28.lt ly36)
        have ne_t35_y36 : t35 ≠ y36 := Nat.ne_of_lt (Nat.lt_of_lt_of_le Aq35.lt ly36)
        have g_t36 : n0 ≤ t36 := Nat.le_trans (own_le O) lt36
        have sz_t36 : h0.size ≤ t36 := Nat.le_trans KK.1 lt36
        have ne_b28_t36 : b28 ≠ t36 := Nat.ne_of_lt (Nat.lt_of_lt_of_le E_b28.lt lt36)
        have ne_t35_t36 : t35 ≠ t36 := Nat.ne_of_lt (Nat.lt_of_lt_of_le Aq35.lt lt36)
        have E36 := E36q
        have E_b28 := E_b28.ext E36
        have XX_b28 := XX_b28.imp (fun q => q.ext E36) id
        have Cq35 := Cq35.ext E36
        have Vq35 := Vq35.ext E36
        have Nq35 := Nq35.ext E36
        have Aq35 := Aq35.ext E36
        have O := O.ext E36
        have KK := KK.ext E36
        have ee36 : ((([] ++ ((own_dl (x1 / (60000 : Int64))).map Value.int)) ++ [(.int (109 : Int32))]) : List Value) = (own_dl (x1 / (60000 : Int64)) ++ [(109 : Int32)]).map Value.int := by simp []
        have el36 : ((0 + own_k (x1 / (60000 : Int64))) + 1) = (own_dl (x1 / (60000 : Int64)) ++ [(109 : Int32)]).length := Eq.trans (Eq.symm ((own_lapp (own_lapp rfl (own_dlm (x1 / (60000 : Int64)))) rfl) : ((([] ++ ((own_dl (x1 / (60000 : Int64))).map Value.int)) ++ [(.int (109 : Int32))]) : List Value).length = ((0 + own_k (x1 / (60000 : Int64))) + 1))) ((congrArg List.length ee36).trans (List.length_map _))
        rw [ee36, el36] at A_t36
        have ne_y36_t36 : y36 ≠ t36 := Exa.neArv E_y36 A_t36 (hwi hw 26 rfl)
        show Go _ _ _ _ _ _ _  T36 (mkF m 48 #[.val (.long x1), .second, .val (.int (2 : Int32))] [(.ref y36)])
        refine Go.retR X36 hlk hx Bd.returns rfl rfl rfl (hb hby d1_48) (by decide) (by decide) ?_
        show Q_rmPer Z _ _ _ _ _ _ _ _ _ _ _ _ _ _ _ _ _ _ _ _ _ _ _ _ _ _ h0 n0 _ T36.heap _
        exact ⟨_, _, _, rfl, N36, own_ext0 KK, E_y36, C_y36, V_y36, (by rw [own_per, if_neg c11_3, if_neg c11_15, if_pos c11_27]; exact A_t36)⟩
      · refine Go.st (fun tT kT => XS.ifNo X25.here hx rfl (hb hby d1_11) rfl ((if0 _ _).trans (feq c11_27).1) kT) ?_
        show Go _ _ _ _ _ _ _  T25 (mkF m 14 #[.val (.long x1), .second, .val (.int (2 : Int32))] [])
        refine Go.st (fun tT kT => XS.iinc X25.here hx rfl (hb hby d1_14) rfl (l' := #[.val (.long x1), .second, .val (.int ((2 : Int32) + (1 : Int32)))]) rfl kT) ?_
        show Go _ _ _ _ _ _ _  T25 (mkF m 17 #[.val (.long x1), .second, .val (.int ((2 : Int32) + (1 : Int32)))] [])
        rw [show ((2 : Int32) + (1 : Int32)) = (3 : Int32) from by decide]
        show Go _ _ _ _ _ _ _  T25 (mkF m 17 #[.val (.long x1), .second, .val (.int (3 : Int32))] [])
        refine Go.st (fun tT kT => XS.goto X25.here hx rfl (pc0 := 17) (pc' := 2) rfl (hb hby d1_17) (by decide) (by decide) kT) ?_
        refine Go.st (fun tT kT => XS.lloadN X25.here hx rfl (hb hby d1_2) rfl  kT) ?_
        show Go _ _ _ _ _ _ _  T25 (mkF m 3 #[.val (.long x1), .second, .val (.int (3 : Int32))] [(.long x1)])
        obtain ⟨T37, X37, e37, st37⟩ := getS2 X25 hx hZ hown (host := "") (Or.inl (hwi hw 36 rfl)) Via.refl e25 (S_um.ext O.2) (g := (mkF m 3 #[.val (.long x1), .second, .val (.int (3 : Int32))] [(.long x1)])) rfl (hb hby d1_3)
        refine Go.st st37 ?_
        show Go _ _ _ _ _ _ _  T37 (mkF m 6 #[.val (.long x1), .second, .val (.int (3 : Int32))] [(.ref um), (.long x1)])
        refine Go.st (fun tT kT => XS.iloadN X37.here hx rfl (hb hby d1_6) rfl  kT) ?_
        show Go _ _ _ _ _ _ _  T37 (mkF m 7 #[.val (.long x1), .second, .val (.int (3 : Int32))] [(.int (3 : Int32)), (.ref um), (.long x1)])
        obtain ⟨cl38, Ar38, q38, S38, M38, Hh38, G38⟩ := id (A_um.ext O.2)
        refine Go.st (X37.laload hx (j := (3 : Int32)) (v := (.long (1000 : Int64))) (by rw [e37]; exact Ar38.1) (State.isArrayOf_alike hZ.alike Ar38.2.1) Ar38.2.2 (inb_of S38 ⟨by decide, by decide⟩) (Hh38.at (inb_of S38 ⟨by decide, by decide⟩) rfl) (g := (mkF m 7 #[.val (.long x1), .second, .val (.int (3 : Int32))] [(.int (3 : Int32)), (.ref um), (.long x1)])) rfl rfl (hb hby d1_7)) ?_
        show Go _ _ _ _ _ _ _  T37 (mkF m 8 #[.val (.long x1), .second, .val (.int (3 : Int32))] [(.long (1000 : Int64)), (.long x1)])
        refine Go.st (fun tT kT => XS.lrem X37.here hx rfl (hb hby d1_8) rfl (by decide) kT) ?_
        show Go _ _ _ _ _ _ _  T37 (mkF m 9 #[.val (.long x1), .second, .val (.int (3 : Int32))] [(.long (x1 - (x1 / (1000 : Int64)) * (1000 : Int64)))])
        rw [lrem_mod]
        show Go _ _ _ _ _ _ _  T37 (mkF m 9 #[.val (.long x1), .second, .val (.int (3 : Int32))] [(.long (x1 % (1000 : Int64)))])
        refine Go.st (fun tT kT => XS.lconst X37.here hx rfl (hb hby d1_9) kT) ?_
        show Go _ _ _ _ _ _ _  T37 (mkF m 10 #[.val (.long x1), .second, .val (.int (3 : Int32))] [(.long (0 : Int64)), (.long (x1 % (1000 : Int64)))])
        refine Go.st (fun tT kT => XS.lcmp X37.here hx rfl (hb hby d1_10) rfl kT) ?_
        show Go _ _ _ _ _ _ _  T37 (mkF m 11 #[.val (.long x1), .second, .val (.int (3 : Int32))] [(.int (lcmpW (x1 % (1000 : Int64)) (0 : Int64)))])
        by_cases c11_39 : (lcmpW (x1 % (1000 : Int64)) (0 : Int64)) = (0 : Int32)
        · refine Go.st (fun tT kT => XS.ifYes X37.here hx rfl (pc0 := 11) (pc' := 20) rfl (hb hby d1_11) rfl ((if0 _ _).trans (teq c11_39).1) (by decide) (by decide) kT) ?_
          show Go _ _ _ _ _ _ _  T37 (mkF m 20 #[.val (.long x1), .second, .val (.int (3 : Int32))] [])
          have k20 := own_k20 (x1 / (1000 : Int64))
          have xnn := own_dnn hM (b := (1000 : Int64)) (by decide)
          show Go _ _ _ _ _ _ _  T37 (mkF m 20 #[.val (.long x1), .second, .val (.int (3 : Int32))] [])
          obtain ⟨T40, h40, X40, e40, E40, A40, D40, U40, st40⟩ := newO X37 hx hZ hown (hwi hw 38 rfl) (hwi hw 39 rfl) (hwi hw 40 rfl) e37 (g := (mkF m 20 #[.val (.long x1), .second, .val (.int (3 : Int32))] [])) rfl (hb hby d1_20) (by decide) (by decide)
          obtain ⟨b40, g40⟩ : ∃ z, z = h0.size := ⟨_, rfl⟩
          rw [← g40] at A40 D40 U40 st40
          refine Go.st st40 ?_
          have g_b40 : n0 ≤ b40 := by rw [g40]; exact own_le O
          have sz_b40 : h0.size ≤ b40 := by rw [g40]; exact KK.1
          have O := O.ext E40
          have KK := KK.ext E40
          have E_b40 := A40
          have F_value_b40 : Fld Z h40 b40 "java/lang/AbstractStringBuilder" "value" "[B" .null := D40 (Or.inl (hwi hw 55 rfl)) (ty := (.array .byte)) (by decide)
          have F_coder_b40 : Fld Z h40 b40 "java/lang/AbstractStringBuilder" "coder" "B" (.int (0 : Int32)) := D40 (Or.inl (hwi hw 57 rfl)) (ty := .byte) (by decide)
          have F_count_b40 : Fld Z h40 b40 "java/lang/AbstractStringBuilder" "count" "I" (.int (0 : Int32)) := D40 (Or.inl (hwi hw 69 rfl)) (ty := .int) (by decide)
          show Go _ _ _ _ _ _ _  T40 (mkF m 23 #[.val (.long x1), .second, .val (.int (3 : Int32))] [(.ref b40)])
          refine Go.st (fun tT kT => XS.dup X40.here hx rfl (hb hby d1_23) rfl rfl kT) ?_
          show Go _ _ _ _ _ _ _  T40 (mkF m 24 #[.val (.long x1), .second, .val (.int (3 : Int32))] [(.ref b40), (.ref b40)])
          obtain ⟨_, _, ⟨T41, L41, k41, n41⟩, -, X41, ⟨Lc41, hQ41, l41, y41, z41⟩, st41⟩ := X40.specialBack hx (y := (⟨"java/lang/StringBuilder", "<init>", "()V"⟩ : MethodName)) rfl hown (mvT hZ (hwi hw 41 rfl)) (mvT hZ (hwi hw 42 rfl)) (mvT hZ (hwi hw 43 rfl)) (by decide) (backOf (W := 1) (rmI0 l Z a0 hw [] b40 zc h40 n0 O S_COMPACT hcs E_b40 F_value_b40 F_coder_b40 F_count_b40 g_b40) hZ (hwi hw 43 rfl) (hwi hw 40 rfl) (by decide) (by decide)) (g := (mkF m 24 #[.val (.long x1), .second, .val (.int (3 : Int32))] [(.ref b40), (.ref b40)])) rfl (by rw [hml]; rfl) (Steps.refl _) (a := b40) (argsL := []) (rest := [(.ref b40)]) (lenOf pd___V rfl) rfl (by show 2 * 0 + _ ≤ _; exact Nat.le_of_eq rfl) (hb hby d1_24) (fun _ _ => ⟨rfl, e40, (by decide : 1 + 1 ≤ _), (by decide : 4 + 16 ≤ _)⟩)
          dsimp only [Pt.U, Pt.locs, Pt.cells, Pt.slots] at X41 l41 y41 z41 st41 hQ41
          rw [l41, y41, z41] at X41
          have X41 : Stand p l e _ _ m _ below meth c T41 _ 2 20 := X41
          obtain ⟨rfl, N41q, K41q, Eq41, Cq41, Nq41, t41, kt41, lt41, Vq41, Aq41, Xq41⟩ := hQ41
          have N41 := Fr.app N0 N41q
          refine Go.tr st41 ?_
          have g_t41 : n0 ≤ t41 := Nat.le_trans (own_le O) lt41
          have sz_t41 : h0.size ≤ t41 := Nat.le_trans KK.1 lt41
          have ne_b40_t41 : b40 ≠ t41 := Nat.ne_of_lt (Nat.lt_of_lt_of_le E_b40.lt lt41)
          have E_b40 := E_b40.keep K41q
          have O := O.keep K41q (allS g_b40 all0)
          have KK := KK.trans K41q (allS (Or.inr sz_b40) all0)
          have E_b40 := Eq41
          have XX_b40 : Exa Z _ t41 "[B" ∨ 30 < 16 := Or.inl Xq41
          show Go _ _ _ _ _ _ _  T41 (mkF m 27 #[.val (.long x1), .second, .val (.int (3 : Int32))] [(.ref b40)])
          refine Go.st (fun tT kT => XS.lloadN X41.here hx rfl (hb hby d1_27) rfl  kT) ?_
          show Go _ _ _ _ _ _ _  T41 (mkF m 28 #[.val (.long x1), .second, .val (.int (3 : Int32))] [(.long x1), (.ref b40)])
          obtain ⟨T42, X42, e42, st42⟩ := getS2 X41 hx hZ hown (host := "") (Or.inl (hwi hw 36 rfl)) Via.refl rfl (S_um.ext O.2) (g := (mkF m 28 #[.val (.long x1), .second, .val (.int (3 : Int32))] [(.long x1), (.ref b40)])) rfl (hb hby d1_28)
          refine Go.st st42 ?_
          show Go _ _ _ _ _ _ _  T42 (mkF m 31 #[.val (.long x1), .second, .val (.int (3 : Int32))] [(.ref um), (.long x1), (.ref b40)])
          refine Go.st (fun tT kT => XS.iloadN X42.here hx rfl (hb hby d1_31) rfl  kT) ?_
          show Go _ _ _ _ _ _ _  T42 (mkF m 32 #[.val (.long x1), .second, .val (.int (3 : Int32))] [(.int (3 : Int32)), (.ref um), (.long x1), (.ref b40)])
          obtain ⟨cl43, Ar43, q43, S43, M43, Hh43, G43⟩ := id (A_um.ext O.2)
          refine Go.st (X42.laload hx (j := (3 : Int32)) (v := (.long (1000 : Int64))) (by rw [e42]; exact Ar43.1) (State.isArrayOf_alike hZ.alike Ar43.2.1) Ar43.2.2 (inb_of S43 ⟨by decide, by decide⟩) (Hh43.at (inb_of S43 ⟨by decide, by decide⟩) rfl) (g := (mkF m 32 #[.val (.long x1), .second, .val (.int (3 : Int32))] [(.int (3 : Int32)), (.ref um), (.long x1), (.ref b40)])) rfl rfl (hb hby d1_32)) ?_
          show Go _ _ _ _ _ _ _  T42 (mkF m 33 #[.val (.long x1), .second, .val (.int (3 : Int32))] [(.long (1000 : Int64)), (.long x1), (.ref b40)])
          refine Go.st (fun tT kT => XS.ldiv X42.here hx rfl (hb hby d1_33) rfl (by decide) kT) ?_
          show Go _ _ _ _ _ _ _  T42 (mkF m 34 #[.val (.long x1), .second, .val (.int (3 : Int32))] [(.long (x1 / (1000 : Int64))), (.ref b40)])
          obtain ⟨cq44, kq44, q44a, q44b, q44c⟩ := isOf hZ e42 E_b40
          obtain ⟨_, _, ⟨T44, L44, k44, n44⟩, -, X44, ⟨Lc44, hQ44, l44, y44, z44⟩, st44⟩ := X42.virtualBack hx (y := (⟨"java/lang/StringBuilder", "append", "(J)Ljava/lang/StringBuilder;"⟩ : MethodName)) (z := (⟨"java/lang/StringBuilder", "append", "(J)Ljava/lang/StringBuilder;"⟩ : MethodName)) hown (mvT hZ (hwi hw 58 rfl)) (mvT hZ (hwi hw 59 rfl)) (notFace_of_selects (args := #[]) (mvT hZ (hwi hw 61 rfl))) (mvT hZ (hwi hw 61 rfl)) (mvT hZ (hwi hw 60 rfl)) (by decide) (backOf (W := 0) (rmSJw l Z a0 hw [] b40 (x1 / (1000 : Int64)) zc t41 kt41 0 16 [] sd d1 d2 dC1 dC2 h0.size T41.heap n0 O S_COMPACT hcs E_b40 Cq41 Vq41 Nq41 Aq41 rfl (by decide) (by omega) g_b40 g_t41 xnn dT1 dT2 dO1 dO2 sz_t41 KK.1 (by decide) (by decide) XX_b40 (by omega)) hZ (hwi hw 62 rfl) (hwi hw 40 rfl) (by decide) (by decide)) q44a q44c (g := (mkF m 34 #[.val (.long x1), .second, .val (.int (3 : Int32))] [(.long (x1 / (1000 : Int64))), (.ref b40)])) rfl (by rw [hml]; rfl) (Steps.refl _) (argsL := [(.long (x1 / (1000 : Int64)))]) (rest := []) (lenOf pd__J_Ljava_lang_StringBuilder_ rfl) rfl (by show 2 * 0 + _ ≤ _; exact Nat.le_of_eq rfl) (hb hby d1_34) (fun _ _ => ⟨rfl, e42, (by decide : 2 + 1 ≤ _), (by decide : 20 + 64 ≤ _)⟩)
          dsimp only [Pt.U, Pt.locs, Pt.cells, Pt.slots] at X44 l44 y44 z44 st44 hQ44
          rw [l44, y44, z44] at X44
          have X44 : Stand p l e _ _ m _ below meth c T44 _ 3 84 := X44
          obtain ⟨rfl, N44q, K44q, Eq44, Cq44, Nq44, t44, kt44, cp44, gb44, mb44, Vq44, Aq44, ka44, kb44, kc44, Xq44⟩ := hQ44
          have N44 := Fr.app N41 N44q
          refine Go.tr st44 ?_
          have E_b40 := E_b40.keep K44q
          have XX_b40 := XX_b40.imp (fun q => q.keep K44q) id
          have O := O.keep K44q (allS g_b40 (allS g_t41 all0))
          have KK := KK.trans K44q (allS (Or.inr sz_b40) (allS (Or.inr sz_t41) all0))
          have E_b40 := Eq44
          have g_t44 := gb44
          have sz_t44 : h0.size ≤ t44 := mb44
          have XX_b40 := Xq44
          show Go _ _ _ _ _ _ _  T44 (mkF m 37 #[.val (.long x1), .second, .val (.int (3 : Int32))] [(.ref b40)])
          obtain ⟨T45, X45, e45, st45⟩ := getS2 X44 hx hZ hown (host := "") (Or.inl (hwi hw 91 rfl)) Via.refl rfl (S_un.ext O.2) (g := (mkF m 37 #[.val (.long x1), .second, .val (.int (3 : Int32))] [(.ref b40)])) rfl (hb hby d1_37)
          refine Go.st st45 ?_
          show Go _ _ _ _ _ _ _  T45 (mkF m 40 #[.val (.long x1), .second, .val (.int (3 : Int32))] [(.ref un), (.ref b40)])
          refine Go.st (fun tT kT => XS.iloadN X45.here hx rfl (hb hby d1_40) rfl  kT) ?_
          show Go _ _ _ _ _ _ _  T45 (mkF m 41 #[.val (.long x1), .second, .val (.int (3 : Int32))] [(.int (3 : Int32)), (.ref un), (.ref b40)])
          obtain ⟨cl46, Ar46, q46, S46, M46, Hh46, G46⟩ := id (A_un.ext O.2)
          refine Go.st (X45.aaload hx (j := (3 : Int32)) (v := (.ref s3)) (by rw [e45]; exact Ar46.1) (State.isArrayOf_alike hZ.alike Ar46.2.1) rfl Ar46.2.2 (inb_of S46 ⟨by decide, by decide⟩) (Hh46.at (inb_of S46 ⟨by decide, by decide⟩) rfl) (g := (mkF m 41 #[.val (.long x1), .second, .val (.int (3 : Int32))] [(.int (3 : Int32)), (.ref un), (.ref b40)])) rfl rfl (hb hby d1_41)) ?_
          show Go _ _ _ _ _ _ _  T45 (mkF m 42 #[.val (.long x1), .second, .val (.int (3 : Int32))] [(.ref s3), (.ref b40)])
          obtain ⟨cq47, kq47, q47a, q47b, q47c⟩ := isOf hZ e45 E_b40
          obtain ⟨_, _, ⟨T47, L47, k47, n47⟩, -, X47, ⟨Lc47, hQ47, l47, y47, z47⟩, st47⟩ := X45.virtualBack hx (y := (⟨"java/lang/StringBuilder", "append", "(Ljava/lang/String;)Ljava/lang/StringBuilder;"⟩ : MethodName)) (z := (⟨"java/lang/StringBuilder", "append", "(Ljava/lang/String;)Ljava/lang/StringBuilder;"⟩ : MethodName)) hown (mvT hZ (hwi hw 93 rfl)) (mvT hZ (hwi hw 94 rfl)) (notFace_of_selects (args := #[]) (mvT hZ (hwi hw 96 rfl))) (mvT hZ (hwi hw 96 rfl)) (mvT hZ (hwi hw 95 rfl)) (by decide) (backOf (W := 0) (rmSw l Z a0 hw [] b40 s3 zc t44 kt44 (0 + own_k (x1 / (1000 : Int64))) cp44 ([] ++ ((own_dl (x1 / (1000 : Int64))).map Value.int)) v3 kv3 1 [(.int (115 : Int32))] h0.size T44.heap n0 O S_COMPACT hcs E_b40 Cq44 Vq44 Nq44 Aq44 (own_lapp rfl (own_dlm (x1 / (1000 : Int64)))) ka44 (by omega) g_b40 g_t44 (E_s3.ext O.2) (C_s3.ext O.2) (V_s3.ext O.2) (A_v3.ext O.2) rfl (by decide) (O.ne A_v3.lt g_t44) sz_t44 KK.1 kb44 kc44 XX_b40 (by omega)) hZ (hwi hw 97 rfl) (hwi hw 40 rfl) (by decide) (by decide)) q47a q47c (g := (mkF m 42 #[.val (.long x1), .second, .val (.int (3 : Int32))] [(.ref s3), (.ref b40)])) rfl (by rw [hml]; rfl) (Steps.refl _) (argsL := [(.ref s3)]) (rest := []) (lenOf pd__Ljava_lang_String__Ljava_lang_StringBuilder_ rfl) rfl (by show 2 * 0 + _ ≤ _; exact Nat.le_of_eq rfl) (hb hby d1_42) (fun _ _ => ⟨rfl, e45, (by decide : 3 + 1 ≤ _), (by decide : 84 + 64 ≤ _)⟩)
          dsimp only [Pt.U, Pt.locs, Pt.cells, Pt.slots] at X47 l47 y47 z47 st47 hQ47
          rw [l47, y47, z47] at X47
          have X47 : Stand p l e _ _ m _ below meth c T47 _ 4 148 := X47
          obtain ⟨rfl, N47q, K47q, Eq47, Cq47, Nq47, t47, kt47, cp47, gb47, mb47, Vq47, Aq47, ka47, kb47, kc47, Xq47⟩ := hQ47
          have N47 := Fr.app N44 N47q
          refine Go.tr st47 ?_
          have E_b40 := E_b40.keep K47q
          have XX_b40 := XX_b40.imp (fun q => q.keep K47q) id
          have O := O.keep K47q (allS g_b40 (allS g_t44 all0))
          have KK := KK.trans K47q (allS (Or.inr sz_b40) (allS (Or.inr sz_t44) all0))
          have E_b40 := Eq47
          have g_t47 := gb47
          have sz_t47 : h0.size ≤ t47 := mb47
          have XX_b40 := Xq47
          show Go _ _ _ _ _ _ _  T47 (mkF m 45 #[.val (.long x1), .second, .val (.int (3 : Int32))] [(.ref b40)])
          obtain ⟨cq48, kq48, q48a, q48b, q48c⟩ := isOf hZ rfl E_b40
          obtain ⟨_, _, ⟨T48, L48, k48, n48⟩, -, X48, ⟨Lc48, hQ48, l48, y48, z48⟩, st48⟩ := X47.virtualBack hx (y := (⟨"java/lang/StringBuilder", "toString", "()Ljava/lang/String;"⟩ : MethodName)) (z := (⟨"java/lang/StringBuilder", "toString", "()Ljava/lang/String;"⟩ : MethodName)) hown (mvT hZ (hwi hw 135 rfl)) (mvT hZ (hwi hw 136 rfl)) (notFace_of_selects (args := #[]) (mvT hZ (hwi hw 138 rfl))) (mvT hZ (hwi hw 138 rfl)) (mvT hZ (hwi hw 137 rfl)) (by decide) (backOf (W := 0) (rmTSw l Z a0 hw [] b40 zc t47 kt47 ((0 + own_k (x1 / (1000 : Int64))) + 1) cp47 (([] ++ ((own_dl (x1 / (1000 : Int64))).map Value.int)) ++ [(.int (115 : Int32))]) T47.heap n0 O S_COMPACT hcs E_b40 Cq47 Vq47 Nq47 Aq47 (own_lapp (own_lapp rfl (own_dlm (x1 / (1000 : Int64)))) rfl) ka47 (by omega) (by omega) XX_b40) hZ (hwi hw 139 rfl) (hwi hw 40 rfl) (by decide) (by decide)) q48a q48c (g := (mkF m 45 #[.val (.long x1), .second, .val (.int (3 : Int32))] [(.ref b40)])) rfl (by rw [hml]; rfl) (Steps.refl _) (argsL := []) (rest := []) (lenOf pd___Ljava_lang_String_ rfl) rfl (by show 2 * 0 + _ ≤ _; exact Nat.le_of_eq rfl) (hb hby d1_45) (fun _ _ => ⟨rfl, rfl, (by decide : 4 + 2 ≤ _), (by decide : 148 + 68 ≤ _)⟩)
          dsimp only [Pt.U, Pt.locs, Pt.cells, Pt.slots] at X48 l48 y48 z48 st48 hQ48
          rw [l48, y48, z48] at X48
          have X48 : Stand p l e _ _ m _ below meth c T48 _ 6 216 := X48
          obtain ⟨y48, t48, kt48, rfl, N48q, E48q, ly48, lt48, E_y48, C_y48, V_y48, A_t48⟩ := hQ48
          have N48 := Fr.app N47 N48q
          refine Go.tr st48 ?_
          have g_y48 : n0 ≤ y48 := Nat.le_trans (own_le O) ly48
          have sz_y48 : h0.size ≤ y48 := Nat.le_trans KK.1 ly48
          have ne_b40_y48 : b40 ≠ y48 := Nat.ne_of_lt (Nat.lt_of_lt_of_le E_b40.lt ly48)
          have ne_t47_y48 : t47 ≠ y48 := Nat.ne_of_lt (Nat.lt_of_lt_of_le Aq47.lt ly48)
          have g_t48 : n0 ≤ t48 := Nat.le_trans (own_le O) lt48
          have sz_t48 : h0.size ≤ t48 := Nat.le_trans KK.1 lt48
          have ne_b40_t48 : b40 ≠ t48 := Nat.ne_of_lt (Nat.lt_of_lt_of_le E_b40.lt lt48)
          have ne_t47_t48 : t47 ≠ t48 := Nat.ne_of_lt (Nat.lt_of_lt_of_le Aq47.lt lt48)
          have E48 := E48q
          have E_b40 := E_b40.ext E48
          have XX_b40 := XX_b40.imp (fun q => q.ext E48) id
          have Cq47 := Cq47.ext E48
          have Vq47 := Vq47.ext E48
          have Nq47 := Nq47.ext E48
          have Aq47 := Aq47.ext E48
          have O := O.ext E48
          have KK := KK.ext E48
          have ee48 : ((([] ++ ((own_dl (x1 / (1000 : Int64))).map Value.int)) ++ [(.int (115 : Int32))]) : List Value) = (own_dl (x1 / (1000 : Int64)) ++ [(115 : Int32)]).map Value.int := by simp []
          have el48 : ((0 + own_k (x1 / (1000 : Int64))) + 1) = (own_dl (x1 / (1000 : Int64)) ++ [(115 : Int32)]).length := Eq.trans (Eq.symm ((own_lapp (own_lapp rfl (own_dlm (x1 / (1000 : Int64)))) rfl) : ((([] ++ ((own_dl (x1 / (1000 : Int64))).map Value.int)) ++ [(.int (115 : Int32))]) : List Value).length = ((0 + own_k (x1 / (1000 : Int64))) + 1))) ((congrArg List.length ee48).trans (List.length_map _))
          rw [ee48, el48] at A_t48
          have ne_y48_t48 : y48 ≠ t48 := Exa.neArv E_y48 A_t48 (hwi hw 26 rfl)
          show Go _ _ _ _ _ _ _  T48 (mkF m 48 #[.val (.long x1), .second, .val (.int (3 : Int32))] [(.ref y48)])
          refine Go.retR X48 hlk hx Bd.returns rfl rfl rfl (hb hby d1_48) (by decide) (by decide) ?_
          show Q_rmPer Z _ _ _ _ _ _ _ _ _ _ _ _ _ _ _ _ _ _ _ _ _ _ _ _ _ _ h0 n0 _ T48.heap _
          exact ⟨_, _, _, rfl, N48, own_ext0 KK, E_y48, C_y48, V_y48, (by rw [own_per, if_neg c11_3, if_neg c11_15, if_neg c11_27, if_pos c11_39]; exact A_t48)⟩
        · refine Go.st (fun tT kT => XS.ifNo X37.here hx rfl (hb hby d1_11) rfl ((if0 _ _).trans (feq c11_39).1) kT) ?_
          show Go _ _ _ _ _ _ _  T37 (mkF m 14 #[.val (.long x1), .second, .val (.int (3 : Int32))] [])
          refine Go.st (fun tT kT => XS.iinc X37.here hx rfl (hb hby d1_14) rfl (l' := #[.val (.long x1), .second, .val (.int ((3 : Int32) + (1 : Int32)))]) rfl kT) ?_
          show Go _ _ _ _ _ _ _  T37 (mkF m 17 #[.val (.long x1), .second, .val (.int ((3 : Int32) + (1 : Int32)))] [])
          rw [show ((3 : Int32) + (1 : Int32)) = (4 : Int32) from by decide]
          show Go _ _ _ _ _ _ _  T37 (mkF m 17 #[.val (.long x1), .second, .val (.int (4 : Int32))] [])
          refine Go.st (fun tT kT => XS.goto X37.here hx rfl (pc0 := 17) (pc' := 2) rfl (hb hby d1_17) (by decide) (by decide) kT) ?_
          refine Go.st (fun tT kT => XS.lloadN X37.here hx rfl (hb hby d1_2) rfl  kT) ?_
          show Go _ _ _ _ _ _ _  T37 (mkF m 3 #[.val (.long x1), .second, .val (.int (4 : Int32))] [(.long x1)])
          obtain ⟨T49, X49, e49, st49⟩ := getS2 X37 hx hZ hown (host := "") (Or.inl (hwi hw 36 rfl)) Via.refl e37 (S_um.ext O.2) (g := (mkF m 3 #[.val (.long x1), .second, .val (.int (4 : Int32))] [(.long x1)])) rfl (hb hby d1_3)
          refine Go.st st49 ?_
          show Go _ _ _ _ _ _ _  T49 (mkF m 6 #[.val (.long x1), .second, .val (.int (4 : Int32))] [(.ref um), (.long x1)])
          refine Go.st (fun tT kT => XS.iloadN X49.here hx rfl (hb hby d1_6) rfl  kT) ?_
          show Go _ _ _ _ _ _ _  T49 (mkF m 7 #[.val (.long x1), .second, .val (.int (4 : Int32))] [(.int (4 : Int32)), (.ref um), (.long x1)])
          obtain ⟨cl50, Ar50, q50, S50, M50, Hh50, G50⟩ := id (A_um.ext O.2)
          refine Go.st (X49.laload hx (j := (4 : Int32)) (v := (.long (1 : Int64))) (by rw [e49]; exact Ar50.1) (State.isArrayOf_alike hZ.alike Ar50.2.1) Ar50.2.2 (inb_of S50 ⟨by decide, by decide⟩) (Hh50.at (inb_of S50 ⟨by decide, by decide⟩) rfl) (g := (mkF m 7 #[.val (.long x1), .second, .val (.int (4 : Int32))] [(.int (4 : Int32)), (.ref um), (.long x1)])) rfl rfl (hb hby d1_7)) ?_
          show Go _ _ _ _ _ _ _  T49 (mkF m 8 #[.val (.long x1), .second, .val (.int (4 : Int32))] [(.long (1 : Int64)), (.long x1)])
          refine Go.st (fun tT kT => XS.lrem X49.here hx rfl (hb hby d1_8) rfl (by decide) kT) ?_
          show Go _ _ _ _ _ _ _  T49 (mkF m 9 #[.val (.long x1), .second, .val (.int (4 : Int32))] [(.long (x1 - (x1 / (1 : Int64)) * (1 : Int64)))])
          rw [lrem_mod]
          show Go _ _ _ _ _ _ _  T49 (mkF m 9 #[.val (.long x1), .second, .val (.int (4 : Int32))] [(.long (x1 % (1 : Int64)))])
          refine Go.st (fun tT kT => XS.lconst X49.here hx rfl (hb hby d1_9) kT) ?_
          show Go _ _ _ _ _ _ _  T49 (mkF m 10 #[.val (.long x1), .second, .val (.int (4 : Int32))] [(.long (0 : Int64)), (.long (x1 % (1 : Int64)))])
          refine Go.st (fun tT kT => XS.lcmp X49.here hx rfl (hb hby d1_10) rfl kT) ?_
          show Go _ _ _ _ _ _ _  T49 (mkF m 11 #[.val (.long x1), .second, .val (.int (4 : Int32))] [(.int (lcmpW (x1 % (1 : Int64)) (0 : Int64)))])
          refine Go.st (fun tT kT => XS.ifYes X49.here hx rfl (pc0 := 11) (pc' := 20) rfl (hb hby d1_11) rfl ((if0 _ _).trans (teq (own_m1 _ : (lcmpW (x1 % (1 : Int64)) (0 : Int64)) = (0 : Int32))).1) (by decide) (by decide) kT) ?_
          show Go _ _ _ _ _ _ _  T49 (mkF m 20 #[.val (.long x1), .second, .val (.int (4 : Int32))] [])
          have k20 := own_k20 (x1 / (1 : Int64))
          have xnn := own_dnn hM (b := (1 : Int64)) (by decide)
          show Go _ _ _ _ _ _ _  T49 (mkF m 20 #[.val (.long x1), .second, .val (.int (4 : Int32))] [])
          obtain ⟨T51, h51, X51, e51, E51, A51, D51, U51, st51⟩ := newO X49 hx hZ hown (hwi hw 38 rfl) (hwi hw 39 rfl) (hwi hw 40 rfl) e49 (g := (mkF m 20 #[.val (.long x1), .second, .val (.int (4 : Int32))] [])) rfl (hb hby d1_20) (by decide) (by decide)
          obtain ⟨b51, g51⟩ : ∃ z, z = h0.size := ⟨_, rfl⟩
          rw [← g51] at A51 D51 U51 st51
          refine Go.st st51 ?_
          have g_b51 : n0 ≤ b51 := by rw [g51]; exact own_le O
          have sz_b51 : h0.size ≤ b51 := by rw [g51]; exact KK.1
          have O := O.ext E51
          have KK := KK.ext E51
          have E_b51 := A51
          have F_value_b51 : Fld Z h51 b51 "java/lang/AbstractStringBuilder" "value" "[B" .null := D51 (Or.inl (hwi hw 55 rfl)) (ty := (.array .byte)) (by decide)
          have F_coder_b51 : Fld Z h51 b51 "java/lang/AbstractStringBuilder" "coder" "B" (.int (0 : Int32)) := D51 (Or.inl (hwi hw 57 rfl)) (ty := .byte) (by decide)
          have F_count_b51 : Fld Z h51 b51 "java/lang/AbstractStringBuilder" "count" "I" (.int (0 : Int32)) := D51 (Or.inl (hwi hw 69 rfl)) (ty := .int) (by decide)
          show Go _ _ _ _ _ _ _  T51 (mkF m 23 #[.val (.long x1), .second, .val (.int (4 : Int32))] [(.ref b51)])
          refine Go.st (fun tT kT => XS.dup X51.here hx rfl (hb hby d1_23) rfl rfl kT) ?_
          show Go _ _ _ _ _ _ _  T51 (mkF m 24 #[.val (.long x1), .second, .val (.int (4 : Int32))] [(.ref b51), (.ref b51)])
          obtain ⟨_, _, ⟨T52, L52, k52, n52⟩, -, X52, ⟨Lc52, hQ52, l52, y52, z52⟩, st52⟩ := X51.specialBack hx (y := (⟨"java/lang/StringBuilder", "<init>", "()V"⟩ : MethodName)) rfl hown (mvT hZ (hwi hw 41 rfl)) (mvT hZ (hwi hw 42 rfl)) (mvT hZ (hwi hw 43 rfl)) (by decide) (backOf (W := 1) (rmI0 l Z a0 hw [] b51 zc h51 n0 O S_COMPACT hcs E_b51 F_value_b51 F_coder_b51 F_count_b51 g_b51) hZ (hwi hw 43 rfl) (hwi hw 40 rfl) (by decide) (by decide)) (g := (mkF m 24 #[.val (.long x1), .second, .val (.int (4 : Int32))] [(.ref b51), (.ref b51)])) rfl (by rw [hml]; rfl) (Steps.refl _) (a := b51) (argsL := []) (rest := [(.ref b51)]) (lenOf pd___V rfl) rfl (by show 2 * 0 + _ ≤ _; exact Nat.le_of_eq rfl) (hb hby d1_24) (fun _ _ => ⟨rfl, e51, (by decide : 1 + 1 ≤ _), (by decide : 4 + 16 ≤ _)⟩)
          dsimp only [Pt.U, Pt.locs, Pt.cells, Pt.slots] at X52 l52 y52 z52 st52 hQ52
          rw [l52, y52, z52] at X52
          have X52 : Stand p l e _ _ m _ below meth c T52 _ 2 20 := X52
          obtain ⟨rfl, N52q, K52q, Eq52, Cq52, Nq52, t52, kt52, lt52, Vq52, Aq52, Xq52⟩ := hQ52
          have N52 := Fr.app N0 N52q
          refine Go.tr st52 ?_
          have g_t52 : n0 ≤ t52 := Nat.le_trans (own_le O) lt52
          have sz_t52 : h0.size ≤ t52 := Nat.le_trans KK.1 lt52
          have ne_b51_t52 : b51 ≠ t52 := Nat.ne_of_lt (Nat.lt_of_lt_of_le E_b51.lt lt52)
          have E_b51 := E_b51.keep K52q
          have O := O.keep K52q (allS g_b51 all0)
          have KK := KK.trans K52q (allS (Or.inr sz_b51) all0)
          have E_b51 := Eq52
          have XX_b51 : Exa Z _ t52 "[B" ∨ 30 < 16 := Or.inl Xq52
          show Go _ _ _ _ _ _ _  T52 (mkF m 27 #[.val (.long x1), .second, .val (.int (4 : Int32))] [(.ref b51)])
          refine Go.st (fun tT kT => XS.lloadN X52.here hx rfl (hb hby d1_27) rfl  kT) ?_
          show Go _ _ _ _ _ _ _  T52 (mkF m 28 #[.val (.long x1), .second, .val (.int (4 : Int32))] [(.long x1), (.ref b51)])
          obtain ⟨T53, X53, e53, st53⟩ := getS2 X52 hx hZ hown (host := "") (Or.inl (hwi hw 36 rfl)) Via.refl rfl (S_um.ext O.2) (g := (mkF m 28 #[.val (.long x1), .second, .val (.int (4 : Int32))] [(.long x1), (.ref b51)])) rfl (hb hby d1_28)
          refine Go.st st53 ?_
          show Go _ _ _ _ _ _ _  T53 (mkF m 31 #[.val (.long x1), .second, .val (.int (4 : Int32))] [(.ref um), (.long x1), (.ref b51)])
          refine Go.st (fun tT kT => XS.iloadN X53.here hx rfl (hb hby d1_31) rfl  kT) ?_
          show Go _ _ _ _ _ _ _  T53 (mkF m 32 #[.val (.long x1), .second, .val (.int (4 : Int32))] [(.int (4 : Int32)), (.ref um), (.long x1), (.ref b51)])
          obtain ⟨cl54, Ar54, q54, S54, M54, Hh54, G54⟩ := id (A_um.ext O.2)
          refine Go.st (X53.laload hx (j := (4 : Int32)) (v := (.long (1 : Int64))) (by rw [e53]; exact Ar54.1) (State.isArrayOf_alike hZ.alike Ar54.2.1) Ar54.2.2 (inb_of S54 ⟨by decide, by decide⟩) (Hh54.at (inb_of S54 ⟨by decide, by decide⟩) rfl) (g := (mkF m 32 #[.val (.long x1), .second, .val (.int (4 : Int32))] [(.int (4 : Int32)), (.ref um), (.long x1), (.ref b51)])) rfl rfl (hb hby d1_32)) ?_
          show Go _ _ _ _ _ _ _  T53 (mkF m 33 #[.val (.long x1), .second, .val (.int (4 : Int32))] [(.long (1 : Int64)), (.long x1), (.ref b51)])
          refine Go.st (fun tT kT => XS.ldiv X53.here hx rfl (hb hby d1_33) rfl (by decide) kT) ?_
          show Go _ _ _ _ _ _ _  T53 (mkF m 34 #[.val (.long x1), .second, .val (.int (4 : Int32))] [(.long (x1 / (1 : Int64))), (.ref b51)])
          obtain ⟨cq55, kq55, q55a, q55b, q55c⟩ := isOf hZ e53 E_b51
          obtain ⟨_, _, ⟨T55, L55, k55, n55⟩, -, X55, ⟨Lc55, hQ55, l55, y55, z55⟩, st55⟩ := X53.virtualBack hx (y := (⟨"java/lang/StringBuilder", "append", "(J)Ljava/lang/StringBuilder;"⟩ : MethodName)) (z := (⟨"java/lang/StringBuilder", "append", "(J)Ljava/lang/StringBuilder;"⟩ : MethodName)) hown (mvT hZ (hwi hw 58 rfl)) (mvT hZ (hwi hw 59 rfl)) (notFace_of_selects (args := #[]) (mvT hZ (hwi hw 61 rfl))) (mvT hZ (hwi hw 61 rfl)) (mvT hZ (hwi hw 60 rfl)) (by decide) (backOf (W := 0) (rmSJw l Z a0 hw [] b51 (x1 / (1 : Int64)) zc t52 kt52 0 16 [] sd d1 d2 dC1 dC2 h0.size T52.heap n0 O S_COMPACT hcs E_b51 Cq52 Vq52 Nq52 Aq52 rfl (by decide) (by omega) g_b51 g_t52 xnn dT1 dT2 dO1 dO2 sz_t52 KK.1 (by decide) (by decide) XX_b51 (by omega)) hZ (hwi hw 62 rfl) (hwi hw 40 rfl) (by decide) (by decide)) q55a q55c (g := (mkF m 34 #[.val (.long x1), .second, .val (.int (4 : Int32))] [(.long (x1 / (1 : Int64))), (.ref b51)])) rfl (by rw [hml]; rfl) (Steps.refl _) (argsL := [(.long (x1 / (1 : Int64)))]) (rest := []) (lenOf pd__J_Ljava_lang_StringBuilder_ rfl) rfl (by show 2 * 0 + _ ≤ _; exact Nat.le_of_eq rfl) (hb hby d1_34) (fun _ _ => ⟨rfl, e53, (by decide : 2 + 1 ≤ _), (by decide : 20 + 64 ≤ _)⟩)
          dsimp only [Pt.U, Pt.locs, Pt.cells, Pt.slots] at X55 l55 y55 z55 st55 hQ55
          rw [l55, y55, z55] at X55
          have X55 : Stand p l e _ _ m _ below meth c T55 _ 3 84 := X55
          obtain ⟨rfl, N55q, K55q, Eq55, Cq55, Nq55, t55, kt55, cp55, gb55, mb55, Vq55, Aq55, ka55, kb55, kc55, Xq55⟩ := hQ55
          have N55 := Fr.app N52 N55q
          refine Go.tr st55 ?_
          have E_b51 := E_b51.keep K55q
          have XX_b51 := XX_b51.imp (fun q => q.keep K55q) id
          have O := O.keep K55q (allS g_b51 (allS g_t52 all0))
          have KK := KK.trans K55q (allS (Or.inr sz_b51) (allS (Or.inr sz_t52) all0))
          have E_b51 := Eq55
          have g_t55 := gb55
          have sz_t55 : h0.size ≤ t55 := mb55
          have XX_b51 := Xq55
          show Go _ _ _ _ _ _ _  T55 (mkF m 37 #[.val (.long x1), .second, .val (.int (4 : Int32))] [(.ref b51)])
          obtain ⟨T56, X56, e56, st56⟩ := getS2 X55 hx hZ hown (host := "") (Or.inl (hwi hw 91 rfl)) Via.refl rfl (S_un.ext O.2) (g := (mkF m 37 #[.val (.long x1), .second, .val (.int (4 : Int32))] [(.ref b51)])) rfl (hb hby d1_37)
          refine Go.st st56 ?_
          show Go _ _ _ _ _ _ _  T56 (mkF m 40 #[.val (.long x1), .second, .val (.int (4 : Int32))] [(.ref un), (.ref b51)])
          refine Go.st (fun tT kT => XS.iloadN X56.here hx rfl (hb hby d1_40) rfl  kT) ?_
          show Go _ _ _ _ _ _ _  T56 (mkF m 41 #[.val (.long x1), .second, .val (.int (4 : Int32))] [(.int (4 : Int32)), (.ref un), (.ref b51)])
          obtain ⟨cl57, Ar57, q57, S57, M57, Hh57, G57⟩ := id (A_un.ext O.2)
          refine Go.st (X56.aaload hx (j := (4 : Int32)) (v := (.ref s4)) (by rw [e56]; exact Ar57.1) (State.isArrayOf_alike hZ.alike Ar57.2.1) rfl Ar57.2.2 (inb_of S57 ⟨by decide, by decide⟩) (Hh57.at (inb_of S57 ⟨by decide, by decide⟩) rfl) (g := (mkF m 41 #[.val (.long x1), .second, .val (.int (4 : Int32))] [(.int (4 : Int32)), (.ref un), (.ref b51)])) rfl rfl (hb hby d1_41)) ?_
          show Go _ _ _ _ _ _ _  T56 (mkF m 42 #[.val (.long x1), .second, .val (.int (4 : Int32))] [(.ref s4), (.ref b51)])
          obtain ⟨cq58, kq58, q58a, q58b, q58c⟩ := isOf hZ e56 E_b51
          obtain ⟨_, _, ⟨T58, L58, k58, n58⟩, -, X58, ⟨Lc58, hQ58, l58, y58, z58⟩, st58⟩ := X56.virtualBack hx (y := (⟨"java/lang/StringBuilder", "append", "(Ljava/lang/String;)Ljava/lang/StringBuilder;"⟩ : MethodName)) (z := (⟨"java/lang/StringBuilder", "append", "(Ljava/lang/String;)Ljava/lang/StringBuilder;"⟩ : MethodName)) hown (mvT hZ (hwi hw 93 rfl)) (mvT hZ (hwi hw 94 rfl)) (notFace_of_selects (args := #[]) (mvT hZ (hwi hw 96 rfl))) (mvT hZ (hwi hw 96 rfl)) (mvT hZ (hwi hw 95 rfl)) (by decide) (backOf (W := 0) (rmSw l Z a0 hw [] b51 s4 zc t55 kt55 (0 + own_k (x1 / (1 : Int64))) cp55 ([] ++ ((own_dl (x1 / (1 : Int64))).map Value.int)) v4 kv4 2 [(.int (109 : Int32)), (.int (115 : Int32))] h0.size T55.heap n0 O S_COMPACT hcs E_b51 Cq55 Vq55 Nq55 Aq55 (own_lapp rfl (own_dlm (x1 / (1 : Int64)))) ka55 (by omega) g_b51 g_t55 (E_s4.ext O.2) (C_s4.ext O.2) (V_s4.ext O.2) (A_v4.ext O.2) rfl (by decide) (O.ne A_v4.lt g_t55) sz_t55 KK.1 kb55 kc55 XX_b51 (by omega)) hZ (hwi hw 97 rfl) (hwi hw 40 rfl) (by decide) (by decide)) q58a q58c (g := (mkF m 42 #[.val (.long x1), .second, .val (.int (4 : Int32))] [(.ref s4), (.ref b51)])) rfl (by rw [hml]; rfl) (Steps.refl _) (argsL := [(.ref s4)]) (rest := []) (lenOf pd__Ljava_lang_String__Ljava_lang_StringBuilder_ rfl) rfl (by show 2 * 0 + _ ≤ _; exact Nat.le_of_eq rfl) (hb hby d1_42) (fun _ _ => ⟨rfl, e56, (by decide : 3 + 1 ≤ _), (by decide : 84 + 64 ≤ _)⟩)
          dsimp only [Pt.U, Pt.locs, Pt.cells, Pt.slots] at X58 l58 y58 z58 st58 hQ58
          rw [l58, y58, z58] at X58
          have X58 : Stand p l e _ _ m _ below meth c T58 _ 4 148 := X58
          obtain ⟨rfl, N58q, K58q, Eq58, Cq58, Nq58, t58, kt58, cp58, gb58, mb58, Vq58, Aq58, ka58, kb58, kc58, Xq58⟩ := hQ58
          have N58 := Fr.app N55 N58q
          refine Go.tr st58 ?_
          have E_b51 := E_b51.keep K58q
          have XX_b51 := XX_b51.imp (fun q => q.keep K58q) id
          have O := O.keep K58q (allS g_b51 (allS g_t55 all0))
          have KK := KK.trans K58q (allS (Or.inr sz_b51) (allS (Or.inr sz_t55) all0))
          have E_b51 := Eq58
          have g_t58 := gb58
          have sz_t58 : h0.size ≤ t58 := mb58
          have XX_b51 := Xq58
          show Go _ _ _ _ _ _ _  T58 (mkF m 45 #[.val (.long x1), .second, .val (.int (4 : Int32))] [(.ref b51)])
          obtain ⟨cq59, kq59, q59a, q59b, q59c⟩ := isOf hZ rfl E_b51
          obtain ⟨_, _, ⟨T59, L59, k59, n59⟩, -, X59, ⟨Lc59, hQ59, l59, y59, z59⟩, st59⟩ := X58.virtualBack hx (y := (⟨"java/lang/StringBuilder", "toString", "()Ljava/lang/String;"⟩ : MethodName)) (z := (⟨"java/lang/StringBuilder", "toString", "()Ljava/lang/String;"⟩ : MethodName)) hown (mvT hZ (hwi hw 135 rfl)) (mvT hZ (hwi hw 136 rfl)) (notFace_of_selects (args := #[]) (mvT hZ (hwi hw 138 rfl))) (mvT hZ (hwi hw 138 rfl)) (mvT hZ (hwi hw 137 rfl)) (by decide) (backOf (W := 0) (rmTSw l Z a0 hw [] b51 zc t58 kt58 ((0 + own_k (x1 / (1 : Int64))) + 2) cp58 (([] ++ ((own_dl (x1 / (1 : Int64))).map Value.int)) ++ [(.int (109 : Int32)), (.int (115 : Int32))]) T58.heap n0 O S_COMPACT hcs E_b51 Cq58 Vq58 Nq58 Aq58 (own_lapp (own_lapp rfl (own_dlm (x1 / (1 : Int64)))) rfl) ka58 (by omega) (by omega) XX_b51) hZ (hwi hw 139 rfl) (hwi hw 40 rfl) (by decide) (by decide)) q59a q59c (g := (mkF m 45 #[.val (.long x1), .second, .val (.int (4 : Int32))] [(.ref b51)])) rfl (by rw [hml]; rfl) (Steps.refl _) (argsL := []) (rest := []) (lenOf pd___Ljava_lang_String_ rfl) rfl (by show 2 * 0 + _ ≤ _; exact Nat.le_of_eq rfl) (hb hby d1_45) (fun _ _ => ⟨rfl, rfl, (by decide : 4 + 2 ≤ _), (by decide : 148 + 68 ≤ _)⟩)
          dsimp only [Pt.U, Pt.locs, Pt.cells, Pt.slots] at X59 l59 y59 z59 st59 hQ59
          rw [l59, y59, z59] at X59
          have X59 : Stand p l e _ _ m _ below meth c T59 _ 6 216 := X59
          obtain ⟨y59, t59, kt59, rfl, N59q, E59q, ly59, lt59, E_y59, C_y59, V_y59, A_t59⟩ := hQ59
          have N59 := Fr.app N58 N59q
          refine Go.tr st59 ?_
          have g_y59 : n0 ≤ y59 := Nat.le_trans (own_le O) ly59
          have sz_y59 : h0.size ≤ y59 := Nat.le_trans KK.1 ly59
          have ne_b51_y59 : b51 ≠ y59 := Nat.ne_of_lt (Nat.lt_of_lt_of_le E_b51.lt ly59)
          have ne_t58_y59 : t58 ≠ y59 := Nat.ne_of_lt (Nat.lt_of_lt_of_le Aq58.lt ly59)
          have g_t59 : n0 ≤ t59 := Nat.le_trans (own_le O) lt59
          have sz_t59 : h0.size ≤ t59 := Nat.le_trans KK.1 lt59
          have ne_b51_t59 : b51 ≠ t59 := Nat.ne_of_lt (Nat.lt_of_lt_of_le E_b51.lt lt59)
          have ne_t58_t59 : t58 ≠ t59 := Nat.ne_of_lt (Nat.lt_of_lt_of_le Aq58.lt lt59)
          have E59 := E59q
          have E_b51 := E_b51.ext E59
          have XX_b51 := XX_b51.imp (fun q => q.ext E59) id
          have Cq58 := Cq58.ext E59
          have Vq58 := Vq58.ext E59
          have Nq58 := Nq58.ext E59
          have Aq58 := Aq58.ext E59
          have O := O.ext E59
          have KK := KK.ext E59
          have ee59 : ((([] ++ ((own_dl (x1 / (1 : Int64))).map Value.int)) ++ [(.int (109 : Int32)), (.int (115 : Int32))]) : List Value) = (own_dl (x1 / (1 : Int64)) ++ [(109 : Int32), (115 : Int32)]).map Value.int := by simp []
          have el59 : ((0 + own_k (x1 / (1 : Int64))) + 2) = (own_dl (x1 / (1 : Int64)) ++ [(109 : Int32), (115 : Int32)]).length := Eq.trans (Eq.symm ((own_lapp (own_lapp rfl (own_dlm (x1 / (1 : Int64)))) rfl) : ((([] ++ ((own_dl (x1 / (1 : Int64))).map Value.int)) ++ [(.int (109 : Int32)), (.int (115 : Int32))]) : List Value).length = ((0 + own_k (x1 / (1 : Int64))) + 2))) ((congrArg List.length ee59).trans (List.length_map _))
          rw [ee59, el59] at A_t59
          have ne_y59_t59 : y59 ≠ t59 := Exa.neArv E_y59 A_t59 (hwi hw 26 rfl)
          show Go _ _ _ _ _ _ _  T59 (mkF m 48 #[.val (.long x1), .second, .val (.int (4 : Int32))] [(.ref y59)])
          refine Go.retR X59 hlk hx Bd.returns rfl rfl rfl (hb hby d1_48) (by decide) (by decide) ?_
          show Q_rmPer Z _ _ _ _ _ _ _ _ _ _ _ _ _ _ _ _ _ _ _ _ _ _ _ _ _ _ h0 n0 _ T59.heap _
          exact ⟨_, _, _, rfl, N59, own_ext0 KK, E_y59, C_y59, V_y59, (by rw [own_per, if_neg c11_3, if_neg c11_15, if_neg c11_27, if_neg c11_39]; exact A_t59)⟩
def Q_rmDg (Z : State) (a1 : Addr) (x3 : Int64) (a4 : Addr) (zc : Int32) (fm : Value) (t : Addr) (kb : ClassId) (cs : List Int32) (kp : ClassId) (nn : Nat) (k : Nat) (h0 : Heap) (n0 : Nat) (v : Option Value) (h : Heap) (L : List Loc) : Prop := v = some (.int 1) ∧ Fr n0 L ∧ h = h0
set_option maxRecDepth 65536 in
set_option maxHeartbeats 40000000 in
theorem rmDg (l : Launch) (Z : State) (a0 : Array Value) (hw : ∀ d ∈ tables_1, d.before a0 Z = true) (ws : List Jvm.Cond) (a1 : Addr) (x3 : Int64) (a4 : Addr) (zc : Int32) (fm : Value) (t : Addr) (kb : ClassId) (cs : List Int32) (kp : ClassId) (nn : Nat) (k : Nat) (h0 : Heap) (n0 : Nat) (O : Old Z n0 h0) (S_COMPACT : Sta Z Z.heap "java/lang/String" "COMPACT_STRINGS" "Z" (.int zc)) (hcs : ¬ zc = 0) (S_SIO : Sta Z Z.heap "jdk/internal/util/Preconditions" "SIOOBE_FORMATTER" "Ljava/util/function/BiFunction;" fm) (ref_fm : fm.isRef = true) (E_a1 : Exa Z h0 a1 "java/lang/String") (C_a1 : Fld Z h0 a1 "java/lang/String" "coder" "B" (.int 0)) (V_a1 : Fld Z h0 a1 "java/lang/String" "value" "[B" (.ref t)) (A_t : Arv Z h0 t kb .byte (Int32.ofNat cs.length) (cs.map Value.int) (.int 0)) (A_a4 : Arv Z h0 a4 kp .long (19 : Int32) [(.long (1 : Int64)), (.long (10 : Int64)), (.long (100 : Int64)), (.long (1000 : Int64)), (.long (10000 : Int64)), (.long (100000 : Int64)), (.long (1000000 : Int64)), (.long (10000000 : Int64)), (.long (100000000 : Int64)), (.long (1000000000 : Int64)), (.long (10000000000 : Int64)), (.long (100000000000 : Int64)), (.long (1000000000000 : Int64)), (.long (10000000000000 : Int64)), (.long (100000000000000 : Int64)), (.long (1000000000000000 : Int64)), (.long (10000000000000000 : Int64)), (.long (100000000000000000 : Int64)), (.long (1000000000000000000 : Int64))] (.long 0)) (hk : k < 19) (hn1 : 1 ≤ nn) (hn2 : nn ≤ 19) (hnl : nn ≤ cs.length) (hcl : cs.length < 100000) (hd : ∀ j, j < nn → own_chr (cs.getD j 0) = ((48 : Int32) + ((x3 / (Int64.ofNat (10 ^ (nn - 1 - j)))) % (10 : Int64)).toInt32).toUInt32.toUInt16.toUInt32.toInt32) :
    MetFree l (⟨"com/example/oplim/oplim/KeysPeriodPinLaw", "dig", "(Ljava/lang/String;IJ[JI)Z"⟩ : MethodName) (head1 (Jvm.Cond.code (⟨"com/example/oplim/oplim/KeysPeriodPinLaw", "dig", "(Ljava/lang/String;IJ[JI)Z"⟩ : MethodName) method_3_code 7 (some .boolean) :: ws) ({ frames := 4, cells := 0, slots := 0, locals := 53 } : Room)) (fun a U => a = #[(.ref a1), (.int (Int32.ofNat nn)), (.long x3), (.ref a4), (.int (Int32.ofNat k))] ∧ Z.Warmed39 U.vm ∧ U.heap = h0) (fun _ _ _ _ _ => True) (fun _ U o U' => ∃ v L, o = .returned v ∧ Q_rmDg Z a1 x3 a4 zc fm t kb cs kp nn k h0 n0 v U'.heap L ∧ FrameEnd U o U' L ({ frames := 4, cells := 0, slots := 0, locals := 53 } : Room).cells ({ frames := 4, cells := 0, slots := 0, locals := 53 } : Room).slots) := by
  refine MetFree.of_bodySF (plainFor_of_name pn_33) hisR ?_
  intro p e s m args below meth c s₁ Bd hml0 hP hK
  obtain ⟨rfl, hZ, hh⟩ := hP
  have hx := Bd.exec
  have hby := Bd.bytes
  have hml : c.maxLocals = 7 := hml0
  have hown : s.vm.findClass "com/example/oplim/oplim/KeysPeriodPinLaw" = some m.cls := findClass_of_methodNamed Bd.named
  have hnm := (name_of_methodNamed Bd.named Bd.method).1
  have hlk : meth.locks = false := BodyLoose.notSynchronized Bd
  have X0 : Stand p l e ({ frames := 4, cells := 0, slots := 0, locals := 53 } : Room) s m #[(.ref a1), (.int (Int32.ofNat nn)), (.long x3), (.ref a4), (.int (Int32.ofNat k))] below meth c s₁ [] 0 0 := Stand.of_body Bd
  have e0 : s₁.heap = h0 := by rw [← hh, Bd.state]; rfl
  have N0 := Fr.nil n0
  show Go p e below s ({ frames := 4, cells := 0, slots := 0, locals := 53 } : Room).cells ({ frames := 4, cells := 0, slots := 0, locals := 53 } : Room).slots (Q_rmDg Z a1 x3 a4 zc fm t kb cs kp nn k h0 n0) s₁ (entryFrame m #[(.ref a1), (.int (Int32.ofNat nn)), (.long x3), (.ref a4), (.int (Int32.ofNat k))] 7)
  refine Go.eq (ef_rmDg m a1 (Int32.ofNat nn) x3 a4 (Int32.ofNat k)) ?_
  show Go _ _ _ _ _ _ _  s₁ (mkF m 0 #[.val (.ref a1), .val (.int (Int32.ofNat nn)), .val (.long x3), .second, .val (.ref a4), .val (.int (Int32.ofNat k)), .unset] [])
  refine Go.st (fun tT kT => XS.iload X0.here hx rfl (hb hby d33_0) rfl  kT) ?_
  refine Go.st (fun tT kT => XS.iloadN X0.here hx rfl (hb hby d33_2) rfl  kT) ?_
  show Go _ _ _ _ _ _ _  s₁ (mkF m 3 #[.val (.ref a1), .val (.int (Int32.ofNat nn)), .val (.long x3), .second, .val (.ref a4), .val (.int (Int32.ofNat k)), .unset] [(.int (Int32.ofNat nn)), (.int (Int32.ofNat k))])
  by_cases c3_1 : (Int32.ofNat k) < (Int32.ofNat nn)
  · refine Go.st (fun tT kT => XS.icmpYes X0.here hx rfl (pc0 := 3) (pc' := 8) rfl (hb hby d33_3) rfl (tlt c3_1).1 (by decide) (by decide) kT) ?_
    have hkn : k < nn := own_lt19 c3_1 (by omega)
    show Go _ _ _ _ _ _ _  s₁ (mkF m 8 #[.val (.ref a1), .val (.int (Int32.ofNat nn)), .val (.long x3), .second, .val (.ref a4), .val (.int (Int32.ofNat k)), .unset] [])
    refine Go.st (fun tT kT => XS.lloadN X0.here hx rfl (hb hby d33_8) rfl  kT) ?_
    refine Go.st (fun tT kT => XS.aload X0.here hx rfl (hb hby d33_9) rfl rfl  kT) ?_
    refine Go.st (fun tT kT => XS.iloadN X0.here hx rfl (hb hby d33_11) rfl  kT) ?_
    show Go _ _ _ _ _ _ _  s₁ (mkF m 12 #[.val (.ref a1), .val (.int (Int32.ofNat nn)), .val (.long x3), .second, .val (.ref a4), .val (.int (Int32.ofNat k)), .unset] [(.int (Int32.ofNat nn)), (.ref a4), (.long x3)])
    refine Go.st (fun tT kT => XS.iconst X0.here hx rfl (hb hby d33_12) kT) ?_
    refine Go.st (fun tT kT => XS.isub X0.here hx rfl (hb hby d33_13) rfl kT) ?_
    show Go _ _ _ _ _ _ _  s₁ (mkF m 14 #[.val (.ref a1), .val (.int (Int32.ofNat nn)), .val (.long x3), .second, .val (.ref a4), .val (.int (Int32.ofNat k)), .unset] [(.int ((Int32.ofNat nn) - (1 : Int32))), (.ref a4), (.long x3)])
    rw [show (Int32.ofNat nn) - (1 : Int32) = Int32.ofNat (nn - 1) from own_osub (b := 1) (by omega) (by omega)]
    refine Go.st (fun tT kT => XS.iload X0.here hx rfl (hb hby d33_14) rfl  kT) ?_
    show Go _ _ _ _ _ _ _  s₁ (mkF m 16 #[.val (.ref a1), .val (.int (Int32.ofNat nn)), .val (.long x3), .second, .val (.ref a4), .val (.int (Int32.ofNat k)), .unset] [(.int (Int32.ofNat k)), (.int (Int32.ofNat (nn - 1))), (.ref a4), (.long x3)])
    refine Go.st (fun tT kT => XS.isub X0.here hx rfl (hb hby d33_16) rfl kT) ?_
    show Go _ _ _ _ _ _ _  s₁ (mkF m 17 #[.val (.ref a1), .val (.int (Int32.ofNat nn)), .val (.long x3), .second, .val (.ref a4), .val (.int (Int32.ofNat k)), .unset] [(.int ((Int32.ofNat (nn - 1)) - (Int32.ofNat k))), (.ref a4), (.long x3)])
    rw [own_osub (by omega) (by omega)]
    show Go _ _ _ _ _ _ _  s₁ (mkF m 17 #[.val (.ref a1), .val (.int (Int32.ofNat nn)), .val (.long x3), .second, .val (.ref a4), .val (.int (Int32.ofNat k)), .unset] [(.int (Int32.ofNat (nn - 1 - k))), (.ref a4), (.long x3)])
    obtain ⟨cl2, Ar2, q2, S2, M2, Hh2, G2⟩ := id A_a4
    refine Go.st (X0.laload hx (j := (Int32.ofNat (nn - 1 - k))) (v := (.long (Int64.ofNat (10 ^ (nn - 1 - k))))) (by rw [e0]; exact Ar2.1) (State.isArrayOf_alike hZ.alike Ar2.2.1) Ar2.2.2 (inb_of S2 ⟨own_onn (by omega), (own_olt (b := 19) (by omega) (by omega)).mpr (by omega)⟩) (Hh2.at (inb_of S2 ⟨own_onn (by omega), (own_olt (b := 19) (by omega) (by omega)).mpr (by omega)⟩) (by rw [own_ocl (by omega)]; exact own_p19 (by omega))) (g := (mkF m 17 #[.val (.ref a1), .val (.int (Int32.ofNat nn)), .val (.long x3), .second, .val (.ref a4), .val (.int (Int32.ofNat k)), .unset] [(.int (Int32.ofNat (nn - 1 - k))), (.ref a4), (.long x3)])) rfl rfl (hb hby d33_17)) ?_
    show Go _ _ _ _ _ _ _  s₁ (mkF m 18 #[.val (.ref a1), .val (.int (Int32.ofNat nn)), .val (.long x3), .second, .val (.ref a4), .val (.int (Int32.ofNat k)), .unset] [(.long (Int64.ofNat (10 ^ (nn - 1 - k)))), (.long x3)])
    refine Go.st (fun tT kT => XS.ldiv X0.here hx rfl (hb hby d33_18) rfl (own_pnz (by omega)) kT) ?_
    show Go _ _ _ _ _ _ _  s₁ (mkF m 19 #[.val (.ref a1), .val (.int (Int32.ofNat nn)), .val (.long x3), .second, .val (.ref a4), .val (.int (Int32.ofNat k)), .unset] [(.long (x3 / (Int64.ofNat (10 ^ (nn - 1 - k)))))])
    refine Go.st (X0.ldc2Long hx hown (mvT hZ (hwi hw 5 rfl)) (g := (mkF m 19 #[.val (.ref a1), .val (.int (Int32.ofNat nn)), .val (.long x3), .second, .val (.ref a4), .val (.int (Int32.ofNat k)), .unset] [(.long (x3 / (Int64.ofNat (10 ^ (nn - 1 - k)))))])) rfl (hb hby d33_19)) ?_
    show Go _ _ _ _ _ _ _  s₁ (mkF m 22 #[.val (.ref a1), .val (.int (Int32.ofNat nn)), .val (.long x3), .second, .val (.ref a4), .val (.int (Int32.ofNat k)), .unset] [(.long (10 : Int64)), (.long (x3 / (Int64.ofNat (10 ^ (nn - 1 - k)))))])
    refine Go.st (fun tT kT => XS.lrem X0.here hx rfl (hb hby d33_22) rfl (by decide) kT) ?_
    show Go _ _ _ _ _ _ _  s₁ (mkF m 23 #[.val (.ref a1), .val (.int (Int32.ofNat nn)), .val (.long x3), .second, .val (.ref a4), .val (.int (Int32.ofNat k)), .unset] [(.long ((x3 / (Int64.ofNat (10 ^ (nn - 1 - k)))) - ((x3 / (Int64.ofNat (10 ^ (nn - 1 - k)))) / (10 : Int64)) * (10 : Int64)))])
    rw [lrem_mod]
    show Go _ _ _ _ _ _ _  s₁ (mkF m 23 #[.val (.ref a1), .val (.int (Int32.ofNat nn)), .val (.long x3), .second, .val (.ref a4), .val (.int (Int32.ofNat k)), .unset] [(.long ((x3 / (Int64.ofNat (10 ^ (nn - 1 - k)))) % (10 : Int64)))])
    refine Go.st (fun tT kT => XS.l2i X0.here hx rfl (hb hby d33_23) rfl kT) ?_
    refine Go.st (fun tT kT => XS.istore X0.here hx rfl (hb hby d33_24) rfl (l' := #[.val (.ref a1), .val (.int (Int32.ofNat nn)), .val (.long x3), .second, .val (.ref a4), .val (.int (Int32.ofNat k)), .val (.int (((x3 / (Int64.ofNat (10 ^ (nn - 1 - k)))) % (10 : Int64)).toInt32))]) rfl kT) ?_
    refine Go.st (fun tT kT => XS.aloadN X0.here hx rfl (hb hby d33_26) rfl rfl  kT) ?_
    show Go _ _ _ _ _ _ _  s₁ (mkF m 27 #[.val (.ref a1), .val (.int (Int32.ofNat nn)), .val (.long x3), .second, .val (.ref a4), .val (.int (Int32.ofNat k)), .val (.int (((x3 / (Int64.ofNat (10 ^ (nn - 1 - k)))) % (10 : Int64)).toInt32))] [(.ref a1)])
    refine Go.st (fun tT kT => XS.iload X0.here hx rfl (hb hby d33_27) rfl  kT) ?_
    show Go _ _ _ _ _ _ _  s₁ (mkF m 29 #[.val (.ref a1), .val (.int (Int32.ofNat nn)), .val (.long x3), .second, .val (.ref a4), .val (.int (Int32.ofNat k)), .val (.int (((x3 / (Int64.ofNat (10 ^ (nn - 1 - k)))) % (10 : Int64)).toInt32))] [(.int (Int32.ofNat k)), (.ref a1)])
    obtain ⟨cq3, kq3, q3a, q3b, q3c⟩ := isOf hZ e0 E_a1
    refine Go.pure (w := (some (.int (own_chr (cs.getD k 0))))) (rest := []) (pc' := 32) (X0.virtualBack hx (y := (⟨"java/lang/String", "charAt", "(I)C"⟩ : MethodName)) (z := (⟨"java/lang/String", "charAt", "(I)C"⟩ : MethodName)) hown (mvT hZ (hwi hw 179 rfl)) (mvT hZ (hwi hw 180 rfl)) (notFace_of_selects (args := #[]) (mvT hZ (hwi hw 182 rfl))) (mvT hZ (hwi hw 182 rfl)) (mvT hZ (hwi hw 181 rfl)) (by decide) (backOf (W := 0) (rmCA l Z a0 hw [] a1 zc fm t kb cs k h0 n0 O S_COMPACT hcs S_SIO ref_fm E_a1 C_a1 V_a1 A_t (by have := own_lt19 c3_1 (by omega); omega) (by omega)) hZ (hwi hw 183 rfl) (hwi hw 25 rfl) (by decide) (by decide)) q3a q3c (g := (mkF m 29 #[.val (.ref a1), .val (.int (Int32.ofNat nn)), .val (.long x3), .second, .val (.ref a4), .val (.int (Int32.ofNat k)), .val (.int (((x3 / (Int64.ofNat (10 ^ (nn - 1 - k)))) % (10 : Int64)).toInt32))] [(.int (Int32.ofNat k)), (.ref a1)])) rfl (by rw [hml]; rfl) (Steps.refl _) (argsL := [(.int (Int32.ofNat k))]) (rest := []) (lenOf pd__I_C rfl) rfl (by show 2 * 0 + _ ≤ _; exact Nat.le_of_eq rfl) (hb hby d33_29) (fun _ _ => ⟨rfl, e0, (by decide : 0 + 0 ≤ _), (by decide : 0 + 0 ≤ _)⟩)) (fun _ _ _ q => q) N0 (fun T3 L3 X3 e3q N3 => ?_)
    show Go _ _ _ _ _ _ _  T3 (mkF m 32 #[.val (.ref a1), .val (.int (Int32.ofNat nn)), .val (.long x3), .second, .val (.ref a4), .val (.int (Int32.ofNat k)), .val (.int (((x3 / (Int64.ofNat (10 ^ (nn - 1 - k)))) % (10 : Int64)).toInt32))] [(.int (own_chr (cs.getD k 0)))])
    refine Go.st (fun tT kT => XS.bipush X3.here hx rfl (hb hby d33_32) kT) ?_
    refine Go.st (fun tT kT => XS.iload X3.here hx rfl (hb hby d33_34) rfl  kT) ?_
    refine Go.st (fun tT kT => XS.iadd X3.here hx rfl (hb hby d33_36) rfl kT) ?_
    show Go _ _ _ _ _ _ _  T3 (mkF m 37 #[.val (.ref a1), .val (.int (Int32.ofNat nn)), .val (.long x3), .second, .val (.ref a4), .val (.int (Int32.ofNat k)), .val (.int (((x3 / (Int64.ofNat (10 ^ (nn - 1 - k)))) % (10 : Int64)).toInt32))] [(.int ((48 : Int32) + (((x3 / (Int64.ofNat (10 ^ (nn - 1 - k)))) % (10 : Int64)).toInt32))), (.int (own_chr (cs.getD k 0)))])
    refine Go.st (fun tT kT => XS.i2c X3.here hx rfl (hb hby d33_37) rfl kT) ?_
    show Go _ _ _ _ _ _ _  T3 (mkF m 38 #[.val (.ref a1), .val (.int (Int32.ofNat nn)), .val (.long x3), .second, .val (.ref a4), .val (.int (Int32.ofNat k)), .val (.int (((x3 / (Int64.ofNat (10 ^ (nn - 1 - k)))) % (10 : Int64)).toInt32))] [(.int (((48 : Int32) + (((x3 / (Int64.ofNat (10 ^ (nn - 1 - k)))) % (10 : Int64)).toInt32)).toUInt32.toUInt16.toUInt32.toInt32)), (.int (own_chr (cs.getD k 0)))])
    refine Go.st (fun tT kT => XS.icmpNo X3.here hx rfl (hb hby d33_38) rfl (teq (hd k hkn : (own_chr (cs.getD k 0)) = (((48 : Int32) + (((x3 / (Int64.ofNat (10 ^ (nn - 1 - k)))) % (10 : Int64)).toInt32)).toUInt32.toUInt16.toUInt32.toInt32))).2 kT) ?_
    show Go _ _ _ _ _ _ _  T3 (mkF m 41 #[.val (.ref a1), .val (.int (Int32.ofNat nn)), .val (.long x3), .second, .val (.ref a4), .val (.int (Int32.ofNat k)), .val (.int (((x3 / (Int64.ofNat (10 ^ (nn - 1 - k)))) % (10 : Int64)).toInt32))] [])
    refine Go.st (fun tT kT => XS.iconst X3.here hx rfl (hb hby d33_41) kT) ?_
    refine Go.st (fun tT kT => XS.goto X3.here hx rfl (pc0 := 42) (pc' := 46) rfl (hb hby d33_42) (by decide) (by decide) kT) ?_
    show Go _ _ _ _ _ _ _  T3 (mkF m 46 #[.val (.ref a1), .val (.int (Int32.ofNat nn)), .val (.long x3), .second, .val (.ref a4), .val (.int (Int32.ofNat k)), .val (.int (((x3 / (Int64.ofNat (10 ^ (nn - 1 - k)))) % (10 : Int64)).toInt32))] [(.int (1 : Int32))])
    refine Go.retN X3 hlk hx (t := .boolean) (z' := (1 : Int32)) Bd.returns (by simp) (hb hby d33_46) (by decide) (by decide) rfl ?_
    show Q_rmDg Z _ _ _ _ _ _ _ _ _ _ _ h0 n0 _ T3.heap _
    rw [e3q]
    exact ⟨rfl, N3, rfl⟩
  · refine Go.st (fun tT kT => XS.icmpNo X0.here hx rfl (hb hby d33_3) rfl (flt c3_1).1 kT) ?_
    show Go _ _ _ _ _ _ _  s₁ (mkF m 6 #[.val (.ref a1), .val (.int (Int32.ofNat nn)), .val (.long x3), .second, .val (.ref a4), .val (.int (Int32.ofNat k)), .unset] [])
    refine Go.st (fun tT kT => XS.iconst X0.here hx rfl (hb hby d33_6) kT) ?_
    show Go _ _ _ _ _ _ _  s₁ (mkF m 7 #[.val (.ref a1), .val (.int (Int32.ofNat nn)), .val (.long x3), .second, .val (.ref a4), .val (.int (Int32.ofNat k)), .unset] [(.int (1 : Int32))])
    refine Go.retN X0 hlk hx (t := .boolean) (z' := (1 : Int32)) Bd.returns (by simp) (hb hby d33_7) (by decide) (by decide) rfl ?_
    show Q_rmDg Z _ _ _ _ _ _ _ _ _ _ _ h0 n0 _ s₁.heap _
    rw [e0]
    exact ⟨rfl, N0, rfl⟩
theorem own_eqi {args : Array Value} {Z : State} {t : Term} {k : Int32} (h : (Cond.eq t (Term.int k)).value args Z none Z [] = some true) : t.eval args Z none [] Z = some (.int k) := by
  cases ht : t.eval args Z none [] Z with
  | none => simp [Cond.value, Term.eval, ht] at h
  | some v => cases v <;> simp [Cond.value, Term.eval, ht] at h <;> (try rw [h])
theorem own_eqj {args : Array Value} {Z : State} {t : Term} {k : Int64} (h : (Cond.eq t (Term.long k)).value args Z none Z [] = some true) : t.eval args Z none [] Z = some (.long k) := by
  cases ht : t.eval args Z none [] Z with
  | none => simp [Cond.value, Term.eval, ht] at h
  | some v => cases v <;> simp [Cond.value, Term.eval, ht] at h <;> (try rw [h])
theorem own_len {args : Array Value} {Z : State} {t : Term} {a : Addr} {cl : Cell} {z : Int32} (ev : t.eval args Z none [] Z = some (.ref a)) (hc : Z.heap[a]? = some cl) (h : (Cond.eq (Term.length t) (Term.int z)).value args Z none Z [] = some true) : cl.slots.size < 2 ^ 31 ∧ cl.slots.size.toInt32 = z := by
  have e := own_eqi h
  obtain ⟨x, c, e1, e2, e3⟩ := Term.length_spec e
  cases ev.symm.trans e1
  obtain ⟨e4, -, -, -⟩ := State.arrayAt?_spec e2
  cases hc.symm.trans e4
  have h31 := Jvm.Free.SBG.length_lt ev e2 e
  refine ⟨h31, ?_⟩
  have := len_f ev e2 h31
  exact Value.int.inj (Option.some.inj (this.symm.trans e))

open Jvm.Free.SBG in
theorem own_bytesC {a : Array Value} {s : State} {name : String} {rhs : Term} (hl : (Cond.eq (.length (Tof name)) (.int 100)).before a s = true) (hw : (Cond.all (Tof name) (.eq (.elem (Tof name) (.index 0)) rhs)).before a s = true) (hr : ∀ r, r < 100 → ∃ k, k < 128 ∧ rhs.eval a s none [r] s = some (.int (Int32.ofNat k))) : (bytesC (Tof name)).before a s = true := by
  have hl' := Cond.eq_int hl rfl
  obtain ⟨d, D, hev, harr, -⟩ := Term.length_spec hl'
  have h31 := length_lt hev harr hl'
  have hsz : D.slots.size = 100 := by
    have e : (Term.length (Tof name)).eval a s none [] s = some (.int (Int32.ofNat D.slots.size)) := by simp [Term.eval, hev, harr, h31]
    have := Option.some.inj (e.symm.trans hl')
    have h2 : Int32.ofNat D.slots.size = Int32.ofNat 100 := by simpa using this
    have := congrArg Int32.toInt h2
    rw [Int32.toInt_ofNat_small h31, Int32.toInt_ofNat_small (by omega)] at this; omega
  have small : ∀ k : Fin 128, (-128 : Int32) ≤ Int32.ofNat k.val ∧ Int32.ofNat k.val ≤ (127 : Int32) := by decide +kernel
  refine Cond.before_iff.mpr (Cond.all_intro hev harr fun i hi => ?_)
  have h := Cond.all_elim hev harr (Cond.before_iff.mp hw) i hi
  obtain ⟨k, hk, er⟩ := hr i (by omega)
  cases he : (Term.elem (Tof name) (.index 0)).eval a s none [i] s with
  | none => simp [Cond.value, he] at h
  | some v =>
    have hv : v = .int (Int32.ofNat k) := by
      cases v <;> simp [Cond.value, he, er] at h
      rw [h]
    subst hv
    have e1 : ∀ z : Int32, (Term.int z).eval a s none [i] s = some (.int z) := fun z => rfl
    simp [Cond.value, he, e1, (small ⟨k, hk⟩).1, (small ⟨k, hk⟩).2]
theorem own_tw {P : Jvm.Cond → Prop} {n : String} (h1 : P (.laysStatic Jvm.Free.SBG.INT n "[B")) (h2 : P (.exactly (Jvm.Free.SBG.Tof n) "[B")) (h3 : P (.eq (.length (Jvm.Free.SBG.Tof n)) (.int 100))) (h4 : P (Jvm.Free.SBG.bytesC (Jvm.Free.SBG.Tof n))) : ∀ w ∈ Jvm.Free.SBG.tblW n, P w := by
  intro w hw
  simp only [Jvm.Free.SBG.tblW, List.mem_cons, List.not_mem_nil, or_false] at hw
  rcases hw with rfl | rfl | rfl | rfl <;> assumption
open Jvm.Free.SBG in
theorem own_dig {a : Array Value} {s : State} (hsets : ∀ d ∈ jdkStatics_1, d.before a s = true) (da : (Jvm.Cond.arrayClass .byte).before a s = true) : ∃ (sd d1 d2 : Addr) (D1 D2 : Cell), Tbl s "DigitOnes" sd d1 D1 ∧ Tbl s "DigitTens" sd d2 D2 ∧ Ones D1 ∧ Tens D2 := by
  have di : (Jvm.Cond.initialized INT).before a s = true := hsets _ (by decide +kernel)
  have w1 : onesW.before a s = true := hsets _ (by decide +kernel)
  have w2 : tensW.before a s = true := hsets _ (by decide +kernel)
  have n1 : ∀ r : Nat, r < 100 → ∃ k, k < 128 ∧ (Term.add (.int 48) (.rem (.index 0) (.int 10))).eval a s none [r] s = some (.int (Int32.ofNat k)) := fun r hr => ⟨48 + r % 10, by omega, by rw [← ones_num r hr]; rfl⟩
  have n2 : ∀ r : Nat, r < 100 → ∃ k, k < 128 ∧ (Term.add (.int 48) (.div (.index 0) (.int 10))).eval a s none [r] s = some (.int (Int32.ofNat k)) := fun r hr => ⟨48 + r / 10, by omega, by rw [← tens_num r hr]; rfl⟩
  obtain ⟨c1, k1, sd, d1, D1, f1, f2, f3, t1, o1⟩ := ones_of_words (own_tw (P := fun w => w.before a s = true) (hsets _ (by decide +kernel)) (hsets _ (by decide +kernel)) (hsets _ (by decide +kernel)) (own_bytesC (hsets _ (by decide +kernel)) w1 n1)) w1 di da
  obtain ⟨c2, k2, sd2, d2, D2, g1, g2, g3, t2, o2⟩ := tens_of_words (own_tw (P := fun w => w.before a s = true) (hsets _ (by decide +kernel)) (hsets _ (by decide +kernel)) (hsets _ (by decide +kernel)) (own_bytesC (hsets _ (by decide +kernel)) w2 n2)) w2 di da
  cases f1.symm.trans g1
  cases f2.symm.trans g2
  cases f3.symm.trans g3
  exact ⟨sd, d1, d2, D1, D2, t1, t2, o1, o2⟩

def Q_rm0 (Z : State) (p1 : Int64) (p3 : Int32) (zc : Int32) (fm : Value) (sd : Addr) (d1 : Addr) (d2 : Addr) (dC1 : Cell) (dC2 : Cell) (um : Addr) (kum : ClassId) (un : Addr) (kun : ClassId) (s0 : Addr) (v0 : Addr) (kv0 : ClassId) (s1 : Addr) (v1 : Addr) (kv1 : ClassId) (s2 : Addr) (v2 : Addr) (kv2 : ClassId) (s3 : Addr) (v3 : Addr) (kv3 : ClassId) (s4 : Addr) (v4 : Addr) (kv4 : ClassId) (h0 : Heap) (n0 : Nat) (v : Option Value) (h : Heap) (L : List Loc) : Prop := v = some (.int (1 : Int32)) ∧ Fr n0 L
set_option maxRecDepth 65536 in
set_option maxHeartbeats 40000000 in
theorem rm0 (l : Launch) (Z : State) (a0 : Array Value) (hw : ∀ d ∈ tables_1, d.before a0 Z = true) (ws : List Jvm.Cond) (p1 : Int64) (p3 : Int32) (zc : Int32) (fm : Value) (sd : Addr) (d1 : Addr) (d2 : Addr) (dC1 : Cell) (dC2 : Cell) (um : Addr) (kum : ClassId) (un : Addr) (kun : ClassId) (s0 : Addr) (v0 : Addr) (kv0 : ClassId) (s1 : Addr) (v1 : Addr) (kv1 : ClassId) (s2 : Addr) (v2 : Addr) (kv2 : ClassId) (s3 : Addr) (v3 : Addr) (kv3 : ClassId) (s4 : Addr) (v4 : Addr) (kv4 : ClassId) (h0 : Heap) (n0 : Nat) (O : Old Z n0 h0) (hEL : EW Z a0 EL) (wS : ∀ a ∈ Bundle.stringAtoms, a.before a0 Z = true) (S_COMPACT : Sta Z Z.heap "java/lang/String" "COMPACT_STRINGS" "Z" (.int zc)) (hcs : ¬ zc = 0) (S_SIO : Sta Z Z.heap "jdk/internal/util/Preconditions" "SIOOBE_FORMATTER" "Ljava/util/function/BiFunction;" fm) (ref_fm : fm.isRef = true) (dT1 : Jvm.Free.SBG.Tbl Z "DigitOnes" sd d1 dC1) (dT2 : Jvm.Free.SBG.Tbl Z "DigitTens" sd d2 dC2) (dO1 : Jvm.Free.SBG.Ones dC1) (dO2 : Jvm.Free.SBG.Tens dC2) (S_um : Sta Z Z.heap "com/example/oplim/oplim/Keys" "UNIT_MILLIS" "[J" (.ref um)) (A_um : Arv Z Z.heap um kum .long (5 : Int32) [(.long (86400000 : Int64)), (.long (3600000 : Int64)), (.long (60000 : Int64)), (.long (1000 : Int64)), (.long (1 : Int64))] (.long 0)) (S_un : Sta Z Z.heap "com/example/oplim/oplim/Keys" "UNIT_NAMES" "[Ljava/lang/String;" (.ref un)) (A_un : Arv Z Z.heap un kun (.object "java/lang/String") (5 : Int32) [.ref s0, .ref s1, .ref s2, .ref s3, .ref s4] .null) (E_s0 : Exa Z Z.heap s0 "java/lang/String") (C_s0 : Fld Z Z.heap s0 "java/lang/String" "coder" "B" (.int 0)) (V_s0 : Fld Z Z.heap s0 "java/lang/String" "value" "[B" (.ref v0)) (A_v0 : Arv Z Z.heap v0 kv0 .byte (1 : Int32) [(.int (100 : Int32))] (.int 0)) (E_s1 : Exa Z Z.heap s1 "java/lang/String") (C_s1 : Fld Z Z.heap s1 "java/lang/String" "coder" "B" (.int 0)) (V_s1 : Fld Z Z.heap s1 "java/lang/String" "value" "[B" (.ref v1)) (A_v1 : Arv Z Z.heap v1 kv1 .byte (1 : Int32) [(.int (104 : Int32))] (.int 0)) (E_s2 : Exa Z Z.heap s2 "java/lang/String") (C_s2 : Fld Z Z.heap s2 "java/lang/String" "coder" "B" (.int 0)) (V_s2 : Fld Z Z.heap s2 "java/lang/String" "value" "[B" (.ref v2)) (A_v2 : Arv Z Z.heap v2 kv2 .byte (1 : Int32) [(.int (109 : Int32))] (.int 0)) (E_s3 : Exa Z Z.heap s3 "java/lang/String") (C_s3 : Fld Z Z.heap s3 "java/lang/String" "coder" "B" (.int 0)) (V_s3 : Fld Z Z.heap s3 "java/lang/String" "value" "[B" (.ref v3)) (A_v3 : Arv Z Z.heap v3 kv3 .byte (1 : Int32) [(.int (115 : Int32))] (.int 0)) (E_s4 : Exa Z Z.heap s4 "java/lang/String") (C_s4 : Fld Z Z.heap s4 "java/lang/String" "coder" "B" (.int 0)) (V_s4 : Fld Z Z.heap s4 "java/lang/String" "value" "[B" (.ref v4)) (A_v4 : Arv Z Z.heap v4 kv4 .byte (2 : Int32) [(.int (109 : Int32)), (.int (115 : Int32))] (.int 0)) :
    MetFree l x (head1 (Jvm.Cond.code x code maxLocals ret :: ws) room_1) (fun a U => a = #[(.long p1), (.int p3)] ∧ Z.Warmed39 U.vm ∧ U.heap = h0 ∧ CHv Z EL U.vm h0 ∧ ∀ x ∈ ([] : List Addr), Safe Z EL U.vm h0 x) (fun _ _ _ _ _ => True) (fun _ U o U' => ∃ v L, o = .returned v ∧ Q_rm0 Z p1 p3 zc fm sd d1 d2 dC1 dC2 um kum un kun s0 v0 kv0 s1 v1 kv1 s2 v2 kv2 s3 v3 kv3 s4 v4 kv4 h0 n0 v U'.heap L ∧ CHr Z EL U.vm U.heap U'.vm U'.heap ∧ ReturnedEndW U o U' L room_1.cells room_1.slots) := by
  refine MetFree.of_bodySF (plainFor_of_name pn_0) hisR ?_
  intro p e s m args below meth c s₁ Bd hml0 hP hK
  obtain ⟨rfl, hZ, hh, HH, hSF⟩ := hP
  have hx := Bd.exec
  have hby := Bd.bytes
  have hml : c.maxLocals = 17 := hml0
  have hown : s.vm.findClass "com/example/oplim/oplim/KeysPeriodPinLaw" = some m.cls := findClass_of_methodNamed Bd.named
  have hnm := (name_of_methodNamed Bd.named Bd.method).1
  have hlk : meth.locks = false := BodyLoose.notSynchronized Bd
  have X0 : Stand p l e room_1 (s.setVm s.vm) m #[(.long p1), (.int p3)] below meth c s₁ [] 0 0 := Stand.of_body Bd
  have e0 : s₁.heap = h0 := by rw [← hh, Bd.state]; rfl
  have N0 := Fr.nil n0
  have KK : Keep h0 h0 [] := Keep.refl h0 _
  have hS : s.Since s.vm h0.size := own_since s _
  have hk : h0.size ≤ h0.size := Nat.le_refl _
  have RR : CHr Z EL s.vm h0 s.vm h0 := CHr.refl HH
  suffices hgo : GoH p e below s room_1.cells room_1.slots Z h0 EL (Q_rm0 Z p1 p3 zc fm sd d1 d2 dC1 dC2 um kum un kun s0 v0 kv0 s1 v1 kv1 s2 v2 kv2 s3 v3 kv3 s4 v4 kv4 h0 n0) s₁ (entryFrame m #[(.long p1), (.int p3)] maxLocals) by
    obtain ⟨s₂, o, q1, q2, q3, v, L, q4, q5, q6, q7⟩ := hgo; exact ⟨s₂, o, q1, q2, q3, v, L, q4, q5, hh ▸ q6, q7⟩
  refine GoH.eq (ef_rm0 m p1 p3) ?_
  show GoH _ _ _ _ _ _ _ _ _ _  s₁ (mkF m 0 #[.val (.long p1), .second, .val (.int p3), .unset, .unset, .unset, .unset, .unset, .unset, .unset, .unset, .unset, .unset, .unset, .unset, .unset, .unset] [])
  refine GoH.st (fun tT kT => XS.iconst X0.here hx rfl (hb hby at_0) kT) ?_
  show GoH _ _ _ _ _ _ _ _ _ _  s₁ (mkF m 1 #[.val (.long p1), .second, .val (.int p3), .unset, .unset, .unset, .unset, .unset, .unset, .unset, .unset, .unset, .unset, .unset, .unset, .unset, .unset] [(.int (5 : Int32))])
  obtain ⟨T1, h1, k1, X1, e1, E1, A1, st1⟩ := newP X0 hx hZ (hwi hw 0 rfl) e0 (g := (mkF m 1 #[.val (.long p1), .second, .val (.int p3), .unset, .unset, .unset, .unset, .unset, .unset, .unset, .unset, .unset, .unset, .unset, .unset, .unset, .unset] [(.int (5 : Int32))])) rfl (hb hby at_1) rfl (by decide) (cap := 5) (by decide) (by decide) (by decide) (by decide)
  obtain ⟨b1, g1⟩ : ∃ z, z = h0.size := ⟨_, rfl⟩
  rw [← g1] at A1 st1
  refine GoH.st st1 ?_
  have g_b1 : n0 ≤ b1 := by rw [g1]; exact own_le O
  have Sf_b1 : Safe Z EL s.vm h0 b1 := Safe.new (Nat.le_of_eq g1.symm)
  have sz_b1 : h0.size ≤ b1 := by rw [g1]; exact KK.1
  have Sf_b1 := Safe.ext E1 HH Sf_b1
  have RR := RR.trans (CHr.ext E1 HH)
  have HH := HH.ext E1
  have hk := Nat.le_trans hk E1.1
  have O := O.ext E1
  have KK := KK.ext E1
  have V_b1 : Arv Z h1 b1 k1 .long (5 : Int32) [(.long (0 : Int64)), (.long (0 : Int64)), (.long (0 : Int64)), (.long (0 : Int64)), (.long (0 : Int64))] (.long (0 : Int64)) := (Arv.new A1 (by decide)).pad (pad_rep [] (.long (0 : Int64)) 5)
  show GoH _ _ _ _ _ _ _ _ _ _  T1 (mkF m 3 #[.val (.long p1), .second, .val (.int p3), .unset, .unset, .unset, .unset, .unset, .unset, .unset, .unset, .unset, .unset, .unset, .unset, .unset, .unset] [(.ref b1)])
  refine GoH.st (fun tT kT => XS.dup X1.here hx rfl (hb hby at_3) rfl rfl kT) ?_
  refine GoH.st (fun tT kT => XS.iconst X1.here hx rfl (hb hby at_4) kT) ?_
  show GoH _ _ _ _ _ _ _ _ _ _  T1 (mkF m 5 #[.val (.long p1), .second, .val (.int p3), .unset, .unset, .unset, .unset, .unset, .unset, .unset, .unset, .unset, .unset, .unset, .unset, .unset, .unset] [(.int (0 : Int32)), (.ref b1), (.ref b1)])
  refine GoH.st (X1.ldc2Long hx hown (mvT hZ (hwi hw 1 rfl)) (g := (mkF m 5 #[.val (.long p1), .second, .val (.int p3), .unset, .unset, .unset, .unset, .unset, .unset, .unset, .unset, .unset, .unset, .unset, .unset, .unset, .unset] [(.int (0 : Int32)), (.ref b1), (.ref b1)])) rfl (hb hby at_5)) ?_
  show GoH _ _ _ _ _ _ _ _ _ _  T1 (mkF m 8 #[.val (.long p1), .second, .val (.int p3), .unset, .unset, .unset, .unset, .unset, .unset, .unset, .unset, .unset, .unset, .unset, .unset, .unset, .unset] [(.long (86400000 : Int64)), (.int (0 : Int32)), (.ref b1), (.ref b1)])
  obtain ⟨cl2, Ar2, q2, S2, M2, Hh2, G2⟩ := V_b1
  obtain ⟨T3, h3, X3, e3, W3, st3⟩ := stJ X1 hx hZ e1 Ar2 (j := (0 : Int32)) (inb_of S2 ⟨by decide, by decide⟩) (g := (mkF m 8 #[.val (.long p1), .second, .val (.int p3), .unset, .unset, .unset, .unset, .unset, .unset, .unset, .unset, .unset, .unset, .unset, .unset, .unset, .unset] [(.long (86400000 : Int64)), (.int (0 : Int32)), (.ref b1), (.ref b1)])) rfl rfl (hb hby at_8)
  refine GoH.st st3 ?_
  have V_b1 : Arv Z h3 b1 k1 .long (5 : Int32) [(.long (86400000 : Int64)), (.long (0 : Int64)), (.long (0 : Int64)), (.long (0 : Int64)), (.long (0 : Int64))] (.long (0 : Int64)) := Arv.set Ar2 q2 S2 M2 Hh2 G2 rfl W3 0 rfl (Nat.le_of_ble_eq_true rfl)
  have N3 := Fr.snoc X3 N0 g_b1
  have Sf'_b1 := Safe.wr W3 Sf_b1 HH Sf_b1
  have RR := RR.trans (CHr.wr W3 Sf_b1 HH)
  have HH := HH.wr W3 Sf_b1
  have Sf_b1 := Sf'_b1
  have hk := Nat.le_trans hk (Nat.le_of_eq W3.size.symm)
  have O := O.wr W3 g_b1
  have KK := KK.wr W3 (Or.inr sz_b1)
  show GoH _ _ _ _ _ _ _ _ _ _  T3 (mkF m 9 #[.val (.long p1), .second, .val (.int p3), .unset, .unset, .unset, .unset, .unset, .unset, .unset, .unset, .unset, .unset, .unset, .unset, .unset, .unset] [(.ref b1)])
  refine GoH.st (fun tT kT => XS.dup X3.here hx rfl (hb hby at_9) rfl rfl kT) ?_
  refine GoH.st (fun tT kT => XS.iconst X3.here hx rfl (hb hby at_10) kT) ?_
  show GoH _ _ _ _ _ _ _ _ _ _  T3 (mkF m 11 #[.val (.long p1), .second, .val (.int p3), .unset, .unset, .unset, .unset, .unset, .unset, .unset, .unset, .unset, .unset, .unset, .unset, .unset, .unset] [(.int (1 : Int32)), (.ref b1), (.ref b1)])
  refine GoH.st (X3.ldc2Long hx hown (mvT hZ (hwi hw 2 rfl)) (g := (mkF m 11 #[.val (.long p1), .second, .val (.int p3), .unset, .unset, .unset, .unset, .unset, .unset, .unset, .unset, .unset, .unset, .unset, .unset, .unset, .unset] [(.int (1 : Int32)), (.ref b1), (.ref b1)])) rfl (hb hby at_11)) ?_
  show GoH _ _ _ _ _ _ _ _ _ _  T3 (mkF m 14 #[.val (.long p1), .second, .val (.int p3), .unset, .unset, .unset, .unset, .unset, .unset, .unset, .unset, .unset, .unset, .unset, .unset, .unset, .unset] [(.long (3600000 : Int64)), (.int (1 : Int32)), (.ref b1), (.ref b1)])
  obtain ⟨cl4, Ar4, q4, S4, M4, Hh4, G4⟩ := V_b1
  obtain ⟨T5, h5, X5, e5, W5, st5⟩ := stJ X3 hx hZ e3 Ar4 (j := (1 : Int32)) (inb_of S4 ⟨by decide, by decide⟩) (g := (mkF m 14 #[.val (.long p1), .second, .val (.int p3), .unset, .unset, .unset, .unset, .unset, .unset, .unset, .unset, .unset, .unset, .unset, .unset, .unset, .unset] [(.long (3600000 : Int64)), (.int (1 : Int32)), (.ref b1), (.ref b1)])) rfl rfl (hb hby at_14)
  refine GoH.st st5 ?_
  have V_b1 : Arv Z h5 b1 k1 .long (5 : Int32) [(.long (86400000 : Int64)), (.long (3600000 : Int64)), (.long (0 : Int64)), (.long (0 : Int64)), (.long (0 : Int64))] (.long (0 : Int64)) := Arv.set Ar4 q4 S4 M4 Hh4 G4 rfl W5 1 rfl (Nat.le_of_ble_eq_true rfl)
  have N5 := Fr.snoc X5 N3 g_b1
  have Sf'_b1 := Safe.wr W5 Sf_b1 HH Sf_b1
  have RR := RR.trans (CHr.wr W5 Sf_b1 HH)
  have HH := HH.wr W5 Sf_b1
  have Sf_b1 := Sf'_b1
  have hk := Nat.le_trans hk (Nat.le_of_eq W5.size.symm)
  have O := O.wr W5 g_b1
  have KK := KK.wr W5 (Or.inr sz_b1)
  show GoH _ _ _ _ _ _ _ _ _ _  T5 (mkF m 15 #[.val (.long p1), .second, .val (.int p3), .unset, .unset, .unset, .unset, .unset, .unset, .unset, .unset, .unset, .unset, .unset, .unset, .unset, .unset] [(.ref b1)])
  refine GoH.st (fun tT kT => XS.dup X5.here hx rfl (hb hby at_15) rfl rfl kT) ?_
  refine GoH.st (fun tT kT => XS.iconst X5.here hx rfl (hb hby at_16) kT) ?_
  show GoH _ _ _ _ _ _ _ _ _ _  T5 (mkF m 17 #[.val (.long p1), .second, .val (.int p3), .unset, .unset, .unset, .unset, .unset, .unset, .unset, .unset, .unset, .unset, .unset, .unset, .unset, .unset] [(.int (2 : Int32)), (.ref b1), (.ref b1)])
  refine GoH.st (X5.ldc2Long hx hown (mvT hZ (hwi hw 3 rfl)) (g := (mkF m 17 #[.val (.long p1), .second, .val (.int p3), .unset, .unset, .unset, .unset, .unset, .unset, .unset, .unset, .unset, .unset, .unset, .unset, .unset, .unset] [(.int (2 : Int32)), (.ref b1), (.ref b1)])) rfl (hb hby at_17)) ?_
  show GoH _ _ _ _ _ _ _ _ _ _  T5 (mkF m 20 #[.val (.long p1), .second, .val (.int p3), .unset, .unset, .unset, .unset, .unset, .unset, .unset, .unset, .unset, .unset, .unset, .unset, .unset, .unset] [(.long (60000 : Int64)), (.int (2 : Int32)), (.ref b1), (.ref b1)])
  obtain ⟨cl6, Ar6, q6, S6, M6, Hh6, G6⟩ := V_b1
  obtain ⟨T7, h7, X7, e7, W7, st7⟩ := stJ X5 hx hZ e5 Ar6 (j := (2 : Int32)) (inb_of S6 ⟨by decide, by decide⟩) (g := (mkF m 20 #[.val (.long p1), .second, .val (.int p3), .unset, .unset, .unset, .unset, .unset, .unset, .unset, .unset, .unset, .unset, .unset, .unset, .unset, .unset] [(.long (60000 : Int64)), (.int (2 : Int32)), (.ref b1), (.ref b1)])) rfl rfl (hb hby at_20)
  refine GoH.st st7 ?_
  have V_b1 : Arv Z h7 b1 k1 .long (5 : Int32) [(.long (86400000 : Int64)), (.long (3600000 : Int64)), (.long (60000 : Int64)), (.long (0 : Int64)), (.long (0 : Int64))] (.long (0 : Int64)) := Arv.set Ar6 q6 S6 M6 Hh6 G6 rfl W7 2 rfl (Nat.le_of_ble_eq_true rfl)
  have N7 := Fr.snoc X7 N5 g_b1
  have Sf'_b1 := Safe.wr W7 Sf_b1 HH Sf_b1
  have RR := RR.trans (CHr.wr W7 Sf_b1 HH)
  have HH := HH.wr W7 Sf_b1
  have Sf_b1 := Sf'_b1
  have hk := Nat.le_trans hk (Nat.le_of_eq W7.size.symm)
  have O := O.wr W7 g_b1
  have KK := KK.wr W7 (Or.inr sz_b1)
  show GoH _ _ _ _ _ _ _ _ _ _  T7 (mkF m 21 #[.val (.long p1), .second, .val (.int p3), .unset, .unset, .unset, .unset, .unset, .unset, .unset, .unset, .unset, .unset, .unset, .unset, .unset, .unset] [(.ref b1)])
  refine GoH.st (fun tT kT => XS.dup X7.here hx rfl (hb hby at_21) rfl rfl kT) ?_
  refine GoH.st (fun tT kT => XS.iconst X7.here hx rfl (hb hby at_22) kT) ?_
  show GoH _ _ _ _ _ _ _ _ _ _  T7 (mkF m 23 #[.val (.long p1), .second, .val (.int p3), .unset, .unset, .unset, .unset, .unset, .unset, .unset, .unset, .unset, .unset, .unset, .unset, .unset, .unset] [(.int (3 : Int32)), (.ref b1), (.ref b1)])
  refine GoH.st (X7.ldc2Long hx hown (mvT hZ (hwi hw 4 rfl)) (g := (mkF m 23 #[.val (.long p1), .second, .val (.int p3), .unset, .unset, .unset, .unset, .unset, .unset, .unset, .unset, .unset, .unset, .unset, .unset, .unset, .unset] [(.int (3 : Int32)), (.ref b1), (.ref b1)])) rfl (hb hby at_23)) ?_
  show GoH _ _ _ _ _ _ _ _ _ _  T7 (mkF m 26 #[.val (.long p1), .second, .val (.int p3), .unset, .unset, .unset, .unset, .unset, .unset, .unset, .unset, .unset, .unset, .unset, .unset, .unset, .unset] [(.long (1000 : Int64)), (.int (3 : Int32)), (.ref b1), (.ref b1)])
  obtain ⟨cl8, Ar8, q8, S8, M8, Hh8, G8⟩ := V_b1
  obtain ⟨T9, h9, X9, e9, W9, st9⟩ := stJ X7 hx hZ e7 Ar8 (j := (3 : Int32)) (inb_of S8 ⟨by decide, by decide⟩) (g := (mkF m 26 #[.val (.long p1), .second, .val (.int p3), .unset, .unset, .unset, .unset, .unset, .unset, .unset, .unset, .unset, .unset, .unset, .unset, .unset, .unset] [(.long (1000 : Int64)), (.int (3 : Int32)), (.ref b1), (.ref b1)])) rfl rfl (hb hby at_26)
  refine GoH.st st9 ?_
  have V_b1 : Arv Z h9 b1 k1 .long (5 : Int32) [(.long (86400000 : Int64)), (.long (3600000 : Int64)), (.long (60000 : Int64)), (.long (1000 : Int64)), (.long (0 : Int64))] (.long (0 : Int64)) := Arv.set Ar8 q8 S8 M8 Hh8 G8 rfl W9 3 rfl (Nat.le_of_ble_eq_true rfl)
  have N9 := Fr.snoc X9 N7 g_b1
  have Sf'_b1 := Safe.wr W9 Sf_b1 HH Sf_b1
  have RR := RR.trans (CHr.wr W9 Sf_b1 HH)
  have HH := HH.wr W9 Sf_b1
  have Sf_b1 := Sf'_b1
  have hk := Nat.le_trans hk (Nat.le_of_eq W9.size.symm)
  have O := O.wr W9 g_b1
  have KK := KK.wr W9 (Or.inr sz_b1)
  show GoH _ _ _ _ _ _ _ _ _ _  T9 (mkF m 27 #[.val (.long p1), .second, .val (.int p3), .unset, .unset, .unset, .unset, .unset, .unset, .unset, .unset, .unset, .unset, .unset, .unset, .unset, .unset] [(.ref b1)])
  refine GoH.st (fun tT kT => XS.dup X9.here hx rfl (hb hby at_27) rfl rfl kT) ?_
  refine GoH.st (fun tT kT => XS.iconst X9.here hx rfl (hb hby at_28) kT) ?_
  refine GoH.st (fun tT kT => XS.lconst X9.here hx rfl (hb hby at_29) kT) ?_
  show GoH _ _ _ _ _ _ _ _ _ _  T9 (mkF m 30 #[.val (.long p1), .second, .val (.int p3), .unset, .unset, .unset, .unset, .unset, .unset, .unset, .unset, .unset, .unset, .unset, .unset, .unset, .unset] [(.long (1 : Int64)), (.int (4 : Int32)), (.ref b1), (.ref b1)])
  obtain ⟨cl10, Ar10, q10, S10, M10, Hh10, G10⟩ := V_b1
  obtain ⟨T11, h11, X11, e11, W11, st11⟩ := stJ X9 hx hZ e9 Ar10 (j := (4 : Int32)) (inb_of S10 ⟨by decide, by decide⟩) (g := (mkF m 30 #[.val (.long p1), .second, .val (.int p3), .unset, .unset, .unset, .unset, .unset, .unset, .unset, .unset, .unset, .unset, .unset, .unset, .unset, .unset] [(.long (1 : Int64)), (.int (4 : Int32)), (.ref b1), (.ref b1)])) rfl rfl (hb hby at_30)
  refine GoH.st st11 ?_
  have V_b1 : Arv Z h11 b1 k1 .long (5 : Int32) [(.long (86400000 : Int64)), (.long (3600000 : Int64)), (.long (60000 : Int64)), (.long (1000 : Int64)), (.long (1 : Int64))] (.long (0 : Int64)) := Arv.set Ar10 q10 S10 M10 Hh10 G10 rfl W11 4 rfl (Nat.le_of_ble_eq_true rfl)
  have N11 := Fr.snoc X11 N9 g_b1
  have Sf'_b1 := Safe.wr W11 Sf_b1 HH Sf_b1
  have RR := RR.trans (CHr.wr W11 Sf_b1 HH)
  have HH := HH.wr W11 Sf_b1
  have Sf_b1 := Sf'_b1
  have hk := Nat.le_trans hk (Nat.le_of_eq W11.size.symm)
  have O := O.wr W11 g_b1
  have KK := KK.wr W11 (Or.inr sz_b1)
  show GoH _ _ _ _ _ _ _ _ _ _  T11 (mkF m 31 #[.val (.long p1), .second, .val (.int p3), .unset, .unset, .unset, .unset, .unset, .unset, .unset, .unset, .unset, .unset, .unset, .unset, .unset, .unset] [(.ref b1)])
  refine GoH.st (fun tT kT => XS.astoreN X11.here hx rfl (hb hby at_31) rfl rfl (l' := #[.val (.long p1), .second, .val (.int p3), .val (.ref b1), .unset, .unset, .unset, .unset, .unset, .unset, .unset, .unset, .unset, .unset, .unset, .unset, .unset]) rfl kT) ?_
  refine GoH.st (fun tT kT => XS.bipush X11.here hx rfl (hb hby at_32) kT) ?_
  show GoH _ _ _ _ _ _ _ _ _ _  T11 (mkF m 34 #[.val (.long p1), .second, .val (.int p3), .val (.ref b1), .unset, .unset, .unset, .unset, .unset, .unset, .unset, .unset, .unset, .unset, .unset, .unset, .unset] [(.int (19 : Int32))])
  obtain ⟨T12, h12, k12, X12, e12, E12, A12, st12⟩ := newP X11 hx hZ (hwi hw 0 rfl) e11 (g := (mkF m 34 #[.val (.long p1), .second, .val (.int p3), .val (.ref b1), .unset, .unset, .unset, .unset, .unset, .unset, .unset, .unset, .unset, .unset, .unset, .unset, .unset] [(.int (19 : Int32))])) rfl (hb hby at_34) rfl (by decide) (cap := 19) (by decide) (by decide) (by decide) (by decide)
  obtain ⟨b12, g12⟩ : ∃ z, z = h11.size := ⟨_, rfl⟩
  rw [← g12] at A12 st12
  refine GoH.st st12 ?_
  have g_b12 : n0 ≤ b12 := by rw [g12]; exact own_le O
  have Sf_b12 : Safe Z EL s.vm h11 b12 := Safe.new (Nat.le_of_eq g12.symm)
  have sz_b12 : h0.size ≤ b12 := by rw [g12]; exact KK.1
  have ne_b1_b12 : b1 ≠ b12 := Nat.ne_of_lt (by rw [g12]; exact V_b1.lt)
  have V_b1 := V_b1.ext E12
  have Sf_b1 := Safe.ext E12 HH Sf_b1
  have Sf_b12 := Safe.ext E12 HH Sf_b12
  have RR := RR.trans (CHr.ext E12 HH)
  have HH := HH.ext E12
  have hk := Nat.le_trans hk E12.1
  have O := O.ext E12
  have KK := KK.ext E12
  have V_b12 : Arv Z h12 b12 k12 .long (19 : Int32) [(.long (0 : Int64)), (.long (0 : Int64)), (.long (0 : Int64)), (.long (0 : Int64)), (.long (0 : Int64)), (.long (0 : Int64)), (.long (0 : Int64)), (.long (0 : Int64)), (.long (0 : Int64)), (.long (0 : Int64)), (.long (0 : Int64)), (.long (0 : Int64)), (.long (0 : Int64)), (.long (0 : Int64)), (.long (0 : Int64)), (.long (0 : Int64)), (.long (0 : Int64)), (.long (0 : Int64)), (.long (0 : Int64))] (.long (0 : Int64)) := (Arv.new A12 (by decide)).pad (pad_rep [] (.long (0 : Int64)) 19)
  show GoH _ _ _ _ _ _ _ _ _ _  T12 (mkF m 36 #[.val (.long p1), .second, .val (.int p3), .val (.ref b1), .unset, .unset, .unset, .unset, .unset, .unset, .unset, .unset, .unset, .unset, .unset, .unset, .unset] [(.ref b12)])
  refine GoH.st (fun tT kT => XS.dup X12.here hx rfl (hb hby at_36) rfl rfl kT) ?_
  refine GoH.st (fun tT kT => XS.iconst X12.here hx rfl (hb hby at_37) kT) ?_
  refine GoH.st (fun tT kT => XS.lconst X12.here hx rfl (hb hby at_38) kT) ?_
  show GoH _ _ _ _ _ _ _ _ _ _  T12 (mkF m 39 #[.val (.long p1), .second, .val (.int p3), .val (.ref b1), .unset, .unset, .unset, .unset, .unset, .unset, .unset, .unset, .unset, .unset, .unset, .unset, .unset] [(.long (1 : Int64)), (.int (0 : Int32)), (.ref b12), (.ref b12)])
  obtain ⟨cl13, Ar13, q13, S13, M13, Hh13, G13⟩ := V_b12
  obtain ⟨T14, h14, X14, e14, W14, st14⟩ := stJ X12 hx hZ e12 Ar13 (j := (0 : Int32)) (inb_of S13 ⟨by decide, by decide⟩) (g := (mkF m 39 #[.val (.long p1), .second, .val (.int p3), .val (.ref b1), .unset, .unset, .unset, .unset, .unset, .unset, .unset, .unset, .unset, .unset, .unset, .unset, .unset] [(.long (1 : Int64)), (.int (0 : Int32)), (.ref b12), (.ref b12)])) rfl rfl (hb hby at_39)
  refine GoH.st st14 ?_
  have V_b12 : Arv Z h14 b12 k12 .long (19 : Int32) [(.long (1 : Int64)), (.long (0 : Int64)), (.long (0 : Int64)), (.long (0 : Int64)), (.long (0 : Int64)), (.long (0 : Int64)), (.long (0 : Int64)), (.long (0 : Int64)), (.long (0 : Int64)), (.long (0 : Int64)), (.long (0 : Int64)), (.long (0 : Int64)), (.long (0 : Int64)), (.long (0 : Int64)), (.long (0 : Int64)), (.long (0 : Int64)), (.long (0 : Int64)), (.long (0 : Int64)), (.long (0 : Int64))] (.long (0 : Int64)) := Arv.set Ar13 q13 S13 M13 Hh13 G13 rfl W14 0 rfl (Nat.le_of_ble_eq_true rfl)
  have N14 := Fr.snoc X14 N11 g_b12
  have V_b1 := V_b1.other W14 ne_b1_b12
  have Sf_b1 := Safe.wr W14 Sf_b12 HH Sf_b1
  have Sf'_b12 := Safe.wr W14 Sf_b12 HH Sf_b12
  have RR := RR.trans (CHr.wr W14 Sf_b12 HH)
  have HH := HH.wr W14 Sf_b12
  have Sf_b12 := Sf'_b12
  have hk := Nat.le_trans hk (Nat.le_of_eq W14.size.symm)
  have O := O.wr W14 g_b12
  have KK := KK.wr W14 (Or.inr sz_b12)
  show GoH _ _ _ _ _ _ _ _ _ _  T14 (mkF m 40 #[.val (.long p1), .second, .val (.int p3), .val (.ref b1), .unset, .unset, .unset, .unset, .unset, .unset, .unset, .unset, .unset, .unset, .unset, .unset, .unset] [(.ref b12)])
  refine GoH.st (fun tT kT => XS.dup X14.here hx rfl (hb hby at_40) rfl rfl kT) ?_
  refine GoH.st (fun tT kT => XS.iconst X14.here hx rfl (hb hby at_41) kT) ?_
  show GoH _ _ _ _ _ _ _ _ _ _  T14 (mkF m 42 #[.val (.long p1), .second, .val (.int p3), .val (.ref b1), .unset, .unset, .unset, .unset, .unset, .unset, .unset, .unset, .unset, .unset, .unset, .unset, .unset] [(.int (1 : Int32)), (.ref b12), (.ref b12)])
  refine GoH.st (X14.ldc2Long hx hown (mvT hZ (hwi hw 5 rfl)) (g := (mkF m 42 #[.val (.long p1), .second, .val (.int p3), .val (.ref b1), .unset, .unset, .unset, .unset, .unset, .unset, .unset, .unset, .unset, .unset, .unset, .unset, .unset] [(.int (1 : Int32)), (.ref b12), (.ref b12)])) rfl (hb hby at_42)) ?_
  show GoH _ _ _ _ _ _ _ _ _ _  T14 (mkF m 45 #[.val (.long p1), .second, .val (.int p3), .val (.ref b1), .unset, .unset, .unset, .unset, .unset, .unset, .unset, .unset, .unset, .unset, .unset, .unset, .unset] [(.long (10 : Int64)), (.int (1 : Int32)), (.ref b12), (.ref b12)])
  obtain ⟨cl15, Ar15, q15, S15, M15, Hh15, G15⟩ := V_b12
  obtain ⟨T16, h16, X16, e16, W16, st16⟩ := stJ X14 hx hZ e14 Ar15 (j := (1 : Int32)) (inb_of S15 ⟨by decide, by decide⟩) (g := (mkF m 45 #[.val (.long p1), .second, .val (.int p3), .val (.ref b1), .unset, .unset, .unset, .unset, .unset, .unset, .unset, .unset, .unset, .unset, .unset, .unset, .unset] [(.long (10 : Int64)), (.int (1 : Int32)), (.ref b12), (.ref b12)])) rfl rfl (hb hby at_45)
  refine GoH.st st16 ?_
  have V_b12 : Arv Z h16 b12 k12 .long (19 : Int32) [(.long (1 : Int64)), (.long (10 : Int64)), (.long (0 : Int64)), (.long (0 : Int64)), (.long (0 : Int64)), (.long (0 : Int64)), (.long (0 : Int64)), (.long (0 : Int64)), (.long (0 : Int64)), (.long (0 : Int64)), (.long (0 : Int64)), (.long (0 : Int64)), (.long (0 : Int64)), (.long (0 : Int64)), (.long (0 : Int64)), (.long (0 : Int64)), (.long (0 : Int64)), (.long (0 : Int64)), (.long (0 : Int64))] (.long (0 : Int64)) := Arv.set Ar15 q15 S15 M15 Hh15 G15 rfl W16 1 rfl (Nat.le_of_ble_eq_true rfl)
  have N16 := Fr.snoc X16 N14 g_b12
  have V_b1 := V_b1.other W16 ne_b1_b12
  have Sf_b1 := Safe.wr W16 Sf_b12 HH Sf_b1
  have Sf'_b12 := Safe.wr W16 Sf_b12 HH Sf_b12
  have RR := RR.trans (CHr.wr W16 Sf_b12 HH)
  have HH := HH.wr W16 Sf_b12
  have Sf_b12 := Sf'_b12
  have hk := Nat.le_trans hk (Nat.le_of_eq W16.size.symm)
  have O := O.wr W16 g_b12
  have KK := KK.wr W16 (Or.inr sz_b12)
  show GoH _ _ _ _ _ _ _ _ _ _  T16 (mkF m 46 #[.val (.long p1), .second, .val (.int p3), .val (.ref b1), .unset, .unset, .unset, .unset, .unset, .unset, .unset, .unset, .unset, .unset, .unset, .unset, .unset] [(.ref b12)])
  refine GoH.st (fun tT kT => XS.dup X16.here hx rfl (hb hby at_46) rfl rfl kT) ?_
  refine GoH.st (fun tT kT => XS.iconst X16.here hx rfl (hb hby at_47) kT) ?_
  show GoH _ _ _ _ _ _ _ _ _ _  T16 (mkF m 48 #[.val (.long p1), .second, .val (.int p3), .val (.ref b1), .unset, .unset, .unset, .unset, .unset, .unset, .unset, .unset, .unset, .unset, .unset, .unset, .unset] [(.int (2 : Int32)), (.ref b12), (.ref b12)])
  refine GoH.st (X16.ldc2Long hx hown (mvT hZ (hwi hw 6 rfl)) (g := (mkF m 48 #[.val (.long p1), .second, .val (.int p3), .val (.ref b1), .unset, .unset, .unset, .unset, .unset, .unset, .unset, .unset, .unset, .unset, .unset, .unset, .unset] [(.int (2 : Int32)), (.ref b12), (.ref b12)])) rfl (hb hby at_48)) ?_
  show GoH _ _ _ _ _ _ _ _ _ _  T16 (mkF m 51 #[.val (.long p1), .second, .val (.int p3), .val (.ref b1), .unset, .unset, .unset, .unset, .unset, .unset, .unset, .unset, .unset, .unset, .unset, .unset, .unset] [(.long (100 : Int64)), (.int (2 : Int32)), (.ref b12), (.ref b12)])
  obtain ⟨cl17, Ar17, q17, S17, M17, Hh17, G17⟩ := V_b12
  obtain ⟨T18, h18, X18, e18, W18, st18⟩ := stJ X16 hx hZ e16 Ar17 (j := (2 : Int32)) (inb_of S17 ⟨by decide, by decide⟩) (g := (mkF m 51 #[.val (.long p1), .second, .val (.int p3), .val (.ref b1), .unset, .unset, .unset, .unset, .unset, .unset, .unset, .unset, .unset, .unset, .unset, .unset, .unset] [(.long (100 : Int64)), (.int (2 : Int32)), (.ref b12), (.ref b12)])) rfl rfl (hb hby at_51)
  refine GoH.st st18 ?_
  have V_b12 : Arv Z h18 b12 k12 .long (19 : Int32) [(.long (1 : Int64)), (.long (10 : Int64)), (.long (100 : Int64)), (.long (0 : Int64)), (.long (0 : Int64)), (.long (0 : Int64)), (.long (0 : Int64)), (.long (0 : Int64)), (.long (0 : Int64)), (.long (0 : Int64)), (.long (0 : Int64)), (.long (0 : Int64)), (.long (0 : Int64)), (.long (0 : Int64)), (.long (0 : Int64)), (.long (0 : Int64)), (.long (0 : Int64)), (.long (0 : Int64)), (.long (0 : Int64))] (.long (0 : Int64)) := Arv.set Ar17 q17 S17 M17 Hh17 G17 rfl W18 2 rfl (Nat.le_of_ble_eq_true rfl)
  have N18 := Fr.snoc X18 N16 g_b12
  have V_b1 := V_b1.other W18 ne_b1_b12
  have Sf_b1 := Safe.wr W18 Sf_b12 HH Sf_b1
  have Sf'_b12 := Safe.wr W18 Sf_b12 HH Sf_b12
  have RR := RR.trans (CHr.wr W18 Sf_b12 HH)
  have HH := HH.wr W18 Sf_b12
  have Sf_b12 := Sf'_b12
  have hk := Nat.le_trans hk (Nat.le_of_eq W18.size.symm)
  have O := O.wr W18 g_b12
  have KK := KK.wr W18 (Or.inr sz_b12)
  show GoH _ _ _ _ _ _ _ _ _ _  T18 (mkF m 52 #[.val (.long p1), .second, .val (.int p3), .val (.ref b1), .unset, .unset, .unset, .unset, .unset, .unset, .unset, .unset, .unset, .unset, .unset, .unset, .unset] [(.ref b12)])
  refine GoH.st (fun tT kT => XS.dup X18.here hx rfl (hb hby at_52) rfl rfl kT) ?_
  refine GoH.st (fun tT kT => XS.iconst X18.here hx rfl (hb hby at_53) kT) ?_
  show GoH _ _ _ _ _ _ _ _ _ _  T18 (mkF m 54 #[.val (.long p1), .second, .val (.int p3), .val (.ref b1), .unset, .unset, .unset, .unset, .unset, .unset, .unset, .unset, .unset, .unset, .unset, .unset, .unset] [(.int (3 : Int32)), (.ref b12), (.ref b12)])
  refine GoH.st (X18.ldc2Long hx hown (mvT hZ (hwi hw 4 rfl)) (g := (mkF m 54 #[.val (.long p1), .second, .val (.int p3), .val (.ref b1), .unset, .unset, .unset, .unset, .unset, .unset, .unset, .unset, .unset, .unset, .unset, .unset, .unset] [(.int (3 : Int32)), (.ref b12), (.ref b12)])) rfl (hb hby at_54)) ?_
  show GoH _ _ _ _ _ _ _ _ _ _  T18 (mkF m 57 #[.val (.long p1), .second, .val (.int p3), .val (.ref b1), .unset, .unset, .unset, .unset, .unset, .unset, .unset, .unset, .unset, .unset, .unset, .unset, .unset] [(.long (1000 : Int64)), (.int (3 : Int32)), (.ref b12), (.ref b12)])
  obtain ⟨cl19, Ar19, q19, S19, M19, Hh19, G19⟩ := V_b12
  obtain ⟨T20, h20, X20, e20, W20, st20⟩ := stJ X18 hx hZ e18 Ar19 (j := (3 : Int32)) (inb_of S19 ⟨by decide, by decide⟩) (g := (mkF m 57 #[.val (.long p1), .second, .val (.int p3), .val (.ref b1), .unset, .unset, .unset, .unset, .unset, .unset, .unset, .unset, .unset, .unset, .unset, .unset, .unset] [(.long (1000 : Int64)), (.int (3 : Int32)), (.ref b12), (.ref b12)])) rfl rfl (hb hby at_57)
  refine GoH.st st20 ?_
  have V_b12 : Arv Z h20 b12 k12 .long (19 : Int32) [(.long (1 : Int64)), (.long (10 : Int64)), (.long (100 : Int64)), (.long (1000 : Int64)), (.long (0 : Int64)), (.long (0 : Int64)), (.long (0 : Int64)), (.long (0 : Int64)), (.long (0 : Int64)), (.long (0 : Int64)), (.long (0 : Int64)), (.long (0 : Int64)), (.long (0 : Int64)), (.long (0 : Int64)), (.long (0 : Int64)), (.long (0 : Int64)), (.long (0 : Int64)), (.long (0 : Int64)), (.long (0 : Int64))] (.long (0 : Int64)) := Arv.set Ar19 q19 S19 M19 Hh19 G19 rfl W20 3 rfl (Nat.le_of_ble_eq_true rfl)
  have N20 := Fr.snoc X20 N18 g_b12
  have V_b1 := V_b1.other W20 ne_b1_b12
  have Sf_b1 := Safe.wr W20 Sf_b12 HH Sf_b1
  have Sf'_b12 := Safe.wr W20 Sf_b12 HH Sf_b12
  have RR := RR.trans (CHr.wr W20 Sf_b12 HH)
  have HH := HH.wr W20 Sf_b12
  have Sf_b12 := Sf'_b12
  have hk := Nat.le_trans hk (Nat.le_of_eq W20.size.symm)
  have O := O.wr W20 g_b12
  have KK := KK.wr W20 (Or.inr sz_b12)
  show GoH _ _ _ _ _ _ _ _ _ _  T20 (mkF m 58 #[.val (.long p1), .second, .val (.int p3), .val (.ref b1), .unset, .unset, .unset, .unset, .unset, .unset, .unset, .unset, .unset, .unset, .unset, .unset, .unset] [(.ref b12)])
  refine GoH.st (fun tT kT => XS.dup X20.here hx rfl (hb hby at_58) rfl rfl kT) ?_
  refine GoH.st (fun tT kT => XS.iconst X20.here hx rfl (hb hby at_59) kT) ?_
  show GoH _ _ _ _ _ _ _ _ _ _  T20 (mkF m 60 #[.val (.long p1), .second, .val (.int p3), .val (.ref b1), .unset, .unset, .unset, .unset, .unset, .unset, .unset, .unset, .unset, .unset, .unset, .unset, .unset] [(.int (4 : Int32)), (.ref b12), (.ref b12)])
  refine GoH.st (X20.ldc2Long hx hown (mvT hZ (hwi hw 7 rfl)) (g := (mkF m 60 #[.val (.long p1), .second, .val (.int p3), .val (.ref b1), .unset, .unset, .unset, .unset, .unset, .unset, .unset, .unset, .unset, .unset, .unset, .unset, .unset] [(.int (4 : Int32)), (.ref b12), (.ref b12)])) rfl (hb hby at_60)) ?_
  show GoH _ _ _ _ _ _ _ _ _ _  T20 (mkF m 63 #[.val (.long p1), .second, .val (.int p3), .val (.ref b1), .unset, .unset, .unset, .unset, .unset, .unset, .unset, .unset, .unset, .unset, .unset, .unset, .unset] [(.long (10000 : Int64)), (.int (4 : Int32)), (.ref b12), (.ref b12)])
  obtain ⟨cl21, Ar21, q21, S21, M21, Hh21, G21⟩ := V_b12
  obtain ⟨T22, h22, X22, e22, W22, st22⟩ := stJ X20 hx hZ e20 Ar21 (j := (4 : Int32)) (inb_of S21 ⟨by decide, by decide⟩) (g := (mkF m 63 #[.val (.long p1), .second, .val (.int p3), .val (.ref b1), .unset, .unset, .unset, .unset, .unset, .unset, .unset, .unset, .unset, .unset, .unset, .unset, .unset] [(.long (10000 : Int64)), (.int (4 : Int32)), (.ref b12), (.ref b12)])) rfl rfl (hb hby at_63)
  refine GoH.st st22 ?_
  have V_b12 : Arv Z h22 b12 k12 .long (19 : Int32) [(.long (1 : Int64)), (.long (10 : Int64)), (.long (100 : Int64)), (.long (1000 : Int64)), (.long (10000 : Int64)), (.long (0 : Int64)), (.long (0 : Int64)), (.long (0 : Int64)), (.long (0 : Int64)), (.long (0 : Int64)), (.long (0 : Int64)), (.long (0 : Int64)), (.long (0 : Int64)), (.long (0 : Int64)), (.long (0 : Int64)), (.long (0 : Int64)), (.long (0 : Int64)), (.long (0 : Int64)), (.long (0 : Int64))] (.long (0 : Int64)) := Arv.set Ar21 q21 S21 M21 Hh21 G21 rfl W22 4 rfl (Nat.le_of_ble_eq_true rfl)
  have N22 := Fr.snoc X22 N20 g_b12
  have V_b1 := V_b1.other W22 ne_b1_b12
  have Sf_b1 := Safe.wr W22 Sf_b12 HH Sf_b1
  have Sf'_b12 := Safe.wr W22 Sf_b12 HH Sf_b12
  have RR := RR.trans (CHr.wr W22 Sf_b12 HH)
  have HH := HH.wr W22 Sf_b12
  have Sf_b12 := Sf'_b12
  have hk := Nat.le_trans hk (Nat.le_of_eq W22.size.symm)
  have O := O.wr W22 g_b12
  have KK := KK.wr W22 (Or.inr sz_b12)
  show GoH _ _ _ _ _ _ _ _ _ _  T22 (mkF m 64 #[.val (.long p1), .second, .val (.int p3), .val (.ref b1), .unset, .unset, .unset, .unset, .unset, .unset, .unset, .unset, .unset, .unset, .unset, .unset, .unset] [(.ref b12)])
  refine GoH.st (fun tT kT => XS.dup X22.here hx rfl (hb hby at_64) rfl rfl kT) ?_
  refine GoH.st (fun tT kT => XS.iconst X22.here hx rfl (hb hby at_65) kT) ?_
  show GoH _ _ _ _ _ _ _ _ _ _  T22 (mkF m 66 #[.val (.long p1), .second, .val (.int p3), .val (.ref b1), .unset, .unset, .unset, .unset, .unset, .unset, .unset, .unset, .unset, .unset, .unset, .unset, .unset] [(.int (5 : Int32)), (.ref b12), (.ref b12)])
  refine GoH.st (X22.ldc2Long hx hown (mvT hZ (hwi hw 8 rfl)) (g := (mkF m 66 #[.val (.long p1), .second, .val (.int p3), .val (.ref b1), .unset, .unset, .unset, .unset, .unset, .unset, .unset, .unset, .unset, .unset, .unset, .unset, .unset] [(.int (5 : Int32)), (.ref b12), (.ref b12)])) rfl (hb hby at_66)) ?_
  show GoH _ _ _ _ _ _ _ _ _ _  T22 (mkF m 69 #[.val (.long p1), .second, .val (.int p3), .val (.ref b1), .unset, .unset, .unset, .unset, .unset, .unset, .unset, .unset, .unset, .unset, .unset, .unset, .unset] [(.long (100000 : Int64)), (.int (5 : Int32)), (.ref b12), (.ref b12)])
  obtain ⟨cl23, Ar23, q23, S23, M23, Hh23, G23⟩ := V_b12
  obtain ⟨T24, h24, X24, e24, W24, st24⟩ := stJ X22 hx hZ e22 Ar23 (j := (5 : Int32)) (inb_of S23 ⟨by decide, by decide⟩) (g := (mkF m 69 #[.val (.long p1), .second, .val (.int p3), .val (.ref b1), .unset, .unset, .unset, .unset, .unset, .unset, .unset, .unset, .unset, .unset, .unset, .unset, .unset] [(.long (100000 : Int64)), (.int (5 : Int32)), (.ref b12), (.ref b12)])) rfl rfl (hb hby at_69)
  refine GoH.st st24 ?_
  have V_b12 : Arv Z h24 b12 k12 .long (19 : Int32) [(.long (1 : Int64)), (.long (10 : Int64)), (.long (100 : Int64)), (.long (1000 : Int64)), (.long (10000 : Int64)), (.long (100000 : Int64)), (.long (0 : Int64)), (.long (0 : Int64)), (.long (0 : Int64)), (.long (0 : Int64)), (.long (0 : Int64)), (.long (0 : Int64)), (.long (0 : Int64)), (.long (0 : Int64)), (.long (0 : Int64)), (.long (0 : Int64)), (.long (0 : Int64)), (.long (0 : Int64)), (.long (0 : Int64))] (.long (0 : Int64)) := Arv.set Ar23 q23 S23 M23 Hh23 G23 rfl W24 5 rfl (Nat.le_of_ble_eq_true rfl)
  have N24 := Fr.snoc X24 N22 g_b12
  have V_b1 := V_b1.other W24 ne_b1_b12
  have Sf_b1 := Safe.wr W24 Sf_b12 HH Sf_b1
  have Sf'_b12 := Safe.wr W24 Sf_b12 HH Sf_b12
  have RR := RR.trans (CHr.wr W24 Sf_b12 HH)
  have HH := HH.wr W24 Sf_b12
  have Sf_b12 := Sf'_b12
  have hk := Nat.le_trans hk (Nat.le_of_eq W24.size.symm)
  have O := O.wr W24 g_b12
  have KK := KK.wr W24 (Or.inr sz_b12)
  show GoH _ _ _ _ _ _ _ _ _ _  T24 (mkF m 70 #[.val (.long p1), .second, .val (.int p3), .val (.ref b1), .unset, .unset, .unset, .unset, .unset, .unset, .unset, .unset, .unset, .unset, .unset, .unset, .unset] [(.ref b12)])
  refine GoH.st (fun tT kT => XS.dup X24.here hx rfl (hb hby at_70) rfl rfl kT) ?_
  refine GoH.st (fun tT kT => XS.bipush X24.here hx rfl (hb hby at_71) kT) ?_
  show GoH _ _ _ _ _ _ _ _ _ _  T24 (mkF m 73 #[.val (.long p1), .second, .val (.int p3), .val (.ref b1), .unset, .unset, .unset, .unset, .unset, .unset, .unset, .unset, .unset, .unset, .unset, .unset, .unset] [(.int (6 : Int32)), (.ref b12), (.ref b12)])
  refine GoH.st (X24.ldc2Long hx hown (mvT hZ (hwi hw 9 rfl)) (g := (mkF m 73 #[.val (.long p1), .second, .val (.int p3), .val (.ref b1), .unset, .unset, .unset, .unset, .unset, .unset, .unset, .unset, .unset, .unset, .unset, .unset, .unset] [(.int (6 : Int32)), (.ref b12), (.ref b12)])) rfl (hb hby at_73)) ?_
  show GoH _ _ _ _ _ _ _ _ _ _  T24 (mkF m 76 #[.val (.long p1), .second, .val (.int p3), .val (.ref b1), .unset, .unset, .unset, .unset, .unset, .unset, .unset, .unset, .unset, .unset, .unset, .unset, .unset] [(.long (1000000 : Int64)), (.int (6 : Int32)), (.ref b12), (.ref b12)])
  obtain ⟨cl25, Ar25, q25, S25, M25, Hh25, G25⟩ := V_b12
  obtain ⟨T26, h26, X26, e26, W26, st26⟩ := stJ X24 hx hZ e24 Ar25 (j := (6 : Int32)) (inb_of S25 ⟨by decide, by decide⟩) (g := (mkF m 76 #[.val (.long p1), .second, .val (.int p3), .val (.ref b1), .unset, .unset, .unset, .unset, .unset, .unset, .unset, .unset, .unset, .unset, .unset, .unset, .unset] [(.long (1000000 : Int64)), (.int (6 : Int32)), (.ref b12), (.ref b12)])) rfl rfl (hb hby at_76)
  refine GoH.st st26 ?_
  have V_b12 : Arv Z h26 b12 k12 .long (19 : Int32) [(.long (1 : Int64)), (.long (10 : Int64)), (.long (100 : Int64)), (.long (1000 : Int64)), (.long (10000 : Int64)), (.long (100000 : Int64)), (.long (1000000 : Int64)), (.long (0 : Int64)), (.long (0 : Int64)), (.long (0 : Int64)), (.long (0 : Int64)), (.long (0 : Int64)), (.long (0 : Int64)), (.long (0 : Int64)), (.long (0 : Int64)), (.long (0 : Int64)), (.long (0 : Int64)), (.long (0 : Int64)), (.long (0 : Int64))] (.long (0 : Int64)) := Arv.set Ar25 q25 S25 M25 Hh25 G25 rfl W26 6 rfl (Nat.le_of_ble_eq_true rfl)
  have N26 := Fr.snoc X26 N24 g_b12
  have V_b1 := V_b1.other W26 ne_b1_b12
  have Sf_b1 := Safe.wr W26 Sf_b12 HH Sf_b1
  have Sf'_b12 := Safe.wr W26 Sf_b12 HH Sf_b12
  have RR := RR.trans (CHr.wr W26 Sf_b12 HH)
  have HH := HH.wr W26 Sf_b12
  have Sf_b12 := Sf'_b12
  have hk := Nat.le_trans hk (Nat.le_of_eq W26.size.symm)
  have O := O.wr W26 g_b12
  have KK := KK.wr W26 (Or.inr sz_b12)
  show GoH _ _ _ _ _ _ _ _ _ _  T26 (mkF m 77 #[.val (.long p1), .second, .val (.int p3), .val (.ref b1), .unset, .unset, .unset, .unset, .unset, .unset, .unset, .unset, .unset, .unset, .unset, .unset, .unset] [(.ref b12)])
  refine GoH.st (fun tT kT => XS.dup X26.here hx rfl (hb hby at_77) rfl rfl kT) ?_
  refine GoH.st (fun tT kT => XS.bipush X26.here hx rfl (hb hby at_78) kT) ?_
  show GoH _ _ _ _ _ _ _ _ _ _  T26 (mkF m 80 #[.val (.long p1), .second, .val (.int p3), .val (.ref b1), .unset, .unset, .unset, .unset, .unset, .unset, .unset, .unset, .unset, .unset, .unset, .unset, .unset] [(.int (7 : Int32)), (.ref b12), (.ref b12)])
  refine GoH.st (X26.ldc2Long hx hown (mvT hZ (hwi hw 10 rfl)) (g := (mkF m 80 #[.val (.long p1), .second, .val (.int p3), .val (.ref b1), .unset, .unset, .unset, .unset, .unset, .unset, .unset, .unset, .unset, .unset, .unset, .unset, .unset] [(.int (7 : Int32)), (.ref b12), (.ref b12)])) rfl (hb hby at_80)) ?_
  show GoH _ _ _ _ _ _ _ _ _ _  T26 (mkF m 83 #[.val (.long p1), .second, .val (.int p3), .val (.ref b1), .unset, .unset, .unset, .unset, .unset, .unset, .unset, .unset, .unset, .unset, .unset, .unset, .unset] [(.long (10000000 : Int64)), (.int (7 : Int32)), (.ref b12), (.ref b12)])
  obtain ⟨cl27, Ar27, q27, S27, M27, Hh27, G27⟩ := V_b12
  obtain ⟨T28, h28, X28, e28, W28, st28⟩ := stJ X26 hx hZ e26 Ar27 (j := (7 : Int32)) (inb_of S27 ⟨by decide, by decide⟩) (g := (mkF m 83 #[.val (.long p1), .second, .val (.int p3), .val (.ref b1), .unset, .unset, .unset, .unset, .unset, .unset, .unset, .unset, .unset, .unset, .unset, .unset, .unset] [(.long (10000000 : Int64)), (.int (7 : Int32)), (.ref b12), (.ref b12)])) rfl rfl (hb hby at_83)
  refine GoH.st st28 ?_
  have V_b12 : Arv Z h28 b12 k12 .long (19 : Int32) [(.long (1 : Int64)), (.long (10 : Int64)), (.long (100 : Int64)), (.long (1000 : Int64)), (.long (10000 : Int64)), (.long (100000 : Int64)), (.long (1000000 : Int64)), (.long (10000000 : Int64)), (.long (0 : Int64)), (.long (0 : Int64)), (.long (0 : Int64)), (.long (0 : Int64)), (.long (0 : Int64)), (.long (0 : Int64)), (.long (0 : Int64)), (.long (0 : Int64)), (.long (0 : Int64)), (.long (0 : Int64)), (.long (0 : Int64))] (.long (0 : Int64)) := Arv.set Ar27 q27 S27 M27 Hh27 G27 rfl W28 7 rfl (Nat.le_of_ble_eq_true rfl)
  have N28 := Fr.snoc X28 N26 g_b12
  have V_b1 := V_b1.other W28 ne_b1_b12
  have Sf_b1 := Safe.wr W28 Sf_b12 HH Sf_b1
  have Sf'_b12 := Safe.wr W28 Sf_b12 HH Sf_b12
  have RR := RR.trans (CHr.wr W28 Sf_b12 HH)
  have HH := HH.wr W28 Sf_b12
  have Sf_b12 := Sf'_b12
  have hk := Nat.le_trans hk (Nat.le_of_eq W28.size.symm)
  have O := O.wr W28 g_b12
  have KK := KK.wr W28 (Or.inr sz_b12)
  show GoH _ _ _ _ _ _ _ _ _ _  T28 (mkF m 84 #[.val (.long p1), .second, .val (.int p3), .val (.ref b1), .unset, .unset, .unset, .unset, .unset, .unset, .unset, .unset, .unset, .unset, .unset, .unset, .unset] [(.ref b12)])
  refine GoH.st (fun tT kT => XS.dup X28.here hx rfl (hb hby at_84) rfl rfl kT) ?_
  refine GoH.st (fun tT kT => XS.bipush X28.here hx rfl (hb hby at_85) kT) ?_
  show GoH _ _ _ _ _ _ _ _ _ _  T28 (mkF m 87 #[.val (.long p1), .second, .val (.int p3), .val (.ref b1), .unset, .unset, .unset, .unset, .unset, .unset, .unset, .unset, .unset, .unset, .unset, .unset, .unset] [(.int (8 : Int32)), (.ref b12), (.ref b12)])
  refine GoH.st (X28.ldc2Long hx hown (mvT hZ (hwi hw 11 rfl)) (g := (mkF m 87 #[.val (.long p1), .second, .val (.int p3), .val (.ref b1), .unset, .unset, .unset, .unset, .unset, .unset, .unset, .unset, .unset, .unset, .unset, .unset, .unset] [(.int (8 : Int32)), (.ref b12), (.ref b12)])) rfl (hb hby at_87)) ?_
  show GoH _ _ _ _ _ _ _ _ _ _  T28 (mkF m 90 #[.val (.long p1), .second, .val (.int p3), .val (.ref b1), .unset, .unset, .unset, .unset, .unset, .unset, .unset, .unset, .unset, .unset, .unset, .unset, .unset] [(.long (100000000 : Int64)), (.int (8 : Int32)), (.ref b12), (.ref b12)])
  obtain ⟨cl29, Ar29, q29, S29, M29, Hh29, G29⟩ := V_b12
  obtain ⟨T30, h30, X30, e30, W30, st30⟩ := stJ X28 hx hZ e28 Ar29 (j := (8 : Int32)) (inb_of S29 ⟨by decide, by decide⟩) (g := (mkF m 90 #[.val (.long p1), .second, .val (.int p3), .val (.ref b1), .unset, .unset, .unset, .unset, .unset, .unset, .unset, .unset, .unset, .unset, .unset, .unset, .unset] [(.long (100000000 : Int64)), (.int (8 : Int32)), (.ref b12), (.ref b12)])) rfl rfl (hb hby at_90)
  refine GoH.st st30 ?_
  have V_b12 : Arv Z h30 b12 k12 .long (19 : Int32) [(.long (1 : Int64)), (.long (10 : Int64)), (.long (100 : Int64)), (.long (1000 : Int64)), (.long (10000 : Int64)), (.long (100000 : Int64)), (.long (1000000 : Int64)), (.long (10000000 : Int64)), (.long (100000000 : Int64)), (.long (0 : Int64)), (.long (0 : Int64)), (.long (0 : Int64)), (.long (0 : Int64)), (.long (0 : Int64)), (.long (0 : Int64)), (.long (0 : Int64)), (.long (0 : Int64)), (.long (0 : Int64)), (.long (0 : Int64))] (.long (0 : Int64)) := Arv.set Ar29 q29 S29 M29 Hh29 G29 rfl W30 8 rfl (Nat.le_of_ble_eq_true rfl)
  have N30 := Fr.snoc X30 N28 g_b12
  have V_b1 := V_b1.other W30 ne_b1_b12
  have Sf_b1 := Safe.wr W30 Sf_b12 HH Sf_b1
  have Sf'_b12 := Safe.wr W30 Sf_b12 HH Sf_b12
  have RR := RR.trans (CHr.wr W30 Sf_b12 HH)
  have HH := HH.wr W30 Sf_b12
  have Sf_b12 := Sf'_b12
  have hk := Nat.le_trans hk (Nat.le_of_eq W30.size.symm)
  have O := O.wr W30 g_b12
  have KK := KK.wr W30 (Or.inr sz_b12)
  show GoH _ _ _ _ _ _ _ _ _ _  T30 (mkF m 91 #[.val (.long p1), .second, .val (.int p3), .val (.ref b1), .unset, .unset, .unset, .unset, .unset, .unset, .unset, .unset, .unset, .unset, .unset, .unset, .unset] [(.ref b12)])
  refine GoH.st (fun tT kT => XS.dup X30.here hx rfl (hb hby at_91) rfl rfl kT) ?_
  refine GoH.st (fun tT kT => XS.bipush X30.here hx rfl (hb hby at_92) kT) ?_
  show GoH _ _ _ _ _ _ _ _ _ _  T30 (mkF m 94 #[.val (.long p1), .second, .val (.int p3), .val (.ref b1), .unset, .unset, .unset, .unset, .unset, .unset, .unset, .unset, .unset, .unset, .unset, .unset, .unset] [(.int (9 : Int32)), (.ref b12), (.ref b12)])
  refine GoH.st (X30.ldc2Long hx hown (mvT hZ (hwi hw 12 rfl)) (g := (mkF m 94 #[.val (.long p1), .second, .val (.int p3), .val (.ref b1), .unset, .unset, .unset, .unset, .unset, .unset, .unset, .unset, .unset, .unset, .unset, .unset, .unset] [(.int (9 : Int32)), (.ref b12), (.ref b12)])) rfl (hb hby at_94)) ?_
  show GoH _ _ _ _ _ _ _ _ _ _  T30 (mkF m 97 #[.val (.long p1), .second, .val (.int p3), .val (.ref b1), .unset, .unset, .unset, .unset, .unset, .unset, .unset, .unset, .unset, .unset, .unset, .unset, .unset] [(.long (1000000000 : Int64)), (.int (9 : Int32)), (.ref b12), (.ref b12)])
  obtain ⟨cl31, Ar31, q31, S31, M31, Hh31, G31⟩ := V_b12
  obtain ⟨T32, h32, X32, e32, W32, st32⟩ := stJ X30 hx hZ e30 Ar31 (j := (9 : Int32)) (inb_of S31 ⟨by decide, by decide⟩) (g := (mkF m 97 #[.val (.long p1), .second, .val (.int p3), .val (.ref b1), .unset, .unset, .unset, .unset, .unset, .unset, .unset, .unset, .unset, .unset, .unset, .unset, .unset] [(.long (1000000000 : Int64)), (.int (9 : Int32)), (.ref b12), (.ref b12)])) rfl rfl (hb hby at_97)
  refine GoH.st st32 ?_
  have V_b12 : Arv Z h32 b12 k12 .long (19 : Int32) [(.long (1 : Int64)), (.long (10 : Int64)), (.long (100 : Int64)), (.long (1000 : Int64)), (.long (10000 : Int64)), (.long (100000 : Int64)), (.long (1000000 : Int64)), (.long (10000000 : Int64)), (.long (100000000 : Int64)), (.long (1000000000 : Int64)), (.long (0 : Int64)), (.long (0 : Int64)), (.long (0 : Int64)), (.long (0 : Int64)), (.long (0 : Int64)), (.long (0 : Int64)), (.long (0 : Int64)), (.long (0 : Int64)), (.long (0 : Int64))] (.long (0 : Int64)) := Arv.set Ar31 q31 S31 M31 Hh31 G31 rfl W32 9 rfl (Nat.le_of_ble_eq_true rfl)
  have N32 := Fr.snoc X32 N30 g_b12
  have V_b1 := V_b1.other W32 ne_b1_b12
  have Sf_b1 := Safe.wr W32 Sf_b12 HH Sf_b1
  have Sf'_b12 := Safe.wr W32 Sf_b12 HH Sf_b12
  have RR := RR.trans (CHr.wr W32 Sf_b12 HH)
  have HH := HH.wr W32 Sf_b12
  have Sf_b12 := Sf'_b12
  have hk := Nat.le_trans hk (Nat.le_of_eq W32.size.symm)
  have O := O.wr W32 g_b12
  have KK := KK.wr W32 (Or.inr sz_b12)
  show GoH _ _ _ _ _ _ _ _ _ _  T32 (mkF m 98 #[.val (.long p1), .second, .val (.int p3), .val (.ref b1), .unset, .unset, .unset, .unset, .unset, .unset, .unset, .unset, .unset, .unset, .unset, .unset, .unset] [(.ref b12)])
  refine GoH.st (fun tT kT => XS.dup X32.here hx rfl (hb hby at_98) rfl rfl kT) ?_
  refine GoH.st (fun tT kT => XS.bipush X32.here hx rfl (hb hby at_99) kT) ?_
  show GoH _ _ _ _ _ _ _ _ _ _  T32 (mkF m 101 #[.val (.long p1), .second, .val (.int p3), .val (.ref b1), .unset, .unset, .unset, .unset, .unset, .unset, .unset, .unset, .unset, .unset, .unset, .unset, .unset] [(.int (10 : Int32)), (.ref b12), (.ref b12)])
  refine GoH.st (X32.ldc2Long hx hown (mvT hZ (hwi hw 13 rfl)) (g := (mkF m 101 #[.val (.long p1), .second, .val (.int p3), .val (.ref b1), .unset, .unset, .unset, .unset, .unset, .unset, .unset, .unset, .unset, .unset, .unset, .unset, .unset] [(.int (10 : Int32)), (.ref b12), (.ref b12)])) rfl (hb hby at_101)) ?_
  show GoH _ _ _ _ _ _ _ _ _ _  T32 (mkF m 104 #[.val (.long p1), .second, .val (.int p3), .val (.ref b1), .unset, .unset, .unset, .unset, .unset, .unset, .unset, .unset, .unset, .unset, .unset, .unset, .unset] [(.long (10000000000 : Int64)), (.int (10 : Int32)), (.ref b12), (.ref b12)])
  obtain ⟨cl33, Ar33, q33, S33, M33, Hh33, G33⟩ := V_b12
  obtain ⟨T34, h34, X34, e34, W34, st34⟩ := stJ X32 hx hZ e32 Ar33 (j := (10 : Int32)) (inb_of S33 ⟨by decide, by decide⟩) (g := (mkF m 104 #[.val (.long p1), .second, .val (.int p3), .val (.ref b1), .unset, .unset, .unset, .unset, .unset, .unset, .unset, .unset, .unset, .unset, .unset, .unset, .unset] [(.long (10000000000 : Int64)), (.int (10 : Int32)), (.ref b12), (.ref b12)])) rfl rfl (hb hby at_104)
  refine GoH.st st34 ?_
  have V_b12 : Arv Z h34 b12 k12 .long (19 : Int32) [(.long (1 : Int64)), (.long (10 : Int64)), (.long (100 : Int64)), (.long (1000 : Int64)), (.long (10000 : Int64)), (.long (100000 : Int64)), (.long (1000000 : Int64)), (.long (10000000 : Int64)), (.long (100000000 : Int64)), (.long (1000000000 : Int64)), (.long (10000000000 : Int64)), (.long (0 : Int64)), (.long (0 : Int64)), (.long (0 : Int64)), (.long (0 : Int64)), (.long (0 : Int64)), (.long (0 : Int64)), (.long (0 : Int64)), (.long (0 : Int64))] (.long (0 : Int64)) := Arv.set Ar33 q33 S33 M33 Hh33 G33 rfl W34 10 rfl (Nat.le_of_ble_eq_true rfl)
  have N34 := Fr.snoc X34 N32 g_b12
  have V_b1 := V_b1.other W34 ne_b1_b12
  have Sf_b1 := Safe.wr W34 Sf_b12 HH Sf_b1
  have Sf'_b12 := Safe.wr W34 Sf_b12 HH Sf_b12
  have RR := RR.trans (CHr.wr W34 Sf_b12 HH)
  have HH := HH.wr W34 Sf_b12
  have Sf_b12 := Sf'_b12
  have hk := Nat.le_trans hk (Nat.le_of_eq W34.size.symm)
  have O := O.wr W34 g_b12
  have KK := KK.wr W34 (Or.inr sz_b12)
  show GoH _ _ _ _ _ _ _ _ _ _  T34 (mkF m 105 #[.val (.long p1), .second, .val (.int p3), .val (.ref b1), .unset, .unset, .unset, .unset, .unset, .unset, .unset, .unset, .unset, .unset, .unset, .unset, .unset] [(.ref b12)])
  refine GoH.st (fun tT kT => XS.dup X34.here hx rfl (hb hby at_105) rfl rfl kT) ?_
  refine GoH.st (fun tT kT => XS.bipush X34.here hx rfl (hb hby at_106) kT) ?_
  show GoH _ _ _ _ _ _ _ _ _ _  T34 (mkF m 108 #[.val (.long p1), .second, .val (.int p3), .val (.ref b1), .unset, .unset, .unset, .unset, .unset, .unset, .unset, .unset, .unset, .unset, .unset, .unset, .unset] [(.int (11 : Int32)), (.ref b12), (.ref b12)])
  refine GoH.st (X34.ldc2Long hx hown (mvT hZ (hwi hw 14 rfl)) (g := (mkF m 108 #[.val (.long p1), .second, .val (.int p3), .val (.ref b1), .unset, .unset, .unset, .unset, .unset, .unset, .unset, .unset, .unset, .unset, .unset, .unset, .unset] [(.int (11 : Int32)), (.ref b12), (.ref b12)])) rfl (hb hby at_108)) ?_
  show GoH _ _ _ _ _ _ _ _ _ _  T34 (mkF m 111 #[.val (.long p1), .second, .val (.int p3), .val (.ref b1), .unset, .unset, .unset, .unset, .unset, .unset, .unset, .unset, .unset, .unset, .unset, .unset, .unset] [(.long (100000000000 : Int64)), (.int (11 : Int32)), (.ref b12), (.ref b12)])
  obtain ⟨cl35, Ar35, q35, S35, M35, Hh35, G35⟩ := V_b12
  obtain ⟨T36, h36, X36, e36, W36, st36⟩ := stJ X34 hx hZ e34 Ar35 (j := (11 : Int32)) (inb_of S35 ⟨by decide, by decide⟩) (g := (mkF m 111 #[.val (.long p1), .second, .val (.int p3), .val (.ref b1), .unset, .unset, .unset, .unset, .unset, .unset, .unset, .unset, .unset, .unset, .unset, .unset, .unset] [(.long (100000000000 : Int64)), (.int (11 : Int32)), (.ref b12), (.ref b12)])) rfl rfl (hb hby at_111)
  refine GoH.st st36 ?_
  have V_b12 : Arv Z h36 b12 k12 .long (19 : Int32) [(.long (1 : Int64)), (.long (10 : Int64)), (.long (100 : Int64)), (.long (1000 : Int64)), (.long (10000 : Int64)), (.long (100000 : Int64)), (.long (1000000 : Int64)), (.long (10000000 : Int64)), (.long (100000000 : Int64)), (.long (1000000000 : Int64)), (.long (10000000000 : Int64)), (.long (100000000000 : Int64)), (.long (0 : Int64)), (.long (0 : Int64)), (.long (0 : Int64)), (.long (0 : Int64)), (.long (0 : Int64)), (.long (0 : Int64)), (.long (0 : Int64))] (.long (0 : Int64)) := Arv.set Ar35 q35 S35 M35 Hh35 G35 rfl W36 11 rfl (Nat.le_of_ble_eq_true rfl)
  have N36 := Fr.snoc X36 N34 g_b12
  have V_b1 := V_b1.other W36 ne_b1_b12
  have Sf_b1 := Safe.wr W36 Sf_b12 HH Sf_b1
  have Sf'_b12 := Safe.wr W36 Sf_b12 HH Sf_b12
  have RR := RR.trans (CHr.wr W36 Sf_b12 HH)
  have HH := HH.wr W36 Sf_b12
  have Sf_b12 := Sf'_b12
  have hk := Nat.le_trans hk (Nat.le_of_eq W36.size.symm)
  have O := O.wr W36 g_b12
  have KK := KK.wr W36 (Or.inr sz_b12)
  show GoH _ _ _ _ _ _ _ _ _ _  T36 (mkF m 112 #[.val (.long p1), .second, .val (.int p3), .val (.ref b1), .unset, .unset, .unset, .unset, .unset, .unset, .unset, .unset, .unset, .unset, .unset, .unset, .unset] [(.ref b12)])
  refine GoH.st (fun tT kT => XS.dup X36.here hx rfl (hb hby at_112) rfl rfl kT) ?_
  refine GoH.st (fun tT kT => XS.bipush X36.here hx rfl (hb hby at_113) kT) ?_
  show GoH _ _ _ _ _ _ _ _ _ _  T36 (mkF m 115 #[.val (.long p1), .second, .val (.int p3), .val (.ref b1), .unset, .unset, .unset, .unset, .unset, .unset, .unset, .unset, .unset, .unset, .unset, .unset, .unset] [(.int (12 : Int32)), (.ref b12), (.ref b12)])
  refine GoH.st (X36.ldc2Long hx hown (mvT hZ (hwi hw 15 rfl)) (g := (mkF m 115 #[.val (.long p1), .second, .val (.int p3), .val (.ref b1), .unset, .unset, .unset, .unset, .unset, .unset, .unset, .unset, .unset, .unset, .unset, .unset, .unset] [(.int (12 : Int32)), (.ref b12), (.ref b12)])) rfl (hb hby at_115)) ?_
  show GoH _ _ _ _ _ _ _ _ _ _  T36 (mkF m 118 #[.val (.long p1), .second, .val (.int p3), .val (.ref b1), .unset, .unset, .unset, .unset, .unset, .unset, .unset, .unset, .unset, .unset, .unset, .unset, .unset] [(.long (1000000000000 : Int64)), (.int (12 : Int32)), (.ref b12), (.ref b12)])
  obtain ⟨cl37, Ar37, q37, S37, M37, Hh37, G37⟩ := V_b12
  obtain ⟨T38, h38, X38, e38, W38, st38⟩ := stJ X36 hx hZ e36 Ar37 (j := (12 : Int32)) (inb_of S37 ⟨by decide, by decide⟩) (g := (mkF m 118 #[.val (.long p1), .second, .val (.int p3), .val (.ref b1), .unset, .unset, .unset, .unset, .unset, .unset, .unset, .unset, .unset, .unset, .unset, .unset, .unset] [(.long (1000000000000 : Int64)), (.int (12 : Int32)), (.ref b12), (.ref b12)])) rfl rfl (hb hby at_118)
  refine GoH.st st38 ?_
  have V_b12 : Arv Z h38 b12 k12 .long (19 : Int32) [(.long (1 : Int64)), (.long (10 : Int64)), (.long (100 : Int64)), (.long (1000 : Int64)), (.long (10000 : Int64)), (.long (100000 : Int64)), (.long (1000000 : Int64)), (.long (10000000 : Int64)), (.long (100000000 : Int64)), (.long (1000000000 : Int64)), (.long (10000000000 : Int64)), (.long (100000000000 : Int64)), (.long (1000000000000 : Int64)), (.long (0 : Int64)), (.long (0 : Int64)), (.long (0 : Int64)), (.long (0 : Int64)), (.long (0 : Int64)), (.long (0 : Int64))] (.long (0 : Int64)) := Arv.set Ar37 q37 S37 M37 Hh37 G37 rfl W38 12 rfl (Nat.le_of_ble_eq_true rfl)
  have N38 := Fr.snoc X38 N36 g_b12
  have V_b1 := V_b1.other W38 ne_b1_b12
  have Sf_b1 := Safe.wr W38 Sf_b12 HH Sf_b1
  have Sf'_b12 := Safe.wr W38 Sf_b12 HH Sf_b12
  have RR := RR.trans (CHr.wr W38 Sf_b12 HH)
  have HH := HH.wr W38 Sf_b12
  have Sf_b12 := Sf'_b12
  have hk := Nat.le_trans hk (Nat.le_of_eq W38.size.symm)
  have O := O.wr W38 g_b12
  have KK := KK.wr W38 (Or.inr sz_b12)
  show GoH _ _ _ _ _ _ _ _ _ _  T38 (mkF m 119 #[.val (.long p1), .second, .val (.int p3), .val (.ref b1), .unset, .unset, .unset, .unset, .unset, .unset, .unset, .unset, .unset, .unset, .unset, .unset, .unset] [(.ref b12)])
  refine GoH.st (fun tT kT => XS.dup X38.here hx rfl (hb hby at_119) rfl rfl kT) ?_
  refine GoH.st (fun tT kT => XS.bipush X38.here hx rfl (hb hby at_120) kT) ?_
  show GoH _ _ _ _ _ _ _ _ _ _  T38 (mkF m 122 #[.val (.long p1), .second, .val (.int p3), .val (.ref b1), .unset, .unset, .unset, .unset, .unset, .unset, .unset, .unset, .unset, .unset, .unset, .unset, .unset] [(.int (13 : Int32)), (.ref b12), (.ref b12)])
  refine GoH.st (X38.ldc2Long hx hown (mvT hZ (hwi hw 16 rfl)) (g := (mkF m 122 #[.val (.long p1), .second, .val (.int p3), .val (.ref b1), .unset, .unset, .unset, .unset, .unset, .unset, .unset, .unset, .unset, .unset, .unset, .unset, .unset] [(.int (13 : Int32)), (.ref b12), (.ref b12)])) rfl (hb hby at_122)) ?_
  show GoH _ _ _ _ _ _ _ _ _ _  T38 (mkF m 125 #[.val (.long p1), .second, .val (.int p3), .val (.ref b1), .unset, .unset, .unset, .unset, .unset, .unset, .unset, .unset, .unset, .unset, .unset, .unset, .unset] [(.long (10000000000000 : Int64)), (.int (13 : Int32)), (.ref b12), (.ref b12)])
  obtain ⟨cl39, Ar39, q39, S39, M39, Hh39, G39⟩ := V_b12
  obtain ⟨T40, h40, X40, e40, W40, st40⟩ := stJ X38 hx hZ e38 Ar39 (j := (13 : Int32)) (inb_of S39 ⟨by decide, by decide⟩) (g := (mkF m 125 #[.val (.long p1), .second, .val (.int p3), .val (.ref b1), .unset, .unset, .unset, .unset, .unset, .unset, .unset, .unset, .unset, .unset, .unset, .unset, .unset] [(.long (10000000000000 : Int64)), (.int (13 : Int32)), (.ref b12), (.ref b12)])) rfl rfl (hb hby at_125)
  refine GoH.st st40 ?_
  have V_b12 : Arv Z h40 b12 k12 .long (19 : Int32) [(.long (1 : Int64)), (.long (10 : Int64)), (.long (100 : Int64)), (.long (1000 : Int64)), (.long (10000 : Int64)), (.long (100000 : Int64)), (.long (1000000 : Int64)), (.long (10000000 : Int64)), (.long (100000000 : Int64)), (.long (1000000000 : Int64)), (.long (10000000000 : Int64)), (.long (100000000000 : Int64)), (.long (1000000000000 : Int64)), (.long (10000000000000 : Int64)), (.long (0 : Int64)), (.long (0 : Int64)), (.long (0 : Int64)), (.long (0 : Int64)), (.long (0 : Int64))] (.long (0 : Int64)) := Arv.set Ar39 q39 S39 M39 Hh39 G39 rfl W40 13 rfl (Nat.le_of_ble_eq_true rfl)
  have N40 := Fr.snoc X40 N38 g_b12
  have V_b1 := V_b1.other W40 ne_b1_b12
  have Sf_b1 := Safe.wr W40 Sf_b12 HH Sf_b1
  have Sf'_b12 := Safe.wr W40 Sf_b12 HH Sf_b12
  have RR := RR.trans (CHr.wr W40 Sf_b12 HH)
  have HH := HH.wr W40 Sf_b12
  have Sf_b12 := Sf'_b12
  have hk := Nat.le_trans hk (Nat.le_of_eq W40.size.symm)
  have O := O.wr W40 g_b12
  have KK := KK.wr W40 (Or.inr sz_b12)
  show GoH _ _ _ _ _ _ _ _ _ _  T40 (mkF m 126 #[.val (.long p1), .second, .val (.int p3), .val (.ref b1), .unset, .unset, .unset, .unset, .unset, .unset, .unset, .unset, .unset, .unset, .unset, .unset, .unset] [(.ref b12)])
  refine GoH.st (fun tT kT => XS.dup X40.here hx rfl (hb hby at_126) rfl rfl kT) ?_
  refine GoH.st (fun tT kT => XS.bipush X40.here hx rfl (hb hby at_127) kT) ?_
  show GoH _ _ _ _ _ _ _ _ _ _  T40 (mkF m 129 #[.val (.long p1), .second, .val (.int p3), .val (.ref b1), .unset, .unset, .unset, .unset, .unset, .unset, .unset, .unset, .unset, .unset, .unset, .unset, .unset] [(.int (14 : Int32)), (.ref b12), (.ref b12)])
  refine GoH.st (X40.ldc2Long hx hown (mvT hZ (hwi hw 17 rfl)) (g := (mkF m 129 #[.val (.long p1), .second, .val (.int p3), .val (.ref b1), .unset, .unset, .unset, .unset, .unset, .unset, .unset, .unset, .unset, .unset, .unset, .unset, .unset] [(.int (14 : Int32)), (.ref b12), (.ref b12)])) rfl (hb hby at_129)) ?_
  show GoH _ _ _ _ _ _ _ _ _ _  T40 (mkF m 132 #[.val (.long p1), .second, .val (.int p3), .val (.ref b1), .unset, .unset, .unset, .unset, .unset, .unset, .unset, .unset, .unset, .unset, .unset, .unset, .unset] [(.long (100000000000000 : Int64)), (.int (14 : Int32)), (.ref b12), (.ref b12)])
  obtain ⟨cl41, Ar41, q41, S41, M41, Hh41, G41⟩ := V_b12
  obtain ⟨T42, h42, X42, e42, W42, st42⟩ := stJ X40 hx hZ e40 Ar41 (j := (14 : Int32)) (inb_of S41 ⟨by decide, by decide⟩) (g := (mkF m 132 #[.val (.long p1), .second, .val (.int p3), .val (.ref b1), .unset, .unset, .unset, .unset, .unset, .unset, .unset, .unset, .unset, .unset, .unset, .unset, .unset] [(.long (100000000000000 : Int64)), (.int (14 : Int32)), (.ref b12), (.ref b12)])) rfl rfl (hb hby at_132)
  refine GoH.st st42 ?_
  have V_b12 : Arv Z h42 b12 k12 .long (19 : Int32) [(.long (1 : Int64)), (.long (10 : Int64)), (.long (100 : Int64)), (.long (1000 : Int64)), (.long (10000 : Int64)), (.long (100000 : Int64)), (.long (1000000 : Int64)), (.long (10000000 : Int64)), (.long (100000000 : Int64)), (.long (1000000000 : Int64)), (.long (10000000000 : Int64)), (.long (100000000000 : Int64)), (.long (1000000000000 : Int64)), (.long (10000000000000 : Int64)), (.long (100000000000000 : Int64)), (.long (0 : Int64)), (.long (0 : Int64)), (.long (0 : Int64)), (.long (0 : Int64))] (.long (0 : Int64)) := Arv.set Ar41 q41 S41 M41 Hh41 G41 rfl W42 14 rfl (Nat.le_of_ble_eq_true rfl)
  have N42 := Fr.snoc X42 N40 g_b12
  have V_b1 := V_b1.other W42 ne_b1_b12
  have Sf_b1 := Safe.wr W42 Sf_b12 HH Sf_b1
  have Sf'_b12 := Safe.wr W42 Sf_b12 HH Sf_b12
  have RR := RR.trans (CHr.wr W42 Sf_b12 HH)
  have HH := HH.wr W42 Sf_b12
  have Sf_b12 := Sf'_b12
  have hk := Nat.le_trans hk (Nat.le_of_eq W42.size.symm)
  have O := O.wr W42 g_b12
  have KK := KK.wr W42 (Or.inr sz_b12)
  show GoH _ _ _ _ _ _ _ _ _ _  T42 (mkF m 133 #[.val (.long p1), .second, .val (.int p3), .val (.ref b1), .unset, .unset, .unset, .unset, .unset, .unset, .unset, .unset, .unset, .unset, .unset, .unset, .unset] [(.ref b12)])
  refine GoH.st (fun tT kT => XS.dup X42.here hx rfl (hb hby at_133) rfl rfl kT) ?_
  refine GoH.st (fun tT kT => XS.bipush X42.here hx rfl (hb hby at_134) kT) ?_
  show GoH _ _ _ _ _ _ _ _ _ _  T42 (mkF m 136 #[.val (.long p1), .second, .val (.int p3), .val (.ref b1), .unset, .unset, .unset, .unset, .unset, .unset, .unset, .unset, .unset, .unset, .unset, .unset, .unset] [(.int (15 : Int32)), (.ref b12), (.ref b12)])
  refine GoH.st (X42.ldc2Long hx hown (mvT hZ (hwi hw 18 rfl)) (g := (mkF m 136 #[.val (.long p1), .second, .val (.int p3), .val (.ref b1), .unset, .unset, .unset, .unset, .unset, .unset, .unset, .unset, .unset, .unset, .unset, .unset, .unset] [(.int (15 : Int32)), (.ref b12), (.ref b12)])) rfl (hb hby at_136)) ?_
  show GoH _ _ _ _ _ _ _ _ _ _  T42 (mkF m 139 #[.val (.long p1), .second, .val (.int p3), .val (.ref b1), .unset, .unset, .unset, .unset, .unset, .unset, .unset, .unset, .unset, .unset, .unset, .unset, .unset] [(.long (1000000000000000 : Int64)), (.int (15 : Int32)), (.ref b12), (.ref b12)])
  obtain ⟨cl43, Ar43, q43, S43, M43, Hh43, G43⟩ := V_b12
  obtain ⟨T44, h44, X44, e44, W44, st44⟩ := stJ X42 hx hZ e42 Ar43 (j := (15 : Int32)) (inb_of S43 ⟨by decide, by decide⟩) (g := (mkF m 139 #[.val (.long p1), .second, .val (.int p3), .val (.ref b1), .unset, .unset, .unset, .unset, .unset, .unset, .unset, .unset, .unset, .unset, .unset, .unset, .unset] [(.long (1000000000000000 : Int64)), (.int (15 : Int32)), (.ref b12), (.ref b12)])) rfl rfl (hb hby at_139)
  refine GoH.st st44 ?_
  have V_b12 : Arv Z h44 b12 k12 .long (19 : Int32) [(.long (1 : Int64)), (.long (10 : Int64)), (.long (100 : Int64)), (.long (1000 : Int64)), (.long (10000 : Int64)), (.long (100000 : Int64)), (.long (1000000 : Int64)), (.long (10000000 : Int64)), (.long (100000000 : Int64)), (.long (1000000000 : Int64)), (.long (10000000000 : Int64)), (.long (100000000000 : Int64)), (.long (1000000000000 : Int64)), (.long (10000000000000 : Int64)), (.long (100000000000000 : Int64)), (.long (1000000000000000 : Int64)), (.long (0 : Int64)), (.long (0 : Int64)), (.long (0 : Int64))] (.long (0 : Int64)) := Arv.set Ar43 q43 S43 M43 Hh43 G43 rfl W44 15 rfl (Nat.le_of_ble_eq_true rfl)
  have N44 := Fr.snoc X44 N42 g_b12
  have V_b1 := V_b1.other W44 ne_b1_b12
  have Sf_b1 := Safe.wr W44 Sf_b12 HH Sf_b1
  have Sf'_b12 := Safe.wr W44 Sf_b12 HH Sf_b12
  have RR := RR.trans (CHr.wr W44 Sf_b12 HH)
  have HH := HH.wr W44 Sf_b12
  have Sf_b12 := Sf'_b12
  have hk := Nat.le_trans hk (Nat.le_of_eq W44.size.symm)
  have O := O.wr W44 g_b12
  have KK := KK.wr W44 (Or.inr sz_b12)
  show GoH _ _ _ _ _ _ _ _ _ _  T44 (mkF m 140 #[.val (.long p1), .second, .val (.int p3), .val (.ref b1), .unset, .unset, .unset, .unset, .unset, .unset, .unset, .unset, .unset, .unset, .unset, .unset, .unset] [(.ref b12)])
  refine GoH.st (fun tT kT => XS.dup X44.here hx rfl (hb hby at_140) rfl rfl kT) ?_
  refine GoH.st (fun tT kT => XS.bipush X44.here hx rfl (hb hby at_141) kT) ?_
  show GoH _ _ _ _ _ _ _ _ _ _  T44 (mkF m 143 #[.val (.long p1), .second, .val (.int p3), .val (.ref b1), .unset, .unset, .unset, .unset, .unset, .unset, .unset, .unset, .unset, .unset, .unset, .unset, .unset] [(.int (16 : Int32)), (.ref b12), (.ref b12)])
  refine GoH.st (X44.ldc2Long hx hown (mvT hZ (hwi hw 19 rfl)) (g := (mkF m 143 #[.val (.long p1), .second, .val (.int p3), .val (.ref b1), .unset, .unset, .unset, .unset, .unset, .unset, .unset, .unset, .unset, .unset, .unset, .unset, .unset] [(.int (16 : Int32)), (.ref b12), (.ref b12)])) rfl (hb hby at_143)) ?_
  show GoH _ _ _ _ _ _ _ _ _ _  T44 (mkF m 146 #[.val (.long p1), .second, .val (.int p3), .val (.ref b1), .unset, .unset, .unset, .unset, .unset, .unset, .unset, .unset, .unset, .unset, .unset, .unset, .unset] [(.long (10000000000000000 : Int64)), (.int (16 : Int32)), (.ref b12), (.ref b12)])
  obtain ⟨cl45, Ar45, q45, S45, M45, Hh45, G45⟩ := V_b12
  obtain ⟨T46, h46, X46, e46, W46, st46⟩ := stJ X44 hx hZ e44 Ar45 (j := (16 : Int32)) (inb_of S45 ⟨by decide, by decide⟩) (g := (mkF m 146 #[.val (.long p1), .second, .val (.int p3), .val (.ref b1), .unset, .unset, .unset, .unset, .unset, .unset, .unset, .unset, .unset, .unset, .unset, .unset, .unset] [(.long (10000000000000000 : Int64)), (.int (16 : Int32)), (.ref b12), (.ref b12)])) rfl rfl (hb hby at_146)
  refine GoH.st st46 ?_
  have V_b12 : Arv Z h46 b12 k12 .long (19 : Int32) [(.long (1 : Int64)), (.long (10 : Int64)), (.long (100 : Int64)), (.long (1000 : Int64)), (.long (10000 : Int64)), (.long (100000 : Int64)), (.long (1000000 : Int64)), (.long (10000000 : Int64)), (.long (100000000 : Int64)), (.long (1000000000 : Int64)), (.long (10000000000 : Int64)), (.long (100000000000 : Int64)), (.long (1000000000000 : Int64)), (.long (10000000000000 : Int64)), (.long (100000000000000 : Int64)), (.long (1000000000000000 : Int64)), (.long (10000000000000000 : Int64)), (.long (0 : Int64)), (.long (0 : Int64))] (.long (0 : Int64)) := Arv.set Ar45 q45 S45 M45 Hh45 G45 rfl W46 16 rfl (Nat.le_of_ble_eq_true rfl)
  have N46 := Fr.snoc X46 N44 g_b12
  have V_b1 := V_b1.other W46 ne_b1_b12
  have Sf_b1 := Safe.wr W46 Sf_b12 HH Sf_b1
  have Sf'_b12 := Safe.wr W46 Sf_b12 HH Sf_b12
  have RR := RR.trans (CHr.wr W46 Sf_b12 HH)
  have HH := HH.wr W46 Sf_b12
  have Sf_b12 := Sf'_b12
  have hk := Nat.le_trans hk (Nat.le_of_eq W46.size.symm)
  have O := O.wr W46 g_b12
  have KK := KK.wr W46 (Or.inr sz_b12)
  show GoH _ _ _ _ _ _ _ _ _ _  T46 (mkF m 147 #[.val (.long p1), .second, .val (.int p3), .val (.ref b1), .unset, .unset, .unset, .unset, .unset, .unset, .unset, .unset, .unset, .unset, .unset, .unset, .unset] [(.ref b12)])
  refine GoH.st (fun tT kT => XS.dup X46.here hx rfl (hb hby at_147) rfl rfl kT) ?_
  refine GoH.st (fun tT kT => XS.bipush X46.here hx rfl (hb hby at_148) kT) ?_
  show GoH _ _ _ _ _ _ _ _ _ _  T46 (mkF m 150 #[.val (.long p1), .second, .val (.int p3), .val (.ref b1), .unset, .unset, .unset, .unset, .unset, .unset, .unset, .unset, .unset, .unset, .unset, .unset, .unset] [(.int (17 : Int32)), (.ref b12), (.ref b12)])
  refine GoH.st (X46.ldc2Long hx hown (mvT hZ (hwi hw 20 rfl)) (g := (mkF m 150 #[.val (.long p1), .second, .val (.int p3), .val (.ref b1), .unset, .unset, .unset, .unset, .unset, .unset, .unset, .unset, .unset, .unset, .unset, .unset, .unset] [(.int (17 : Int32)), (.ref b12), (.ref b12)])) rfl (hb hby at_150)) ?_
  show GoH _ _ _ _ _ _ _ _ _ _  T46 (mkF m 153 #[.val (.long p1), .second, .val (.int p3), .val (.ref b1), .unset, .unset, .unset, .unset, .unset, .unset, .unset, .unset, .unset, .unset, .unset, .unset, .unset] [(.long (100000000000000000 : Int64)), (.int (17 : Int32)), (.ref b12), (.ref b12)])
  obtain ⟨cl47, Ar47, q47, S47, M47, Hh47, G47⟩ := V_b12
  obtain ⟨T48, h48, X48, e48, W48, st48⟩ := stJ X46 hx hZ e46 Ar47 (j := (17 : Int32)) (inb_of S47 ⟨by decide, by decide⟩) (g := (mkF m 153 #[.val (.long p1), .second, .val (.int p3), .val (.ref b1), .unset, .unset, .unset, .unset, .unset, .unset, .unset, .unset, .unset, .unset, .unset, .unset, .unset] [(.long (100000000000000000 : Int64)), (.int (17 : Int32)), (.ref b12), (.ref b12)])) rfl rfl (hb hby at_153)
  refine GoH.st st48 ?_
  have V_b12 : Arv Z h48 b12 k12 .long (19 : Int32) [(.long (1 : Int64)), (.long (10 : Int64)), (.long (100 : Int64)), (.long (1000 : Int64)), (.long (10000 : Int64)), (.long (100000 : Int64)), (.long (1000000 : Int64)), (.long (10000000 : Int64)), (.long (100000000 : Int64)), (.long (1000000000 : Int64)), (.long (10000000000 : Int64)), (.long (100000000000 : Int64)), (.long (1000000000000 : Int64)), (.long (10000000000000 : Int64)), (.long (100000000000000 : Int64)), (.long (1000000000000000 : Int64)), (.long (10000000000000000 : Int64)), (.long (100000000000000000 : Int64)), (.long (0 : Int64))] (.long (0 : Int64)) := Arv.set Ar47 q47 S47 M47 Hh47 G47 rfl W48 17 rfl (Nat.le_of_ble_eq_true rfl)
  have N48 := Fr.snoc X48 N46 g_b12
  have V_b1 := V_b1.other W48 ne_b1_b12
  have Sf_b1 := Safe.wr W48 Sf_b12 HH Sf_b1
  have Sf'_b12 := Safe.wr W48 Sf_b12 HH Sf_b12
  have RR := RR.trans (CHr.wr W48 Sf_b12 HH)
  have HH := HH.wr W48 Sf_b12
  have Sf_b12 := Sf'_b12
  have hk := Nat.le_trans hk (Nat.le_of_eq W48.size.symm)
  have O := O.wr W48 g_b12
  have KK := KK.wr W48 (Or.inr sz_b12)
  show GoH _ _ _ _ _ _ _ _ _ _  T48 (mkF m 154 #[.val (.long p1), .second, .val (.int p3), .val (.ref b1), .unset, .unset, .unset, .unset, .unset, .unset, .unset, .unset, .unset, .unset, .unset, .unset, .unset] [(.ref b12)])
  refine GoH.st (fun tT kT => XS.dup X48.here hx rfl (hb hby at_154) rfl rfl kT) ?_
  refine GoH.st (fun tT kT => XS.bipush X48.here hx rfl (hb hby at_155) kT) ?_
  show GoH _ _ _ _ _ _ _ _ _ _  T48 (mkF m 157 #[.val (.long p1), .second, .val (.int p3), .val (.ref b1), .unset, .unset, .unset, .unset, .unset, .unset, .unset, .unset, .unset, .unset, .unset, .unset, .unset] [(.int (18 : Int32)), (.ref b12), (.ref b12)])
  refine GoH.st (X48.ldc2Long hx hown (mvT hZ (hwi hw 21 rfl)) (g := (mkF m 157 #[.val (.long p1), .second, .val (.int p3), .val (.ref b1), .unset, .unset, .unset, .unset, .unset, .unset, .unset, .unset, .unset, .unset, .unset, .unset, .unset] [(.int (18 : Int32)), (.ref b12), (.ref b12)])) rfl (hb hby at_157)) ?_
  show GoH _ _ _ _ _ _ _ _ _ _  T48 (mkF m 160 #[.val (.long p1), .second, .val (.int p3), .val (.ref b1), .unset, .unset, .unset, .unset, .unset, .unset, .unset, .unset, .unset, .unset, .unset, .unset, .unset] [(.long (1000000000000000000 : Int64)), (.int (18 : Int32)), (.ref b12), (.ref b12)])
  obtain ⟨cl49, Ar49, q49, S49, M49, Hh49, G49⟩ := V_b12
  obtain ⟨T50, h50, X50, e50, W50, st50⟩ := stJ X48 hx hZ e48 Ar49 (j := (18 : Int32)) (inb_of S49 ⟨by decide, by decide⟩) (g := (mkF m 160 #[.val (.long p1), .second, .val (.int p3), .val (.ref b1), .unset, .unset, .unset, .unset, .unset, .unset, .unset, .unset, .unset, .unset, .unset, .unset, .unset] [(.long (1000000000000000000 : Int64)), (.int (18 : Int32)), (.ref b12), (.ref b12)])) rfl rfl (hb hby at_160)
  refine GoH.st st50 ?_
  have V_b12 : Arv Z h50 b12 k12 .long (19 : Int32) [(.long (1 : Int64)), (.long (10 : Int64)), (.long (100 : Int64)), (.long (1000 : Int64)), (.long (10000 : Int64)), (.long (100000 : Int64)), (.long (1000000 : Int64)), (.long (10000000 : Int64)), (.long (100000000 : Int64)), (.long (1000000000 : Int64)), (.long (10000000000 : Int64)), (.long (100000000000 : Int64)), (.long (1000000000000 : Int64)), (.long (10000000000000 : Int64)), (.long (100000000000000 : Int64)), (.long (1000000000000000 : Int64)), (.long (10000000000000000 : Int64)), (.long (100000000000000000 : Int64)), (.long (1000000000000000000 : Int64))] (.long (0 : Int64)) := Arv.set Ar49 q49 S49 M49 Hh49 G49 rfl W50 18 rfl (Nat.le_of_ble_eq_true rfl)
  have N50 := Fr.snoc X50 N48 g_b12
  have V_b1 := V_b1.other W50 ne_b1_b12
  have Sf_b1 := Safe.wr W50 Sf_b12 HH Sf_b1
  have Sf'_b12 := Safe.wr W50 Sf_b12 HH Sf_b12
  have RR := RR.trans (CHr.wr W50 Sf_b12 HH)
  have HH := HH.wr W50 Sf_b12
  have Sf_b12 := Sf'_b12
  have hk := Nat.le_trans hk (Nat.le_of_eq W50.size.symm)
  have O := O.wr W50 g_b12
  have KK := KK.wr W50 (Or.inr sz_b12)
  show GoH _ _ _ _ _ _ _ _ _ _  T50 (mkF m 161 #[.val (.long p1), .second, .val (.int p3), .val (.ref b1), .unset, .unset, .unset, .unset, .unset, .unset, .unset, .unset, .unset, .unset, .unset, .unset, .unset] [(.ref b12)])
  refine GoH.st (fun tT kT => XS.astore X50.here hx rfl (hb hby at_161) rfl rfl (l' := #[.val (.long p1), .second, .val (.int p3), .val (.ref b1), .val (.ref b12), .unset, .unset, .unset, .unset, .unset, .unset, .unset, .unset, .unset, .unset, .unset, .unset]) rfl kT) ?_
  refine GoH.st (fun tT kT => XS.iloadN X50.here hx rfl (hb hby at_163) rfl  kT) ?_
  show GoH _ _ _ _ _ _ _ _ _ _  T50 (mkF m 164 #[.val (.long p1), .second, .val (.int p3), .val (.ref b1), .val (.ref b12), .unset, .unset, .unset, .unset, .unset, .unset, .unset, .unset, .unset, .unset, .unset, .unset] [(.int p3)])
  refine GoH.st (X50.ldcInt hx hown (mvT hZ (hwi hw 22 rfl)) (g := (mkF m 164 #[.val (.long p1), .second, .val (.int p3), .val (.ref b1), .val (.ref b12), .unset, .unset, .unset, .unset, .unset, .unset, .unset, .unset, .unset, .unset, .unset, .unset] [(.int p3)])) rfl (hb hby at_164)) ?_
  show GoH _ _ _ _ _ _ _ _ _ _  T50 (mkF m 166 #[.val (.long p1), .second, .val (.int p3), .val (.ref b1), .val (.ref b12), .unset, .unset, .unset, .unset, .unset, .unset, .unset, .unset, .unset, .unset, .unset, .unset] [(.int (2147483647 : Int32)), (.int p3)])
  refine GoH.st (fun tT kT => XS.iand X50.here hx rfl (hb hby at_166) rfl kT) ?_
  refine GoH.st (fun tT kT => XS.iconst X50.here hx rfl (hb hby at_167) kT) ?_
  show GoH _ _ _ _ _ _ _ _ _ _  T50 (mkF m 168 #[.val (.long p1), .second, .val (.int p3), .val (.ref b1), .val (.ref b12), .unset, .unset, .unset, .unset, .unset, .unset, .unset, .unset, .unset, .unset, .unset, .unset] [(.int (5 : Int32)), (.int (p3 &&& (2147483647 : Int32)))])
  refine GoH.st (fun tT kT => Jvm.RoadKit.iremM X50 hx rfl (hb hby at_168) rfl (by decide) kT) ?_
  show GoH _ _ _ _ _ _ _ _ _ _  T50 (mkF m 169 #[.val (.long p1), .second, .val (.int p3), .val (.ref b1), .val (.ref b12), .unset, .unset, .unset, .unset, .unset, .unset, .unset, .unset, .unset, .unset, .unset, .unset] [(.int ((p3 &&& (2147483647 : Int32)) % (5 : Int32)))])
  obtain ⟨u, eq_u⟩ : ∃ z, z = ((p3 &&& (2147483647 : Int32)) % (5 : Int32)) := ⟨_, rfl⟩
  rw [← eq_u]
  have hu : u = 0 ∨ u = 1 ∨ u = 2 ∨ u = 3 ∨ u = 4 := by rw [eq_u]; exact own_mod5 _
  show GoH _ _ _ _ _ _ _ _ _ _  T50 (mkF m 169 #[.val (.long p1), .second, .val (.int p3), .val (.ref b1), .val (.ref b12), .unset, .unset, .unset, .unset, .unset, .unset, .unset, .unset, .unset, .unset, .unset, .unset] [(.int u)])
  refine GoH.st (fun tT kT => XS.istore X50.here hx rfl (hb hby at_169) rfl (l' := #[.val (.long p1), .second, .val (.int p3), .val (.ref b1), .val (.ref b12), .val (.int u), .unset, .unset, .unset, .unset, .unset, .unset, .unset, .unset, .unset, .unset, .unset]) rfl kT) ?_
  refine GoH.st (fun tT kT => XS.lloadN X50.here hx rfl (hb hby at_171) rfl  kT) ?_
  show GoH _ _ _ _ _ _ _ _ _ _  T50 (mkF m 172 #[.val (.long p1), .second, .val (.int p3), .val (.ref b1), .val (.ref b12), .val (.int u), .unset, .unset, .unset, .unset, .unset, .unset, .unset, .unset, .unset, .unset, .unset] [(.long p1)])
  refine GoH.st (X50.ldc2Long hx hown (mvT hZ (hwi hw 23 rfl)) (g := (mkF m 172 #[.val (.long p1), .second, .val (.int p3), .val (.ref b1), .val (.ref b12), .val (.int u), .unset, .unset, .unset, .unset, .unset, .unset, .unset, .unset, .unset, .unset, .unset] [(.long p1)])) rfl (hb hby at_172)) ?_
  show GoH _ _ _ _ _ _ _ _ _ _  T50 (mkF m 175 #[.val (.long p1), .second, .val (.int p3), .val (.ref b1), .val (.ref b12), .val (.int u), .unset, .unset, .unset, .unset, .unset, .unset, .unset, .unset, .unset, .unset, .unset] [(.long (9223372036854775807 : Int64)), (.long p1)])
  refine GoH.st (fun tT kT => XS.land X50.here hx rfl (hb hby at_175) rfl kT) ?_
  refine GoH.st (fun tT kT => XS.aloadN X50.here hx rfl (hb hby at_176) rfl rfl  kT) ?_
  refine GoH.st (fun tT kT => XS.iload X50.here hx rfl (hb hby at_177) rfl  kT) ?_
  show GoH _ _ _ _ _ _ _ _ _ _  T50 (mkF m 179 #[.val (.long p1), .second, .val (.int p3), .val (.ref b1), .val (.ref b12), .val (.int u), .unset, .unset, .unset, .unset, .unset, .unset, .unset, .unset, .unset, .unset, .unset] [(.int u), (.ref b1), (.long (p1 &&& (9223372036854775807 : Int64)))])
  obtain ⟨cl51, Ar51, q51, S51, M51, Hh51, G51⟩ := id V_b1
  refine GoH.st (X50.laload hx (j := u) (v := (.long (own_ui u))) (by rw [e50]; exact Ar51.1) (State.isArrayOf_alike hZ.alike Ar51.2.1) Ar51.2.2 (inb_of S51 (own_uin hu)) (Hh51.at (inb_of S51 (own_uin hu)) (own_uat hu)) (g := (mkF m 179 #[.val (.long p1), .second, .val (.int p3), .val (.ref b1), .val (.ref b12), .val (.int u), .unset, .unset, .unset, .unset, .unset, .unset, .unset, .unset, .unset, .unset, .unset] [(.int u), (.ref b1), (.long (p1 &&& (9223372036854775807 : Int64)))])) rfl rfl (hb hby at_179)) ?_
  show GoH _ _ _ _ _ _ _ _ _ _  T50 (mkF m 180 #[.val (.long p1), .second, .val (.int p3), .val (.ref b1), .val (.ref b12), .val (.int u), .unset, .unset, .unset, .unset, .unset, .unset, .unset, .unset, .unset, .unset, .unset] [(.long (own_ui u)), (.long (p1 &&& (9223372036854775807 : Int64)))])
  refine GoH.st (fun tT kT => XS.ldiv X50.here hx rfl (hb hby at_180) rfl (own_uinz u) kT) ?_
  show GoH _ _ _ _ _ _ _ _ _ _  T50 (mkF m 181 #[.val (.long p1), .second, .val (.int p3), .val (.ref b1), .val (.ref b12), .val (.int u), .unset, .unset, .unset, .unset, .unset, .unset, .unset, .unset, .unset, .unset, .unset] [(.long ((p1 &&& (9223372036854775807 : Int64)) / (own_ui u)))])
  refine GoH.st (fun tT kT => XS.lstore X50.here hx rfl (hb hby at_181) rfl (l' := #[.val (.long p1), .second, .val (.int p3), .val (.ref b1), .val (.ref b12), .val (.int u), .val (.long ((p1 &&& (9223372036854775807 : Int64)) / (own_ui u))), .second, .unset, .unset, .unset, .unset, .unset, .unset, .unset, .unset, .unset]) rfl kT) ?_
  refine GoH.st (fun tT kT => XS.lload X50.here hx rfl (hb hby at_183) rfl  kT) ?_
  refine GoH.st (fun tT kT => XS.lconst X50.here hx rfl (hb hby at_185) kT) ?_
  show GoH _ _ _ _ _ _ _ _ _ _  T50 (mkF m 186 #[.val (.long p1), .second, .val (.int p3), .val (.ref b1), .val (.ref b12), .val (.int u), .val (.long ((p1 &&& (9223372036854775807 : Int64)) / (own_ui u))), .second, .unset, .unset, .unset, .unset, .unset, .unset, .unset, .unset, .unset] [(.long (0 : Int64)), (.long ((p1 &&& (9223372036854775807 : Int64)) / (own_ui u)))])
  refine GoH.st (fun tT kT => XS.lcmp X50.here hx rfl (hb hby at_186) rfl kT) ?_
  show GoH _ _ _ _ _ _ _ _ _ _  T50 (mkF m 187 #[.val (.long p1), .second, .val (.int p3), .val (.ref b1), .val (.ref b12), .val (.int u), .val (.long ((p1 &&& (9223372036854775807 : Int64)) / (own_ui u))), .second, .unset, .unset, .unset, .unset, .unset, .unset, .unset, .unset, .unset] [(.int (lcmpW ((p1 &&& (9223372036854775807 : Int64)) / (own_ui u)) (0 : Int64)))])
  refine GoH.st (T' := T50) (g' := (mkF m 193 #[.val (.long p1), .second, .val (.int p3), .val (.ref b1), .val (.ref b12), .val (.int u), .val (.long (if (lcmpW ((p1 &&& (9223372036854775807 : Int64)) / (own_ui u)) (0 : Int64)) = (0 : Int32) then (1 : Int64) else ((p1 &&& (9223372036854775807 : Int64)) / (own_ui u)))), .second, .unset, .unset, .unset, .unset, .unset, .unset, .unset, .unset, .unset] [])) (fun tT kT => ?_) ?_
  · show Steps p.tables e below (T50.setTop (mkF m 187 #[.val (.long p1), .second, .val (.int p3), .val (.ref b1), .val (.ref b12), .val (.int u), .val (.long ((p1 &&& (9223372036854775807 : Int64)) / (own_ui u))), .second, .unset, .unset, .unset, .unset, .unset, .unset, .unset, .unset, .unset] [(.int (lcmpW ((p1 &&& (9223372036854775807 : Int64)) / (own_ui u)) (0 : Int64)))])) _
    by_cases c187_52 : (lcmpW ((p1 &&& (9223372036854775807 : Int64)) / (own_ui u)) (0 : Int64)) = (0 : Int32)
    · refine XS.ifNo X50.here hx rfl (hb hby at_187) rfl ((if0 _ _).trans (teq c187_52).2) ?_
      show Steps p.tables e below (T50.setTop (mkF m 190 #[.val (.long p1), .second, .val (.int p3), .val (.ref b1), .val (.ref b12), .val (.int u), .val (.long ((p1 &&& (9223372036854775807 : Int64)) / (own_ui u))), .second, .unset, .unset, .unset, .unset, .unset, .unset, .unset, .unset, .unset] [])) _
      refine XS.lconst X50.here hx rfl (hb hby at_190) ?_
      show Steps p.tables e below (T50.setTop (mkF m 191 #[.val (.long p1), .second, .val (.int p3), .val (.ref b1), .val (.ref b12), .val (.int u), .val (.long ((p1 &&& (9223372036854775807 : Int64)) / (own_ui u))), .second, .unset, .unset, .unset, .unset, .unset, .unset, .unset, .unset, .unset] [(.long (1 : Int64))])) _
      refine XS.lstore X50.here hx rfl (hb hby at_191) rfl (l' := #[.val (.long p1), .second, .val (.int p3), .val (.ref b1), .val (.ref b12), .val (.int u), .val (.long (1 : Int64)), .second, .unset, .unset, .unset, .unset, .unset, .unset, .unset, .unset, .unset]) rfl ?_
      (try simp only [if_pos c187_52] at kT); exact kT
    · refine XS.ifYes X50.here hx rfl (pc0 := 187) (pc' := 193) rfl (hb hby at_187) rfl ((if0 _ _).trans (feq c187_52).2) (by decide) (by decide) ?_
      (try simp only [if_neg c187_52] at kT); exact kT
  show GoH _ _ _ _ _ _ _ _ _ _  T50 (mkF m 193 #[.val (.long p1), .second, .val (.int p3), .val (.ref b1), .val (.ref b12), .val (.int u), .val (.long (if (lcmpW ((p1 &&& (9223372036854775807 : Int64)) / (own_ui u)) (0 : Int64)) = (0 : Int32) then (1 : Int64) else ((p1 &&& (9223372036854775807 : Int64)) / (own_ui u)))), .second, .unset, .unset, .unset, .unset, .unset, .unset, .unset, .unset, .unset] [])
  refine GoH.st (fun tT kT => XS.lload X50.here hx rfl (hb hby at_193) rfl  kT) ?_
  refine GoH.st (fun tT kT => XS.aloadN X50.here hx rfl (hb hby at_195) rfl rfl  kT) ?_
  refine GoH.st (fun tT kT => XS.iload X50.here hx rfl (hb hby at_196) rfl  kT) ?_
  show GoH _ _ _ _ _ _ _ _ _ _  T50 (mkF m 198 #[.val (.long p1), .second, .val (.int p3), .val (.ref b1), .val (.ref b12), .val (.int u), .val (.long (if (lcmpW ((p1 &&& (9223372036854775807 : Int64)) / (own_ui u)) (0 : Int64)) = (0 : Int32) then (1 : Int64) else ((p1 &&& (9223372036854775807 : Int64)) / (own_ui u)))), .second, .unset, .unset, .unset, .unset, .unset, .unset, .unset, .unset, .unset] [(.int u), (.ref b1), (.long (if (lcmpW ((p1 &&& (9223372036854775807 : Int64)) / (own_ui u)) (0 : Int64)) = (0 : Int32) then (1 : Int64) else ((p1 &&& (9223372036854775807 : Int64)) / (own_ui u))))])
  obtain ⟨cl53, Ar53, q53, S53, M53, Hh53, G53⟩ := id V_b1
  refine GoH.st (X50.laload hx (j := u) (v := (.long (own_ui u))) (by rw [e50]; exact Ar53.1) (State.isArrayOf_alike hZ.alike Ar53.2.1) Ar53.2.2 (inb_of S53 (own_uin hu)) (Hh53.at (inb_of S53 (own_uin hu)) (own_uat hu)) (g := (mkF m 198 #[.val (.long p1), .second, .val (.int p3), .val (.ref b1), .val (.ref b12), .val (.int u), .val (.long (if (lcmpW ((p1 &&& (9223372036854775807 : Int64)) / (own_ui u)) (0 : Int64)) = (0 : Int32) then (1 : Int64) else ((p1 &&& (9223372036854775807 : Int64)) / (own_ui u)))), .second, .unset, .unset, .unset, .unset, .unset, .unset, .unset, .unset, .unset] [(.int u), (.ref b1), (.long (if (lcmpW ((p1 &&& (9223372036854775807 : Int64)) / (own_ui u)) (0 : Int64)) = (0 : Int32) then (1 : Int64) else ((p1 &&& (9223372036854775807 : Int64)) / (own_ui u))))])) rfl rfl (hb hby at_198)) ?_
  show GoH _ _ _ _ _ _ _ _ _ _  T50 (mkF m 199 #[.val (.long p1), .second, .val (.int p3), .val (.ref b1), .val (.ref b12), .val (.int u), .val (.long (if (lcmpW ((p1 &&& (9223372036854775807 : Int64)) / (own_ui u)) (0 : Int64)) = (0 : Int32) then (1 : Int64) else ((p1 &&& (9223372036854775807 : Int64)) / (own_ui u)))), .second, .unset, .unset, .unset, .unset, .unset, .unset, .unset, .unset, .unset] [(.long (own_ui u)), (.long (if (lcmpW ((p1 &&& (9223372036854775807 : Int64)) / (own_ui u)) (0 : Int64)) = (0 : Int32) then (1 : Int64) else ((p1 &&& (9223372036854775807 : Int64)) / (own_ui u))))])
  refine GoH.st (fun tT kT => XS.lmul X50.here hx rfl (hb hby at_199) rfl kT) ?_
  refine GoH.st (fun tT kT => XS.lstore X50.here hx rfl (hb hby at_200) rfl (l' := #[.val (.long p1), .second, .val (.int p3), .val (.ref b1), .val (.ref b12), .val (.int u), .val (.long (if (lcmpW ((p1 &&& (9223372036854775807 : Int64)) / (own_ui u)) (0 : Int64)) = (0 : Int32) then (1 : Int64) else ((p1 &&& (9223372036854775807 : Int64)) / (own_ui u)))), .second, .val (.long ((if (lcmpW ((p1 &&& (9223372036854775807 : Int64)) / (own_ui u)) (0 : Int64)) = (0 : Int32) then (1 : Int64) else ((p1 &&& (9223372036854775807 : Int64)) / (own_ui u))) * (own_ui u))), .second, .unset, .unset, .unset, .unset, .unset, .unset, .unset]) rfl kT) ?_
  show GoH _ _ _ _ _ _ _ _ _ _  T50 (mkF m 202 #[.val (.long p1), .second, .val (.int p3), .val (.ref b1), .val (.ref b12), .val (.int u), .val (.long (if (lcmpW ((p1 &&& (9223372036854775807 : Int64)) / (own_ui u)) (0 : Int64)) = (0 : Int32) then (1 : Int64) else ((p1 &&& (9223372036854775807 : Int64)) / (own_ui u)))), .second, .val (.long ((if (lcmpW ((p1 &&& (9223372036854775807 : Int64)) / (own_ui u)) (0 : Int64)) = (0 : Int32) then (1 : Int64) else ((p1 &&& (9223372036854775807 : Int64)) / (own_ui u))) * (own_ui u))), .second, .unset, .unset, .unset, .unset, .unset, .unset, .unset] [])
  obtain ⟨M, eq_M⟩ : ∃ z, z = ((if (lcmpW ((p1 &&& (9223372036854775807 : Int64)) / (own_ui u)) (0 : Int64)) = (0 : Int32) then (1 : Int64) else ((p1 &&& (9223372036854775807 : Int64)) / (own_ui u))) * (own_ui u)) := ⟨_, rfl⟩
  rw [← eq_M]
  show GoH _ _ _ _ _ _ _ _ _ _  T50 (mkF m 202 #[.val (.long p1), .second, .val (.int p3), .val (.ref b1), .val (.ref b12), .val (.int u), .val (.long (if (lcmpW ((p1 &&& (9223372036854775807 : Int64)) / (own_ui u)) (0 : Int64)) = (0 : Int32) then (1 : Int64) else ((p1 &&& (9223372036854775807 : Int64)) / (own_ui u)))), .second, .val (.long M), .second, .unset, .unset, .unset, .unset, .unset, .unset, .unset] [])
  obtain ⟨q6, eq_q6⟩ : ∃ z, z = (if (lcmpW ((p1 &&& (9223372036854775807 : Int64)) / (own_ui u)) (0 : Int64)) = (0 : Int32) then (1 : Int64) else ((p1 &&& (9223372036854775807 : Int64)) / (own_ui u))) := ⟨_, rfl⟩
  rw [← eq_q6]
  have hM : 0 < M.toInt := by rw [eq_M]; exact own_Mpos _ _
  have tail : ∀ (T9 V9 : State) (k9 : Nat) (h9 : Heap) (Lz : List Loc) (w9 : Int32) (u9 : Addr) (z9 : Addr) (kz9 : ClassId) (uu : List Int32) (x9 : Int64) (y9 : Addr) (t9 : Addr) (kt9 : ClassId) (R9 : List Int32), Stand p l e room_1 (s.setVm V9.vm) m #[(.long p1), (.int p3)] below meth c T9 Lz 12 500 → s.Since V9.vm k9 → k9 ≤ h9.size → T9.heap = h9 → Z.Warmed39 V9.vm → V9.vm.findClass "com/example/oplim/oplim/KeysPeriodPinLaw" = some m.cls → CHv Z EL V9.vm h9 → CHr Z EL s.vm h0 V9.vm h9 → Old Z n0 h9 → Fr n0 Lz → Keep h0 h9 [] → (Exa Z h9 y9 "java/lang/String") → (Fld Z h9 y9 "java/lang/String" "coder" "B" (.int 0)) → (Fld Z h9 y9 "java/lang/String" "value" "[B" (.ref t9)) → (Arv Z h9 t9 kt9 .byte (Int32.ofNat R9.length) (R9.map Value.int) (.int 0)) → (Exa Z h9 u9 "java/lang/String") → (Fld Z h9 u9 "java/lang/String" "coder" "B" (.int 0)) → (Fld Z h9 u9 "java/lang/String" "value" "[B" (.ref z9)) → (Arv Z h9 z9 kz9 .byte (Int32.ofNat uu.length) (uu.map Value.int) (.int 0)) → (Arv Z h9 b12 k12 .long (19 : Int32) [(.long (1 : Int64)), (.long (10 : Int64)), (.long (100 : Int64)), (.long (1000 : Int64)), (.long (10000 : Int64)), (.long (100000 : Int64)), (.long (1000000 : Int64)), (.long (10000000 : Int64)), (.long (100000000 : Int64)), (.long (1000000000 : Int64)), (.long (10000000000 : Int64)), (.long (100000000000 : Int64)), (.long (1000000000000 : Int64)), (.long (10000000000000 : Int64)), (.long (100000000000000 : Int64)), (.long (1000000000000000 : Int64)), (.long (10000000000000000 : Int64)), (.long (100000000000000000 : Int64)), (.long (1000000000000000000 : Int64))] (.long 0)) → (R9 = own_dl x9 ++ uu) → (1 ≤ x9.toInt) → (1 ≤ uu.length) → (uu.length ≤ 2) → GoH p e below s room_1.cells room_1.slots Z h0 EL (Q_rm0 Z p1 p3 zc fm sd d1 d2 dC1 dC2 um kum un kun s0 v0 kv0 s1 v1 kv1 s2 v2 kv2 s3 v3 kv3 s4 v4 kv4 h0 n0) T9 (mkF m 351 #[.val (.long p1), .second, .val (.int p3), .val (.ref b1), .val (.ref b12), .val (.int u), .val (.long q6), .second, .val (.long M), .second, .val (.int w9), .val (.ref u9), .val (.long x9), .second, .val (.ref y9), .unset, .unset] []) := by
    intro T9 V9 k9 h9 Lz w9 u9 z9 kz9 uu x9 y9 t9 kt9 R9 X9 hS hk e9 hZ hown HH RR O N9 KK E_y9 C_y9 V_y9 A_t9 E_u9 C_u9 V_u9 A_z9 V_p eR hX hu1 hu2
    obtain ⟨kk, ek⟩ : ∃ z, z = own_k x9 := ⟨_, rfl⟩
    have lR : R9.length = kk + uu.length := own_rl eR ek rfl
    have k19 := own_kk hX
    rw [← ek] at k19
    obtain ⟨k1, k2, -, -⟩ := k19
    have hkl : kk ≤ R9.length := by omega
    have hrl : R9.length < 100000 := by omega
    have hdg : ∀ j, j < kk → own_chr (R9.getD j 0) = ((48 : Int32) + ((x9 / (Int64.ofNat (10 ^ (kk - 1 - j)))) % (10 : Int64)).toInt32).toUInt32.toUInt16.toUInt32.toInt32 := fun j hj => by rw [ek]; exact own_hd eR hX j (ek ▸ hj)
    refine GoH.st (fun tT kT => XS.aload X9.here hx rfl (hb hby at_351) rfl rfl  kT) ?_
    show GoH _ _ _ _ _ _ _ _ _ _  T9 (mkF m 353 #[.val (.long p1), .second, .val (.int p3), .val (.ref b1), .val (.ref b12), .val (.int u), .val (.long q6), .second, .val (.long M), .second, .val (.int w9), .val (.ref u9), .val (.long x9), .second, .val (.ref y9), .unset, .unset] [(.ref u9)])
    obtain ⟨cq54, kq54, q54a, q54b, q54c⟩ := isOf hZ e9 E_u9
    refine GoH.pure (w := (some (.int (Int32.ofNat uu.length)))) (rest := []) (pc' := 356) (X9.virtualBack hx (y := (⟨"java/lang/String", "length", "()I"⟩ : MethodName)) (z := (⟨"java/lang/String", "length", "()I"⟩ : MethodName)) hown (mvT hZ (hwi hw 178 rfl)) (mvT hZ (hwi hw 103 rfl)) (notFace_of_selects (args := #[]) (mvT hZ (hwi hw 105 rfl))) (mvT hZ (hwi hw 105 rfl)) (mvT hZ (hwi hw 104 rfl)) (by decide) (backOf (W := 0) (rmLen l Z a0 hw [] u9 zc z9 kz9 uu.length (uu.map Value.int) h9 n0 O S_COMPACT hcs E_u9 C_u9 V_u9 A_z9 (List.length_map _) (by omega)) hZ (hwi hw 106 rfl) (hwi hw 25 rfl) (by decide) (by decide)) q54a q54c (g := (mkF m 353 #[.val (.long p1), .second, .val (.int p3), .val (.ref b1), .val (.ref b12), .val (.int u), .val (.long q6), .second, .val (.long M), .second, .val (.int w9), .val (.ref u9), .val (.long x9), .second, .val (.ref y9), .unset, .unset] [(.ref u9)])) rfl (by rw [hml]; rfl) (Steps.refl _) (argsL := []) (rest := []) (lenOf pd___I rfl) rfl (by show 2 * 0 + _ ≤ _; exact Nat.le_of_eq rfl) (hb hby at_353) (fun _ _ => ⟨rfl, e9, (by decide : 12 + 0 ≤ _), (by decide : 500 + 0 ≤ _)⟩)) (fun _ _ _ q => q) N9 (fun T54 L54 X54 e54q N54 => ?_)
    show GoH _ _ _ _ _ _ _ _ _ _  T54 (mkF m 356 #[.val (.long p1), .second, .val (.int p3), .val (.ref b1), .val (.ref b12), .val (.int u), .val (.long q6), .second, .val (.long M), .second, .val (.int w9), .val (.ref u9), .val (.long x9), .second, .val (.ref y9), .unset, .unset] [(.int (Int32.ofNat uu.length))])
    refine GoH.st (fun tT kT => XS.istore X54.here hx rfl (hb hby at_356) rfl (l' := #[.val (.long p1), .second, .val (.int p3), .val (.ref b1), .val (.ref b12), .val (.int u), .val (.long q6), .second, .val (.long M), .second, .val (.int w9), .val (.ref u9), .val (.long x9), .second, .val (.ref y9), .val (.int (Int32.ofNat uu.length)), .unset]) rfl kT) ?_
    refine GoH.st (fun tT kT => XS.aload X54.here hx rfl (hb hby at_358) rfl rfl  kT) ?_
    show GoH _ _ _ _ _ _ _ _ _ _  T54 (mkF m 360 #[.val (.long p1), .second, .val (.int p3), .val (.ref b1), .val (.ref b12), .val (.int u), .val (.long q6), .second, .val (.long M), .second, .val (.int w9), .val (.ref u9), .val (.long x9), .second, .val (.ref y9), .val (.int (Int32.ofNat uu.length)), .unset] [(.ref y9)])
    obtain ⟨cq55, kq55, q55a, q55b, q55c⟩ := isOf hZ e54q E_y9
    refine GoH.pure (w := (some (.int (Int32.ofNat R9.length)))) (rest := []) (pc' := 363) (X54.virtualBack hx (y := (⟨"java/lang/String", "length", "()I"⟩ : MethodName)) (z := (⟨"java/lang/String", "length", "()I"⟩ : MethodName)) hown (mvT hZ (hwi hw 178 rfl)) (mvT hZ (hwi hw 103 rfl)) (notFace_of_selects (args := #[]) (mvT hZ (hwi hw 105 rfl))) (mvT hZ (hwi hw 105 rfl)) (mvT hZ (hwi hw 104 rfl)) (by decide) (backOf (W := 0) (rmLen l Z a0 hw [] y9 zc t9 kt9 R9.length (R9.map Value.int) h9 n0 O S_COMPACT hcs E_y9 C_y9 V_y9 A_t9 (List.length_map _) (by omega)) hZ (hwi hw 106 rfl) (hwi hw 25 rfl) (by decide) (by decide)) q55a q55c (g := (mkF m 360 #[.val (.long p1), .second, .val (.int p3), .val (.ref b1), .val (.ref b12), .val (.int u), .val (.long q6), .second, .val (.long M), .second, .val (.int w9), .val (.ref u9), .val (.long x9), .second, .val (.ref y9), .val (.int (Int32.ofNat uu.length)), .unset] [(.ref y9)])) rfl (by rw [hml]; rfl) (Steps.refl _) (argsL := []) (rest := []) (lenOf pd___I rfl) rfl (by show 2 * 0 + _ ≤ _; exact Nat.le_of_eq rfl) (hb hby at_360) (fun _ _ => ⟨rfl, e54q, (by decide : 12 + 0 ≤ _), (by decide : 500 + 0 ≤ _)⟩)) (fun _ _ _ q => q) N54 (fun T55 L55 X55 e55q N55 => ?_)
    show GoH _ _ _ _ _ _ _ _ _ _  T55 (mkF m 363 #[.val (.long p1), .second, .val (.int p3), .val (.ref b1), .val (.ref b12), .val (.int u), .val (.long q6), .second, .val (.long M), .second, .val (.int w9), .val (.ref u9), .val (.long x9), .second, .val (.ref y9), .val (.int (Int32.ofNat uu.length)), .unset] [(.int (Int32.ofNat R9.length))])
    refine GoH.st (fun tT kT => XS.iload X55.here hx rfl (hb hby at_363) rfl  kT) ?_
    refine GoH.st (fun tT kT => XS.isub X55.here hx rfl (hb hby at_365) rfl kT) ?_
    show GoH _ _ _ _ _ _ _ _ _ _  T55 (mkF m 366 #[.val (.long p1), .second, .val (.int p3), .val (.ref b1), .val (.ref b12), .val (.int u), .val (.long q6), .second, .val (.long M), .second, .val (.int w9), .val (.ref u9), .val (.long x9), .second, .val (.ref y9), .val (.int (Int32.ofNat uu.length)), .unset] [(.int ((Int32.ofNat R9.length) - (Int32.ofNat uu.length)))])
    rw [own_rsub lR]
    refine GoH.st (fun tT kT => XS.istore X55.here hx rfl (hb hby at_366) rfl (l' := #[.val (.long p1), .second, .val (.int p3), .val (.ref b1), .val (.ref b12), .val (.int u), .val (.long q6), .second, .val (.long M), .second, .val (.int w9), .val (.ref u9), .val (.long x9), .second, .val (.ref y9), .val (.int (Int32.ofNat uu.length)), .val (.int (Int32.ofNat kk))]) rfl kT) ?_
    show GoH _ _ _ _ _ _ _ _ _ _  T55 (mkF m 368 #[.val (.long p1), .second, .val (.int p3), .val (.ref b1), .val (.ref b12), .val (.int u), .val (.long q6), .second, .val (.long M), .second, .val (.int w9), .val (.ref u9), .val (.long x9), .second, .val (.ref y9), .val (.int (Int32.ofNat uu.length)), .val (.int (Int32.ofNat kk))] [])
    refine GoH.st (fun tT kT => XS.iload X55.here hx rfl (hb hby at_368) rfl  kT) ?_
    refine GoH.st (fun tT kT => XS.iconst X55.here hx rfl (hb hby at_370) kT) ?_
    show GoH _ _ _ _ _ _ _ _ _ _  T55 (mkF m 371 #[.val (.long p1), .second, .val (.int p3), .val (.ref b1), .val (.ref b12), .val (.int u), .val (.long q6), .second, .val (.long M), .second, .val (.int w9), .val (.ref u9), .val (.long x9), .second, .val (.ref y9), .val (.int (Int32.ofNat uu.length)), .val (.int (Int32.ofNat kk))] [(.int (1 : Int32)), (.int (Int32.ofNat kk))])
    refine GoH.st (fun tT kT => XS.icmpNo X55.here hx rfl (hb hby at_371) rfl (flt (own_ge1 k1 (by omega) : ¬ ((Int32.ofNat kk) < (1 : Int32)))).1 kT) ?_
    show GoH _ _ _ _ _ _ _ _ _ _  T55 (mkF m 374 #[.val (.long p1), .second, .val (.int p3), .val (.ref b1), .val (.ref b12), .val (.int u), .val (.long q6), .second, .val (.long M), .second, .val (.int w9), .val (.ref u9), .val (.long x9), .second, .val (.ref y9), .val (.int (Int32.ofNat uu.length)), .val (.int (Int32.ofNat kk))] [])
    refine GoH.st (fun tT kT => XS.iload X55.here hx rfl (hb hby at_374) rfl  kT) ?_
    refine GoH.st (fun tT kT => XS.bipush X55.here hx rfl (hb hby at_376) kT) ?_
    show GoH _ _ _ _ _ _ _ _ _ _  T55 (mkF m 378 #[.val (.long p1), .second, .val (.int p3), .val (.ref b1), .val (.ref b12), .val (.int u), .val (.long q6), .second, .val (.long M), .second, .val (.int w9), .val (.ref u9), .val (.long x9), .second, .val (.ref y9), .val (.int (Int32.ofNat uu.length)), .val (.int (Int32.ofNat kk))] [(.int (19 : Int32)), (.int (Int32.ofNat kk))])
    refine GoH.st (fun tT kT => XS.icmpYes X55.here hx rfl (pc0 := 378) (pc' := 383) rfl (hb hby at_378) rfl (flt (own_le19 k2 : ¬ ((19 : Int32) < (Int32.ofNat kk)))).2.2.2 (by decide) (by decide) kT) ?_
    show GoH _ _ _ _ _ _ _ _ _ _  T55 (mkF m 383 #[.val (.long p1), .second, .val (.int p3), .val (.ref b1), .val (.ref b12), .val (.int u), .val (.long q6), .second, .val (.long M), .second, .val (.int w9), .val (.ref u9), .val (.long x9), .second, .val (.ref y9), .val (.int (Int32.ofNat uu.length)), .val (.int (Int32.ofNat kk))] [])
    refine GoH.st (fun tT kT => XS.aload X55.here hx rfl (hb hby at_383) rfl rfl  kT) ?_
    refine GoH.st (fun tT kT => XS.iload X55.here hx rfl (hb hby at_385) rfl  kT) ?_
    show GoH _ _ _ _ _ _ _ _ _ _  T55 (mkF m 387 #[.val (.long p1), .second, .val (.int p3), .val (.ref b1), .val (.ref b12), .val (.int u), .val (.long q6), .second, .val (.long M), .second, .val (.int w9), .val (.ref u9), .val (.long x9), .second, .val (.ref y9), .val (.int (Int32.ofNat uu.length)), .val (.int (Int32.ofNat kk))] [(.int (Int32.ofNat kk)), (.ref y9)])
    obtain ⟨cq56, kq56, q56a, q56b, q56c⟩ := isOf hZ e55q E_y9
    refine GoH.pure (w := (some (.int (own_chr (R9.getD kk 0))))) (rest := []) (pc' := 390) (X55.virtualBack hx (y := (⟨"java/lang/String", "charAt", "(I)C"⟩ : MethodName)) (z := (⟨"java/lang/String", "charAt", "(I)C"⟩ : MethodName)) hown (mvT hZ (hwi hw 179 rfl)) (mvT hZ (hwi hw 180 rfl)) (notFace_of_selects (args := #[]) (mvT hZ (hwi hw 182 rfl))) (mvT hZ (hwi hw 182 rfl)) (mvT hZ (hwi hw 181 rfl)) (by decide) (backOf (W := 0) (rmCA l Z a0 hw [] y9 zc fm t9 kt9 R9 kk h9 n0 O S_COMPACT hcs S_SIO ref_fm E_y9 C_y9 V_y9 A_t9 (by omega) (by omega)) hZ (hwi hw 183 rfl) (hwi hw 25 rfl) (by decide) (by decide)) q56a q56c (g := (mkF m 387 #[.val (.long p1), .second, .val (.int p3), .val (.ref b1), .val (.ref b12), .val (.int u), .val (.long q6), .second, .val (.long M), .second, .val (.int w9), .val (.ref u9), .val (.long x9), .second, .val (.ref y9), .val (.int (Int32.ofNat uu.length)), .val (.int (Int32.ofNat kk))] [(.int (Int32.ofNat kk)), (.ref y9)])) rfl (by rw [hml]; rfl) (Steps.refl _) (argsL := [(.int (Int32.ofNat kk))]) (rest := []) (lenOf pd__I_C rfl) rfl (by show 2 * 0 + _ ≤ _; exact Nat.le_of_eq rfl) (hb hby at_387) (fun _ _ => ⟨rfl, e55q, (by decide : 12 + 0 ≤ _), (by decide : 500 + 0 ≤ _)⟩)) (fun _ _ _ q => q) N55 (fun T56 L56 X56 e56q N56 => ?_)
    show GoH _ _ _ _ _ _ _ _ _ _  T56 (mkF m 390 #[.val (.long p1), .second, .val (.int p3), .val (.ref b1), .val (.ref b12), .val (.int u), .val (.long q6), .second, .val (.long M), .second, .val (.int w9), .val (.ref u9), .val (.long x9), .second, .val (.ref y9), .val (.int (Int32.ofNat uu.length)), .val (.int (Int32.ofNat kk))] [(.int (own_chr (R9.getD kk 0)))])
    refine GoH.st (fun tT kT => XS.aload X56.here hx rfl (hb hby at_390) rfl rfl  kT) ?_
    refine GoH.st (fun tT kT => XS.iconst X56.here hx rfl (hb hby at_392) kT) ?_
    show GoH _ _ _ _ _ _ _ _ _ _  T56 (mkF m 393 #[.val (.long p1), .second, .val (.int p3), .val (.ref b1), .val (.ref b12), .val (.int u), .val (.long q6), .second, .val (.long M), .second, .val (.int w9), .val (.ref u9), .val (.long x9), .second, .val (.ref y9), .val (.int (Int32.ofNat uu.length)), .val (.int (Int32.ofNat kk))] [(.int (0 : Int32)), (.ref u9), (.int (own_chr (R9.getD kk 0)))])
    obtain ⟨cq57, kq57, q57a, q57b, q57c⟩ := isOf hZ e56q E_u9
    refine GoH.pure (w := (some (.int (own_chr (uu.getD 0 0))))) (rest := [(.int (own_chr (R9.getD kk 0)))]) (pc' := 396) (X56.virtualBack hx (y := (⟨"java/lang/String", "charAt", "(I)C"⟩ : MethodName)) (z := (⟨"java/lang/String", "charAt", "(I)C"⟩ : MethodName)) hown (mvT hZ (hwi hw 179 rfl)) (mvT hZ (hwi hw 180 rfl)) (notFace_of_selects (args := #[]) (mvT hZ (hwi hw 182 rfl))) (mvT hZ (hwi hw 182 rfl)) (mvT hZ (hwi hw 181 rfl)) (by decide) (backOf (W := 1) (rmCA l Z a0 hw [] u9 zc fm z9 kz9 uu 0 h9 n0 O S_COMPACT hcs S_SIO ref_fm E_u9 C_u9 V_u9 A_z9 (by omega) (by omega)) hZ (hwi hw 183 rfl) (hwi hw 25 rfl) (by decide) (by decide)) q57a q57c (g := (mkF m 393 #[.val (.long p1), .second, .val (.int p3), .val (.ref b1), .val (.ref b12), .val (.int u), .val (.long q6), .second, .val (.long M), .second, .val (.int w9), .val (.ref u9), .val (.long x9), .second, .val (.ref y9), .val (.int (Int32.ofNat uu.length)), .val (.int (Int32.ofNat kk))] [(.int (0 : Int32)), (.ref u9), (.int (own_chr (R9.getD kk 0)))])) rfl (by rw [hml]; rfl) (Steps.refl _) (argsL := [(.int (0 : Int32))]) (rest := [(.int (own_chr (R9.getD kk 0)))]) (lenOf pd__I_C rfl) rfl (by show 2 * 0 + _ ≤ _; exact Nat.le_of_eq rfl) (hb hby at_393) (fun _ _ => ⟨rfl, e56q, (by decide : 12 + 0 ≤ _), (by decide : 500 + 0 ≤ _)⟩)) (fun _ _ _ q => q) N56 (fun T57 L57 X57 e57q N57 => ?_)
    show GoH _ _ _ _ _ _ _ _ _ _  T57 (mkF m 396 #[.val (.long p1), .second, .val (.int p3), .val (.ref b1), .val (.ref b12), .val (.int u), .val (.long q6), .second, .val (.long M), .second, .val (.int w9), .val (.ref u9), .val (.long x9), .second, .val (.ref y9), .val (.int (Int32.ofNat uu.length)), .val (.int (Int32.ofNat kk))] [(.int (own_chr (uu.getD 0 0))), (.int (own_chr (R9.getD kk 0)))])
    refine GoH.st (fun tT kT => XS.icmpYes X57.here hx rfl (pc0 := 396) (pc' := 401) rfl (hb hby at_396) rfl (teq (congrArg own_chr (own_us (j := 0) eR ek) : (own_chr (R9.getD kk 0)) = (own_chr (uu.getD 0 0)))).1 (by decide) (by decide) kT) ?_
    show GoH _ _ _ _ _ _ _ _ _ _  T57 (mkF m 401 #[.val (.long p1), .second, .val (.int p3), .val (.ref b1), .val (.ref b12), .val (.int u), .val (.long q6), .second, .val (.long M), .second, .val (.int w9), .val (.ref u9), .val (.long x9), .second, .val (.ref y9), .val (.int (Int32.ofNat uu.length)), .val (.int (Int32.ofNat kk))] [])
    have tail2 : ∀ (T9 V9 : State) (k9 : Nat) (h9 : Heap) (Lz : List Loc), Stand p l e room_1 (s.setVm V9.vm) m #[(.long p1), (.int p3)] below meth c T9 Lz 12 500 → s.Since V9.vm k9 → k9 ≤ h9.size → T9.heap = h9 → Z.Warmed39 V9.vm → V9.vm.findClass "com/example/oplim/oplim/KeysPeriodPinLaw" = some m.cls → CHv Z EL V9.vm h9 → CHr Z EL s.vm h0 V9.vm h9 → Old Z n0 h9 → Fr n0 Lz → Keep h0 h9 [] → (Exa Z h9 y9 "java/lang/String") → (Fld Z h9 y9 "java/lang/String" "coder" "B" (.int 0)) → (Fld Z h9 y9 "java/lang/String" "value" "[B" (.ref t9)) → (Arv Z h9 t9 kt9 .byte (Int32.ofNat R9.length) (R9.map Value.int) (.int 0)) → (Arv Z h9 b12 k12 .long (19 : Int32) [(.long (1 : Int64)), (.long (10 : Int64)), (.long (100 : Int64)), (.long (1000 : Int64)), (.long (10000 : Int64)), (.long (100000 : Int64)), (.long (1000000 : Int64)), (.long (10000000 : Int64)), (.long (100000000 : Int64)), (.long (1000000000 : Int64)), (.long (10000000000 : Int64)), (.long (100000000000 : Int64)), (.long (1000000000000 : Int64)), (.long (10000000000000 : Int64)), (.long (100000000000000 : Int64)), (.long (1000000000000000 : Int64)), (.long (10000000000000000 : Int64)), (.long (100000000000000000 : Int64)), (.long (1000000000000000000 : Int64))] (.long 0)) → GoH p e below s room_1.cells room_1.slots Z h0 EL (Q_rm0 Z p1 p3 zc fm sd d1 d2 dC1 dC2 um kum un kun s0 v0 kv0 s1 v1 kv1 s2 v2 kv2 s3 v3 kv3 s4 v4 kv4 h0 n0) T9 (mkF m 427 #[.val (.long p1), .second, .val (.int p3), .val (.ref b1), .val (.ref b12), .val (.int u), .val (.long q6), .second, .val (.long M), .second, .val (.int w9), .val (.ref u9), .val (.long x9), .second, .val (.ref y9), .val (.int (Int32.ofNat uu.length)), .val (.int (Int32.ofNat kk))] []) := by
      intro T9 V9 k9 h9 Lz  X9 hS hk e9 hZ hown HH RR O N9 KK E_y9 C_y9 V_y9 A_t9 V_p
      show GoH _ _ _ _ _ _ _ _ _ _  T9 (mkF m 427 #[.val (.long p1), .second, .val (.int p3), .val (.ref b1), .val (.ref b12), .val (.int u), .val (.long q6), .second, .val (.long M), .second, .val (.int w9), .val (.ref u9), .val (.long x9), .second, .val (.ref y9), .val (.int (Int32.ofNat uu.length)), .val (.int (Int32.ofNat kk))] [])
      refine GoH.st (fun tT kT => XS.lload X9.here hx rfl (hb hby at_427) rfl  kT) ?_
      refine GoH.st (fun tT kT => XS.aload X9.here hx rfl (hb hby at_429) rfl rfl  kT) ?_
      refine GoH.st (fun tT kT => XS.iload X9.here hx rfl (hb hby at_431) rfl  kT) ?_
      show GoH _ _ _ _ _ _ _ _ _ _  T9 (mkF m 433 #[.val (.long p1), .second, .val (.int p3), .val (.ref b1), .val (.ref b12), .val (.int u), .val (.long q6), .second, .val (.long M), .second, .val (.int w9), .val (.ref u9), .val (.long x9), .second, .val (.ref y9), .val (.int (Int32.ofNat uu.length)), .val (.int (Int32.ofNat kk))] [(.int (Int32.ofNat kk)), (.ref b12), (.long x9)])
      refine GoH.st (fun tT kT => XS.iconst X9.here hx rfl (hb hby at_433) kT) ?_
      refine GoH.st (fun tT kT => XS.isub X9.here hx rfl (hb hby at_434) rfl kT) ?_
      show GoH _ _ _ _ _ _ _ _ _ _  T9 (mkF m 435 #[.val (.long p1), .second, .val (.int p3), .val (.ref b1), .val (.ref b12), .val (.int u), .val (.long q6), .second, .val (.long M), .second, .val (.int w9), .val (.ref u9), .val (.long x9), .second, .val (.ref y9), .val (.int (Int32.ofNat uu.length)), .val (.int (Int32.ofNat kk))] [(.int ((Int32.ofNat kk) - (1 : Int32))), (.ref b12), (.long x9)])
      rw [show (Int32.ofNat kk) - (1 : Int32) = Int32.ofNat (kk - 1) from own_osub (b := 1) (by omega) (by omega)]
      show GoH _ _ _ _ _ _ _ _ _ _  T9 (mkF m 435 #[.val (.long p1), .second, .val (.int p3), .val (.ref b1), .val (.ref b12), .val (.int u), .val (.long q6), .second, .val (.long M), .second, .val (.int w9), .val (.ref u9), .val (.long x9), .second, .val (.ref y9), .val (.int (Int32.ofNat uu.length)), .val (.int (Int32.ofNat kk))] [(.int (Int32.ofNat (kk - 1))), (.ref b12), (.long x9)])
      obtain ⟨cl58, Ar58, q58, S58, M58, Hh58, G58⟩ := id V_p
      refine GoH.st (X9.laload hx (j := (Int32.ofNat (kk - 1))) (v := (.long (Int64.ofNat (10 ^ (kk - 1))))) (by rw [e9]; exact Ar58.1) (State.isArrayOf_alike hZ.alike Ar58.2.1) Ar58.2.2 (inb_of S58 ⟨own_onn (by omega), (own_olt (b := 19) (by omega) (by omega)).mpr (by omega)⟩) (Hh58.at (inb_of S58 ⟨own_onn (by omega), (own_olt (b := 19) (by omega) (by omega)).mpr (by omega)⟩) (by rw [own_ocl (by omega)]; exact own_p19 (by omega))) (g := (mkF m 435 #[.val (.long p1), .second, .val (.int p3), .val (.ref b1), .val (.ref b12), .val (.int u), .val (.long q6), .second, .val (.long M), .second, .val (.int w9), .val (.ref u9), .val (.long x9), .second, .val (.ref y9), .val (.int (Int32.ofNat uu.length)), .val (.int (Int32.ofNat kk))] [(.int (Int32.ofNat (kk - 1))), (.ref b12), (.long x9)])) rfl rfl (hb hby at_435)) ?_
      show GoH _ _ _ _ _ _ _ _ _ _  T9 (mkF m 436 #[.val (.long p1), .second, .val (.int p3), .val (.ref b1), .val (.ref b12), .val (.int u), .val (.long q6), .second, .val (.long M), .second, .val (.int w9), .val (.ref u9), .val (.long x9), .second, .val (.ref y9), .val (.int (Int32.ofNat uu.length)), .val (.int (Int32.ofNat kk))] [(.long (Int64.ofNat (10 ^ (kk - 1)))), (.long x9)])
      refine GoH.st (fun tT kT => XS.lcmp X9.here hx rfl (hb hby at_436) rfl kT) ?_
      show GoH _ _ _ _ _ _ _ _ _ _  T9 (mkF m 437 #[.val (.long p1), .second, .val (.int p3), .val (.ref b1), .val (.ref b12), .val (.int u), .val (.long q6), .second, .val (.long M), .second, .val (.int w9), .val (.ref u9), .val (.long x9), .second, .val (.ref y9), .val (.int (Int32.ofNat uu.length)), .val (.int (Int32.ofNat kk))] [(.int (lcmpW x9 (Int64.ofNat (10 ^ (kk - 1)))))])
      refine GoH.st (fun tT kT => XS.ifYes X9.here hx rfl (pc0 := 437) (pc' := 442) rfl (hb hby at_437) rfl ((if0 _ _).trans (flt (own_plo hX ek : ¬ ((lcmpW x9 (Int64.ofNat (10 ^ (kk - 1)))) < (0 : Int32)))).2.1) (by decide) (by decide) kT) ?_
      show GoH _ _ _ _ _ _ _ _ _ _  T9 (mkF m 442 #[.val (.long p1), .second, .val (.int p3), .val (.ref b1), .val (.ref b12), .val (.int u), .val (.long q6), .second, .val (.long M), .second, .val (.int w9), .val (.ref u9), .val (.long x9), .second, .val (.ref y9), .val (.int (Int32.ofNat uu.length)), .val (.int (Int32.ofNat kk))] [])
      suffices kT59 : GoH p e below s room_1.cells room_1.slots Z h0 EL (Q_rm0 Z p1 p3 zc fm sd d1 d2 dC1 dC2 um kum un kun s0 v0 kv0 s1 v1 kv1 s2 v2 kv2 s3 v3 kv3 s4 v4 kv4 h0 n0) T9 (mkF m 462 #[.val (.long p1), .second, .val (.int p3), .val (.ref b1), .val (.ref b12), .val (.int u), .val (.long q6), .second, .val (.long M), .second, .val (.int w9), .val (.ref u9), .val (.long x9), .second, .val (.ref y9), .val (.int (Int32.ofNat uu.length)), .val (.int (Int32.ofNat kk))] []) by
        show GoH _ _ _ _ _ _ _ _ _ _  T9 (mkF m 442 #[.val (.long p1), .second, .val (.int p3), .val (.ref b1), .val (.ref b12), .val (.int u), .val (.long q6), .second, .val (.long M), .second, .val (.int w9), .val (.ref u9), .val (.long x9), .second, .val (.ref y9), .val (.int (Int32.ofNat uu.length)), .val (.int (Int32.ofNat kk))] [])
        refine GoH.st (fun tT kT => XS.iload X9.here hx rfl (hb hby at_442) rfl  kT) ?_
        refine GoH.st (fun tT kT => XS.bipush X9.here hx rfl (hb hby at_444) kT) ?_
        show GoH _ _ _ _ _ _ _ _ _ _  T9 (mkF m 446 #[.val (.long p1), .second, .val (.int p3), .val (.ref b1), .val (.ref b12), .val (.int u), .val (.long q6), .second, .val (.long M), .second, .val (.int w9), .val (.ref u9), .val (.long x9), .second, .val (.ref y9), .val (.int (Int32.ofNat uu.length)), .val (.int (Int32.ofNat kk))] [(.int (19 : Int32)), (.int (Int32.ofNat kk))])
        by_cases c446_60 : (Int32.ofNat kk) < (19 : Int32)
        · refine GoH.st (fun tT kT => XS.icmpNo X9.here hx rfl (hb hby at_446) rfl (tlt c446_60).2.1 kT) ?_
          show GoH _ _ _ _ _ _ _ _ _ _  T9 (mkF m 449 #[.val (.long p1), .second, .val (.int p3), .val (.ref b1), .val (.ref b12), .val (.int u), .val (.long q6), .second, .val (.long M), .second, .val (.int w9), .val (.ref u9), .val (.long x9), .second, .val (.ref y9), .val (.int (Int32.ofNat uu.length)), .val (.int (Int32.ofNat kk))] [])
          refine GoH.st (fun tT kT => XS.lload X9.here hx rfl (hb hby at_449) rfl  kT) ?_
          refine GoH.st (fun tT kT => XS.aload X9.here hx rfl (hb hby at_451) rfl rfl  kT) ?_
          refine GoH.st (fun tT kT => XS.iload X9.here hx rfl (hb hby at_453) rfl  kT) ?_
          show GoH _ _ _ _ _ _ _ _ _ _  T9 (mkF m 455 #[.val (.long p1), .second, .val (.int p3), .val (.ref b1), .val (.ref b12), .val (.int u), .val (.long q6), .second, .val (.long M), .second, .val (.int w9), .val (.ref u9), .val (.long x9), .second, .val (.ref y9), .val (.int (Int32.ofNat uu.length)), .val (.int (Int32.ofNat kk))] [(.int (Int32.ofNat kk)), (.ref b12), (.long x9)])
          obtain ⟨cl61, Ar61, q61, S61, M61, Hh61, G61⟩ := id V_p
          refine GoH.st (X9.laload hx (j := (Int32.ofNat kk)) (v := (.long (Int64.ofNat (10 ^ (kk))))) (by rw [e9]; exact Ar61.1) (State.isArrayOf_alike hZ.alike Ar61.2.1) Ar61.2.2 (inb_of S61 ⟨own_onn (by omega), (own_olt (b := 19) (by omega) (by omega)).mpr (own_lt19 c446_60 (by omega))⟩) (Hh61.at (inb_of S61 ⟨own_onn (by omega), (own_olt (b := 19) (by omega) (by omega)).mpr (own_lt19 c446_60 (by omega))⟩) (by rw [own_ocl (by omega)]; exact own_p19 (own_lt19 c446_60 (by omega)))) (g := (mkF m 455 #[.val (.long p1), .second, .val (.int p3), .val (.ref b1), .val (.ref b12), .val (.int u), .val (.long q6), .second, .val (.long M), .second, .val (.int w9), .val (.ref u9), .val (.long x9), .second, .val (.ref y9), .val (.int (Int32.ofNat uu.length)), .val (.int (Int32.ofNat kk))] [(.int (Int32.ofNat kk)), (.ref b12), (.long x9)])) rfl rfl (hb hby at_455)) ?_
          show GoH _ _ _ _ _ _ _ _ _ _  T9 (mkF m 456 #[.val (.long p1), .second, .val (.int p3), .val (.ref b1), .val (.ref b12), .val (.int u), .val (.long q6), .second, .val (.long M), .second, .val (.int w9), .val (.ref u9), .val (.long x9), .second, .val (.ref y9), .val (.int (Int32.ofNat uu.length)), .val (.int (Int32.ofNat kk))] [(.long (Int64.ofNat (10 ^ (kk)))), (.long x9)])
          refine GoH.st (fun tT kT => XS.lcmp X9.here hx rfl (hb hby at_456) rfl kT) ?_
          show GoH _ _ _ _ _ _ _ _ _ _  T9 (mkF m 457 #[.val (.long p1), .second, .val (.int p3), .val (.ref b1), .val (.ref b12), .val (.int u), .val (.long q6), .second, .val (.long M), .second, .val (.int w9), .val (.ref u9), .val (.long x9), .second, .val (.ref y9), .val (.int (Int32.ofNat uu.length)), .val (.int (Int32.ofNat kk))] [(.int (lcmpW x9 (Int64.ofNat (10 ^ (kk)))))])
          refine GoH.st (fun tT kT => XS.ifYes X9.here hx rfl (pc0 := 457) (pc' := 462) rfl (hb hby at_457) rfl ((if0 _ _).trans (tlt (own_phi hX ek (own_lt19 c446_60 (by omega)) : (lcmpW x9 (Int64.ofNat (10 ^ (kk)))) < (0 : Int32))).1) (by decide) (by decide) kT) ?_
          exact kT59
        · refine GoH.st (fun tT kT => XS.icmpYes X9.here hx rfl (pc0 := 446) (pc' := 462) rfl (hb hby at_446) rfl (flt c446_60).2.1 (by decide) (by decide) kT) ?_
          exact kT59
      show GoH _ _ _ _ _ _ _ _ _ _  T9 (mkF m 462 #[.val (.long p1), .second, .val (.int p3), .val (.ref b1), .val (.ref b12), .val (.int u), .val (.long q6), .second, .val (.long M), .second, .val (.int w9), .val (.ref u9), .val (.long x9), .second, .val (.ref y9), .val (.int (Int32.ofNat uu.length)), .val (.int (Int32.ofNat kk))] [])
      refine GoH.st (fun tT kT => XS.aload X9.here hx rfl (hb hby at_462) rfl rfl  kT) ?_
      refine GoH.st (fun tT kT => XS.iload X9.here hx rfl (hb hby at_464) rfl  kT) ?_
      refine GoH.st (fun tT kT => XS.lload X9.here hx rfl (hb hby at_466) rfl  kT) ?_
      show GoH _ _ _ _ _ _ _ _ _ _  T9 (mkF m 468 #[.val (.long p1), .second, .val (.int p3), .val (.ref b1), .val (.ref b12), .val (.int u), .val (.long q6), .second, .val (.long M), .second, .val (.int w9), .val (.ref u9), .val (.long x9), .second, .val (.ref y9), .val (.int (Int32.ofNat uu.length)), .val (.int (Int32.ofNat kk))] [(.long x9), (.int (Int32.ofNat kk)), (.ref y9)])
      refine GoH.st (fun tT kT => XS.aload X9.here hx rfl (hb hby at_468) rfl rfl  kT) ?_
      refine GoH.st (fun tT kT => XS.iconst X9.here hx rfl (hb hby at_470) kT) ?_
      show GoH _ _ _ _ _ _ _ _ _ _  T9 (mkF m 471 #[.val (.long p1), .second, .val (.int p3), .val (.ref b1), .val (.ref b12), .val (.int u), .val (.long q6), .second, .val (.long M), .second, .val (.int w9), .val (.ref u9), .val (.long x9), .second, .val (.ref y9), .val (.int (Int32.ofNat uu.length)), .val (.int (Int32.ofNat kk))] [(.int (0 : Int32)), (.ref b12), (.long x9), (.int (Int32.ofNat kk)), (.ref y9)])
      refine GoH.pureS (w := (some (.int (1 : Int32)))) (rest := []) (pc' := 474) (Jvm.LawKit.callS X9 hx (y := (⟨"com/example/oplim/oplim/KeysPeriodPinLaw", "dig", "(Ljava/lang/String;IJ[JI)Z"⟩ : MethodName)) hown (mvT hZ (hwi hw 201 rfl)) (mvT hZ (hwi hw 202 rfl)) (mvT hZ (hwi hw 203 rfl)) (mvT hZ (hwi hw 204 rfl)) (by decide) (backOf (W := 0) (rmDg l Z a0 hw [] y9 x9 b12 zc fm t9 kt9 R9 k12 kk 0 h9 n0 O S_COMPACT hcs S_SIO ref_fm E_y9 C_y9 V_y9 A_t9 V_p (by decide) k1 k2 hkl hrl hdg) hZ (hwi hw 204 rfl) (hwi hw 203 rfl) (by decide) (by decide)) (g := (mkF m 471 #[.val (.long p1), .second, .val (.int p3), .val (.ref b1), .val (.ref b12), .val (.int u), .val (.long q6), .second, .val (.long M), .second, .val (.int w9), .val (.ref u9), .val (.long x9), .second, .val (.ref y9), .val (.int (Int32.ofNat uu.length)), .val (.int (Int32.ofNat kk))] [(.int (0 : Int32)), (.ref b12), (.long x9), (.int (Int32.ofNat kk)), (.ref y9)])) rfl (by rw [hml]; rfl) (argsL := [(.ref y9), (.int (Int32.ofNat kk)), (.long x9), (.ref b12), (.int (0 : Int32))]) (rest := []) (lenOf pd__Ljava_lang_String_IJ_JI_Z rfl) rfl (by show 2 * 0 + _ ≤ _; exact Nat.le_of_eq rfl) (hb hby at_471) (fun _ _ => ⟨rfl, e9, (by decide : 12 + 0 ≤ _), (by decide : 500 + 0 ≤ _)⟩)) (fun _ _ _ q => q) N9 (fun T62 L62 X62 e62q N62 => ?_)
      show GoH _ _ _ _ _ _ _ _ _ _  T62 (mkF m 474 #[.val (.long p1), .second, .val (.int p3), .val (.ref b1), .val (.ref b12), .val (.int u), .val (.long q6), .second, .val (.long M), .second, .val (.int w9), .val (.ref u9), .val (.long x9), .second, .val (.ref y9), .val (.int (Int32.ofNat uu.length)), .val (.int (Int32.ofNat kk))] [(.int (1 : Int32))])
      refine GoH.st (fun tT kT => XS.ifNo X62.here hx rfl (hb hby at_474) rfl ((if0 _ _).trans (feq (by decide : ¬ ((1 : Int32) = (0 : Int32)))).1) kT) ?_
      show GoH _ _ _ _ _ _ _ _ _ _  T62 (mkF m 477 #[.val (.long p1), .second, .val (.int p3), .val (.ref b1), .val (.ref b12), .val (.int u), .val (.long q6), .second, .val (.long M), .second, .val (.int w9), .val (.ref u9), .val (.long x9), .second, .val (.ref y9), .val (.int (Int32.ofNat uu.length)), .val (.int (Int32.ofNat kk))] [])
      refine GoH.st (fun tT kT => XS.aload X62.here hx rfl (hb hby at_477) rfl rfl  kT) ?_
      refine GoH.st (fun tT kT => XS.iload X62.here hx rfl (hb hby at_479) rfl  kT) ?_
      refine GoH.st (fun tT kT => XS.lload X62.here hx rfl (hb hby at_481) rfl  kT) ?_
      show GoH _ _ _ _ _ _ _ _ _ _  T62 (mkF m 483 #[.val (.long p1), .second, .val (.int p3), .val (.ref b1), .val (.ref b12), .val (.int u), .val (.long q6), .second, .val (.long M), .second, .val (.int w9), .val (.ref u9), .val (.long x9), .second, .val (.ref y9), .val (.int (Int32.ofNat uu.length)), .val (.int (Int32.ofNat kk))] [(.long x9), (.int (Int32.ofNat kk)), (.ref y9)])
      refine GoH.st (fun tT kT => XS.aload X62.here hx rfl (hb hby at_483) rfl rfl  kT) ?_
      refine GoH.st (fun tT kT => XS.iconst X62.here hx rfl (hb hby at_485) kT) ?_
      show GoH _ _ _ _ _ _ _ _ _ _  T62 (mkF m 486 #[.val (.long p1), .second, .val (.int p3), .val (.ref b1), .val (.ref b12), .val (.int u), .val (.long q6), .second, .val (.long M), .second, .val (.int w9), .val (.ref u9), .val (.long x9), .second, .val (.ref y9), .val (.int (Int32.ofNat uu.length)), .val (.int (Int32.ofNat kk))] [(.int (1 : Int32)), (.ref b12), (.long x9), (.int (Int32.ofNat kk)), (.ref y9)])
      refine GoH.pureS (w := (some (.int (1 : Int32)))) (rest := []) (pc' := 489) (Jvm.LawKit.callS X62 hx (y := (⟨"com/example/oplim/oplim/KeysPeriodPinLaw", "dig", "(Ljava/lang/String;IJ[JI)Z"⟩ : MethodName)) hown (mvT hZ (hwi hw 201 rfl)) (mvT hZ (hwi hw 202 rfl)) (mvT hZ (hwi hw 203 rfl)) (mvT hZ (hwi hw 204 rfl)) (by decide) (backOf (W := 0) (rmDg l Z a0 hw [] y9 x9 b12 zc fm t9 kt9 R9 k12 kk 1 h9 n0 O S_COMPACT hcs S_SIO ref_fm E_y9 C_y9 V_y9 A_t9 V_p (by decide) k1 k2 hkl hrl hdg) hZ (hwi hw 204 rfl) (hwi hw 203 rfl) (by decide) (by decide)) (g := (mkF m 486 #[.val (.long p1), .second, .val (.int p3), .val (.ref b1), .val (.ref b12), .val (.int u), .val (.long q6), .second, .val (.long M), .second, .val (.int w9), .val (.ref u9), .val (.long x9), .second, .val (.ref y9), .val (.int (Int32.ofNat uu.length)), .val (.int (Int32.ofNat kk))] [(.int (1 : Int32)), (.ref b12), (.long x9), (.int (Int32.ofNat kk)), (.ref y9)])) rfl (by rw [hml]; rfl) (argsL := [(.ref y9), (.int (Int32.ofNat kk)), (.long x9), (.ref b12), (.int (1 : Int32))]) (rest := []) (lenOf pd__Ljava_lang_String_IJ_JI_Z rfl) rfl (by show 2 * 0 + _ ≤ _; exact Nat.le_of_eq rfl) (hb hby at_486) (fun _ _ => ⟨rfl, e62q, (by decide : 12 + 0 ≤ _), (by decide : 500 + 0 ≤ _)⟩)) (fun _ _ _ q => q) N62 (fun T63 L63 X63 e63q N63 => ?_)
      show GoH _ _ _ _ _ _ _ _ _ _  T63 (mkF m 489 #[.val (.long p1), .second, .val (.int p3), .val (.ref b1), .val (.ref b12), .val (.int u), .val (.long q6), .second, .val (.long M), .second, .val (.int w9), .val (.ref u9), .val (.long x9), .second, .val (.ref y9), .val (.int (Int32.ofNat uu.length)), .val (.int (Int32.ofNat kk))] [(.int (1 : Int32))])
      refine GoH.st (fun tT kT => XS.ifNo X63.here hx rfl (hb hby at_489) rfl ((if0 _ _).trans (feq (by decide : ¬ ((1 : Int32) = (0 : Int32)))).1) kT) ?_
      show GoH _ _ _ _ _ _ _ _ _ _  T63 (mkF m 492 #[.val (.long p1), .second, .val (.int p3), .val (.ref b1), .val (.ref b12), .val (.int u), .val (.long q6), .second, .val (.long M), .second, .val (.int w9), .val (.ref u9), .val (.long x9), .second, .val (.ref y9), .val (.int (Int32.ofNat uu.length)), .val (.int (Int32.ofNat kk))] [])
      refine GoH.st (fun tT kT => XS.aload X63.here hx rfl (hb hby at_492) rfl rfl  kT) ?_
      refine GoH.st (fun tT kT => XS.iload X63.here hx rfl (hb hby at_494) rfl  kT) ?_
      refine GoH.st (fun tT kT => XS.lload X63.here hx rfl (hb hby at_496) rfl  kT) ?_
      show GoH _ _ _ _ _ _ _ _ _ _  T63 (mkF m 498 #[.val (.long p1), .second, .val (.int p3), .val (.ref b1), .val (.ref b12), .val (.int u), .val (.long q6), .second, .val (.long M), .second, .val (.int w9), .val (.ref u9), .val (.long x9), .second, .val (.ref y9), .val (.int (Int32.ofNat uu.length)), .val (.int (Int32.ofNat kk))] [(.long x9), (.int (Int32.ofNat kk)), (.ref y9)])
      refine GoH.st (fun tT kT => XS.aload X63.here hx rfl (hb hby at_498) rfl rfl  kT) ?_
      refine GoH.st (fun tT kT => XS.iconst X63.here hx rfl (hb hby at_500) kT) ?_
      show GoH _ _ _ _ _ _ _ _ _ _  T63 (mkF m 501 #[.val (.long p1), .second, .val (.int p3), .val (.ref b1), .val (.ref b12), .val (.int u), .val (.long q6), .second, .val (.long M), .second, .val (.int w9), .val (.ref u9), .val (.long x9), .second, .val (.ref y9), .val (.int (Int32.ofNat uu.length)), .val (.int (Int32.ofNat kk))] [(.int (2 : Int32)), (.ref b12), (.long x9), (.int (Int32.ofNat kk)), (.ref y9)])
      refine GoH.pureS (w := (some (.int (1 : Int32)))) (rest := []) (pc' := 504) (Jvm.LawKit.callS X63 hx (y := (⟨"com/example/oplim/oplim/KeysPeriodPinLaw", "dig", "(Ljava/lang/String;IJ[JI)Z"⟩ : MethodName)) hown (mvT hZ (hwi hw 201 rfl)) (mvT hZ (hwi hw 202 rfl)) (mvT hZ (hwi hw 203 rfl)) (mvT hZ (hwi hw 204 rfl)) (by decide) (backOf (W := 0) (rmDg l Z a0 hw [] y9 x9 b12 zc fm t9 kt9 R9 k12 kk 2 h9 n0 O S_COMPACT hcs S_SIO ref_fm E_y9 C_y9 V_y9 A_t9 V_p (by decide) k1 k2 hkl hrl hdg) hZ (hwi hw 204 rfl) (hwi hw 203 rfl) (by decide) (by decide)) (g := (mkF m 501 #[.val (.long p1), .second, .val (.int p3), .val (.ref b1), .val (.ref b12), .val (.int u), .val (.long q6), .second, .val (.long M), .second, .val (.int w9), .val (.ref u9), .val (.long x9), .second, .val (.ref y9), .val (.int (Int32.ofNat uu.length)), .val (.int (Int32.ofNat kk))] [(.int (2 : Int32)), (.ref b12), (.long x9), (.int (Int32.ofNat kk)), (.ref y9)])) rfl (by rw [hml]; rfl) (argsL := [(.ref y9), (.int (Int32.ofNat kk)), (.long x9), (.ref b12), (.int (2 : Int32))]) (rest := []) (lenOf pd__Ljava_lang_String_IJ_JI_Z rfl) rfl (by show 2 * 0 + _ ≤ _; exact Nat.le_of_eq rfl) (hb hby at_501) (fun _ _ => ⟨rfl, e63q, (by decide : 12 + 0 ≤ _), (by decide : 500 + 0 ≤ _)⟩)) (fun _ _ _ q => q) N63 (fun T64 L64 X64 e64q N64 => ?_)
      show GoH _ _ _ _ _ _ _ _ _ _  T64 (mkF m 504 #[.val (.long p1), .second, .val (.int p3), .val (.ref b1), .val (.ref b12), .val (.int u), .val (.long q6), .second, .val (.long M), .second, .val (.int w9), .val (.ref u9), .val (.long x9), .second, .val (.ref y9), .val (.int (Int32.ofNat uu.length)), .val (.int (Int32.ofNat kk))] [(.int (1 : Int32))])
      refine GoH.st (fun tT kT => XS.ifNo X64.here hx rfl (hb hby at_504) rfl ((if0 _ _).trans (feq (by decide : ¬ ((1 : Int32) = (0 : Int32)))).1) kT) ?_
      show GoH _ _ _ _ _ _ _ _ _ _  T64 (mkF m 507 #[.val (.long p1), .second, .val (.int p3), .val (.ref b1), .val (.ref b12), .val (.int u), .val (.long q6), .second, .val (.long M), .second, .val (.int w9), .val (.ref u9), .val (.long x9), .second, .val (.ref y9), .val (.int (Int32.ofNat uu.length)), .val (.int (Int32.ofNat kk))] [])
      refine GoH.st (fun tT kT => XS.aload X64.here hx rfl (hb hby at_507) rfl rfl  kT) ?_
      refine GoH.st (fun tT kT => XS.iload X64.here hx rfl (hb hby at_509) rfl  kT) ?_
      refine GoH.st (fun tT kT => XS.lload X64.here hx rfl (hb hby at_511) rfl  kT) ?_
      show GoH _ _ _ _ _ _ _ _ _ _  T64 (mkF m 513 #[.val (.long p1), .second, .val (.int p3), .val (.ref b1), .val (.ref b12), .val (.int u), .val (.long q6), .second, .val (.long M), .second, .val (.int w9), .val (.ref u9), .val (.long x9), .second, .val (.ref y9), .val (.int (Int32.ofNat uu.length)), .val (.int (Int32.ofNat kk))] [(.long x9), (.int (Int32.ofNat kk)), (.ref y9)])
      refine GoH.st (fun tT kT => XS.aload X64.here hx rfl (hb hby at_513) rfl rfl  kT) ?_
      refine GoH.st (fun tT kT => XS.iconst X64.here hx rfl (hb hby at_515) kT) ?_
      show GoH _ _ _ _ _ _ _ _ _ _  T64 (mkF m 516 #[.val (.long p1), .second, .val (.int p3), .val (.ref b1), .val (.ref b12), .val (.int u), .val (.long q6), .second, .val (.long M), .second, .val (.int w9), .val (.ref u9), .val (.long x9), .second, .val (.ref y9), .val (.int (Int32.ofNat uu.length)), .val (.int (Int32.ofNat kk))] [(.int (3 : Int32)), (.ref b12), (.long x9), (.int (Int32.ofNat kk)), (.ref y9)])
      refine GoH.pureS (w := (some (.int (1 : Int32)))) (rest := []) (pc' := 519) (Jvm.LawKit.callS X64 hx (y := (⟨"com/example/oplim/oplim/KeysPeriodPinLaw", "dig", "(Ljava/lang/String;IJ[JI)Z"⟩ : MethodName)) hown (mvT hZ (hwi hw 201 rfl)) (mvT hZ (hwi hw 202 rfl)) (mvT hZ (hwi hw 203 rfl)) (mvT hZ (hwi hw 204 rfl)) (by decide) (backOf (W := 0) (rmDg l Z a0 hw [] y9 x9 b12 zc fm t9 kt9 R9 k12 kk 3 h9 n0 O S_COMPACT hcs S_SIO ref_fm E_y9 C_y9 V_y9 A_t9 V_p (by decide) k1 k2 hkl hrl hdg) hZ (hwi hw 204 rfl) (hwi hw 203 rfl) (by decide) (by decide)) (g := (mkF m 516 #[.val (.long p1), .second, .val (.int p3), .val (.ref b1), .val (.ref b12), .val (.int u), .val (.long q6), .second, .val (.long M), .second, .val (.int w9), .val (.ref u9), .val (.long x9), .second, .val (.ref y9), .val (.int (Int32.ofNat uu.length)), .val (.int (Int32.ofNat kk))] [(.int (3 : Int32)), (.ref b12), (.long x9), (.int (Int32.ofNat kk)), (.ref y9)])) rfl (by rw [hml]; rfl) (argsL := [(.ref y9), (.int (Int32.ofNat kk)), (.long x9), (.ref b12), (.int (3 : Int32))]) (rest := []) (lenOf pd__Ljava_lang_String_IJ_JI_Z rfl) rfl (by show 2 * 0 + _ ≤ _; exact Nat.le_of_eq rfl) (hb hby at_516) (fun _ _ => ⟨rfl, e64q, (by decide : 12 + 0 ≤ _), (by decide : 500 + 0 ≤ _)⟩)) (fun _ _ _ q => q) N64 (fun T65 L65 X65 e65q N65 => ?_)
      show GoH _ _ _ _ _ _ _ _ _ _  T65 (mkF m 519 #[.val (.long p1), .second, .val (.int p3), .val (.ref b1), .val (.ref b12), .val (.int u), .val (.long q6), .second, .val (.long M), .second, .val (.int w9), .val (.ref u9), .val (.long x9), .second, .val (.ref y9), .val (.int (Int32.ofNat uu.length)), .val (.int (Int32.ofNat kk))] [(.int (1 : Int32))])
      refine GoH.st (fun tT kT => XS.ifNo X65.here hx rfl (hb hby at_519) rfl ((if0 _ _).trans (feq (by decide : ¬ ((1 : Int32) = (0 : Int32)))).1) kT) ?_
      show GoH _ _ _ _ _ _ _ _ _ _  T65 (mkF m 522 #[.val (.long p1), .second, .val (.int p3), .val (.ref b1), .val (.ref b12), .val (.int u), .val (.long q6), .second, .val (.long M), .second, .val (.int w9), .val (.ref u9), .val (.long x9), .second, .val (.ref y9), .val (.int (Int32.ofNat uu.length)), .val (.int (Int32.ofNat kk))] [])
      refine GoH.st (fun tT kT => XS.aload X65.here hx rfl (hb hby at_522) rfl rfl  kT) ?_
      refine GoH.st (fun tT kT => XS.iload X65.here hx rfl (hb hby at_524) rfl  kT) ?_
      refine GoH.st (fun tT kT => XS.lload X65.here hx rfl (hb hby at_526) rfl  kT) ?_
      show GoH _ _ _ _ _ _ _ _ _ _  T65 (mkF m 528 #[.val (.long p1), .second, .val (.int p3), .val (.ref b1), .val (.ref b12), .val (.int u), .val (.long q6), .second, .val (.long M), .second, .val (.int w9), .val (.ref u9), .val (.long x9), .second, .val (.ref y9), .val (.int (Int32.ofNat uu.length)), .val (.int (Int32.ofNat kk))] [(.long x9), (.int (Int32.ofNat kk)), (.ref y9)])
      refine GoH.st (fun tT kT => XS.aload X65.here hx rfl (hb hby at_528) rfl rfl  kT) ?_
      refine GoH.st (fun tT kT => XS.iconst X65.here hx rfl (hb hby at_530) kT) ?_
      show GoH _ _ _ _ _ _ _ _ _ _  T65 (mkF m 531 #[.val (.long p1), .second, .val (.int p3), .val (.ref b1), .val (.ref b12), .val (.int u), .val (.long q6), .second, .val (.long M), .second, .val (.int w9), .val (.ref u9), .val (.long x9), .second, .val (.ref y9), .val (.int (Int32.ofNat uu.length)), .val (.int (Int32.ofNat kk))] [(.int (4 : Int32)), (.ref b12), (.long x9), (.int (Int32.ofNat kk)), (.ref y9)])
      refine GoH.pureS (w := (some (.int (1 : Int32)))) (rest := []) (pc' := 534) (Jvm.LawKit.callS X65 hx (y := (⟨"com/example/oplim/oplim/KeysPeriodPinLaw", "dig", "(Ljava/lang/String;IJ[JI)Z"⟩ : MethodName)) hown (mvT hZ (hwi hw 201 rfl)) (mvT hZ (hwi hw 202 rfl)) (mvT hZ (hwi hw 203 rfl)) (mvT hZ (hwi hw 204 rfl)) (by decide) (backOf (W := 0) (rmDg l Z a0 hw [] y9 x9 b12 zc fm t9 kt9 R9 k12 kk 4 h9 n0 O S_COMPACT hcs S_SIO ref_fm E_y9 C_y9 V_y9 A_t9 V_p (by decide) k1 k2 hkl hrl hdg) hZ (hwi hw 204 rfl) (hwi hw 203 rfl) (by decide) (by decide)) (g := (mkF m 531 #[.val (.long p1), .second, .val (.int p3), .val (.ref b1), .val (.ref b12), .val (.int u), .val (.long q6), .second, .val (.long M), .second, .val (.int w9), .val (.ref u9), .val (.long x9), .second, .val (.ref y9), .val (.int (Int32.ofNat uu.length)), .val (.int (Int32.ofNat kk))] [(.int (4 : Int32)), (.ref b12), (.long x9), (.int (Int32.ofNat kk)), (.ref y9)])) rfl (by rw [hml]; rfl) (argsL := [(.ref y9), (.int (Int32.ofNat kk)), (.long x9), (.ref b12), (.int (4 : Int32))]) (rest := []) (lenOf pd__Ljava_lang_String_IJ_JI_Z rfl) rfl (by show 2 * 0 + _ ≤ _; exact Nat.le_of_eq rfl) (hb hby at_531) (fun _ _ => ⟨rfl, e65q, (by decide : 12 + 0 ≤ _), (by decide : 500 + 0 ≤ _)⟩)) (fun _ _ _ q => q) N65 (fun T66 L66 X66 e66q N66 => ?_)
      show GoH _ _ _ _ _ _ _ _ _ _  T66 (mkF m 534 #[.val (.long p1), .second, .val (.int p3), .val (.ref b1), .val (.ref b12), .val (.int u), .val (.long q6), .second, .val (.long M), .second, .val (.int w9), .val (.ref u9), .val (.long x9), .second, .val (.ref y9), .val (.int (Int32.ofNat uu.length)), .val (.int (Int32.ofNat kk))] [(.int (1 : Int32))])
      refine GoH.st (fun tT kT => XS.ifNo X66.here hx rfl (hb hby at_534) rfl ((if0 _ _).trans (feq (by decide : ¬ ((1 : Int32) = (0 : Int32)))).1) kT) ?_
      show GoH _ _ _ _ _ _ _ _ _ _  T66 (mkF m 537 #[.val (.long p1), .second, .val (.int p3), .val (.ref b1), .val (.ref b12), .val (.int u), .val (.long q6), .second, .val (.long M), .second, .val (.int w9), .val (.ref u9), .val (.long x9), .second, .val (.ref y9), .val (.int (Int32.ofNat uu.length)), .val (.int (Int32.ofNat kk))] [])
      refine GoH.st (fun tT kT => XS.aload X66.here hx rfl (hb hby at_537) rfl rfl  kT) ?_
      refine GoH.st (fun tT kT => XS.iload X66.here hx rfl (hb hby at_539) rfl  kT) ?_
      refine GoH.st (fun tT kT => XS.lload X66.here hx rfl (hb hby at_541) rfl  kT) ?_
      show GoH _ _ _ _ _ _ _ _ _ _  T66 (mkF m 543 #[.val (.long p1), .second, .val (.int p3), .val (.ref b1), .val (.ref b12), .val (.int u), .val (.long q6), .second, .val (.long M), .second, .val (.int w9), .val (.ref u9), .val (.long x9), .second, .val (.ref y9), .val (.int (Int32.ofNat uu.length)), .val (.int (Int32.ofNat kk))] [(.long x9), (.int (Int32.ofNat kk)), (.ref y9)])
      refine GoH.st (fun tT kT => XS.aload X66.here hx rfl (hb hby at_543) rfl rfl  kT) ?_
      refine GoH.st (fun tT kT => XS.iconst X66.here hx rfl (hb hby at_545) kT) ?_
      show GoH _ _ _ _ _ _ _ _ _ _  T66 (mkF m 546 #[.val (.long p1), .second, .val (.int p3), .val (.ref b1), .val (.ref b12), .val (.int u), .val (.long q6), .second, .val (.long M), .second, .val (.int w9), .val (.ref u9), .val (.long x9), .second, .val (.ref y9), .val (.int (Int32.ofNat uu.length)), .val (.int (Int32.ofNat kk))] [(.int (5 : Int32)), (.ref b12), (.long x9), (.int (Int32.ofNat kk)), (.ref y9)])
      refine GoH.pureS (w := (some (.int (1 : Int32)))) (rest := []) (pc' := 549) (Jvm.LawKit.callS X66 hx (y := (⟨"com/example/oplim/oplim/KeysPeriodPinLaw", "dig", "(Ljava/lang/String;IJ[JI)Z"⟩ : MethodName)) hown (mvT hZ (hwi hw 201 rfl)) (mvT hZ (hwi hw 202 rfl)) (mvT hZ (hwi hw 203 rfl)) (mvT hZ (hwi hw 204 rfl)) (by decide) (backOf (W := 0) (rmDg l Z a0 hw [] y9 x9 b12 zc fm t9 kt9 R9 k12 kk 5 h9 n0 O S_COMPACT hcs S_SIO ref_fm E_y9 C_y9 V_y9 A_t9 V_p (by decide) k1 k2 hkl hrl hdg) hZ (hwi hw 204 rfl) (hwi hw 203 rfl) (by decide) (by decide)) (g := (mkF m 546 #[.val (.long p1), .second, .val (.int p3), .val (.ref b1), .val (.ref b12), .val (.int u), .val (.long q6), .second, .val (.long M), .second, .val (.int w9), .val (.ref u9), .val (.long x9), .second, .val (.ref y9), .val (.int (Int32.ofNat uu.length)), .val (.int (Int32.ofNat kk))] [(.int (5 : Int32)), (.ref b12), (.long x9), (.int (Int32.ofNat kk)), (.ref y9)])) rfl (by rw [hml]; rfl) (argsL := [(.ref y9), (.int (Int32.ofNat kk)), (.long x9), (.ref b12), (.int (5 : Int32))]) (rest := []) (lenOf pd__Ljava_lang_String_IJ_JI_Z rfl) rfl (by show 2 * 0 + _ ≤ _; exact Nat.le_of_eq rfl) (hb hby at_546) (fun _ _ => ⟨rfl, e66q, (by decide : 12 + 0 ≤ _), (by decide : 500 + 0 ≤ _)⟩)) (fun _ _ _ q => q) N66 (fun T67 L67 X67 e67q N67 => ?_)
      show GoH _ _ _ _ _ _ _ _ _ _  T67 (mkF m 549 #[.val (.long p1), .second, .val (.int p3), .val (.ref b1), .val (.ref b12), .val (.int u), .val (.long q6), .second, .val (.long M), .second, .val (.int w9), .val (.ref u9), .val (.long x9), .second, .val (.ref y9), .val (.int (Int32.ofNat uu.length)), .val (.int (Int32.ofNat kk))] [(.int (1 : Int32))])
      refine GoH.st (fun tT kT => XS.ifNo X67.here hx rfl (hb hby at_549) rfl ((if0 _ _).trans (feq (by decide : ¬ ((1 : Int32) = (0 : Int32)))).1) kT) ?_
      show GoH _ _ _ _ _ _ _ _ _ _  T67 (mkF m 552 #[.val (.long p1), .second, .val (.int p3), .val (.ref b1), .val (.ref b12), .val (.int u), .val (.long q6), .second, .val (.long M), .second, .val (.int w9), .val (.ref u9), .val (.long x9), .second, .val (.ref y9), .val (.int (Int32.ofNat uu.length)), .val (.int (Int32.ofNat kk))] [])
      refine GoH.st (fun tT kT => XS.aload X67.here hx rfl (hb hby at_552) rfl rfl  kT) ?_
      refine GoH.st (fun tT kT => XS.iload X67.here hx rfl (hb hby at_554) rfl  kT) ?_
      refine GoH.st (fun tT kT => XS.lload X67.here hx rfl (hb hby at_556) rfl  kT) ?_
      show GoH _ _ _ _ _ _ _ _ _ _  T67 (mkF m 558 #[.val (.long p1), .second, .val (.int p3), .val (.ref b1), .val (.ref b12), .val (.int u), .val (.long q6), .second, .val (.long M), .second, .val (.int w9), .val (.ref u9), .val (.long x9), .second, .val (.ref y9), .val (.int (Int32.ofNat uu.length)), .val (.int (Int32.ofNat kk))] [(.long x9), (.int (Int32.ofNat kk)), (.ref y9)])
      refine GoH.st (fun tT kT => XS.aload X67.here hx rfl (hb hby at_558) rfl rfl  kT) ?_
      refine GoH.st (fun tT kT => XS.bipush X67.here hx rfl (hb hby at_560) kT) ?_
      show GoH _ _ _ _ _ _ _ _ _ _  T67 (mkF m 562 #[.val (.long p1), .second, .val (.int p3), .val (.ref b1), .val (.ref b12), .val (.int u), .val (.long q6), .second, .val (.long M), .second, .val (.int w9), .val (.ref u9), .val (.long x9), .second, .val (.ref y9), .val (.int (Int32.ofNat uu.length)), .val (.int (Int32.ofNat kk))] [(.int (6 : Int32)), (.ref b12), (.long x9), (.int (Int32.ofNat kk)), (.ref y9)])
      refine GoH.pureS (w := (some (.int (1 : Int32)))) (rest := []) (pc' := 565) (Jvm.LawKit.callS X67 hx (y := (⟨"com/example/oplim/oplim/KeysPeriodPinLaw", "dig", "(Ljava/lang/String;IJ[JI)Z"⟩ : MethodName)) hown (mvT hZ (hwi hw 201 rfl)) (mvT hZ (hwi hw 202 rfl)) (mvT hZ (hwi hw 203 rfl)) (mvT hZ (hwi hw 204 rfl)) (by decide) (backOf (W := 0) (rmDg l Z a0 hw [] y9 x9 b12 zc fm t9 kt9 R9 k12 kk 6 h9 n0 O S_COMPACT hcs S_SIO ref_fm E_y9 C_y9 V_y9 A_t9 V_p (by decide) k1 k2 hkl hrl hdg) hZ (hwi hw 204 rfl) (hwi hw 203 rfl) (by decide) (by decide)) (g := (mkF m 562 #[.val (.long p1), .second, .val (.int p3), .val (.ref b1), .val (.ref b12), .val (.int u), .val (.long q6), .second, .val (.long M), .second, .val (.int w9), .val (.ref u9), .val (.long x9), .second, .val (.ref y9), .val (.int (Int32.ofNat uu.length)), .val (.int (Int32.ofNat kk))] [(.int (6 : Int32)), (.ref b12), (.long x9), (.int (Int32.ofNat kk)), (.ref y9)])) rfl (by rw [hml]; rfl) (argsL := [(.ref y9), (.int (Int32.ofNat kk)), (.long x9), (.ref b12), (.int (6 : Int32))]) (rest := []) (lenOf pd__Ljava_lang_String_IJ_JI_Z rfl) rfl (by show 2 * 0 + _ ≤ _; exact Nat.le_of_eq rfl) (hb hby at_562) (fun _ _ => ⟨rfl, e67q, (by decide : 12 + 0 ≤ _), (by decide : 500 + 0 ≤ _)⟩)) (fun _ _ _ q => q) N67 (fun T68 L68 X68 e68q N68 => ?_)
      show GoH _ _ _ _ _ _ _ _ _ _  T68 (mkF m 565 #[.val (.long p1), .second, .val (.int p3), .val (.ref b1), .val (.ref b12), .val (.int u), .val (.long q6), .second, .val (.long M), .second, .val (.int w9), .val (.ref u9), .val (.long x9), .second, .val (.ref y9), .val (.int (Int32.ofNat uu.length)), .val (.int (Int32.ofNat kk))] [(.int (1 : Int32))])
      refine GoH.st (fun tT kT => XS.ifNo X68.here hx rfl (hb hby at_565) rfl ((if0 _ _).trans (feq (by decide : ¬ ((1 : Int32) = (0 : Int32)))).1) kT) ?_
      show GoH _ _ _ _ _ _ _ _ _ _  T68 (mkF m 568 #[.val (.long p1), .second, .val (.int p3), .val (.ref b1), .val (.ref b12), .val (.int u), .val (.long q6), .second, .val (.long M), .second, .val (.int w9), .val (.ref u9), .val (.long x9), .second, .val (.ref y9), .val (.int (Int32.ofNat uu.length)), .val (.int (Int32.ofNat kk))] [])
      refine GoH.st (fun tT kT => XS.aload X68.here hx rfl (hb hby at_568) rfl rfl  kT) ?_
      refine GoH.st (fun tT kT => XS.iload X68.here hx rfl (hb hby at_570) rfl  kT) ?_
      refine GoH.st (fun tT kT => XS.lload X68.here hx rfl (hb hby at_572) rfl  kT) ?_
      show GoH _ _ _ _ _ _ _ _ _ _  T68 (mkF m 574 #[.val (.long p1), .second, .val (.int p3), .val (.ref b1), .val (.ref b12), .val (.int u), .val (.long q6), .second, .val (.long M), .second, .val (.int w9), .val (.ref u9), .val (.long x9), .second, .val (.ref y9), .val (.int (Int32.ofNat uu.length)), .val (.int (Int32.ofNat kk))] [(.long x9), (.int (Int32.ofNat kk)), (.ref y9)])
      refine GoH.st (fun tT kT => XS.aload X68.here hx rfl (hb hby at_574) rfl rfl  kT) ?_
      refine GoH.st (fun tT kT => XS.bipush X68.here hx rfl (hb hby at_576) kT) ?_
      show GoH _ _ _ _ _ _ _ _ _ _  T68 (mkF m 578 #[.val (.long p1), .second, .val (.int p3), .val (.ref b1), .val (.ref b12), .val (.int u), .val (.long q6), .second, .val (.long M), .second, .val (.int w9), .val (.ref u9), .val (.long x9), .second, .val (.ref y9), .val (.int (Int32.ofNat uu.length)), .val (.int (Int32.ofNat kk))] [(.int (7 : Int32)), (.ref b12), (.long x9), (.int (Int32.ofNat kk)), (.ref y9)])
      refine GoH.pureS (w := (some (.int (1 : Int32)))) (rest := []) (pc' := 581) (Jvm.LawKit.callS X68 hx (y := (⟨"com/example/oplim/oplim/KeysPeriodPinLaw", "dig", "(Ljava/lang/String;IJ[JI)Z"⟩ : MethodName)) hown (mvT hZ (hwi hw 201 rfl)) (mvT hZ (hwi hw 202 rfl)) (mvT hZ (hwi hw 203 rfl)) (mvT hZ (hwi hw 204 rfl)) (by decide) (backOf (W := 0) (rmDg l Z a0 hw [] y9 x9 b12 zc fm t9 kt9 R9 k12 kk 7 h9 n0 O S_COMPACT hcs S_SIO ref_fm E_y9 C_y9 V_y9 A_t9 V_p (by decide) k1 k2 hkl hrl hdg) hZ (hwi hw 204 rfl) (hwi hw 203 rfl) (by decide) (by decide)) (g := (mkF m 578 #[.val (.long p1), .second, .val (.int p3), .val (.ref b1), .val (.ref b12), .val (.int u), .val (.long q6), .second, .val (.long M), .second, .val (.int w9), .val (.ref u9), .val (.long x9), .second, .val (.ref y9), .val (.int (Int32.ofNat uu.length)), .val (.int (Int32.ofNat kk))] [(.int (7 : Int32)), (.ref b12), (.long x9), (.int (Int32.ofNat kk)), (.ref y9)])) rfl (by rw [hml]; rfl) (argsL := [(.ref y9), (.int (Int32.ofNat kk)), (.long x9), (.ref b12), (.int (7 : Int32))]) (rest := []) (lenOf pd__Ljava_lang_String_IJ_JI_Z rfl) rfl (by show 2 * 0 + _ ≤ _; exact Nat.le_of_eq rfl) (hb hby at_578) (fun _ _ => ⟨rfl, e68q, (by decide : 12 + 0 ≤ _), (by decide : 500 + 0 ≤ _)⟩)) (fun _ _ _ q => q) N68 (fun T69 L69 X69 e69q N69 => ?_)
      show GoH _ _ _ _ _ _ _ _ _ _  T69 (mkF m 581 #[.val (.long p1), .second, .val (.int p3), .val (.ref b1), .val (.ref b12), .val (.int u), .val (.long q6), .second, .val (.long M), .second, .val (.int w9), .val (.ref u9), .val (.long x9), .second, .val (.ref y9), .val (.int (Int32.ofNat uu.length)), .val (.int (Int32.ofNat kk))] [(.int (1 : Int32))])
      refine GoH.st (fun tT kT => XS.ifNo X69.here hx rfl (hb hby at_581) rfl ((if0 _ _).trans (feq (by decide : ¬ ((1 : Int32) = (0 : Int32)))).1) kT) ?_
      show GoH _ _ _ _ _ _ _ _ _ _  T69 (mkF m 584 #[.val (.long p1), .second, .val (.int p3), .val (.ref b1), .val (.ref b12), .val (.int u), .val (.long q6), .second, .val (.long M), .second, .val (.int w9), .val (.ref u9), .val (.long x9), .second, .val (.ref y9), .val (.int (Int32.ofNat uu.length)), .val (.int (Int32.ofNat kk))] [])
      refine GoH.st (fun tT kT => XS.aload X69.here hx rfl (hb hby at_584) rfl rfl  kT) ?_
      refine GoH.st (fun tT kT => XS.iload X69.here hx rfl (hb hby at_586) rfl  kT) ?_
      refine GoH.st (fun tT kT => XS.lload X69.here hx rfl (hb hby at_588) rfl  kT) ?_
      show GoH _ _ _ _ _ _ _ _ _ _  T69 (mkF m 590 #[.val (.long p1), .second, .val (.int p3), .val (.ref b1), .val (.ref b12), .val (.int u), .val (.long q6), .second, .val (.long M), .second, .val (.int w9), .val (.ref u9), .val (.long x9), .second, .val (.ref y9), .val (.int (Int32.ofNat uu.length)), .val (.int (Int32.ofNat kk))] [(.long x9), (.int (Int32.ofNat kk)), (.ref y9)])
      refine GoH.st (fun tT kT => XS.aload X69.here hx rfl (hb hby at_590) rfl rfl  kT) ?_
      refine GoH.st (fun tT kT => XS.bipush X69.here hx rfl (hb hby at_592) kT) ?_
      show GoH _ _ _ _ _ _ _ _ _ _  T69 (mkF m 594 #[.val (.long p1), .second, .val (.int p3), .val (.ref b1), .val (.ref b12), .val (.int u), .val (.long q6), .second, .val (.long M), .second, .val (.int w9), .val (.ref u9), .val (.long x9), .second, .val (.ref y9), .val (.int (Int32.ofNat uu.length)), .val (.int (Int32.ofNat kk))] [(.int (8 : Int32)), (.ref b12), (.long x9), (.int (Int32.ofNat kk)), (.ref y9)])
      refine GoH.pureS (w := (some (.int (1 : Int32)))) (rest := []) (pc' := 597) (Jvm.LawKit.callS X69 hx (y := (⟨"com/example/oplim/oplim/KeysPeriodPinLaw", "dig", "(Ljava/lang/String;IJ[JI)Z"⟩ : MethodName)) hown (mvT hZ (hwi hw 201 rfl)) (mvT hZ (hwi hw 202 rfl)) (mvT hZ (hwi hw 203 rfl)) (mvT hZ (hwi hw 204 rfl)) (by decide) (backOf (W := 0) (rmDg l Z a0 hw [] y9 x9 b12 zc fm t9 kt9 R9 k12 kk 8 h9 n0 O S_COMPACT hcs S_SIO ref_fm E_y9 C_y9 V_y9 A_t9 V_p (by decide) k1 k2 hkl hrl hdg) hZ (hwi hw 204 rfl) (hwi hw 203 rfl) (by decide) (by decide)) (g := (mkF m 594 #[.val (.long p1), .second, .val (.int p3), .val (.ref b1), .val (.ref b12), .val (.int u), .val (.long q6), .second, .val (.long M), .second, .val (.int w9), .val (.ref u9), .val (.long x9), .second, .val (.ref y9), .val (.int (Int32.ofNat uu.length)), .val (.int (Int32.ofNat kk))] [(.int (8 : Int32)), (.ref b12), (.long x9), (.int (Int32.ofNat kk)), (.ref y9)])) rfl (by rw [hml]; rfl) (argsL := [(.ref y9), (.int (Int32.ofNat kk)), (.long x9), (.ref b12), (.int (8 : Int32))]) (rest := []) (lenOf pd__Ljava_lang_String_IJ_JI_Z rfl) rfl (by show 2 * 0 + _ ≤ _; exact Nat.le_of_eq rfl) (hb hby at_594) (fun _ _ => ⟨rfl, e69q, (by decide : 12 + 0 ≤ _), (by decide : 500 + 0 ≤ _)⟩)) (fun _ _ _ q => q) N69 (fun T70 L70 X70 e70q N70 => ?_)
      show GoH _ _ _ _ _ _ _ _ _ _  T70 (mkF m 597 #[.val (.long p1), .second, .val (.int p3), .val (.ref b1), .val (.ref b12), .val (.int u), .val (.long q6), .second, .val (.long M), .second, .val (.int w9), .val (.ref u9), .val (.long x9), .second, .val (.ref y9), .val (.int (Int32.ofNat uu.length)), .val (.int (Int32.ofNat kk))] [(.int (1 : Int32))])
      refine GoH.st (fun tT kT => XS.ifNo X70.here hx rfl (hb hby at_597) rfl ((if0 _ _).trans (feq (by decide : ¬ ((1 : Int32) = (0 : Int32)))).1) kT) ?_
      show GoH _ _ _ _ _ _ _ _ _ _  T70 (mkF m 600 #[.val (.long p1), .second, .val (.int p3), .val (.ref b1), .val (.ref b12), .val (.int u), .val (.long q6), .second, .val (.long M), .second, .val (.int w9), .val (.ref u9), .val (.long x9), .second, .val (.ref y9), .val (.int (Int32.ofNat uu.length)), .val (.int (Int32.ofNat kk))] [])
      refine GoH.st (fun tT kT => XS.aload X70.here hx rfl (hb hby at_600) rfl rfl  kT) ?_
      refine GoH.st (fun tT kT => XS.iload X70.here hx rfl (hb hby at_602) rfl  kT) ?_
      refine GoH.st (fun tT kT => XS.lload X70.here hx rfl (hb hby at_604) rfl  kT) ?_
      show GoH _ _ _ _ _ _ _ _ _ _  T70 (mkF m 606 #[.val (.long p1), .second, .val (.int p3), .val (.ref b1), .val (.ref b12), .val (.int u), .val (.long q6), .second, .val (.long M), .second, .val (.int w9), .val (.ref u9), .val (.long x9), .second, .val (.ref y9), .val (.int (Int32.ofNat uu.length)), .val (.int (Int32.ofNat kk))] [(.long x9), (.int (Int32.ofNat kk)), (.ref y9)])
      refine GoH.st (fun tT kT => XS.aload X70.here hx rfl (hb hby at_606) rfl rfl  kT) ?_
      refine GoH.st (fun tT kT => XS.bipush X70.here hx rfl (hb hby at_608) kT) ?_
      show GoH _ _ _ _ _ _ _ _ _ _  T70 (mkF m 610 #[.val (.long p1), .second, .val (.int p3), .val (.ref b1), .val (.ref b12), .val (.int u), .val (.long q6), .second, .val (.long M), .second, .val (.int w9), .val (.ref u9), .val (.long x9), .second, .val (.ref y9), .val (.int (Int32.ofNat uu.length)), .val (.int (Int32.ofNat kk))] [(.int (9 : Int32)), (.ref b12), (.long x9), (.int (Int32.ofNat kk)), (.ref y9)])
      refine GoH.pureS (w := (some (.int (1 : Int32)))) (rest := []) (pc' := 613) (Jvm.LawKit.callS X70 hx (y := (⟨"com/example/oplim/oplim/KeysPeriodPinLaw", "dig", "(Ljava/lang/String;IJ[JI)Z"⟩ : MethodName)) hown (mvT hZ (hwi hw 201 rfl)) (mvT hZ (hwi hw 202 rfl)) (mvT hZ (hwi hw 203 rfl)) (mvT hZ (hwi hw 204 rfl)) (by decide) (backOf (W := 0) (rmDg l Z a0 hw [] y9 x9 b12 zc fm t9 kt9 R9 k12 kk 9 h9 n0 O S_COMPACT hcs S_SIO ref_fm E_y9 C_y9 V_y9 A_t9 V_p (by decide) k1 k2 hkl hrl hdg) hZ (hwi hw 204 rfl) (hwi hw 203 rfl) (by decide) (by decide)) (g := (mkF m 610 #[.val (.long p1), .second, .val (.int p3), .val (.ref b1), .val (.ref b12), .val (.int u), .val (.long q6), .second, .val (.long M), .second, .val (.int w9), .val (.ref u9), .val (.long x9), .second, .val (.ref y9), .val (.int (Int32.ofNat uu.length)), .val (.int (Int32.ofNat kk))] [(.int (9 : Int32)), (.ref b12), (.long x9), (.int (Int32.ofNat kk)), (.ref y9)])) rfl (by rw [hml]; rfl) (argsL := [(.ref y9), (.int (Int32.ofNat kk)), (.long x9), (.ref b12), (.int (9 : Int32))]) (rest := []) (lenOf pd__Ljava_lang_String_IJ_JI_Z rfl) rfl (by show 2 * 0 + _ ≤ _; exact Nat.le_of_eq rfl) (hb hby at_610) (fun _ _ => ⟨rfl, e70q, (by decide : 12 + 0 ≤ _), (by decide : 500 + 0 ≤ _)⟩)) (fun _ _ _ q => q) N70 (fun T71 L71 X71 e71q N71 => ?_)
      show GoH _ _ _ _ _ _ _ _ _ _  T71 (mkF m 613 #[.val (.long p1), .second, .val (.int p3), .val (.ref b1), .val (.ref b12), .val (.int u), .val (.long q6), .second, .val (.long M), .second, .val (.int w9), .val (.ref u9), .val (.long x9), .second, .val (.ref y9), .val (.int (Int32.ofNat uu.length)), .val (.int (Int32.ofNat kk))] [(.int (1 : Int32))])
      refine GoH.st (fun tT kT => XS.ifNo X71.here hx rfl (hb hby at_613) rfl ((if0 _ _).trans (feq (by decide : ¬ ((1 : Int32) = (0 : Int32)))).1) kT) ?_
      show GoH _ _ _ _ _ _ _ _ _ _  T71 (mkF m 616 #[.val (.long p1), .second, .val (.int p3), .val (.ref b1), .val (.ref b12), .val (.int u), .val (.long q6), .second, .val (.long M), .second, .val (.int w9), .val (.ref u9), .val (.long x9), .second, .val (.ref y9), .val (.int (Int32.ofNat uu.length)), .val (.int (Int32.ofNat kk))] [])
      refine GoH.st (fun tT kT => XS.aload X71.here hx rfl (hb hby at_616) rfl rfl  kT) ?_
      refine GoH.st (fun tT kT => XS.iload X71.here hx rfl (hb hby at_618) rfl  kT) ?_
      refine GoH.st (fun tT kT => XS.lload X71.here hx rfl (hb hby at_620) rfl  kT) ?_
      show GoH _ _ _ _ _ _ _ _ _ _  T71 (mkF m 622 #[.val (.long p1), .second, .val (.int p3), .val (.ref b1), .val (.ref b12), .val (.int u), .val (.long q6), .second, .val (.long M), .second, .val (.int w9), .val (.ref u9), .val (.long x9), .second, .val (.ref y9), .val (.int (Int32.ofNat uu.length)), .val (.int (Int32.ofNat kk))] [(.long x9), (.int (Int32.ofNat kk)), (.ref y9)])
      refine GoH.st (fun tT kT => XS.aload X71.here hx rfl (hb hby at_622) rfl rfl  kT) ?_
      refine GoH.st (fun tT kT => XS.bipush X71.here hx rfl (hb hby at_624) kT) ?_
      show GoH _ _ _ _ _ _ _ _ _ _  T71 (mkF m 626 #[.val (.long p1), .second, .val (.int p3), .val (.ref b1), .val (.ref b12), .val (.int u), .val (.long q6), .second, .val (.long M), .second, .val (.int w9), .val (.ref u9), .val (.long x9), .second, .val (.ref y9), .val (.int (Int32.ofNat uu.length)), .val (.int (Int32.ofNat kk))] [(.int (10 : Int32)), (.ref b12), (.long x9), (.int (Int32.ofNat kk)), (.ref y9)])
      refine GoH.pureS (w := (some (.int (1 : Int32)))) (rest := []) (pc' := 629) (Jvm.LawKit.callS X71 hx (y := (⟨"com/example/oplim/oplim/KeysPeriodPinLaw", "dig", "(Ljava/lang/String;IJ[JI)Z"⟩ : MethodName)) hown (mvT hZ (hwi hw 201 rfl)) (mvT hZ (hwi hw 202 rfl)) (mvT hZ (hwi hw 203 rfl)) (mvT hZ (hwi hw 204 rfl)) (by decide) (backOf (W := 0) (rmDg l Z a0 hw [] y9 x9 b12 zc fm t9 kt9 R9 k12 kk 10 h9 n0 O S_COMPACT hcs S_SIO ref_fm E_y9 C_y9 V_y9 A_t9 V_p (by decide) k1 k2 hkl hrl hdg) hZ (hwi hw 204 rfl) (hwi hw 203 rfl) (by decide) (by decide)) (g := (mkF m 626 #[.val (.long p1), .second, .val (.int p3), .val (.ref b1), .val (.ref b12), .val (.int u), .val (.long q6), .second, .val (.long M), .second, .val (.int w9), .val (.ref u9), .val (.long x9), .second, .val (.ref y9), .val (.int (Int32.ofNat uu.length)), .val (.int (Int32.ofNat kk))] [(.int (10 : Int32)), (.ref b12), (.long x9), (.int (Int32.ofNat kk)), (.ref y9)])) rfl (by rw [hml]; rfl) (argsL := [(.ref y9), (.int (Int32.ofNat kk)), (.long x9), (.ref b12), (.int (10 : Int32))]) (rest := []) (lenOf pd__Ljava_lang_String_IJ_JI_Z rfl) rfl (by show 2 * 0 + _ ≤ _; exact Nat.le_of_eq rfl) (hb hby at_626) (fun _ _ => ⟨rfl, e71q, (by decide : 12 + 0 ≤ _), (by decide : 500 + 0 ≤ _)⟩)) (fun _ _ _ q => q) N71 (fun T72 L72 X72 e72q N72 => ?_)
      show GoH _ _ _ _ _ _ _ _ _ _  T72 (mkF m 629 #[.val (.long p1), .second, .val (.int p3), .val (.ref b1), .val (.ref b12), .val (.int u), .val (.long q6), .second, .val (.long M), .second, .val (.int w9), .val (.ref u9), .val (.long x9), .second, .val (.ref y9), .val (.int (Int32.ofNat uu.length)), .val (.int (Int32.ofNat kk))] [(.int (1 : Int32))])
      refine GoH.st (fun tT kT => XS.ifNo X72.here hx rfl (hb hby at_629) rfl ((if0 _ _).trans (feq (by decide : ¬ ((1 : Int32) = (0 : Int32)))).1) kT) ?_
      show GoH _ _ _ _ _ _ _ _ _ _  T72 (mkF m 632 #[.val (.long p1), .second, .val (.int p3), .val (.ref b1), .val (.ref b12), .val (.int u), .val (.long q6), .second, .val (.long M), .second, .val (.int w9), .val (.ref u9), .val (.long x9), .second, .val (.ref y9), .val (.int (Int32.ofNat uu.length)), .val (.int (Int32.ofNat kk))] [])
      refine GoH.st (fun tT kT => XS.aload X72.here hx rfl (hb hby at_632) rfl rfl  kT) ?_
      refine GoH.st (fun tT kT => XS.iload X72.here hx rfl (hb hby at_634) rfl  kT) ?_
      refine GoH.st (fun tT kT => XS.lload X72.here hx rfl (hb hby at_636) rfl  kT) ?_
      show GoH _ _ _ _ _ _ _ _ _ _  T72 (mkF m 638 #[.val (.long p1), .second, .val (.int p3), .val (.ref b1), .val (.ref b12), .val (.int u), .val (.long q6), .second, .val (.long M), .second, .val (.int w9), .val (.ref u9), .val (.long x9), .second, .val (.ref y9), .val (.int (Int32.ofNat uu.length)), .val (.int (Int32.ofNat kk))] [(.long x9), (.int (Int32.ofNat kk)), (.ref y9)])
      refine GoH.st (fun tT kT => XS.aload X72.here hx rfl (hb hby at_638) rfl rfl  kT) ?_
      refine GoH.st (fun tT kT => XS.bipush X72.here hx rfl (hb hby at_640) kT) ?_
      show GoH _ _ _ _ _ _ _ _ _ _  T72 (mkF m 642 #[.val (.long p1), .second, .val (.int p3), .val (.ref b1), .val (.ref b12), .val (.int u), .val (.long q6), .second, .val (.long M), .second, .val (.int w9), .val (.ref u9), .val (.long x9), .second, .val (.ref y9), .val (.int (Int32.ofNat uu.length)), .val (.int (Int32.ofNat kk))] [(.int (11 : Int32)), (.ref b12), (.long x9), (.int (Int32.ofNat kk)), (.ref y9)])
      refine GoH.pureS (w := (some (.int (1 : Int32)))) (rest := []) (pc' := 645) (Jvm.LawKit.callS X72 hx (y := (⟨"com/example/oplim/oplim/KeysPeriodPinLaw", "dig", "(Ljava/lang/String;IJ[JI)Z"⟩ : MethodName)) hown (mvT hZ (hwi hw 201 rfl)) (mvT hZ (hwi hw 202 rfl)) (mvT hZ (hwi hw 203 rfl)) (mvT hZ (hwi hw 204 rfl)) (by decide) (backOf (W := 0) (rmDg l Z a0 hw [] y9 x9 b12 zc fm t9 kt9 R9 k12 kk 11 h9 n0 O S_COMPACT hcs S_SIO ref_fm E_y9 C_y9 V_y9 A_t9 V_p (by decide) k1 k2 hkl hrl hdg) hZ (hwi hw 204 rfl) (hwi hw 203 rfl) (by decide) (by decide)) (g := (mkF m 642 #[.val (.long p1), .second, .val (.int p3), .val (.ref b1), .val (.ref b12), .val (.int u), .val (.long q6), .second, .val (.long M), .second, .val (.int w9), .val (.ref u9), .val (.long x9), .second, .val (.ref y9), .val (.int (Int32.ofNat uu.length)), .val (.int (Int32.ofNat kk))] [(.int (11 : Int32)), (.ref b12), (.long x9), (.int (Int32.ofNat kk)), (.ref y9)])) rfl (by rw [hml]; rfl) (argsL := [(.ref y9), (.int (Int32.ofNat kk)), (.long x9), (.ref b12), (.int (11 : Int32))]) (rest := []) (lenOf pd__Ljava_lang_String_IJ_JI_Z rfl) rfl (by show 2 * 0 + _ ≤ _; exact Nat.le_of_eq rfl) (hb hby at_642) (fun _ _ => ⟨rfl, e72q, (by decide : 12 + 0 ≤ _), (by decide : 500 + 0 ≤ _)⟩)) (fun _ _ _ q => q) N72 (fun T73 L73 X73 e73q N73 => ?_)
      show GoH _ _ _ _ _ _ _ _ _ _  T73 (mkF m 645 #[.val (.long p1), .second, .val (.int p3), .val (.ref b1), .val (.ref b12), .val (.int u), .val (.long q6), .second, .val (.long M), .second, .val (.int w9), .val (.ref u9), .val (.long x9), .second, .val (.ref y9), .val (.int (Int32.ofNat uu.length)), .val (.int (Int32.ofNat kk))] [(.int (1 : Int32))])
      refine GoH.st (fun tT kT => XS.ifNo X73.here hx rfl (hb hby at_645) rfl ((if0 _ _).trans (feq (by decide : ¬ ((1 : Int32) = (0 : Int32)))).1) kT) ?_
      show GoH _ _ _ _ _ _ _ _ _ _  T73 (mkF m 648 #[.val (.long p1), .second, .val (.int p3), .val (.ref b1), .val (.ref b12), .val (.int u), .val (.long q6), .second, .val (.long M), .second, .val (.int w9), .val (.ref u9), .val (.long x9), .second, .val (.ref y9), .val (.int (Int32.ofNat uu.length)), .val (.int (Int32.ofNat kk))] [])
      refine GoH.st (fun tT kT => XS.aload X73.here hx rfl (hb hby at_648) rfl rfl  kT) ?_
      refine GoH.st (fun tT kT => XS.iload X73.here hx rfl (hb hby at_650) rfl  kT) ?_
      refine GoH.st (fun tT kT => XS.lload X73.here hx rfl (hb hby at_652) rfl  kT) ?_
      show GoH _ _ _ _ _ _ _ _ _ _  T73 (mkF m 654 #[.val (.long p1), .second, .val (.int p3), .val (.ref b1), .val (.ref b12), .val (.int u), .val (.long q6), .second, .val (.long M), .second, .val (.int w9), .val (.ref u9), .val (.long x9), .second, .val (.ref y9), .val (.int (Int32.ofNat uu.length)), .val (.int (Int32.ofNat kk))] [(.long x9), (.int (Int32.ofNat kk)), (.ref y9)])
      refine GoH.st (fun tT kT => XS.aload X73.here hx rfl (hb hby at_654) rfl rfl  kT) ?_
      refine GoH.st (fun tT kT => XS.bipush X73.here hx rfl (hb hby at_656) kT) ?_
      show GoH _ _ _ _ _ _ _ _ _ _  T73 (mkF m 658 #[.val (.long p1), .second, .val (.int p3), .val (.ref b1), .val (.ref b12), .val (.int u), .val (.long q6), .second, .val (.long M), .second, .val (.int w9), .val (.ref u9), .val (.long x9), .second, .val (.ref y9), .val (.int (Int32.ofNat uu.length)), .val (.int (Int32.ofNat kk))] [(.int (12 : Int32)), (.ref b12), (.long x9), (.int (Int32.ofNat kk)), (.ref y9)])
      refine GoH.pureS (w := (some (.int (1 : Int32)))) (rest := []) (pc' := 661) (Jvm.LawKit.callS X73 hx (y := (⟨"com/example/oplim/oplim/KeysPeriodPinLaw", "dig", "(Ljava/lang/String;IJ[JI)Z"⟩ : MethodName)) hown (mvT hZ (hwi hw 201 rfl)) (mvT hZ (hwi hw 202 rfl)) (mvT hZ (hwi hw 203 rfl)) (mvT hZ (hwi hw 204 rfl)) (by decide) (backOf (W := 0) (rmDg l Z a0 hw [] y9 x9 b12 zc fm t9 kt9 R9 k12 kk 12 h9 n0 O S_COMPACT hcs S_SIO ref_fm E_y9 C_y9 V_y9 A_t9 V_p (by decide) k1 k2 hkl hrl hdg) hZ (hwi hw 204 rfl) (hwi hw 203 rfl) (by decide) (by decide)) (g := (mkF m 658 #[.val (.long p1), .second, .val (.int p3), .val (.ref b1), .val (.ref b12), .val (.int u), .val (.long q6), .second, .val (.long M), .second, .val (.int w9), .val (.ref u9), .val (.long x9), .second, .val (.ref y9), .val (.int (Int32.ofNat uu.length)), .val (.int (Int32.ofNat kk))] [(.int (12 : Int32)), (.ref b12), (.long x9), (.int (Int32.ofNat kk)), (.ref y9)])) rfl (by rw [hml]; rfl) (argsL := [(.ref y9), (.int (Int32.ofNat kk)), (.long x9), (.ref b12), (.int (12 : Int32))]) (rest := []) (lenOf pd__Ljava_lang_String_IJ_JI_Z rfl) rfl (by show 2 * 0 + _ ≤ _; exact Nat.le_of_eq rfl) (hb hby at_658) (fun _ _ => ⟨rfl, e73q, (by decide : 12 + 0 ≤ _), (by decide : 500 + 0 ≤ _)⟩)) (fun _ _ _ q => q) N73 (fun T74 L74 X74 e74q N74 => ?_)
      show GoH _ _ _ _ _ _ _ _ _ _  T74 (mkF m 661 #[.val (.long p1), .second, .val (.int p3), .val (.ref b1), .val (.ref b12), .val (.int u), .val (.long q6), .second, .val (.long M), .second, .val (.int w9), .val (.ref u9), .val (.long x9), .second, .val (.ref y9), .val (.int (Int32.ofNat uu.length)), .val (.int (Int32.ofNat kk))] [(.int (1 : Int32))])
      refine GoH.st (fun tT kT => XS.ifNo X74.here hx rfl (hb hby at_661) rfl ((if0 _ _).trans (feq (by decide : ¬ ((1 : Int32) = (0 : Int32)))).1) kT) ?_
      show GoH _ _ _ _ _ _ _ _ _ _  T74 (mkF m 664 #[.val (.long p1), .second, .val (.int p3), .val (.ref b1), .val (.ref b12), .val (.int u), .val (.long q6), .second, .val (.long M), .second, .val (.int w9), .val (.ref u9), .val (.long x9), .second, .val (.ref y9), .val (.int (Int32.ofNat uu.length)), .val (.int (Int32.ofNat kk))] [])
      refine GoH.st (fun tT kT => XS.aload X74.here hx rfl (hb hby at_664) rfl rfl  kT) ?_
      refine GoH.st (fun tT kT => XS.iload X74.here hx rfl (hb hby at_666) rfl  kT) ?_
      refine GoH.st (fun tT kT => XS.lload X74.here hx rfl (hb hby at_668) rfl  kT) ?_
      show GoH _ _ _ _ _ _ _ _ _ _  T74 (mkF m 670 #[.val (.long p1), .second, .val (.int p3), .val (.ref b1), .val (.ref b12), .val (.int u), .val (.long q6), .second, .val (.long M), .second, .val (.int w9), .val (.ref u9), .val (.long x9), .second, .val (.ref y9), .val (.int (Int32.ofNat uu.length)), .val (.int (Int32.ofNat kk))] [(.long x9), (.int (Int32.ofNat kk)), (.ref y9)])
      refine GoH.st (fun tT kT => XS.aload X74.here hx rfl (hb hby at_670) rfl rfl  kT) ?_
      refine GoH.st (fun tT kT => XS.bipush X74.here hx rfl (hb hby at_672) kT) ?_
      show GoH _ _ _ _ _ _ _ _ _ _  T74 (mkF m 674 #[.val (.long p1), .second, .val (.int p3), .val (.ref b1), .val (.ref b12), .val (.int u), .val (.long q6), .second, .val (.long M), .second, .val (.int w9), .val (.ref u9), .val (.long x9), .second, .val (.ref y9), .val (.int (Int32.ofNat uu.length)), .val (.int (Int32.ofNat kk))] [(.int (13 : Int32)), (.ref b12), (.long x9), (.int (Int32.ofNat kk)), (.ref y9)])
      refine GoH.pureS (w := (some (.int (1 : Int32)))) (rest := []) (pc' := 677) (Jvm.LawKit.callS X74 hx (y := (⟨"com/example/oplim/oplim/KeysPeriodPinLaw", "dig", "(Ljava/lang/String;IJ[JI)Z"⟩ : MethodName)) hown (mvT hZ (hwi hw 201 rfl)) (mvT hZ (hwi hw 202 rfl)) (mvT hZ (hwi hw 203 rfl)) (mvT hZ (hwi hw 204 rfl)) (by decide) (backOf (W := 0) (rmDg l Z a0 hw [] y9 x9 b12 zc fm t9 kt9 R9 k12 kk 13 h9 n0 O S_COMPACT hcs S_SIO ref_fm E_y9 C_y9 V_y9 A_t9 V_p (by decide) k1 k2 hkl hrl hdg) hZ (hwi hw 204 rfl) (hwi hw 203 rfl) (by decide) (by decide)) (g := (mkF m 674 #[.val (.long p1), .second, .val (.int p3), .val (.ref b1), .val (.ref b12), .val (.int u), .val (.long q6), .second, .val (.long M), .second, .val (.int w9), .val (.ref u9), .val (.long x9), .second, .val (.ref y9), .val (.int (Int32.ofNat uu.length)), .val (.int (Int32.ofNat kk))] [(.int (13 : Int32)), (.ref b12), (.long x9), (.int (Int32.ofNat kk)), (.ref y9)])) rfl (by rw [hml]; rfl) (argsL := [(.ref y9), (.int (Int32.ofNat kk)), (.long x9), (.ref b12), (.int (13 : Int32))]) (rest := []) (lenOf pd__Ljava_lang_String_IJ_JI_Z rfl) rfl (by show 2 * 0 + _ ≤ _; exact Nat.le_of_eq rfl) (hb hby at_674) (fun _ _ => ⟨rfl, e74q, (by decide : 12 + 0 ≤ _), (by decide : 500 + 0 ≤ _)⟩)) (fun _ _ _ q => q) N74 (fun T75 L75 X75 e75q N75 => ?_)
      show GoH _ _ _ _ _ _ _ _ _ _  T75 (mkF m 677 #[.val (.long p1), .second, .val (.int p3), .val (.ref b1), .val (.ref b12), .val (.int u), .val (.long q6), .second, .val (.long M), .second, .val (.int w9), .val (.ref u9), .val (.long x9), .second, .val (.ref y9), .val (.int (Int32.ofNat uu.length)), .val (.int (Int32.ofNat kk))] [(.int (1 : Int32))])
      refine GoH.st (fun tT kT => XS.ifNo X75.here hx rfl (hb hby at_677) rfl ((if0 _ _).trans (feq (by decide : ¬ ((1 : Int32) = (0 : Int32)))).1) kT) ?_
      show GoH _ _ _ _ _ _ _ _ _ _  T75 (mkF m 680 #[.val (.long p1), .second, .val (.int p3), .val (.ref b1), .val (.ref b12), .val (.int u), .val (.long q6), .second, .val (.long M), .second, .val (.int w9), .val (.ref u9), .val (.long x9), .second, .val (.ref y9), .val (.int (Int32.ofNat uu.length)), .val (.int (Int32.ofNat kk))] [])
      refine GoH.st (fun tT kT => XS.aload X75.here hx rfl (hb hby at_680) rfl rfl  kT) ?_
      refine GoH.st (fun tT kT => XS.iload X75.here hx rfl (hb hby at_682) rfl  kT) ?_
      refine GoH.st (fun tT kT => XS.lload X75.here hx rfl (hb hby at_684) rfl  kT) ?_
      show GoH _ _ _ _ _ _ _ _ _ _  T75 (mkF m 686 #[.val (.long p1), .second, .val (.int p3), .val (.ref b1), .val (.ref b12), .val (.int u), .val (.long q6), .second, .val (.long M), .second, .val (.int w9), .val (.ref u9), .val (.long x9), .second, .val (.ref y9), .val (.int (Int32.ofNat uu.length)), .val (.int (Int32.ofNat kk))] [(.long x9), (.int (Int32.ofNat kk)), (.ref y9)])
      refine GoH.st (fun tT kT => XS.aload X75.here hx rfl (hb hby at_686) rfl rfl  kT) ?_
      refine GoH.st (fun tT kT => XS.bipush X75.here hx rfl (hb hby at_688) kT) ?_
      show GoH _ _ _ _ _ _ _ _ _ _  T75 (mkF m 690 #[.val (.long p1), .second, .val (.int p3), .val (.ref b1), .val (.ref b12), .val (.int u), .val (.long q6), .second, .val (.long M), .second, .val (.int w9), .val (.ref u9), .val (.long x9), .second, .val (.ref y9), .val (.int (Int32.ofNat uu.length)), .val (.int (Int32.ofNat kk))] [(.int (14 : Int32)), (.ref b12), (.long x9), (.int (Int32.ofNat kk)), (.ref y9)])
      refine GoH.pureS (w := (some (.int (1 : Int32)))) (rest := []) (pc' := 693) (Jvm.LawKit.callS X75 hx (y := (⟨"com/example/oplim/oplim/KeysPeriodPinLaw", "dig", "(Ljava/lang/String;IJ[JI)Z"⟩ : MethodName)) hown (mvT hZ (hwi hw 201 rfl)) (mvT hZ (hwi hw 202 rfl)) (mvT hZ (hwi hw 203 rfl)) (mvT hZ (hwi hw 204 rfl)) (by decide) (backOf (W := 0) (rmDg l Z a0 hw [] y9 x9 b12 zc fm t9 kt9 R9 k12 kk 14 h9 n0 O S_COMPACT hcs S_SIO ref_fm E_y9 C_y9 V_y9 A_t9 V_p (by decide) k1 k2 hkl hrl hdg) hZ (hwi hw 204 rfl) (hwi hw 203 rfl) (by decide) (by decide)) (g := (mkF m 690 #[.val (.long p1), .second, .val (.int p3), .val (.ref b1), .val (.ref b12), .val (.int u), .val (.long q6), .second, .val (.long M), .second, .val (.int w9), .val (.ref u9), .val (.long x9), .second, .val (.ref y9), .val (.int (Int32.ofNat uu.length)), .val (.int (Int32.ofNat kk))] [(.int (14 : Int32)), (.ref b12), (.long x9), (.int (Int32.ofNat kk)), (.ref y9)])) rfl (by rw [hml]; rfl) (argsL := [(.ref y9), (.int (Int32.ofNat kk)), (.long x9), (.ref b12), (.int (14 : Int32))]) (rest := []) (lenOf pd__Ljava_lang_String_IJ_JI_Z rfl) rfl (by show 2 * 0 + _ ≤ _; exact Nat.le_of_eq rfl) (hb hby at_690) (fun _ _ => ⟨rfl, e75q, (by decide : 12 + 0 ≤ _), (by decide : 500 + 0 ≤ _)⟩)) (fun _ _ _ q => q) N75 (fun T76 L76 X76 e76q N76 => ?_)
      show GoH _ _ _ _ _ _ _ _ _ _  T76 (mkF m 693 #[.val (.long p1), .second, .val (.int p3), .val (.ref b1), .val (.ref b12), .val (.int u), .val (.long q6), .second, .val (.long M), .second, .val (.int w9), .val (.ref u9), .val (.long x9), .second, .val (.ref y9), .val (.int (Int32.ofNat uu.length)), .val (.int (Int32.ofNat kk))] [(.int (1 : Int32))])
      refine GoH.st (fun tT kT => XS.ifNo X76.here hx rfl (hb hby at_693) rfl ((if0 _ _).trans (feq (by decide : ¬ ((1 : Int32) = (0 : Int32)))).1) kT) ?_
      show GoH _ _ _ _ _ _ _ _ _ _  T76 (mkF m 696 #[.val (.long p1), .second, .val (.int p3), .val (.ref b1), .val (.ref b12), .val (.int u), .val (.long q6), .second, .val (.long M), .second, .val (.int w9), .val (.ref u9), .val (.long x9), .second, .val (.ref y9), .val (.int (Int32.ofNat uu.length)), .val (.int (Int32.ofNat kk))] [])
      refine GoH.st (fun tT kT => XS.aload X76.here hx rfl (hb hby at_696) rfl rfl  kT) ?_
      refine GoH.st (fun tT kT => XS.iload X76.here hx rfl (hb hby at_698) rfl  kT) ?_
      refine GoH.st (fun tT kT => XS.lload X76.here hx rfl (hb hby at_700) rfl  kT) ?_
      show GoH _ _ _ _ _ _ _ _ _ _  T76 (mkF m 702 #[.val (.long p1), .second, .val (.int p3), .val (.ref b1), .val (.ref b12), .val (.int u), .val (.long q6), .second, .val (.long M), .second, .val (.int w9), .val (.ref u9), .val (.long x9), .second, .val (.ref y9), .val (.int (Int32.ofNat uu.length)), .val (.int (Int32.ofNat kk))] [(.long x9), (.int (Int32.ofNat kk)), (.ref y9)])
      refine GoH.st (fun tT kT => XS.aload X76.here hx rfl (hb hby at_702) rfl rfl  kT) ?_
      refine GoH.st (fun tT kT => XS.bipush X76.here hx rfl (hb hby at_704) kT) ?_
      show GoH _ _ _ _ _ _ _ _ _ _  T76 (mkF m 706 #[.val (.long p1), .second, .val (.int p3), .val (.ref b1), .val (.ref b12), .val (.int u), .val (.long q6), .second, .val (.long M), .second, .val (.int w9), .val (.ref u9), .val (.long x9), .second, .val (.ref y9), .val (.int (Int32.ofNat uu.length)), .val (.int (Int32.ofNat kk))] [(.int (15 : Int32)), (.ref b12), (.long x9), (.int (Int32.ofNat kk)), (.ref y9)])
      refine GoH.pureS (w := (some (.int (1 : Int32)))) (rest := []) (pc' := 709) (Jvm.LawKit.callS X76 hx (y := (⟨"com/example/oplim/oplim/KeysPeriodPinLaw", "dig", "(Ljava/lang/String;IJ[JI)Z"⟩ : MethodName)) hown (mvT hZ (hwi hw 201 rfl)) (mvT hZ (hwi hw 202 rfl)) (mvT hZ (hwi hw 203 rfl)) (mvT hZ (hwi hw 204 rfl)) (by decide) (backOf (W := 0) (rmDg l Z a0 hw [] y9 x9 b12 zc fm t9 kt9 R9 k12 kk 15 h9 n0 O S_COMPACT hcs S_SIO ref_fm E_y9 C_y9 V_y9 A_t9 V_p (by decide) k1 k2 hkl hrl hdg) hZ (hwi hw 204 rfl) (hwi hw 203 rfl) (by decide) (by decide)) (g := (mkF m 706 #[.val (.long p1), .second, .val (.int p3), .val (.ref b1), .val (.ref b12), .val (.int u), .val (.long q6), .second, .val (.long M), .second, .val (.int w9), .val (.ref u9), .val (.long x9), .second, .val (.ref y9), .val (.int (Int32.ofNat uu.length)), .val (.int (Int32.ofNat kk))] [(.int (15 : Int32)), (.ref b12), (.long x9), (.int (Int32.ofNat kk)), (.ref y9)])) rfl (by rw [hml]; rfl) (argsL := [(.ref y9), (.int (Int32.ofNat kk)), (.long x9), (.ref b12), (.int (15 : Int32))]) (rest := []) (lenOf pd__Ljava_lang_String_IJ_JI_Z rfl) rfl (by show 2 * 0 + _ ≤ _; exact Nat.le_of_eq rfl) (hb hby at_706) (fun _ _ => ⟨rfl, e76q, (by decide : 12 + 0 ≤ _), (by decide : 500 + 0 ≤ _)⟩)) (fun _ _ _ q => q) N76 (fun T77 L77 X77 e77q N77 => ?_)
      show GoH _ _ _ _ _ _ _ _ _ _  T77 (mkF m 709 #[.val (.long p1), .second, .val (.int p3), .val (.ref b1), .val (.ref b12), .val (.int u), .val (.long q6), .second, .val (.long M), .second, .val (.int w9), .val (.ref u9), .val (.long x9), .second, .val (.ref y9), .val (.int (Int32.ofNat uu.length)), .val (.int (Int32.ofNat kk))] [(.int (1 : Int32))])
      refine GoH.st (fun tT kT => XS.ifNo X77.here hx rfl (hb hby at_709) rfl ((if0 _ _).trans (feq (by decide : ¬ ((1 : Int32) = (0 : Int32)))).1) kT) ?_
      show GoH _ _ _ _ _ _ _ _ _ _  T77 (mkF m 712 #[.val (.long p1), .second, .val (.int p3), .val (.ref b1), .val (.ref b12), .val (.int u), .val (.long q6), .second, .val (.long M), .second, .val (.int w9), .val (.ref u9), .val (.long x9), .second, .val (.ref y9), .val (.int (Int32.ofNat uu.length)), .val (.int (Int32.ofNat kk))] [])
      refine GoH.st (fun tT kT => XS.aload X77.here hx rfl (hb hby at_712) rfl rfl  kT) ?_
      refine GoH.st (fun tT kT => XS.iload X77.here hx rfl (hb hby at_714) rfl  kT) ?_
      refine GoH.st (fun tT kT => XS.lload X77.here hx rfl (hb hby at_716) rfl  kT) ?_
      show GoH _ _ _ _ _ _ _ _ _ _  T77 (mkF m 718 #[.val (.long p1), .second, .val (.int p3), .val (.ref b1), .val (.ref b12), .val (.int u), .val (.long q6), .second, .val (.long M), .second, .val (.int w9), .val (.ref u9), .val (.long x9), .second, .val (.ref y9), .val (.int (Int32.ofNat uu.length)), .val (.int (Int32.ofNat kk))] [(.long x9), (.int (Int32.ofNat kk)), (.ref y9)])
      refine GoH.st (fun tT kT => XS.aload X77.here hx rfl (hb hby at_718) rfl rfl  kT) ?_
      refine GoH.st (fun tT kT => XS.bipush X77.here hx rfl (hb hby at_720) kT) ?_
      show GoH _ _ _ _ _ _ _ _ _ _  T77 (mkF m 722 #[.val (.long p1), .second, .val (.int p3), .val (.ref b1), .val (.ref b12), .val (.int u), .val (.long q6), .second, .val (.long M), .second, .val (.int w9), .val (.ref u9), .val (.long x9), .second, .val (.ref y9), .val (.int (Int32.ofNat uu.length)), .val (.int (Int32.ofNat kk))] [(.int (16 : Int32)), (.ref b12), (.long x9), (.int (Int32.ofNat kk)), (.ref y9)])
      refine GoH.pureS (w := (some (.int (1 : Int32)))) (rest := []) (pc' := 725) (Jvm.LawKit.callS X77 hx (y := (⟨"com/example/oplim/oplim/KeysPeriodPinLaw", "dig", "(Ljava/lang/String;IJ[JI)Z"⟩ : MethodName)) hown (mvT hZ (hwi hw 201 rfl)) (mvT hZ (hwi hw 202 rfl)) (mvT hZ (hwi hw 203 rfl)) (mvT hZ (hwi hw 204 rfl)) (by decide) (backOf (W := 0) (rmDg l Z a0 hw [] y9 x9 b12 zc fm t9 kt9 R9 k12 kk 16 h9 n0 O S_COMPACT hcs S_SIO ref_fm E_y9 C_y9 V_y9 A_t9 V_p (by decide) k1 k2 hkl hrl hdg) hZ (hwi hw 204 rfl) (hwi hw 203 rfl) (by decide) (by decide)) (g := (mkF m 722 #[.val (.long p1), .second, .val (.int p3), .val (.ref b1), .val (.ref b12), .val (.int u), .val (.long q6), .second, .val (.long M), .second, .val (.int w9), .val (.ref u9), .val (.long x9), .second, .val (.ref y9), .val (.int (Int32.ofNat uu.length)), .val (.int (Int32.ofNat kk))] [(.int (16 : Int32)), (.ref b12), (.long x9), (.int (Int32.ofNat kk)), (.ref y9)])) rfl (by rw [hml]; rfl) (argsL := [(.ref y9), (.int (Int32.ofNat kk)), (.long x9), (.ref b12), (.int (16 : Int32))]) (rest := []) (lenOf pd__Ljava_lang_String_IJ_JI_Z rfl) rfl (by show 2 * 0 + _ ≤ _; exact Nat.le_of_eq rfl) (hb hby at_722) (fun _ _ => ⟨rfl, e77q, (by decide : 12 + 0 ≤ _), (by decide : 500 + 0 ≤ _)⟩)) (fun _ _ _ q => q) N77 (fun T78 L78 X78 e78q N78 => ?_)
      show GoH _ _ _ _ _ _ _ _ _ _  T78 (mkF m 725 #[.val (.long p1), .second, .val (.int p3), .val (.ref b1), .val (.ref b12), .val (.int u), .val (.long q6), .second, .val (.long M), .second, .val (.int w9), .val (.ref u9), .val (.long x9), .second, .val (.ref y9), .val (.int (Int32.ofNat uu.length)), .val (.int (Int32.ofNat kk))] [(.int (1 : Int32))])
      refine GoH.st (fun tT kT => XS.ifNo X78.here hx rfl (hb hby at_725) rfl ((if0 _ _).trans (feq (by decide : ¬ ((1 : Int32) = (0 : Int32)))).1) kT) ?_
      show GoH _ _ _ _ _ _ _ _ _ _  T78 (mkF m 728 #[.val (.long p1), .second, .val (.int p3), .val (.ref b1), .val (.ref b12), .val (.int u), .val (.long q6), .second, .val (.long M), .second, .val (.int w9), .val (.ref u9), .val (.long x9), .second, .val (.ref y9), .val (.int (Int32.ofNat uu.length)), .val (.int (Int32.ofNat kk))] [])
      refine GoH.st (fun tT kT => XS.aload X78.here hx rfl (hb hby at_728) rfl rfl  kT) ?_
      refine GoH.st (fun tT kT => XS.iload X78.here hx rfl (hb hby at_730) rfl  kT) ?_
      refine GoH.st (fun tT kT => XS.lload X78.here hx rfl (hb hby at_732) rfl  kT) ?_
      show GoH _ _ _ _ _ _ _ _ _ _  T78 (mkF m 734 #[.val (.long p1), .second, .val (.int p3), .val (.ref b1), .val (.ref b12), .val (.int u), .val (.long q6), .second, .val (.long M), .second, .val (.int w9), .val (.ref u9), .val (.long x9), .second, .val (.ref y9), .val (.int (Int32.ofNat uu.length)), .val (.int (Int32.ofNat kk))] [(.long x9), (.int (Int32.ofNat kk)), (.ref y9)])
      refine GoH.st (fun tT kT => XS.aload X78.here hx rfl (hb hby at_734) rfl rfl  kT) ?_
      refine GoH.st (fun tT kT => XS.bipush X78.here hx rfl (hb hby at_736) kT) ?_
      show GoH _ _ _ _ _ _ _ _ _ _  T78 (mkF m 738 #[.val (.long p1), .second, .val (.int p3), .val (.ref b1), .val (.ref b12), .val (.int u), .val (.long q6), .second, .val (.long M), .second, .val (.int w9), .val (.ref u9), .val (.long x9), .second, .val (.ref y9), .val (.int (Int32.ofNat uu.length)), .val (.int (Int32.ofNat kk))] [(.int (17 : Int32)), (.ref b12), (.long x9), (.int (Int32.ofNat kk)), (.ref y9)])
      refine GoH.pureS (w := (some (.int (1 : Int32)))) (rest := []) (pc' := 741) (Jvm.LawKit.callS X78 hx (y := (⟨"com/example/oplim/oplim/KeysPeriodPinLaw", "dig", "(Ljava/lang/String;IJ[JI)Z"⟩ : MethodName)) hown (mvT hZ (hwi hw 201 rfl)) (mvT hZ (hwi hw 202 rfl)) (mvT hZ (hwi hw 203 rfl)) (mvT hZ (hwi hw 204 rfl)) (by decide) (backOf (W := 0) (rmDg l Z a0 hw [] y9 x9 b12 zc fm t9 kt9 R9 k12 kk 17 h9 n0 O S_COMPACT hcs S_SIO ref_fm E_y9 C_y9 V_y9 A_t9 V_p (by decide) k1 k2 hkl hrl hdg) hZ (hwi hw 204 rfl) (hwi hw 203 rfl) (by decide) (by decide)) (g := (mkF m 738 #[.val (.long p1), .second, .val (.int p3), .val (.ref b1), .val (.ref b12), .val (.int u), .val (.long q6), .second, .val (.long M), .second, .val (.int w9), .val (.ref u9), .val (.long x9), .second, .val (.ref y9), .val (.int (Int32.ofNat uu.length)), .val (.int (Int32.ofNat kk))] [(.int (17 : Int32)), (.ref b12), (.long x9), (.int (Int32.ofNat kk)), (.ref y9)])) rfl (by rw [hml]; rfl) (argsL := [(.ref y9), (.int (Int32.ofNat kk)), (.long x9), (.ref b12), (.int (17 : Int32))]) (rest := []) (lenOf pd__Ljava_lang_String_IJ_JI_Z rfl) rfl (by show 2 * 0 + _ ≤ _; exact Nat.le_of_eq rfl) (hb hby at_738) (fun _ _ => ⟨rfl, e78q, (by decide : 12 + 0 ≤ _), (by decide : 500 + 0 ≤ _)⟩)) (fun _ _ _ q => q) N78 (fun T79 L79 X79 e79q N79 => ?_)
      show GoH _ _ _ _ _ _ _ _ _ _  T79 (mkF m 741 #[.val (.long p1), .second, .val (.int p3), .val (.ref b1), .val (.ref b12), .val (.int u), .val (.long q6), .second, .val (.long M), .second, .val (.int w9), .val (.ref u9), .val (.long x9), .second, .val (.ref y9), .val (.int (Int32.ofNat uu.length)), .val (.int (Int32.ofNat kk))] [(.int (1 : Int32))])
      refine GoH.st (fun tT kT => XS.ifNo X79.here hx rfl (hb hby at_741) rfl ((if0 _ _).trans (feq (by decide : ¬ ((1 : Int32) = (0 : Int32)))).1) kT) ?_
      show GoH _ _ _ _ _ _ _ _ _ _  T79 (mkF m 744 #[.val (.long p1), .second, .val (.int p3), .val (.ref b1), .val (.ref b12), .val (.int u), .val (.long q6), .second, .val (.long M), .second, .val (.int w9), .val (.ref u9), .val (.long x9), .second, .val (.ref y9), .val (.int (Int32.ofNat uu.length)), .val (.int (Int32.ofNat kk))] [])
      refine GoH.st (fun tT kT => XS.aload X79.here hx rfl (hb hby at_744) rfl rfl  kT) ?_
      refine GoH.st (fun tT kT => XS.iload X79.here hx rfl (hb hby at_746) rfl  kT) ?_
      refine GoH.st (fun tT kT => XS.lload X79.here hx rfl (hb hby at_748) rfl  kT) ?_
      show GoH _ _ _ _ _ _ _ _ _ _  T79 (mkF m 750 #[.val (.long p1), .second, .val (.int p3), .val (.ref b1), .val (.ref b12), .val (.int u), .val (.long q6), .second, .val (.long M), .second, .val (.int w9), .val (.ref u9), .val (.long x9), .second, .val (.ref y9), .val (.int (Int32.ofNat uu.length)), .val (.int (Int32.ofNat kk))] [(.long x9), (.int (Int32.ofNat kk)), (.ref y9)])
      refine GoH.st (fun tT kT => XS.aload X79.here hx rfl (hb hby at_750) rfl rfl  kT) ?_
      refine GoH.st (fun tT kT => XS.bipush X79.here hx rfl (hb hby at_752) kT) ?_
      show GoH _ _ _ _ _ _ _ _ _ _  T79 (mkF m 754 #[.val (.long p1), .second, .val (.int p3), .val (.ref b1), .val (.ref b12), .val (.int u), .val (.long q6), .second, .val (.long M), .second, .val (.int w9), .val (.ref u9), .val (.long x9), .second, .val (.ref y9), .val (.int (Int32.ofNat uu.length)), .val (.int (Int32.ofNat kk))] [(.int (18 : Int32)), (.ref b12), (.long x9), (.int (Int32.ofNat kk)), (.ref y9)])
      refine GoH.pureS (w := (some (.int (1 : Int32)))) (rest := []) (pc' := 757) (Jvm.LawKit.callS X79 hx (y := (⟨"com/example/oplim/oplim/KeysPeriodPinLaw", "dig", "(Ljava/lang/String;IJ[JI)Z"⟩ : MethodName)) hown (mvT hZ (hwi hw 201 rfl)) (mvT hZ (hwi hw 202 rfl)) (mvT hZ (hwi hw 203 rfl)) (mvT hZ (hwi hw 204 rfl)) (by decide) (backOf (W := 0) (rmDg l Z a0 hw [] y9 x9 b12 zc fm t9 kt9 R9 k12 kk 18 h9 n0 O S_COMPACT hcs S_SIO ref_fm E_y9 C_y9 V_y9 A_t9 V_p (by decide) k1 k2 hkl hrl hdg) hZ (hwi hw 204 rfl) (hwi hw 203 rfl) (by decide) (by decide)) (g := (mkF m 754 #[.val (.long p1), .second, .val (.int p3), .val (.ref b1), .val (.ref b12), .val (.int u), .val (.long q6), .second, .val (.long M), .second, .val (.int w9), .val (.ref u9), .val (.long x9), .second, .val (.ref y9), .val (.int (Int32.ofNat uu.length)), .val (.int (Int32.ofNat kk))] [(.int (18 : Int32)), (.ref b12), (.long x9), (.int (Int32.ofNat kk)), (.ref y9)])) rfl (by rw [hml]; rfl) (argsL := [(.ref y9), (.int (Int32.ofNat kk)), (.long x9), (.ref b12), (.int (18 : Int32))]) (rest := []) (lenOf pd__Ljava_lang_String_IJ_JI_Z rfl) rfl (by show 2 * 0 + _ ≤ _; exact Nat.le_of_eq rfl) (hb hby at_754) (fun _ _ => ⟨rfl, e79q, (by decide : 12 + 0 ≤ _), (by decide : 500 + 0 ≤ _)⟩)) (fun _ _ _ q => q) N79 (fun T80 L80 X80 e80q N80 => ?_)
      show GoH _ _ _ _ _ _ _ _ _ _  T80 (mkF m 757 #[.val (.long p1), .second, .val (.int p3), .val (.ref b1), .val (.ref b12), .val (.int u), .val (.long q6), .second, .val (.long M), .second, .val (.int w9), .val (.ref u9), .val (.long x9), .second, .val (.ref y9), .val (.int (Int32.ofNat uu.length)), .val (.int (Int32.ofNat kk))] [(.int (1 : Int32))])
      refine GoH.st (fun tT kT => XS.ifNo X80.here hx rfl (hb hby at_757) rfl ((if0 _ _).trans (feq (by decide : ¬ ((1 : Int32) = (0 : Int32)))).1) kT) ?_
      show GoH _ _ _ _ _ _ _ _ _ _  T80 (mkF m 760 #[.val (.long p1), .second, .val (.int p3), .val (.ref b1), .val (.ref b12), .val (.int u), .val (.long q6), .second, .val (.long M), .second, .val (.int w9), .val (.ref u9), .val (.long x9), .second, .val (.ref y9), .val (.int (Int32.ofNat uu.length)), .val (.int (Int32.ofNat kk))] [])
      refine GoH.st (fun tT kT => XS.iconst X80.here hx rfl (hb hby at_760) kT) ?_
      refine GoH.st (fun tT kT => XS.goto X80.here hx rfl (pc0 := 761) (pc' := 765) rfl (hb hby at_761) (by decide) (by decide) kT) ?_
      show GoH _ _ _ _ _ _ _ _ _ _  T80 (mkF m 765 #[.val (.long p1), .second, .val (.int p3), .val (.ref b1), .val (.ref b12), .val (.int u), .val (.long q6), .second, .val (.long M), .second, .val (.int w9), .val (.ref u9), .val (.long x9), .second, .val (.ref y9), .val (.int (Int32.ofNat uu.length)), .val (.int (Int32.ofNat kk))] [(.int (1 : Int32))])
      refine GoH.retN X80 hS hk e80q hZ hEL HH RR hlk hx (t := .boolean) (z' := (1 : Int32)) Bd.returns (by simp) (hb hby at_765) (by decide) (by decide) rfl ?_
      show Q_rm0 Z _ _ _ _ _ _ _ _ _ _ _ _ _ _ _ _ _ _ _ _ _ _ _ _ _ _ _ _ h0 n0 _ T80.heap _
      rw [e80q]
      exact ⟨rfl, N80⟩
    show GoH _ _ _ _ _ _ _ _ _ _  T57 (mkF m 401 #[.val (.long p1), .second, .val (.int p3), .val (.ref b1), .val (.ref b12), .val (.int u), .val (.long q6), .second, .val (.long M), .second, .val (.int w9), .val (.ref u9), .val (.long x9), .second, .val (.ref y9), .val (.int (Int32.ofNat uu.length)), .val (.int (Int32.ofNat kk))] [])
    refine GoH.st (fun tT kT => XS.iload X57.here hx rfl (hb hby at_401) rfl  kT) ?_
    refine GoH.st (fun tT kT => XS.iconst X57.here hx rfl (hb hby at_403) kT) ?_
    show GoH _ _ _ _ _ _ _ _ _ _  T57 (mkF m 404 #[.val (.long p1), .second, .val (.int p3), .val (.ref b1), .val (.ref b12), .val (.int u), .val (.long q6), .second, .val (.long M), .second, .val (.int w9), .val (.ref u9), .val (.long x9), .second, .val (.ref y9), .val (.int (Int32.ofNat uu.length)), .val (.int (Int32.ofNat kk))] [(.int (2 : Int32)), (.int (Int32.ofNat uu.length))])
    by_cases c404_81 : (Int32.ofNat uu.length) = (2 : Int32)
    · refine GoH.st (fun tT kT => XS.icmpNo X57.here hx rfl (hb hby at_404) rfl (teq c404_81).2 kT) ?_
      show GoH _ _ _ _ _ _ _ _ _ _  T57 (mkF m 407 #[.val (.long p1), .second, .val (.int p3), .val (.ref b1), .val (.ref b12), .val (.int u), .val (.long q6), .second, .val (.long M), .second, .val (.int w9), .val (.ref u9), .val (.long x9), .second, .val (.ref y9), .val (.int (Int32.ofNat uu.length)), .val (.int (Int32.ofNat kk))] [])
      refine GoH.st (fun tT kT => XS.aload X57.here hx rfl (hb hby at_407) rfl rfl  kT) ?_
      refine GoH.st (fun tT kT => XS.iload X57.here hx rfl (hb hby at_409) rfl  kT) ?_
      refine GoH.st (fun tT kT => XS.iconst X57.here hx rfl (hb hby at_411) kT) ?_
      show GoH _ _ _ _ _ _ _ _ _ _  T57 (mkF m 412 #[.val (.long p1), .second, .val (.int p3), .val (.ref b1), .val (.ref b12), .val (.int u), .val (.long q6), .second, .val (.long M), .second, .val (.int w9), .val (.ref u9), .val (.long x9), .second, .val (.ref y9), .val (.int (Int32.ofNat uu.length)), .val (.int (Int32.ofNat kk))] [(.int (1 : Int32)), (.int (Int32.ofNat kk)), (.ref y9)])
      refine GoH.st (fun tT kT => XS.iadd X57.here hx rfl (hb hby at_412) rfl kT) ?_
      show GoH _ _ _ _ _ _ _ _ _ _  T57 (mkF m 413 #[.val (.long p1), .second, .val (.int p3), .val (.ref b1), .val (.ref b12), .val (.int u), .val (.long q6), .second, .val (.long M), .second, .val (.int w9), .val (.ref u9), .val (.long x9), .second, .val (.ref y9), .val (.int (Int32.ofNat uu.length)), .val (.int (Int32.ofNat kk))] [(.int ((Int32.ofNat kk) + (1 : Int32))), (.ref y9)])
      rw [show ((Int32.ofNat kk) + (1 : Int32)) = Int32.ofNat (kk + 1) from (Int32.ofNat_add kk 1).symm]
      show GoH _ _ _ _ _ _ _ _ _ _  T57 (mkF m 413 #[.val (.long p1), .second, .val (.int p3), .val (.ref b1), .val (.ref b12), .val (.int u), .val (.long q6), .second, .val (.long M), .second, .val (.int w9), .val (.ref u9), .val (.long x9), .second, .val (.ref y9), .val (.int (Int32.ofNat uu.length)), .val (.int (Int32.ofNat kk))] [(.int (Int32.ofNat (kk + 1))), (.ref y9)])
      obtain ⟨cq82, kq82, q82a, q82b, q82c⟩ := isOf hZ e57q E_y9
      refine GoH.pure (w := (some (.int (own_chr (R9.getD (kk + 1) 0))))) (rest := []) (pc' := 416) (X57.virtualBack hx (y := (⟨"java/lang/String", "charAt", "(I)C"⟩ : MethodName)) (z := (⟨"java/lang/String", "charAt", "(I)C"⟩ : MethodName)) hown (mvT hZ (hwi hw 179 rfl)) (mvT hZ (hwi hw 180 rfl)) (notFace_of_selects (args := #[]) (mvT hZ (hwi hw 182 rfl))) (mvT hZ (hwi hw 182 rfl)) (mvT hZ (hwi hw 181 rfl)) (by decide) (backOf (W := 0) (rmCA l Z a0 hw [] y9 zc fm t9 kt9 R9 (kk + 1) h9 n0 O S_COMPACT hcs S_SIO ref_fm E_y9 C_y9 V_y9 A_t9 (by have := own_two c404_81 (by omega); omega) (by omega)) hZ (hwi hw 183 rfl) (hwi hw 25 rfl) (by decide) (by decide)) q82a q82c (g := (mkF m 413 #[.val (.long p1), .second, .val (.int p3), .val (.ref b1), .val (.ref b12), .val (.int u), .val (.long q6), .second, .val (.long M), .second, .val (.int w9), .val (.ref u9), .val (.long x9), .second, .val (.ref y9), .val (.int (Int32.ofNat uu.length)), .val (.int (Int32.ofNat kk))] [(.int (Int32.ofNat (kk + 1))), (.ref y9)])) rfl (by rw [hml]; rfl) (Steps.refl _) (argsL := [(.int (Int32.ofNat (kk + 1)))]) (rest := []) (lenOf pd__I_C rfl) rfl (by show 2 * 0 + _ ≤ _; exact Nat.le_of_eq rfl) (hb hby at_413) (fun _ _ => ⟨rfl, e57q, (by decide : 12 + 0 ≤ _), (by decide : 500 + 0 ≤ _)⟩)) (fun _ _ _ q => q) N57 (fun T82 L82 X82 e82q N82 => ?_)
      show GoH _ _ _ _ _ _ _ _ _ _  T82 (mkF m 416 #[.val (.long p1), .second, .val (.int p3), .val (.ref b1), .val (.ref b12), .val (.int u), .val (.long q6), .second, .val (.long M), .second, .val (.int w9), .val (.ref u9), .val (.long x9), .second, .val (.ref y9), .val (.int (Int32.ofNat uu.length)), .val (.int (Int32.ofNat kk))] [(.int (own_chr (R9.getD (kk + 1) 0)))])
      refine GoH.st (fun tT kT => XS.aload X82.here hx rfl (hb hby at_416) rfl rfl  kT) ?_
      refine GoH.st (fun tT kT => XS.iconst X82.here hx rfl (hb hby at_418) kT) ?_
      show GoH _ _ _ _ _ _ _ _ _ _  T82 (mkF m 419 #[.val (.long p1), .second, .val (.int p3), .val (.ref b1), .val (.ref b12), .val (.int u), .val (.long q6), .second, .val (.long M), .second, .val (.int w9), .val (.ref u9), .val (.long x9), .second, .val (.ref y9), .val (.int (Int32.ofNat uu.length)), .val (.int (Int32.ofNat kk))] [(.int (1 : Int32)), (.ref u9), (.int (own_chr (R9.getD (kk + 1) 0)))])
      obtain ⟨cq83, kq83, q83a, q83b, q83c⟩ := isOf hZ e82q E_u9
      refine GoH.pure (w := (some (.int (own_chr (uu.getD 1 0))))) (rest := [(.int (own_chr (R9.getD (kk + 1) 0)))]) (pc' := 422) (X82.virtualBack hx (y := (⟨"java/lang/String", "charAt", "(I)C"⟩ : MethodName)) (z := (⟨"java/lang/String", "charAt", "(I)C"⟩ : MethodName)) hown (mvT hZ (hwi hw 179 rfl)) (mvT hZ (hwi hw 180 rfl)) (notFace_of_selects (args := #[]) (mvT hZ (hwi hw 182 rfl))) (mvT hZ (hwi hw 182 rfl)) (mvT hZ (hwi hw 181 rfl)) (by decide) (backOf (W := 1) (rmCA l Z a0 hw [] u9 zc fm z9 kz9 uu 1 h9 n0 O S_COMPACT hcs S_SIO ref_fm E_u9 C_u9 V_u9 A_z9 (by have := own_two c404_81 (by omega); omega) (by omega)) hZ (hwi hw 183 rfl) (hwi hw 25 rfl) (by decide) (by decide)) q83a q83c (g := (mkF m 419 #[.val (.long p1), .second, .val (.int p3), .val (.ref b1), .val (.ref b12), .val (.int u), .val (.long q6), .second, .val (.long M), .second, .val (.int w9), .val (.ref u9), .val (.long x9), .second, .val (.ref y9), .val (.int (Int32.ofNat uu.length)), .val (.int (Int32.ofNat kk))] [(.int (1 : Int32)), (.ref u9), (.int (own_chr (R9.getD (kk + 1) 0)))])) rfl (by rw [hml]; rfl) (Steps.refl _) (argsL := [(.int (1 : Int32))]) (rest := [(.int (own_chr (R9.getD (kk + 1) 0)))]) (lenOf pd__I_C rfl) rfl (by show 2 * 0 + _ ≤ _; exact Nat.le_of_eq rfl) (hb hby at_419) (fun _ _ => ⟨rfl, e82q, (by decide : 12 + 0 ≤ _), (by decide : 500 + 0 ≤ _)⟩)) (fun _ _ _ q => q) N82 (fun T83 L83 X83 e83q N83 => ?_)
      show GoH _ _ _ _ _ _ _ _ _ _  T83 (mkF m 422 #[.val (.long p1), .second, .val (.int p3), .val (.ref b1), .val (.ref b12), .val (.int u), .val (.long q6), .second, .val (.long M), .second, .val (.int w9), .val (.ref u9), .val (.long x9), .second, .val (.ref y9), .val (.int (Int32.ofNat uu.length)), .val (.int (Int32.ofNat kk))] [(.int (own_chr (uu.getD 1 0))), (.int (own_chr (R9.getD (kk + 1) 0)))])
      refine GoH.st (fun tT kT => XS.icmpYes X83.here hx rfl (pc0 := 422) (pc' := 427) rfl (hb hby at_422) rfl (teq (congrArg own_chr (own_us (j := 1) eR (by rw [ek])) : (own_chr (R9.getD (kk + 1) 0)) = (own_chr (uu.getD 1 0)))).1 (by decide) (by decide) kT) ?_
      show GoH _ _ _ _ _ _ _ _ _ _  T83 (mkF m 427 #[.val (.long p1), .second, .val (.int p3), .val (.ref b1), .val (.ref b12), .val (.int u), .val (.long q6), .second, .val (.long M), .second, .val (.int w9), .val (.ref u9), .val (.long x9), .second, .val (.ref y9), .val (.int (Int32.ofNat uu.length)), .val (.int (Int32.ofNat kk))] [])
      exact tail2 T83 V9 _ h9 _  (X83.more (by decide) (by decide)) hS hk e83q hZ hown HH RR O N83 KK E_y9 C_y9 V_y9 A_t9 V_p
    · refine GoH.st (fun tT kT => XS.icmpYes X57.here hx rfl (pc0 := 404) (pc' := 427) rfl (hb hby at_404) rfl (feq c404_81).2 (by decide) (by decide) kT) ?_
      show GoH _ _ _ _ _ _ _ _ _ _  T57 (mkF m 427 #[.val (.long p1), .second, .val (.int p3), .val (.ref b1), .val (.ref b12), .val (.int u), .val (.long q6), .second, .val (.long M), .second, .val (.int w9), .val (.ref u9), .val (.long x9), .second, .val (.ref y9), .val (.int (Int32.ofNat uu.length)), .val (.int (Int32.ofNat kk))] [])
      exact tail2 T57 V9 _ h9 _  (X57.more (by decide) (by decide)) hS hk e57q hZ hown HH RR O N57 KK E_y9 C_y9 V_y9 A_t9 V_p
  refine GoH.st (fun tT kT => XS.lload X50.here hx rfl (hb hby at_202) rfl  kT) ?_
  show GoH _ _ _ _ _ _ _ _ _ _  T50 (mkF m 204 #[.val (.long p1), .second, .val (.int p3), .val (.ref b1), .val (.ref b12), .val (.int u), .val (.long q6), .second, .val (.long M), .second, .unset, .unset, .unset, .unset, .unset, .unset, .unset] [(.long M)])
  refine GoH.st (X50.ldc2Long hx hown (mvT hZ (hwi hw 1 rfl)) (g := (mkF m 204 #[.val (.long p1), .second, .val (.int p3), .val (.ref b1), .val (.ref b12), .val (.int u), .val (.long q6), .second, .val (.long M), .second, .unset, .unset, .unset, .unset, .unset, .unset, .unset] [(.long M)])) rfl (hb hby at_204)) ?_
  show GoH _ _ _ _ _ _ _ _ _ _  T50 (mkF m 207 #[.val (.long p1), .second, .val (.int p3), .val (.ref b1), .val (.ref b12), .val (.int u), .val (.long q6), .second, .val (.long M), .second, .unset, .unset, .unset, .unset, .unset, .unset, .unset] [(.long (86400000 : Int64)), (.long M)])
  refine GoH.st (fun tT kT => XS.lrem X50.here hx rfl (hb hby at_207) rfl (by decide) kT) ?_
  show GoH _ _ _ _ _ _ _ _ _ _  T50 (mkF m 208 #[.val (.long p1), .second, .val (.int p3), .val (.ref b1), .val (.ref b12), .val (.int u), .val (.long q6), .second, .val (.long M), .second, .unset, .unset, .unset, .unset, .unset, .unset, .unset] [(.long (M - (M / (86400000 : Int64)) * (86400000 : Int64)))])
  rw [lrem_mod]
  show GoH _ _ _ _ _ _ _ _ _ _  T50 (mkF m 208 #[.val (.long p1), .second, .val (.int p3), .val (.ref b1), .val (.ref b12), .val (.int u), .val (.long q6), .second, .val (.long M), .second, .unset, .unset, .unset, .unset, .unset, .unset, .unset] [(.long (M % (86400000 : Int64)))])
  refine GoH.st (fun tT kT => XS.lconst X50.here hx rfl (hb hby at_208) kT) ?_
  show GoH _ _ _ _ _ _ _ _ _ _  T50 (mkF m 209 #[.val (.long p1), .second, .val (.int p3), .val (.ref b1), .val (.ref b12), .val (.int u), .val (.long q6), .second, .val (.long M), .second, .unset, .unset, .unset, .unset, .unset, .unset, .unset] [(.long (0 : Int64)), (.long (M % (86400000 : Int64)))])
  refine GoH.st (fun tT kT => XS.lcmp X50.here hx rfl (hb hby at_209) rfl kT) ?_
  show GoH _ _ _ _ _ _ _ _ _ _  T50 (mkF m 210 #[.val (.long p1), .second, .val (.int p3), .val (.ref b1), .val (.ref b12), .val (.int u), .val (.long q6), .second, .val (.long M), .second, .unset, .unset, .unset, .unset, .unset, .unset, .unset] [(.int (lcmpW (M % (86400000 : Int64)) (0 : Int64)))])
  by_cases c210_84 : (lcmpW (M % (86400000 : Int64)) (0 : Int64)) = (0 : Int32)
  · refine GoH.st (fun tT kT => XS.ifNo X50.here hx rfl (hb hby at_210) rfl ((if0 _ _).trans (teq c210_84).2) kT) ?_
    show GoH _ _ _ _ _ _ _ _ _ _  T50 (mkF m 213 #[.val (.long p1), .second, .val (.int p3), .val (.ref b1), .val (.ref b12), .val (.int u), .val (.long q6), .second, .val (.long M), .second, .unset, .unset, .unset, .unset, .unset, .unset, .unset] [])
    refine GoH.st (fun tT kT => XS.iconst X50.here hx rfl (hb hby at_213) kT) ?_
    refine GoH.st (fun tT kT => XS.istore X50.here hx rfl (hb hby at_214) rfl (l' := #[.val (.long p1), .second, .val (.int p3), .val (.ref b1), .val (.ref b12), .val (.int u), .val (.long q6), .second, .val (.long M), .second, .val (.int (0 : Int32)), .unset, .unset, .unset, .unset, .unset, .unset]) rfl kT) ?_
    refine GoH.st (fun tT kT => XS.goto X50.here hx rfl (pc0 := 216) (pc' := 273) rfl (hb hby at_216) (by decide) (by decide) kT) ?_
    show GoH _ _ _ _ _ _ _ _ _ _  T50 (mkF m 273 #[.val (.long p1), .second, .val (.int p3), .val (.ref b1), .val (.ref b12), .val (.int u), .val (.long q6), .second, .val (.long M), .second, .val (.int (0 : Int32)), .unset, .unset, .unset, .unset, .unset, .unset] [])
    refine GoH.st (fun tT kT => XS.iload X50.here hx rfl (hb hby at_273) rfl  kT) ?_
    show GoH _ _ _ _ _ _ _ _ _ _  T50 (mkF m 275 #[.val (.long p1), .second, .val (.int p3), .val (.ref b1), .val (.ref b12), .val (.int u), .val (.long q6), .second, .val (.long M), .second, .val (.int (0 : Int32)), .unset, .unset, .unset, .unset, .unset, .unset] [(.int (0 : Int32))])
    refine GoH.st (fun tT kT => XS.ifNo X50.here hx rfl (hb hby at_275) rfl ((if0 _ _).trans (teq (rfl : (0 : Int32) = (0 : Int32))).2) kT) ?_
    show GoH _ _ _ _ _ _ _ _ _ _  T50 (mkF m 278 #[.val (.long p1), .second, .val (.int p3), .val (.ref b1), .val (.ref b12), .val (.int u), .val (.long q6), .second, .val (.long M), .second, .val (.int (0 : Int32)), .unset, .unset, .unset, .unset, .unset, .unset] [])
    obtain ⟨sa85, T85, h85, kk85, sb85, kb85, X85, e85, E85, hS85, hk85, hZ85, ho85, E_sa85, F_coder_sa85, F_value_sa85, V_sb85, la85, lb85, CR85, Lt85, ns85, st85⟩ := ldcCH X50 hx hZ hown (hwi hw 228 rfl) wS e50 hS hk hEL (List.mem_of_getElem? (i := 0) rfl) HH (vs := [(.int (100 : Int32))]) (z := 1) ⟨by decide, by decide⟩ (by decide) rfl (g := (mkF m 278 #[.val (.long p1), .second, .val (.int p3), .val (.ref b1), .val (.ref b12), .val (.int u), .val (.long q6), .second, .val (.long M), .second, .val (.int (0 : Int32)), .unset, .unset, .unset, .unset, .unset, .unset] [])) rfl (hb hby at_278) (n := 4) (by decide) (by decide) (by decide) (by decide)
    refine GoH.st st85 ?_
    have Sf_b1 := CHr.safe CR85 V_b1.lt Sf_b1
    have Sf_b12 := CHr.safe CR85 V_b12.lt Sf_b12
    have V_b1 := V_b1.ext E85
    have V_b12 := V_b12.ext E85
    have O := O.ext E85
    have KK := KK.ext E85
    have RR := RR.trans CR85
    have HH := CR85.1
    have hS := hS85
    have hk := hk85
    have hZ := hZ85
    have hown := ho85
    obtain ⟨ne_b1_sa85, ne_b1_sb85⟩ := ns85 _ Sf_b1
    obtain ⟨ne_b12_sa85, ne_b12_sb85⟩ := ns85 _ Sf_b12
    show GoH _ _ _ _ _ _ _ _ _ _  T85 (mkF m 280 #[.val (.long p1), .second, .val (.int p3), .val (.ref b1), .val (.ref b12), .val (.int u), .val (.long q6), .second, .val (.long M), .second, .val (.int (0 : Int32)), .unset, .unset, .unset, .unset, .unset, .unset] [(.ref sa85)])
    refine GoH.st (fun tT kT => XS.astore X85.here hx rfl (hb hby at_280) rfl rfl (l' := #[.val (.long p1), .second, .val (.int p3), .val (.ref b1), .val (.ref b12), .val (.int u), .val (.long q6), .second, .val (.long M), .second, .val (.int (0 : Int32)), .val (.ref sa85), .unset, .unset, .unset, .unset, .unset]) rfl kT) ?_
    refine GoH.st (fun tT kT => XS.goto X85.here hx rfl (pc0 := 282) (pc' := 328) rfl (hb hby at_282) (by decide) (by decide) kT) ?_
    refine GoH.st (fun tT kT => XS.lload X85.here hx rfl (hb hby at_328) rfl  kT) ?_
    show GoH _ _ _ _ _ _ _ _ _ _  T85 (mkF m 330 #[.val (.long p1), .second, .val (.int p3), .val (.ref b1), .val (.ref b12), .val (.int u), .val (.long q6), .second, .val (.long M), .second, .val (.int (0 : Int32)), .val (.ref sa85), .unset, .unset, .unset, .unset, .unset] [(.long M)])
    refine GoH.st (fun tT kT => XS.aloadN X85.here hx rfl (hb hby at_330) rfl rfl  kT) ?_
    refine GoH.st (fun tT kT => XS.iload X85.here hx rfl (hb hby at_331) rfl  kT) ?_
    show GoH _ _ _ _ _ _ _ _ _ _  T85 (mkF m 333 #[.val (.long p1), .second, .val (.int p3), .val (.ref b1), .val (.ref b12), .val (.int u), .val (.long q6), .second, .val (.long M), .second, .val (.int (0 : Int32)), .val (.ref sa85), .unset, .unset, .unset, .unset, .unset] [(.int (0 : Int32)), (.ref b1), (.long M)])
    obtain ⟨cl86, Ar86, q86, S86, M86, Hh86, G86⟩ := id V_b1
    refine GoH.st (X85.laload hx (j := (0 : Int32)) (v := (.long (86400000 : Int64))) (by rw [e85]; exact Ar86.1) (State.isArrayOf_alike hZ.alike Ar86.2.1) Ar86.2.2 (inb_of S86 ⟨by decide, by decide⟩) (Hh86.at (inb_of S86 ⟨by decide, by decide⟩) rfl) (g := (mkF m 333 #[.val (.long p1), .second, .val (.int p3), .val (.ref b1), .val (.ref b12), .val (.int u), .val (.long q6), .second, .val (.long M), .second, .val (.int (0 : Int32)), .val (.ref sa85), .unset, .unset, .unset, .unset, .unset] [(.int (0 : Int32)), (.ref b1), (.long M)])) rfl rfl (hb hby at_333)) ?_
    show GoH _ _ _ _ _ _ _ _ _ _  T85 (mkF m 334 #[.val (.long p1), .second, .val (.int p3), .val (.ref b1), .val (.ref b12), .val (.int u), .val (.long q6), .second, .val (.long M), .second, .val (.int (0 : Int32)), .val (.ref sa85), .unset, .unset, .unset, .unset, .unset] [(.long (86400000 : Int64)), (.long M)])
    refine GoH.st (fun tT kT => XS.ldiv X85.here hx rfl (hb hby at_334) rfl (by decide) kT) ?_
    show GoH _ _ _ _ _ _ _ _ _ _  T85 (mkF m 335 #[.val (.long p1), .second, .val (.int p3), .val (.ref b1), .val (.ref b12), .val (.int u), .val (.long q6), .second, .val (.long M), .second, .val (.int (0 : Int32)), .val (.ref sa85), .unset, .unset, .unset, .unset, .unset] [(.long (M / (86400000 : Int64)))])
    refine GoH.st (fun tT kT => XS.lstore X85.here hx rfl (hb hby at_335) rfl (l' := #[.val (.long p1), .second, .val (.int p3), .val (.ref b1), .val (.ref b12), .val (.int u), .val (.long q6), .second, .val (.long M), .second, .val (.int (0 : Int32)), .val (.ref sa85), .val (.long (M / (86400000 : Int64))), .second, .unset, .unset, .unset]) rfl kT) ?_
    refine GoH.st (fun tT kT => XS.lload X85.here hx rfl (hb hby at_337) rfl  kT) ?_
    show GoH _ _ _ _ _ _ _ _ _ _  T85 (mkF m 339 #[.val (.long p1), .second, .val (.int p3), .val (.ref b1), .val (.ref b12), .val (.int u), .val (.long q6), .second, .val (.long M), .second, .val (.int (0 : Int32)), .val (.ref sa85), .val (.long (M / (86400000 : Int64))), .second, .unset, .unset, .unset] [(.long M)])
    obtain ⟨_, _, ⟨T87, L87, k87, n87⟩, -, X87, ⟨Lc87, hQ87, l87, y87, z87⟩, st87⟩ := Jvm.LawKit.callS X85 hx (y := (⟨"com/example/oplim/oplim/Keys", "period", "(J)Ljava/lang/String;"⟩ : MethodName)) hown (mvT hZ (hwi hw 32 rfl)) (mvT hZ (hwi hw 33 rfl)) (mvT hZ (hwi hw 34 rfl)) (mvT hZ (hwi hw 35 rfl)) (by decide) (backOf (W := 0) (rmPer l Z a0 hw [] M zc sd d1 d2 dC1 dC2 um kum un kun s0 v0 kv0 s1 v1 kv1 s2 v2 kv2 s3 v3 kv3 s4 v4 kv4 h85 n0 O S_COMPACT hcs dT1 dT2 dO1 dO2 S_um A_um S_un A_un E_s0 C_s0 V_s0 A_v0 E_s1 C_s1 V_s1 A_v1 E_s2 C_s2 V_s2 A_v2 E_s3 C_s3 V_s3 A_v3 E_s4 C_s4 V_s4 A_v4 hM) hZ (hwi hw 35 rfl) (hwi hw 34 rfl) (by decide) (by decide)) (g := (mkF m 339 #[.val (.long p1), .second, .val (.int p3), .val (.ref b1), .val (.ref b12), .val (.int u), .val (.long q6), .second, .val (.long M), .second, .val (.int (0 : Int32)), .val (.ref sa85), .val (.long (M / (86400000 : Int64))), .second, .unset, .unset, .unset] [(.long M)])) rfl (by rw [hml]; rfl) (argsL := [(.long M)]) (rest := []) (lenOf pd__J_Ljava_lang_String_ rfl) rfl (by show 2 * 0 + _ ≤ _; exact Nat.le_of_eq rfl) (hb hby at_339) (fun _ _ => ⟨rfl, e85, (by decide : 4 + 6 ≤ _), (by decide : 32 + 400 ≤ _)⟩)
    dsimp only [Pt.U, Pt.locs, Pt.cells, Pt.slots] at X87 l87 y87 z87 st87 hQ87
    rw [l87, y87, z87] at X87
    have X87 : Stand p l e _ _ m _ below meth c T87 _ 10 432 := X87
    obtain ⟨y87, t87, kt87, rfl, N87q, E87q, E_y87, C_y87, V_y87, A_t87⟩ := hQ87
    have N87 := Fr.app N50 N87q
    refine GoH.st st87 ?_
    have E87 := E87q
    have V_b1 := V_b1.ext E87
    have V_b12 := V_b12.ext E87
    have E_sa85 := E_sa85.ext E87
    have V_sb85 := V_sb85.ext E87
    have F_coder_sa85 := F_coder_sa85.ext E87
    have F_value_sa85 := F_value_sa85.ext E87
    have Sf_b1 := Safe.ext E87 HH Sf_b1
    have Sf_b12 := Safe.ext E87 HH Sf_b12
    have RR := RR.trans (CHr.ext E87 HH)
    have HH := HH.ext E87
    have hk := Nat.le_trans hk E87.1
    have O := O.ext E87
    have KK := KK.ext E87
    have eP : own_per M = own_dl (M / (86400000 : Int64)) ++ [(100 : Int32)] := by rw [own_per, if_pos c210_84]
    rw [eP] at A_t87
    have hX : 1 ≤ (M / (86400000 : Int64)).toInt := own_X1 hM (by decide) c210_84
    show GoH _ _ _ _ _ _ _ _ _ _  T87 (mkF m 342 #[.val (.long p1), .second, .val (.int p3), .val (.ref b1), .val (.ref b12), .val (.int u), .val (.long q6), .second, .val (.long M), .second, .val (.int (0 : Int32)), .val (.ref sa85), .val (.long (M / (86400000 : Int64))), .second, .unset, .unset, .unset] [(.ref y87)])
    refine GoH.st (fun tT kT => XS.astore X87.here hx rfl (hb hby at_342) rfl rfl (l' := #[.val (.long p1), .second, .val (.int p3), .val (.ref b1), .val (.ref b12), .val (.int u), .val (.long q6), .second, .val (.long M), .second, .val (.int (0 : Int32)), .val (.ref sa85), .val (.long (M / (86400000 : Int64))), .second, .val (.ref y87), .unset, .unset]) rfl kT) ?_
    refine GoH.st (fun tT kT => XS.aload X87.here hx rfl (hb hby at_344) rfl rfl  kT) ?_
    show GoH _ _ _ _ _ _ _ _ _ _  T87 (mkF m 346 #[.val (.long p1), .second, .val (.int p3), .val (.ref b1), .val (.ref b12), .val (.int u), .val (.long q6), .second, .val (.long M), .second, .val (.int (0 : Int32)), .val (.ref sa85), .val (.long (M / (86400000 : Int64))), .second, .val (.ref y87), .unset, .unset] [(.ref y87)])
    refine GoH.st (fun tT kT => XS.ifnonnullYes X87.here hx rfl (pc0 := 346) (pc' := 351) rfl (hb hby at_346) rfl (by decide) (by decide) kT) ?_
    show GoH _ _ _ _ _ _ _ _ _ _  T87 (mkF m 351 #[.val (.long p1), .second, .val (.int p3), .val (.ref b1), .val (.ref b12), .val (.int u), .val (.long q6), .second, .val (.long M), .second, .val (.int (0 : Int32)), .val (.ref sa85), .val (.long (M / (86400000 : Int64))), .second, .val (.ref y87), .unset, .unset] [])
    exact tail T87 T85 _ T87.heap _ (0 : Int32) sa85 sb85 kb85 [(100 : Int32)] (M / (86400000 : Int64)) y87 t87 kt87 _ (X87.more (by decide) (by decide)) hS hk rfl hZ hown HH RR O N87 KK E_y87 C_y87 V_y87 A_t87 E_sa85 F_coder_sa85 F_value_sa85 V_sb85 V_b12 rfl hX (by decide) (by decide)
  · refine GoH.st (fun tT kT => XS.ifYes X50.here hx rfl (pc0 := 210) (pc' := 219) rfl (hb hby at_210) rfl ((if0 _ _).trans (feq c210_84).2) (by decide) (by decide) kT) ?_
    show GoH _ _ _ _ _ _ _ _ _ _  T50 (mkF m 219 #[.val (.long p1), .second, .val (.int p3), .val (.ref b1), .val (.ref b12), .val (.int u), .val (.long q6), .second, .val (.long M), .second, .unset, .unset, .unset, .unset, .unset, .unset, .unset] [])
    refine GoH.st (fun tT kT => XS.lload X50.here hx rfl (hb hby at_219) rfl  kT) ?_
    show GoH _ _ _ _ _ _ _ _ _ _  T50 (mkF m 221 #[.val (.long p1), .second, .val (.int p3), .val (.ref b1), .val (.ref b12), .val (.int u), .val (.long q6), .second, .val (.long M), .second, .unset, .unset, .unset, .unset, .unset, .unset, .unset] [(.long M)])
    refine GoH.st (X50.ldc2Long hx hown (mvT hZ (hwi hw 2 rfl)) (g := (mkF m 221 #[.val (.long p1), .second, .val (.int p3), .val (.ref b1), .val (.ref b12), .val (.int u), .val (.long q6), .second, .val (.long M), .second, .unset, .unset, .unset, .unset, .unset, .unset, .unset] [(.long M)])) rfl (hb hby at_221)) ?_
    show GoH _ _ _ _ _ _ _ _ _ _  T50 (mkF m 224 #[.val (.long p1), .second, .val (.int p3), .val (.ref b1), .val (.ref b12), .val (.int u), .val (.long q6), .second, .val (.long M), .second, .unset, .unset, .unset, .unset, .unset, .unset, .unset] [(.long (3600000 : Int64)), (.long M)])
    refine GoH.st (fun tT kT => XS.lrem X50.here hx rfl (hb hby at_224) rfl (by decide) kT) ?_
    show GoH _ _ _ _ _ _ _ _ _ _  T50 (mkF m 225 #[.val (.long p1), .second, .val (.int p3), .val (.ref b1), .val (.ref b12), .val (.int u), .val (.long q6), .second, .val (.long M), .second, .unset, .unset, .unset, .unset, .unset, .unset, .unset] [(.long (M - (M / (3600000 : Int64)) * (3600000 : Int64)))])
    rw [lrem_mod]
    show GoH _ _ _ _ _ _ _ _ _ _  T50 (mkF m 225 #[.val (.long p1), .second, .val (.int p3), .val (.ref b1), .val (.ref b12), .val (.int u), .val (.long q6), .second, .val (.long M), .second, .unset, .unset, .unset, .unset, .unset, .unset, .unset] [(.long (M % (3600000 : Int64)))])
    refine GoH.st (fun tT kT => XS.lconst X50.here hx rfl (hb hby at_225) kT) ?_
    show GoH _ _ _ _ _ _ _ _ _ _  T50 (mkF m 226 #[.val (.long p1), .second, .val (.int p3), .val (.ref b1), .val (.ref b12), .val (.int u), .val (.long q6), .second, .val (.long M), .second, .unset, .unset, .unset, .unset, .unset, .unset, .unset] [(.long (0 : Int64)), (.long (M % (3600000 : Int64)))])
    refine GoH.st (fun tT kT => XS.lcmp X50.here hx rfl (hb hby at_226) rfl kT) ?_
    show GoH _ _ _ _ _ _ _ _ _ _  T50 (mkF m 227 #[.val (.long p1), .second, .val (.int p3), .val (.ref b1), .val (.ref b12), .val (.int u), .val (.long q6), .second, .val (.long M), .second, .unset, .unset, .unset, .unset, .unset, .unset, .unset] [(.int (lcmpW (M % (3600000 : Int64)) (0 : Int64)))])
    by_cases c227_88 : (lcmpW (M % (3600000 : Int64)) (0 : Int64)) = (0 : Int32)
    · refine GoH.st (fun tT kT => XS.ifNo X50.here hx rfl (hb hby at_227) rfl ((if0 _ _).trans (teq c227_88).2) kT) ?_
      show GoH _ _ _ _ _ _ _ _ _ _  T50 (mkF m 230 #[.val (.long p1), .second, .val (.int p3), .val (.ref b1), .val (.ref b12), .val (.int u), .val (.long q6), .second, .val (.long M), .second, .unset, .unset, .unset, .unset, .unset, .unset, .unset] [])
      refine GoH.st (fun tT kT => XS.iconst X50.here hx rfl (hb hby at_230) kT) ?_
      refine GoH.st (fun tT kT => XS.istore X50.here hx rfl (hb hby at_231) rfl (l' := #[.val (.long p1), .second, .val (.int p3), .val (.ref b1), .val (.ref b12), .val (.int u), .val (.long q6), .second, .val (.long M), .second, .val (.int (1 : Int32)), .unset, .unset, .unset, .unset, .unset, .unset]) rfl kT) ?_
      refine GoH.st (fun tT kT => XS.goto X50.here hx rfl (pc0 := 233) (pc' := 273) rfl (hb hby at_233) (by decide) (by decide) kT) ?_
      show GoH _ _ _ _ _ _ _ _ _ _  T50 (mkF m 273 #[.val (.long p1), .second, .val (.int p3), .val (.ref b1), .val (.ref b12), .val (.int u), .val (.long q6), .second, .val (.long M), .second, .val (.int (1 : Int32)), .unset, .unset, .unset, .unset, .unset, .unset] [])
      refine GoH.st (fun tT kT => XS.iload X50.here hx rfl (hb hby at_273) rfl  kT) ?_
      show GoH _ _ _ _ _ _ _ _ _ _  T50 (mkF m 275 #[.val (.long p1), .second, .val (.int p3), .val (.ref b1), .val (.ref b12), .val (.int u), .val (.long q6), .second, .val (.long M), .second, .val (.int (1 : Int32)), .unset, .unset, .unset, .unset, .unset, .unset] [(.int (1 : Int32))])
      refine GoH.st (fun tT kT => XS.ifYes X50.here hx rfl (pc0 := 275) (pc' := 285) rfl (hb hby at_275) rfl ((if0 _ _).trans (feq (by decide : ¬ ((1 : Int32) = (0 : Int32)))).2) (by decide) (by decide) kT) ?_
      show GoH _ _ _ _ _ _ _ _ _ _  T50 (mkF m 285 #[.val (.long p1), .second, .val (.int p3), .val (.ref b1), .val (.ref b12), .val (.int u), .val (.long q6), .second, .val (.long M), .second, .val (.int (1 : Int32)), .unset, .unset, .unset, .unset, .unset, .unset] [])
      refine GoH.st (fun tT kT => XS.iload X50.here hx rfl (hb hby at_285) rfl  kT) ?_
      refine GoH.st (fun tT kT => XS.iconst X50.here hx rfl (hb hby at_287) kT) ?_
      show GoH _ _ _ _ _ _ _ _ _ _  T50 (mkF m 288 #[.val (.long p1), .second, .val (.int p3), .val (.ref b1), .val (.ref b12), .val (.int u), .val (.long q6), .second, .val (.long M), .second, .val (.int (1 : Int32)), .unset, .unset, .unset, .unset, .unset, .unset] [(.int (1 : Int32)), (.int (1 : Int32))])
      refine GoH.st (fun tT kT => XS.icmpNo X50.here hx rfl (hb hby at_288) rfl (teq (rfl : (1 : Int32) = (1 : Int32))).2 kT) ?_
      show GoH _ _ _ _ _ _ _ _ _ _  T50 (mkF m 291 #[.val (.long p1), .second, .val (.int p3), .val (.ref b1), .val (.ref b12), .val (.int u), .val (.long q6), .second, .val (.long M), .second, .val (.int (1 : Int32)), .unset, .unset, .unset, .unset, .unset, .unset] [])
      obtain ⟨sa89, T89, h89, kk89, sb89, kb89, X89, e89, E89, hS89, hk89, hZ89, ho89, E_sa89, F_coder_sa89, F_value_sa89, V_sb89, la89, lb89, CR89, Lt89, ns89, st89⟩ := ldcCH X50 hx hZ hown (hwi hw 227 rfl) wS e50 hS hk hEL (List.mem_of_getElem? (i := 1) rfl) HH (vs := [(.int (104 : Int32))]) (z := 1) ⟨by decide, by decide⟩ (by decide) rfl (g := (mkF m 291 #[.val (.long p1), .second, .val (.int p3), .val (.ref b1), .val (.ref b12), .val (.int u), .val (.long q6), .second, .val (.long M), .second, .val (.int (1 : Int32)), .unset, .unset, .unset, .unset, .unset, .unset] [])) rfl (hb hby at_291) (n := 4) (by decide) (by decide) (by decide) (by decide)
      refine GoH.st st89 ?_
      have Sf_b1 := CHr.safe CR89 V_b1.lt Sf_b1
      have Sf_b12 := CHr.safe CR89 V_b12.lt Sf_b12
      have V_b1 := V_b1.ext E89
      have V_b12 := V_b12.ext E89
      have O := O.ext E89
      have KK := KK.ext E89
      have RR := RR.trans CR89
      have HH := CR89.1
      have hS := hS89
      have hk := hk89
      have hZ := hZ89
      have hown := ho89
      obtain ⟨ne_b1_sa89, ne_b1_sb89⟩ := ns89 _ Sf_b1
      obtain ⟨ne_b12_sa89, ne_b12_sb89⟩ := ns89 _ Sf_b12
      show GoH _ _ _ _ _ _ _ _ _ _  T89 (mkF m 293 #[.val (.long p1), .second, .val (.int p3), .val (.ref b1), .val (.ref b12), .val (.int u), .val (.long q6), .second, .val (.long M), .second, .val (.int (1 : Int32)), .unset, .unset, .unset, .unset, .unset, .unset] [(.ref sa89)])
      refine GoH.st (fun tT kT => XS.astore X89.here hx rfl (hb hby at_293) rfl rfl (l' := #[.val (.long p1), .second, .val (.int p3), .val (.ref b1), .val (.ref b12), .val (.int u), .val (.long q6), .second, .val (.long M), .second, .val (.int (1 : Int32)), .val (.ref sa89), .unset, .unset, .unset, .unset, .unset]) rfl kT) ?_
      refine GoH.st (fun tT kT => XS.goto X89.here hx rfl (pc0 := 295) (pc' := 328) rfl (hb hby at_295) (by decide) (by decide) kT) ?_
      refine GoH.st (fun tT kT => XS.lload X89.here hx rfl (hb hby at_328) rfl  kT) ?_
      show GoH _ _ _ _ _ _ _ _ _ _  T89 (mkF m 330 #[.val (.long p1), .second, .val (.int p3), .val (.ref b1), .val (.ref b12), .val (.int u), .val (.long q6), .second, .val (.long M), .second, .val (.int (1 : Int32)), .val (.ref sa89), .unset, .unset, .unset, .unset, .unset] [(.long M)])
      refine GoH.st (fun tT kT => XS.aloadN X89.here hx rfl (hb hby at_330) rfl rfl  kT) ?_
      refine GoH.st (fun tT kT => XS.iload X89.here hx rfl (hb hby at_331) rfl  kT) ?_
      show GoH _ _ _ _ _ _ _ _ _ _  T89 (mkF m 333 #[.val (.long p1), .second, .val (.int p3), .val (.ref b1), .val (.ref b12), .val (.int u), .val (.long q6), .second, .val (.long M), .second, .val (.int (1 : Int32)), .val (.ref sa89), .unset, .unset, .unset, .unset, .unset] [(.int (1 : Int32)), (.ref b1), (.long M)])
      obtain ⟨cl90, Ar90, q90, S90, M90, Hh90, G90⟩ := id V_b1
      refine GoH.st (X89.laload hx (j := (1 : Int32)) (v := (.long (3600000 : Int64))) (by rw [e89]; exact Ar90.1) (State.isArrayOf_alike hZ.alike Ar90.2.1) Ar90.2.2 (inb_of S90 ⟨by decide, by decide⟩) (Hh90.at (inb_of S90 ⟨by decide, by decide⟩) rfl) (g := (mkF m 333 #[.val (.long p1), .second, .val (.int p3), .val (.ref b1), .val (.ref b12), .val (.int u), .val (.long q6), .second, .val (.long M), .second, .val (.int (1 : Int32)), .val (.ref sa89), .unset, .unset, .unset, .unset, .unset] [(.int (1 : Int32)), (.ref b1), (.long M)])) rfl rfl (hb hby at_333)) ?_
      show GoH _ _ _ _ _ _ _ _ _ _  T89 (mkF m 334 #[.val (.long p1), .second, .val (.int p3), .val (.ref b1), .val (.ref b12), .val (.int u), .val (.long q6), .second, .val (.long M), .second, .val (.int (1 : Int32)), .val (.ref sa89), .unset, .unset, .unset, .unset, .unset] [(.long (3600000 : Int64)), (.long M)])
      refine GoH.st (fun tT kT => XS.ldiv X89.here hx rfl (hb hby at_334) rfl (by decide) kT) ?_
      show GoH _ _ _ _ _ _ _ _ _ _  T89 (mkF m 335 #[.val (.long p1), .second, .val (.int p3), .val (.ref b1), .val (.ref b12), .val (.int u), .val (.long q6), .second, .val (.long M), .second, .val (.int (1 : Int32)), .val (.ref sa89), .unset, .unset, .unset, .unset, .unset] [(.long (M / (3600000 : Int64)))])
      refine GoH.st (fun tT kT => XS.lstore X89.here hx rfl (hb hby at_335) rfl (l' := #[.val (.long p1), .second, .val (.int p3), .val (.ref b1), .val (.ref b12), .val (.int u), .val (.long q6), .second, .val (.long M), .second, .val (.int (1 : Int32)), .val (.ref sa89), .val (.long (M / (3600000 : Int64))), .second, .unset, .unset, .unset]) rfl kT) ?_
      refine GoH.st (fun tT kT => XS.lload X89.here hx rfl (hb hby at_337) rfl  kT) ?_
      show GoH _ _ _ _ _ _ _ _ _ _  T89 (mkF m 339 #[.val (.long p1), .second, .val (.int p3), .val (.ref b1), .val (.ref b12), .val (.int u), .val (.long q6), .second, .val (.long M), .second, .val (.int (1 : Int32)), .val (.ref sa89), .val (.long (M / (3600000 : Int64))), .second, .unset, .unset, .unset] [(.long M)])
      obtain ⟨_, _, ⟨T91, L91, k91, n91⟩, -, X91, ⟨Lc91, hQ91, l91, y91, z91⟩, st91⟩ := Jvm.LawKit.callS X89 hx (y := (⟨"com/example/oplim/oplim/Keys", "period", "(J)Ljava/lang/String;"⟩ : MethodName)) hown (mvT hZ (hwi hw 32 rfl)) (mvT hZ (hwi hw 33 rfl)) (mvT hZ (hwi hw 34 rfl)) (mvT hZ (hwi hw 35 rfl)) (by decide) (backOf (W := 0) (rmPer l Z a0 hw [] M zc sd d1 d2 dC1 dC2 um kum un kun s0 v0 kv0 s1 v1 kv1 s2 v2 kv2 s3 v3 kv3 s4 v4 kv4 h89 n0 O S_COMPACT hcs dT1 dT2 dO1 dO2 S_um A_um S_un A_un E_s0 C_s0 V_s0 A_v0 E_s1 C_s1 V_s1 A_v1 E_s2 C_s2 V_s2 A_v2 E_s3 C_s3 V_s3 A_v3 E_s4 C_s4 V_s4 A_v4 hM) hZ (hwi hw 35 rfl) (hwi hw 34 rfl) (by decide) (by decide)) (g := (mkF m 339 #[.val (.long p1), .second, .val (.int p3), .val (.ref b1), .val (.ref b12), .val (.int u), .val (.long q6), .second, .val (.long M), .second, .val (.int (1 : Int32)), .val (.ref sa89), .val (.long (M / (3600000 : Int64))), .second, .unset, .unset, .unset] [(.long M)])) rfl (by rw [hml]; rfl) (argsL := [(.long M)]) (rest := []) (lenOf pd__J_Ljava_lang_String_ rfl) rfl (by show 2 * 0 + _ ≤ _; exact Nat.le_of_eq rfl) (hb hby at_339) (fun _ _ => ⟨rfl, e89, (by decide : 4 + 6 ≤ _), (by decide : 32 + 400 ≤ _)⟩)
      dsimp only [Pt.U, Pt.locs, Pt.cells, Pt.slots] at X91 l91 y91 z91 st91 hQ91
      rw [l91, y91, z91] at X91
      have X91 : Stand p l e _ _ m _ below meth c T91 _ 10 432 := X91
      obtain ⟨y91, t91, kt91, rfl, N91q, E91q, E_y91, C_y91, V_y91, A_t91⟩ := hQ91
      have N91 := Fr.app N50 N91q
      refine GoH.st st91 ?_
      have E91 := E91q
      have V_b1 := V_b1.ext E91
      have V_b12 := V_b12.ext E91
      have E_sa89 := E_sa89.ext E91
      have V_sb89 := V_sb89.ext E91
      have F_coder_sa89 := F_coder_sa89.ext E91
      have F_value_sa89 := F_value_sa89.ext E91
      have Sf_b1 := Safe.ext E91 HH Sf_b1
      have Sf_b12 := Safe.ext E91 HH Sf_b12
      have RR := RR.trans (CHr.ext E91 HH)
      have HH := HH.ext E91
      have hk := Nat.le_trans hk E91.1
      have O := O.ext E91
      have KK := KK.ext E91
      have eP : own_per M = own_dl (M / (3600000 : Int64)) ++ [(104 : Int32)] := by rw [own_per, if_neg c210_84, if_pos c227_88]
      rw [eP] at A_t91
      have hX : 1 ≤ (M / (3600000 : Int64)).toInt := own_X1 hM (by decide) c227_88
      show GoH _ _ _ _ _ _ _ _ _ _  T91 (mkF m 342 #[.val (.long p1), .second, .val (.int p3), .val (.ref b1), .val (.ref b12), .val (.int u), .val (.long q6), .second, .val (.long M), .second, .val (.int (1 : Int32)), .val (.ref sa89), .val (.long (M / (3600000 : Int64))), .second, .unset, .unset, .unset] [(.ref y91)])
      refine GoH.st (fun tT kT => XS.astore X91.here hx rfl (hb hby at_342) rfl rfl (l' := #[.val (.long p1), .second, .val (.int p3), .val (.ref b1), .val (.ref b12), .val (.int u), .val (.long q6), .second, .val (.long M), .second, .val (.int (1 : Int32)), .val (.ref sa89), .val (.long (M / (3600000 : Int64))), .second, .val (.ref y91), .unset, .unset]) rfl kT) ?_
      refine GoH.st (fun tT kT => XS.aload X91.here hx rfl (hb hby at_344) rfl rfl  kT) ?_
      show GoH _ _ _ _ _ _ _ _ _ _  T91 (mkF m 346 #[.val (.long p1), .second, .val (.int p3), .val (.ref b1), .val (.ref b12), .val (.int u), .val (.long q6), .second, .val (.long M), .second, .val (.int (1 : Int32)), .val (.ref sa89), .val (.long (M / (3600000 : Int64))), .second, .val (.ref y91), .unset, .unset] [(.ref y91)])
      refine GoH.st (fun tT kT => XS.ifnonnullYes X91.here hx rfl (pc0 := 346) (pc' := 351) rfl (hb hby at_346) rfl (by decide) (by decide) kT) ?_
      show GoH _ _ _ _ _ _ _ _ _ _  T91 (mkF m 351 #[.val (.long p1), .second, .val (.int p3), .val (.ref b1), .val (.ref b12), .val (.int u), .val (.long q6), .second, .val (.long M), .second, .val (.int (1 : Int32)), .val (.ref sa89), .val (.long (M / (3600000 : Int64))), .second, .val (.ref y91), .unset, .unset] [])
      exact tail T91 T89 _ T91.heap _ (1 : Int32) sa89 sb89 kb89 [(104 : Int32)] (M / (3600000 : Int64)) y91 t91 kt91 _ (X91.more (by decide) (by decide)) hS hk rfl hZ hown HH RR O N91 KK E_y91 C_y91 V_y91 A_t91 E_sa89 F_coder_sa89 F_value_sa89 V_sb89 V_b12 rfl hX (by decide) (by decide)
    · refine GoH.st (fun tT kT => XS.ifYes X50.here hx rfl (pc0 := 227) (pc' := 236) rfl (hb hby at_227) rfl ((if0 _ _).trans (feq c227_88).2) (by decide) (by decide) kT) ?_
      show GoH _ _ _ _ _ _ _ _ _ _  T50 (mkF m 236 #[.val (.long p1), .second, .val (.int p3), .val (.ref b1), .val (.ref b12), .val (.int u), .val (.long q6), .second, .val (.long M), .second, .unset, .unset, .unset, .unset, .unset, .unset, .unset] [])
      refine GoH.st (fun tT kT => XS.lload X50.here hx rfl (hb hby at_236) rfl  kT) ?_
      show GoH _ _ _ _ _ _ _ _ _ _  T50 (mkF m 238 #[.val (.long p1), .second, .val (.int p3), .val (.ref b1), .val (.ref b12), .val (.int u), .val (.long q6), .second, .val (.long M), .second, .unset, .unset, .unset, .unset, .unset, .unset, .unset] [(.long M)])
      refine GoH.st (X50.ldc2Long hx hown (mvT hZ (hwi hw 3 rfl)) (g := (mkF m 238 #[.val (.long p1), .second, .val (.int p3), .val (.ref b1), .val (.ref b12), .val (.int u), .val (.long q6), .second, .val (.long M), .second, .unset, .unset, .unset, .unset, .unset, .unset, .unset] [(.long M)])) rfl (hb hby at_238)) ?_
      show GoH _ _ _ _ _ _ _ _ _ _  T50 (mkF m 241 #[.val (.long p1), .second, .val (.int p3), .val (.ref b1), .val (.ref b12), .val (.int u), .val (.long q6), .second, .val (.long M), .second, .unset, .unset, .unset, .unset, .unset, .unset, .unset] [(.long (60000 : Int64)), (.long M)])
      refine GoH.st (fun tT kT => XS.lrem X50.here hx rfl (hb hby at_241) rfl (by decide) kT) ?_
      show GoH _ _ _ _ _ _ _ _ _ _  T50 (mkF m 242 #[.val (.long p1), .second, .val (.int p3), .val (.ref b1), .val (.ref b12), .val (.int u), .val (.long q6), .second, .val (.long M), .second, .unset, .unset, .unset, .unset, .unset, .unset, .unset] [(.long (M - (M / (60000 : Int64)) * (60000 : Int64)))])
      rw [lrem_mod]
      show GoH _ _ _ _ _ _ _ _ _ _  T50 (mkF m 242 #[.val (.long p1), .second, .val (.int p3), .val (.ref b1), .val (.ref b12), .val (.int u), .val (.long q6), .second, .val (.long M), .second, .unset, .unset, .unset, .unset, .unset, .unset, .unset] [(.long (M % (60000 : Int64)))])
      refine GoH.st (fun tT kT => XS.lconst X50.here hx rfl (hb hby at_242) kT) ?_
      show GoH _ _ _ _ _ _ _ _ _ _  T50 (mkF m 243 #[.val (.long p1), .second, .val (.int p3), .val (.ref b1), .val (.ref b12), .val (.int u), .val (.long q6), .second, .val (.long M), .second, .unset, .unset, .unset, .unset, .unset, .unset, .unset] [(.long (0 : Int64)), (.long (M % (60000 : Int64)))])
      refine GoH.st (fun tT kT => XS.lcmp X50.here hx rfl (hb hby at_243) rfl kT) ?_
      show GoH _ _ _ _ _ _ _ _ _ _  T50 (mkF m 244 #[.val (.long p1), .second, .val (.int p3), .val (.ref b1), .val (.ref b12), .val (.int u), .val (.long q6), .second, .val (.long M), .second, .unset, .unset, .unset, .unset, .unset, .unset, .unset] [(.int (lcmpW (M % (60000 : Int64)) (0 : Int64)))])
      by_cases c244_92 : (lcmpW (M % (60000 : Int64)) (0 : Int64)) = (0 : Int32)
      · refine GoH.st (fun tT kT => XS.ifNo X50.here hx rfl (hb hby at_244) rfl ((if0 _ _).trans (teq c244_92).2) kT) ?_
        show GoH _ _ _ _ _ _ _ _ _ _  T50 (mkF m 247 #[.val (.long p1), .second, .val (.int p3), .val (.ref b1), .val (.ref b12), .val (.int u), .val (.long q6), .second, .val (.long M), .second, .unset, .unset, .unset, .unset, .unset, .unset, .unset] [])
        refine GoH.st (fun tT kT => XS.iconst X50.here hx rfl (hb hby at_247) kT) ?_
        refine GoH.st (fun tT kT => XS.istore X50.here hx rfl (hb hby at_248) rfl (l' := #[.val (.long p1), .second, .val (.int p3), .val (.ref b1), .val (.ref b12), .val (.int u), .val (.long q6), .second, .val (.long M), .second, .val (.int (2 : Int32)), .unset, .unset, .unset, .unset, .unset, .unset]) rfl kT) ?_
        refine GoH.st (fun tT kT => XS.goto X50.here hx rfl (pc0 := 250) (pc' := 273) rfl (hb hby at_250) (by decide) (by decide) kT) ?_
        show GoH _ _ _ _ _ _ _ _ _ _  T50 (mkF m 273 #[.val (.long p1), .second, .val (.int p3), .val (.ref b1), .val (.ref b12), .val (.int u), .val (.long q6), .second, .val (.long M), .second, .val (.int (2 : Int32)), .unset, .unset, .unset, .unset, .unset, .unset] [])
        refine GoH.st (fun tT kT => XS.iload X50.here hx rfl (hb hby at_273) rfl  kT) ?_
        show GoH _ _ _ _ _ _ _ _ _ _  T50 (mkF m 275 #[.val (.long p1), .second, .val (.int p3), .val (.ref b1), .val (.ref b12), .val (.int u), .val (.long q6), .second, .val (.long M), .second, .val (.int (2 : Int32)), .unset, .unset, .unset, .unset, .unset, .unset] [(.int (2 : Int32))])
        refine GoH.st (fun tT kT => XS.ifYes X50.here hx rfl (pc0 := 275) (pc' := 285) rfl (hb hby at_275) rfl ((if0 _ _).trans (feq (by decide : ¬ ((2 : Int32) = (0 : Int32)))).2) (by decide) (by decide) kT) ?_
        show GoH _ _ _ _ _ _ _ _ _ _  T50 (mkF m 285 #[.val (.long p1), .second, .val (.int p3), .val (.ref b1), .val (.ref b12), .val (.int u), .val (.long q6), .second, .val (.long M), .second, .val (.int (2 : Int32)), .unset, .unset, .unset, .unset, .unset, .unset] [])
        refine GoH.st (fun tT kT => XS.iload X50.here hx rfl (hb hby at_285) rfl  kT) ?_
        refine GoH.st (fun tT kT => XS.iconst X50.here hx rfl (hb hby at_287) kT) ?_
        show GoH _ _ _ _ _ _ _ _ _ _  T50 (mkF m 288 #[.val (.long p1), .second, .val (.int p3), .val (.ref b1), .val (.ref b12), .val (.int u), .val (.long q6), .second, .val (.long M), .second, .val (.int (2 : Int32)), .unset, .unset, .unset, .unset, .unset, .unset] [(.int (1 : Int32)), (.int (2 : Int32))])
        refine GoH.st (fun tT kT => XS.icmpYes X50.here hx rfl (pc0 := 288) (pc' := 298) rfl (hb hby at_288) rfl (feq (by decide : ¬ ((2 : Int32) = (1 : Int32)))).2 (by decide) (by decide) kT) ?_
        show GoH _ _ _ _ _ _ _ _ _ _  T50 (mkF m 298 #[.val (.long p1), .second, .val (.int p3), .val (.ref b1), .val (.ref b12), .val (.int u), .val (.long q6), .second, .val (.long M), .second, .val (.int (2 : Int32)), .unset, .unset, .unset, .unset, .unset, .unset] [])
        refine GoH.st (fun tT kT => XS.iload X50.here hx rfl (hb hby at_298) rfl  kT) ?_
        refine GoH.st (fun tT kT => XS.iconst X50.here hx rfl (hb hby at_300) kT) ?_
        show GoH _ _ _ _ _ _ _ _ _ _  T50 (mkF m 301 #[.val (.long p1), .second, .val (.int p3), .val (.ref b1), .val (.ref b12), .val (.int u), .val (.long q6), .second, .val (.long M), .second, .val (.int (2 : Int32)), .unset, .unset, .unset, .unset, .unset, .unset] [(.int (2 : Int32)), (.int (2 : Int32))])
        refine GoH.st (fun tT kT => XS.icmpNo X50.here hx rfl (hb hby at_301) rfl (teq (rfl : (2 : Int32) = (2 : Int32))).2 kT) ?_
        show GoH _ _ _ _ _ _ _ _ _ _  T50 (mkF m 304 #[.val (.long p1), .second, .val (.int p3), .val (.ref b1), .val (.ref b12), .val (.int u), .val (.long q6), .second, .val (.long M), .second, .val (.int (2 : Int32)), .unset, .unset, .unset, .unset, .unset, .unset] [])
        obtain ⟨sa93, T93, h93, kk93, sb93, kb93, X93, e93, E93, hS93, hk93, hZ93, ho93, E_sa93, F_coder_sa93, F_value_sa93, V_sb93, la93, lb93, CR93, Lt93, ns93, st93⟩ := ldcCH X50 hx hZ hown (hwi hw 24 rfl) wS e50 hS hk hEL (List.mem_of_getElem? (i := 2) rfl) HH (vs := [(.int (109 : Int32))]) (z := 1) ⟨by decide, by decide⟩ (by decide) rfl (g := (mkF m 304 #[.val (.long p1), .second, .val (.int p3), .val (.ref b1), .val (.ref b12), .val (.int u), .val (.long q6), .second, .val (.long M), .second, .val (.int (2 : Int32)), .unset, .unset, .unset, .unset, .unset, .unset] [])) rfl (hb hby at_304) (n := 4) (by decide) (by decide) (by decide) (by decide)
        refine GoH.st st93 ?_
        have Sf_b1 := CHr.safe CR93 V_b1.lt Sf_b1
        have Sf_b12 := CHr.safe CR93 V_b12.lt Sf_b12
        have V_b1 := V_b1.ext E93
        have V_b12 := V_b12.ext E93
        have O := O.ext E93
        have KK := KK.ext E93
        have RR := RR.trans CR93
        have HH := CR93.1
        have hS := hS93
        have hk := hk93
        have hZ := hZ93
        have hown := ho93
        obtain ⟨ne_b1_sa93, ne_b1_sb93⟩ := ns93 _ Sf_b1
        obtain ⟨ne_b12_sa93, ne_b12_sb93⟩ := ns93 _ Sf_b12
        show GoH _ _ _ _ _ _ _ _ _ _  T93 (mkF m 306 #[.val (.long p1), .second, .val (.int p3), .val (.ref b1), .val (.ref b12), .val (.int u), .val (.long q6), .second, .val (.long M), .second, .val (.int (2 : Int32)), .unset, .unset, .unset, .unset, .unset, .unset] [(.ref sa93)])
        refine GoH.st (fun tT kT => XS.astore X93.here hx rfl (hb hby at_306) rfl rfl (l' := #[.val (.long p1), .second, .val (.int p3), .val (.ref b1), .val (.ref b12), .val (.int u), .val (.long q6), .second, .val (.long M), .second, .val (.int (2 : Int32)), .val (.ref sa93), .unset, .unset, .unset, .unset, .unset]) rfl kT) ?_
        refine GoH.st (fun tT kT => XS.goto X93.here hx rfl (pc0 := 308) (pc' := 328) rfl (hb hby at_308) (by decide) (by decide) kT) ?_
        refine GoH.st (fun tT kT => XS.lload X93.here hx rfl (hb hby at_328) rfl  kT) ?_
        show GoH _ _ _ _ _ _ _ _ _ _  T93 (mkF m 330 #[.val (.long p1), .second, .val (.int p3), .val (.ref b1), .val (.ref b12), .val (.int u), .val (.long q6), .second, .val (.long M), .second, .val (.int (2 : Int32)), .val (.ref sa93), .unset, .unset, .unset, .unset, .unset] [(.long M)])
        refine GoH.st (fun tT kT => XS.aloadN X93.here hx rfl (hb hby at_330) rfl rfl  kT) ?_
        refine GoH.st (fun tT kT => XS.iload X93.here hx rfl (hb hby at_331) rfl  kT) ?_
        show GoH _ _ _ _ _ _ _ _ _ _  T93 (mkF m 333 #[.val (.long p1), .second, .val (.int p3), .val (.ref b1), .val (.ref b12), .val (.int u), .val (.long q6), .second, .val (.long M), .second, .val (.int (2 : Int32)), .val (.ref sa93), .unset, .unset, .unset, .unset, .unset] [(.int (2 : Int32)), (.ref b1), (.long M)])
        obtain ⟨cl94, Ar94, q94, S94, M94, Hh94, G94⟩ := id V_b1
        refine GoH.st (X93.laload hx (j := (2 : Int32)) (v := (.long (60000 : Int64))) (by rw [e93]; exact Ar94.1) (State.isArrayOf_alike hZ.alike Ar94.2.1) Ar94.2.2 (inb_of S94 ⟨by decide, by decide⟩) (Hh94.at (inb_of S94 ⟨by decide, by decide⟩) rfl) (g := (mkF m 333 #[.val (.long p1), .second, .val (.int p3), .val (.ref b1), .val (.ref b12), .val (.int u), .val (.long q6), .second, .val (.long M), .second, .val (.int (2 : Int32)), .val (.ref sa93), .unset, .unset, .unset, .unset, .unset] [(.int (2 : Int32)), (.ref b1), (.long M)])) rfl rfl (hb hby at_333)) ?_
        show GoH _ _ _ _ _ _ _ _ _ _  T93 (mkF m 334 #[.val (.long p1), .second, .val (.int p3), .val (.ref b1), .val (.ref b12), .val (.int u), .val (.long q6), .second, .val (.long M), .second, .val (.int (2 : Int32)), .val (.ref sa93), .unset, .unset, .unset, .unset, .unset] [(.long (60000 : Int64)), (.long M)])
        refine GoH.st (fun tT kT => XS.ldiv X93.here hx rfl (hb hby at_334) rfl (by decide) kT) ?_
        show GoH _ _ _ _ _ _ _ _ _ _  T93 (mkF m 335 #[.val (.long p1), .second, .val (.int p3), .val (.ref b1), .val (.ref b12), .val (.int u), .val (.long q6), .second, .val (.long M), .second, .val (.int (2 : Int32)), .val (.ref sa93), .unset, .unset, .unset, .unset, .unset] [(.long (M / (60000 : Int64)))])
        refine GoH.st (fun tT kT => XS.lstore X93.here hx rfl (hb hby at_335) rfl (l' := #[.val (.long p1), .second, .val (.int p3), .val (.ref b1), .val (.ref b12), .val (.int u), .val (.long q6), .second, .val (.long M), .second, .val (.int (2 : Int32)), .val (.ref sa93), .val (.long (M / (60000 : Int64))), .second, .unset, .unset, .unset]) rfl kT) ?_
        refine GoH.st (fun tT kT => XS.lload X93.here hx rfl (hb hby at_337) rfl  kT) ?_
        show GoH _ _ _ _ _ _ _ _ _ _  T93 (mkF m 339 #[.val (.long p1), .second, .val (.int p3), .val (.ref b1), .val (.ref b12), .val (.int u), .val (.long q6), .second, .val (.long M), .second, .val (.int (2 : Int32)), .val (.ref sa93), .val (.long (M / (60000 : Int64))), .second, .unset, .unset, .unset] [(.long M)])
        obtain ⟨_, _, ⟨T95, L95, k95, n95⟩, -, X95, ⟨Lc95, hQ95, l95, y95, z95⟩, st95⟩ := Jvm.LawKit.callS X93 hx (y := (⟨"com/example/oplim/oplim/Keys", "period", "(J)Ljava/lang/String;"⟩ : MethodName)) hown (mvT hZ (hwi hw 32 rfl)) (mvT hZ (hwi hw 33 rfl)) (mvT hZ (hwi hw 34 rfl)) (mvT hZ (hwi hw 35 rfl)) (by decide) (backOf (W := 0) (rmPer l Z a0 hw [] M zc sd d1 d2 dC1 dC2 um kum un kun s0 v0 kv0 s1 v1 kv1 s2 v2 kv2 s3 v3 kv3 s4 v4 kv4 h93 n0 O S_COMPACT hcs dT1 dT2 dO1 dO2 S_um A_um S_un A_un E_s0 C_s0 V_s0 A_v0 E_s1 C_s1 V_s1 A_v1 E_s2 C_s2 V_s2 A_v2 E_s3 C_s3 V_s3 A_v3 E_s4 C_s4 V_s4 A_v4 hM) hZ (hwi hw 35 rfl) (hwi hw 34 rfl) (by decide) (by decide)) (g := (mkF m 339 #[.val (.long p1), .second, .val (.int p3), .val (.ref b1), .val (.ref b12), .val (.int u), .val (.long q6), .second, .val (.long M), .second, .val (.int (2 : Int32)), .val (.ref sa93), .val (.long (M / (60000 : Int64))), .second, .unset, .unset, .unset] [(.long M)])) rfl (by rw [hml]; rfl) (argsL := [(.long M)]) (rest := []) (lenOf pd__J_Ljava_lang_String_ rfl) rfl (by show 2 * 0 + _ ≤ _; exact Nat.le_of_eq rfl) (hb hby at_339) (fun _ _ => ⟨rfl, e93, (by decide : 4 + 6 ≤ _), (by decide : 32 + 400 ≤ _)⟩)
        dsimp only [Pt.U, Pt.locs, Pt.cells, Pt.slots] at X95 l95 y95 z95 st95 hQ95
        rw [l95, y95, z95] at X95
        have X95 : Stand p l e _ _ m _ below meth c T95 _ 10 432 := X95
        obtain ⟨y95, t95, kt95, rfl, N95q, E95q, E_y95, C_y95, V_y95, A_t95⟩ := hQ95
        have N95 := Fr.app N50 N95q
        refine GoH.st st95 ?_
        have E95 := E95q
        have V_b1 := V_b1.ext E95
        have V_b12 := V_b12.ext E95
        have E_sa93 := E_sa93.ext E95
        have V_sb93 := V_sb93.ext E95
        have F_coder_sa93 := F_coder_sa93.ext E95
        have F_value_sa93 := F_value_sa93.ext E95
        have Sf_b1 := Safe.ext E95 HH Sf_b1
        have Sf_b12 := Safe.ext E95 HH Sf_b12
        have RR := RR.trans (CHr.ext E95 HH)
        have HH := HH.ext E95
        have hk := Nat.le_trans hk E95.1
        have O := O.ext E95
        have KK := KK.ext E95
        have eP : own_per M = own_dl (M / (60000 : Int64)) ++ [(109 : Int32)] := by rw [own_per, if_neg c210_84, if_neg c227_88, if_pos c244_92]
        rw [eP] at A_t95
        have hX : 1 ≤ (M / (60000 : Int64)).toInt := own_X1 hM (by decide) c244_92
        show GoH _ _ _ _ _ _ _ _ _ _  T95 (mkF m 342 #[.val (.long p1), .second, .val (.int p3), .val (.ref b1), .val (.ref b12), .val (.int u), .val (.long q6), .second, .val (.long M), .second, .val (.int (2 : Int32)), .val (.ref sa93), .val (.long (M / (60000 : Int64))), .second, .unset, .unset, .unset] [(.ref y95)])
        refine GoH.st (fun tT kT => XS.astore X95.here hx rfl (hb hby at_342) rfl rfl (l' := #[.val (.long p1), .second, .val (.int p3), .val (.ref b1), .val (.ref b12), .val (.int u), .val (.long q6), .second, .val (.long M), .second, .val (.int (2 : Int32)), .val (.ref sa93), .val (.long (M / (60000 : Int64))), .second, .val (.ref y95), .unset, .unset]) rfl kT) ?_
        refine GoH.st (fun tT kT => XS.aload X95.here hx rfl (hb hby at_344) rfl rfl  kT) ?_
        show GoH _ _ _ _ _ _ _ _ _ _  T95 (mkF m 346 #[.val (.long p1), .second, .val (.int p3), .val (.ref b1), .val (.ref b12), .val (.int u), .val (.long q6), .second, .val (.long M), .second, .val (.int (2 : Int32)), .val (.ref sa93), .val (.long (M / (60000 : Int64))), .second, .val (.ref y95), .unset, .unset] [(.ref y95)])
        refine GoH.st (fun tT kT => XS.ifnonnullYes X95.here hx rfl (pc0 := 346) (pc' := 351) rfl (hb hby at_346) rfl (by decide) (by decide) kT) ?_
        show GoH _ _ _ _ _ _ _ _ _ _  T95 (mkF m 351 #[.val (.long p1), .second, .val (.int p3), .val (.ref b1), .val (.ref b12), .val (.int u), .val (.long q6), .second, .val (.long M), .second, .val (.int (2 : Int32)), .val (.ref sa93), .val (.long (M / (60000 : Int64))), .second, .val (.ref y95), .unset, .unset] [])
        exact tail T95 T93 _ T95.heap _ (2 : Int32) sa93 sb93 kb93 [(109 : Int32)] (M / (60000 : Int64)) y95 t95 kt95 _ (X95.more (by decide) (by decide)) hS hk rfl hZ hown HH RR O N95 KK E_y95 C_y95 V_y95 A_t95 E_sa93 F_coder_sa93 F_value_sa93 V_sb93 V_b12 rfl hX (by decide) (by decide)
      · refine GoH.st (fun tT kT => XS.ifYes X50.here hx rfl (pc0 := 244) (pc' := 253) rfl (hb hby at_244) rfl ((if0 _ _).trans (feq c244_92).2) (by decide) (by decide) kT) ?_
        show GoH _ _ _ _ _ _ _ _ _ _  T50 (mkF m 253 #[.val (.long p1), .second, .val (.int p3), .val (.ref b1), .val (.ref b12), .val (.int u), .val (.long q6), .second, .val (.long M), .second, .unset, .unset, .unset, .unset, .unset, .unset, .unset] [])
        refine GoH.st (fun tT kT => XS.lload X50.here hx rfl (hb hby at_253) rfl  kT) ?_
        show GoH _ _ _ _ _ _ _ _ _ _  T50 (mkF m 255 #[.val (.long p1), .second, .val (.int p3), .val (.ref b1), .val (.ref b12), .val (.int u), .val (.long q6), .second, .val (.long M), .second, .unset, .unset, .unset, .unset, .unset, .unset, .unset] [(.long M)])
        refine GoH.st (X50.ldc2Long hx hown (mvT hZ (hwi hw 4 rfl)) (g := (mkF m 255 #[.val (.long p1), .second, .val (.int p3), .val (.ref b1), .val (.ref b12), .val (.int u), .val (.long q6), .second, .val (.long M), .second, .unset, .unset, .unset, .unset, .unset, .unset, .unset] [(.long M)])) rfl (hb hby at_255)) ?_
        show GoH _ _ _ _ _ _ _ _ _ _  T50 (mkF m 258 #[.val (.long p1), .second, .val (.int p3), .val (.ref b1), .val (.ref b12), .val (.int u), .val (.long q6), .second, .val (.long M), .second, .unset, .unset, .unset, .unset, .unset, .unset, .unset] [(.long (1000 : Int64)), (.long M)])
        refine GoH.st (fun tT kT => XS.lrem X50.here hx rfl (hb hby at_258) rfl (by decide) kT) ?_
        show GoH _ _ _ _ _ _ _ _ _ _  T50 (mkF m 259 #[.val (.long p1), .second, .val (.int p3), .val (.ref b1), .val (.ref b12), .val (.int u), .val (.long q6), .second, .val (.long M), .second, .unset, .unset, .unset, .unset, .unset, .unset, .unset] [(.long (M - (M / (1000 : Int64)) * (1000 : Int64)))])
        rw [lrem_mod]
        show GoH _ _ _ _ _ _ _ _ _ _  T50 (mkF m 259 #[.val (.long p1), .second, .val (.int p3), .val (.ref b1), .val (.ref b12), .val (.int u), .val (.long q6), .second, .val (.long M), .second, .unset, .unset, .unset, .unset, .unset, .unset, .unset] [(.long (M % (1000 : Int64)))])
        refine GoH.st (fun tT kT => XS.lconst X50.here hx rfl (hb hby at_259) kT) ?_
        show GoH _ _ _ _ _ _ _ _ _ _  T50 (mkF m 260 #[.val (.long p1), .second, .val (.int p3), .val (.ref b1), .val (.ref b12), .val (.int u), .val (.long q6), .second, .val (.long M), .second, .unset, .unset, .unset, .unset, .unset, .unset, .unset] [(.long (0 : Int64)), (.long (M % (1000 : Int64)))])
        refine GoH.st (fun tT kT => XS.lcmp X50.here hx rfl (hb hby at_260) rfl kT) ?_
        show GoH _ _ _ _ _ _ _ _ _ _  T50 (mkF m 261 #[.val (.long p1), .second, .val (.int p3), .val (.ref b1), .val (.ref b12), .val (.int u), .val (.long q6), .second, .val (.long M), .second, .unset, .unset, .unset, .unset, .unset, .unset, .unset] [(.int (lcmpW (M % (1000 : Int64)) (0 : Int64)))])
        by_cases c261_96 : (lcmpW (M % (1000 : Int64)) (0 : Int64)) = (0 : Int32)
        · refine GoH.st (fun tT kT => XS.ifNo X50.here hx rfl (hb hby at_261) rfl ((if0 _ _).trans (teq c261_96).2) kT) ?_
          show GoH _ _ _ _ _ _ _ _ _ _  T50 (mkF m 264 #[.val (.long p1), .second, .val (.int p3), .val (.ref b1), .val (.ref b12), .val (.int u), .val (.long q6), .second, .val (.long M), .second, .unset, .unset, .unset, .unset, .unset, .unset, .unset] [])
          refine GoH.st (fun tT kT => XS.iconst X50.here hx rfl (hb hby at_264) kT) ?_
          refine GoH.st (fun tT kT => XS.istore X50.here hx rfl (hb hby at_265) rfl (l' := #[.val (.long p1), .second, .val (.int p3), .val (.ref b1), .val (.ref b12), .val (.int u), .val (.long q6), .second, .val (.long M), .second, .val (.int (3 : Int32)), .unset, .unset, .unset, .unset, .unset, .unset]) rfl kT) ?_
          refine GoH.st (fun tT kT => XS.goto X50.here hx rfl (pc0 := 267) (pc' := 273) rfl (hb hby at_267) (by decide) (by decide) kT) ?_
          show GoH _ _ _ _ _ _ _ _ _ _  T50 (mkF m 273 #[.val (.long p1), .second, .val (.int p3), .val (.ref b1), .val (.ref b12), .val (.int u), .val (.long q6), .second, .val (.long M), .second, .val (.int (3 : Int32)), .unset, .unset, .unset, .unset, .unset, .unset] [])
          refine GoH.st (fun tT kT => XS.iload X50.here hx rfl (hb hby at_273) rfl  kT) ?_
          show GoH _ _ _ _ _ _ _ _ _ _  T50 (mkF m 275 #[.val (.long p1), .second, .val (.int p3), .val (.ref b1), .val (.ref b12), .val (.int u), .val (.long q6), .second, .val (.long M), .second, .val (.int (3 : Int32)), .unset, .unset, .unset, .unset, .unset, .unset] [(.int (3 : Int32))])
          refine GoH.st (fun tT kT => XS.ifYes X50.here hx rfl (pc0 := 275) (pc' := 285) rfl (hb hby at_275) rfl ((if0 _ _).trans (feq (by decide : ¬ ((3 : Int32) = (0 : Int32)))).2) (by decide) (by decide) kT) ?_
          show GoH _ _ _ _ _ _ _ _ _ _  T50 (mkF m 285 #[.val (.long p1), .second, .val (.int p3), .val (.ref b1), .val (.ref b12), .val (.int u), .val (.long q6), .second, .val (.long M), .second, .val (.int (3 : Int32)), .unset, .unset, .unset, .unset, .unset, .unset] [])
          refine GoH.st (fun tT kT => XS.iload X50.here hx rfl (hb hby at_285) rfl  kT) ?_
          refine GoH.st (fun tT kT => XS.iconst X50.here hx rfl (hb hby at_287) kT) ?_
          show GoH _ _ _ _ _ _ _ _ _ _  T50 (mkF m 288 #[.val (.long p1), .second, .val (.int p3), .val (.ref b1), .val (.ref b12), .val (.int u), .val (.long q6), .second, .val (.long M), .second, .val (.int (3 : Int32)), .unset, .unset, .unset, .unset, .unset, .unset] [(.int (1 : Int32)), (.int (3 : Int32))])
          refine GoH.st (fun tT kT => XS.icmpYes X50.here hx rfl (pc0 := 288) (pc' := 298) rfl (hb hby at_288) rfl (feq (by decide : ¬ ((3 : Int32) = (1 : Int32)))).2 (by decide) (by decide) kT) ?_
          show GoH _ _ _ _ _ _ _ _ _ _  T50 (mkF m 298 #[.val (.long p1), .second, .val (.int p3), .val (.ref b1), .val (.ref b12), .val (.int u), .val (.long q6), .second, .val (.long M), .second, .val (.int (3 : Int32)), .unset, .unset, .unset, .unset, .unset, .unset] [])
          refine GoH.st (fun tT kT => XS.iload X50.here hx rfl (hb hby at_298) rfl  kT) ?_
          refine GoH.st (fun tT kT => XS.iconst X50.here hx rfl (hb hby at_300) kT) ?_
          show GoH _ _ _ _ _ _ _ _ _ _  T50 (mkF m 301 #[.val (.long p1), .second, .val (.int p3), .val (.ref b1), .val (.ref b12), .val (.int u), .val (.long q6), .second, .val (.long M), .second, .val (.int (3 : Int32)), .unset, .unset, .unset, .unset, .unset, .unset] [(.int (2 : Int32)), (.int (3 : Int32))])
          refine GoH.st (fun tT kT => XS.icmpYes X50.here hx rfl (pc0 := 301) (pc' := 311) rfl (hb hby at_301) rfl (feq (by decide : ¬ ((3 : Int32) = (2 : Int32)))).2 (by decide) (by decide) kT) ?_
          show GoH _ _ _ _ _ _ _ _ _ _  T50 (mkF m 311 #[.val (.long p1), .second, .val (.int p3), .val (.ref b1), .val (.ref b12), .val (.int u), .val (.long q6), .second, .val (.long M), .second, .val (.int (3 : Int32)), .unset, .unset, .unset, .unset, .unset, .unset] [])
          refine GoH.st (fun tT kT => XS.iload X50.here hx rfl (hb hby at_311) rfl  kT) ?_
          refine GoH.st (fun tT kT => XS.iconst X50.here hx rfl (hb hby at_313) kT) ?_
          show GoH _ _ _ _ _ _ _ _ _ _  T50 (mkF m 314 #[.val (.long p1), .second, .val (.int p3), .val (.ref b1), .val (.ref b12), .val (.int u), .val (.long q6), .second, .val (.long M), .second, .val (.int (3 : Int32)), .unset, .unset, .unset, .unset, .unset, .unset] [(.int (3 : Int32)), (.int (3 : Int32))])
          refine GoH.st (fun tT kT => XS.icmpNo X50.here hx rfl (hb hby at_314) rfl (teq (rfl : (3 : Int32) = (3 : Int32))).2 kT) ?_
          show GoH _ _ _ _ _ _ _ _ _ _  T50 (mkF m 317 #[.val (.long p1), .second, .val (.int p3), .val (.ref b1), .val (.ref b12), .val (.int u), .val (.long q6), .second, .val (.long M), .second, .val (.int (3 : Int32)), .unset, .unset, .unset, .unset, .unset, .unset] [])
          obtain ⟨sa97, T97, h97, kk97, sb97, kb97, X97, e97, E97, hS97, hk97, hZ97, ho97, E_sa97, F_coder_sa97, F_value_sa97, V_sb97, la97, lb97, CR97, Lt97, ns97, st97⟩ := ldcCH X50 hx hZ hown (hwi hw 226 rfl) wS e50 hS hk hEL (List.mem_of_getElem? (i := 3) rfl) HH (vs := [(.int (115 : Int32))]) (z := 1) ⟨by decide, by decide⟩ (by decide) rfl (g := (mkF m 317 #[.val (.long p1), .second, .val (.int p3), .val (.ref b1), .val (.ref b12), .val (.int u), .val (.long q6), .second, .val (.long M), .second, .val (.int (3 : Int32)), .unset, .unset, .unset, .unset, .unset, .unset] [])) rfl (hb hby at_317) (n := 4) (by decide) (by decide) (by decide) (by decide)
          refine GoH.st st97 ?_
          have Sf_b1 := CHr.safe CR97 V_b1.lt Sf_b1
          have Sf_b12 := CHr.safe CR97 V_b12.lt Sf_b12
          have V_b1 := V_b1.ext E97
          have V_b12 := V_b12.ext E97
          have O := O.ext E97
          have KK := KK.ext E97
          have RR := RR.trans CR97
          have HH := CR97.1
          have hS := hS97
          have hk := hk97
          have hZ := hZ97
          have hown := ho97
          obtain ⟨ne_b1_sa97, ne_b1_sb97⟩ := ns97 _ Sf_b1
          obtain ⟨ne_b12_sa97, ne_b12_sb97⟩ := ns97 _ Sf_b12
          show GoH _ _ _ _ _ _ _ _ _ _  T97 (mkF m 319 #[.val (.long p1), .second, .val (.int p3), .val (.ref b1), .val (.ref b12), .val (.int u), .val (.long q6), .second, .val (.long M), .second, .val (.int (3 : Int32)), .unset, .unset, .unset, .unset, .unset, .unset] [(.ref sa97)])
          refine GoH.st (fun tT kT => XS.astore X97.here hx rfl (hb hby at_319) rfl rfl (l' := #[.val (.long p1), .second, .val (.int p3), .val (.ref b1), .val (.ref b12), .val (.int u), .val (.long q6), .second, .val (.long M), .second, .val (.int (3 : Int32)), .val (.ref sa97), .unset, .unset, .unset, .unset, .unset]) rfl kT) ?_
          refine GoH.st (fun tT kT => XS.goto X97.here hx rfl (pc0 := 321) (pc' := 328) rfl (hb hby at_321) (by decide) (by decide) kT) ?_
          refine GoH.st (fun tT kT => XS.lload X97.here hx rfl (hb hby at_328) rfl  kT) ?_
          show GoH _ _ _ _ _ _ _ _ _ _  T97 (mkF m 330 #[.val (.long p1), .second, .val (.int p3), .val (.ref b1), .val (.ref b12), .val (.int u), .val (.long q6), .second, .val (.long M), .second, .val (.int (3 : Int32)), .val (.ref sa97), .unset, .unset, .unset, .unset, .unset] [(.long M)])
          refine GoH.st (fun tT kT => XS.aloadN X97.here hx rfl (hb hby at_330) rfl rfl  kT) ?_
          refine GoH.st (fun tT kT => XS.iload X97.here hx rfl (hb hby at_331) rfl  kT) ?_
          show GoH _ _ _ _ _ _ _ _ _ _  T97 (mkF m 333 #[.val (.long p1), .second, .val (.int p3), .val (.ref b1), .val (.ref b12), .val (.int u), .val (.long q6), .second, .val (.long M), .second, .val (.int (3 : Int32)), .val (.ref sa97), .unset, .unset, .unset, .unset, .unset] [(.int (3 : Int32)), (.ref b1), (.long M)])
          obtain ⟨cl98, Ar98, q98, S98, M98, Hh98, G98⟩ := id V_b1
          refine GoH.st (X97.laload hx (j := (3 : Int32)) (v := (.long (1000 : Int64))) (by rw [e97]; exact Ar98.1) (State.isArrayOf_alike hZ.alike Ar98.2.1) Ar98.2.2 (inb_of S98 ⟨by decide, by decide⟩) (Hh98.at (inb_of S98 ⟨by decide, by decide⟩) rfl) (g := (mkF m 333 #[.val (.long p1), .second, .val (.int p3), .val (.ref b1), .val (.ref b12), .val (.int u), .val (.long q6), .second, .val (.long M), .second, .val (.int (3 : Int32)), .val (.ref sa97), .unset, .unset, .unset, .unset, .unset] [(.int (3 : Int32)), (.ref b1), (.long M)])) rfl rfl (hb hby at_333)) ?_
          show GoH _ _ _ _ _ _ _ _ _ _  T97 (mkF m 334 #[.val (.long p1), .second, .val (.int p3), .val (.ref b1), .val (.ref b12), .val (.int u), .val (.long q6), .second, .val (.long M), .second, .val (.int (3 : Int32)), .val (.ref sa97), .unset, .unset, .unset, .unset, .unset] [(.long (1000 : Int64)), (.long M)])
          refine GoH.st (fun tT kT => XS.ldiv X97.here hx rfl (hb hby at_334) rfl (by decide) kT) ?_
          show GoH _ _ _ _ _ _ _ _ _ _  T97 (mkF m 335 #[.val (.long p1), .second, .val (.int p3), .val (.ref b1), .val (.ref b12), .val (.int u), .val (.long q6), .second, .val (.long M), .second, .val (.int (3 : Int32)), .val (.ref sa97), .unset, .unset, .unset, .unset, .unset] [(.long (M / (1000 : Int64)))])
          refine GoH.st (fun tT kT => XS.lstore X97.here hx rfl (hb hby at_335) rfl (l' := #[.val (.long p1), .second, .val (.int p3), .val (.ref b1), .val (.ref b12), .val (.int u), .val (.long q6), .second, .val (.long M), .second, .val (.int (3 : Int32)), .val (.ref sa97), .val (.long (M / (1000 : Int64))), .second, .unset, .unset, .unset]) rfl kT) ?_
          refine GoH.st (fun tT kT => XS.lload X97.here hx rfl (hb hby at_337) rfl  kT) ?_
          show GoH _ _ _ _ _ _ _ _ _ _  T97 (mkF m 339 #[.val (.long p1), .second, .val (.int p3), .val (.ref b1), .val (.ref b12), .val (.int u), .val (.long q6), .second, .val (.long M), .second, .val (.int (3 : Int32)), .val (.ref sa97), .val (.long (M / (1000 : Int64))), .second, .unset, .unset, .unset] [(.long M)])
          obtain ⟨_, _, ⟨T99, L99, k99, n99⟩, -, X99, ⟨Lc99, hQ99, l99, y99, z99⟩, st99⟩ := Jvm.LawKit.callS X97 hx (y := (⟨"com/example/oplim/oplim/Keys", "period", "(J)Ljava/lang/String;"⟩ : MethodName)) hown (mvT hZ (hwi hw 32 rfl)) (mvT hZ (hwi hw 33 rfl)) (mvT hZ (hwi hw 34 rfl)) (mvT hZ (hwi hw 35 rfl)) (by decide) (backOf (W := 0) (rmPer l Z a0 hw [] M zc sd d1 d2 dC1 dC2 um kum un kun s0 v0 kv0 s1 v1 kv1 s2 v2 kv2 s3 v3 kv3 s4 v4 kv4 h97 n0 O S_COMPACT hcs dT1 dT2 dO1 dO2 S_um A_um S_un A_un E_s0 C_s0 V_s0 A_v0 E_s1 C_s1 V_s1 A_v1 E_s2 C_s2 V_s2 A_v2 E_s3 C_s3 V_s3 A_v3 E_s4 C_s4 V_s4 A_v4 hM) hZ (hwi hw 35 rfl) (hwi hw 34 rfl) (by decide) (by decide)) (g := (mkF m 339 #[.val (.long p1), .second, .val (.int p3), .val (.ref b1), .val (.ref b12), .val (.int u), .val (.long q6), .second, .val (.long M), .second, .val (.int (3 : Int32)), .val (.ref sa97), .val (.long (M / (1000 : Int64))), .second, .unset, .unset, .unset] [(.long M)])) rfl (by rw [hml]; rfl) (argsL := [(.long M)]) (rest := []) (lenOf pd__J_Ljava_lang_String_ rfl) rfl (by show 2 * 0 + _ ≤ _; exact Nat.le_of_eq rfl) (hb hby at_339) (fun _ _ => ⟨rfl, e97, (by decide : 4 + 6 ≤ _), (by decide : 32 + 400 ≤ _)⟩)
          dsimp only [Pt.U, Pt.locs, Pt.cells, Pt.slots] at X99 l99 y99 z99 st99 hQ99
          rw [l99, y99, z99] at X99
          have X99 : Stand p l e _ _ m _ below meth c T99 _ 10 432 := X99
          obtain ⟨y99, t99, kt99, rfl, N99q, E99q, E_y99, C_y99, V_y99, A_t99⟩ := hQ99
          have N99 := Fr.app N50 N99q
          refine GoH.st st99 ?_
          have E99 := E99q
          have V_b1 := V_b1.ext E99
          have V_b12 := V_b12.ext E99
          have E_sa97 := E_sa97.ext E99
          have V_sb97 := V_sb97.ext E99
          have F_coder_sa97 := F_coder_sa97.ext E99
          have F_value_sa97 := F_value_sa97.ext E99
          have Sf_b1 := Safe.ext E99 HH Sf_b1
          have Sf_b12 := Safe.ext E99 HH Sf_b12
          have RR := RR.trans (CHr.ext E99 HH)
          have HH := HH.ext E99
          have hk := Nat.le_trans hk E99.1
          have O := O.ext E99
          have KK := KK.ext E99
          have eP : own_per M = own_dl (M / (1000 : Int64)) ++ [(115 : Int32)] := by rw [own_per, if_neg c210_84, if_neg c227_88, if_neg c244_92, if_pos c261_96]
          rw [eP] at A_t99
          have hX : 1 ≤ (M / (1000 : Int64)).toInt := own_X1 hM (by decide) c261_96
          show GoH _ _ _ _ _ _ _ _ _ _  T99 (mkF m 342 #[.val (.long p1), .second, .val (.int p3), .val (.ref b1), .val (.ref b12), .val (.int u), .val (.long q6), .second, .val (.long M), .second, .val (.int (3 : Int32)), .val (.ref sa97), .val (.long (M / (1000 : Int64))), .second, .unset, .unset, .unset] [(.ref y99)])
          refine GoH.st (fun tT kT => XS.astore X99.here hx rfl (hb hby at_342) rfl rfl (l' := #[.val (.long p1), .second, .val (.int p3), .val (.ref b1), .val (.ref b12), .val (.int u), .val (.long q6), .second, .val (.long M), .second, .val (.int (3 : Int32)), .val (.ref sa97), .val (.long (M / (1000 : Int64))), .second, .val (.ref y99), .unset, .unset]) rfl kT) ?_
          refine GoH.st (fun tT kT => XS.aload X99.here hx rfl (hb hby at_344) rfl rfl  kT) ?_
          show GoH _ _ _ _ _ _ _ _ _ _  T99 (mkF m 346 #[.val (.long p1), .second, .val (.int p3), .val (.ref b1), .val (.ref b12), .val (.int u), .val (.long q6), .second, .val (.long M), .second, .val (.int (3 : Int32)), .val (.ref sa97), .val (.long (M / (1000 : Int64))), .second, .val (.ref y99), .unset, .unset] [(.ref y99)])
          refine GoH.st (fun tT kT => XS.ifnonnullYes X99.here hx rfl (pc0 := 346) (pc' := 351) rfl (hb hby at_346) rfl (by decide) (by decide) kT) ?_
          show GoH _ _ _ _ _ _ _ _ _ _  T99 (mkF m 351 #[.val (.long p1), .second, .val (.int p3), .val (.ref b1), .val (.ref b12), .val (.int u), .val (.long q6), .second, .val (.long M), .second, .val (.int (3 : Int32)), .val (.ref sa97), .val (.long (M / (1000 : Int64))), .second, .val (.ref y99), .unset, .unset] [])
          exact tail T99 T97 _ T99.heap _ (3 : Int32) sa97 sb97 kb97 [(115 : Int32)] (M / (1000 : Int64)) y99 t99 kt99 _ (X99.more (by decide) (by decide)) hS hk rfl hZ hown HH RR O N99 KK E_y99 C_y99 V_y99 A_t99 E_sa97 F_coder_sa97 F_value_sa97 V_sb97 V_b12 rfl hX (by decide) (by decide)
        · refine GoH.st (fun tT kT => XS.ifYes X50.here hx rfl (pc0 := 261) (pc' := 270) rfl (hb hby at_261) rfl ((if0 _ _).trans (feq c261_96).2) (by decide) (by decide) kT) ?_
          show GoH _ _ _ _ _ _ _ _ _ _  T50 (mkF m 270 #[.val (.long p1), .second, .val (.int p3), .val (.ref b1), .val (.ref b12), .val (.int u), .val (.long q6), .second, .val (.long M), .second, .unset, .unset, .unset, .unset, .unset, .unset, .unset] [])
          refine GoH.st (fun tT kT => XS.iconst X50.here hx rfl (hb hby at_270) kT) ?_
          refine GoH.st (fun tT kT => XS.istore X50.here hx rfl (hb hby at_271) rfl (l' := #[.val (.long p1), .second, .val (.int p3), .val (.ref b1), .val (.ref b12), .val (.int u), .val (.long q6), .second, .val (.long M), .second, .val (.int (4 : Int32)), .unset, .unset, .unset, .unset, .unset, .unset]) rfl kT) ?_
          refine GoH.st (fun tT kT => XS.iload X50.here hx rfl (hb hby at_273) rfl  kT) ?_
          show GoH _ _ _ _ _ _ _ _ _ _  T50 (mkF m 275 #[.val (.long p1), .second, .val (.int p3), .val (.ref b1), .val (.ref b12), .val (.int u), .val (.long q6), .second, .val (.long M), .second, .val (.int (4 : Int32)), .unset, .unset, .unset, .unset, .unset, .unset] [(.int (4 : Int32))])
          refine GoH.st (fun tT kT => XS.ifYes X50.here hx rfl (pc0 := 275) (pc' := 285) rfl (hb hby at_275) rfl ((if0 _ _).trans (feq (by decide : ¬ ((4 : Int32) = (0 : Int32)))).2) (by decide) (by decide) kT) ?_
          show GoH _ _ _ _ _ _ _ _ _ _  T50 (mkF m 285 #[.val (.long p1), .second, .val (.int p3), .val (.ref b1), .val (.ref b12), .val (.int u), .val (.long q6), .second, .val (.long M), .second, .val (.int (4 : Int32)), .unset, .unset, .unset, .unset, .unset, .unset] [])
          refine GoH.st (fun tT kT => XS.iload X50.here hx rfl (hb hby at_285) rfl  kT) ?_
          refine GoH.st (fun tT kT => XS.iconst X50.here hx rfl (hb hby at_287) kT) ?_
          show GoH _ _ _ _ _ _ _ _ _ _  T50 (mkF m 288 #[.val (.long p1), .second, .val (.int p3), .val (.ref b1), .val (.ref b12), .val (.int u), .val (.long q6), .second, .val (.long M), .second, .val (.int (4 : Int32)), .unset, .unset, .unset, .unset, .unset, .unset] [(.int (1 : Int32)), (.int (4 : Int32))])
          refine GoH.st (fun tT kT => XS.icmpYes X50.here hx rfl (pc0 := 288) (pc' := 298) rfl (hb hby at_288) rfl (feq (by decide : ¬ ((4 : Int32) = (1 : Int32)))).2 (by decide) (by decide) kT) ?_
          show GoH _ _ _ _ _ _ _ _ _ _  T50 (mkF m 298 #[.val (.long p1), .second, .val (.int p3), .val (.ref b1), .val (.ref b12), .val (.int u), .val (.long q6), .second, .val (.long M), .second, .val (.int (4 : Int32)), .unset, .unset, .unset, .unset, .unset, .unset] [])
          refine GoH.st (fun tT kT => XS.iload X50.here hx rfl (hb hby at_298) rfl  kT) ?_
          refine GoH.st (fun tT kT => XS.iconst X50.here hx rfl (hb hby at_300) kT) ?_
          show GoH _ _ _ _ _ _ _ _ _ _  T50 (mkF m 301 #[.val (.long p1), .second, .val (.int p3), .val (.ref b1), .val (.ref b12), .val (.int u), .val (.long q6), .second, .val (.long M), .second, .val (.int (4 : Int32)), .unset, .unset, .unset, .unset, .unset, .unset] [(.int (2 : Int32)), (.int (4 : Int32))])
          refine GoH.st (fun tT kT => XS.icmpYes X50.here hx rfl (pc0 := 301) (pc' := 311) rfl (hb hby at_301) rfl (feq (by decide : ¬ ((4 : Int32) = (2 : Int32)))).2 (by decide) (by decide) kT) ?_
          show GoH _ _ _ _ _ _ _ _ _ _  T50 (mkF m 311 #[.val (.long p1), .second, .val (.int p3), .val (.ref b1), .val (.ref b12), .val (.int u), .val (.long q6), .second, .val (.long M), .second, .val (.int (4 : Int32)), .unset, .unset, .unset, .unset, .unset, .unset] [])
          refine GoH.st (fun tT kT => XS.iload X50.here hx rfl (hb hby at_311) rfl  kT) ?_
          refine GoH.st (fun tT kT => XS.iconst X50.here hx rfl (hb hby at_313) kT) ?_
          show GoH _ _ _ _ _ _ _ _ _ _  T50 (mkF m 314 #[.val (.long p1), .second, .val (.int p3), .val (.ref b1), .val (.ref b12), .val (.int u), .val (.long q6), .second, .val (.long M), .second, .val (.int (4 : Int32)), .unset, .unset, .unset, .unset, .unset, .unset] [(.int (3 : Int32)), (.int (4 : Int32))])
          refine GoH.st (fun tT kT => XS.icmpYes X50.here hx rfl (pc0 := 314) (pc' := 324) rfl (hb hby at_314) rfl (feq (by decide : ¬ ((4 : Int32) = (3 : Int32)))).2 (by decide) (by decide) kT) ?_
          show GoH _ _ _ _ _ _ _ _ _ _  T50 (mkF m 324 #[.val (.long p1), .second, .val (.int p3), .val (.ref b1), .val (.ref b12), .val (.int u), .val (.long q6), .second, .val (.long M), .second, .val (.int (4 : Int32)), .unset, .unset, .unset, .unset, .unset, .unset] [])
          obtain ⟨sa100, T100, h100, kk100, sb100, kb100, X100, e100, E100, hS100, hk100, hZ100, ho100, E_sa100, F_coder_sa100, F_value_sa100, V_sb100, la100, lb100, CR100, Lt100, ns100, st100⟩ := ldcCH X50 hx hZ hown (hwi hw 205 rfl) wS e50 hS hk hEL (List.mem_of_getElem? (i := 4) rfl) HH (vs := [(.int (109 : Int32)), (.int (115 : Int32))]) (z := 2) ⟨by decide, by decide⟩ (by decide) rfl (g := (mkF m 324 #[.val (.long p1), .second, .val (.int p3), .val (.ref b1), .val (.ref b12), .val (.int u), .val (.long q6), .second, .val (.long M), .second, .val (.int (4 : Int32)), .unset, .unset, .unset, .unset, .unset, .unset] [])) rfl (hb hby at_324) (n := 8) (by decide) (by decide) (by decide) (by decide)
          refine GoH.st st100 ?_
          have Sf_b1 := CHr.safe CR100 V_b1.lt Sf_b1
          have Sf_b12 := CHr.safe CR100 V_b12.lt Sf_b12
          have V_b1 := V_b1.ext E100
          have V_b12 := V_b12.ext E100
          have O := O.ext E100
          have KK := KK.ext E100
          have RR := RR.trans CR100
          have HH := CR100.1
          have hS := hS100
          have hk := hk100
          have hZ := hZ100
          have hown := ho100
          obtain ⟨ne_b1_sa100, ne_b1_sb100⟩ := ns100 _ Sf_b1
          obtain ⟨ne_b12_sa100, ne_b12_sb100⟩ := ns100 _ Sf_b12
          show GoH _ _ _ _ _ _ _ _ _ _  T100 (mkF m 326 #[.val (.long p1), .second, .val (.int p3), .val (.ref b1), .val (.ref b12), .val (.int u), .val (.long q6), .second, .val (.long M), .second, .val (.int (4 : Int32)), .unset, .unset, .unset, .unset, .unset, .unset] [(.ref sa100)])
          refine GoH.st (fun tT kT => XS.astore X100.here hx rfl (hb hby at_326) rfl rfl (l' := #[.val (.long p1), .second, .val (.int p3), .val (.ref b1), .val (.ref b12), .val (.int u), .val (.long q6), .second, .val (.long M), .second, .val (.int (4 : Int32)), .val (.ref sa100), .unset, .unset, .unset, .unset, .unset]) rfl kT) ?_
          refine GoH.st (fun tT kT => XS.lload X100.here hx rfl (hb hby at_328) rfl  kT) ?_
          refine GoH.st (fun tT kT => XS.aloadN X100.here hx rfl (hb hby at_330) rfl rfl  kT) ?_
          show GoH _ _ _ _ _ _ _ _ _ _  T100 (mkF m 331 #[.val (.long p1), .second, .val (.int p3), .val (.ref b1), .val (.ref b12), .val (.int u), .val (.long q6), .second, .val (.long M), .second, .val (.int (4 : Int32)), .val (.ref sa100), .unset, .unset, .unset, .unset, .unset] [(.ref b1), (.long M)])
          refine GoH.st (fun tT kT => XS.iload X100.here hx rfl (hb hby at_331) rfl  kT) ?_
          show GoH _ _ _ _ _ _ _ _ _ _  T100 (mkF m 333 #[.val (.long p1), .second, .val (.int p3), .val (.ref b1), .val (.ref b12), .val (.int u), .val (.long q6), .second, .val (.long M), .second, .val (.int (4 : Int32)), .val (.ref sa100), .unset, .unset, .unset, .unset, .unset] [(.int (4 : Int32)), (.ref b1), (.long M)])
          obtain ⟨cl101, Ar101, q101, S101, M101, Hh101, G101⟩ := id V_b1
          refine GoH.st (X100.laload hx (j := (4 : Int32)) (v := (.long (1 : Int64))) (by rw [e100]; exact Ar101.1) (State.isArrayOf_alike hZ.alike Ar101.2.1) Ar101.2.2 (inb_of S101 ⟨by decide, by decide⟩) (Hh101.at (inb_of S101 ⟨by decide, by decide⟩) rfl) (g := (mkF m 333 #[.val (.long p1), .second, .val (.int p3), .val (.ref b1), .val (.ref b12), .val (.int u), .val (.long q6), .second, .val (.long M), .second, .val (.int (4 : Int32)), .val (.ref sa100), .unset, .unset, .unset, .unset, .unset] [(.int (4 : Int32)), (.ref b1), (.long M)])) rfl rfl (hb hby at_333)) ?_
          show GoH _ _ _ _ _ _ _ _ _ _  T100 (mkF m 334 #[.val (.long p1), .second, .val (.int p3), .val (.ref b1), .val (.ref b12), .val (.int u), .val (.long q6), .second, .val (.long M), .second, .val (.int (4 : Int32)), .val (.ref sa100), .unset, .unset, .unset, .unset, .unset] [(.long (1 : Int64)), (.long M)])
          refine GoH.st (fun tT kT => XS.ldiv X100.here hx rfl (hb hby at_334) rfl (by decide) kT) ?_
          show GoH _ _ _ _ _ _ _ _ _ _  T100 (mkF m 335 #[.val (.long p1), .second, .val (.int p3), .val (.ref b1), .val (.ref b12), .val (.int u), .val (.long q6), .second, .val (.long M), .second, .val (.int (4 : Int32)), .val (.ref sa100), .unset, .unset, .unset, .unset, .unset] [(.long (M / (1 : Int64)))])
          refine GoH.st (fun tT kT => XS.lstore X100.here hx rfl (hb hby at_335) rfl (l' := #[.val (.long p1), .second, .val (.int p3), .val (.ref b1), .val (.ref b12), .val (.int u), .val (.long q6), .second, .val (.long M), .second, .val (.int (4 : Int32)), .val (.ref sa100), .val (.long (M / (1 : Int64))), .second, .unset, .unset, .unset]) rfl kT) ?_
          refine GoH.st (fun tT kT => XS.lload X100.here hx rfl (hb hby at_337) rfl  kT) ?_
          show GoH _ _ _ _ _ _ _ _ _ _  T100 (mkF m 339 #[.val (.long p1), .second, .val (.int p3), .val (.ref b1), .val (.ref b12), .val (.int u), .val (.long q6), .second, .val (.long M), .second, .val (.int (4 : Int32)), .val (.ref sa100), .val (.long (M / (1 : Int64))), .second, .unset, .unset, .unset] [(.long M)])
          obtain ⟨_, _, ⟨T102, L102, k102, n102⟩, -, X102, ⟨Lc102, hQ102, l102, y102, z102⟩, st102⟩ := Jvm.LawKit.callS X100 hx (y := (⟨"com/example/oplim/oplim/Keys", "period", "(J)Ljava/lang/String;"⟩ : MethodName)) hown (mvT hZ (hwi hw 32 rfl)) (mvT hZ (hwi hw 33 rfl)) (mvT hZ (hwi hw 34 rfl)) (mvT hZ (hwi hw 35 rfl)) (by decide) (backOf (W := 0) (rmPer l Z a0 hw [] M zc sd d1 d2 dC1 dC2 um kum un kun s0 v0 kv0 s1 v1 kv1 s2 v2 kv2 s3 v3 kv3 s4 v4 kv4 h100 n0 O S_COMPACT hcs dT1 dT2 dO1 dO2 S_um A_um S_un A_un E_s0 C_s0 V_s0 A_v0 E_s1 C_s1 V_s1 A_v1 E_s2 C_s2 V_s2 A_v2 E_s3 C_s3 V_s3 A_v3 E_s4 C_s4 V_s4 A_v4 hM) hZ (hwi hw 35 rfl) (hwi hw 34 rfl) (by decide) (by decide)) (g := (mkF m 339 #[.val (.long p1), .second, .val (.int p3), .val (.ref b1), .val (.ref b12), .val (.int u), .val (.long q6), .second, .val (.long M), .second, .val (.int (4 : Int32)), .val (.ref sa100), .val (.long (M / (1 : Int64))), .second, .unset, .unset, .unset] [(.long M)])) rfl (by rw [hml]; rfl) (argsL := [(.long M)]) (rest := []) (lenOf pd__J_Ljava_lang_String_ rfl) rfl (by show 2 * 0 + _ ≤ _; exact Nat.le_of_eq rfl) (hb hby at_339) (fun _ _ => ⟨rfl, e100, (by decide : 4 + 6 ≤ _), (by decide : 36 + 400 ≤ _)⟩)
          dsimp only [Pt.U, Pt.locs, Pt.cells, Pt.slots] at X102 l102 y102 z102 st102 hQ102
          rw [l102, y102, z102] at X102
          have X102 : Stand p l e _ _ m _ below meth c T102 _ 10 436 := X102
          obtain ⟨y102, t102, kt102, rfl, N102q, E102q, E_y102, C_y102, V_y102, A_t102⟩ := hQ102
          have N102 := Fr.app N50 N102q
          refine GoH.st st102 ?_
          have E102 := E102q
          have V_b1 := V_b1.ext E102
          have V_b12 := V_b12.ext E102
          have E_sa100 := E_sa100.ext E102
          have V_sb100 := V_sb100.ext E102
          have F_coder_sa100 := F_coder_sa100.ext E102
          have F_value_sa100 := F_value_sa100.ext E102
          have Sf_b1 := Safe.ext E102 HH Sf_b1
          have Sf_b12 := Safe.ext E102 HH Sf_b12
          have RR := RR.trans (CHr.ext E102 HH)
          have HH := HH.ext E102
          have hk := Nat.le_trans hk E102.1
          have O := O.ext E102
          have KK := KK.ext E102
          have eP : own_per M = own_dl (M / (1 : Int64)) ++ [(109 : Int32), (115 : Int32)] := by rw [own_per, if_neg c210_84, if_neg c227_88, if_neg c244_92, if_neg c261_96]
          rw [eP] at A_t102
          have hX : 1 ≤ (M / (1 : Int64)).toInt := own_X1 hM (by decide) (own_m1 _)
          show GoH _ _ _ _ _ _ _ _ _ _  T102 (mkF m 342 #[.val (.long p1), .second, .val (.int p3), .val (.ref b1), .val (.ref b12), .val (.int u), .val (.long q6), .second, .val (.long M), .second, .val (.int (4 : Int32)), .val (.ref sa100), .val (.long (M / (1 : Int64))), .second, .unset, .unset, .unset] [(.ref y102)])
          refine GoH.st (fun tT kT => XS.astore X102.here hx rfl (hb hby at_342) rfl rfl (l' := #[.val (.long p1), .second, .val (.int p3), .val (.ref b1), .val (.ref b12), .val (.int u), .val (.long q6), .second, .val (.long M), .second, .val (.int (4 : Int32)), .val (.ref sa100), .val (.long (M / (1 : Int64))), .second, .val (.ref y102), .unset, .unset]) rfl kT) ?_
          refine GoH.st (fun tT kT => XS.aload X102.here hx rfl (hb hby at_344) rfl rfl  kT) ?_
          show GoH _ _ _ _ _ _ _ _ _ _  T102 (mkF m 346 #[.val (.long p1), .second, .val (.int p3), .val (.ref b1), .val (.ref b12), .val (.int u), .val (.long q6), .second, .val (.long M), .second, .val (.int (4 : Int32)), .val (.ref sa100), .val (.long (M / (1 : Int64))), .second, .val (.ref y102), .unset, .unset] [(.ref y102)])
          refine GoH.st (fun tT kT => XS.ifnonnullYes X102.here hx rfl (pc0 := 346) (pc' := 351) rfl (hb hby at_346) rfl (by decide) (by decide) kT) ?_
          show GoH _ _ _ _ _ _ _ _ _ _  T102 (mkF m 351 #[.val (.long p1), .second, .val (.int p3), .val (.ref b1), .val (.ref b12), .val (.int u), .val (.long q6), .second, .val (.long M), .second, .val (.int (4 : Int32)), .val (.ref sa100), .val (.long (M / (1 : Int64))), .second, .val (.ref y102), .unset, .unset] [])
          exact tail T102 T100 _ T102.heap _ (4 : Int32) sa100 sb100 kb100 [(109 : Int32), (115 : Int32)] (M / (1 : Int64)) y102 t102 kt102 _ (X102.more (by decide) (by decide)) hS hk rfl hZ hown HH RR O N102 KK E_y102 C_y102 V_y102 A_t102 E_sa100 F_coder_sa100 F_value_sa100 V_sb100 V_b12 rfl hX (by decide) (by decide)
set_option maxRecDepth 65536 in
set_option maxHeartbeats 40000000 in
theorem comes_1 {Post : Tables → Env → Array Value → State → Outcome → State → Prop} (hpost : ∀ tb e args s v u, (limb_1_1.after args s (.returned v) u = true ∧ limb_1_2.after args s (.returned v) u = true ∧ True) → ReturnedEndW s (.returned v) u (Jvm.fieldLocs frame_1_writes args s ++ Jvm.arrayLocs frame_1_arrays args s ++ Jvm.staticLocs frame_1_statics s) 32 5440 → Post tb e args s (.returned v) u) :
    ArmFor flags0 classFile x code maxLocals ret World_1 tables_1 room_1 Calls_1 rest_1 Pre_1 Post := by
  intro l hfl _ _ p e ha hc hk s m args below hf hA hF happ hP
  obtain ⟨hcalls, hrest, hpre⟩ := hP
  obtain ⟨-, -, -, hnamed, -, -, -, hat⟩ := (Spec.applies_iff hf).mp happ
  obtain ⟨hg, hn⟩ := and_e (Cond.before_iff.mp (show (Jvm.Cond.and given_1 narrow_1).before args s = true from hpre))
  obtain ⟨g1, g2⟩ := and_e hg
  obtain ⟨g3, g4⟩ := and_e g2
  obtain ⟨w0, w1, rfl⟩ : ∃ w0 w1 : Value, args = #[w0, w1] := by
    have hs : args.size = 2 := by simpa [Cond.value, given_1] using g1
    obtain ⟨L⟩ := args
    match L, hs with
    | [w0, w1], _ => exact ⟨w0, w1, rfl⟩
  have hw := fun d (hd : d ∈ tables_1) => atoms_spec (ws := Jvm.Cond.code x code maxLocals ret :: tables_1) hat d (List.mem_cons_of_mem _ hd)
  have hfit : Fit s := fun {y c} hc i hi => by
    obtain ⟨ha, rfl⟩ := Array.getElem?_eq_some_iff.mp hc
    have q := List.all_eq_true.mp ((Array.all_eq_true_iff_forall_mem.mp hF) _ (Array.getElem_mem ha)) i (List.mem_range.mpr hi)
    simpa [Array.getElem?_eq_getElem hi] using q
  obtain ⟨hsets, hown0⟩ := atoms_of _ (rest_1_c_eq ▸ (show rest_1_c.before _ s = true from hrest))
  obtain ⟨i0, ei0⟩ := isL_v g3
  obtain rfl : w0 = (.long i0) := Option.some.inj ei0
  obtain ⟨i1, ei1⟩ := is_v g4
  obtain rfl : w1 = (.int i1) := Option.some.inj ei1
  obtain ⟨zc, ezc⟩ := is_v (Cond.before_iff.mp (hsets _ (List.mem_of_getElem? (i := 1) rfl)))
  have S_COMPACT : Sta s s.heap "java/lang/String" "COMPACT_STRINGS" "Z" (.int zc) := Sta.start ezc (Or.inl (hsets _ (List.mem_of_getElem? (i := 0) rfl)))
  have hcs : ¬ (zc = (0 : Int32)) := gotF (Cond.eq_ints ezc (Term.int_eval (0))) (not_v (Cond.before_iff.mp (hsets _ (List.mem_of_getElem? (i := 2) rfl))))
  obtain ⟨fm, efm, ref_fm⟩ := isR_v (Cond.before_iff.mp (hsets _ (List.mem_of_getElem? (i := 8) rfl)))
  have S_SIO : Sta s s.heap "jdk/internal/util/Preconditions" "SIOOBE_FORMATTER" "Ljava/util/function/BiFunction;" fm := Sta.start efm (Or.inl (hsets _ (List.mem_of_getElem? (i := 7) rfl)))
  obtain ⟨nr1, nr2⟩ := and_e hn
  obtain ⟨nr3, nr4⟩ := and_e nr2
  obtain ⟨nr5, nr6⟩ := and_e nr4
  obtain ⟨nr7, nr8⟩ := and_e nr6
  obtain ⟨nr9, nr10⟩ := and_e nr8
  obtain ⟨nr11, nr12⟩ := and_e nr10
  obtain ⟨nr13, nr14⟩ := and_e nr12
  obtain ⟨nr15, nr16⟩ := and_e nr14
  obtain ⟨nr17, nr18⟩ := and_e nr16
  obtain ⟨nr19, nr20⟩ := and_e nr18
  obtain ⟨nr21, nr22⟩ := and_e nr20
  obtain ⟨nr23, nr24⟩ := and_e nr22
  obtain ⟨nr25, nr26⟩ := and_e nr24
  obtain ⟨nr27, nr28⟩ := and_e nr26
  obtain ⟨nr29, nr30⟩ := and_e nr28
  obtain ⟨nr31, nr32⟩ := and_e nr30
  obtain ⟨nr33, nr34⟩ := and_e nr32
  obtain ⟨nr35, nr36⟩ := and_e nr34
  obtain ⟨nr37, nr38⟩ := and_e nr36
  obtain ⟨nr39, nr40⟩ := and_e nr38
  obtain ⟨nr41, nr42⟩ := and_e nr40
  obtain ⟨nr43, nr44⟩ := and_e nr42
  obtain ⟨nr45, nr46⟩ := and_e nr44
  obtain ⟨nr47, nr48⟩ := and_e nr46
  obtain ⟨nr49, nr50⟩ := and_e nr48
  obtain ⟨nr51, nr52⟩ := and_e nr50
  obtain ⟨nr53, nr54⟩ := and_e nr52
  obtain ⟨nr55, nr56⟩ := and_e nr54
  obtain ⟨nr57, nr58⟩ := and_e nr56
  obtain ⟨nr59, nr60⟩ := and_e nr58
  obtain ⟨nr61, nr62⟩ := and_e nr60
  obtain ⟨nr63, nr64⟩ := and_e nr62
  obtain ⟨nr65, nr66⟩ := and_e nr64
  obtain ⟨nr67, nr68⟩ := and_e nr66
  obtain ⟨nr69, nr70⟩ := and_e nr68
  obtain ⟨nr71, nr72⟩ := and_e nr70
  obtain ⟨nr73, nr74⟩ := and_e nr72
  obtain ⟨nr75, nr76⟩ := and_e nr74
  obtain ⟨nr77, nr78⟩ := and_e nr76
  obtain ⟨um, ev_um⟩ := arr_v nr1
  have S_um : Sta s s.heap _ _ _ _ := Sta.start ev_um (Or.inr ⟨(hwi hw 34 rfl), (hwi hw 37 rfl)⟩)
  obtain ⟨un, ev_un⟩ := arr_v nr5
  have S_un : Sta s s.heap _ _ _ _ := Sta.start ev_un (Or.inr ⟨(hwi hw 34 rfl), (hwi hw 92 rfl)⟩)
  obtain ⟨c_um, Ar_um⟩ := Arr.start ev_um nr1
  obtain ⟨l1_um, l2_um⟩ := own_len ev_um Ar_um.1 nr3
  have A_um := Arv.start (vs := [(.long (86400000 : Int64)), (.long (3600000 : Int64)), (.long (60000 : Int64)), (.long (1000 : Int64)), (.long (1 : Int64))]) (dv := (.long 0)) hfit Ar_um l1_um l2_um (by decide) rfl ⟨(elem_in (own_eqj nr71) ev_um (Term.int_eval (0)) Ar_um.1).2, (elem_in (own_eqj nr73) ev_um (Term.int_eval (1)) Ar_um.1).2, (elem_in (own_eqj nr75) ev_um (Term.int_eval (2)) Ar_um.1).2, (elem_in (own_eqj nr77) ev_um (Term.int_eval (3)) Ar_um.1).2, (elem_in (own_eqj nr78) ev_um (Term.int_eval (4)) Ar_um.1).2, trivial⟩
  obtain ⟨s0, ev_s0⟩ := exa_v nr59
  have E_s0 := Exa.start ev_s0 nr59
  have C_s0 : Fld s s.heap s0 "java/lang/String" "coder" "B" (.int 0) := Fld.start (by rw [← fld_at ev_s0]; exact own_eqi nr67)
  obtain ⟨v0, ev_v0⟩ := arr_v nr61
  have V_s0 : Fld s s.heap s0 "java/lang/String" "value" "[B" (.ref v0) := Fld.start (by rw [← fld_at ev_s0]; exact ev_v0)
  obtain ⟨c_v0, Ar_v0⟩ := Arr.start ev_v0 nr61
  obtain ⟨l1_v0, l2_v0⟩ := own_len ev_v0 Ar_v0.1 nr65
  have A_v0 := Arv.start (vs := [(.int (100 : Int32))]) (dv := (.int 0)) hfit Ar_v0 l1_v0 l2_v0 (by decide) rfl ⟨(elem_in (own_eqi nr69) ev_v0 (Term.int_eval (0)) Ar_v0.1).2, trivial⟩
  obtain ⟨s1, ev_s1⟩ := exa_v nr47
  have E_s1 := Exa.start ev_s1 nr47
  have C_s1 : Fld s s.heap s1 "java/lang/String" "coder" "B" (.int 0) := Fld.start (by rw [← fld_at ev_s1]; exact own_eqi nr55)
  obtain ⟨v1, ev_v1⟩ := arr_v nr49
  have V_s1 : Fld s s.heap s1 "java/lang/String" "value" "[B" (.ref v1) := Fld.start (by rw [← fld_at ev_s1]; exact ev_v1)
  obtain ⟨c_v1, Ar_v1⟩ := Arr.start ev_v1 nr49
  obtain ⟨l1_v1, l2_v1⟩ := own_len ev_v1 Ar_v1.1 nr53
  have A_v1 := Arv.start (vs := [(.int (104 : Int32))]) (dv := (.int 0)) hfit Ar_v1 l1_v1 l2_v1 (by decide) rfl ⟨(elem_in (own_eqi nr57) ev_v1 (Term.int_eval (0)) Ar_v1.1).2, trivial⟩
  obtain ⟨s2, ev_s2⟩ := exa_v nr9
  have E_s2 := Exa.start ev_s2 nr9
  have C_s2 : Fld s s.heap s2 "java/lang/String" "coder" "B" (.int 0) := Fld.start (by rw [← fld_at ev_s2]; exact own_eqi nr17)
  obtain ⟨v2, ev_v2⟩ := arr_v nr11
  have V_s2 : Fld s s.heap s2 "java/lang/String" "value" "[B" (.ref v2) := Fld.start (by rw [← fld_at ev_s2]; exact ev_v2)
  obtain ⟨c_v2, Ar_v2⟩ := Arr.start ev_v2 nr11
  obtain ⟨l1_v2, l2_v2⟩ := own_len ev_v2 Ar_v2.1 nr15
  have A_v2 := Arv.start (vs := [(.int (109 : Int32))]) (dv := (.int 0)) hfit Ar_v2 l1_v2 l2_v2 (by decide) rfl ⟨(elem_in (own_eqi nr19) ev_v2 (Term.int_eval (0)) Ar_v2.1).2, trivial⟩
  obtain ⟨s3, ev_s3⟩ := exa_v nr35
  have E_s3 := Exa.start ev_s3 nr35
  have C_s3 : Fld s s.heap s3 "java/lang/String" "coder" "B" (.int 0) := Fld.start (by rw [← fld_at ev_s3]; exact own_eqi nr43)
  obtain ⟨v3, ev_v3⟩ := arr_v nr37
  have V_s3 : Fld s s.heap s3 "java/lang/String" "value" "[B" (.ref v3) := Fld.start (by rw [← fld_at ev_s3]; exact ev_v3)
  obtain ⟨c_v3, Ar_v3⟩ := Arr.start ev_v3 nr37
  obtain ⟨l1_v3, l2_v3⟩ := own_len ev_v3 Ar_v3.1 nr41
  have A_v3 := Arv.start (vs := [(.int (115 : Int32))]) (dv := (.int 0)) hfit Ar_v3 l1_v3 l2_v3 (by decide) rfl ⟨(elem_in (own_eqi nr45) ev_v3 (Term.int_eval (0)) Ar_v3.1).2, trivial⟩
  obtain ⟨s4, ev_s4⟩ := exa_v nr21
  have E_s4 := Exa.start ev_s4 nr21
  have C_s4 : Fld s s.heap s4 "java/lang/String" "coder" "B" (.int 0) := Fld.start (by rw [← fld_at ev_s4]; exact own_eqi nr29)
  obtain ⟨v4, ev_v4⟩ := arr_v nr23
  have V_s4 : Fld s s.heap s4 "java/lang/String" "value" "[B" (.ref v4) := Fld.start (by rw [← fld_at ev_s4]; exact ev_v4)
  obtain ⟨c_v4, Ar_v4⟩ := Arr.start ev_v4 nr23
  obtain ⟨l1_v4, l2_v4⟩ := own_len ev_v4 Ar_v4.1 nr27
  have A_v4 := Arv.start (vs := [(.int (109 : Int32)), (.int (115 : Int32))]) (dv := (.int 0)) hfit Ar_v4 l1_v4 l2_v4 (by decide) rfl ⟨(elem_in (own_eqi nr31) ev_v4 (Term.int_eval (0)) Ar_v4.1).2, (elem_in (own_eqi nr33) ev_v4 (Term.int_eval (1)) Ar_v4.1).2, trivial⟩
  obtain ⟨c_un, Ar_un⟩ := Arr.start ev_un nr5
  obtain ⟨l1_un, l2_un⟩ := own_len ev_un Ar_un.1 nr7
  have A_un := Arv.start (vs := [.ref s0, .ref s1, .ref s2, .ref s3, .ref s4]) (dv := .null) hfit Ar_un l1_un l2_un (by decide) rfl ⟨(elem_in ev_s0 ev_un (Term.int_eval (0)) Ar_un.1).2, (elem_in ev_s1 ev_un (Term.int_eval (1)) Ar_un.1).2, (elem_in ev_s2 ev_un (Term.int_eval (2)) Ar_un.1).2, (elem_in ev_s3 ev_un (Term.int_eval (3)) Ar_un.1).2, (elem_in ev_s4 ev_un (Term.int_eval (4)) Ar_un.1).2, trivial⟩
  have da : (Jvm.Cond.arrayClass .byte).before _ s = true := (hwi hw 27 rfl)
  obtain ⟨sd, d1, d2, dC1, dC2, dT1, dT2, dO1, dO2⟩ := own_dig hsets da
  have hEL : EW s _ EL := (EW.cons (hwi hw 228 rfl) (by decide) (EW.cons (hwi hw 227 rfl) (by decide) (EW.cons (hwi hw 24 rfl) (by decide) (EW.cons (hwi hw 226 rfl) (by decide) (EW.cons (hwi hw 205 rfl) (by decide) EW.nil)))))
  have wS : ∀ a ∈ Bundle.stringAtoms, a.before _ s = true := fun d hd => hw d ((by decide +kernel : ∀ d ∈ Bundle.stringAtoms, d ∈ tables_1) d hd)
  have HH : CHv s EL s.vm s.heap := CHv.start hEL (fun q hq => hcalls.1 q hq) (hsets _ (List.mem_of_getElem? (i := 2) rfl)) (hwi hw 27 rfl) (hwi hw 26 rfl)
  obtain ⟨n, o, h1, h2, h3, _, L, rfl, ⟨rfl, N⟩, hcr, hq⟩ := rm0 l s _ hw tables_1 i0 i1 zc fm sd d1 d2 dC1 dC2 um _ un _ s0 v0 _ s1 v1 _ s2 v2 _ s3 v3 _ s4 v4 _ s.heap s.heap.size (Old.start s) hEL wS S_COMPACT hcs S_SIO ref_fm dT1 dT2 dO1 dO2 S_um A_um S_un A_un E_s0 C_s0 V_s0 A_v0 E_s1 C_s1 V_s1 A_v1 E_s2 C_s2 V_s2 A_v2 E_s3 C_s3 V_s3 A_v3 E_s4 C_s4 V_s4 A_v4 p e ha hc hk s m _ below hf ((Spec.applies_iff_loose hf).mp happ).1 ⟨rfl, State.Warmed39.refl s, rfl, HH, fun _ q => nomatch q⟩ trivial
  refine ⟨n, _, h1, h2, h3, hpost _ _ _ _ _ _ ⟨Cond.after_iff.mpr rfl, Cond.after_iff.mpr (eq_i res_at (Term.int_eval (1)) rfl), trivial⟩ ⟨hq.1, hq.2.1, hq.2.2.1, (hq.2.2.2.sift fun y hy => Or.inr (N y hy)).mono (by decide) (by decide)⟩⟩
theorem main_1_1 : Claimed_1_1 := comes_1 fun _ _ _ _ _ _ h hF => ⟨h.1, hF⟩
theorem main_1_2 : Claimed_1_2 := comes_1 fun _ _ _ _ _ _ h hF => ⟨h.2.1, hF⟩
end Jvm.Pilot.@@N@@
namespace Jvm.Pilot.@@N@@
open Jvm Jvm.ClassFile Sem Op Lib Jvm.Free Jvm.Stand Jvm.Pilot.@@N@@.Jvm.D
/-! MADE BY PROGRAM (witnessworld.py) out of the Statement's table words and the real class files: 29 classes; the members and pool entries that the words name. The judged class is class 1, her method 1. -/
namespace start1
open Jvm.ClassFile
def u (s : String) : CpInfo := .utf8 (stringToUtf16 s)
/-- a pool by its gaps: so many unusable entries, then the entry; so many at the end -/
def gap : Nat → List CpInfo → List CpInfo
  | 0, r => r
  | n + 1, r => .unusable :: gap n r
def poolList (es : List (Nat × CpInfo)) (last : Nat) : List CpInfo := es.foldr (fun e r => gap e.1 (e.2 :: r)) (gap last [])
def pool (es : List (Nat × CpInfo)) (last : Nat) : Array CpInfo := ⟨poolList es last⟩
def fileOf (pool : Array CpInfo) (this : Nat) (attrs : Array Attribute := #[]) (ms : Array MethodInfo := #[]) (fl : Nat := 33) (sup : Nat := 0) (ifs : Array Nat := #[]) (fds : Array FieldInfo := #[]) : ClassFile where
  minorVersion := 0
  majorVersion := 65
  constantPool := pool
  accessFlags := fl
  thisClass := this
  superClass := sup
  interfaces := ifs
  fields := fds
  methods := ms
  attributes := attrs
def plain (name : String) (sup : Option ClassId) : Class where
  name := name
  kind := .ordinary
  loader := none
  accessFlags := 33
  super := sup
  interfaces := #[]
  cf := none
  fields := #[]
  methods := #[]
  instanceTypes := #[]
  staticTypes := #[]
  resolved := #[]
  callSites := []
  init := .initialized
  statics := none
  mirror := none

def pool0 : Array CpInfo := pool [(5, u "<init>"), (0, u "()V"), (1, .class_ 10), (1, u "java/lang/Object"), (85, u "clone"), (0, u "()Ljava/lang/Object;")] 26

def k0c0 : Code := { maxStack := 0, maxLocals := 1, code := object_method_1_code, exceptionTable := #[], attributes := #[] }
def k0m0 : Method := { name := "<init>", desc := "()V", sig := { parameters := [], returnType := none }, accessFlags := 1, code := some k0c0 }
def k0m1 : Method := { name := "clone", desc := "()Ljava/lang/Object;", sig := { parameters := [], returnType := some (.object "java/lang/Object") }, accessFlags := 260, code := none }
/-- java/lang/Object -/
def k0 : Class := { plain "java/lang/Object" none with
  accessFlags := 33
  interfaces := #[]
  cf := some (fileOf pool0 8 #[] #[{ accessFlags := 1, nameIndex := 5, descriptorIndex := 6, attributes := #[] }, { accessFlags := 260, nameIndex := 96, descriptorIndex := 97, attributes := #[] }] 33 0 #[] #[])
  fields := #[]
  methods := #[k0m0, k0m1]
  instanceTypes := #[]
  staticTypes := #[]
  resolved := Array.replicate 124 none
  statics := none }

def pool1 : Array CpInfo := pool [(2, .class_ 4), (1, u "java/lang/Object"), (0, u "<init>"), (0, u "()V"), (0, .long 86400000), (1, .long 3600000), (1, .long 60000), (1, .long 1000), (1, .long 10), (1, .long 100), (1, .long 10000), (1, .long 100000), (1, .long 1000000), (1, .long 10000000), (1, .long 100000000), (1, .long 1000000000), (1, .long 10000000000), (1, .long 100000000000), (1, .long 1000000000000), (1, .long 10000000000000), (1, .long 100000000000000), (1, .long 1000000000000000), (1, .long 10000000000000000), (1, .long 100000000000000000), (1, .long 1000000000000000000), (1, .integer 2147483647), (2, .long 9223372036854775807), (1, .string 55), (0, u "d"), (0, .string 57), (0, u "h"), (0, .string 59), (0, u "m"), (0, .string 61), (0, u "s"), (0, .string 63), (0, u "ms"), (0, .methodref 65 66), (0, .class_ 67), (0, .nameAndType 68 69), (0, u "com/example/oplim/oplim/Keys"), (0, u "period"), (0, u "(J)Ljava/lang/String;"), (0, .methodref 71 72), (0, .class_ 73), (0, .nameAndType 74 75), (0, u "java/lang/String"), (0, u "length"), (0, u "()I"), (0, .methodref 71 77), (0, .nameAndType 78 79), (0, u "charAt"), (0, u "(I)C"), (0, .methodref 81 82), (0, .class_ 83), (0, .nameAndType 84 85), (0, u "com/example/oplim/oplim/KeysPeriodPinLaw"), (0, u "dig"), (0, u "(Ljava/lang/String;IJ[JI)Z"), (2, u "law"), (0, u "(JI)Z")] 5

def k1m0 : Method := { name := "<init>", desc := "()V", sig := { parameters := [], returnType := none }, accessFlags := 2, code := none }
def k1c1 : Code := { maxStack := 6, maxLocals := 17, code := code, exceptionTable := #[], attributes := #[] }
def k1m1 : Method := { name := "law", desc := "(JI)Z", sig := { parameters := [.long, .int], returnType := some .boolean }, accessFlags := 9, code := some k1c1 }
def k1c2 : Code := { maxStack := 5, maxLocals := 7, code := method_3_code, exceptionTable := #[], attributes := #[] }
def k1m2 : Method := { name := "dig", desc := "(Ljava/lang/String;IJ[JI)Z", sig := { parameters := [(.object "java/lang/String"), .int, .long, (.array .long), .int], returnType := some .boolean }, accessFlags := 10, code := some k1c2 }
/-- com/example/oplim/oplim/KeysPeriodPinLaw -/
def k1 : Class := { plain "com/example/oplim/oplim/KeysPeriodPinLaw" (some 0) with
  accessFlags := 49
  interfaces := #[]
  cf := some (fileOf pool1 81 #[] #[{ accessFlags := 2, nameIndex := 5, descriptorIndex := 6, attributes := #[] }, { accessFlags := 9, nameIndex := 88, descriptorIndex := 89, attributes := #[] }, { accessFlags := 10, nameIndex := 84, descriptorIndex := 85, attributes := #[] }] 49 2 #[] #[])
  fields := #[]
  methods := #[k1m0, k1m1, k1m2]
  instanceTypes := #[]
  staticTypes := #[]
  resolved := Array.replicate 95 none
  statics := none }

def pool2 : Array CpInfo := pool [(1, .class_ 2), (0, u "java/io/Serializable"), (0, .class_ 4), (0, u "java/lang/Object")] 2

/-- java/io/Serializable -/
def k2 : Class := { plain "java/io/Serializable" (some 0) with
  accessFlags := 1537
  interfaces := #[]
  cf := some (fileOf pool2 1 #[] #[] 1537 3 #[] #[])
  fields := #[]
  methods := #[]
  instanceTypes := #[]
  staticTypes := #[]
  resolved := Array.replicate 7 none
  statics := none }

def pool3 : Array CpInfo := pool [(1, .class_ 2), (0, u "java/lang/Comparable"), (0, .class_ 4), (0, u "java/lang/Object")] 7

/-- java/lang/Comparable -/
def k3 : Class := { plain "java/lang/Comparable" (some 0) with
  accessFlags := 1537
  interfaces := #[]
  cf := some (fileOf pool3 1 #[] #[] 1537 3 #[] #[])
  fields := #[]
  methods := #[]
  instanceTypes := #[]
  staticTypes := #[]
  resolved := Array.replicate 12 none
  statics := none }

def pool4 : Array CpInfo := pool [(2, .class_ 4), (1, u "java/lang/CharSequence"), (42, .class_ 48), (0, u "java/lang/CharSequence$1CodePointIterator"), (10, .class_ 60), (0, u "java/lang/CharSequence$1CharIterator"), (5, .class_ 67), (0, u "java/lang/Object")] 63

/-- java/lang/CharSequence -/
def k4 : Class := { plain "java/lang/CharSequence" (some 0) with
  accessFlags := 1537
  interfaces := #[]
  cf := some (fileOf pool4 2 #[.nestMembers #[47, 59]] #[] 1537 66 #[] #[])
  fields := #[]
  methods := #[]
  instanceTypes := #[]
  staticTypes := #[]
  resolved := Array.replicate 131 none
  statics := none }

def pool5 : Array CpInfo := pool [(1, .class_ 2), (0, u "java/lang/constant/Constable"), (0, .class_ 4), (0, u "java/lang/Object")] 6

/-- java/lang/constant/Constable -/
def k5 : Class := { plain "java/lang/constant/Constable" (some 0) with
  accessFlags := 1537
  interfaces := #[]
  cf := some (fileOf pool5 1 #[] #[] 1537 3 #[] #[])
  fields := #[]
  methods := #[]
  instanceTypes := #[]
  staticTypes := #[]
  resolved := Array.replicate 11 none
  statics := none }

def pool6 : Array CpInfo := pool [(1, .class_ 2), (0, u "java/lang/constant/ConstantDesc"), (0, .class_ 4), (0, u "java/lang/Object")] 32

/-- java/lang/constant/ConstantDesc -/
def k6 : Class := { plain "java/lang/constant/ConstantDesc" (some 0) with
  accessFlags := 1537
  interfaces := #[]
  cf := some (fileOf pool6 1 #[] #[] 1537 3 #[] #[])
  fields := #[]
  methods := #[]
  instanceTypes := #[]
  staticTypes := #[]
  resolved := Array.replicate 37 none
  statics := none }

def pool7 : Array CpInfo := pool [(1, .methodref 2 3), (0, .class_ 4), (0, .nameAndType 5 6), (0, u "java/lang/Object"), (0, u "<init>"), (0, u "()V"), (2, .fieldref 10 11), (0, .class_ 12), (0, .nameAndType 13 14), (0, u "java/lang/String"), (0, u "value"), (0, u "[B"), (0, .fieldref 10 16), (0, .nameAndType 17 18), (0, u "coder"), (0, u "B"), (2, u "hash"), (0, u "I"), (2, u "hashIsZero"), (0, u "Z"), (11, .fieldref 10 39), (0, .nameAndType 40 26), (0, u "COMPACT_STRINGS"), (13, .methodref 55 56), (0, .class_ 57), (0, .nameAndType 58 59), (0, u "java/util/Arrays"), (0, u "copyOfRange"), (0, u "([BII)[B"), (47, .class_ 109), (1, u "java/lang/StringLatin1"), (32, u "()Z"), (50, .class_ 195), (1, u "java/lang/System"), (16, .methodref 193 213), (0, .nameAndType 214 215), (0, u "arraycopy"), (0, u "(Ljava/lang/Object;ILjava/lang/Object;II)V"), (118, u "()I"), (0, .methodref 10 336), (0, .nameAndType 17 337), (0, u "()B"), (2, u "()[B"), (22, u "([BI)C"), (27, u "(II)V"), (35, u "(I)C"), (61, .methodref 10 490), (0, .nameAndType 5 491), (0, u "(Ljava/lang/AbstractStringBuilder;Ljava/lang/Void;)V"), (0, .methodref 10 493), (0, .nameAndType 494 142), (0, u "isLatin1"), (0, .methodref 107 496), (0, .nameAndType 497 363), (0, u "charAt"), (3, u "checkIndex"), (4, .nameAndType 507 334), (0, u "length"), (24, u "getBytes"), (16, .methodref 550 506), (0, .class_ 551), (0, u "java/lang/AbstractStringBuilder"), (0, .methodref 550 553), (0, .nameAndType 554 340), (0, u "getValue"), (20, .class_ 576), (0, u "java/lang/CharSequence"), (22, u "CASE_INSENSITIVE_ORDER"), (0, u "Ljava/util/Comparator;"), (220, u "([BIB)V"), (225, .methodref 550 493), (5, .fieldref 1054 1055), (0, .class_ 1056), (0, .nameAndType 1057 1058), (0, u "jdk/internal/util/Preconditions"), (0, u "SIOOBE_FORMATTER"), (0, u "Ljava/util/function/BiFunction;"), (0, .methodref 1054 1060), (0, .nameAndType 501 1061), (0, u "(IILjava/util/function/BiFunction;)I"), (39, u "serialPersistentFields"), (0, u "[Ljava/io/ObjectStreamField;"), (0, .class_ 1104), (0, u "java/lang/String$CaseInsensitiveComparator"), (1, .class_ 1107), (0, u "java/io/Serializable"), (0, .class_ 1109), (0, u "java/lang/Comparable"), (0, .class_ 1111), (0, u "java/lang/constant/Constable"), (0, .class_ 1113), (0, u "java/lang/constant/ConstantDesc"), (2, u "serialVersionUID"), (0, u "J"), (3, u "REPL"), (0, u "C"), (2, u "LATIN1"), (1, u "UTF16"), (105, u "(Ljava/lang/StringBuilder;)V")] 217

def k7m0 : Method := { name := "<init>", desc := "()V", sig := { parameters := [], returnType := none }, accessFlags := 1, code := none }
def k7c1 : Code := { maxStack := 3, maxLocals := 2, code := jdk_42_method_53_code, exceptionTable := #[], attributes := #[] }
def k7m1 : Method := { name := "<init>", desc := "(Ljava/lang/StringBuilder;)V", sig := { parameters := [(.object "java/lang/StringBuilder")], returnType := none }, accessFlags := 1, code := some k7c1 }
def k7c2 : Code := { maxStack := 2, maxLocals := 1, code := jdk_42_method_54_code, exceptionTable := #[], attributes := #[] }
def k7m2 : Method := { name := "length", desc := "()I", sig := { parameters := [], returnType := some .int }, accessFlags := 1, code := some k7c2 }
def k7c3 : Code := { maxStack := 2, maxLocals := 2, code := jdk_42_method_56_code, exceptionTable := #[], attributes := #[] }
def k7m3 : Method := { name := "charAt", desc := "(I)C", sig := { parameters := [.int], returnType := some .char }, accessFlags := 1, code := some k7c3 }
def k7c4 : Code := { maxStack := 5, maxLocals := 4, code := jdk_42_method_147_code, exceptionTable := #[], attributes := #[] }
def k7m4 : Method := { name := "getBytes", desc := "([BIB)V", sig := { parameters := [(.array .byte), .int, .byte], returnType := none }, accessFlags := 0, code := some k7c4 }
def k7c5 : Code := { maxStack := 5, maxLocals := 5, code := jdk_42_method_150_code, exceptionTable := #[], attributes := #[] }
def k7m5 : Method := { name := "<init>", desc := "(Ljava/lang/AbstractStringBuilder;Ljava/lang/Void;)V", sig := { parameters := [(.object "java/lang/AbstractStringBuilder"), (.object "java/lang/Void")], returnType := none }, accessFlags := 0, code := some k7c5 }
def k7c6 : Code := { maxStack := 1, maxLocals := 1, code := jdk_42_method_152_code, exceptionTable := #[], attributes := #[] }
def k7m6 : Method := { name := "coder", desc := "()B", sig := { parameters := [], returnType := some .byte }, accessFlags := 0, code := some k7c6 }
def k7c7 : Code := { maxStack := 1, maxLocals := 1, code := jdk_42_method_154_code, exceptionTable := #[], attributes := #[] }
def k7m7 : Method := { name := "isLatin1", desc := "()Z", sig := { parameters := [], returnType := some .boolean }, accessFlags := 0, code := some k7c7 }
def k7c8 : Code := { maxStack := 3, maxLocals := 2, code := jdk_42_method_155_code, exceptionTable := #[], attributes := #[] }
def k7m8 : Method := { name := "checkIndex", desc := "(II)V", sig := { parameters := [.int, .int], returnType := none }, accessFlags := 8, code := some k7c8 }
/-- java/lang/String -/
def k7 : Class := { plain "java/lang/String" (some 0) with
  accessFlags := 49
  interfaces := #[2, 3, 4, 5, 6]
  cf := some (fileOf pool7 10 #[.nestMembers #[1103]] #[{ accessFlags := 1, nameIndex := 5, descriptorIndex := 6, attributes := #[] }, { accessFlags := 1, nameIndex := 5, descriptorIndex := 1233, attributes := #[] }, { accessFlags := 1, nameIndex := 507, descriptorIndex := 334, attributes := #[] }, { accessFlags := 1, nameIndex := 497, descriptorIndex := 427, attributes := #[] }, { accessFlags := 0, nameIndex := 532, descriptorIndex := 821, attributes := #[] }, { accessFlags := 0, nameIndex := 5, descriptorIndex := 491, attributes := #[] }, { accessFlags := 0, nameIndex := 17, descriptorIndex := 337, attributes := #[] }, { accessFlags := 0, nameIndex := 494, descriptorIndex := 142, attributes := #[] }, { accessFlags := 8, nameIndex := 501, descriptorIndex := 391, attributes := #[] }] 49 2 #[1106, 1108, 575, 1110, 1112] #[{ accessFlags := 18, nameIndex := 13, descriptorIndex := 14, attributes := #[] }, { accessFlags := 18, nameIndex := 17, descriptorIndex := 18, attributes := #[] }, { accessFlags := 2, nameIndex := 21, descriptorIndex := 22, attributes := #[] }, { accessFlags := 2, nameIndex := 25, descriptorIndex := 26, attributes := #[] }, { accessFlags := 26, nameIndex := 1116, descriptorIndex := 1117, attributes := #[] }, { accessFlags := 24, nameIndex := 40, descriptorIndex := 26, attributes := #[] }, { accessFlags := 26, nameIndex := 1101, descriptorIndex := 1102, attributes := #[] }, { accessFlags := 26, nameIndex := 1121, descriptorIndex := 1122, attributes := #[] }, { accessFlags := 25, nameIndex := 599, descriptorIndex := 600, attributes := #[] }, { accessFlags := 24, nameIndex := 1125, descriptorIndex := 18, attributes := #[] }, { accessFlags := 24, nameIndex := 1127, descriptorIndex := 18, attributes := #[] }])
  fields := #[{ name := "value", type := (.array .byte), accessFlags := 18, slot := 0, constantValue := 0 }, { name := "coder", type := .byte, accessFlags := 18, slot := 1, constantValue := 0 }, { name := "hash", type := .int, accessFlags := 2, slot := 2, constantValue := 0 }, { name := "hashIsZero", type := .boolean, accessFlags := 2, slot := 3, constantValue := 0 }, { name := "serialVersionUID", type := .long, accessFlags := 26, slot := 0, constantValue := 0 }, { name := "COMPACT_STRINGS", type := .boolean, accessFlags := 24, slot := 1, constantValue := 0 }, { name := "serialPersistentFields", type := (.array (.object "java/io/ObjectStreamField")), accessFlags := 26, slot := 2, constantValue := 0 }, { name := "REPL", type := .char, accessFlags := 26, slot := 3, constantValue := 0 }, { name := "CASE_INSENSITIVE_ORDER", type := (.object "java/util/Comparator"), accessFlags := 25, slot := 4, constantValue := 0 }, { name := "LATIN1", type := .byte, accessFlags := 24, slot := 5, constantValue := 0 }, { name := "UTF16", type := .byte, accessFlags := 24, slot := 6, constantValue := 0 }]
  methods := #[k7m0, k7m1, k7m2, k7m3, k7m4, k7m5, k7m6, k7m7, k7m8]
  instanceTypes := #[(.array .byte), .byte, .int, .boolean]
  staticTypes := #[.long, .boolean, (.array (.object "java/io/ObjectStreamField")), .char, (.object "java/util/Comparator"), .byte, .byte]
  resolved := Array.replicate 1451 none
  statics := some 0 }

def pool8 : Array CpInfo := pool [(2, .class_ 4), (0, .nameAndType 5 6), (0, u "java/lang/Object"), (0, u "<init>"), (0, u "()V"), (1, .class_ 10), (1, u "com/example/oplim/oplim/Keys"), (0, u "NAME"), (0, u "Ljava/util/regex/Pattern;"), (14, .class_ 28), (0, u "java/lang/StringBuilder"), (0, .methodref 27 3), (2, .methodref 27 33), (0, .nameAndType 34 35), (0, u "append"), (0, u "(Ljava/lang/String;)Ljava/lang/StringBuilder;"), (0, .methodref 27 37), (0, .nameAndType 38 39), (0, u "toString"), (0, u "()Ljava/lang/String;"), (40, .fieldref 8 81), (0, .nameAndType 82 83), (0, u "UNIT_MILLIS"), (0, u "[J"), (0, .methodref 27 85), (0, .nameAndType 34 86), (0, u "(J)Ljava/lang/StringBuilder;"), (0, .fieldref 8 88), (0, .nameAndType 89 90), (0, u "UNIT_NAMES"), (0, u "[Ljava/lang/String;"), (25, u "MAX_NAME_LENGTH"), (0, u "I"), (2, u "MAX_KEY_BYTES"), (8, u "period"), (0, u "(J)Ljava/lang/String;")] 3

def k8m0 : Method := { name := "<init>", desc := "()V", sig := { parameters := [], returnType := none }, accessFlags := 2, code := none }
def k8c1 : Code := { maxStack := 5, maxLocals := 3, code := prog_4_method_4_code, exceptionTable := #[], attributes := #[] }
def k8m1 : Method := { name := "period", desc := "(J)Ljava/lang/String;", sig := { parameters := [.long], returnType := some (.object "java/lang/String") }, accessFlags := 8, code := some k8c1 }
/-- com/example/oplim/oplim/Keys -/
def k8 : Class := { plain "com/example/oplim/oplim/Keys" (some 0) with
  accessFlags := 32
  interfaces := #[]
  cf := some (fileOf pool8 8 #[] #[{ accessFlags := 2, nameIndex := 5, descriptorIndex := 6, attributes := #[] }, { accessFlags := 8, nameIndex := 129, descriptorIndex := 130, attributes := #[] }] 32 2 #[] #[{ accessFlags := 26, nameIndex := 116, descriptorIndex := 117, attributes := #[] }, { accessFlags := 26, nameIndex := 120, descriptorIndex := 117, attributes := #[] }, { accessFlags := 26, nameIndex := 11, descriptorIndex := 12, attributes := #[] }, { accessFlags := 26, nameIndex := 82, descriptorIndex := 83, attributes := #[] }, { accessFlags := 26, nameIndex := 89, descriptorIndex := 90, attributes := #[] }])
  fields := #[{ name := "MAX_NAME_LENGTH", type := .int, accessFlags := 26, slot := 0, constantValue := 0 }, { name := "MAX_KEY_BYTES", type := .int, accessFlags := 26, slot := 1, constantValue := 0 }, { name := "NAME", type := (.object "java/util/regex/Pattern"), accessFlags := 26, slot := 2, constantValue := 0 }, { name := "UNIT_MILLIS", type := (.array .long), accessFlags := 26, slot := 3, constantValue := 0 }, { name := "UNIT_NAMES", type := (.array (.object "java/lang/String")), accessFlags := 26, slot := 4, constantValue := 0 }]
  methods := #[k8m0, k8m1]
  instanceTypes := #[]
  staticTypes := #[.int, .int, (.object "java/util/regex/Pattern"), (.array .long), (.array (.object "java/lang/String"))]
  resolved := Array.replicate 134 none
  statics := some 1 }

def pool9 : Array CpInfo := pool [(1, .class_ 2), (0, u "java/lang/Appendable"), (0, .class_ 4), (0, u "java/lang/Object")] 9

/-- java/lang/Appendable -/
def k9 : Class := { plain "java/lang/Appendable" (some 0) with
  accessFlags := 1537
  interfaces := #[]
  cf := some (fileOf pool9 1 #[] #[] 1537 3 #[] #[])
  fields := #[]
  methods := #[]
  instanceTypes := #[]
  staticTypes := #[]
  resolved := Array.replicate 14 none
  statics := none }

def pool10 : Array CpInfo := pool [(1, .class_ 2), (0, u "java/lang/String"), (0, .methodref 4 5), (0, .class_ 6), (0, .nameAndType 7 8), (0, u "java/lang/Object"), (0, u "<init>"), (0, u "()V"), (1, .class_ 12), (1, u "java/lang/AbstractStringBuilder"), (0, u "EMPTYVALUE"), (0, u "[B"), (0, .fieldref 10 16), (0, .nameAndType 17 14), (0, u "value"), (0, .fieldref 1 19), (0, .nameAndType 20 21), (0, u "COMPACT_STRINGS"), (0, u "Z"), (0, .fieldref 10 23), (0, .nameAndType 24 25), (0, u "coder"), (0, u "B"), (6, .methodref 1 33), (0, .nameAndType 34 35), (0, u "length"), (0, u "()I"), (3, .integer 2147483647), (0, .methodref 1 41), (0, .nameAndType 24 42), (0, u "()B"), (2, u "append"), (0, u "(Ljava/lang/String;)Ljava/lang/AbstractStringBuilder;"), (1, .class_ 49), (0, u "java/lang/CharSequence"), (19, u "(Ljava/lang/String;)V"), (5, u "maybeLatin1"), (3, .fieldref 10 80), (0, .nameAndType 81 82), (0, u "count"), (0, u "I"), (0, .methodref 10 84), (0, .nameAndType 85 86), (0, u "isLatin1"), (0, u "()Z"), (13, .methodref 10 101), (0, .nameAndType 102 103), (0, u "ensureCapacityInternal"), (0, u "(I)V"), (0, .methodref 10 105), (0, .nameAndType 106 107), (0, u "newCapacity"), (0, u "(I)I"), (0, .methodref 109 110), (0, .class_ 111), (0, .nameAndType 112 113), (0, u "java/util/Arrays"), (0, u "copyOf"), (0, u "([BI)[B"), (0, .methodref 115 116), (0, .class_ 117), (0, .nameAndType 118 119), (0, u "jdk/internal/util/ArraysSupport"), (0, u "newLength"), (0, u "(III)I"), (68, u "getChars"), (19, .methodref 10 209), (0, .nameAndType 210 211), (0, u "putStringAt"), (0, u "(ILjava/lang/String;)V"), (5, u "inflateIfNeededFor"), (2, .nameAndType 221 222), (0, u "getBytes"), (0, u "([BIB)V"), (24, u "stringSize"), (6, .methodref 255 256), (0, .class_ 257), (0, .nameAndType 247 258), (0, u "java/lang/Long"), (0, u "(J)I"), (0, .methodref 255 260), (0, .nameAndType 188 261), (0, u "(JI[B)I"), (135, .methodref 10 398), (0, .nameAndType 217 69), (0, .methodref 1 220), (3, u "()[B"), (40, .class_ 445), (0, u "java/lang/Appendable"), (67, u "(J)Ljava/lang/AbstractStringBuilder;"), (38, u "getValue")] 56

def k10m0 : Method := { name := "<init>", desc := "()V", sig := { parameters := [], returnType := none }, accessFlags := 0, code := none }
def k10c1 : Code := { maxStack := 2, maxLocals := 2, code := jdk_68_method_2_code, exceptionTable := #[], attributes := #[] }
def k10m1 : Method := { name := "<init>", desc := "(I)V", sig := { parameters := [.int], returnType := none }, accessFlags := 0, code := some k10c1 }
def k10c2 : Code := { maxStack := 1, maxLocals := 1, code := jdk_68_method_6_code, exceptionTable := #[], attributes := #[] }
def k10m2 : Method := { name := "length", desc := "()I", sig := { parameters := [], returnType := some .int }, accessFlags := 1, code := some k10c2 }
def k10c3 : Code := { maxStack := 4, maxLocals := 3, code := jdk_68_method_9_code, exceptionTable := #[], attributes := #[] }
def k10m3 : Method := { name := "ensureCapacityInternal", desc := "(I)V", sig := { parameters := [.int], returnType := none }, accessFlags := 2, code := some k10c3 }
def k10c4 : Code := { maxStack := 5, maxLocals := 6, code := jdk_68_method_10_code, exceptionTable := #[], attributes := #[] }
def k10m4 : Method := { name := "newCapacity", desc := "(I)I", sig := { parameters := [.int], returnType := some .int }, accessFlags := 2, code := some k10c4 }
def k10c5 : Code := { maxStack := 3, maxLocals := 3, code := jdk_68_method_22_code, exceptionTable := #[], attributes := #[] }
def k10m5 : Method := { name := "append", desc := "(Ljava/lang/String;)Ljava/lang/AbstractStringBuilder;", sig := { parameters := [(.object "java/lang/String")], returnType := some (.object "java/lang/AbstractStringBuilder") }, accessFlags := 1, code := some k10c5 }
def k10c6 : Code := { maxStack := 5, maxLocals := 5, code := jdk_68_method_33_code, exceptionTable := #[], attributes := #[] }
def k10m6 : Method := { name := "append", desc := "(J)Ljava/lang/AbstractStringBuilder;", sig := { parameters := [.long], returnType := some (.object "java/lang/AbstractStringBuilder") }, accessFlags := 1, code := some k10c6 }
def k10c7 : Code := { maxStack := 1, maxLocals := 1, code := jdk_68_method_64_code, exceptionTable := #[], attributes := #[] }
def k10m7 : Method := { name := "getValue", desc := "()[B", sig := { parameters := [], returnType := some (.array .byte) }, accessFlags := 16, code := some k10c7 }
def k10c8 : Code := { maxStack := 1, maxLocals := 1, code := jdk_68_method_68_code, exceptionTable := #[], attributes := #[] }
def k10m8 : Method := { name := "isLatin1", desc := "()Z", sig := { parameters := [], returnType := some .boolean }, accessFlags := 16, code := some k10c8 }
def k10c9 : Code := { maxStack := 2, maxLocals := 2, code := jdk_68_method_71_code, exceptionTable := #[], attributes := #[] }
def k10m9 : Method := { name := "inflateIfNeededFor", desc := "(Ljava/lang/String;)V", sig := { parameters := [(.object "java/lang/String")], returnType := none }, accessFlags := 2, code := some k10c9 }
def k10c10 : Code := { maxStack := 4, maxLocals := 3, code := jdk_68_method_73_code, exceptionTable := #[], attributes := #[] }
def k10m10 : Method := { name := "putStringAt", desc := "(ILjava/lang/String;)V", sig := { parameters := [.int, (.object "java/lang/String")], returnType := none }, accessFlags := 2, code := some k10c10 }
/-- java/lang/AbstractStringBuilder -/
def k10 : Class := { plain "java/lang/AbstractStringBuilder" (some 0) with
  accessFlags := 1056
  interfaces := #[9, 4]
  cf := some (fileOf pool10 10 #[] #[{ accessFlags := 0, nameIndex := 7, descriptorIndex := 8, attributes := #[] }, { accessFlags := 0, nameIndex := 7, descriptorIndex := 103, attributes := #[] }, { accessFlags := 1, nameIndex := 34, descriptorIndex := 35, attributes := #[] }, { accessFlags := 2, nameIndex := 102, descriptorIndex := 103, attributes := #[] }, { accessFlags := 2, nameIndex := 106, descriptorIndex := 107, attributes := #[] }, { accessFlags := 1, nameIndex := 45, descriptorIndex := 46, attributes := #[] }, { accessFlags := 1, nameIndex := 45, descriptorIndex := 513, attributes := #[] }, { accessFlags := 16, nameIndex := 552, descriptorIndex := 403, attributes := #[] }, { accessFlags := 16, nameIndex := 85, descriptorIndex := 86, attributes := #[] }, { accessFlags := 2, nameIndex := 217, descriptorIndex := 69, attributes := #[] }, { accessFlags := 2, nameIndex := 210, descriptorIndex := 211, attributes := #[] }] 1056 4 #[444, 48] #[{ accessFlags := 0, nameIndex := 17, descriptorIndex := 14, attributes := #[] }, { accessFlags := 0, nameIndex := 24, descriptorIndex := 25, attributes := #[] }, { accessFlags := 0, nameIndex := 75, descriptorIndex := 21, attributes := #[] }, { accessFlags := 0, nameIndex := 81, descriptorIndex := 82, attributes := #[] }, { accessFlags := 26, nameIndex := 13, descriptorIndex := 14, attributes := #[] }])
  fields := #[{ name := "value", type := (.array .byte), accessFlags := 0, slot := 0, constantValue := 0 }, { name := "coder", type := .byte, accessFlags := 0, slot := 1, constantValue := 0 }, { name := "maybeLatin1", type := .boolean, accessFlags := 0, slot := 2, constantValue := 0 }, { name := "count", type := .int, accessFlags := 0, slot := 3, constantValue := 0 }, { name := "EMPTYVALUE", type := (.array .byte), accessFlags := 26, slot := 0, constantValue := 0 }]
  methods := #[k10m0, k10m1, k10m2, k10m3, k10m4, k10m5, k10m6, k10m7, k10m8, k10m9, k10m10]
  instanceTypes := #[(.array .byte), .byte, .boolean, .int]
  staticTypes := #[(.array .byte)]
  resolved := Array.replicate 609 none
  statics := none }

def pool11 : Array CpInfo := pool [(1, .methodref 2 3), (0, .class_ 4), (0, .nameAndType 5 6), (0, u "java/lang/AbstractStringBuilder"), (0, u "<init>"), (0, u "(I)V"), (11, .class_ 20), (1, u "java/lang/String"), (3, .class_ 26), (1, u "java/lang/StringBuilder"), (0, u "append"), (0, u "(Ljava/lang/String;)Ljava/lang/StringBuilder;"), (0, .methodref 2 30), (0, .nameAndType 27 31), (0, u "(Ljava/lang/String;)Ljava/lang/AbstractStringBuilder;"), (24, .methodref 2 57), (0, .nameAndType 27 58), (0, u "(J)Ljava/lang/AbstractStringBuilder;"), (78, .methodref 18 138), (0, .nameAndType 5 139), (0, u "(Ljava/lang/StringBuilder;)V"), (5, u "()V"), (10, u "()I"), (124, u "(J)Ljava/lang/StringBuilder;"), (61, .methodref 2 344), (0, .nameAndType 345 156), (0, u "length"), (3, .class_ 350), (0, u "java/lang/Appendable"), (0, .class_ 352), (0, u "java/io/Serializable"), (0, .class_ 354), (0, u "java/lang/Comparable"), (0, .class_ 356), (0, u "java/lang/CharSequence"), (0, u "serialVersionUID"), (0, u "J"), (40, u "toString"), (0, u "()Ljava/lang/String;")] 21

def k11c0 : Code := { maxStack := 2, maxLocals := 1, code := jdk_67_method_1_code, exceptionTable := #[], attributes := #[] }
def k11m0 : Method := { name := "<init>", desc := "()V", sig := { parameters := [], returnType := none }, accessFlags := 1, code := some k11c0 }
def k11c1 : Code := { maxStack := 2, maxLocals := 2, code := jdk_67_method_7_code, exceptionTable := #[], attributes := #[] }
def k11m1 : Method := { name := "append", desc := "(Ljava/lang/String;)Ljava/lang/StringBuilder;", sig := { parameters := [(.object "java/lang/String")], returnType := some (.object "java/lang/StringBuilder") }, accessFlags := 1, code := some k11c1 }
def k11c2 : Code := { maxStack := 3, maxLocals := 3, code := jdk_67_method_16_code, exceptionTable := #[], attributes := #[] }
def k11m2 : Method := { name := "append", desc := "(J)Ljava/lang/StringBuilder;", sig := { parameters := [.long], returnType := some (.object "java/lang/StringBuilder") }, accessFlags := 1, code := some k11c2 }
def k11c3 : Code := { maxStack := 3, maxLocals := 1, code := jdk_67_method_42_code, exceptionTable := #[], attributes := #[] }
def k11m3 : Method := { name := "toString", desc := "()Ljava/lang/String;", sig := { parameters := [], returnType := some (.object "java/lang/String") }, accessFlags := 1, code := some k11c3 }
def k11c4 : Code := { maxStack := 1, maxLocals := 1, code := jdk_67_method_93_code, exceptionTable := #[], attributes := #[] }
def k11m4 : Method := { name := "length", desc := "()I", sig := { parameters := [], returnType := some .int }, accessFlags := 4161, code := some k11c4 }
/-- java/lang/StringBuilder -/
def k11 : Class := { plain "java/lang/StringBuilder" (some 10) with
  accessFlags := 49
  interfaces := #[9, 2, 3, 4]
  cf := some (fileOf pool11 24 #[] #[{ accessFlags := 1, nameIndex := 5, descriptorIndex := 145, attributes := #[] }, { accessFlags := 1, nameIndex := 27, descriptorIndex := 28, attributes := #[] }, { accessFlags := 1, nameIndex := 27, descriptorIndex := 281, attributes := #[] }, { accessFlags := 1, nameIndex := 399, descriptorIndex := 400, attributes := #[] }, { accessFlags := 4161, nameIndex := 345, descriptorIndex := 156, attributes := #[] }] 49 2 #[349, 351, 353, 355] #[{ accessFlags := 24, nameIndex := 357, descriptorIndex := 358, attributes := #[] }])
  fields := #[{ name := "serialVersionUID", type := .long, accessFlags := 24, slot := 0, constantValue := 0 }]
  methods := #[k11m0, k11m1, k11m2, k11m3, k11m4]
  instanceTypes := #[(.array .byte), .byte, .boolean, .int]
  staticTypes := #[.long]
  resolved := Array.replicate 422 none
  statics := none }

def pool12 : Array CpInfo := pool [(2, .class_ 4), (1, u "java/lang/Object"), (0, u "<init>"), (0, u "()V"), (1, .class_ 10), (1, u "java/lang/Number"), (2, .class_ 14), (0, u "java/io/Serializable"), (0, u "serialVersionUID"), (0, u "J")] 20

def k12m0 : Method := { name := "<init>", desc := "()V", sig := { parameters := [], returnType := none }, accessFlags := 1, code := none }
/-- java/lang/Number -/
def k12 : Class := { plain "java/lang/Number" (some 0) with
  accessFlags := 1057
  interfaces := #[2]
  cf := some (fileOf pool12 8 #[] #[{ accessFlags := 1, nameIndex := 5, descriptorIndex := 6, attributes := #[] }] 1057 2 #[13] #[{ accessFlags := 26, nameIndex := 15, descriptorIndex := 16, attributes := #[] }])
  fields := #[{ name := "serialVersionUID", type := .long, accessFlags := 26, slot := 0, constantValue := 0 }]
  methods := #[k12m0]
  instanceTypes := #[]
  staticTypes := #[.long]
  resolved := Array.replicate 37 none
  statics := none }

def pool13 : Array CpInfo := pool [(1, .class_ 2), (0, u "java/lang/Long"), (15, .class_ 20), (1, u "java/lang/Integer"), (32, .long 10), (47, u "(J)I"), (18, u "stringSize"), (2, u "getChars"), (0, u "(JI[B)I"), (4, .long 18446744071562067968), (1, .long 100), (1, .fieldref 18 134), (0, .nameAndType 135 136), (0, u "DigitOnes"), (0, u "[B"), (0, .fieldref 18 138), (0, .nameAndType 139 136), (0, u "DigitTens"), (0, .long 18446744073709551606), (94, .class_ 237), (1, u "java/lang/Long$LongCache"), (33, .class_ 272), (0, u "java/lang/Number"), (2, u "value"), (0, u "J"), (84, u "TYPE"), (0, u "Ljava/lang/Class;"), (0, .class_ 364), (0, u "java/lang/Comparable"), (0, .class_ 366), (0, u "java/lang/constant/Constable"), (0, .class_ 368), (0, u "java/lang/constant/ConstantDesc"), (0, u "MIN_VALUE"), (1, u "MAX_VALUE"), (4, u "SIZE"), (0, u "I"), (1, u "BYTES"), (1, u "serialVersionUID")] 142

def k13c0 : Code := { maxStack := 4, maxLocals := 11, code := jdk_35_method_14_code, exceptionTable := #[], attributes := #[] }
def k13m0 : Method := { name := "getChars", desc := "(JI[B)I", sig := { parameters := [.long, .int, (.array .byte)], returnType := some .int }, accessFlags := 8, code := some k13c0 }
def k13c1 : Code := { maxStack := 4, maxLocals := 6, code := jdk_35_method_15_code, exceptionTable := #[], attributes := #[] }
def k13m1 : Method := { name := "stringSize", desc := "(J)I", sig := { parameters := [.long], returnType := some .int }, accessFlags := 8, code := some k13c1 }
/-- java/lang/Long -/
def k13 : Class := { plain "java/lang/Long" (some 12) with
  accessFlags := 49
  interfaces := #[3, 5, 6]
  cf := some (fileOf pool13 1 #[.nestMembers #[235]] #[{ accessFlags := 8, nameIndex := 123, descriptorIndex := 124, attributes := #[] }, { accessFlags := 8, nameIndex := 120, descriptorIndex := 101, attributes := #[] }] 49 271 #[363, 365, 367] #[{ accessFlags := 25, nameIndex := 369, descriptorIndex := 276, attributes := #[] }, { accessFlags := 25, nameIndex := 371, descriptorIndex := 276, attributes := #[] }, { accessFlags := 25, nameIndex := 361, descriptorIndex := 362, attributes := #[] }, { accessFlags := 18, nameIndex := 275, descriptorIndex := 276, attributes := #[] }, { accessFlags := 25, nameIndex := 376, descriptorIndex := 377, attributes := #[] }, { accessFlags := 25, nameIndex := 379, descriptorIndex := 377, attributes := #[] }, { accessFlags := 26, nameIndex := 381, descriptorIndex := 276, attributes := #[] }])
  fields := #[{ name := "MIN_VALUE", type := .long, accessFlags := 25, slot := 0, constantValue := 0 }, { name := "MAX_VALUE", type := .long, accessFlags := 25, slot := 1, constantValue := 0 }, { name := "TYPE", type := (.object "java/lang/Class"), accessFlags := 25, slot := 2, constantValue := 0 }, { name := "value", type := .long, accessFlags := 18, slot := 0, constantValue := 0 }, { name := "SIZE", type := .int, accessFlags := 25, slot := 3, constantValue := 0 }, { name := "BYTES", type := .int, accessFlags := 25, slot := 4, constantValue := 0 }, { name := "serialVersionUID", type := .long, accessFlags := 26, slot := 5, constantValue := 0 }]
  methods := #[k13m0, k13m1]
  instanceTypes := #[.long]
  staticTypes := #[.long, .long, (.object "java/lang/Class"), .int, .int, .long]
  resolved := Array.replicate 524 none
  statics := none }

def pool14 : Array CpInfo := pool [(1, .class_ 2), (0, u "java/lang/Integer"), (16, u "digits"), (0, u "[C"), (64, u "DigitOnes"), (0, u "[B"), (2, u "DigitTens"), (99, .class_ 190), (0, u "java/lang/Integer$IntegerCache"), (3, u "I"), (8, .class_ 204), (0, u "java/lang/Number"), (2, u "value"), (94, u "TYPE"), (0, u "Ljava/lang/Class;"), (0, .class_ 305), (0, u "java/lang/Comparable"), (0, .class_ 307), (0, u "java/lang/constant/Constable"), (0, .class_ 309), (0, u "java/lang/constant/ConstantDesc"), (0, u "MIN_VALUE"), (1, u "MAX_VALUE"), (3, u "SIZE"), (1, u "BYTES"), (1, u "serialVersionUID"), (0, u "J")] 131

/-- java/lang/Integer -/
def k14 : Class := { plain "java/lang/Integer" (some 12) with
  accessFlags := 49
  interfaces := #[3, 5, 6]
  cf := some (fileOf pool14 1 #[.nestMembers #[189]] #[] 49 203 #[304, 306, 308] #[{ accessFlags := 25, nameIndex := 310, descriptorIndex := 194, attributes := #[] }, { accessFlags := 25, nameIndex := 312, descriptorIndex := 194, attributes := #[] }, { accessFlags := 25, nameIndex := 302, descriptorIndex := 303, attributes := #[] }, { accessFlags := 24, nameIndex := 19, descriptorIndex := 20, attributes := #[] }, { accessFlags := 24, nameIndex := 89, descriptorIndex := 86, attributes := #[] }, { accessFlags := 24, nameIndex := 85, descriptorIndex := 86, attributes := #[] }, { accessFlags := 18, nameIndex := 207, descriptorIndex := 194, attributes := #[] }, { accessFlags := 25, nameIndex := 316, descriptorIndex := 194, attributes := #[] }, { accessFlags := 25, nameIndex := 318, descriptorIndex := 194, attributes := #[] }, { accessFlags := 26, nameIndex := 320, descriptorIndex := 321, attributes := #[] }])
  fields := #[{ name := "MIN_VALUE", type := .int, accessFlags := 25, slot := 0, constantValue := 0 }, { name := "MAX_VALUE", type := .int, accessFlags := 25, slot := 1, constantValue := 0 }, { name := "TYPE", type := (.object "java/lang/Class"), accessFlags := 25, slot := 2, constantValue := 0 }, { name := "digits", type := (.array .char), accessFlags := 24, slot := 3, constantValue := 0 }, { name := "DigitTens", type := (.array .byte), accessFlags := 24, slot := 4, constantValue := 0 }, { name := "DigitOnes", type := (.array .byte), accessFlags := 24, slot := 5, constantValue := 0 }, { name := "value", type := .int, accessFlags := 18, slot := 0, constantValue := 0 }, { name := "SIZE", type := .int, accessFlags := 25, slot := 6, constantValue := 0 }, { name := "BYTES", type := .int, accessFlags := 25, slot := 7, constantValue := 0 }, { name := "serialVersionUID", type := .long, accessFlags := 26, slot := 8, constantValue := 0 }]
  methods := #[]
  instanceTypes := #[.int]
  staticTypes := #[.int, .int, (.object "java/lang/Class"), (.array .char), (.array .byte), (.array .byte), .int, .int, .long]
  resolved := Array.replicate 453 none
  statics := some 2 }

def pool15 : Array CpInfo := pool [(2, .class_ 4), (1, u "java/lang/Object"), (0, u "<init>"), (0, u "()V"), (1, .class_ 10), (1, u "java/lang/System"), (0, u "allowSecurityManager"), (0, u "I"), (16, u "cons"), (0, u "Ljava/io/Console;"), (77, .class_ 110), (1, u "java/lang/System$CallersHolder"), (43, u "initialErrStream"), (0, u "Ljava/io/PrintStream;"), (19, u "security"), (0, u "Ljava/lang/SecurityManager;"), (31, .class_ 209), (0, u "java/lang/System$1"), (7, u "props"), (0, u "Ljava/util/Properties;"), (2, u "lineSeparator"), (0, u "Ljava/lang/String;"), (96, .class_ 321), (1, u "java/lang/System$LoggerFinder"), (5, .class_ 328), (0, u "java/lang/System$Logger"), (67, u "err"), (2, u "out"), (91, u "notSupportedJnuEncoding"), (15, u "in"), (17, u "initialIn"), (0, u "Ljava/io/InputStream;"), (35, u "bootLayer"), (0, u "Ljava/lang/ModuleLayer;"), (99, .class_ 664), (0, u "java/lang/System$2"), (9, u "NEVER"), (2, u "MAYBE"), (49, u "arraycopy"), (0, u "(Ljava/lang/Object;ILjava/lang/Object;II)V"), (72, .class_ 802), (0, u "java/lang/System$Logger$Level")] 31

def k15m0 : Method := { name := "<init>", desc := "()V", sig := { parameters := [], returnType := none }, accessFlags := 2, code := none }
def k15m1 : Method := { name := "arraycopy", desc := "(Ljava/lang/Object;ILjava/lang/Object;II)V", sig := { parameters := [(.object "java/lang/Object"), .int, (.object "java/lang/Object"), .int, .int], returnType := none }, accessFlags := 265, code := none }
/-- java/lang/System -/
def k15 : Class := { plain "java/lang/System" (some 0) with
  accessFlags := 49
  interfaces := #[]
  cf := some (fileOf pool15 8 #[.nestMembers #[319, 327, 801, 108, 663, 208]] #[{ accessFlags := 2, nameIndex := 5, descriptorIndex := 6, attributes := #[] }, { accessFlags := 265, nameIndex := 727, descriptorIndex := 728, attributes := #[] }] 49 2 #[] #[{ accessFlags := 25, nameIndex := 507, descriptorIndex := 526, attributes := #[] }, { accessFlags := 25, nameIndex := 399, descriptorIndex := 155, attributes := #[] }, { accessFlags := 25, nameIndex := 396, descriptorIndex := 155, attributes := #[] }, { accessFlags := 10, nameIndex := 525, descriptorIndex := 526, attributes := #[] }, { accessFlags := 26, nameIndex := 674, descriptorIndex := 12, attributes := #[] }, { accessFlags := 26, nameIndex := 677, descriptorIndex := 12, attributes := #[] }, { accessFlags := 10, nameIndex := 11, descriptorIndex := 12, attributes := #[] }, { accessFlags := 74, nameIndex := 175, descriptorIndex := 176, attributes := #[] }, { accessFlags := 10, nameIndex := 491, descriptorIndex := 222, attributes := #[] }, { accessFlags := 74, nameIndex := 29, descriptorIndex := 30, attributes := #[] }, { accessFlags := 74, nameIndex := 154, descriptorIndex := 155, attributes := #[] }, { accessFlags := 10, nameIndex := 217, descriptorIndex := 218, attributes := #[] }, { accessFlags := 10, nameIndex := 221, descriptorIndex := 222, attributes := #[] }, { accessFlags := 8, nameIndex := 562, descriptorIndex := 563, attributes := #[] }])
  fields := #[{ name := "in", type := (.object "java/io/InputStream"), accessFlags := 25, slot := 0, constantValue := 0 }, { name := "out", type := (.object "java/io/PrintStream"), accessFlags := 25, slot := 1, constantValue := 0 }, { name := "err", type := (.object "java/io/PrintStream"), accessFlags := 25, slot := 2, constantValue := 0 }, { name := "initialIn", type := (.object "java/io/InputStream"), accessFlags := 10, slot := 3, constantValue := 0 }, { name := "NEVER", type := .int, accessFlags := 26, slot := 4, constantValue := 0 }, { name := "MAYBE", type := .int, accessFlags := 26, slot := 5, constantValue := 0 }, { name := "allowSecurityManager", type := .int, accessFlags := 10, slot := 6, constantValue := 0 }, { name := "security", type := (.object "java/lang/SecurityManager"), accessFlags := 74, slot := 7, constantValue := 0 }, { name := "notSupportedJnuEncoding", type := (.object "java/lang/String"), accessFlags := 10, slot := 8, constantValue := 0 }, { name := "cons", type := (.object "java/io/Console"), accessFlags := 74, slot := 9, constantValue := 0 }, { name := "initialErrStream", type := (.object "java/io/PrintStream"), accessFlags := 74, slot := 10, constantValue := 0 }, { name := "props", type := (.object "java/util/Properties"), accessFlags := 10, slot := 11, constantValue := 0 }, { name := "lineSeparator", type := (.object "java/lang/String"), accessFlags := 10, slot := 12, constantValue := 0 }, { name := "bootLayer", type := (.object "java/lang/ModuleLayer"), accessFlags := 8, slot := 13, constantValue := 0 }]
  methods := #[k15m0, k15m1]
  instanceTypes := #[]
  staticTypes := #[(.object "java/io/InputStream"), (.object "java/io/PrintStream"), (.object "java/io/PrintStream"), (.object "java/io/InputStream"), .int, .int, .int, (.object "java/lang/SecurityManager"), (.object "java/lang/String"), (.object "java/io/Console"), (.object "java/io/PrintStream"), (.object "java/util/Properties"), (.object "java/lang/String"), (.object "java/lang/ModuleLayer")]
  resolved := Array.replicate 834 none
  statics := none }

def pool16 : Array CpInfo := pool [(2, .class_ 4), (1, u "java/lang/Object"), (0, u "<init>"), (0, u "()V"), (7, .class_ 16), (1, u "java/util/Arrays"), (57, .class_ 76), (1, u "java/util/Arrays$NaturalOrder"), (32, u "()Ljava/lang/Object;"), (3, .class_ 115), (1, u "java/util/Arrays$LegacyMergeSort"), (1, u "Z"), (10, .nameAndType 129 109), (0, u "clone"), (9, u "copyOfRange"), (10, .methodref 151 152), (0, .class_ 153), (0, .nameAndType 154 155), (0, u "java/lang/System"), (0, u "arraycopy"), (0, u "(Ljava/lang/Object;ILjava/lang/Object;II)V"), (146, u "copyOf"), (1, .methodref 305 306), (0, .class_ 307), (0, .nameAndType 308 309), (0, u "java/lang/Math"), (0, u "min"), (0, u "(II)I"), (0, .methodref 311 128), (0, .class_ 312), (0, u "[B"), (26, .methodref 14 340), (0, .nameAndType 341 342), (0, u "copyOfRangeByte"), (0, u "([BII)[B"), (0, .methodref 14 344), (0, .nameAndType 345 346), (0, u "checkLength"), (0, u "(II)V"), (28, .class_ 376), (0, u "java/util/Arrays$ArrayList"), (68, u "$assertionsDisabled"), (269, u "MIN_ARRAY_SORT_GRAN"), (0, u "I"), (2, u "INSERTIONSORT_THRESHOLD"), (149, u "([BI)[B"), (105, .class_ 976), (0, u "java/util/Arrays$ArrayItr")] 52

def k16m0 : Method := { name := "<init>", desc := "()V", sig := { parameters := [], returnType := none }, accessFlags := 2, code := none }
def k16c1 : Code := { maxStack := 6, maxLocals := 3, code := jdk_65_method_121_code, exceptionTable := #[], attributes := #[] }
def k16m1 : Method := { name := "copyOf", desc := "([BI)[B", sig := { parameters := [(.array .byte), .int], returnType := some (.array .byte) }, accessFlags := 9, code := some k16c1 }
def k16c2 : Code := { maxStack := 4, maxLocals := 2, code := jdk_65_method_131_code, exceptionTable := #[], attributes := #[] }
def k16m2 : Method := { name := "checkLength", desc := "(II)V", sig := { parameters := [.int, .int], returnType := none }, accessFlags := 10, code := some k16c2 }
def k16c3 : Code := { maxStack := 3, maxLocals := 3, code := jdk_65_method_132_code, exceptionTable := #[], attributes := #[] }
def k16m3 : Method := { name := "copyOfRange", desc := "([BII)[B", sig := { parameters := [(.array .byte), .int, .int], returnType := some (.array .byte) }, accessFlags := 9, code := some k16c3 }
def k16c4 : Code := { maxStack := 6, maxLocals := 5, code := jdk_65_method_133_code, exceptionTable := #[], attributes := #[] }
def k16m4 : Method := { name := "copyOfRangeByte", desc := "([BII)[B", sig := { parameters := [(.array .byte), .int, .int], returnType := some (.array .byte) }, accessFlags := 10, code := some k16c4 }
/-- java/util/Arrays -/
def k16 : Class := { plain "java/util/Arrays" (some 0) with
  accessFlags := 49
  interfaces := #[]
  cf := some (fileOf pool16 14 #[.nestMembers #[975, 375, 113, 74]] #[{ accessFlags := 2, nameIndex := 5, descriptorIndex := 6, attributes := #[] }, { accessFlags := 9, nameIndex := 302, descriptorIndex := 869, attributes := #[] }, { accessFlags := 10, nameIndex := 345, descriptorIndex := 346, attributes := #[] }, { accessFlags := 9, nameIndex := 139, descriptorIndex := 342, attributes := #[] }, { accessFlags := 10, nameIndex := 341, descriptorIndex := 342, attributes := #[] }] 49 2 #[] #[{ accessFlags := 26, nameIndex := 715, descriptorIndex := 716, attributes := #[] }, { accessFlags := 26, nameIndex := 719, descriptorIndex := 716, attributes := #[] }, { accessFlags := 4120, nameIndex := 445, descriptorIndex := 117, attributes := #[] }])
  fields := #[{ name := "MIN_ARRAY_SORT_GRAN", type := .int, accessFlags := 26, slot := 0, constantValue := 0 }, { name := "INSERTIONSORT_THRESHOLD", type := .int, accessFlags := 26, slot := 1, constantValue := 0 }, { name := "$assertionsDisabled", type := .boolean, accessFlags := 4120, slot := 2, constantValue := 0 }]
  methods := #[k16m0, k16m1, k16m2, k16m3, k16m4]
  instanceTypes := #[]
  staticTypes := #[.int, .int, .boolean]
  resolved := Array.replicate 1029 none
  statics := none }

def pool17 : Array CpInfo := pool [(1, .class_ 2), (0, u "java/lang/Math"), (1, .class_ 6), (1, u "java/lang/Object"), (0, u "<init>"), (0, u "()V"), (89, .class_ 100), (1, u "java/lang/Math$RandomNumberGeneratorHolder"), (71, u "negativeZeroFloatBits"), (0, u "J"), (2, u "negativeZeroDoubleBits"), (21, u "max"), (2, u "min"), (43, u "$assertionsDisabled"), (0, u "Z"), (88, u "(II)I"), (2, u "twoToTheDoubleScaleDown"), (0, u "D"), (4, u "twoToTheDoubleScaleUp"), (9, u "E"), (3, u "PI"), (2, u "TAU"), (2, u "DEGREES_TO_RADIANS"), (0, u "RADIANS_TO_DEGREES")] 94

def k17m0 : Method := { name := "<init>", desc := "()V", sig := { parameters := [], returnType := none }, accessFlags := 2, code := none }
def k17c1 : Code := { maxStack := 2, maxLocals := 2, code := jdk_29_method_65_code, exceptionTable := #[], attributes := #[] }
def k17m1 : Method := { name := "max", desc := "(II)I", sig := { parameters := [.int, .int], returnType := some .int }, accessFlags := 9, code := some k17c1 }
def k17c2 : Code := { maxStack := 2, maxLocals := 2, code := jdk_29_method_69_code, exceptionTable := #[], attributes := #[] }
def k17m2 : Method := { name := "min", desc := "(II)I", sig := { parameters := [.int, .int], returnType := some .int }, accessFlags := 9, code := some k17c2 }
/-- java/lang/Math -/
def k17 : Class := { plain "java/lang/Math" (some 0) with
  accessFlags := 49
  interfaces := #[]
  cf := some (fileOf pool17 1 #[.nestMembers #[98]] #[{ accessFlags := 2, nameIndex := 7, descriptorIndex := 8, attributes := #[] }, { accessFlags := 9, nameIndex := 198, descriptorIndex := 335, attributes := #[] }, { accessFlags := 9, nameIndex := 201, descriptorIndex := 335, attributes := #[] }] 49 4 #[] #[{ accessFlags := 25, nameIndex := 354, descriptorIndex := 339, attributes := #[] }, { accessFlags := 25, nameIndex := 358, descriptorIndex := 339, attributes := #[] }, { accessFlags := 25, nameIndex := 361, descriptorIndex := 339, attributes := #[] }, { accessFlags := 26, nameIndex := 364, descriptorIndex := 339, attributes := #[] }, { accessFlags := 26, nameIndex := 365, descriptorIndex := 339, attributes := #[] }, { accessFlags := 26, nameIndex := 172, descriptorIndex := 173, attributes := #[] }, { accessFlags := 26, nameIndex := 176, descriptorIndex := 173, attributes := #[] }, { accessFlags := 8, nameIndex := 344, descriptorIndex := 339, attributes := #[] }, { accessFlags := 8, nameIndex := 338, descriptorIndex := 339, attributes := #[] }, { accessFlags := 4120, nameIndex := 245, descriptorIndex := 246, attributes := #[] }])
  fields := #[{ name := "E", type := .double, accessFlags := 25, slot := 0, constantValue := 0 }, { name := "PI", type := .double, accessFlags := 25, slot := 1, constantValue := 0 }, { name := "TAU", type := .double, accessFlags := 25, slot := 2, constantValue := 0 }, { name := "DEGREES_TO_RADIANS", type := .double, accessFlags := 26, slot := 3, constantValue := 0 }, { name := "RADIANS_TO_DEGREES", type := .double, accessFlags := 26, slot := 4, constantValue := 0 }, { name := "negativeZeroFloatBits", type := .long, accessFlags := 26, slot := 5, constantValue := 0 }, { name := "negativeZeroDoubleBits", type := .long, accessFlags := 26, slot := 6, constantValue := 0 }, { name := "twoToTheDoubleScaleUp", type := .double, accessFlags := 8, slot := 7, constantValue := 0 }, { name := "twoToTheDoubleScaleDown", type := .double, accessFlags := 8, slot := 8, constantValue := 0 }, { name := "$assertionsDisabled", type := .boolean, accessFlags := 4120, slot := 9, constantValue := 0 }]
  methods := #[k17m0, k17m1, k17m2]
  instanceTypes := #[]
  staticTypes := #[.double, .double, .double, .double, .double, .long, .long, .double, .double, .boolean]
  resolved := Array.replicate 460 none
  statics := none }

def pool18 : Array CpInfo := pool [(1, .class_ 2), (0, u "java/lang/String"), (1, .class_ 6), (1, u "java/lang/Object"), (0, u "<init>"), (0, u "()V"), (0, .methodref 1 10), (0, .nameAndType 11 12), (0, u "checkIndex"), (0, u "(II)V"), (1, .class_ 16), (1, u "java/lang/StringLatin1"), (36, u "([BI)C"), (67, u "$assertionsDisabled"), (0, u "Z"), (98, .class_ 223), (1, u "java/lang/StringLatin1$LinesSpliterator"), (28, u "charAt"), (137, .class_ 391), (0, u "java/lang/StringLatin1$CharsSpliterator")] 3

def k18m0 : Method := { name := "<init>", desc := "()V", sig := { parameters := [], returnType := none }, accessFlags := 0, code := none }
def k18c1 : Code := { maxStack := 2, maxLocals := 2, code := jdk_43_method_2_code, exceptionTable := #[], attributes := #[] }
def k18m1 : Method := { name := "charAt", desc := "([BI)C", sig := { parameters := [(.array .byte), .int], returnType := some .char }, accessFlags := 9, code := some k18c1 }
/-- java/lang/StringLatin1 -/
def k18 : Class := { plain "java/lang/StringLatin1" (some 0) with
  accessFlags := 48
  interfaces := #[]
  cf := some (fileOf pool18 14 #[.nestMembers #[390, 221]] #[{ accessFlags := 0, nameIndex := 7, descriptorIndex := 8, attributes := #[] }, { accessFlags := 9, nameIndex := 252, descriptorIndex := 53, attributes := #[] }] 48 4 #[] #[{ accessFlags := 4120, nameIndex := 121, descriptorIndex := 122, attributes := #[] }])
  fields := #[{ name := "$assertionsDisabled", type := .boolean, accessFlags := 4120, slot := 0, constantValue := 0 }]
  methods := #[k18m0, k18m1]
  instanceTypes := #[]
  staticTypes := #[.boolean]
  resolved := Array.replicate 395 none
  statics := none }

def pool19 : Array CpInfo := pool [(2, .class_ 4), (1, u "java/lang/Object"), (0, u "<init>"), (0, u "()V"), (17, .class_ 26), (1, u "jdk/internal/util/Preconditions"), (6, u "checkIndex"), (21, .class_ 56), (0, u "jdk/internal/util/Preconditions$4"), (57, .class_ 115), (0, u "jdk/internal/util/Preconditions$1"), (7, u "SIOOBE_FORMATTER"), (0, u "Ljava/util/function/BiFunction;"), (0, .class_ 126), (0, u "jdk/internal/util/Preconditions$2"), (3, u "AIOOBE_FORMATTER"), (0, .class_ 132), (0, u "jdk/internal/util/Preconditions$3"), (3, u "IOOBE_FORMATTER"), (41, u "(IILjava/util/function/BiFunction;)I")] 15

def k19m0 : Method := { name := "<init>", desc := "()V", sig := { parameters := [], returnType := none }, accessFlags := 1, code := none }
def k19c1 : Code := { maxStack := 3, maxLocals := 3, code := jdk_41_method_11_code, exceptionTable := #[], attributes := #[] }
def k19m1 : Method := { name := "checkIndex", desc := "(IILjava/util/function/BiFunction;)I", sig := { parameters := [.int, .int, (.object "java/util/function/BiFunction")], returnType := some .int }, accessFlags := 9, code := some k19c1 }
/-- jdk/internal/util/Preconditions -/
def k19 : Class := { plain "jdk/internal/util/Preconditions" (some 0) with
  accessFlags := 33
  interfaces := #[]
  cf := some (fileOf pool19 24 #[.nestMembers #[55, 131, 125, 114]] #[{ accessFlags := 1, nameIndex := 5, descriptorIndex := 6, attributes := #[] }, { accessFlags := 9, nameIndex := 33, descriptorIndex := 178, attributes := #[] }] 33 2 #[] #[{ accessFlags := 25, nameIndex := 123, descriptorIndex := 124, attributes := #[] }, { accessFlags := 25, nameIndex := 130, descriptorIndex := 124, attributes := #[] }, { accessFlags := 25, nameIndex := 136, descriptorIndex := 124, attributes := #[] }])
  fields := #[{ name := "SIOOBE_FORMATTER", type := (.object "java/util/function/BiFunction"), accessFlags := 25, slot := 0, constantValue := 0 }, { name := "AIOOBE_FORMATTER", type := (.object "java/util/function/BiFunction"), accessFlags := 25, slot := 1, constantValue := 0 }, { name := "IOOBE_FORMATTER", type := (.object "java/util/function/BiFunction"), accessFlags := 25, slot := 2, constantValue := 0 }]
  methods := #[k19m0, k19m1]
  instanceTypes := #[]
  staticTypes := #[(.object "java/util/function/BiFunction"), (.object "java/util/function/BiFunction"), (.object "java/util/function/BiFunction")]
  resolved := Array.replicate 194 none
  statics := some 3 }

def pool20 : Array CpInfo := pool [(9, u "<init>"), (6, .class_ 18), (1, u "java/lang/Object"), (0, u "()V"), (1, .class_ 23), (1, u "jdk/internal/util/ArraysSupport"), (0, u "LOG2_ARRAY_LONG_INDEX_SCALE"), (0, u "I"), (2, u "U"), (0, u "Ljdk/internal/misc/Unsafe;"), (8, u "BIG_ENDIAN"), (0, u "Z"), (8, u "LOG2_BYTE_BIT_SIZE"), (4, u "LOG2_ARRAY_INT_INDEX_SCALE"), (54, u "JLA"), (0, u "Ljdk/internal/access/JavaLangAccess;"), (11, u "LOG2_ARRAY_BOOLEAN_INDEX_SCALE"), (9, u "LOG2_ARRAY_BYTE_INDEX_SCALE"), (5, u "LOG2_ARRAY_CHAR_INDEX_SCALE"), (5, u "LOG2_ARRAY_SHORT_INDEX_SCALE"), (18, u "LOG2_ARRAY_FLOAT_INDEX_SCALE"), (24, u "LOG2_ARRAY_DOUBLE_INDEX_SCALE"), (6, .methodref 195 196), (0, .class_ 197), (0, .nameAndType 198 199), (0, u "java/lang/Math"), (0, u "max"), (0, u "(II)I"), (0, .integer 2147483639), (76, u "T_BOOLEAN"), (2, u "T_CHAR"), (1, u "T_FLOAT"), (1, u "T_DOUBLE"), (1, u "T_BYTE"), (1, u "T_SHORT"), (1, u "T_INT"), (1, u "T_LONG"), (1, u "SOFT_MAX_ARRAY_LENGTH"), (56, u "newLength"), (0, u "(III)I")] 25

def k20m0 : Method := { name := "<init>", desc := "()V", sig := { parameters := [], returnType := none }, accessFlags := 2, code := none }
def k20c1 : Code := { maxStack := 3, maxLocals := 4, code := jdk_48_method_27_code, exceptionTable := #[], attributes := #[] }
def k20m1 : Method := { name := "newLength", desc := "(III)I", sig := { parameters := [.int, .int, .int], returnType := some .int }, accessFlags := 9, code := some k20c1 }
/-- jdk/internal/util/ArraysSupport -/
def k20 : Class := { plain "jdk/internal/util/ArraysSupport" (some 0) with
  accessFlags := 33
  interfaces := #[]
  cf := some (fileOf pool20 21 #[] #[{ accessFlags := 2, nameIndex := 9, descriptorIndex := 19, attributes := #[] }, { accessFlags := 9, nameIndex := 351, descriptorIndex := 352, attributes := #[] }] 33 16 #[] #[{ accessFlags := 24, nameIndex := 28, descriptorIndex := 29, attributes := #[] }, { accessFlags := 26, nameIndex := 38, descriptorIndex := 39, attributes := #[] }, { accessFlags := 25, nameIndex := 121, descriptorIndex := 25, attributes := #[] }, { accessFlags := 25, nameIndex := 131, descriptorIndex := 25, attributes := #[] }, { accessFlags := 25, nameIndex := 137, descriptorIndex := 25, attributes := #[] }, { accessFlags := 25, nameIndex := 143, descriptorIndex := 25, attributes := #[] }, { accessFlags := 25, nameIndex := 53, descriptorIndex := 25, attributes := #[] }, { accessFlags := 25, nameIndex := 24, descriptorIndex := 25, attributes := #[] }, { accessFlags := 25, nameIndex := 162, descriptorIndex := 25, attributes := #[] }, { accessFlags := 25, nameIndex := 187, descriptorIndex := 25, attributes := #[] }, { accessFlags := 26, nameIndex := 48, descriptorIndex := 25, attributes := #[] }, { accessFlags := 25, nameIndex := 277, descriptorIndex := 25, attributes := #[] }, { accessFlags := 25, nameIndex := 280, descriptorIndex := 25, attributes := #[] }, { accessFlags := 25, nameIndex := 282, descriptorIndex := 25, attributes := #[] }, { accessFlags := 25, nameIndex := 284, descriptorIndex := 25, attributes := #[] }, { accessFlags := 25, nameIndex := 286, descriptorIndex := 25, attributes := #[] }, { accessFlags := 25, nameIndex := 288, descriptorIndex := 25, attributes := #[] }, { accessFlags := 25, nameIndex := 290, descriptorIndex := 25, attributes := #[] }, { accessFlags := 25, nameIndex := 292, descriptorIndex := 25, attributes := #[] }, { accessFlags := 26, nameIndex := 108, descriptorIndex := 109, attributes := #[] }, { accessFlags := 25, nameIndex := 294, descriptorIndex := 25, attributes := #[] }])
  fields := #[{ name := "U", type := (.object "jdk/internal/misc/Unsafe"), accessFlags := 24, slot := 0, constantValue := 0 }, { name := "BIG_ENDIAN", type := .boolean, accessFlags := 26, slot := 1, constantValue := 0 }, { name := "LOG2_ARRAY_BOOLEAN_INDEX_SCALE", type := .int, accessFlags := 25, slot := 2, constantValue := 0 }, { name := "LOG2_ARRAY_BYTE_INDEX_SCALE", type := .int, accessFlags := 25, slot := 3, constantValue := 0 }, { name := "LOG2_ARRAY_CHAR_INDEX_SCALE", type := .int, accessFlags := 25, slot := 4, constantValue := 0 }, { name := "LOG2_ARRAY_SHORT_INDEX_SCALE", type := .int, accessFlags := 25, slot := 5, constantValue := 0 }, { name := "LOG2_ARRAY_INT_INDEX_SCALE", type := .int, accessFlags := 25, slot := 6, constantValue := 0 }, { name := "LOG2_ARRAY_LONG_INDEX_SCALE", type := .int, accessFlags := 25, slot := 7, constantValue := 0 }, { name := "LOG2_ARRAY_FLOAT_INDEX_SCALE", type := .int, accessFlags := 25, slot := 8, constantValue := 0 }, { name := "LOG2_ARRAY_DOUBLE_INDEX_SCALE", type := .int, accessFlags := 25, slot := 9, constantValue := 0 }, { name := "LOG2_BYTE_BIT_SIZE", type := .int, accessFlags := 26, slot := 10, constantValue := 0 }, { name := "T_BOOLEAN", type := .int, accessFlags := 25, slot := 11, constantValue := 0 }, { name := "T_CHAR", type := .int, accessFlags := 25, slot := 12, constantValue := 0 }, { name := "T_FLOAT", type := .int, accessFlags := 25, slot := 13, constantValue := 0 }, { name := "T_DOUBLE", type := .int, accessFlags := 25, slot := 14, constantValue := 0 }, { name := "T_BYTE", type := .int, accessFlags := 25, slot := 15, constantValue := 0 }, { name := "T_SHORT", type := .int, accessFlags := 25, slot := 16, constantValue := 0 }, { name := "T_INT", type := .int, accessFlags := 25, slot := 17, constantValue := 0 }, { name := "T_LONG", type := .int, accessFlags := 25, slot := 18, constantValue := 0 }, { name := "JLA", type := (.object "jdk/internal/access/JavaLangAccess"), accessFlags := 26, slot := 19, constantValue := 0 }, { name := "SOFT_MAX_ARRAY_LENGTH", type := .int, accessFlags := 25, slot := 20, constantValue := 0 }]
  methods := #[k20m0, k20m1]
  instanceTypes := #[]
  staticTypes := #[(.object "jdk/internal/misc/Unsafe"), .boolean, .int, .int, .int, .int, .int, .int, .int, .int, .int, .int, .int, .int, .int, .int, .int, .int, .int, (.object "jdk/internal/access/JavaLangAccess"), .int]
  resolved := Array.replicate 378 none
  statics := none }

def pool21 : Array CpInfo := pool [(1, .class_ 2), (0, u "java/lang/Cloneable"), (0, .class_ 4), (0, u "java/lang/Object")] 2

/-- java/lang/Cloneable -/
def k21 : Class := { plain "java/lang/Cloneable" (some 0) with
  accessFlags := 1537
  interfaces := #[]
  cf := some (fileOf pool21 1 #[] #[] 1537 3 #[] #[])
  fields := #[]
  methods := #[]
  instanceTypes := #[]
  staticTypes := #[]
  resolved := Array.replicate 7 none
  statics := none }

/-- the primitive byte -/
def k22 : Class := { plain "byte" none with kind := .primitive 'B', accessFlags := 0x411 }
/-- [B -/
def k23 : Class := { plain "[B" (some 0) with kind := .array 22 .byte, interfaces := #[21, 2], accessFlags := 1041 }

/-- the primitive int -/
def k24 : Class := { plain "int" none with kind := .primitive 'I', accessFlags := 0x411 }
/-- [I -/
def k25 : Class := { plain "[I" (some 0) with kind := .array 24 .int, interfaces := #[21, 2], accessFlags := 1041 }

/-- the primitive long -/
def k26 : Class := { plain "long" none with kind := .primitive 'J', accessFlags := 0x411 }
/-- [J -/
def k27 : Class := { plain "[J" (some 0) with kind := .array 26 .long, interfaces := #[21, 2], accessFlags := 1041 }

/-- [Ljava/lang/String; -/
def k28 : Class := { plain "[Ljava/lang/String;" (some 0) with kind := .array 7 (.object "java/lang/String"), interfaces := #[21, 2], accessFlags := 1041 }

def heap : Heap := #[{ cls := 7, slots := #[.long 0, .int 1, .null, .int 0, .null, .int 0, .int 0], vm := .statics 7 },
  { cls := 8, slots := #[.int 0, .int 0, .null, .ref 5, .ref 4], vm := .statics 8 },
  { cls := 14, slots := #[.int 0, .int 0, .null, .null, .ref 17, .ref 16, .int 0, .int 0, .long 0], vm := .statics 14 },
  { cls := 19, slots := #[.null, .null, .null], vm := .statics 19 },
  { cls := 28, slots := #[.ref 6, .ref 7, .ref 8, .ref 9, .ref 10], vm := .none },
  { cls := 27, slots := #[.long 86400000, .long 3600000, .long 60000, .long 1000, .long 1], vm := .none },
  { cls := 7, slots := #[.ref 11, .int 0, .int 0, .int 0], vm := .none },
  { cls := 7, slots := #[.ref 12, .int 0, .int 0, .int 0], vm := .none },
  { cls := 7, slots := #[.ref 13, .int 0, .int 0, .int 0], vm := .none },
  { cls := 7, slots := #[.ref 14, .int 0, .int 0, .int 0], vm := .none },
  { cls := 7, slots := #[.ref 15, .int 0, .int 0, .int 0], vm := .none },
  { cls := 23, slots := #[.int 100], vm := .none },
  { cls := 23, slots := #[.int 104], vm := .none },
  { cls := 23, slots := #[.int 109], vm := .none },
  { cls := 23, slots := #[.int 115], vm := .none },
  { cls := 23, slots := #[.int 109, .int 115], vm := .none },
  { cls := 23, slots := #[.int 48, .int 49, .int 50, .int 51, .int 52, .int 53, .int 54, .int 55, .int 56, .int 57, .int 48, .int 49, .int 50, .int 51, .int 52, .int 53, .int 54, .int 55, .int 56, .int 57, .int 48, .int 49, .int 50, .int 51, .int 52, .int 53, .int 54, .int 55, .int 56, .int 57, .int 48, .int 49, .int 50, .int 51, .int 52, .int 53, .int 54, .int 55, .int 56, .int 57, .int 48, .int 49, .int 50, .int 51, .int 52, .int 53, .int 54, .int 55, .int 56, .int 57, .int 48, .int 49, .int 50, .int 51, .int 52, .int 53, .int 54, .int 55, .int 56, .int 57, .int 48, .int 49, .int 50, .int 51, .int 52, .int 53, .int 54, .int 55, .int 56, .int 57, .int 48, .int 49, .int 50, .int 51, .int 52, .int 53, .int 54, .int 55, .int 56, .int 57, .int 48, .int 49, .int 50, .int 51, .int 52, .int 53, .int 54, .int 55, .int 56, .int 57, .int 48, .int 49, .int 50, .int 51, .int 52, .int 53, .int 54, .int 55, .int 56, .int 57], vm := .none },
  { cls := 23, slots := #[.int 48, .int 48, .int 48, .int 48, .int 48, .int 48, .int 48, .int 48, .int 48, .int 48, .int 49, .int 49, .int 49, .int 49, .int 49, .int 49, .int 49, .int 49, .int 49, .int 49, .int 50, .int 50, .int 50, .int 50, .int 50, .int 50, .int 50, .int 50, .int 50, .int 50, .int 51, .int 51, .int 51, .int 51, .int 51, .int 51, .int 51, .int 51, .int 51, .int 51, .int 52, .int 52, .int 52, .int 52, .int 52, .int 52, .int 52, .int 52, .int 52, .int 52, .int 53, .int 53, .int 53, .int 53, .int 53, .int 53, .int 53, .int 53, .int 53, .int 53, .int 54, .int 54, .int 54, .int 54, .int 54, .int 54, .int 54, .int 54, .int 54, .int 54, .int 55, .int 55, .int 55, .int 55, .int 55, .int 55, .int 55, .int 55, .int 55, .int 55, .int 56, .int 56, .int 56, .int 56, .int 56, .int 56, .int 56, .int 56, .int 56, .int 56, .int 57, .int 57, .int 57, .int 57, .int 57, .int 57, .int 57, .int 57, .int 57, .int 57], vm := .none }]
def classes : Array Class := #[k0, k1, k2, k3, k4, k5, k6, k7, k8, k9, k10, k11, k12, k13, k14, k15, k16, k17, k18, k19, k20, k21, k22, k23, k24, k25, k26, k27, k28]
def interned : List (Array UInt16 × Addr) := []
def slotsUsed : Nat := 260
def theMethod : MethodId := ⟨1, 1⟩
def args0 : Array Value := #[.long 86400000, .int 0]
def aboutOver (below : List Frame) : State where
  vm := { classes := classes, interned := interned.toArray }
  heap := heap
  slotsUsed := slotsUsed
  threads := #[{ frames := .invoking theMethod args0 :: below }]
def below0 : List Frame := [.native { method := ⟨0, 0⟩, args := #[] }]
def about1 : State := aboutOver below0
def p0 : Program := .bare "" "" ""
def e0 : Env := launch0.env 0 0 0
theorem w_frames : about1.frames = Frame.invoking theMethod args0 :: below0 := rfl
set_option maxRecDepth 65536 in
theorem w_args : argsFit about1.vm theMethod args0 = true := by decide +kernel
set_option maxRecDepth 65536 in
theorem w_heap : heapFits about1 = true := by decide +kernel
set_option maxRecDepth 65536 in
theorem w_runnable : about1.curStatus? = some .runnable := by decide +kernel
set_option maxRecDepth 65536 in
theorem w_alone : about1.alone = true := by decide +kernel
set_option maxRecDepth 65536 in
theorem w_named : about1.methodNamed? x = some theMethod := by decide +kernel
set_option maxRecDepth 65536 in
theorem w_hears : about1.hears theMethod below0 = true := by decide +kernel
set_option maxRecDepth 65536 in
theorem w_ripe : about1.ripe theMethod args0 below0 = true := by decide +kernel
theorem w_running : about1.status = .running := rfl
set_option maxRecDepth 65536 in
theorem w_room : about1.hasRoom e0.platform room_1 = true :=
  launch0.hasRoom_least _ room_1 (by decide +kernel) (by decide +kernel) (by decide +kernel) (by decide +kernel) (by decide +kernel) (by decide +kernel)
theorem allAtoms_all (ts : List Jvm.Cond) (a : Array Jvm.Value) (st : Jvm.State) : (allAtoms ts).before a st = ts.all (fun c => c.before a st) := by
  induction ts with
  | nil => rfl
  | cons c t ih =>
    show (Jvm.Cond.and c (allAtoms t)).before a st = _
    rw [Jvm.Cond.before_and, ih, List.all_cons]
def words1 : List Jvm.Cond := Jvm.Cond.code x code maxLocals ret :: tables_1
/-- a 'code' word, met by the world's own term for the bytes: nothing is compared byte by byte -/
theorem code_word {y : MethodName} {bytes : ByteArray} {mx : Nat} {rt : Option FieldType} {a : Array Value} {s : State} {m : MethodId} {meth : Method} {c : Code} (h1 : s.methodNamed? y = some m) (h2 : s.vm.method? m = some meth) (h3 : meth.code = some c) (h4 : c.code = bytes)
    (h5 : (c.maxLocals == mx && c.exceptionTable.isEmpty && decide (c.maxStack ≤ mostOperands) && decide (meth.sig.returnType = rt) && !meth.locks && decide (parseMethodDescriptor y.desc = some meth.sig)) = true) : (Jvm.Cond.code y bytes mx rt).before a s = true := by
  simp only [Bool.and_eq_true, beq_iff_eq, Bool.not_eq_true', decide_eq_true_eq] at h5
  obtain ⟨⟨⟨⟨⟨g1, g2⟩, g3⟩, g4⟩, g5⟩, g6⟩ := h5
  simp [Cond.before, Cond.holds, Cond.value, h1, h2, h3, h4, g1, g2, g3, g4, g5, g6]
def isCode : Jvm.Cond → Bool
  | .code _ _ _ _ => true
  | _ => false
theorem all_split {L : List Jvm.Cond} {P : Jvm.Cond → Bool} (h1 : L.all (fun c => isCode c || P c) = true) (h2 : ∀ c ∈ L.filter isCode, P c = true) : L.all P = true := by
  refine List.all_eq_true.mpr fun c hc => ?_
  have h := List.all_eq_true.mp h1 c hc
  rcases Bool.eq_false_or_eq_true (isCode c) with hi | hi
  · exact h2 c (List.mem_filter.mpr ⟨hc, hi⟩)
  · simpa [hi] using h
set_option maxRecDepth 65536 in
theorem w_c0 : (Jvm.Cond.code x code maxLocals ret).before args0 about1 = true := code_word (m := ⟨1, 1⟩) (meth := k1m1) (c := k1c1) (by decide +kernel) rfl rfl rfl (by decide +kernel)
set_option maxRecDepth 65536 in
theorem w_c1 : (Jvm.Cond.code ({ cls := "com/example/oplim/oplim/Keys", name := "period", desc := "(J)Ljava/lang/String;" } : Jvm.MethodName) prog_4_method_4_code (3 : Nat) (Option.some (Jvm.ClassFile.FieldType.object "java/lang/String"))).before args0 about1 = true := code_word (m := ⟨8, 1⟩) (meth := k8m1) (c := k8c1) (by decide +kernel) rfl rfl rfl (by decide +kernel)
set_option maxRecDepth 65536 in
theorem w_c2 : (Jvm.Cond.code ({ cls := "java/lang/StringBuilder", name := "<init>", desc := "()V" } : Jvm.MethodName) jdk_67_method_1_code (1 : Nat) (Option.none : Option Jvm.ClassFile.FieldType)).before args0 about1 = true := code_word (m := ⟨11, 0⟩) (meth := k11m0) (c := k11c0) (by decide +kernel) rfl rfl rfl (by decide +kernel)
set_option maxRecDepth 65536 in
theorem w_c3 : (Jvm.Cond.code ({ cls := "java/lang/AbstractStringBuilder", name := "<init>", desc := "(I)V" } : Jvm.MethodName) jdk_68_method_2_code (2 : Nat) (Option.none : Option Jvm.ClassFile.FieldType)).before args0 about1 = true := code_word (m := ⟨10, 1⟩) (meth := k10m1) (c := k10c1) (by decide +kernel) rfl rfl rfl (by decide +kernel)
set_option maxRecDepth 65536 in
theorem w_c4 : (Jvm.Cond.code ({ cls := "java/lang/Object", name := "<init>", desc := "()V" } : Jvm.MethodName) object_method_1_code (1 : Nat) (Option.none : Option Jvm.ClassFile.FieldType)).before args0 about1 = true := code_word (m := ⟨0, 0⟩) (meth := k0m0) (c := k0c0) (by decide +kernel) rfl rfl rfl (by decide +kernel)
set_option maxRecDepth 65536 in
theorem w_c5 : (Jvm.Cond.code ({ cls := "java/lang/StringBuilder", name := "append", desc := "(J)Ljava/lang/StringBuilder;" } : Jvm.MethodName) jdk_67_method_16_code (3 : Nat) (Option.some (Jvm.ClassFile.FieldType.object "java/lang/StringBuilder"))).before args0 about1 = true := code_word (m := ⟨11, 2⟩) (meth := k11m2) (c := k11c2) (by decide +kernel) rfl rfl rfl (by decide +kernel)
set_option maxRecDepth 65536 in
theorem w_c6 : (Jvm.Cond.code ({ cls := "java/lang/AbstractStringBuilder", name := "append", desc := "(J)Ljava/lang/AbstractStringBuilder;" } : Jvm.MethodName) jdk_68_method_33_code (5 : Nat) (Option.some (Jvm.ClassFile.FieldType.object "java/lang/AbstractStringBuilder"))).before args0 about1 = true := code_word (m := ⟨10, 6⟩) (meth := k10m6) (c := k10c6) (by decide +kernel) rfl rfl rfl (by decide +kernel)
set_option maxRecDepth 65536 in
theorem w_c7 : (Jvm.Cond.code ({ cls := "java/lang/Long", name := "stringSize", desc := "(J)I" } : Jvm.MethodName) jdk_35_method_15_code (6 : Nat) (Option.some Jvm.ClassFile.FieldType.int)).before args0 about1 = true := code_word (m := ⟨13, 1⟩) (meth := k13m1) (c := k13c1) (by decide +kernel) rfl rfl rfl (by decide +kernel)
set_option maxRecDepth 65536 in
theorem w_c8 : (Jvm.Cond.code ({ cls := "java/lang/AbstractStringBuilder", name := "ensureCapacityInternal", desc := "(I)V" } : Jvm.MethodName) jdk_68_method_9_code (3 : Nat) (Option.none : Option Jvm.ClassFile.FieldType)).before args0 about1 = true := code_word (m := ⟨10, 3⟩) (meth := k10m3) (c := k10c3) (by decide +kernel) rfl rfl rfl (by decide +kernel)
set_option maxRecDepth 65536 in
theorem w_c9 : (Jvm.Cond.code ({ cls := "java/lang/AbstractStringBuilder", name := "isLatin1", desc := "()Z" } : Jvm.MethodName) jdk_68_method_68_code (1 : Nat) (Option.some Jvm.ClassFile.FieldType.boolean)).before args0 about1 = true := code_word (m := ⟨10, 8⟩) (meth := k10m8) (c := k10c8) (by decide +kernel) rfl rfl rfl (by decide +kernel)
set_option maxRecDepth 65536 in
theorem w_c10 : (Jvm.Cond.code ({ cls := "java/lang/Long", name := "getChars", desc := "(JI[B)I" } : Jvm.MethodName) jdk_35_method_14_code (11 : Nat) (Option.some Jvm.ClassFile.FieldType.int)).before args0 about1 = true := code_word (m := ⟨13, 0⟩) (meth := k13m0) (c := k13c0) (by decide +kernel) rfl rfl rfl (by decide +kernel)
set_option maxRecDepth 65536 in
theorem w_c11 : (Jvm.Cond.code ({ cls := "java/lang/StringBuilder", name := "append", desc := "(Ljava/lang/String;)Ljava/lang/StringBuilder;" } : Jvm.MethodName) jdk_67_method_7_code (2 : Nat) (Option.some (Jvm.ClassFile.FieldType.object "java/lang/StringBuilder"))).before args0 about1 = true := code_word (m := ⟨11, 1⟩) (meth := k11m1) (c := k11c1) (by decide +kernel) rfl rfl rfl (by decide +kernel)
set_option maxRecDepth 65536 in
theorem w_c12 : (Jvm.Cond.code ({ cls := "java/lang/AbstractStringBuilder", name := "append", desc := "(Ljava/lang/String;)Ljava/lang/AbstractStringBuilder;" } : Jvm.MethodName) jdk_68_method_22_code (3 : Nat) (Option.some (Jvm.ClassFile.FieldType.object "java/lang/AbstractStringBuilder"))).before args0 about1 = true := code_word (m := ⟨10, 5⟩) (meth := k10m5) (c := k10c5) (by decide +kernel) rfl rfl rfl (by decide +kernel)
set_option maxRecDepth 65536 in
theorem w_c13 : (Jvm.Cond.code ({ cls := "java/lang/String", name := "length", desc := "()I" } : Jvm.MethodName) jdk_42_method_54_code (1 : Nat) (Option.some Jvm.ClassFile.FieldType.int)).before args0 about1 = true := code_word (m := ⟨7, 2⟩) (meth := k7m2) (c := k7c2) (by decide +kernel) rfl rfl rfl (by decide +kernel)
set_option maxRecDepth 65536 in
theorem w_c14 : (Jvm.Cond.code ({ cls := "java/lang/String", name := "coder", desc := "()B" } : Jvm.MethodName) jdk_42_method_152_code (1 : Nat) (Option.some Jvm.ClassFile.FieldType.byte)).before args0 about1 = true := code_word (m := ⟨7, 6⟩) (meth := k7m6) (c := k7c6) (by decide +kernel) rfl rfl rfl (by decide +kernel)
set_option maxRecDepth 65536 in
theorem w_c15 : (Jvm.Cond.code ({ cls := "java/lang/AbstractStringBuilder", name := "putStringAt", desc := "(ILjava/lang/String;)V" } : Jvm.MethodName) jdk_68_method_73_code (3 : Nat) (Option.none : Option Jvm.ClassFile.FieldType)).before args0 about1 = true := code_word (m := ⟨10, 10⟩) (meth := k10m10) (c := k10c10) (by decide +kernel) rfl rfl rfl (by decide +kernel)
set_option maxRecDepth 65536 in
theorem w_c16 : (Jvm.Cond.code ({ cls := "java/lang/AbstractStringBuilder", name := "inflateIfNeededFor", desc := "(Ljava/lang/String;)V" } : Jvm.MethodName) jdk_68_method_71_code (2 : Nat) (Option.none : Option Jvm.ClassFile.FieldType)).before args0 about1 = true := code_word (m := ⟨10, 9⟩) (meth := k10m9) (c := k10c9) (by decide +kernel) rfl rfl rfl (by decide +kernel)
set_option maxRecDepth 65536 in
theorem w_c17 : (Jvm.Cond.code ({ cls := "java/lang/String", name := "getBytes", desc := "([BIB)V" } : Jvm.MethodName) jdk_42_method_147_code (4 : Nat) (Option.none : Option Jvm.ClassFile.FieldType)).before args0 about1 = true := code_word (m := ⟨7, 4⟩) (meth := k7m4) (c := k7c4) (by decide +kernel) rfl rfl rfl (by decide +kernel)
set_option maxRecDepth 65536 in
theorem w_c18 : (Jvm.Cond.code ({ cls := "java/lang/StringBuilder", name := "toString", desc := "()Ljava/lang/String;" } : Jvm.MethodName) jdk_67_method_42_code (1 : Nat) (Option.some (Jvm.ClassFile.FieldType.object "java/lang/String"))).before args0 about1 = true := code_word (m := ⟨11, 3⟩) (meth := k11m3) (c := k11c3) (by decide +kernel) rfl rfl rfl (by decide +kernel)
set_option maxRecDepth 65536 in
theorem w_c19 : (Jvm.Cond.code ({ cls := "java/lang/String", name := "<init>", desc := "(Ljava/lang/StringBuilder;)V" } : Jvm.MethodName) jdk_42_method_53_code (2 : Nat) (Option.none : Option Jvm.ClassFile.FieldType)).before args0 about1 = true := code_word (m := ⟨7, 1⟩) (meth := k7m1) (c := k7c1) (by decide +kernel) rfl rfl rfl (by decide +kernel)
set_option maxRecDepth 65536 in
theorem w_c20 : (Jvm.Cond.code ({ cls := "java/lang/String", name := "<init>", desc := "(Ljava/lang/AbstractStringBuilder;Ljava/lang/Void;)V" } : Jvm.MethodName) jdk_42_method_150_code (5 : Nat) (Option.none : Option Jvm.ClassFile.FieldType)).before args0 about1 = true := code_word (m := ⟨7, 5⟩) (meth := k7m5) (c := k7c5) (by decide +kernel) rfl rfl rfl (by decide +kernel)
set_option maxRecDepth 65536 in
theorem w_c21 : (Jvm.Cond.code ({ cls := "java/lang/AbstractStringBuilder", name := "getValue", desc := "()[B" } : Jvm.MethodName) jdk_68_method_64_code (1 : Nat) (Option.some (Jvm.ClassFile.FieldType.array Jvm.ClassFile.FieldType.byte))).before args0 about1 = true := code_word (m := ⟨10, 7⟩) (meth := k10m7) (c := k10c7) (by decide +kernel) rfl rfl rfl (by decide +kernel)
set_option maxRecDepth 65536 in
theorem w_c22 : (Jvm.Cond.code ({ cls := "java/lang/StringBuilder", name := "length", desc := "()I" } : Jvm.MethodName) jdk_67_method_93_code (1 : Nat) (Option.some Jvm.ClassFile.FieldType.int)).before args0 about1 = true := code_word (m := ⟨11, 4⟩) (meth := k11m4) (c := k11c4) (by decide +kernel) rfl rfl rfl (by decide +kernel)
set_option maxRecDepth 65536 in
theorem w_c23 : (Jvm.Cond.code ({ cls := "java/lang/AbstractStringBuilder", name := "length", desc := "()I" } : Jvm.MethodName) jdk_68_method_6_code (1 : Nat) (Option.some Jvm.ClassFile.FieldType.int)).before args0 about1 = true := code_word (m := ⟨10, 2⟩) (meth := k10m2) (c := k10c2) (by decide +kernel) rfl rfl rfl (by decide +kernel)
set_option maxRecDepth 65536 in
theorem w_c24 : (Jvm.Cond.code ({ cls := "java/util/Arrays", name := "copyOfRange", desc := "([BII)[B" } : Jvm.MethodName) jdk_65_method_132_code (3 : Nat) (Option.some (Jvm.ClassFile.FieldType.array Jvm.ClassFile.FieldType.byte))).before args0 about1 = true := code_word (m := ⟨16, 3⟩) (meth := k16m3) (c := k16c3) (by decide +kernel) rfl rfl rfl (by decide +kernel)
set_option maxRecDepth 65536 in
theorem w_c25 : (Jvm.Cond.code ({ cls := "java/util/Arrays", name := "copyOfRangeByte", desc := "([BII)[B" } : Jvm.MethodName) jdk_65_method_133_code (5 : Nat) (Option.some (Jvm.ClassFile.FieldType.array Jvm.ClassFile.FieldType.byte))).before args0 about1 = true := code_word (m := ⟨16, 4⟩) (meth := k16m4) (c := k16c4) (by decide +kernel) rfl rfl rfl (by decide +kernel)
set_option maxRecDepth 65536 in
theorem w_c26 : (Jvm.Cond.code ({ cls := "java/util/Arrays", name := "checkLength", desc := "(II)V" } : Jvm.MethodName) jdk_65_method_131_code (2 : Nat) (Option.none : Option Jvm.ClassFile.FieldType)).before args0 about1 = true := code_word (m := ⟨16, 2⟩) (meth := k16m2) (c := k16c2) (by decide +kernel) rfl rfl rfl (by decide +kernel)
set_option maxRecDepth 65536 in
theorem w_c27 : (Jvm.Cond.code ({ cls := "java/lang/Math", name := "min", desc := "(II)I" } : Jvm.MethodName) jdk_29_method_69_code (2 : Nat) (Option.some Jvm.ClassFile.FieldType.int)).before args0 about1 = true := code_word (m := ⟨17, 2⟩) (meth := k17m2) (c := k17c2) (by decide +kernel) rfl rfl rfl (by decide +kernel)
set_option maxRecDepth 65536 in
theorem w_c28 : (Jvm.Cond.code ({ cls := "java/lang/String", name := "charAt", desc := "(I)C" } : Jvm.MethodName) jdk_42_method_56_code (2 : Nat) (Option.some Jvm.ClassFile.FieldType.char)).before args0 about1 = true := code_word (m := ⟨7, 3⟩) (meth := k7m3) (c := k7c3) (by decide +kernel) rfl rfl rfl (by decide +kernel)
set_option maxRecDepth 65536 in
theorem w_c29 : (Jvm.Cond.code ({ cls := "java/lang/String", name := "isLatin1", desc := "()Z" } : Jvm.MethodName) jdk_42_method_154_code (1 : Nat) (Option.some Jvm.ClassFile.FieldType.boolean)).before args0 about1 = true := code_word (m := ⟨7, 7⟩) (meth := k7m7) (c := k7c7) (by decide +kernel) rfl rfl rfl (by decide +kernel)
set_option maxRecDepth 65536 in
theorem w_c30 : (Jvm.Cond.code ({ cls := "java/lang/StringLatin1", name := "charAt", desc := "([BI)C" } : Jvm.MethodName) jdk_43_method_2_code (2 : Nat) (Option.some Jvm.ClassFile.FieldType.char)).before args0 about1 = true := code_word (m := ⟨18, 1⟩) (meth := k18m1) (c := k18c1) (by decide +kernel) rfl rfl rfl (by decide +kernel)
set_option maxRecDepth 65536 in
theorem w_c31 : (Jvm.Cond.code ({ cls := "java/lang/String", name := "checkIndex", desc := "(II)V" } : Jvm.MethodName) jdk_42_method_155_code (2 : Nat) (Option.none : Option Jvm.ClassFile.FieldType)).before args0 about1 = true := code_word (m := ⟨7, 8⟩) (meth := k7m8) (c := k7c8) (by decide +kernel) rfl rfl rfl (by decide +kernel)
set_option maxRecDepth 65536 in
theorem w_c32 : (Jvm.Cond.code ({ cls := "jdk/internal/util/Preconditions", name := "checkIndex", desc := "(IILjava/util/function/BiFunction;)I" } : Jvm.MethodName) jdk_41_method_11_code (3 : Nat) (Option.some Jvm.ClassFile.FieldType.int)).before args0 about1 = true := code_word (m := ⟨19, 1⟩) (meth := k19m1) (c := k19c1) (by decide +kernel) rfl rfl rfl (by decide +kernel)
set_option maxRecDepth 65536 in
theorem w_c33 : (Jvm.Cond.code ({ cls := "com/example/oplim/oplim/KeysPeriodPinLaw", name := "dig", desc := "(Ljava/lang/String;IJ[JI)Z" } : Jvm.MethodName) method_3_code (7 : Nat) (Option.some Jvm.ClassFile.FieldType.boolean)).before args0 about1 = true := code_word (m := ⟨1, 2⟩) (meth := k1m2) (c := k1c2) (by decide +kernel) rfl rfl rfl (by decide +kernel)
set_option maxRecDepth 65536 in
theorem w_c34 : (Jvm.Cond.code ({ cls := "java/lang/AbstractStringBuilder", name := "newCapacity", desc := "(I)I" } : Jvm.MethodName) jdk_68_method_10_code (6 : Nat) (Option.some Jvm.ClassFile.FieldType.int)).before args0 about1 = true := code_word (m := ⟨10, 4⟩) (meth := k10m4) (c := k10c4) (by decide +kernel) rfl rfl rfl (by decide +kernel)
set_option maxRecDepth 65536 in
theorem w_c35 : (Jvm.Cond.code ({ cls := "jdk/internal/util/ArraysSupport", name := "newLength", desc := "(III)I" } : Jvm.MethodName) jdk_48_method_27_code (4 : Nat) (Option.some Jvm.ClassFile.FieldType.int)).before args0 about1 = true := code_word (m := ⟨20, 1⟩) (meth := k20m1) (c := k20c1) (by decide +kernel) rfl rfl rfl (by decide +kernel)
set_option maxRecDepth 65536 in
theorem w_c36 : (Jvm.Cond.code ({ cls := "java/lang/Math", name := "max", desc := "(II)I" } : Jvm.MethodName) jdk_29_method_65_code (2 : Nat) (Option.some Jvm.ClassFile.FieldType.int)).before args0 about1 = true := code_word (m := ⟨17, 1⟩) (meth := k17m1) (c := k17c1) (by decide +kernel) rfl rfl rfl (by decide +kernel)
set_option maxRecDepth 65536 in
theorem w_c37 : (Jvm.Cond.code ({ cls := "java/util/Arrays", name := "copyOf", desc := "([BI)[B" } : Jvm.MethodName) jdk_65_method_121_code (3 : Nat) (Option.some (Jvm.ClassFile.FieldType.array Jvm.ClassFile.FieldType.byte))).before args0 about1 = true := code_word (m := ⟨16, 1⟩) (meth := k16m1) (c := k16c1) (by decide +kernel) rfl rfl rfl (by decide +kernel)
def codes1 : List Jvm.Cond := [Jvm.Cond.code x code maxLocals ret, Jvm.Cond.code ({ cls := "com/example/oplim/oplim/Keys", name := "period", desc := "(J)Ljava/lang/String;" } : Jvm.MethodName) prog_4_method_4_code (3 : Nat) (Option.some (Jvm.ClassFile.FieldType.object "java/lang/String")), Jvm.Cond.code ({ cls := "java/lang/StringBuilder", name := "<init>", desc := "()V" } : Jvm.MethodName) jdk_67_method_1_code (1 : Nat) (Option.none : Option Jvm.ClassFile.FieldType), Jvm.Cond.code ({ cls := "java/lang/AbstractStringBuilder", name := "<init>", desc := "(I)V" } : Jvm.MethodName) jdk_68_method_2_code (2 : Nat) (Option.none : Option Jvm.ClassFile.FieldType), Jvm.Cond.code ({ cls := "java/lang/Object", name := "<init>", desc := "()V" } : Jvm.MethodName) object_method_1_code (1 : Nat) (Option.none : Option Jvm.ClassFile.FieldType), Jvm.Cond.code ({ cls := "java/lang/StringBuilder", name := "append", desc := "(J)Ljava/lang/StringBuilder;" } : Jvm.MethodName) jdk_67_method_16_code (3 : Nat) (Option.some (Jvm.ClassFile.FieldType.object "java/lang/StringBuilder")), Jvm.Cond.code ({ cls := "java/lang/AbstractStringBuilder", name := "append", desc := "(J)Ljava/lang/AbstractStringBuilder;" } : Jvm.MethodName) jdk_68_method_33_code (5 : Nat) (Option.some (Jvm.ClassFile.FieldType.object "java/lang/AbstractStringBuilder")), Jvm.Cond.code ({ cls := "java/lang/Long", name := "stringSize", desc := "(J)I" } : Jvm.MethodName) jdk_35_method_15_code (6 : Nat) (Option.some Jvm.ClassFile.FieldType.int), Jvm.Cond.code ({ cls := "java/lang/AbstractStringBuilder", name := "ensureCapacityInternal", desc := "(I)V" } : Jvm.MethodName) jdk_68_method_9_code (3 : Nat) (Option.none : Option Jvm.ClassFile.FieldType), Jvm.Cond.code ({ cls := "java/lang/AbstractStringBuilder", name := "isLatin1", desc := "()Z" } : Jvm.MethodName) jdk_68_method_68_code (1 : Nat) (Option.some Jvm.ClassFile.FieldType.boolean), Jvm.Cond.code ({ cls := "java/lang/Long", name := "getChars", desc := "(JI[B)I" } : Jvm.MethodName) jdk_35_method_14_code (11 : Nat) (Option.some Jvm.ClassFile.FieldType.int), Jvm.Cond.code ({ cls := "java/lang/StringBuilder", name := "append", desc := "(Ljava/lang/String;)Ljava/lang/StringBuilder;" } : Jvm.MethodName) jdk_67_method_7_code (2 : Nat) (Option.some (Jvm.ClassFile.FieldType.object "java/lang/StringBuilder")), Jvm.Cond.code ({ cls := "java/lang/AbstractStringBuilder", name := "append", desc := "(Ljava/lang/String;)Ljava/lang/AbstractStringBuilder;" } : Jvm.MethodName) jdk_68_method_22_code (3 : Nat) (Option.some (Jvm.ClassFile.FieldType.object "java/lang/AbstractStringBuilder")), Jvm.Cond.code ({ cls := "java/lang/String", name := "length", desc := "()I" } : Jvm.MethodName) jdk_42_method_54_code (1 : Nat) (Option.some Jvm.ClassFile.FieldType.int), Jvm.Cond.code ({ cls := "java/lang/String", name := "coder", desc := "()B" } : Jvm.MethodName) jdk_42_method_152_code (1 : Nat) (Option.some Jvm.ClassFile.FieldType.byte), Jvm.Cond.code ({ cls := "java/lang/AbstractStringBuilder", name := "putStringAt", desc := "(ILjava/lang/String;)V" } : Jvm.MethodName) jdk_68_method_73_code (3 : Nat) (Option.none : Option Jvm.ClassFile.FieldType), Jvm.Cond.code ({ cls := "java/lang/AbstractStringBuilder", name := "inflateIfNeededFor", desc := "(Ljava/lang/String;)V" } : Jvm.MethodName) jdk_68_method_71_code (2 : Nat) (Option.none : Option Jvm.ClassFile.FieldType), Jvm.Cond.code ({ cls := "java/lang/String", name := "getBytes", desc := "([BIB)V" } : Jvm.MethodName) jdk_42_method_147_code (4 : Nat) (Option.none : Option Jvm.ClassFile.FieldType), Jvm.Cond.code ({ cls := "java/lang/StringBuilder", name := "toString", desc := "()Ljava/lang/String;" } : Jvm.MethodName) jdk_67_method_42_code (1 : Nat) (Option.some (Jvm.ClassFile.FieldType.object "java/lang/String")), Jvm.Cond.code ({ cls := "java/lang/String", name := "<init>", desc := "(Ljava/lang/StringBuilder;)V" } : Jvm.MethodName) jdk_42_method_53_code (2 : Nat) (Option.none : Option Jvm.ClassFile.FieldType), Jvm.Cond.code ({ cls := "java/lang/String", name := "<init>", desc := "(Ljava/lang/AbstractStringBuilder;Ljava/lang/Void;)V" } : Jvm.MethodName) jdk_42_method_150_code (5 : Nat) (Option.none : Option Jvm.ClassFile.FieldType), Jvm.Cond.code ({ cls := "java/lang/AbstractStringBuilder", name := "getValue", desc := "()[B" } : Jvm.MethodName) jdk_68_method_64_code (1 : Nat) (Option.some (Jvm.ClassFile.FieldType.array Jvm.ClassFile.FieldType.byte)), Jvm.Cond.code ({ cls := "java/lang/StringBuilder", name := "length", desc := "()I" } : Jvm.MethodName) jdk_67_method_93_code (1 : Nat) (Option.some Jvm.ClassFile.FieldType.int), Jvm.Cond.code ({ cls := "java/lang/AbstractStringBuilder", name := "length", desc := "()I" } : Jvm.MethodName) jdk_68_method_6_code (1 : Nat) (Option.some Jvm.ClassFile.FieldType.int), Jvm.Cond.code ({ cls := "java/util/Arrays", name := "copyOfRange", desc := "([BII)[B" } : Jvm.MethodName) jdk_65_method_132_code (3 : Nat) (Option.some (Jvm.ClassFile.FieldType.array Jvm.ClassFile.FieldType.byte)), Jvm.Cond.code ({ cls := "java/util/Arrays", name := "copyOfRangeByte", desc := "([BII)[B" } : Jvm.MethodName) jdk_65_method_133_code (5 : Nat) (Option.some (Jvm.ClassFile.FieldType.array Jvm.ClassFile.FieldType.byte)), Jvm.Cond.code ({ cls := "java/util/Arrays", name := "checkLength", desc := "(II)V" } : Jvm.MethodName) jdk_65_method_131_code (2 : Nat) (Option.none : Option Jvm.ClassFile.FieldType), Jvm.Cond.code ({ cls := "java/lang/Math", name := "min", desc := "(II)I" } : Jvm.MethodName) jdk_29_method_69_code (2 : Nat) (Option.some Jvm.ClassFile.FieldType.int), Jvm.Cond.code ({ cls := "java/lang/String", name := "charAt", desc := "(I)C" } : Jvm.MethodName) jdk_42_method_56_code (2 : Nat) (Option.some Jvm.ClassFile.FieldType.char), Jvm.Cond.code ({ cls := "java/lang/String", name := "isLatin1", desc := "()Z" } : Jvm.MethodName) jdk_42_method_154_code (1 : Nat) (Option.some Jvm.ClassFile.FieldType.boolean), Jvm.Cond.code ({ cls := "java/lang/StringLatin1", name := "charAt", desc := "([BI)C" } : Jvm.MethodName) jdk_43_method_2_code (2 : Nat) (Option.some Jvm.ClassFile.FieldType.char), Jvm.Cond.code ({ cls := "java/lang/String", name := "checkIndex", desc := "(II)V" } : Jvm.MethodName) jdk_42_method_155_code (2 : Nat) (Option.none : Option Jvm.ClassFile.FieldType), Jvm.Cond.code ({ cls := "jdk/internal/util/Preconditions", name := "checkIndex", desc := "(IILjava/util/function/BiFunction;)I" } : Jvm.MethodName) jdk_41_method_11_code (3 : Nat) (Option.some Jvm.ClassFile.FieldType.int), Jvm.Cond.code ({ cls := "com/example/oplim/oplim/KeysPeriodPinLaw", name := "dig", desc := "(Ljava/lang/String;IJ[JI)Z" } : Jvm.MethodName) method_3_code (7 : Nat) (Option.some Jvm.ClassFile.FieldType.boolean), Jvm.Cond.code ({ cls := "java/lang/AbstractStringBuilder", name := "newCapacity", desc := "(I)I" } : Jvm.MethodName) jdk_68_method_10_code (6 : Nat) (Option.some Jvm.ClassFile.FieldType.int), Jvm.Cond.code ({ cls := "jdk/internal/util/ArraysSupport", name := "newLength", desc := "(III)I" } : Jvm.MethodName) jdk_48_method_27_code (4 : Nat) (Option.some Jvm.ClassFile.FieldType.int), Jvm.Cond.code ({ cls := "java/lang/Math", name := "max", desc := "(II)I" } : Jvm.MethodName) jdk_29_method_65_code (2 : Nat) (Option.some Jvm.ClassFile.FieldType.int), Jvm.Cond.code ({ cls := "java/util/Arrays", name := "copyOf", desc := "([BI)[B" } : Jvm.MethodName) jdk_65_method_121_code (3 : Nat) (Option.some (Jvm.ClassFile.FieldType.array Jvm.ClassFile.FieldType.byte))]
set_option maxRecDepth 65536 in
theorem codes_eq : words1.filter isCode = codes1 := rfl
theorem w_codes : ∀ c ∈ words1.filter isCode, c.before args0 about1 = true := by
  rw [codes_eq]
  intro c hc
  simp only [codes1, List.mem_cons, List.not_mem_nil, or_false] at hc
  rcases hc with rfl | rfl | rfl | rfl | rfl | rfl | rfl | rfl | rfl | rfl | rfl | rfl | rfl | rfl | rfl | rfl | rfl | rfl | rfl | rfl | rfl | rfl | rfl | rfl | rfl | rfl | rfl | rfl | rfl | rfl | rfl | rfl | rfl | rfl | rfl | rfl | rfl | rfl
  · exact w_c0
  · exact w_c1
  · exact w_c2
  · exact w_c3
  · exact w_c4
  · exact w_c5
  · exact w_c6
  · exact w_c7
  · exact w_c8
  · exact w_c9
  · exact w_c10
  · exact w_c11
  · exact w_c12
  · exact w_c13
  · exact w_c14
  · exact w_c15
  · exact w_c16
  · exact w_c17
  · exact w_c18
  · exact w_c19
  · exact w_c20
  · exact w_c21
  · exact w_c22
  · exact w_c23
  · exact w_c24
  · exact w_c25
  · exact w_c26
  · exact w_c27
  · exact w_c28
  · exact w_c29
  · exact w_c30
  · exact w_c31
  · exact w_c32
  · exact w_c33
  · exact w_c34
  · exact w_c35
  · exact w_c36
  · exact w_c37
set_option maxRecDepth 65536 in
theorem w_t1 : (words1.take 24).all (fun c => isCode c || c.before args0 about1) = true := by decide +kernel
set_option maxRecDepth 65536 in
theorem w_t2 : ((words1.drop 24).take 24).all (fun c => isCode c || c.before args0 about1) = true := by decide +kernel
set_option maxRecDepth 65536 in
theorem w_t3 : (((words1.drop 24).drop 24).take 24).all (fun c => isCode c || c.before args0 about1) = true := by decide +kernel
set_option maxRecDepth 65536 in
theorem w_t4 : ((((words1.drop 24).drop 24).drop 24).take 24).all (fun c => isCode c || c.before args0 about1) = true := by decide +kernel
set_option maxRecDepth 65536 in
theorem w_t5 : (((((words1.drop 24).drop 24).drop 24).drop 24).take 24).all (fun c => isCode c || c.before args0 about1) = true := by decide +kernel
set_option maxRecDepth 65536 in
theorem w_t6 : ((((((words1.drop 24).drop 24).drop 24).drop 24).drop 24).take 24).all (fun c => isCode c || c.before args0 about1) = true := by decide +kernel
set_option maxRecDepth 65536 in
theorem w_t7 : (((((((words1.drop 24).drop 24).drop 24).drop 24).drop 24).drop 24).take 24).all (fun c => isCode c || c.before args0 about1) = true := by decide +kernel
set_option maxRecDepth 65536 in
theorem w_t8 : ((((((((words1.drop 24).drop 24).drop 24).drop 24).drop 24).drop 24).drop 24).take 24).all (fun c => isCode c || c.before args0 about1) = true := by decide +kernel
set_option maxRecDepth 65536 in
theorem w_t9 : (((((((((words1.drop 24).drop 24).drop 24).drop 24).drop 24).drop 24).drop 24).drop 24).take 24).all (fun c => isCode c || c.before args0 about1) = true := by decide +kernel
set_option maxRecDepth 65536 in
theorem w_t10 : (((((((((words1.drop 24).drop 24).drop 24).drop 24).drop 24).drop 24).drop 24).drop 24).drop 24).all (fun c => isCode c || c.before args0 about1) = true := by decide +kernel
theorem w_tables : (allAtoms (Jvm.Cond.code x code maxLocals ret :: tables_1)).before args0 about1 = true := by
  rw [allAtoms_all]
  show words1.all (fun c => c.before args0 about1) = true
  refine all_split ?_ w_codes
  rw [← List.take_append_drop 24 words1, List.all_append, w_t1, ← List.take_append_drop 24 (words1.drop 24), List.all_append, w_t2, ← List.take_append_drop 24 ((words1.drop 24).drop 24), List.all_append, w_t3, ← List.take_append_drop 24 (((words1.drop 24).drop 24).drop 24), List.all_append, w_t4, ← List.take_append_drop 24 ((((words1.drop 24).drop 24).drop 24).drop 24), List.all_append, w_t5, ← List.take_append_drop 24 (((((words1.drop 24).drop 24).drop 24).drop 24).drop 24), List.all_append, w_t6, ← List.take_append_drop 24 ((((((words1.drop 24).drop 24).drop 24).drop 24).drop 24).drop 24), List.all_append, w_t7, ← List.take_append_drop 24 (((((((words1.drop 24).drop 24).drop 24).drop 24).drop 24).drop 24).drop 24), List.all_append, w_t8, ← List.take_append_drop 24 ((((((((words1.drop 24).drop 24).drop 24).drop 24).drop 24).drop 24).drop 24).drop 24), List.all_append, w_t9, w_t10]
  rfl
set_option maxRecDepth 65536 in
theorem w_rest : rest_1_c.before args0 about1 = true := by decide +kernel
set_option maxRecDepth 65536 in
theorem w_case : (Jvm.Cond.and given_1 narrow_1).before args0 about1 = true := by decide +kernel
set_option maxRecDepth 65536 in
theorem w_consts : constsHeld consts_1 about1 := Jvm.Lit.constsHeldB_iff.mp (by decide +kernel)
theorem w_applies : (headSpec (Jvm.Cond.code x code maxLocals ret :: tables_1) room_1).applies x e0.platform about1 = true :=
  (Spec.applies_iff w_frames).mpr ⟨w_running, w_runnable, w_alone, w_named, w_hears, w_ripe, w_room, w_tables⟩
theorem atStart : AtStart classFile x code maxLocals ret World_1 tables_1 room_1 Calls_1 rest_1 Pre_1 launch0 p0 e0 about1 theMethod args0 below0 :=
  ⟨lists_1, trivial, launch0.admits_env _ _ _, launch0.least_env, fairChoices_fair.cas, fairChoices_fair.clock, w_frames, w_args, w_heap, w_applies, ⟨w_consts, trivial⟩, w_rest, w_case⟩
end start1
theorem witness_1 : WitnessClaimed_1 := ⟨start1.p0, start1.e0, start1.about1, start1.theMethod, start1.args0, start1.below0, start1.atStart⟩
end Jvm.Pilot.@@N@@
