import JvmDerived
import JvmDerived.Pilot.@@N@@Statement
import JvmDerived.Pilot.@@N@@Code
set_option linter.unusedVariables false
set_option linter.unusedSimpArgs false
@@BLOCK:NumsL.lean.txt@@
/- laws to paste: Road.backV, Road.eqW, Road.codOf (cut by pick.py; bodies as the Statement names them) -/
namespace Jvm.Pilot.@@N@@
namespace StrChars
open Jvm Sem ClassFile Op Lib Jvm.Stand Jvm.Free.XT Jvm.Free.ALB Jvm.Free.JM Jvm.Free
open Jvm.Lib.Cold (StaticIs)
/-- a char array whose places are chars -/
def Ch (a : Addr) (A : Cell) (U : State) : Prop := Arr .char a A U ∧ Typed .char A
theorem Ch.mv {a : Addr} {A : Cell} {U U' : State} (h : Ch a A U) (hal : U.vm.Alike U'.vm) (hh : U'.heap = U.heap) : Ch a A U' := ⟨h.1.mv hal hh, h.2⟩
theorem Ch.keep {a : Addr} {A : Cell} {U U' : State} (h : Ch a A U) (hal : U.vm.Alike U'.vm) (hk : U'.heap[a]? = some A) : Ch a A U' := ⟨h.1.keep hal hk, h.2⟩
/-- what place i of a char[]'s cell holds -/
def cv (A : Cell) (i : Nat) : Int32 := match A.slots[i]? with | some (.int x) => x | _ => 0
theorem Ch.get {a : Addr} {A : Cell} {U : State} (h : Ch a A U) {i : Nat} (hi : i < A.slots.size) : A.slots[i]? = some (.int (cv A i)) := by
  have e := Array.getElem?_eq_getElem hi
  have f := h.2 i _ e
  unfold cv; rw [e]
  generalize A.slots[i] = v at f
  cases v <;> simp [fits] at f ⊢
/-- the byte that i2b leaves of a char -/
def lo8 (x : Int32) : Int32 := x.toInt8.toInt32
theorem fits_lo8 (y : Int32) : fits .byte (.int (lo8 y)) = true := by
  have h1 := y.toInt8.le_toInt
  have h2 := y.toInt8.toInt_lt
  simp only [lo8, fits, Bool.and_eq_true, decide_eq_true_eq, Int32.le_iff_toInt_le, Int8.toInt_toInt32, show (-128 : Int32).toInt = -128 from by decide, show (127 : Int32).toInt = 127 from by decide]
  omega
/-- A' is A but that each place j of lo .. hi - 1 holds f j -/
def Laid (A A' : Cell) (lo hi : Nat) (f : Nat → Value) : Prop := A'.cls = A.cls ∧ A'.vm = A.vm ∧ A'.slots.size = A.slots.size ∧ ∀ i, A'.slots[i]? = if lo ≤ i ∧ i < hi then some (f i) else A.slots[i]?
theorem Laid.zero (A : Cell) (lo : Nat) (f : Nat → Value) : Laid A A lo (lo + 0) f := ⟨rfl, rfl, rfl, fun i => by rw [if_neg (by omega)]⟩
theorem Laid.step {A Ak : Cell} {lo k : Nat} {f : Nat → Value} {v : Value} (h : Laid A Ak lo k f) (hlo : lo ≤ k) (hk : k < Ak.slots.size) (hv : v = f k) : Laid A (Ak.setSlot k v) lo (k + 1) f := by
  refine ⟨h.1, h.2.1, by simpa [Cell.setSlot] using h.2.2.1, fun i => ?_⟩
  by_cases e : k = i
  · subst e; rw [Cell.slots_setSlot_self v hk, if_pos (by omega), hv]
  · rw [Cell.slots_setSlot_ne v e, h.2.2.2 i]
    by_cases q : lo ≤ i ∧ i < k
    · rw [if_pos q, if_pos (by omega)]
    · rw [if_neg q, if_neg (by omega)]
def U16 : String := "java/lang/StringUTF16"
namespace Cmp5
def yN : MethodName := ⟨"java/lang/StringUTF16", "compress", "([CI[BII)I"⟩
abbrev yB : ByteArray := jdk_52_method_21_code
theorem d0 : decode yB 0 = .ok (.iconst 0, 1) := by decide +kernel
theorem d1 : decode yB 1 = .ok (.istore 5, 2) := by decide +kernel
theorem d3 : decode yB 3 = .ok (.iload 5, 2) := by decide +kernel
theorem d5 : decode yB 5 = .ok (.iload 4, 2) := by decide +kernel
theorem d7 : decode yB 7 = .ok (.if_icmp (.ge) 37, 3) := by decide +kernel
theorem d10 : decode yB 10 = .ok (.aload_n 0, 1) := by decide +kernel
theorem d11 : decode yB 11 = .ok (.iload_n 1, 1) := by decide +kernel
theorem d12 : decode yB 12 = .ok (.caload, 1) := by decide +kernel
theorem d13 : decode yB 13 = .ok (.istore 6, 2) := by decide +kernel
theorem d15 : decode yB 15 = .ok (.iload 6, 2) := by decide +kernel
theorem d17 : decode yB 17 = .ok (.sipush 255, 3) := by decide +kernel
theorem d20 : decode yB 20 = .ok (.if_icmp (.le) 6, 3) := by decide +kernel
theorem d26 : decode yB 26 = .ok (.aload_n 2, 1) := by decide +kernel
theorem d27 : decode yB 27 = .ok (.iload_n 3, 1) := by decide +kernel
theorem d28 : decode yB 28 = .ok (.iload 6, 2) := by decide +kernel
theorem d30 : decode yB 30 = .ok (.i2b, 1) := by decide +kernel
theorem d31 : decode yB 31 = .ok (.bastore, 1) := by decide +kernel
theorem d32 : decode yB 32 = .ok (.iinc 1 1, 3) := by decide +kernel
theorem d35 : decode yB 35 = .ok (.iinc 3 1, 3) := by decide +kernel
theorem d38 : decode yB 38 = .ok (.iinc 5 1, 3) := by decide +kernel
theorem d41 : decode yB 41 = .ok (.goto (-38), 3) := by decide +kernel
theorem d44 : decode yB 44 = .ok (.iload 4, 2) := by decide +kernel
theorem d46 : decode yB 46 = .ok (.ireturn, 1) := by decide +kernel
def site : List Cond := []
def tab : Cond := tabOf yN yB 7 (some .int) site
def P (b : Addr) (A : Cell) (d : Addr) (B : Cell) (o q len : Nat) (args : Array Value) (s : State) : Prop := args = #[.ref b, .int (Int32.ofNat o), .ref d, .int (Int32.ofNat q), .int (Int32.ofNat len)] ∧ Ch b A s ∧ Arr .byte d B s ∧ b ≠ d ∧ o + len ≤ A.slots.size ∧ q + len ≤ B.slots.size ∧ ∀ i, i < len → ¬ 255 < cv A (o + i)
def E (b : Addr) (A : Cell) (d : Addr) (B : Cell) (o q len : Nat) (r : Option Value) (s u : State) : Prop := r = some (.int (Int32.ofNat len)) ∧ ∃ B', Put d B' s u ∧ Laid B B' q (q + len) (fun j => Value.int (lo8 (cv A (o + (j - q)))))
/-- no char of the range above 255: len; the places written hold each char's low byte -/
theorem law (l : Launch) (b : Addr) (A : Cell) (d : Addr) (B : Cell) (o q len : Nat) : Law l yN 5 5 0 0 yB 7 (some .int) site (P b A d B o q len) (E b A d B o q len) (copyLocs d q len) 0 0 := by
  refine Law.of_walk (plainFor_of_name (by decide +kernel)) (by decide +kernel) (by decide +kernel) (by decide) (fun _ _ h => by rw [h.1]; rfl) (fun _ U U' hal hh h => ⟨h.1, h.2.1.mv hal hh, h.2.2.1.mv hal hh, h.2.2.2⟩) (fun r U U' V V' h1 hal h2 h => ⟨h.1, h.2.elim fun B' q => ⟨B', q.1.mv h1 h2, q.2⟩⟩) ?_
  intro p e s m args below meth c s₁ X0 hexec hbytes hml hret hlk hnm hown hh0 W hP
  obtain ⟨rfl, hA, hB, hne, l1, l2, hp⟩ := hP
  have c1 : Steps p.tables e below (s₁.setTop (entryFrame m #[.ref b, .int (Int32.ofNat o), .ref d, .int (Int32.ofNat q), .int (Int32.ofNat len)] 7)) (s₁.setTop (mkF m 0 #[.val (.ref b), .val (.int (Int32.ofNat o)), .val (.ref d), .val (.int (Int32.ofNat q)), .val (.int (Int32.ofNat len)), .unset, .unset] [])) := entry rfl
  have hA0 := hA.1.mv X0.warmed.alike hh0
  have hB0 := hB.mv X0.warmed.alike hh0
  have a31 := hA.1.2.2.2
  have c2 : Steps p.tables e below (s₁.setTop (entryFrame m #[.ref b, .int (Int32.ofNat o), .ref d, .int (Int32.ofNat q), .int (Int32.ofNat len)] 7)) (s₁.setTop (mkF m 3 #[.val (.ref b), .val (.int (Int32.ofNat o)), .val (.ref d), .val (.int (Int32.ofNat q)), .val (.int (Int32.ofNat len)), .val (.int 0), .unset] [])) := c1.trans (by
    refine iconstV X0.here hexec rfl 0 (hb hbytes d0) (by decide) ?_
    refine XS.istore X0.here hexec rfl (hb hbytes d1) rfl rfl ?_
    exact Steps.refl _)
  have loop : ∀ (r i : Nat), i + r = len → ∀ (z : Slot), (z = .unset ∨ ∃ w, z = .val w ∧ w.category = 1) → ∀ (Tl : State) (Bk : Cell), Stand p l e { frames := 0, locals := 0, cells := 0, slots := 0 } s m #[.ref b, .int (Int32.ofNat o), .ref d, .int (Int32.ofNat q), .int (Int32.ofNat len)] below meth c Tl ([] ++ copyLocs d q i) 0 0 → Put d Bk s₁ Tl → Laid B Bk q (q + i) (fun j => Value.int (lo8 (cv A (o + (j - q))))) →
      Steps p.tables e below (s₁.setTop (entryFrame m #[.ref b, .int (Int32.ofNat o), .ref d, .int (Int32.ofNat q), .int (Int32.ofNat len)] 7)) (Tl.setTop (mkF m 3 #[.val (.ref b), .val (.int (Int32.ofNat (o + i))), .val (.ref d), .val (.int (Int32.ofNat (q + i))), .val (.int (Int32.ofNat len)), .val (.int (Int32.ofNat i)), z] [])) → ∃ (T' : State) (B' : Cell) (z' : Slot), Stand p l e { frames := 0, locals := 0, cells := 0, slots := 0 } s m #[.ref b, .int (Int32.ofNat o), .ref d, .int (Int32.ofNat q), .int (Int32.ofNat len)] below meth c T' ([] ++ copyLocs d q len) 0 0 ∧ Put d B' s₁ T' ∧ Laid B B' q (q + len) (fun j => Value.int (lo8 (cv A (o + (j - q))))) ∧
      Steps p.tables e below (s₁.setTop (entryFrame m #[.ref b, .int (Int32.ofNat o), .ref d, .int (Int32.ofNat q), .int (Int32.ofNat len)] 7)) (T'.setTop (mkF m 3 #[.val (.ref b), .val (.int (Int32.ofNat (o + len))), .val (.ref d), .val (.int (Int32.ofNat (q + len))), .val (.int (Int32.ofNat len)), .val (.int (Int32.ofNat len)), z'] [])) := by
    intro r
    induction r with
    | zero =>
      intro i hi z hz Tl Bk Xl pl fl cl
      have hil : i = len := by omega
      rw [hil] at Xl fl cl
      exact ⟨Tl, Bk, z, Xl, pl, fl, cl⟩
    | succ r ih =>
      intro i hi z hz Tl Bk Xl pl fl cl
      have all := X0.warmed.alike.symm.trans Xl.warmed.alike
      have hAl := hA0.keep all (pl.other hne hA0.1)
      have hBk := hB0.like all pl.1 fl.1 fl.2.1 fl.2.2.1
      have hlt : q + i < Bk.slots.size := by rw [fl.2.2.1]; omega
      have c3 : Steps p.tables e below (s₁.setTop (entryFrame m #[.ref b, .int (Int32.ofNat o), .ref d, .int (Int32.ofNat q), .int (Int32.ofNat len)] 7)) (Tl.setTop (mkF m 12 #[.val (.ref b), .val (.int (Int32.ofNat (o + i))), .val (.ref d), .val (.int (Int32.ofNat (q + i))), .val (.int (Int32.ofNat len)), .val (.int (Int32.ofNat i)), z] [.int (Int32.ofNat (o + i)), .ref b])) := cl.trans (by
        refine XS.iload Xl.here hexec rfl (hb hbytes d3) rfl ?_
        refine XS.iload Xl.here hexec rfl (hb hbytes d5) rfl ?_
        refine XS.icmpNo Xl.here hexec rfl (hb hbytes d7) rfl (ii_ge_f (lt32 (by omega) (by omega))) ?_
        refine XS.aloadN Xl.here hexec rfl (hb hbytes d10) rfl rfl ?_
        refine XS.iloadN Xl.here hexec rfl (hb hbytes d11) rfl ?_
        exact Steps.refl _)
      have c4 : Steps p.tables e below (s₁.setTop (entryFrame m #[.ref b, .int (Int32.ofNat o), .ref d, .int (Int32.ofNat q), .int (Int32.ofNat len)] 7)) (Tl.setTop (mkF m 13 #[.val (.ref b), .val (.int (Int32.ofNat (o + i))), .val (.ref d), .val (.int (Int32.ofNat (q + i))), .val (.int (Int32.ofNat len)), .val (.int (Int32.ofNat i)), z] [.int (cv A (o + i))])) := c3.trans (by
        refine Xl.aget hexec hAl rfl (hA.get (i := o + i) (by omega)) rfl rfl (hb hbytes d12) ?_
        exact Steps.refl _)
      have c5 : Steps p.tables e below (s₁.setTop (entryFrame m #[.ref b, .int (Int32.ofNat o), .ref d, .int (Int32.ofNat q), .int (Int32.ofNat len)] 7)) (Tl.setTop (mkF m 15 #[.val (.ref b), .val (.int (Int32.ofNat (o + i))), .val (.ref d), .val (.int (Int32.ofNat (q + i))), .val (.int (Int32.ofNat len)), .val (.int (Int32.ofNat i)), .val (.int (cv A (o + i)))] [])) := c4.trans (by
        refine XS.istoreS Xl.here hexec rfl (hb hbytes d13) rfl rfl hz ?_
        exact Steps.refl _)
      have c6 : Steps p.tables e below (s₁.setTop (entryFrame m #[.ref b, .int (Int32.ofNat o), .ref d, .int (Int32.ofNat q), .int (Int32.ofNat len)] 7)) (Tl.setTop (mkF m 31 #[.val (.ref b), .val (.int (Int32.ofNat (o + i))), .val (.ref d), .val (.int (Int32.ofNat (q + i))), .val (.int (Int32.ofNat len)), .val (.int (Int32.ofNat i)), .val (.int (cv A (o + i)))] [.int (lo8 (cv A (o + i))), .int (Int32.ofNat (q + i)), .ref d])) := c5.trans (by
        refine XS.iload Xl.here hexec rfl (hb hbytes d15) rfl ?_
        refine sipushV Xl.here hexec rfl 255 (hb hbytes d17) (by decide) ?_
        refine XS.icmpYes Xl.here hexec rfl (pc0 := 20) rfl (hb hbytes d20) rfl (ii_le_t (hp i (by omega))) (by decide) rfl ?_
        refine XS.aloadN Xl.here hexec rfl (hb hbytes d26) rfl rfl ?_
        refine XS.iloadN Xl.here hexec rfl (hb hbytes d27) rfl ?_
        refine XS.iload Xl.here hexec rfl (hb hbytes d28) rfl ?_
        refine i2b Xl.here hexec rfl (hb hbytes d30) rfl ?_
        exact Steps.refl _)
      obtain ⟨T7, X7, p7, st7⟩ := Xl.aput hexec hBk rfl hlt rfl (fits_lo8 (cv A (o + i))) (g := (mkF m 31 #[.val (.ref b), .val (.int (Int32.ofNat (o + i))), .val (.ref d), .val (.int (Int32.ofNat (q + i))), .val (.int (Int32.ofNat len)), .val (.int (Int32.ofNat i)), .val (.int (cv A (o + i)))] [.int (lo8 (cv A (o + i))), .int (Int32.ofNat (q + i)), .ref d])) rfl (rest := []) rfl (hb hbytes d31)
      have c8 : Steps p.tables e below (s₁.setTop (entryFrame m #[.ref b, .int (Int32.ofNat o), .ref d, .int (Int32.ofNat q), .int (Int32.ofNat len)] 7)) (T7.setTop (mkF m 32 #[.val (.ref b), .val (.int (Int32.ofNat (o + i))), .val (.ref d), .val (.int (Int32.ofNat (q + i))), .val (.int (Int32.ofNat len)), .val (.int (Int32.ofNat i)), .val (.int (cv A (o + i)))] [])) := c6.trans (st7 _ (Steps.refl _))
      have c9 : Steps p.tables e below (s₁.setTop (entryFrame m #[.ref b, .int (Int32.ofNat o), .ref d, .int (Int32.ofNat q), .int (Int32.ofNat len)] 7)) (T7.setTop (mkF m 3 #[.val (.ref b), .val (.int (Int32.ofNat (o + i) + 1)), .val (.ref d), .val (.int (Int32.ofNat (q + i) + 1)), .val (.int (Int32.ofNat len)), .val (.int (Int32.ofNat i + 1)), .val (.int (cv A (o + i)))] [])) := c8.trans (by
        refine iincV X7.here hexec rfl 1 (hb hbytes d32) (by decide) rfl rfl ?_
        refine iincV X7.here hexec rfl 1 (hb hbytes d35) (by decide) rfl rfl ?_
        refine iincV X7.here hexec rfl 1 (hb hbytes d38) (by decide) rfl rfl ?_
        refine XS.goto X7.here hexec rfl (pc0 := 41) rfl (hb hbytes d41) (by decide) rfl ?_
        exact Steps.refl _)
      have c10 : Steps p.tables e below (s₁.setTop (entryFrame m #[.ref b, .int (Int32.ofNat o), .ref d, .int (Int32.ofNat q), .int (Int32.ofNat len)] 7)) (T7.setTop (mkF m 3 #[.val (.ref b), .val (.int (Int32.ofNat (o + (i + 1)))), .val (.ref d), .val (.int (Int32.ofNat (q + (i + 1)))), .val (.int (Int32.ofNat len)), .val (.int (Int32.ofNat (i + 1))), .val (.int (cv A (o + i)))] [])) := by
        have := c9
        rw [succ32, succ32, succ32] at this
        exact this
      exact ih (i + 1) (by omega) _ (Or.inr ⟨_, rfl, rfl⟩) T7 _ (by rw [copyLocs_step, ← List.append_assoc]; exact X7) (pl.trans p7) (fl.step (by omega) hlt (by simp)) c10
  obtain ⟨T9, B9, z9, X9, p9, f9, g9⟩ := loop len 0 (by omega) .unset (Or.inl rfl) s₁ B (by simpa [copyLocs] using X0) ⟨hB0.1, fun _ _ => rfl, rfl⟩ (Laid.zero _ _ _) c2
  have c11 : Steps p.tables e below (s₁.setTop (entryFrame m #[.ref b, .int (Int32.ofNat o), .ref d, .int (Int32.ofNat q), .int (Int32.ofNat len)] 7)) (T9.setTop (mkF m 46 #[.val (.ref b), .val (.int (Int32.ofNat (o + len))), .val (.ref d), .val (.int (Int32.ofNat (q + len))), .val (.int (Int32.ofNat len)), .val (.int (Int32.ofNat len)), z9] [.int (Int32.ofNat len)])) := g9.trans (by
    refine XS.iload X9.here hexec rfl (hb hbytes d3) rfl ?_
    refine XS.iload X9.here hexec rfl (hb hbytes d5) rfl ?_
    refine XS.icmpYes X9.here hexec rfl (pc0 := 7) rfl (hb hbytes d7) rfl (ii_ge_t (nlt32 (by omega) (Nat.le_refl _))) (by decide) rfl ?_
    refine XS.iload X9.here hexec rfl (hb hbytes d44) rfl ?_
    exact Steps.refl _)
  exact ⟨T9, some (.int (Int32.ofNat len)), _, _, _, X9, by simp, rfl, rfl, (fun h => by cases h), ⟨rfl, B9, p9.from hh0, f9⟩, fun fs hl => c11.trans (X9.ireturnOut hexec hret rfl (Or.inl rfl) (hb hbytes d46) hl)⟩
end Cmp5
namespace Cmp3
def yN : MethodName := ⟨"java/lang/StringUTF16", "compress", "([CII)[B"⟩
abbrev yB : ByteArray := jdk_52_method_16_code
theorem d0 : decode yB 0 = .ok (.iload_n 2, 1) := by decide +kernel
theorem d1 : decode yB 1 = .ok (.newarray .byte, 2) := by decide +kernel
theorem d3 : decode yB 3 = .ok (.astore_n 3, 1) := by decide +kernel
theorem d4 : decode yB 4 = .ok (.aload_n 0, 1) := by decide +kernel
theorem d5 : decode yB 5 = .ok (.iload_n 1, 1) := by decide +kernel
theorem d6 : decode yB 6 = .ok (.aload_n 3, 1) := by decide +kernel
theorem d7 : decode yB 7 = .ok (.iconst 0, 1) := by decide +kernel
theorem d8 : decode yB 8 = .ok (.iload_n 2, 1) := by decide +kernel
theorem d9 : decode yB 9 = .ok (.invokestatic 115, 3) := by decide +kernel
theorem d12 : decode yB 12 = .ok (.istore 4, 2) := by decide +kernel
theorem d14 : decode yB 14 = .ok (.iload 4, 2) := by decide +kernel
theorem d16 : decode yB 16 = .ok (.iload_n 2, 1) := by decide +kernel
theorem d17 : decode yB 17 = .ok (.if_icmp (.eq) 40, 3) := by decide +kernel
theorem d57 : decode yB 57 = .ok (.aload_n 3, 1) := by decide +kernel
theorem d58 : decode yB 58 = .ok (.areturn, 1) := by decide +kernel
def site : List Cond := [.arrayClass .byte, Cmp5.tab] ++ staticW U16 115 Cmp5.yN
def tab : Cond := tabOf yN yB 6 (some (.array .byte)) site
def P (b : Addr) (A : Cell) (o len : Nat) (args : Array Value) (s : State) : Prop := args = #[.ref b, .int (Int32.ofNat o), .int (Int32.ofNat len)] ∧ Ch b A s ∧ o + len ≤ A.slots.size ∧ len ≤ 536870912 ∧ ∀ i, i < len → ¬ 255 < cv A (o + i)
def E (b : Addr) (A : Cell) (o len : Nat) (r : Option Value) (s u : State) : Prop := NewArr .byte "[B" len (fun j => .int (lo8 (cv A (o + j)))) r s u ∧ u.heap.size = s.heap.size + 1
/-- no char of the range above 255: a new byte[] of their low bytes -/
theorem law (l : Launch) (b : Addr) (A : Cell) (o len : Nat) : Law l yN 3 3 1 18 yB 6 (some (.array .byte)) site (P b A o len) (E b A o len) [] 1 len := by
  refine Law.of_walk (plainFor_of_name (by decide +kernel)) (by decide +kernel) (by decide +kernel) (by decide) (fun _ _ h => by rw [h.1]; rfl) (fun _ U U' hal hh h => ⟨h.1, h.2.1.mv hal hh, h.2.2⟩) (fun r U U' V V' h1 hal h2 h => ⟨NewArr.mv r U U' V V' h1 hal h2 h.1, by rw [h1, h2]; exact h.2⟩) ?_
  intro p e s m args below meth c s₁ X0 hexec hbytes hml hret hlk hnm hown hh0 W hP
  obtain ⟨rfl, hA, l1, l2, hp⟩ := hP
  have a31 := hA.1.2.2.2
  have c1 : Steps p.tables e below (s₁.setTop (entryFrame m #[.ref b, .int (Int32.ofNat o), .int (Int32.ofNat len)] 6)) (s₁.setTop (mkF m 0 #[.val (.ref b), .val (.int (Int32.ofNat o)), .val (.int (Int32.ofNat len)), .unset, .unset, .unset] [])) := entry rfl
  have c2 : Steps p.tables e below (s₁.setTop (entryFrame m #[.ref b, .int (Int32.ofNat o), .int (Int32.ofNat len)] 6)) (s₁.setTop (mkF m 1 #[.val (.ref b), .val (.int (Int32.ofNat o)), .val (.int (Int32.ofNat len)), .unset, .unset, .unset] [.int (Int32.ofNat len)])) := c1.trans (by
    refine XS.iloadN X0.here hexec rfl (hb hbytes d0) rfl ?_
    exact Steps.refl _)
  obtain ⟨T3, B3, X3, ba3, bs3, bv3, bh3, bf3, st3⟩ := X0.anew hexec (atype := .byte) (wk W (.arrayClass .byte)) rfl (by show len * 1 ≤ _; omega) (by omega) (g := (mkF m 1 #[.val (.ref b), .val (.int (Int32.ofNat o)), .val (.int (Int32.ofNat len)), .unset, .unset, .unset] [.int (Int32.ofNat len)])) rfl (hb hbytes d1) (rest := []) rfl (Nat.le_refl _) (by show 0 + len ≤ len; omega)
  rw [hh0] at ba3 st3
  have kp3 : XT.Kept s T3 := (XT.Kept.of_eq hh0).push bh3
  have hA3 := hA.keep X3.warmed.alike (kp3 _ _ hA.1.1)
  have hne : b ≠ s.heap.size := hA.1.ne
  have c4 : Steps p.tables e below (s₁.setTop (entryFrame m #[.ref b, .int (Int32.ofNat o), .int (Int32.ofNat len)] 6)) (T3.setTop (mkF m 3 #[.val (.ref b), .val (.int (Int32.ofNat o)), .val (.int (Int32.ofNat len)), .unset, .unset, .unset] [.ref s.heap.size])) := c2.trans (st3 _ (Steps.refl _))
  have c5 : Steps p.tables e below (s₁.setTop (entryFrame m #[.ref b, .int (Int32.ofNat o), .int (Int32.ofNat len)] 6)) (T3.setTop (mkF m 9 #[.val (.ref b), .val (.int (Int32.ofNat o)), .val (.int (Int32.ofNat len)), .val (.ref s.heap.size), .unset, .unset] [.int (Int32.ofNat len), .int 0, .ref s.heap.size, .int (Int32.ofNat o), .ref b])) := c4.trans (by
    refine XS.astoreN X3.here hexec rfl (hb hbytes d3) rfl rfl rfl ?_
    refine XS.aloadN X3.here hexec rfl (hb hbytes d4) rfl rfl ?_
    refine XS.iloadN X3.here hexec rfl (hb hbytes d5) rfl ?_
    refine XS.aloadN X3.here hexec rfl (hb hbytes d6) rfl rfl ?_
    refine iconstV X3.here hexec rfl 0 (hb hbytes d7) (by decide) ?_
    refine XS.iloadN X3.here hexec rfl (hb hbytes d8) rfl ?_
    exact Steps.refl _)
  obtain ⟨v6, T6, X6, E6, g6⟩ := X3.callS hexec (Cmp5.law l b A s.heap.size B3 o 0 len) hown (wks W (staticW U16 115 Cmp5.yN)) (wk W Cmp5.tab) (W := 0) (Nat.le_of_ble_eq_true rfl) (Nat.le_of_ble_eq_true rfl) (Nat.le_refl _) (by show 0 + len + 0 ≤ len; omega) (g := (mkF m 9 #[.val (.ref b), .val (.int (Int32.ofNat o)), .val (.int (Int32.ofNat len)), .val (.ref s.heap.size), .unset, .unset] [.int (Int32.ofNat len), .int (Int32.ofNat 0), .ref s.heap.size, .int (Int32.ofNat o), .ref b])) rfl (by rw [hml]; rfl) c5 (argsL := [.ref b, .int (Int32.ofNat o), .ref s.heap.size, .int (Int32.ofNat 0), .int (Int32.ofNat len)]) (rest := []) rfl rfl (by show 2 * 0 + 0 ≤ _; decide) (hb hbytes d9) (⟨rfl, hA3, ba3, hne, l1, by rw [bs3]; simp, hp⟩)
  obtain ⟨rfl, B6, p6, f6⟩ := E6
  have c7 : Steps p.tables e below (s₁.setTop (entryFrame m #[.ref b, .int (Int32.ofNat o), .int (Int32.ofNat len)] 6)) (T6.setTop (mkF m 12 #[.val (.ref b), .val (.int (Int32.ofNat o)), .val (.int (Int32.ofNat len)), .val (.ref s.heap.size), .unset, .unset] [.int (Int32.ofNat len)])) := g6
  have c8 : Steps p.tables e below (s₁.setTop (entryFrame m #[.ref b, .int (Int32.ofNat o), .int (Int32.ofNat len)] 6)) (T6.setTop (mkF m 58 #[.val (.ref b), .val (.int (Int32.ofNat o)), .val (.int (Int32.ofNat len)), .val (.ref s.heap.size), .val (.int (Int32.ofNat len)), .unset] [.ref s.heap.size])) := c7.trans (by
    refine XS.istore X6.here hexec rfl (hb hbytes d12) rfl rfl ?_
    refine XS.iload X6.here hexec rfl (hb hbytes d14) rfl ?_
    refine XS.iloadN X6.here hexec rfl (hb hbytes d16) rfl ?_
    refine XS.icmpYes X6.here hexec rfl (pc0 := 17) rfl (hb hbytes d17) rfl (ii_eq_t rfl) (by decide) rfl ?_
    refine XS.aloadN X6.here hexec rfl (hb hbytes d57) rfl rfl ?_
    exact Steps.refl _)
  have X8 := X6.wide (L' := []) (cells' := 1) (slots' := len) (fun x hx hlt => by
    simp only [List.nil_append, copyLocs, List.mem_map, List.mem_range] at hx
    obtain ⟨i, -, rfl⟩ := hx
    exact absurd hlt (Nat.lt_irrefl _)) (Nat.le_refl _) (by omega)
  exact ⟨T6, some (.ref s.heap.size), _, _, _, X8, rfl, rfl, rfl, (fun h => by cases h), ⟨⟨rfl, B6, ba3.like (X3.warmed.alike.symm.trans X6.warmed.alike) p6.1 f6.1 f6.2.1 f6.2.2.1, f6.2.1.trans bv3, by rw [X6.warmed.alike.findClass, f6.1]; exact bf3, by rw [f6.2.2.1, bs3]; simp, fun j hj => by rw [f6.2.2.2 j, if_pos (by omega)]; rfl, kp3.put p6 (Nat.le_refl _)⟩, by rw [p6.2.2, bh3, hh0]; simp⟩, fun fs hl => c8.trans (X8.areturnOut hexec rfl hret rfl (hb hbytes d58) hl)⟩
end Cmp3
namespace CodL
def yN : MethodName := ⟨"java/lang/StringUTF16", "coderFromArrayLen", "([BI)B"⟩
abbrev yB : ByteArray := jdk_52_method_15_code
theorem d0 : decode yB 0 = .ok (.iload_n 1, 1) := by decide +kernel
theorem d1 : decode yB 1 = .ok (.aload_n 0, 1) := by decide +kernel
theorem d2 : decode yB 2 = .ok (.arraylength, 1) := by decide +kernel
theorem d3 : decode yB 3 = .ok (.isub, 1) := by decide +kernel
theorem d4 : decode yB 4 = .ok (.bipush 31, 2) := by decide +kernel
theorem d6 : decode yB 6 = .ok (.iushr, 1) := by decide +kernel
theorem d7 : decode yB 7 = .ok (.i2b, 1) := by decide +kernel
theorem d8 : decode yB 8 = .ok (.ireturn, 1) := by decide +kernel
def site : List Cond := []
def tab : Cond := tabOf yN yB 2 (some .byte) site
def P (d : Addr) (B : Cell) (args : Array Value) (s : State) : Prop := args = #[.ref d, .int (Int32.ofNat B.slots.size)] ∧ Arr .byte d B s
def E (r : Option Value) (s u : State) : Prop := XT.PureE (some (.int 0)) r s u
/-- an array as long as the number of chars: LATIN1 -/
theorem law (l : Launch) (d : Addr) (B : Cell) : Law l yN 2 2 0 0 yB 2 (some .byte) site (P d B) E [] 0 0 := by
  refine Law.of_walk (plainFor_of_name (by decide +kernel)) (by decide +kernel) (by decide +kernel) (by decide) (fun _ _ h => by rw [h.1]; rfl) (fun _ U U' hal hh h => ⟨h.1, h.2.mv hal hh⟩) (fun r U U' V V' h1 hal h2 h => XT.PureE.mv r U U' V V' h1 hal h2 h) ?_
  intro p e s m args below meth c s₁ X0 hexec hbytes hml hret hlk hnm hown hh0 W hP
  obtain ⟨rfl, hB⟩ := hP
  have hB0 := hB.mv X0.warmed.alike hh0
  have c1 : Steps p.tables e below (s₁.setTop (entryFrame m #[.ref d, .int (Int32.ofNat B.slots.size)] 2)) (s₁.setTop (mkF m 0 #[.val (.ref d), .val (.int (Int32.ofNat B.slots.size))] [])) := entry rfl
  have c2 : Steps p.tables e below (s₁.setTop (entryFrame m #[.ref d, .int (Int32.ofNat B.slots.size)] 2)) (s₁.setTop (mkF m 2 #[.val (.ref d), .val (.int (Int32.ofNat B.slots.size))] [.ref d, .int (Int32.ofNat B.slots.size)])) := c1.trans (by
    refine XS.iloadN X0.here hexec rfl (hb hbytes d0) rfl ?_
    refine XS.aloadN X0.here hexec rfl (hb hbytes d1) rfl rfl ?_
    exact Steps.refl _)
  have c3 : Steps p.tables e below (s₁.setTop (entryFrame m #[.ref d, .int (Int32.ofNat B.slots.size)] 2)) (s₁.setTop (mkF m 8 #[.val (.ref d), .val (.int (Int32.ofNat B.slots.size))] [.int (lo8 (ushr (Int32.ofNat B.slots.size - Int32.ofNat B.slots.size) 31))])) := c2.trans (by
    refine X0.alen hexec hB0 rfl rfl (hb hbytes d2) ?_
    refine XS.isub X0.here hexec rfl (hb hbytes d3) rfl ?_
    refine bipushV X0.here hexec rfl 31 (hb hbytes d4) (by decide) ?_
    refine iushr X0.here hexec rfl (hb hbytes d6) rfl ?_
    refine i2b X0.here hexec rfl (hb hbytes d7) rfl ?_
    exact Steps.refl _)
  have e0 : lo8 (ushr (Int32.ofNat B.slots.size - Int32.ofNat B.slots.size) 31) = 0 := by rw [Int32.sub_self]; decide
  rw [e0] at c3
  exact ⟨s₁, some (.int 0), _, _, _, X0, rfl, rfl, rfl, (fun h => by cases h), ⟨rfl, hh0⟩, fun fs hl => c3.trans (X0.ireturnOut hexec hret rfl (Or.inr (Or.inr (Or.inl rfl))) (hb hbytes d8) hl)⟩
end CodL
/-- the String at a is Latin-1 over a new byte[] (the heap's one new cell): the low bytes of the len chars of A from o on; every cell but a is kept -/
def Got (a : Addr) (D : Cell) (fV fC : Field) (A : Cell) (o len : Nat) (r : Option Value) (s u : State) : Prop := r = none ∧ ∃ D' V : Cell, Blank "java/lang/String" a D' u ∧ Same D D' [fV.slot, fC.slot] ∧ D'.slots[fV.slot]? = some (.ref s.heap.size) ∧ D'.slots[fC.slot]? = some (.int 0) ∧ Arr .byte s.heap.size V u ∧ V.vm = .none ∧ u.vm.findClass "[B" = some V.cls ∧ V.slots.size = len ∧ (∀ j, j < len → V.slots[j]? = some (.int (lo8 (cv A (o + j))))) ∧ (∀ (y : Addr) (c : Cell), y ≠ a → s.heap[y]? = some c → u.heap[y]? = some c) ∧ u.heap.size = s.heap.size + 1
theorem Got.mv {a : Addr} {D A : Cell} {fV fC : Field} {o len : Nat} : ∀ r (U U' V V' : State), U'.heap = U.heap → V.vm.Alike V'.vm → V'.heap = V.heap → Got a D fV fC A o len r U V → Got a D fV fC A o len r U' V' :=
  fun r U U' V V' h1 hal h2 ⟨e0, D', X, a1, a2, a3, a4, a5, a6, a7, a8, a9, a10, a11⟩ => ⟨e0, D', X, a1.mv hal h2, a2, by rw [h1]; exact a3, a4, by rw [h1]; exact a5.mv hal h2, a6, by rw [hal.findClass]; exact a7, a8, a9, by rw [h1, h2]; exact a10, by rw [h1, h2]; exact a11⟩
namespace New4
def yN : MethodName := ⟨"java/lang/String", "<init>", "([CIILjava/lang/Void;)V"⟩
abbrev yB : ByteArray := jdk_42_method_149_code
theorem d0 : decode yB 0 = .ok (.aload_n 0, 1) := by decide +kernel
theorem d1 : decode yB 1 = .ok (.invokespecial 1, 3) := by decide +kernel
theorem d4 : decode yB 4 = .ok (.iload_n 3, 1) := by decide +kernel
theorem d5 : decode yB 5 = .ok (.ifCond (.ne) 22, 3) := by decide +kernel
theorem d27 : decode yB 27 = .ok (.getstatic 38, 3) := by decide +kernel
theorem d30 : decode yB 30 = .ok (.ifCond (.eq) 28, 3) := by decide +kernel
theorem d33 : decode yB 33 = .ok (.aload_n 1, 1) := by decide +kernel
theorem d34 : decode yB 34 = .ok (.iload_n 2, 1) := by decide +kernel
theorem d35 : decode yB 35 = .ok (.iload_n 3, 1) := by decide +kernel
theorem d36 : decode yB 36 = .ok (.invokestatic 177, 3) := by decide +kernel
theorem d39 : decode yB 39 = .ok (.astore 5, 2) := by decide +kernel
theorem d41 : decode yB 41 = .ok (.aload_n 0, 1) := by decide +kernel
theorem d42 : decode yB 42 = .ok (.aload 5, 2) := by decide +kernel
theorem d44 : decode yB 44 = .ok (.iload_n 3, 1) := by decide +kernel
theorem d45 : decode yB 45 = .ok (.invokestatic 47, 3) := by decide +kernel
theorem d48 : decode yB 48 = .ok (.putfield 15, 3) := by decide +kernel
theorem d51 : decode yB 51 = .ok (.aload_n 0, 1) := by decide +kernel
theorem d52 : decode yB 52 = .ok (.aload 5, 2) := by decide +kernel
theorem d54 : decode yB 54 = .ok (.putfield 9, 3) := by decide +kernel
theorem d57 : decode yB 57 = .ok (.return_, 1) := by decide +kernel
def site : List Cond := [.fieldLink "java/lang/String" 38 "java/lang/String" "COMPACT_STRINGS" "Z", Cmp3.tab, CodL.tab, .laysFinal "java/lang/String" "java/lang/String" "value" "[B", .fieldLink "java/lang/String" 9 "java/lang/String" "value" "[B", .laysFinal "java/lang/String" "java/lang/String" "coder" "B", .fieldLink "java/lang/String" 15 "java/lang/String" "coder" "B"] ++ objW "java/lang/String" 1 ++ staticW "java/lang/String" 177 Cmp3.yN ++ staticW "java/lang/String" 47 CodL.yN
def tab : Cond := tabOf yN yB 6 none site
def P (a : Addr) (D : Cell) (fV fC : Field) (b : Addr) (A : Cell) (z : Int32) (o len : Nat) (args : Array Value) (s : State) : Prop := args = #[.ref a, .ref b, .int (Int32.ofNat o), .int (Int32.ofNat len), .null] ∧ Blank "java/lang/String" a D s ∧ Found "java/lang/String" "value" "[B" fV s ∧ Found "java/lang/String" "coder" "B" fC s ∧ Ch b A s ∧ StaticIs s "java/lang/String" "COMPACT_STRINGS" "Z" (.int z) ∧ ¬ z = 0 ∧ 0 < len ∧ o + len ≤ A.slots.size ∧ len ≤ 536870912 ∧ ∀ i, i < len → ¬ 255 < cv A (o + i)
def E (a : Addr) (D : Cell) (fV fC : Field) (A : Cell) (o len : Nat) (r : Option Value) (s u : State) : Prop := Got a D fV fC A o len r s u
/-- len > 0, no char of the range above 255: a Latin-1 String of their low bytes -/
theorem law (l : Launch) (a : Addr) (D : Cell) (fV fC : Field) (b : Addr) (A : Cell) (z : Int32) (o len : Nat) : Law l yN 5 4 2 35 yB 6 none site (P a D fV fC b A z o len) (E a D fV fC A o len) [⟨a, fC.slot⟩, ⟨a, fV.slot⟩] 1 len := by
  refine Law.of_walk (plainFor_of_name (by decide +kernel)) (by decide +kernel) (by decide +kernel) (by decide) (fun _ _ h => by rw [h.1]; rfl) (fun _ U U' hal hh h => ⟨h.1, h.2.1.mv hal hh, h.2.2.1.al hal, h.2.2.2.1.al hal, h.2.2.2.2.1.mv hal hh, h.2.2.2.2.2.1.there hal hh, h.2.2.2.2.2.2⟩) (fun r U U' V V' h1 hal h2 h => Got.mv r U U' V V' h1 hal h2 h) ?_
  intro p e s m args below meth c s₁ X0 hexec hbytes hml hret hlk hnm hown hh0 W hP
  obtain ⟨rfl, hB, f1, f2, hA, s1, hz, l0, l1, l2, hp⟩ := hP
  have a31 := hA.1.2.2.2
  have c1 : Steps p.tables e below (s₁.setTop (entryFrame m #[.ref a, .ref b, .int (Int32.ofNat o), .int (Int32.ofNat len), .null] 6)) (s₁.setTop (mkF m 0 #[.val (.ref a), .val (.ref b), .val (.int (Int32.ofNat o)), .val (.int (Int32.ofNat len)), .val .null, .unset] [])) := entry rfl
  have c2 : Steps p.tables e below (s₁.setTop (entryFrame m #[.ref a, .ref b, .int (Int32.ofNat o), .int (Int32.ofNat len), .null] 6)) (s₁.setTop (mkF m 1 #[.val (.ref a), .val (.ref b), .val (.int (Int32.ofNat o)), .val (.int (Int32.ofNat len)), .val .null, .unset] [.ref a])) := c1.trans (by
    refine XS.aloadN X0.here hexec rfl (hb hbytes d0) rfl rfl ?_
    exact Steps.refl _)
  obtain ⟨T3, X3, q3, st3⟩ := X0.oinit hexec hown (wks W (objW "java/lang/String" 1)) (g := (mkF m 1 #[.val (.ref a), .val (.ref b), .val (.int (Int32.ofNat o)), .val (.int (Int32.ofNat len)), .val .null, .unset] [.ref a])) rfl (by rw [hml]; rfl) (rest := []) rfl (hb hbytes d1) (W := 0) (by show 2 * 0 + 0 ≤ _; decide) (Nat.le_of_ble_eq_true rfl) (Nat.le_of_ble_eq_true rfl)
  have hh3 := q3.trans hh0
  have c4 : Steps p.tables e below (s₁.setTop (entryFrame m #[.ref a, .ref b, .int (Int32.ofNat o), .int (Int32.ofNat len), .null] 6)) (T3.setTop (mkF m 27 #[.val (.ref a), .val (.ref b), .val (.int (Int32.ofNat o)), .val (.int (Int32.ofNat len)), .val .null, .unset] [])) := (c2.trans (st3 _ (Steps.refl _))).trans (by
    refine XS.iloadN X3.here hexec rfl (hb hbytes d4) rfl ?_
    refine XS.ifYes X3.here hexec rfl (pc0 := 5) rfl (hb hbytes d5) rfl (i0_ne_t (nz32 (by omega) l0)) (by decide) rfl ?_
    exact Steps.refl _)
  obtain ⟨T5, X5, q5, st5⟩ := X3.sget hexec hown (wk W (.fieldLink "java/lang/String" 38 "java/lang/String" "COMPACT_STRINGS" "Z")) s1 (fun _ _ h => by rw [hh3]; exact h) (g := (mkF m 27 #[.val (.ref a), .val (.ref b), .val (.int (Int32.ofNat o)), .val (.int (Int32.ofNat len)), .val .null, .unset] [])) rfl (hb hbytes d27)
  have hh5 := q5.trans hh3
  have c6 : Steps p.tables e below (s₁.setTop (entryFrame m #[.ref a, .ref b, .int (Int32.ofNat o), .int (Int32.ofNat len), .null] 6)) (T5.setTop (mkF m 30 #[.val (.ref a), .val (.ref b), .val (.int (Int32.ofNat o)), .val (.int (Int32.ofNat len)), .val .null, .unset] [.int z])) := c4.trans (st5 _ (Steps.refl _))
  have c7 : Steps p.tables e below (s₁.setTop (entryFrame m #[.ref a, .ref b, .int (Int32.ofNat o), .int (Int32.ofNat len), .null] 6)) (T5.setTop (mkF m 36 #[.val (.ref a), .val (.ref b), .val (.int (Int32.ofNat o)), .val (.int (Int32.ofNat len)), .val .null, .unset] [.int (Int32.ofNat len), .int (Int32.ofNat o), .ref b])) := c6.trans (by
    refine XS.ifNo X5.here hexec rfl (hb hbytes d30) rfl (i0_eq_f hz) ?_
    refine XS.aloadN X5.here hexec rfl (hb hbytes d33) rfl rfl ?_
    refine XS.iloadN X5.here hexec rfl (hb hbytes d34) rfl ?_
    refine XS.iloadN X5.here hexec rfl (hb hbytes d35) rfl ?_
    exact Steps.refl _)
  obtain ⟨v8, T8, X8, E8, g8⟩ := X5.callS hexec (Cmp3.law l b A o len) hown (wks W (staticW "java/lang/String" 177 Cmp3.yN)) (wk W Cmp3.tab) (W := 0) (Nat.le_of_ble_eq_true rfl) (Nat.le_of_ble_eq_true rfl) (Nat.le_refl _) (by show 0 + len ≤ len; omega) (g := (mkF m 36 #[.val (.ref a), .val (.ref b), .val (.int (Int32.ofNat o)), .val (.int (Int32.ofNat len)), .val .null, .unset] [.int (Int32.ofNat len), .int (Int32.ofNat o), .ref b])) rfl (by rw [hml]; rfl) c7 (argsL := [.ref b, .int (Int32.ofNat o), .int (Int32.ofNat len)]) (rest := []) rfl rfl (by show 2 * 0 + 0 ≤ _; decide) (hb hbytes d36) (⟨rfl, hA.mv X5.warmed.alike hh5, l1, l2, hp⟩)
  obtain ⟨e8, z8⟩ := E8
  obtain ⟨rfl, N, n1, n2, n3, n4, n5, n6⟩ := NewArr.mv _ T5 s _ _ hh5.symm (Vm.Alike.refl _) rfl e8
  rw [hh5] at z8
  have hB1 := hB.keep X8.warmed.alike (n6 _ _ hB.1)
  have hne : s.heap.size ≠ a := (Nat.ne_of_lt (Array.getElem?_eq_some_iff.mp hB.1).1).symm
  have c9 : Steps p.tables e below (s₁.setTop (entryFrame m #[.ref a, .ref b, .int (Int32.ofNat o), .int (Int32.ofNat len), .null] 6)) (T8.setTop (mkF m 39 #[.val (.ref a), .val (.ref b), .val (.int (Int32.ofNat o)), .val (.int (Int32.ofNat len)), .val .null, .unset] [.ref s.heap.size])) := g8
  have c10 : Steps p.tables e below (s₁.setTop (entryFrame m #[.ref a, .ref b, .int (Int32.ofNat o), .int (Int32.ofNat len), .null] 6)) (T8.setTop (mkF m 45 #[.val (.ref a), .val (.ref b), .val (.int (Int32.ofNat o)), .val (.int (Int32.ofNat len)), .val .null, .val (.ref s.heap.size)] [.int (Int32.ofNat N.slots.size), .ref s.heap.size, .ref a])) := by
    have hc : Steps p.tables e below (s₁.setTop (entryFrame m #[.ref a, .ref b, .int (Int32.ofNat o), .int (Int32.ofNat len), .null] 6)) (T8.setTop (mkF m 45 #[.val (.ref a), .val (.ref b), .val (.int (Int32.ofNat o)), .val (.int (Int32.ofNat len)), .val .null, .val (.ref s.heap.size)] [.int (Int32.ofNat len), .ref s.heap.size, .ref a])) := c9.trans (by
      refine XS.astore X8.here hexec rfl (hb hbytes d39) rfl rfl rfl ?_
      refine XS.aloadN X8.here hexec rfl (hb hbytes d41) rfl rfl ?_
      refine XS.aload X8.here hexec rfl (hb hbytes d42) rfl rfl ?_
      refine XS.iloadN X8.here hexec rfl (hb hbytes d44) rfl ?_
      exact Steps.refl _)
    rw [n4]; exact hc
  obtain ⟨v11, T11, X11, E11, g11⟩ := X8.callS hexec (CodL.law l s.heap.size N) hown (wks W (staticW "java/lang/String" 47 CodL.yN)) (wk W CodL.tab) (W := 1) (Nat.le_of_ble_eq_true rfl) (Nat.le_of_ble_eq_true rfl) (Nat.le_refl _) (by show 0 + len + 0 ≤ len; omega) (g := (mkF m 45 #[.val (.ref a), .val (.ref b), .val (.int (Int32.ofNat o)), .val (.int (Int32.ofNat len)), .val .null, .val (.ref s.heap.size)] [.int (Int32.ofNat N.slots.size), .ref s.heap.size, .ref a])) rfl (by rw [hml]; rfl) c10 (argsL := [.ref s.heap.size, .int (Int32.ofNat N.slots.size)]) (rest := [.ref a]) rfl rfl (by show 2 * 0 + (1 + 0) ≤ _; decide) (hb hbytes d45) (⟨rfl, n1⟩)
  obtain ⟨rfl, q11⟩ := E11
  have hB11 := hB1.mv (X8.warmed.alike.symm.trans X11.warmed.alike) q11
  have c12 : Steps p.tables e below (s₁.setTop (entryFrame m #[.ref a, .ref b, .int (Int32.ofNat o), .int (Int32.ofNat len), .null] 6)) (T11.setTop (mkF m 48 #[.val (.ref a), .val (.ref b), .val (.int (Int32.ofNat o)), .val (.int (Int32.ofNat len)), .val .null, .val (.ref s.heap.size)] [.int 0, .ref a])) := g11
  obtain ⟨T13, X13, p13, bl13, sl13, st13⟩ := X11.finit hexec hown (wk W (.fieldLink "java/lang/String" 15 "java/lang/String" "coder" "B")) (Or.inr ⟨_, (wk W (.laysFinal "java/lang/String" "java/lang/String" "coder" "B"))⟩) (Or.inl ⟨rfl, hnm⟩) f2 (Or.inl rfl) hB11 (t := .byte) (by decide +kernel) rfl (g := (mkF m 48 #[.val (.ref a), .val (.ref b), .val (.int (Int32.ofNat o)), .val (.int (Int32.ofNat len)), .val .null, .val (.ref s.heap.size)] [.int 0, .ref a])) rfl (rest := []) rfl (hb hbytes d48)
  have c14 : Steps p.tables e below (s₁.setTop (entryFrame m #[.ref a, .ref b, .int (Int32.ofNat o), .int (Int32.ofNat len), .null] 6)) (T13.setTop (mkF m 54 #[.val (.ref a), .val (.ref b), .val (.int (Int32.ofNat o)), .val (.int (Int32.ofNat len)), .val .null, .val (.ref s.heap.size)] [.ref s.heap.size, .ref a])) := (c12.trans (st13 _ (Steps.refl _))).trans (by
    refine XS.aloadN X13.here hexec rfl (hb hbytes d51) rfl rfl ?_
    refine XS.aload X13.here hexec rfl (hb hbytes d52) rfl rfl ?_
    exact Steps.refl _)
  obtain ⟨T15, X15, p15, bl15, sl15, st15⟩ := X13.finit hexec hown (wk W (.fieldLink "java/lang/String" 9 "java/lang/String" "value" "[B")) (Or.inr ⟨_, (wk W (.laysFinal "java/lang/String" "java/lang/String" "value" "[B"))⟩) (Or.inl ⟨rfl, hnm⟩) f1 (Or.inl rfl) bl13 (t := (.array .byte)) (by decide +kernel) rfl (g := (mkF m 54 #[.val (.ref a), .val (.ref b), .val (.int (Int32.ofNat o)), .val (.int (Int32.ofNat len)), .val .null, .val (.ref s.heap.size)] [.ref s.heap.size, .ref a])) rfl (rest := []) rfl (hb hbytes d54)
  have c16 : Steps p.tables e below (s₁.setTop (entryFrame m #[.ref a, .ref b, .int (Int32.ofNat o), .int (Int32.ofNat len), .null] 6)) (T15.setTop (mkF m 57 #[.val (.ref a), .val (.ref b), .val (.int (Int32.ofNat o)), .val (.int (Int32.ofNat len)), .val .null, .val (.ref s.heap.size)] [])) := c14.trans (st15 _ (Steps.refl _))
  have ap := apart (Or.inr ⟨_, (wk W (.laysFinal "java/lang/String" "java/lang/String" "value" "[B"))⟩) (Or.inr ⟨_, (wk W (.laysFinal "java/lang/String" "java/lang/String" "coder" "B"))⟩) f1 f2 (t₁ := .array .byte) (t₂ := .byte) (by decide +kernel) (by decide +kernel) (by decide)
  have al := X8.warmed.alike.symm.trans X15.warmed.alike
  have n7 : T11.heap[s.heap.size]? = some N := by rw [q11]; exact n1.1
  exact ⟨T15, none, _, _, _, X15, by simp, rfl, by omega, (fun _ => rfl), ⟨rfl, _, N, bl15, ((Same.refl D _).set _ (by simp)).set _ (by simp), sl15, (Cell.slots_setSlot_ne _ ap).trans sl13, n1.keep al (p15.other hne (p13.other hne n7)), n2, by rw [al.findClass]; exact n3, n4, n5, fun y c h1 h2 => p15.other h1 (p13.other h1 (by rw [q11]; exact n6 y c h2)), by rw [p15.2.2, p13.2.2, q11]; exact z8⟩, fun fs hl => c16.trans (X15.returnOut hexec hret (hb hbytes d57) hl)⟩
end New4
namespace New1
def yN : MethodName := ⟨"java/lang/String", "<init>", "([C)V"⟩
abbrev yB : ByteArray := jdk_42_method_3_code
theorem d0 : decode yB 0 = .ok (.aload_n 0, 1) := by decide +kernel
theorem d1 : decode yB 1 = .ok (.aload_n 1, 1) := by decide +kernel
theorem d2 : decode yB 2 = .ok (.iconst 0, 1) := by decide +kernel
theorem d3 : decode yB 3 = .ok (.aload_n 1, 1) := by decide +kernel
theorem d4 : decode yB 4 = .ok (.arraylength, 1) := by decide +kernel
theorem d5 : decode yB 5 = .ok (.aconst_null, 1) := by decide +kernel
theorem d6 : decode yB 6 = .ok (.invokespecial 27, 3) := by decide +kernel
theorem d9 : decode yB 9 = .ok (.return_, 1) := by decide +kernel
def site : List Cond := [New4.tab] ++ initW "java/lang/String" 27 New4.yN
def tab : Cond := tabOf yN yB 2 none site
def P (a : Addr) (D : Cell) (fV fC : Field) (b : Addr) (A : Cell) (z : Int32) (args : Array Value) (s : State) : Prop := args = #[.ref a, .ref b] ∧ Blank "java/lang/String" a D s ∧ Found "java/lang/String" "value" "[B" fV s ∧ Found "java/lang/String" "coder" "B" fC s ∧ Ch b A s ∧ StaticIs s "java/lang/String" "COMPACT_STRINGS" "Z" (.int z) ∧ ¬ z = 0 ∧ 0 < A.slots.size ∧ A.slots.size ≤ 536870912 ∧ ∀ i, i < A.slots.size → ¬ 255 < cv A i
def E (a : Addr) (D : Cell) (fV fC : Field) (A : Cell) (r : Option Value) (s u : State) : Prop := Got a D fV fC A 0 A.slots.size r s u
/-- new String(chars), not empty, no char above 255: a Latin-1 String of their low bytes -/
theorem law (l : Launch) (a : Addr) (D : Cell) (fV fC : Field) (b : Addr) (A : Cell) (z : Int32) : Law l yN 2 1 3 52 yB 2 none site (P a D fV fC b A z) (E a D fV fC A) [⟨a, fC.slot⟩, ⟨a, fV.slot⟩] 1 A.slots.size := by
  refine Law.of_walk (plainFor_of_name (by decide +kernel)) (by decide +kernel) (by decide +kernel) (by decide) (fun _ _ h => by rw [h.1]; rfl) (fun _ U U' hal hh h => ⟨h.1, h.2.1.mv hal hh, h.2.2.1.al hal, h.2.2.2.1.al hal, h.2.2.2.2.1.mv hal hh, h.2.2.2.2.2.1.there hal hh, h.2.2.2.2.2.2⟩) (fun r U U' V V' h1 hal h2 h => Got.mv r U U' V V' h1 hal h2 h) ?_
  intro p e s m args below meth c s₁ X0 hexec hbytes hml hret hlk hnm hown hh0 W hP
  obtain ⟨rfl, hB, f1, f2, hA, s1, hz, l0, l2, hp⟩ := hP
  have c1 : Steps p.tables e below (s₁.setTop (entryFrame m #[.ref a, .ref b] 2)) (s₁.setTop (mkF m 0 #[.val (.ref a), .val (.ref b)] [])) := entry rfl
  have c2 : Steps p.tables e below (s₁.setTop (entryFrame m #[.ref a, .ref b] 2)) (s₁.setTop (mkF m 6 #[.val (.ref a), .val (.ref b)] [.null, .int (Int32.ofNat A.slots.size), .int 0, .ref b, .ref a])) := c1.trans (by
    refine XS.aloadN X0.here hexec rfl (hb hbytes d0) rfl rfl ?_
    refine XS.aloadN X0.here hexec rfl (hb hbytes d1) rfl rfl ?_
    refine iconstV X0.here hexec rfl 0 (hb hbytes d2) (by decide) ?_
    refine XS.aloadN X0.here hexec rfl (hb hbytes d3) rfl rfl ?_
    refine X0.alen hexec (hA.1.mv X0.warmed.alike hh0) rfl rfl (hb hbytes d4) ?_
    refine XS.aconstNull X0.here hexec rfl (hb hbytes d5) ?_
    exact Steps.refl _)
  obtain ⟨v3, T3, X3, E3, g3⟩ := X0.callN hexec (New4.law l a D fV fC b A z 0 A.slots.size) rfl hown (wks W (initW "java/lang/String" 27 New4.yN)) (W New4.tab (by simp only [site, List.mem_cons, List.mem_append, true_or, or_true])) (W := 0) (Nat.le_of_ble_eq_true rfl) (Nat.le_of_ble_eq_true rfl) (Nat.le_refl _) (by show 0 + A.slots.size ≤ A.slots.size; omega) (g := (mkF m 6 #[.val (.ref a), .val (.ref b)] [.null, .int (Int32.ofNat A.slots.size), .int (Int32.ofNat 0), .ref b, .ref a])) rfl (by rw [hml]; rfl) c2 (argsL := [.ref b, .int (Int32.ofNat 0), .int (Int32.ofNat A.slots.size), .null]) (rest := []) rfl rfl (by show 2 * 0 + 0 ≤ _; decide) (hb hbytes d6) (⟨rfl, hB.mv X0.warmed.alike hh0, f1.al X0.warmed.alike, f2.al X0.warmed.alike, hA.mv X0.warmed.alike hh0, s1.there X0.warmed.alike hh0, hz, l0, by omega, l2, fun i hi => by rw [Nat.zero_add]; exact hp i hi⟩)
  have e0 := Got.mv _ s₁ s _ _ hh0.symm (Vm.Alike.refl _) rfl E3
  obtain rfl := e0.1
  have c4 : Steps p.tables e below (s₁.setTop (entryFrame m #[.ref a, .ref b] 2)) (T3.setTop (mkF m 9 #[.val (.ref a), .val (.ref b)] [])) := g3
  exact ⟨T3, none, _, _, _, X3, by simp, rfl, by omega, (fun _ => rfl), e0, fun fs hl => c4.trans (X3.returnOut hexec hret (hb hbytes d9) hl)⟩
theorem pays {l : Launch} {R : Room} {p : Program} {e : Env} {below : List Frame} {s : State} {sargs : Array Value} {len W : Nat} (a : Addr) (D : Cell) (fV fC : Field) (b : Addr) (A : Cell) (z : Int32) (htab : tab.before sargs s = true) (hfr : 4 ≤ R.frames) (hlo : W + 65 ≤ R.locals) :
    Back l R p e below s sargs yN len W (fun A₁ a₁ => A₁.cells + 1 ≤ R.cells ∧ A₁.slots + A.slots.size ≤ R.slots ∧ P a D fV fC b A z a₁ A₁.U) (fun A₁ _ v₁ B₁ => E a D fV fC A v₁ A₁.U B₁.U ∧ B₁.locs = A₁.locs ++ [⟨a, fC.slot⟩, ⟨a, fV.slot⟩] ∧ B₁.cells = A₁.cells + 1 ∧ B₁.slots = A₁.slots + A.slots.size) :=
  (law l a D fV fC b A z).pays htab hfr (by omega)
end New1
/-- the byte, read back as charAt reads it, is the char -/
theorem lo8_mask {x : Int32} (h0 : ¬ x < 0) (h1 : ¬ 255 < x) : lo8 x &&& 255 = x := by
  have t : ∀ k : Fin 256, lo8 (Int32.ofNat k.val) &&& 255 = Int32.ofNat k.val := by decide +kernel
  rw [Int32.lt_iff_toInt_lt] at h0 h1
  have e0 : (0 : Int32).toInt = 0 := rfl
  have e1 : (255 : Int32).toInt = 255 := rfl
  obtain ⟨k, hk⟩ : ∃ k : Nat, x.toInt = k := ⟨x.toInt.toNat, by omega⟩
  have hx : x = Int32.ofNat k := Int32.toInt_inj.mp (by rw [hk, Int32.toInt_ofNat_small (by omega)])
  rw [hx]
  exact t ⟨k, by omega⟩
end StrChars
namespace StrChars.Road
open Jvm Sem ClassFile Op Lib Jvm.Stand Jvm.Free Jvm.Free.XT
open Jvm.Lib.Cold (StaticIs)
abbrev ST : String := "java/lang/String"
/-- every table word that New1's law asks, flat -/
abbrev words : List Jvm.Cond := [.code New1.yN New1.yB 2 none, .initialized ST, .methodLink ST 27 New4.yN, .instanceMethod New4.yN,
  .code New4.yN New4.yB 6 none, .fieldLink ST 38 ST "COMPACT_STRINGS" "Z", .laysFinal ST ST "value" "[B", .fieldLink ST 9 ST "value" "[B", .laysFinal ST ST "coder" "B", .fieldLink ST 15 ST "coder" "B",
  .methodLink ST 1 Lib.objectInit, .instanceMethod Lib.objectInit, .code Lib.objectInit ⟨#[0xb1]⟩ 1 none, .methodLink ST 177 Cmp3.yN, .static Cmp3.yN, .methodLink ST 47 CodL.yN, .static CodL.yN,
  .code Cmp3.yN Cmp3.yB 6 (some (.array .byte)), .initialized U16, .arrayClass .byte, .methodLink U16 115 Cmp5.yN, .static Cmp5.yN, .code Cmp5.yN Cmp5.yB 7 (some .int), .code CodL.yN CodL.yB 2 (some .byte)]
theorem tab_of {a : Array Value} {s : State} (h : ∀ w ∈ words, w.before a s = true) : New1.tab.before a s = true := by
  have h5 : Cmp5.tab.before a s = true := unparts (wk h (.code Cmp5.yN Cmp5.yB 7 (some .int))) (wks h (.initialized Cmp5.yN.cls :: Cmp5.site))
  have hc : CodL.tab.before a s = true := unparts (wk h (.code CodL.yN CodL.yB 2 (some .byte))) (wks h (.initialized CodL.yN.cls :: CodL.site))
  have q5 : ∀ w ∈ Cmp5.tab :: words, w.before a s = true := fun w hw => (List.mem_cons.mp hw).elim (fun e => e ▸ h5) (h w)
  have h3 : Cmp3.tab.before a s = true := unparts (wk q5 (.code Cmp3.yN Cmp3.yB 6 (some (.array .byte)))) (wks q5 (.initialized Cmp3.yN.cls :: Cmp3.site))
  have q3 : ∀ w ∈ Cmp3.tab :: CodL.tab :: words, w.before a s = true := fun w hw => (List.mem_cons.mp hw).elim (fun e => e ▸ h3) fun hw => (List.mem_cons.mp hw).elim (fun e => e ▸ hc) (h w)
  have h4 : New4.tab.before a s = true := unparts (wk q3 (.code New4.yN New4.yB 6 none)) (wks q3 (.initialized New4.yN.cls :: New4.site))
  have q4 : ∀ w ∈ New4.tab :: words, w.before a s = true := fun w hw => (List.mem_cons.mp hw).elim (fun e => e ▸ h4) (h w)
  exact unparts (wk q4 (.code New1.yN New1.yB 2 none)) (wks q4 (.initialized New1.yN.cls :: New1.site))
/-- the words ride from the start Z to the walk's own state -/
theorem moved {Z s : State} {a0 args : Array Value} (hZ : Z.Warmed39 s.vm) (hw : ∀ d ∈ words, d.before a0 Z = true) : ∀ d ∈ words, d.before args s = true := fun d hd => by
  have q := hw d hd
  have t : ∀ d ∈ words, d = .arrayClass .byte ∨ (d.onTables && d.keepsFace) = true := by decide +kernel
  rcases t d hd with rfl | t
  · exact RoadKit.mvA hZ q
  · exact RoadKit.mv hZ q t
/-- WHAT COMES BACK, over the tables of the start Z: h the heap at the call, h' behind it -/
def Q (Z : State) (x : Addr) (A : Cell) (h : Heap) (v : Option Value) (h' : Heap) (L : List Loc) : Prop := v = none ∧ (∀ y ∈ L, y.base = x) ∧ RoadKit.Keep h h' [x] ∧ h'.size = h.size + 1 ∧ RoadKit.Exa Z h' x ST ∧ RoadKit.Fld Z h' x ST "value" "[B" (.ref h.size) ∧ RoadKit.Fld Z h' x ST "coder" "B" (.int 0) ∧
  (∃ V : Cell, RoadKit.Arr Z h' h.size V .byte ∧ V.vm = .none ∧ Z.vm.findClass "[B" = some V.cls ∧ V.slots.size = A.slots.size ∧ ∀ j, j < A.slots.size → V.slots[j]? = some (.int (lo8 (cv A j)))) ∧
  ∀ (O n d : String) (w : Value), RoadKit.Fld Z h x O n d w → RoadKit.slotOf Z O n d ≠ RoadKit.slotOf Z ST "value" "[B" → RoadKit.slotOf Z O n d ≠ RoadKit.slotOf Z ST "coder" "B" → RoadKit.Fld Z h' x O n d w
/-- **new String(chars) AT A CALL, IN THE ROAD'S FORM**: for specialBack behind newO: x the fresh String, b the char[] with the cell A -/
theorem back {p : Program} {l : Launch} {e : Env} {R : Room} {s : State} {args : Array Value} {below : List Frame} {len W : Nat} {Z : State} {a0 : Array Value} {h : Heap} (hZ : Z.Warmed39 s.vm) (hw : ∀ d ∈ words, d.before a0 Z = true) {kI : Nat} (wi : (Jvm.Cond.instantiable ST kI).before a0 Z = true)
    {x b : Addr} {A : Cell} {z : Int32} {v0 c0 : Value} (E : RoadKit.Exa Z h x ST) (V : RoadKit.Fld Z h x ST "value" "[B" v0) (C : RoadKit.Fld Z h x ST "coder" "B" c0) (K : RoadKit.Arr Z h b A .char) (hty : Typed .char A) (S : RoadKit.Sta Z h ST "COMPACT_STRINGS" "Z" (.int z)) (hz : ¬ z = 0)
    (l0 : 0 < A.slots.size) (l2 : A.slots.size ≤ 536870912) (hp : ∀ i, i < A.slots.size → ¬ 255 < cv A i) (hfr : 4 ≤ R.frames) (hlo : W + 65 ≤ R.locals) :
    Back l R p e below s args New1.yN len W (fun P a => a = #[.ref x, .ref b] ∧ P.U.heap = h ∧ P.cells + 1 ≤ R.cells ∧ P.slots + A.slots.size ≤ R.slots)
      (fun P _ v B => ∃ L, Q Z x A h v B.U.heap L ∧ B.locs = P.locs ++ L ∧ B.cells = P.cells + 1 ∧ B.slots = P.slots + A.slots.size) := by
  intro m meth c P g ig mk a X hg hsize hdg hW hn hp'
  obtain ⟨rfl, rfl, r1, r2⟩ := hp'
  have al : Z.vm.Alike P.U.vm := hZ.alike.trans X.warmed.alike
  obtain ⟨D, cfV, kV, iV, fV, hD, gV, stV, knV, obV, asV, slV⟩ := id V
  obtain ⟨D', cfC, kC, iC, fC, hD', gC, stC, -, -, asC, slC⟩ := id C
  cases hD.symm.trans hD'
  obtain ⟨D2, kD, e1, e2, e3, e4, e5⟩ := id E
  cases hD.symm.trans e1
  obtain ⟨c2, k2, i1, i2, i3, -⟩ := Cond.instantiable_spec wi
  cases e2.symm.trans i1
  cases e3.symm.trans i2
  obtain ⟨kU, u1, u2⟩ := al.2.2 _ _ e3
  have hB : Blank ST x D P.U := ⟨hD, ⟨knV, fun q hq => by rw [hq] at obV; cases obV⟩, by rw [al.findClass]; exact e2, kU, u1, by rw [u2]; exact i3, by rw [u2]; exact e5 i3⟩
  have F1 : Found ST "value" "[B" fV P.U := ⟨SBG.found_only al ⟨cfV, kV, iV, gV⟩, stV⟩
  have F2 : Found ST "coder" "B" fC P.U := ⟨SBG.found_only al ⟨cfC, kC, iC, gC⟩, stC⟩
  have hA : Ch b A P.U := ⟨⟨K.1, State.isArrayOf_alike al K.2.1, K.2.2, by omega⟩, hty⟩
  have hS : StaticIs P.U ST "COMPACT_STRINGS" "Z" (.int z) := by
    obtain ⟨cfS, iS, kS, fS, st, cS, t1, t2, t3, t4, t5, t6, t7⟩ := S
    exact StaticIs.there (s := { Z with heap := P.U.heap }) ⟨cfS, iS, kS, fS, st, cS, t1, t2, t3, t4, t5, (fun q => by rw [q] at t6; cases t6), t7⟩ al rfl
  obtain ⟨v, B, X', ⟨⟨hv, E', V', q1, q2, q3, q4, q5, q6, q7, q8, q9, q10, q11⟩, hl, hc, hs⟩, st⟩ := New1.pays x D fV fC b A z (tab_of (moved hZ hw)) hfr hlo m meth c P g ig mk _ X hg hsize hdg hW hn ⟨r1, r2, rfl, hB, F1, F2, hA, hS, hz, l0, l2, hp⟩
  have al' : Z.vm.Alike B.U.vm := hZ.alike.trans X'.warmed.alike
  have hsz : E'.slots.size = D.slots.size := by
    obtain ⟨-, -, -, kB, w1, w2, w3⟩ := q1
    obtain ⟨kB', y1, y2⟩ := al'.2.2 _ _ e3
    rw [q2.2.1] at w1
    cases w1.symm.trans y1
    rw [w3, e5 i3, y2]
  refine ⟨v, B, X', ⟨_, ⟨hv, ?_, ⟨by omega, fun y cy hy hn' => q10 y cy (by simpa using hn') hy, fun y cy hy => ?_⟩, q11, ⟨E', _, q1.1, by rw [q2.2.1]; exact e2, by rw [q2.2.1]; exact e3, by rw [q2.1]; exact obV, fun _ => by rw [hsz]; exact e5 i3⟩,
    ⟨E', cfV, kV, iV, fV, q1.1, gV, stV, by rw [q2.1]; exact knV, by rw [q2.1]; exact obV, by rw [q2.2.1]; exact asV, q3⟩, ⟨E', cfC, kC, iC, fC, q1.1, gC, stC, by rw [q2.1]; exact knV, by rw [q2.1]; exact obV, by rw [q2.2.1]; exact asC, q4⟩,
    ⟨V', ⟨q5.1, State.isArrayOf_alike al'.symm q5.2.1, q5.2.2.1⟩, q6, by rw [← al'.findClass]; exact q7, q8, fun j hj => by have := q9 j hj; rwa [Nat.zero_add] at this⟩, fun O n d w F n1 n2 => ?_⟩, hl, hc, hs⟩, st⟩
  · intro y hy
    simp only [List.mem_cons, List.not_mem_nil, or_false] at hy
    rcases hy with rfl | rfl <;> rfl
  · by_cases q : y = x
    · subst q
      cases hD.symm.trans hy
      exact ⟨E', q1.1, q2.2.1, q2.1, hsz⟩
    · exact ⟨cy, q10 y cy q hy, rfl, rfl, rfl⟩
  · obtain ⟨D3, cf, k, i, f, g1, g2, g3, g4, g5, g6, g7⟩ := F
    cases hD.symm.trans g1
    simp only [RoadKit.slotOf, g2, gV, gC, Option.map_some, Option.getD_some] at n1 n2
    exact ⟨E', cf, k, i, f, q1.1, g2, g3, by rw [q2.1]; exact g4, by rw [q2.1]; exact g5, by rw [q2.2.1]; exact g6, by rw [q2.2.2 f.slot (by simp [n1, n2])]; exact g7⟩
end StrChars.Road
namespace StrChars.Road
open Jvm Sem ClassFile Op Lib Jvm.Stand Jvm.Free Jvm.Free.XT
/-- WHAT COMES BACK, the byte[] as a list of values -/
def QA (Z : State) (x : Addr) (zn : Int32) (cs : List Int32) (h : Heap) (v : Option Value) (h' : Heap) (L : List Loc) : Prop := v = none ∧ (∀ y ∈ L, y.base = x) ∧ RoadKit.Keep h h' [x] ∧ h'.size = h.size + 1 ∧ RoadKit.Exa Z h' x ST ∧ RoadKit.Fld Z h' x ST "value" "[B" (.ref h.size) ∧ RoadKit.Fld Z h' x ST "coder" "B" (.int 0) ∧
  (∃ kb, Z.vm.findClass "[B" = some kb ∧ RoadKit.Arv Z h' h.size kb .byte zn (cs.map fun c => .int (lo8 c)) (.int 0)) ∧
  ∀ (O n d : String) (w : Value), RoadKit.Fld Z h x O n d w → RoadKit.slotOf Z O n d ≠ RoadKit.slotOf Z ST "value" "[B" → RoadKit.slotOf Z O n d ≠ RoadKit.slotOf Z ST "coder" "B" → RoadKit.Fld Z h' x O n d w
/-- **new String(chars) AT A CALL, THE ARRAYS AS LISTS**: the char[] at b holds cs, not empty, no char above 255 -/
theorem backArv {p : Program} {l : Launch} {e : Env} {R : Room} {s : State} {args : Array Value} {below : List Frame} {len W : Nat} {Z : State} {a0 : Array Value} {h : Heap} (hZ : Z.Warmed39 s.vm) (hw : ∀ d ∈ words, d.before a0 Z = true) {kI : Nat} (wi : (Jvm.Cond.instantiable ST kI).before a0 Z = true)
    {x b : Addr} {k : ClassId} {zn z : Int32} {cs : List Int32} {dv v0 c0 : Value} (E : RoadKit.Exa Z h x ST) (V : RoadKit.Fld Z h x ST "value" "[B" v0) (C : RoadKit.Fld Z h x ST "coder" "B" c0) (K : RoadKit.Arv Z h b k .char zn (cs.map Value.int) dv) (S : RoadKit.Sta Z h ST "COMPACT_STRINGS" "Z" (.int z)) (hz : ¬ z = 0)
    (hlen : zn.toNatClampNeg = cs.length) (h0 : 0 < cs.length) (hbig : cs.length ≤ 536870912) (hall : ∀ c ∈ cs, ¬ 255 < c) (hfr : 4 ≤ R.frames) (hlo : W + 65 ≤ R.locals) :
    Back l R p e below s args New1.yN len W (fun P a => a = #[.ref x, .ref b] ∧ P.U.heap = h ∧ P.cells + 1 ≤ R.cells ∧ P.slots + cs.length ≤ R.slots)
      (fun P _ v B => ∃ L, QA Z x zn cs h v B.U.heap L ∧ B.locs = P.locs ++ L ∧ B.cells = P.cells + 1 ∧ B.slots = P.slots + cs.length) := by
  obtain ⟨A, K1, K2, K3, K4, K5, K6⟩ := K
  have e : A.slots.size = cs.length := K3.trans hlen
  have hat : ∀ (i : Nat) (hi : i < cs.length), A.slots[i]? = some (.int cs[i]) := fun i hi => by rw [K5 i (by omega)]; simp [List.getD_eq_getElem?_getD, hi]
  have hcv : ∀ (i : Nat) (hi : i < cs.length), cv A i = cs[i] := fun i hi => by unfold cv; rw [hat i hi]
  have hty : Typed .char A := fun i v hv => by
    have hi : i < A.slots.size := (Array.getElem?_eq_some_iff.mp hv).1
    have q := K5 i hi
    rw [hv] at q
    rw [Option.some.inj q]
    exact K6 i hi
  refine Back.mono (back hZ hw wi E V C K1 hty S hz (by omega) (by omega) (fun i hi => by rw [hcv i (by omega)]; exact hall _ (List.getElem_mem _)) hfr hlo) (fun P a hp => ⟨hp.1, hp.2.1, hp.2.2.1, by rw [e]; exact hp.2.2.2⟩) (fun P a v B hp hq => ?_)
  obtain ⟨L, ⟨q1, q2, q3, q4, q5, q6, q7, ⟨V', v1, v2, v3, v4, v5⟩, q9⟩, hl, hc, hs⟩ := hq
  refine ⟨L, ⟨q1, q2, q3, q4, q5, q6, q7, ⟨V'.cls, v3, V', v1, rfl, by rw [v4, e, hlen], K4, fun i hi => ?_, fun i hi => ?_⟩, q9⟩, hl, hc, by rw [hs, e]⟩
  · have hi' : i < cs.length := by omega
    rw [v5 i (by omega), hcv i hi']; simp [List.getD_eq_getElem?_getD, hi']
  · have hi' : i < cs.length := by omega
    simp only [List.getD_eq_getElem?_getD, List.getElem?_map, List.getElem?_eq_getElem hi', Option.map_some, Option.getD_some]
    exact fits_lo8 _
end StrChars.Road
namespace StrChars.Road
open Jvm Sem ClassFile Op Lib Jvm.Stand Jvm.Free Jvm.Free.XT
/-- WHAT COMES BACK, in the writer's own shape -/
def QV (Z : State) (x : Addr) (N : Int32) (bs : List Int32) (h : Heap) (n0 : Nat) (v : Option Value) (h' : Heap) (L : List Loc) : Prop := v = none ∧ RoadKit.Fr n0 L ∧ RoadKit.Keep h h' [x] ∧ RoadKit.Exa Z h' x ST ∧ RoadKit.Fld Z h' x ST "coder" "B" (.int 0) ∧
  ∃ (t : Addr) (kb : ClassId), n0 ≤ t ∧ h.size ≤ t ∧ ¬ t = x ∧ RoadKit.Fld Z h' x ST "value" "[B" (.ref t) ∧ RoadKit.Arv Z h' t kb .byte N (bs.map Value.int) (.int 0)
/-- **new String(chars) AT A CALL, FOR THE WRITER**: a char[] of n known ints, each 0 to 255 -/
theorem backV {p : Program} {l : Launch} {e : Env} {R : Room} {s : State} {args : Array Value} {below : List Frame} {len W : Nat} {Z : State} {a0 : Array Value} {h : Heap} (hZ : Z.Warmed39 s.vm) (hw : ∀ d ∈ words, d.before a0 Z = true) {kI : Nat} (wi : (Jvm.Cond.instantiable ST kI).before a0 Z = true)
    {x b : Addr} {kC : ClassId} {cs bs : List Int32} {d v0 c0 : Value} {z N : Int32} {n n0 : Nat} (hx0 : n0 ≤ x) (hh0 : n0 ≤ h.size) (E : RoadKit.Exa Z h x ST) (V : RoadKit.Fld Z h x ST "value" "[B" v0) (C : RoadKit.Fld Z h x ST "coder" "B" c0) (K : RoadKit.Arv Z h b kC .char N (cs.map Value.int) d) (S : RoadKit.Sta Z h ST "COMPACT_STRINGS" "Z" (.int z)) (hz : ¬ z = 0)
    (hn : cs.length = n) (hN : N = Int32.ofNat n) (l0 : 0 < n) (l2 : n ≤ 4000) (hp : ∀ c ∈ cs, ¬ c < 0 ∧ ¬ (255 : Int32) < c) (hb : bs = cs.map (fun c => c.toInt8.toInt32)) (hfr : 4 ≤ R.frames) (hlo : W + 65 ≤ R.locals) :
    Back l R p e below s args (⟨"java/lang/String", "<init>", "([C)V"⟩ : MethodName) len W (fun P a => a = #[.ref x, .ref b] ∧ P.U.heap = h ∧ P.cells + 1 ≤ R.cells ∧ P.slots + n ≤ R.slots)
      (fun P _ v B => ∃ L, QV Z x N bs h n0 v B.U.heap L ∧ B.locs = P.locs ++ L ∧ B.cells = P.cells + 1 ∧ B.slots = P.slots + n) := by
  subst hn hN hb
  refine Back.mono (backArv hZ hw wi E V C K S hz (n32 (by omega)) l0 (by omega) (fun c hc => (hp c hc).2) hfr hlo) (fun P a hp => hp) (fun P a v B hp hq => ?_)
  obtain ⟨L, ⟨q1, q2, q3, q4, q5, q6, q7, ⟨kb, v1, v2⟩, q9⟩, hl, hc, hs⟩ := hq
  exact ⟨L, ⟨q1, fun y hy => by rw [q2 y hy]; exact hx0, q3, q5, q7, h.size, kb, hh0, Nat.le_refl _, Nat.ne_of_gt E.lt, q6, by rw [List.map_map]; exact v2⟩, hl, hc, hs⟩
end StrChars.Road
namespace StrChars
open Jvm Sem ClassFile Op Lib Jvm.Stand Jvm.Free.XT Jvm.Free.ALB Jvm.Free.JM Jvm.Free
open Jvm.Lib.Cold (StaticIs)
def hi8 (x : Int32) : Int32 := lo8 (x >>> ((8 : Int32) &&& 31))
/-- what StringUTF16.getChar makes of two bytes -/
def pairCh (u v : Int32) : Int32 := (((u &&& 255) <<< ((0 : Int32) &&& 31)) ||| ((v &&& 255) <<< ((8 : Int32) &&& 31))).toUInt32.toUInt16.toUInt32.toInt32
theorem lo8_and (x : Int32) : (lo8 x &&& 255).toBitVec.toNat = x.toBitVec.toNat % 256 := by
  have h : (lo8 x).toBitVec = (x.toBitVec.signExtend 8).signExtend 32 := by rw [lo8, Int8.toBitVec_toInt32, Int32.toBitVec_toInt8]
  rw [Int32.toBitVec_and, BitVec.toNat_and, h]
  have e : ((x.toBitVec.signExtend 8).signExtend 32).toNat % 256 = x.toBitVec.toNat % 256 := by
    rw [BitVec.toNat_signExtend]
    have hlt := x.toBitVec.isLt
    simp only [BitVec.toNat_setWidth, BitVec.toNat_signExtend]
    split <;> split <;> omega
  rw [← e]
  exact Nat.and_two_pow_sub_one_eq_mod _ 8
theorem pair_says {c : Int32} (h0 : ¬ c < 0) (h1 : ¬ 65535 < c) : pairCh (lo8 c) (hi8 c) = c := by
  rw [Int32.lt_iff_toInt_lt] at h0 h1
  have e0 : (0 : Int32).toInt = 0 := rfl
  have e1 : (65535 : Int32).toInt = 65535 := rfl
  have hc : c.toInt = c.toBitVec.toNat := by
    have := c.toBitVec.isLt
    have e : c.toInt = c.toBitVec.toInt := rfl
    rw [e] at h0 h1
    rw [e]
    rw [BitVec.toInt_eq_toNat_cond] at h0 h1 ⊢
    split at h0 <;> split <;> omega
  have hn : c.toBitVec.toNat < 65536 := by omega
  have a1 := lo8_and c
  have a2 : (hi8 c &&& 255).toBitVec.toNat = c.toBitVec.toNat / 256 := by
    rw [hi8, lo8_and]
    have e : ((8 : Int32) &&& 31) = 8 := by decide
    rw [e, Int32.toBitVec_shiftRight]
    have e2 : ((8 : Int32).toBitVec.smod 32) = 8#32 := by decide
    rw [e2, BitVec.sshiftRight_eq', BitVec.toNat_sshiftRight_of_msb_false (by rw [BitVec.msb_eq_false_iff_two_mul_lt]; omega)]
    show c.toBitVec.toNat >>> 8 % 256 = _
    rw [Nat.shiftRight_eq_div_pow]
    omega
  unfold pairCh
  apply Int32.toBitVec_inj.mp
  apply BitVec.eq_of_toNat_eq
  have f0 : ((0 : Int32) &&& 31) = 0 := by decide
  have f8 : ((8 : Int32) &&& 31) = 8 := by decide
  rw [f0, f8]
  have g : (((lo8 c &&& 255) <<< (0 : Int32)) ||| ((hi8 c &&& 255) <<< (8 : Int32))).toBitVec.toNat = c.toBitVec.toNat := by
    rw [Int32.toBitVec_or, Int32.toBitVec_shiftLeft, Int32.toBitVec_shiftLeft]
    have s0 : ((0 : Int32).toBitVec.smod 32) = 0#32 := by decide
    have s8 : ((8 : Int32).toBitVec.smod 32) = 8#32 := by decide
    rw [s0, s8, BitVec.toNat_or]
    simp only [BitVec.shiftLeft_eq', BitVec.toNat_shiftLeft, a1, a2]
    show (c.toBitVec.toNat % 256) <<< 0 % 2 ^ 32 ||| (c.toBitVec.toNat / 256) <<< 8 % 2 ^ 32 = _
    rw [Nat.shiftLeft_zero, Nat.mod_eq_of_lt (show c.toBitVec.toNat % 256 < 2 ^ 32 by omega), Nat.mod_eq_of_lt (show (c.toBitVec.toNat / 256) <<< 8 < 2 ^ 32 by rw [Nat.shiftLeft_eq]; omega), Nat.or_comm, ← Nat.shiftLeft_add_eq_or_of_lt (by omega), Nat.shiftLeft_eq]
    omega
  show BitVec.toNat (((((lo8 c &&& 255) <<< (0 : Int32)) ||| ((hi8 c &&& 255) <<< (8 : Int32))).toBitVec.setWidth 16).setWidth 32) = _
  rw [BitVec.toNat_setWidth, BitVec.toNat_setWidth, g]
  omega
end StrChars
namespace StrChars
open Jvm Sem ClassFile Op Lib Jvm.Stand Jvm.Free.XT Jvm.Free.ALB Jvm.Free.JM Jvm.Free
open Jvm.Lib.Cold (StaticIs)
/-- the array's cell V codes the n chars f 0 .. f (n - 1) by the coder cd, as the JDK does: coder 1 just where some char is above 255 -/
def Cod (cd : Int32) (n : Nat) (f : Nat → Int32) (V : Cell) : Prop := (cd = 0 ∧ V.slots.size = n ∧ ∀ j, j < n → V.slots[j]? = some (.int (lo8 (f j))) ∧ ¬ 255 < f j) ∨ (cd = 1 ∧ V.slots.size = 2 * n ∧ (∀ j, j < n → V.slots[2 * j]? = some (.int (lo8 (f j))) ∧ V.slots[2 * j + 1]? = some (.int (hi8 (f j)))) ∧ ∃ j, j < n ∧ 255 < f j)
/-- **x is a String of the n chars f 0 .. f (n - 1)**, Latin-1 or UTF-16; its array at t has the cell V -/
def Txt (x t : Addr) (V : Cell) (cd : Int32) (n : Nat) (f : Nat → Int32) (U : State) : Prop := Exact "java/lang/String" x U ∧ Has x "java/lang/String" "value" "[B" (.ref t) U ∧ Has x "java/lang/String" "coder" "B" (.int cd) U ∧ XT.Arr .byte t V U ∧ Cod cd n f V ∧ ∀ j, j < n → ¬ f j < 0 ∧ ¬ 65535 < f j
theorem Txt.mv {x t : Addr} {V : Cell} {cd : Int32} {n : Nat} {f : Nat → Int32} {U U' : State} (h : Txt x t V cd n f U) (hal : U.vm.Alike U'.vm) (hh : U'.heap = U.heap) : Txt x t V cd n f U' := ⟨h.1.mv hal hh, h.2.1.mv hal hh, h.2.2.1.mv hal hh, h.2.2.2.1.mv hal hh, h.2.2.2.2⟩
end StrChars
namespace StrChars.Road
open Jvm Sem ClassFile Op Lib Jvm.Stand Jvm.Free Jvm.Free.XT
open Jvm.Lib.Cold (StaticIs)
theorem consq {a : Array Value} {s : State} {c : Jvm.Cond} {L : List Jvm.Cond} (h0 : c.before a s = true) (h : ∀ w ∈ L, w.before a s = true) : ∀ w ∈ c :: L, w.before a s = true := fun w hw => (List.mem_cons.mp hw).elim (fun e => e ▸ h0) (h w)
/-- the bytes of the chars cs, low before high -/
def wideBytes : List Int32 → List Value
  | [] => []
  | c :: cs => .int (lo8 c) :: .int (hi8 c) :: wideBytes cs
theorem wide_lo (d : Value) : ∀ (cs : List Int32) (j : Nat), j < cs.length → (wideBytes cs).getD (2 * j) d = .int (lo8 (cs.getD j 0))
  | [], j, h => absurd h (Nat.not_lt_zero j)
  | c :: cs, 0, _ => rfl
  | c :: cs, j + 1, h => by
    have q := wide_lo d cs j (by simpa using h)
    rw [show 2 * (j + 1) = 2 * j + 1 + 1 from by omega]
    simpa [wideBytes] using q
theorem wide_hi (d : Value) : ∀ (cs : List Int32) (j : Nat), j < cs.length → (wideBytes cs).getD (2 * j + 1) d = .int (hi8 (cs.getD j 0))
  | [], j, h => absurd h (Nat.not_lt_zero j)
  | c :: cs, 0, _ => rfl
  | c :: cs, j + 1, h => by
    have q := wide_hi d cs j (by simpa using h)
    rw [show 2 * (j + 1) + 1 = 2 * j + 1 + 1 + 1 from by omega]
    simpa [wideBytes] using q
theorem low_at (d : Value) (cs : List Int32) (j : Nat) (h : j < cs.length) : (cs.map fun c => Value.int (lo8 c)).getD j d = .int (lo8 (cs.getD j 0)) := by
  simp [List.getD_eq_getElem?_getD, h]
/-- an array of N2 bytes vs codes the chars cs by the coder cd -/
def CodA (cs : List Int32) (cd N2 : Int32) (vs : List Value) : Prop := (cd = 0 ∧ N2 = Int32.ofNat cs.length ∧ vs = (cs.map fun c => Value.int (lo8 c)) ∧ ∀ c ∈ cs, ¬ 255 < c) ∨ (cd = 1 ∧ N2 = Int32.ofNat (2 * cs.length) ∧ vs = wideBytes cs ∧ ∃ c ∈ cs, 255 < c)
theorem CodA.cod {cs : List Int32} {cd N2 : Int32} {vs : List Value} {V : Cell} (h : CodA cs cd N2 vs) (hn : 2 * cs.length < 2 ^ 31) (hs : V.slots.size = N2.toNatClampNeg) (hv : RoadKit.Has V vs (.int 0)) : Cod cd cs.length (fun j => cs.getD j 0) V := by
  rcases h with ⟨rfl, rfl, rfl, h⟩ | ⟨rfl, rfl, rfl, c, hc, hw⟩
  · rw [n32 (by omega)] at hs
    exact Or.inl ⟨rfl, hs, fun j hj => ⟨by rw [hv j (by omega), low_at _ _ _ hj], by
      have e : cs.getD j 0 = cs[j] := by simp [List.getD_eq_getElem?_getD, hj]
      show ¬ 255 < cs.getD j 0
      rw [e]; exact h _ (List.getElem_mem _)⟩⟩
  · rw [n32 (by omega)] at hs
    obtain ⟨j, hj, rfl⟩ := List.getElem_of_mem hc
    exact Or.inr ⟨rfl, hs, fun j hj => ⟨by rw [hv _ (by omega), wide_lo _ _ _ hj], by rw [hv _ (by omega), wide_hi _ _ _ hj]⟩, j, hj, by
      have e : cs.getD j 0 = cs[j] := by simp [List.getD_eq_getElem?_getD, hj]
      show 255 < cs.getD j 0
      rw [e]; exact hw⟩
/-- an object of exactly java/lang/String, its two fields found: as the laws ask it -/
theorem strObj {Z U : State} {a0 : Array Value} {kI : Nat} (wi : (Jvm.Cond.instantiable ST kI).before a0 Z = true) (al : Z.vm.Alike U.vm) {x : Addr} {v0 c0 : Value} (E : RoadKit.Exa Z U.heap x ST) (V : RoadKit.Fld Z U.heap x ST "value" "[B" v0) (C : RoadKit.Fld Z U.heap x ST "coder" "B" c0) :
    ∃ (D : Cell) (fV fC : Field), Blank ST x D U ∧ Found ST "value" "[B" fV U ∧ Found ST "coder" "B" fC U ∧ D.slots[fV.slot]? = some v0 ∧ D.slots[fC.slot]? = some c0 ∧ RoadKit.slotOf Z ST "value" "[B" = fV.slot ∧ RoadKit.slotOf Z ST "coder" "B" = fC.slot := by
  obtain ⟨D, cfV, kV, iV, fV, hD, gV, stV, knV, obV, asV, slV⟩ := V
  obtain ⟨D', cfC, kC, iC, fC, hD', gC, stC, -, -, asC, slC⟩ := C
  cases hD.symm.trans hD'
  obtain ⟨D2, kD, e1, e2, e3, e4, e5⟩ := E
  cases hD.symm.trans e1
  obtain ⟨c2, k2, i1, i2, i3, -⟩ := Cond.instantiable_spec wi
  cases e2.symm.trans i1
  cases e3.symm.trans i2
  obtain ⟨kU, u1, u2⟩ := al.2.2 _ _ e3
  exact ⟨D, fV, fC, ⟨hD, ⟨knV, fun q hq => by rw [hq] at obV; cases obV⟩, by rw [al.findClass]; exact e2, kU, u1, by rw [u2]; exact i3, by rw [u2]; exact e5 i3⟩, ⟨SBG.found_only al ⟨cfV, kV, iV, gV⟩, stV⟩, ⟨SBG.found_only al ⟨cfC, kC, iC, gC⟩, stC⟩, slV, slC, by simp [RoadKit.slotOf, gV], by simp [RoadKit.slotOf, gC]⟩
theorem sta_is {Z U : State} (al : Z.vm.Alike U.vm) {C n d : String} {v : Value} (S : RoadKit.Sta Z U.heap C n d v) : StaticIs U C n d v := by
  obtain ⟨cfS, iS, kS, fS, st, cS, t1, t2, t3, t4, t5, t6, t7⟩ := S
  exact StaticIs.there (s := { Z with heap := U.heap }) ⟨cfS, iS, kS, fS, st, cS, t1, t2, t3, t4, t5, (fun q => by rw [q] at t6; cases t6), t7⟩ al rfl
end StrChars.Road
namespace StrChars
open Jvm Sem ClassFile Op Lib Jvm.Stand Jvm.Free.XT Jvm.Free.ALB Jvm.Free.JM Jvm.Free
open Jvm.Lib.Cold (StaticIs)
/-- what place i of a byte[]'s cell holds -/
def yv (A : Cell) (i : Nat) : Int32 := match A.slots[i]? with | some (.int x) => x | _ => 0
theorem yv_get {a : Addr} {A : Cell} {U : State} (h : XT.Arr .byte a A U) (ht : Typed .byte A) {i : Nat} (hi : i < A.slots.size) : A.slots[i]? = some (.int (yv A i)) := by
  have e := Array.getElem?_eq_getElem hi
  have f := ht i _ e
  unfold yv; rw [e]
  generalize A.slots[i] = v at f
  cases v <;> simp [fits] at f ⊢
/-- the two arrays are equal, place for place -/
def EqC (A B : Cell) : Prop := A.slots.size = B.slots.size ∧ ∀ i, i < A.slots.size → yv A i = yv B i
/-- a boolean that says whether p -/
def Says01 (q : Prop) (r : Option Value) (s u : State) : Prop := ∃ v : Int32, r = some (.int v) ∧ u.heap = s.heap ∧ ((v = 1 ∧ q) ∨ (v = 0 ∧ ¬ q))
theorem Says01.mv {q : Prop} : ∀ r (U U' V V' : State), U'.heap = U.heap → V.vm.Alike V'.vm → V'.heap = V.heap → Says01 q r U V → Says01 q r U' V' :=
  fun r U U' V V' h1 _ h2 ⟨v, a, b, c⟩ => ⟨v, a, by rw [h1, h2]; exact b, c⟩
namespace LEq
def yN : MethodName := ⟨"java/lang/StringLatin1", "equals", "([B[B)Z"⟩
abbrev yB : ByteArray := jdk_43_method_13_code
theorem d0 : decode yB 0 = .ok (.aload_n 0, 1) := by decide +kernel
theorem d1 : decode yB 1 = .ok (.arraylength, 1) := by decide +kernel
theorem d2 : decode yB 2 = .ok (.aload_n 1, 1) := by decide +kernel
theorem d3 : decode yB 3 = .ok (.arraylength, 1) := by decide +kernel
theorem d4 : decode yB 4 = .ok (.if_icmp (.ne) 30, 3) := by decide +kernel
theorem d7 : decode yB 7 = .ok (.iconst 0, 1) := by decide +kernel
theorem d8 : decode yB 8 = .ok (.istore_n 2, 1) := by decide +kernel
theorem d9 : decode yB 9 = .ok (.iload_n 2, 1) := by decide +kernel
theorem d10 : decode yB 10 = .ok (.aload_n 0, 1) := by decide +kernel
theorem d11 : decode yB 11 = .ok (.arraylength, 1) := by decide +kernel
theorem d12 : decode yB 12 = .ok (.if_icmp (.ge) 20, 3) := by decide +kernel
theorem d15 : decode yB 15 = .ok (.aload_n 0, 1) := by decide +kernel
theorem d16 : decode yB 16 = .ok (.iload_n 2, 1) := by decide +kernel
theorem d17 : decode yB 17 = .ok (.baload, 1) := by decide +kernel
theorem d18 : decode yB 18 = .ok (.aload_n 1, 1) := by decide +kernel
theorem d19 : decode yB 19 = .ok (.iload_n 2, 1) := by decide +kernel
theorem d20 : decode yB 20 = .ok (.baload, 1) := by decide +kernel
theorem d21 : decode yB 21 = .ok (.if_icmp (.eq) 5, 3) := by decide +kernel
theorem d24 : decode yB 24 = .ok (.iconst 0, 1) := by decide +kernel
theorem d25 : decode yB 25 = .ok (.ireturn, 1) := by decide +kernel
theorem d26 : decode yB 26 = .ok (.iinc 2 1, 3) := by decide +kernel
theorem d29 : decode yB 29 = .ok (.goto (-20), 3) := by decide +kernel
theorem d32 : decode yB 32 = .ok (.iconst 1, 1) := by decide +kernel
theorem d33 : decode yB 33 = .ok (.ireturn, 1) := by decide +kernel
theorem d34 : decode yB 34 = .ok (.iconst 0, 1) := by decide +kernel
theorem d35 : decode yB 35 = .ok (.ireturn, 1) := by decide +kernel
def site : List Cond := []
def tab : Cond := tabOf yN yB 3 (some .boolean) site
def P (a : Addr) (A : Cell) (b : Addr) (B : Cell) (args : Array Value) (s : State) : Prop := args = #[.ref a, .ref b] ∧ XT.Arr .byte a A s ∧ Typed .byte A ∧ XT.Arr .byte b B s ∧ Typed .byte B
/-- whether two byte[] are equal, place for place -/
theorem law (l : Launch) (a : Addr) (A : Cell) (b : Addr) (B : Cell) : Law l yN 2 2 0 0 yB 3 (some .boolean) site (P a A b B) (Says01 (EqC A B)) [] 0 0 := by
  refine Law.of_walk (plainFor_of_name (by decide +kernel)) (by decide +kernel) (by decide +kernel) (by decide) (fun _ _ h => by rw [h.1]; rfl) (fun _ U U' hal hh h => ⟨h.1, h.2.1.mv hal hh, h.2.2.1, h.2.2.2.1.mv hal hh, h.2.2.2.2⟩) (fun r U U' V V' h1 hal h2 h => Says01.mv r U U' V V' h1 hal h2 h) ?_
  intro p e s m args below meth c s₁ X0 hexec hbytes hml hret hlk hnm hown hh0 W hP
  obtain ⟨rfl, hA, tA, hB, tB⟩ := hP
  have a31 := hA.2.2.2
  have b31 := hB.2.2.2
  have hA0 := hA.mv X0.warmed.alike hh0
  have hB0 := hB.mv X0.warmed.alike hh0
  have c1 : Steps p.tables e below (s₁.setTop (entryFrame m #[.ref a, .ref b] 3)) (s₁.setTop (mkF m 0 #[.val (.ref a), .val (.ref b), .unset] [])) := entry rfl
  have c2 : Steps p.tables e below (s₁.setTop (entryFrame m #[.ref a, .ref b] 3)) (s₁.setTop (mkF m 4 #[.val (.ref a), .val (.ref b), .unset] [.int (Int32.ofNat B.slots.size), .int (Int32.ofNat A.slots.size)])) := c1.trans (by
    refine XS.aloadN X0.here hexec rfl (hb hbytes d0) rfl rfl ?_
    refine X0.alen hexec hA0 rfl rfl (hb hbytes d1) ?_
    refine XS.aloadN X0.here hexec rfl (hb hbytes d2) rfl rfl ?_
    refine X0.alen hexec hB0 rfl rfl (hb hbytes d3) ?_
    exact Steps.refl _)
  by_cases hs : A.slots.size = B.slots.size
  · have c3 : Steps p.tables e below (s₁.setTop (entryFrame m #[.ref a, .ref b] 3)) (s₁.setTop (mkF m 9 #[.val (.ref a), .val (.ref b), .val (.int 0)] [])) := c2.trans (by
      refine XS.icmpNo X0.here hexec rfl (hb hbytes d4) rfl (ii_ne_f (by rw [hs])) ?_
      refine iconstV X0.here hexec rfl 0 (hb hbytes d7) (by decide) ?_
      refine XS.istoreN X0.here hexec rfl (hb hbytes d8) rfl rfl ?_
      exact Steps.refl _)
    have loop : ∀ (r i : Nat), i + r = A.slots.size → (∀ j, j < i → yv A j = yv B j) → Steps p.tables e below (s₁.setTop (entryFrame m #[.ref a, .ref b] 3)) (s₁.setTop (mkF m 9 #[.val (.ref a), .val (.ref b), .val (.int (Int32.ofNat i))] [])) → ∃ (pc : Nat) (Ls : Array Slot) (v : Int32), (pc = 25 ∨ pc = 33) ∧ ((v = 1 ∧ EqC A B) ∨ (v = 0 ∧ ¬ EqC A B)) ∧ Steps p.tables e below (s₁.setTop (entryFrame m #[.ref a, .ref b] 3)) (s₁.setTop (mkF m pc Ls [.int v])) := by
      intro r
      induction r with
      | zero =>
        intro i hi he cl
        exact ⟨33, _, 1, Or.inr rfl, Or.inl ⟨rfl, hs, fun j hj => he j (by omega)⟩, cl.trans (by
          refine XS.iloadN X0.here hexec rfl (hb hbytes d9) rfl ?_
          refine XS.aloadN X0.here hexec rfl (hb hbytes d10) rfl rfl ?_
          refine X0.alen hexec hA0 rfl rfl (hb hbytes d11) ?_
          refine XS.icmpYes X0.here hexec rfl (pc0 := 12) rfl (hb hbytes d12) rfl (ii_ge_t (nlt32 (by omega) (by omega))) (by decide) rfl ?_
          refine iconstV X0.here hexec rfl 1 (hb hbytes d32) (by decide) ?_
          exact Steps.refl _)⟩
      | succ r ih =>
        intro i hi he cl
        have c4 : Steps p.tables e below (s₁.setTop (entryFrame m #[.ref a, .ref b] 3)) (s₁.setTop (mkF m 21 #[.val (.ref a), .val (.ref b), .val (.int (Int32.ofNat i))] [.int (yv B i), .int (yv A i)])) := cl.trans (by
          refine XS.iloadN X0.here hexec rfl (hb hbytes d9) rfl ?_
          refine XS.aloadN X0.here hexec rfl (hb hbytes d10) rfl rfl ?_
          refine X0.alen hexec hA0 rfl rfl (hb hbytes d11) ?_
          refine XS.icmpNo X0.here hexec rfl (hb hbytes d12) rfl (ii_ge_f (lt32 (by omega) (by omega))) ?_
          refine XS.aloadN X0.here hexec rfl (hb hbytes d15) rfl rfl ?_
          refine XS.iloadN X0.here hexec rfl (hb hbytes d16) rfl ?_
          refine X0.aget hexec hA0 rfl (yv_get hA tA (i := i) (by omega)) rfl rfl (hb hbytes d17) ?_
          refine XS.aloadN X0.here hexec rfl (hb hbytes d18) rfl rfl ?_
          refine XS.iloadN X0.here hexec rfl (hb hbytes d19) rfl ?_
          refine X0.aget hexec hB0 rfl (yv_get hB tB (i := i) (by omega)) rfl rfl (hb hbytes d20) ?_
          exact Steps.refl _)
        by_cases hv : yv A i = yv B i
        · have c5 : Steps p.tables e below (s₁.setTop (entryFrame m #[.ref a, .ref b] 3)) (s₁.setTop (mkF m 9 #[.val (.ref a), .val (.ref b), .val (.int (Int32.ofNat i + 1))] [])) := c4.trans (by
            refine XS.icmpYes X0.here hexec rfl (pc0 := 21) rfl (hb hbytes d21) rfl (ii_eq_t hv) (by decide) rfl ?_
            refine iincV X0.here hexec rfl 1 (hb hbytes d26) (by decide) rfl rfl ?_
            refine XS.goto X0.here hexec rfl (pc0 := 29) rfl (hb hbytes d29) (by decide) rfl ?_
            exact Steps.refl _)
          rw [succ32] at c5
          exact ih (i + 1) (by omega) (fun j hj => by
            by_cases e : j = i
            · rw [e]; exact hv
            · exact he j (by omega)) c5
        · exact ⟨25, _, 0, Or.inl rfl, Or.inr ⟨rfl, fun q => hv (q.2 i (by omega))⟩, c4.trans (by
            refine XS.icmpNo X0.here hexec rfl (hb hbytes d21) rfl (ii_eq_f hv) ?_
            refine iconstV X0.here hexec rfl 0 (hb hbytes d24) (by decide) ?_
            exact Steps.refl _)⟩
    obtain ⟨pc, Ls, v, hpc, hv, cz⟩ := loop A.slots.size 0 (by omega) (fun j hj => absurd hj (Nat.not_lt_zero j)) c3
    have nv : narrow .boolean (.int v) = .int v := by rcases hv with ⟨rfl, -⟩ | ⟨rfl, -⟩ <;> rfl
    rcases hpc with rfl | rfl
    · exact ⟨s₁, some (.int v), _, _, _, X0, rfl, rfl, rfl, (fun h => by cases h), ⟨v, rfl, hh0, hv⟩, fun fs hl => cz.trans (X0.ireturnOut hexec hret nv (Or.inr (Or.inl rfl)) (hb hbytes d25) hl)⟩
    · exact ⟨s₁, some (.int v), _, _, _, X0, rfl, rfl, rfl, (fun h => by cases h), ⟨v, rfl, hh0, hv⟩, fun fs hl => cz.trans (X0.ireturnOut hexec hret nv (Or.inr (Or.inl rfl)) (hb hbytes d33) hl)⟩
  · have c3 : Steps p.tables e below (s₁.setTop (entryFrame m #[.ref a, .ref b] 3)) (s₁.setTop (mkF m 35 #[.val (.ref a), .val (.ref b), .unset] [.int 0])) := c2.trans (by
      refine XS.icmpYes X0.here hexec rfl (pc0 := 4) rfl (hb hbytes d4) rfl (ii_ne_t (ne32 a31 b31 hs)) (by decide) rfl ?_
      refine iconstV X0.here hexec rfl 0 (hb hbytes d34) (by decide) ?_
      exact Steps.refl _)
    exact ⟨s₁, some (.int 0), _, _, _, X0, rfl, rfl, rfl, (fun h => by cases h), ⟨0, rfl, hh0, Or.inr ⟨rfl, fun q => hs q.1⟩⟩, fun fs hl => c3.trans (X0.ireturnOut hexec hret rfl (Or.inr (Or.inl rfl)) (hb hbytes d35) hl)⟩
end LEq
theorem Cod.ty {cd : Int32} {n : Nat} {f : Nat → Int32} {V : Cell} (h : Cod cd n f V) : Typed .byte V := fun i v hv => by
  have hi : i < V.slots.size := (Array.getElem?_eq_some_iff.mp hv).1
  rcases h with ⟨-, k1, k2⟩ | ⟨-, k1, k2, -⟩
  · rw [(k2 i (by omega)).1] at hv; cases hv; exact fits_lo8 _
  · rcases Nat.mod_two_eq_zero_or_one i with e | e
    · obtain ⟨j, rfl⟩ : ∃ j, i = 2 * j := ⟨i / 2, by omega⟩
      rw [(k2 j (by omega)).1] at hv; cases hv; exact fits_lo8 _
    · obtain ⟨j, rfl⟩ : ∃ j, i = 2 * j + 1 := ⟨i / 2, by omega⟩
      rw [(k2 j (by omega)).2] at hv; cases hv; exact fits_lo8 _
/-- the same text -/
def SameT (n : Nat) (f : Nat → Int32) (k : Nat) (g : Nat → Int32) : Prop := n = k ∧ ∀ j, j < n → f j = g j
theorem lo8_inj {x y : Int32} (h0 : ¬ x < 0) (h1 : ¬ 255 < x) (k0 : ¬ y < 0) (k1 : ¬ 255 < y) (h : lo8 x = lo8 y) : x = y := by
  rw [← lo8_mask h0 h1, ← lo8_mask k0 k1, h]
/-- arrays coded by one coder are equal just where the texts are -/
theorem Cod.eqv {cd : Int32} {n k : Nat} {f g : Nat → Int32} {V V' : Cell} (h : Cod cd n f V) (h' : Cod cd k g V') (hf : ∀ j, j < n → ¬ f j < 0 ∧ ¬ 65535 < f j) (hg : ∀ j, j < k → ¬ g j < 0 ∧ ¬ 65535 < g j) : EqC V V' ↔ SameT n f k g := by
  have yvv : ∀ {W : Cell} {i : Nat} {x : Int32}, W.slots[i]? = some (.int x) → yv W i = x := fun q => by unfold yv; rw [q]
  rcases h with ⟨rfl, k1, k2⟩ | ⟨rfl, k1, k2, -⟩
  · rcases h' with ⟨-, m1, m2⟩ | ⟨e, -⟩
    · constructor
      · rintro ⟨e1, e2⟩
        refine ⟨by omega, fun j hj => ?_⟩
        have q := e2 j (by omega)
        rw [yvv (k2 j hj).1, yvv (m2 j (by omega)).1] at q
        exact lo8_inj (hf j hj).1 (k2 j hj).2 (hg j (by omega)).1 (m2 j (by omega)).2 q
      · rintro ⟨rfl, e2⟩
        refine ⟨by omega, fun j hj => ?_⟩
        rw [yvv (k2 j (by omega)).1, yvv (m2 j (by omega)).1, e2 j (by omega)]
    · exact absurd e (by decide)
  · rcases h' with ⟨e, -⟩ | ⟨-, m1, m2, -⟩
    · exact absurd e (by decide)
    · constructor
      · rintro ⟨e1, e2⟩
        refine ⟨by omega, fun j hj => ?_⟩
        have q1 := e2 (2 * j) (by omega)
        have q2 := e2 (2 * j + 1) (by omega)
        rw [yvv (k2 j hj).1, yvv (m2 j (by omega)).1] at q1
        rw [yvv (k2 j hj).2, yvv (m2 j (by omega)).2] at q2
        rw [← pair_says (hf j hj).1 (hf j hj).2, ← pair_says (hg j (by omega)).1 (hg j (by omega)).2, q1, q2]
      · rintro ⟨rfl, e2⟩
        refine ⟨by omega, fun i hi => ?_⟩
        rcases Nat.mod_two_eq_zero_or_one i with e | e
        · obtain ⟨j, rfl⟩ : ∃ j, i = 2 * j := ⟨i / 2, by omega⟩
          rw [yvv (k2 j (by omega)).1, yvv (m2 j (by omega)).1, e2 j (by omega)]
        · obtain ⟨j, rfl⟩ : ∃ j, i = 2 * j + 1 := ⟨i / 2, by omega⟩
          rw [yvv (k2 j (by omega)).2, yvv (m2 j (by omega)).2, e2 j (by omega)]
/-- two codings differ: so do the texts -/
theorem Cod.dif {cd cd' : Int32} {n k : Nat} {f g : Nat → Int32} {V V' : Cell} (h : Cod cd n f V) (h' : Cod cd' k g V') (hne : ¬ cd = cd') : ¬ SameT n f k g := by
  rintro ⟨rfl, e⟩
  rcases h with ⟨rfl, -, k2⟩ | ⟨rfl, -, -, j, hj, hw⟩
  · rcases h' with ⟨rfl, -⟩ | ⟨-, -, -, j, hj, hw⟩
    · exact hne rfl
    · exact (k2 j hj).2 (by rw [e j hj]; exact hw)
  · rcases h' with ⟨-, -, m2⟩ | ⟨rfl, -⟩
    · exact (m2 j hj).2 (by rw [← e j hj]; exact hw)
    · exact hne rfl
/-- an object of exactly C is an instance of C -/
theorem cinst {p : Program} {l : Launch} {e : Env} {R : Room} {s : State} {m : MethodId} {args : Array Value} {below : List Frame} {meth : Method} {c : Code} {T : State} {locs : List Loc} {cells slots : Nat} (X : Stand p l e R s m args below meth c T locs cells slots) (hexec : p.tables.exec = Jvm.exec) {own C : String} {index : Nat} (hown : s.vm.findClass own = some m.cls) (hlink : (Cond.classLink own index C).before args s = true) {a : Addr} (hE : Exact C a T)
    {g : JFrame} (hg : g.method = m) {rest : List Value} (hstack : g.stack = .ref a :: rest) (hdg : decode c.code g.pc = .ok (.instanceof index, 3)) :
    ∃ T', Stand p l e R s m args below meth c T' locs cells slots ∧ T'.heap = T.heap ∧ ∀ target, Steps p.tables e below (T'.setTop { g with pc := g.pc + 3, stack := .int 1 :: rest }) target → Steps p.tables e below (T.setTop g) target := by
  obtain ⟨cB, h1, D, h2, h3, h4⟩ := hE
  have h1' : s.vm.findClass C = some cB := by rw [← X.warmed.alike.findClass]; exact h1
  obtain ⟨vm', X', st⟩ := X.instanceofYes hexec hown hlink h2 h4 h1' (by rw [h3]; exact Jvm.Free.SB.assignable_self _ _) hg hstack hdg
  exact ⟨_, X', rfl, st⟩
theorem cself {p : Program} {l : Launch} {e : Env} {R : Room} {s : State} {m : MethodId} {args : Array Value} {below : List Frame} {meth : Method} {c : Code} {T : State} {locs : List Loc} {cells slots : Nat} (X : Stand p l e R s m args below meth c T locs cells slots) (hexec : p.tables.exec = Jvm.exec) {own C : String} {index : Nat} (hown : s.vm.findClass own = some m.cls) (hlink : (Cond.classLink own index C).before args s = true) {a : Addr} (hE : Exact C a T)
    {g : JFrame} (hg : g.method = m) {rest : List Value} (hstack : g.stack = .ref a :: rest) (hdg : decode c.code g.pc = .ok (.checkcast index, 3)) :
    ∃ T', Stand p l e R s m args below meth c T' locs cells slots ∧ T'.heap = T.heap ∧ ∀ target, Steps p.tables e below (T'.setTop { g with pc := g.pc + 3, stack := .ref a :: rest }) target → Steps p.tables e below (T.setTop g) target := by
  obtain ⟨cB, h1, D, h2, h3, h4⟩ := hE
  have h1' : s.vm.findClass C = some cB := by rw [← X.warmed.alike.findClass]; exact h1
  obtain ⟨vm', X', st⟩ := X.checkcastYes hexec hown hlink h2 h4 h1' (by rw [h3]; exact Jvm.Free.SB.assignable_self _ _) hg hstack hdg
  exact ⟨_, X', rfl, fun t h => st t (by rw [← hstack] at h; exact h)⟩
namespace SEq
def yN : MethodName := ⟨"java/lang/String", "equals", "(Ljava/lang/Object;)Z"⟩
abbrev yB : ByteArray := jdk_42_method_66_code
theorem d0 : decode yB 0 = .ok (.aload_n 0, 1) := by decide +kernel
theorem d1 : decode yB 1 = .ok (.aload_n 1, 1) := by decide +kernel
theorem d2 : decode yB 2 = .ok (.if_acmp (.ne) 5, 3) := by decide +kernel
theorem d5 : decode yB 5 = .ok (.iconst 1, 1) := by decide +kernel
theorem d6 : decode yB 6 = .ok (.ireturn, 1) := by decide +kernel
theorem d7 : decode yB 7 = .ok (.aload_n 1, 1) := by decide +kernel
theorem d8 : decode yB 8 = .ok (.instanceof 10, 3) := by decide +kernel
theorem d11 : decode yB 11 = .ok (.ifCond (.eq) 43, 3) := by decide +kernel
theorem d14 : decode yB 14 = .ok (.aload_n 1, 1) := by decide +kernel
theorem d15 : decode yB 15 = .ok (.checkcast 10, 3) := by decide +kernel
theorem d18 : decode yB 18 = .ok (.astore_n 2, 1) := by decide +kernel
theorem d19 : decode yB 19 = .ok (.getstatic 38, 3) := by decide +kernel
theorem d22 : decode yB 22 = .ok (.ifCond (.eq) 14, 3) := by decide +kernel
theorem d25 : decode yB 25 = .ok (.aload_n 0, 1) := by decide +kernel
theorem d26 : decode yB 26 = .ok (.getfield 15, 3) := by decide +kernel
theorem d29 : decode yB 29 = .ok (.aload_n 2, 1) := by decide +kernel
theorem d30 : decode yB 30 = .ok (.getfield 15, 3) := by decide +kernel
theorem d33 : decode yB 33 = .ok (.if_icmp (.ne) 21, 3) := by decide +kernel
theorem d36 : decode yB 36 = .ok (.aload_n 0, 1) := by decide +kernel
theorem d37 : decode yB 37 = .ok (.getfield 9, 3) := by decide +kernel
theorem d40 : decode yB 40 = .ok (.aload_n 2, 1) := by decide +kernel
theorem d41 : decode yB 41 = .ok (.getfield 9, 3) := by decide +kernel
theorem d44 : decode yB 44 = .ok (.invokestatic 541, 3) := by decide +kernel
theorem d47 : decode yB 47 = .ok (.ifCond (.eq) 7, 3) := by decide +kernel
theorem d50 : decode yB 50 = .ok (.iconst 1, 1) := by decide +kernel
theorem d51 : decode yB 51 = .ok (.goto 4, 3) := by decide +kernel
theorem d54 : decode yB 54 = .ok (.iconst 0, 1) := by decide +kernel
theorem d55 : decode yB 55 = .ok (.ireturn, 1) := by decide +kernel
def site : List Cond := [.classLink "java/lang/String" 10 "java/lang/String", .fieldLink "java/lang/String" 38 "java/lang/String" "COMPACT_STRINGS" "Z", .fieldLink "java/lang/String" 15 "java/lang/String" "coder" "B", .fieldLink "java/lang/String" 9 "java/lang/String" "value" "[B", LEq.tab] ++ staticW "java/lang/String" 541 LEq.yN
def tab : Cond := tabOf yN yB 3 (some .boolean) site
def P (x t : Addr) (V : Cell) (cd : Int32) (n : Nat) (f : Nat → Int32) (y t' : Addr) (V' : Cell) (cd' : Int32) (k : Nat) (g : Nat → Int32) (z : Int32) (args : Array Value) (s : State) : Prop := args = #[.ref x, .ref y] ∧ Txt x t V cd n f s ∧ Txt y t' V' cd' k g s ∧ StaticIs s "java/lang/String" "COMPACT_STRINGS" "Z" (.int z) ∧ ¬ z = 0
/-- equals(Object) of two Strings: whether the texts are the same -/
theorem law (l : Launch) (x t : Addr) (V : Cell) (cd : Int32) (n : Nat) (f : Nat → Int32) (y t' : Addr) (V' : Cell) (cd' : Int32) (k : Nat) (g : Nat → Int32) (z : Int32) : Law l yN 2 1 1 14 yB 3 (some .boolean) site (P x t V cd n f y t' V' cd' k g z) (Says01 (SameT n f k g)) [] 0 0 := by
  refine Law.of_walk (plainFor_of_name (by decide +kernel)) (by decide +kernel) (by decide +kernel) (by decide) (fun _ _ h => by rw [h.1]; rfl) (fun _ U U' hal hh h => ⟨h.1, h.2.1.mv hal hh, h.2.2.1.mv hal hh, h.2.2.2.1.there hal hh, h.2.2.2.2⟩) (fun r U U' V V' h1 hal h2 h => Says01.mv r U U' V V' h1 hal h2 h) ?_
  intro p e s m args below meth c s₁ X0 hexec hbytes hml hret hlk hnm hown hh0 W hP
  obtain ⟨rfl, hx, hy, s1, hz⟩ := hP
  have c1 : Steps p.tables e below (s₁.setTop (entryFrame m #[.ref x, .ref y] 3)) (s₁.setTop (mkF m 2 #[.val (.ref x), .val (.ref y), .unset] [.ref y, .ref x])) := Steps.trans (entry rfl) (by
    show Steps p.tables e below (s₁.setTop (mkF m 0 #[.val (.ref x), .val (.ref y), .unset] [])) _
    refine XS.aloadN X0.here hexec rfl (hb hbytes d0) rfl rfl ?_
    refine XS.aloadN X0.here hexec rfl (hb hbytes d1) rfl rfl ?_
    exact Steps.refl _)
  by_cases hxy : x = y
  · have c2 : Steps p.tables e below (s₁.setTop (entryFrame m #[.ref x, .ref y] 3)) (s₁.setTop (mkF m 6 #[.val (.ref x), .val (.ref y), .unset] [.int 1])) := c1.trans (by
      refine acmpNo X0.here hexec rfl (hb hbytes d2) rfl rfl rfl (by simp [acmp, hxy]) ?_
      refine iconstV X0.here hexec rfl 1 (hb hbytes d5) (by decide) ?_
      exact Steps.refl _)
    subst hxy
    have ec : cd = cd' := by
      obtain ⟨D, fd, a1, a2, a3⟩ := hx.2.2.1
      obtain ⟨D', fd', b1, b2, b3⟩ := hy.2.2.1
      cases a1.symm.trans b1
      obtain ⟨q1, q2, q3, q4⟩ := a2.1
      obtain ⟨r1, r2, r3, r4⟩ := b2.1
      cases q4.symm.trans r4
      cases a3.symm.trans b3; rfl
    have et : t = t' := by
      obtain ⟨D, fd, a1, a2, a3⟩ := hx.2.1
      obtain ⟨D', fd', b1, b2, b3⟩ := hy.2.1
      cases a1.symm.trans b1
      obtain ⟨q1, q2, q3, q4⟩ := a2.1
      obtain ⟨r1, r2, r3, r4⟩ := b2.1
      cases q4.symm.trans r4
      cases a3.symm.trans b3; rfl
    subst ec et
    have ev : V = V' := by cases hx.2.2.2.1.1.symm.trans hy.2.2.2.1.1; rfl
    subst ev
    have hs : SameT n f k g := (Cod.eqv hx.2.2.2.2.1 hy.2.2.2.2.1 hx.2.2.2.2.2 hy.2.2.2.2.2).mp ⟨rfl, fun _ _ => rfl⟩
    exact ⟨s₁, some (.int 1), _, _, _, X0, rfl, rfl, rfl, (fun h => by cases h), ⟨1, rfl, hh0, Or.inl ⟨rfl, hs⟩⟩, fun fs hl => c2.trans (X0.ireturnOut hexec hret rfl (Or.inr (Or.inl rfl)) (hb hbytes d6) hl)⟩
  · have c2 : Steps p.tables e below (s₁.setTop (entryFrame m #[.ref x, .ref y] 3)) (s₁.setTop (mkF m 8 #[.val (.ref x), .val (.ref y), .unset] [.ref y])) := c1.trans (by
      refine acmpYes X0.here hexec rfl (pc0 := 2) rfl (hb hbytes d2) rfl rfl rfl (by simp [acmp, hxy]) (by decide) rfl ?_
      refine XS.aloadN X0.here hexec rfl (hb hbytes d7) rfl rfl ?_
      exact Steps.refl _)
    obtain ⟨T3, X3, q3, st3⟩ := cinst X0 hexec hown (wk W (.classLink "java/lang/String" 10 "java/lang/String")) (hy.mv X0.warmed.alike hh0).1 (g := (mkF m 8 #[.val (.ref x), .val (.ref y), .unset] [.ref y])) rfl (rest := []) rfl (hb hbytes d8)
    have hh3 := q3.trans hh0
    have c4 : Steps p.tables e below (s₁.setTop (entryFrame m #[.ref x, .ref y] 3)) (T3.setTop (mkF m 15 #[.val (.ref x), .val (.ref y), .unset] [.ref y])) := (c2.trans (st3 _ (Steps.refl _))).trans (by
      refine XS.ifNo X3.here hexec rfl (hb hbytes d11) rfl (i0_eq_f (by decide)) ?_
      refine XS.aloadN X3.here hexec rfl (hb hbytes d14) rfl rfl ?_
      exact Steps.refl _)
    obtain ⟨T5, X5, q5, st5⟩ := cself X3 hexec hown (wk W (.classLink "java/lang/String" 10 "java/lang/String")) (hy.mv X3.warmed.alike hh3).1 (g := (mkF m 15 #[.val (.ref x), .val (.ref y), .unset] [.ref y])) rfl (rest := []) rfl (hb hbytes d15)
    have hh5 := q5.trans hh3
    have c6 : Steps p.tables e below (s₁.setTop (entryFrame m #[.ref x, .ref y] 3)) (T5.setTop (mkF m 19 #[.val (.ref x), .val (.ref y), .val (.ref y)] [])) := (c4.trans (st5 _ (Steps.refl _))).trans (by
      refine XS.astoreN X5.here hexec rfl (hb hbytes d18) rfl rfl rfl ?_
      exact Steps.refl _)
    obtain ⟨T7, X7, q7, st7⟩ := X5.sget hexec hown (wk W (.fieldLink "java/lang/String" 38 "java/lang/String" "COMPACT_STRINGS" "Z")) s1 (fun _ _ h => by rw [hh5]; exact h) (g := (mkF m 19 #[.val (.ref x), .val (.ref y), .val (.ref y)] [])) rfl (hb hbytes d19)
    have hh7 := q7.trans hh5
    have c8 : Steps p.tables e below (s₁.setTop (entryFrame m #[.ref x, .ref y] 3)) (T7.setTop (mkF m 26 #[.val (.ref x), .val (.ref y), .val (.ref y)] [.ref x])) := (c6.trans (st7 _ (Steps.refl _))).trans (by
      refine XS.ifNo X7.here hexec rfl (hb hbytes d22) rfl (i0_eq_f hz) ?_
      refine XS.aloadN X7.here hexec rfl (hb hbytes d25) rfl rfl ?_
      exact Steps.refl _)
    obtain ⟨T9, X9, q9, st9⟩ := X7.hget hexec hown (wk W (.fieldLink "java/lang/String" 15 "java/lang/String" "coder" "B")) (hx.mv X7.warmed.alike hh7).2.2.1 (g := (mkF m 26 #[.val (.ref x), .val (.ref y), .val (.ref y)] [.ref x])) rfl (rest := []) rfl (hb hbytes d26)
    have hh9 := q9.trans hh7
    have c10 : Steps p.tables e below (s₁.setTop (entryFrame m #[.ref x, .ref y] 3)) (T9.setTop (mkF m 30 #[.val (.ref x), .val (.ref y), .val (.ref y)] [.ref y, .int cd])) := (c8.trans (st9 _ (Steps.refl _))).trans (by
      refine XS.aloadN X9.here hexec rfl (hb hbytes d29) rfl rfl ?_
      exact Steps.refl _)
    obtain ⟨T11, X11, q11, st11⟩ := X9.hget hexec hown (wk W (.fieldLink "java/lang/String" 15 "java/lang/String" "coder" "B")) (hy.mv X9.warmed.alike hh9).2.2.1 (g := (mkF m 30 #[.val (.ref x), .val (.ref y), .val (.ref y)] [.ref y, .int cd])) rfl (rest := [.int cd]) rfl (hb hbytes d30)
    have hh11 := q11.trans hh9
    have c12 : Steps p.tables e below (s₁.setTop (entryFrame m #[.ref x, .ref y] 3)) (T11.setTop (mkF m 33 #[.val (.ref x), .val (.ref y), .val (.ref y)] [.int cd', .int cd])) := c10.trans (st11 _ (Steps.refl _))
    by_cases hcd : cd = cd'
    · subst hcd
      have c13 : Steps p.tables e below (s₁.setTop (entryFrame m #[.ref x, .ref y] 3)) (T11.setTop (mkF m 37 #[.val (.ref x), .val (.ref y), .val (.ref y)] [.ref x])) := c12.trans (by
        refine XS.icmpNo X11.here hexec rfl (hb hbytes d33) rfl (ii_ne_f rfl) ?_
        refine XS.aloadN X11.here hexec rfl (hb hbytes d36) rfl rfl ?_
        exact Steps.refl _)
      obtain ⟨T14, X14, q14, st14⟩ := X11.hget hexec hown (wk W (.fieldLink "java/lang/String" 9 "java/lang/String" "value" "[B")) (hx.mv X11.warmed.alike hh11).2.1 (g := (mkF m 37 #[.val (.ref x), .val (.ref y), .val (.ref y)] [.ref x])) rfl (rest := []) rfl (hb hbytes d37)
      have hh14 := q14.trans hh11
      have c15 : Steps p.tables e below (s₁.setTop (entryFrame m #[.ref x, .ref y] 3)) (T14.setTop (mkF m 41 #[.val (.ref x), .val (.ref y), .val (.ref y)] [.ref y, .ref t])) := (c13.trans (st14 _ (Steps.refl _))).trans (by
        refine XS.aloadN X14.here hexec rfl (hb hbytes d40) rfl rfl ?_
        exact Steps.refl _)
      obtain ⟨T16, X16, q16, st16⟩ := X14.hget hexec hown (wk W (.fieldLink "java/lang/String" 9 "java/lang/String" "value" "[B")) (hy.mv X14.warmed.alike hh14).2.1 (g := (mkF m 41 #[.val (.ref x), .val (.ref y), .val (.ref y)] [.ref y, .ref t])) rfl (rest := [.ref t]) rfl (hb hbytes d41)
      have hh16 := q16.trans hh14
      have c17 : Steps p.tables e below (s₁.setTop (entryFrame m #[.ref x, .ref y] 3)) (T16.setTop (mkF m 44 #[.val (.ref x), .val (.ref y), .val (.ref y)] [.ref t', .ref t])) := c15.trans (st16 _ (Steps.refl _))
      obtain ⟨v18, T18, X18, E18, g18⟩ := X16.callS hexec (LEq.law l t V t' V') hown (wks W (staticW "java/lang/String" 541 LEq.yN)) (wk W LEq.tab) (W := 0) (Nat.le_of_ble_eq_true rfl) (Nat.le_of_ble_eq_true rfl) (Nat.le_refl _) (Nat.le_refl _) (g := (mkF m 44 #[.val (.ref x), .val (.ref y), .val (.ref y)] [.ref t', .ref t])) rfl (by rw [hml]; rfl) c17 (argsL := [.ref t, .ref t']) (rest := []) rfl rfl (by show 2 * 0 + 0 ≤ _; decide) (hb hbytes d44) (⟨rfl, hx.2.2.2.1.mv X16.warmed.alike hh16, hx.2.2.2.2.1.ty, hy.2.2.2.1.mv X16.warmed.alike hh16, hy.2.2.2.2.1.ty⟩)
      obtain ⟨v, rfl, q18, hv⟩ := E18
      have iff := Cod.eqv hx.2.2.2.2.1 hy.2.2.2.2.1 hx.2.2.2.2.2 hy.2.2.2.2.2
      rcases hv with ⟨rfl, he⟩ | ⟨rfl, he⟩
      · have c19 : Steps p.tables e below (s₁.setTop (entryFrame m #[.ref x, .ref y] 3)) (T18.setTop (mkF m 55 #[.val (.ref x), .val (.ref y), .val (.ref y)] [.int 1])) := Steps.trans g18 (by
          refine XS.ifNo X18.here hexec rfl (hb hbytes d47) rfl (i0_eq_f (by decide)) ?_
          refine iconstV X18.here hexec rfl 1 (hb hbytes d50) (by decide) ?_
          refine XS.goto X18.here hexec rfl (pc0 := 51) rfl (hb hbytes d51) (by decide) rfl ?_
          exact Steps.refl _)
        exact ⟨T18, some (.int 1), _, _, _, X18, rfl, rfl, rfl, (fun h => by cases h), ⟨1, rfl, q18.trans hh16, Or.inl ⟨rfl, iff.mp he⟩⟩, fun fs hl => c19.trans (X18.ireturnOut hexec hret rfl (Or.inr (Or.inl rfl)) (hb hbytes d55) hl)⟩
      · have c19 : Steps p.tables e below (s₁.setTop (entryFrame m #[.ref x, .ref y] 3)) (T18.setTop (mkF m 55 #[.val (.ref x), .val (.ref y), .val (.ref y)] [.int 0])) := Steps.trans g18 (by
          refine XS.ifYes X18.here hexec rfl (pc0 := 47) rfl (hb hbytes d47) rfl (i0_eq_t rfl) (by decide) rfl ?_
          refine iconstV X18.here hexec rfl 0 (hb hbytes d54) (by decide) ?_
          exact Steps.refl _)
        exact ⟨T18, some (.int 0), _, _, _, X18, rfl, rfl, rfl, (fun h => by cases h), ⟨0, rfl, q18.trans hh16, Or.inr ⟨rfl, fun q => he (iff.mpr q)⟩⟩, fun fs hl => c19.trans (X18.ireturnOut hexec hret rfl (Or.inr (Or.inl rfl)) (hb hbytes d55) hl)⟩
    · have c13 : Steps p.tables e below (s₁.setTop (entryFrame m #[.ref x, .ref y] 3)) (T11.setTop (mkF m 55 #[.val (.ref x), .val (.ref y), .val (.ref y)] [.int 0])) := c12.trans (by
        refine XS.icmpYes X11.here hexec rfl (pc0 := 33) rfl (hb hbytes d33) rfl (ii_ne_t hcd) (by decide) rfl ?_
        refine iconstV X11.here hexec rfl 0 (hb hbytes d54) (by decide) ?_
        exact Steps.refl _)
      exact ⟨T11, some (.int 0), _, _, _, X11, rfl, rfl, rfl, (fun h => by cases h), ⟨0, rfl, hh11, Or.inr ⟨rfl, Cod.dif hx.2.2.2.2.1 hy.2.2.2.2.1 hcd⟩⟩, fun fs hl => c13.trans (X11.ireturnOut hexec hret rfl (Or.inr (Or.inl rfl)) (hb hbytes d55) hl)⟩
theorem pays {l : Launch} {R : Room} {p : Program} {e : Env} {below : List Frame} {s : State} {sargs : Array Value} {len W : Nat} (x t : Addr) (V : Cell) (cd : Int32) (n : Nat) (f : Nat → Int32) (y t' : Addr) (V' : Cell) (cd' : Int32) (k : Nat) (g : Nat → Int32) (z : Int32) (htab : tab.before sargs s = true) (hfr : 2 ≤ R.frames) (hlo : W + 28 ≤ R.locals) :
    Back l R p e below s sargs yN len W (fun A₁ a₁ => A₁.cells + 0 ≤ R.cells ∧ A₁.slots + 0 ≤ R.slots ∧ P x t V cd n f y t' V' cd' k g z a₁ A₁.U) (fun A₁ _ v₁ B₁ => Says01 (SameT n f k g) v₁ A₁.U B₁.U ∧ B₁.locs = A₁.locs ++ [] ∧ B₁.cells = A₁.cells + 0 ∧ B₁.slots = A₁.slots + 0) :=
  (law l x t V cd n f y t' V' cd' k g z).pays htab hfr (by omega)
end SEq
end StrChars
namespace StrChars.Road
open Jvm Sem ClassFile Op Lib Jvm.Stand Jvm.Free Jvm.Free.XT
open Jvm.Lib.Cold (StaticIs)
/-- the words of String.equals(Object) -/
abbrev wordsEq : List Jvm.Cond := [.code SEq.yN SEq.yB 3 (some .boolean), .initialized ST, .classLink ST 10 ST, .fieldLink ST 38 ST "COMPACT_STRINGS" "Z", .fieldLink ST 15 ST "coder" "B", .fieldLink ST 9 ST "value" "[B", .methodLink ST 541 LEq.yN, .static LEq.yN, .code LEq.yN LEq.yB 3 (some .boolean), .initialized "java/lang/StringLatin1"]
theorem tabEq_of {a : Array Value} {s : State} (h : ∀ w ∈ wordsEq, w.before a s = true) : SEq.tab.before a s = true := by
  have hl : LEq.tab.before a s = true := unparts (wk h (.code LEq.yN LEq.yB 3 (some .boolean))) (wks h (.initialized LEq.yN.cls :: LEq.site))
  have q := consq hl h
  exact unparts (wk q (.code SEq.yN SEq.yB 3 (some .boolean))) (wks q (.initialized SEq.yN.cls :: SEq.site))
theorem movedEq {Z s : State} {a0 args : Array Value} (hZ : Z.Warmed39 s.vm) (hw : ∀ d ∈ wordsEq, d.before a0 Z = true) : ∀ d ∈ wordsEq, d.before args s = true := fun d hd => by
  have t : ∀ d ∈ wordsEq, (d.onTables && d.keepsFace) = true := by decide +kernel
  exact RoadKit.mv hZ (hw d hd) (t d hd)
/-- the road's facts of a String, as the laws ask it -/
theorem txt_of {Z U : State} {a0 : Array Value} {kI : Nat} (wi : (Jvm.Cond.instantiable ST kI).before a0 Z = true) (al : Z.vm.Alike U.vm) {x t : Addr} {kb : ClassId} {cs : List Int32} {cd N2 : Int32} {vs : List Value} (E : RoadKit.Exa Z U.heap x ST) (V : RoadKit.Fld Z U.heap x ST "value" "[B" (.ref t)) (C : RoadKit.Fld Z U.heap x ST "coder" "B" (.int cd)) (K : RoadKit.Arv Z U.heap t kb .byte N2 vs (.int 0)) (hc : CodA cs cd N2 vs) (hb : ∀ c ∈ cs, ¬ c < 0 ∧ ¬ (65535 : Int32) < c) (l2 : cs.length ≤ 4000) :
    ∃ A, Txt x t A cd cs.length (fun j => cs.getD j 0) U := by
  obtain ⟨A, K1, K2, K3, K4, K5, K6⟩ := K
  have hcod := hc.cod (by omega) K3 K5
  obtain ⟨D, fV, fC, hB, F1, F2, g1, g2, -, -⟩ := strObj wi al E V C
  exact ⟨A, ⟨_, hB.2.2.1, D, hB.1, rfl, by cases q : D.vm <;> first | rfl | exact absurd q (hB.2.1.2 _)⟩, Has.of hB F1 g1, Has.of hB F2 g2, ⟨K1.1, State.isArrayOf_alike al K1.2.1, K1.2.2, by rcases hcod with ⟨-, q, -⟩ | ⟨-, q, -⟩ <;> omega⟩, hcod, fun j hj => by
    have e : cs.getD j 0 = cs[j] := by simp [List.getD_eq_getElem?_getD, hj]
    show ¬ cs.getD j 0 < 0 ∧ ¬ 65535 < cs.getD j 0
    rw [e]; exact hb _ (List.getElem_mem _)⟩
theorem same_list (cs ds : List Int32) : SameT cs.length (fun j => cs.getD j 0) ds.length (fun j => ds.getD j 0) ↔ cs = ds := by
  constructor
  · rintro ⟨e, q⟩
    refine List.ext_getElem e fun j h1 h2 => ?_
    have := q j h1
    simpa [List.getD_eq_getElem?_getD, h1, h2] using this
  · rintro rfl
    exact ⟨rfl, fun _ _ => rfl⟩
/-- **equals(Object) OF TWO SUCH STRINGS**: 1 just where the chars are the same -/
theorem eqW {p : Program} {l : Launch} {e : Env} {R : Room} {s : State} {args : Array Value} {below : List Frame} {len W : Nat} {Z : State} {a0 : Array Value} {h : Heap} (hZ : Z.Warmed39 s.vm) (hw : ∀ d ∈ wordsEq, d.before a0 Z = true) {kI : Nat} (wi : (Jvm.Cond.instantiable ST kI).before a0 Z = true)
    {x t : Addr} {kb : ClassId} {cs : List Int32} {cd N2 : Int32} {vs : List Value} (E : RoadKit.Exa Z h x ST) (V : RoadKit.Fld Z h x ST "value" "[B" (.ref t)) (C : RoadKit.Fld Z h x ST "coder" "B" (.int cd)) (K : RoadKit.Arv Z h t kb .byte N2 vs (.int 0)) (hc : CodA cs cd N2 vs) (hb : ∀ c ∈ cs, ¬ c < 0 ∧ ¬ (65535 : Int32) < c) (l2 : cs.length ≤ 4000)
    {y t' : Addr} {kb' : ClassId} {ds : List Int32} {cd' N2' : Int32} {vs' : List Value} (E' : RoadKit.Exa Z h y ST) (V' : RoadKit.Fld Z h y ST "value" "[B" (.ref t')) (C' : RoadKit.Fld Z h y ST "coder" "B" (.int cd')) (K' : RoadKit.Arv Z h t' kb' .byte N2' vs' (.int 0)) (hc' : CodA ds cd' N2' vs') (hb' : ∀ c ∈ ds, ¬ c < 0 ∧ ¬ (65535 : Int32) < c) (l2' : ds.length ≤ 4000)
    {z : Int32} (S : RoadKit.Sta Z h ST "COMPACT_STRINGS" "Z" (.int z)) (hz : ¬ z = 0) (hfr : 2 ≤ R.frames) (hlo : W + 28 ≤ R.locals) :
    Back l R p e below s args (⟨"java/lang/String", "equals", "(Ljava/lang/Object;)Z"⟩ : MethodName) len W (fun P a => a = #[.ref x, .ref y] ∧ P.U.heap = h ∧ P.cells + 0 ≤ R.cells ∧ P.slots + 0 ≤ R.slots)
      (fun P _ v B => ∃ L, (((v = some (.int 1) ∧ cs = ds) ∨ (v = some (.int 0) ∧ ¬ cs = ds)) ∧ L = [] ∧ B.U.heap = h) ∧ B.locs = P.locs ++ L ∧ B.cells = P.cells + 0 ∧ B.slots = P.slots + 0) := by
  intro m meth c P g ig mk a X hg hsize hdg hW hn hp'
  obtain ⟨rfl, rfl, r1, r2⟩ := hp'
  have al : Z.vm.Alike P.U.vm := hZ.alike.trans X.warmed.alike
  obtain ⟨A, hx⟩ := txt_of wi al E V C K hc hb l2
  obtain ⟨A', hy⟩ := txt_of wi al E' V' C' K' hc' hb' l2'
  obtain ⟨v, B, X', ⟨⟨w, hv, hh, hq⟩, hl, hk, hs⟩, st⟩ := SEq.pays x t A cd cs.length (fun j => cs.getD j 0) y t' A' cd' ds.length (fun j => ds.getD j 0) z (tabEq_of (movedEq hZ hw)) hfr hlo m meth c P g ig mk _ X hg hsize hdg hW hn ⟨r1, r2, rfl, hx, hy, sta_is al S, hz⟩
  refine ⟨v, B, X', ⟨[], ⟨?_, rfl, hh⟩, hl, hk, hs⟩, st⟩
  rcases hq with ⟨rfl, q⟩ | ⟨rfl, q⟩
  · exact Or.inl ⟨hv, (same_list cs ds).mp q⟩
  · exact Or.inr ⟨hv, fun e => q ((same_list cs ds).mpr e)⟩
end StrChars.Road
namespace StrChars.Road
open Jvm Sem ClassFile Op Lib Jvm.Stand Jvm.Free Jvm.Free.XT
open Jvm.Lib.Cold (StaticIs)
/-- what backV says of its String, as the contracts of this text ask it: cs's low bytes, coder 0 -/
theorem codOf {cs : List Int32} {n : Nat} (hn : cs.length = n) (hb : ∀ c ∈ cs, ¬ 255 < c) : CodA cs 0 (Int32.ofNat n) ((cs.map lo8).map Value.int) := Or.inl ⟨rfl, by rw [hn], by simp [List.map_map, Function.comp_def], hb⟩
end StrChars.Road
end Jvm.Pilot.@@N@@

namespace Jvm.Pilot.@@N@@
open Jvm Jvm.ClassFile Sem Op Lib Jvm.Free Jvm.Stand Jvm.LawKit Jvm.RoadKit Bundle Jvm.Pilot.@@N@@.Jvm.D
/-! the walk in continuation form: from T with the frame g on top the run comes to an end that says Q -/
def Go (p : Program) (e : Env) (below : List Frame) (s : State) (C S : Nat) (Q : Option Value → Heap → List Loc → Prop) (T : State) (g : JFrame) : Prop :=
  ∃ s₂ o, Steps p.tables e below (T.setTop g) s₂ ∧ s₂.status = .running ∧ Ended s₂ below o ∧ ∃ v L, o = .returned v ∧ Q v s₂.heap L ∧ FrameEnd s o s₂ L C S
section GoKit
variable {p : Program} {l : Launch} {e : Env} {R : Room} {s : State} {m : MethodId} {args : Array Value} {below : List Frame} {meth : Method} {c : Code} {T T' : State} {g g' : JFrame} {locs : List Loc} {cells slots C S : Nat} {Q : Option Value → Heap → List Loc → Prop} {Z : State} {h h' : Heap} {n0 : Nat}
theorem Go.st (st : ∀ t, Steps p.tables e below (T'.setTop g') t → Steps p.tables e below (T.setTop g) t) (k : Go p e below s C S Q T' g') : Go p e below s C S Q T g := by
  obtain ⟨s₂, o, h1, h2⟩ := k; exact ⟨s₂, o, st _ h1, h2⟩
theorem Go.tr (st : Steps p.tables e below (T.setTop g) (T'.setTop g')) (k : Go p e below s C S Q T' g') : Go p e below s C S Q T g := by
  obtain ⟨s₂, o, h1, h2⟩ := k; exact ⟨s₂, o, st.trans h1, h2⟩
theorem Go.eq (q : g = g') (k : Go p e below s C S Q T g') : Go p e below s C S Q T g := q ▸ k
theorem Go.fin (X : Stand p l e R s m args below meth c T locs cells slots) (hlk : meth.locks = false) {v : Option Value} (hv : meth.sig.returnType = none → v = none) (hc : cells ≤ C) (hs : slots ≤ S) (q : Q v T.heap locs)
    (k : ∀ fs, (∀ (f : JFrame) (acts : List Action), f.method = m → f.locked = none → f.entered = [] → (doReturn e (T.setTop f) acts v).1 = T.setFrames fs) → Steps p.tables e below (T.setTop g) (T.setFrames fs)) : Go p e below s C S Q T g := by
  obtain ⟨fs, hr, hrun, hended, hW, hsame⟩ := X.leave (v := v) hv hlk
  exact ⟨_, _, k fs hr, hrun, hended, _, _, rfl, q, ⟨_, rfl⟩, hW, hsame.mono hc hs⟩
theorem Go.retN (X : Stand p l e R s m args below meth c T locs cells slots) (hlk : meth.locks = false) (hx : p.tables.exec = Jvm.exec) {pc : Nat} {Ls : Array Slot} {z z' : Int32} {t : FieldType} {rest : List Value} (hret : meth.sig.returnType = some t) (ht : t = .boolean ∨ t = .byte ∨ t = .char ∨ t = .short)
    (hd : decode c.code pc = .ok (.ireturn, 1)) (hc : cells ≤ C) (hs : slots ≤ S) (hz : nar t z = z') (q : Q (some (.int z')) T.heap locs) : Go p e below s C S Q T (mkF m pc Ls (.int z :: rest)) := by
  subst hz
  exact Go.fin X hlk (fun h => by rw [hret] at h; cases h) hc hs q fun fs hr => Jvm.RoadKit.retN X hx hret ht hd hr
theorem Go.retV (X : Stand p l e R s m args below meth c T locs cells slots) (hlk : meth.locks = false) (hx : p.tables.exec = Jvm.exec) {pc : Nat} {Ls : Array Slot} {w : Value} {t : FieldType} {i : Instr} {rest : List Value} (hret : meth.sig.returnType = some t) (hn : narrow t w = w)
    (hi : (i = .ireturn ∧ (t = .int ∨ t = .boolean ∨ t = .byte ∨ t = .char ∨ t = .short) ∧ ∃ z, w = .int z) ∨ (i = .lreturn ∧ t = .long ∧ ∃ z, w = .long z) ∨ (i = .dreturn ∧ t = .double ∧ ∃ z, w = .double z) ∨ (i = .freturn ∧ t = .float ∧ ∃ z, w = .float z) ∨ (i = .areturn ∧ t.isReference = true ∧ w.isRef = true))
    (hd : decode c.code pc = .ok (i, 1)) (hc : cells ≤ C) (hs : slots ≤ S) (q : Q (some w) T.heap locs) : Go p e below s C S Q T (mkF m pc Ls (w :: rest)) :=
  Go.fin X hlk (fun h => by rw [hret] at h; cases h) hc hs q fun fs hr => Jvm.RoadKit.retOut X hx hret hn hi hd hr
theorem Go.retR (X : Stand p l e R s m args below meth c T locs cells slots) (hlk : meth.locks = false) (hx : p.tables.exec = Jvm.exec) {pc : Nat} {Ls : Array Slot} {w : Value} {t : FieldType} {rest : List Value} (hret : meth.sig.returnType = some t) (ht : t.isReference = true) (hw : w.isRef = true) (hn : narrow t w = w)
    (hd : decode c.code pc = .ok (.areturn, 1)) (hc : cells ≤ C) (hs : slots ≤ S) (q : Q (some w) T.heap locs) : Go p e below s C S Q T (mkF m pc Ls (w :: rest)) :=
  Go.retV X hlk hx hret hn (Or.inr (Or.inr (Or.inr (Or.inr ⟨rfl, ht, hw⟩)))) hd hc hs q
theorem Go.retI (X : Stand p l e R s m args below meth c T locs cells slots) (hlk : meth.locks = false) (hx : p.tables.exec = Jvm.exec) {pc : Nat} {Ls : Array Slot} {z : Int32} {rest : List Value} (hret : meth.sig.returnType = some .int)
    (hd : decode c.code pc = .ok (.ireturn, 1)) (hc : cells ≤ C) (hs : slots ≤ S) (q : Q (some (.int z)) T.heap locs) : Go p e below s C S Q T (mkF m pc Ls (.int z :: rest)) :=
  Go.retV X hlk hx hret rfl (Or.inl ⟨rfl, Or.inl rfl, z, rfl⟩) hd hc hs q
theorem Go.retJ (X : Stand p l e R s m args below meth c T locs cells slots) (hlk : meth.locks = false) (hx : p.tables.exec = Jvm.exec) {pc : Nat} {Ls : Array Slot} {z : Int64} {rest : List Value} (hret : meth.sig.returnType = some .long)
    (hd : decode c.code pc = .ok (.lreturn, 1)) (hc : cells ≤ C) (hs : slots ≤ S) (q : Q (some (.long z)) T.heap locs) : Go p e below s C S Q T (mkF m pc Ls (.long z :: rest)) :=
  Go.retV X hlk hx hret rfl (Or.inr (Or.inl ⟨rfl, rfl, z, rfl⟩)) hd hc hs q
theorem Go.ret0 (X : Stand p l e R s m args below meth c T locs cells slots) (hlk : meth.locks = false) (hx : p.tables.exec = Jvm.exec) {pc : Nat} {Ls : Array Slot} (hret : meth.sig.returnType = none)
    (hd : decode c.code pc = .ok (.return_, 1)) (hc : cells ≤ C) (hs : slots ≤ S) (q : Q none T.heap locs) : Go p e below s C S Q T (mkF m pc Ls []) :=
  Go.fin X hlk (fun _ => rfl) hc hs q fun fs hr => X.returnOut hx hret hd hr
theorem own_le (O : Old Z n0 h) : n0 ≤ h.size := O.1 ▸ O.2.1
theorem own_ext {ws : List Addr} (K : Keep h h' ws) (q : ∀ x ∈ ws, h.size ≤ x) : Ext h h' := ⟨K.1, fun x c r => K.2.1 x c r fun z => absurd (Array.getElem?_eq_some_iff.mp r).1 (Nat.not_lt.mpr (q x z))⟩
theorem own_ext0 (K : Keep h h' []) : Ext h h' := own_ext K all0
theorem own_exr (h : Heap) : Ext h h := ⟨Nat.le_refl _, fun _ _ q => q⟩
theorem own_ext_t {h'' : Heap} (E : Ext h h') (E' : Ext h' h'') : Ext h h'' := ⟨Nat.le_trans E.1 E'.1, fun x c r => E'.2 x c (E.2 x c r)⟩
end GoKit
theorem pn_4 : plainName "java/lang/String" = true := by first | (simp [plainName, overriddenIn]; done) | decide +kernel
theorem ef_rmE4 (m : MethodId) (a1 : Addr) (a2 : Addr) : entryFrame m #[(.ref a1), (.ref a2), (.int (0 : Int32)), (.int (0 : Int32)), .null] 6 = mkF m 0 #[.val (.ref a1), .val (.ref a2), .val (.int (0 : Int32)), .val (.int (0 : Int32)), .val .null, .unset] [] := by first | (simp [entryFrame, mkF, argsToLocals, Value.category]; done) | rfl
theorem d4_0 : decode jdk_42_method_149_code 0 = .ok (.aload_n 0, 1) := by decide +kernel
theorem d4_1 : decode jdk_42_method_149_code 1 = .ok (.invokespecial 1, 3) := by decide +kernel
theorem d4_4 : decode jdk_42_method_149_code 4 = .ok (.iload_n 3, 1) := by decide +kernel
theorem d4_5 : decode jdk_42_method_149_code 5 = .ok (.ifCond .ne 22, 3) := by decide +kernel
theorem d4_8 : decode jdk_42_method_149_code 8 = .ok (.aload_n 0, 1) := by decide +kernel
theorem d4_9 : decode jdk_42_method_149_code 9 = .ok (.ldc 7, 2) := by decide +kernel
theorem d4_11 : decode jdk_42_method_149_code 11 = .ok (.getfield 9, 3) := by decide +kernel
theorem d4_14 : decode jdk_42_method_149_code 14 = .ok (.putfield 9, 3) := by decide +kernel
theorem d4_17 : decode jdk_42_method_149_code 17 = .ok (.aload_n 0, 1) := by decide +kernel
theorem d4_18 : decode jdk_42_method_149_code 18 = .ok (.ldc 7, 2) := by decide +kernel
theorem d4_20 : decode jdk_42_method_149_code 20 = .ok (.getfield 15, 3) := by decide +kernel
theorem d4_23 : decode jdk_42_method_149_code 23 = .ok (.putfield 15, 3) := by decide +kernel
theorem d4_26 : decode jdk_42_method_149_code 26 = .ok (.return_, 1) := by decide +kernel
theorem pn_3 : plainName "java/lang/String" = true := by first | (simp [plainName, overriddenIn]; done) | decide +kernel
theorem ef_rmE (m : MethodId) (a1 : Addr) (a2 : Addr) : entryFrame m #[(.ref a1), (.ref a2)] 2 = mkF m 0 #[.val (.ref a1), .val (.ref a2)] [] := by first | (simp [entryFrame, mkF, argsToLocals, Value.category]; done) | rfl
theorem d3_0 : decode jdk_42_method_3_code 0 = .ok (.aload_n 0, 1) := by decide +kernel
theorem d3_1 : decode jdk_42_method_3_code 1 = .ok (.aload_n 1, 1) := by decide +kernel
theorem d3_2 : decode jdk_42_method_3_code 2 = .ok (.iconst 0, 1) := by decide +kernel
theorem d3_3 : decode jdk_42_method_3_code 3 = .ok (.aload_n 1, 1) := by decide +kernel
theorem d3_4 : decode jdk_42_method_3_code 4 = .ok (.arraylength, 1) := by decide +kernel
theorem d3_5 : decode jdk_42_method_3_code 5 = .ok (.aconst_null, 1) := by decide +kernel
theorem d3_6 : decode jdk_42_method_3_code 6 = .ok (.invokespecial 27, 3) := by decide +kernel
theorem pd___CIILjava_lang_Void__V : parseMethodDescriptor "([CIILjava/lang/Void;)V" = some ⟨[(.array .char), .int, .int, (.object "java/lang/Void")], none⟩ := by decide +kernel
theorem d3_9 : decode jdk_42_method_3_code 9 = .ok (.return_, 1) := by decide +kernel
theorem pn_1 : plainName "com/example/nodewell/nodewell/query/TokenIsPinLaw" = true := by first | (simp [plainName, overriddenIn]; done) | decide +kernel
theorem ef_rmK (m : MethodId) (p1 : Int32) : entryFrame m #[(.int p1)] 1 = mkF m 0 #[.val (.int p1)] [] := by first | (simp [entryFrame, mkF, argsToLocals, Value.category]; done) | rfl
theorem d1_0 : decode method_2_code 0 = .ok (.iload_n 0, 1) := by decide +kernel
theorem d1_1 : decode method_2_code 1 = .ok (.ifCond .ne 7, 3) := by decide +kernel
theorem d1_4 : decode method_2_code 4 = .ok (.getstatic 7, 3) := by decide +kernel
theorem d1_7 : decode method_2_code 7 = .ok (.areturn, 1) := by decide +kernel
theorem d1_8 : decode method_2_code 8 = .ok (.iload_n 0, 1) := by decide +kernel
theorem d1_9 : decode method_2_code 9 = .ok (.iconst 1, 1) := by decide +kernel
theorem d1_10 : decode method_2_code 10 = .ok (.if_icmp .ne 7, 3) := by decide +kernel
theorem d1_13 : decode method_2_code 13 = .ok (.getstatic 13, 3) := by decide +kernel
theorem d1_16 : decode method_2_code 16 = .ok (.areturn, 1) := by decide +kernel
theorem d1_17 : decode method_2_code 17 = .ok (.iload_n 0, 1) := by decide +kernel
theorem d1_18 : decode method_2_code 18 = .ok (.iconst 2, 1) := by decide +kernel
theorem d1_19 : decode method_2_code 19 = .ok (.if_icmp .ne 7, 3) := by decide +kernel
theorem d1_22 : decode method_2_code 22 = .ok (.getstatic 16, 3) := by decide +kernel
theorem d1_25 : decode method_2_code 25 = .ok (.areturn, 1) := by decide +kernel
theorem d1_26 : decode method_2_code 26 = .ok (.iload_n 0, 1) := by decide +kernel
theorem d1_27 : decode method_2_code 27 = .ok (.iconst 3, 1) := by decide +kernel
theorem d1_28 : decode method_2_code 28 = .ok (.if_icmp .ne 7, 3) := by decide +kernel
theorem d1_31 : decode method_2_code 31 = .ok (.getstatic 19, 3) := by decide +kernel
theorem d1_34 : decode method_2_code 34 = .ok (.areturn, 1) := by decide +kernel
theorem d1_35 : decode method_2_code 35 = .ok (.iload_n 0, 1) := by decide +kernel
theorem d1_36 : decode method_2_code 36 = .ok (.iconst 4, 1) := by decide +kernel
theorem d1_37 : decode method_2_code 37 = .ok (.if_icmp .ne 7, 3) := by decide +kernel
theorem d1_40 : decode method_2_code 40 = .ok (.getstatic 22, 3) := by decide +kernel
theorem d1_43 : decode method_2_code 43 = .ok (.areturn, 1) := by decide +kernel
theorem d1_44 : decode method_2_code 44 = .ok (.iload_n 0, 1) := by decide +kernel
theorem d1_45 : decode method_2_code 45 = .ok (.iconst 5, 1) := by decide +kernel
theorem d1_46 : decode method_2_code 46 = .ok (.if_icmp .ne 7, 3) := by decide +kernel
theorem d1_49 : decode method_2_code 49 = .ok (.getstatic 25, 3) := by decide +kernel
theorem d1_52 : decode method_2_code 52 = .ok (.areturn, 1) := by decide +kernel
theorem d1_53 : decode method_2_code 53 = .ok (.iload_n 0, 1) := by decide +kernel
theorem d1_54 : decode method_2_code 54 = .ok (.bipush 6, 2) := by decide +kernel
theorem d1_56 : decode method_2_code 56 = .ok (.if_icmp .ne 7, 3) := by decide +kernel
theorem d1_59 : decode method_2_code 59 = .ok (.getstatic 28, 3) := by decide +kernel
theorem d1_62 : decode method_2_code 62 = .ok (.areturn, 1) := by decide +kernel
theorem d1_63 : decode method_2_code 63 = .ok (.iload_n 0, 1) := by decide +kernel
theorem d1_64 : decode method_2_code 64 = .ok (.bipush 7, 2) := by decide +kernel
theorem d1_66 : decode method_2_code 66 = .ok (.if_icmp .ne 7, 3) := by decide +kernel
theorem d1_69 : decode method_2_code 69 = .ok (.getstatic 31, 3) := by decide +kernel
theorem d1_72 : decode method_2_code 72 = .ok (.areturn, 1) := by decide +kernel
theorem d1_73 : decode method_2_code 73 = .ok (.getstatic 34, 3) := by decide +kernel
theorem d1_76 : decode method_2_code 76 = .ok (.areturn, 1) := by decide +kernel
theorem pn_2 : plainName "com/example/nodewell/nodewell/query/TokenIsPinLaw" = true := by first | (simp [plainName, overriddenIn]; done) | decide +kernel
theorem ef_rmT (m : MethodId) (p1 : Int32) (p2 : Int32) (p3 : Int32) : entryFrame m #[(.int p1), (.int p2), (.int p3)] 3 = mkF m 0 #[.val (.int p1), .val (.int p2), .val (.int p3)] [] := by first | (simp [entryFrame, mkF, argsToLocals, Value.category]; done) | rfl
theorem d2_0 : decode method_3_code 0 = .ok (.iload_n 0, 1) := by decide +kernel
theorem d2_1 : decode method_3_code 1 = .ok (.ifCond .ne 14, 3) := by decide +kernel
theorem d2_4 : decode method_3_code 4 = .ok (.new 37, 3) := by decide +kernel
theorem d2_7 : decode method_3_code 7 = .ok (.dup, 1) := by decide +kernel
theorem d2_8 : decode method_3_code 8 = .ok (.iconst 0, 1) := by decide +kernel
theorem d2_9 : decode method_3_code 9 = .ok (.newarray .char, 2) := by decide +kernel
theorem d2_11 : decode method_3_code 11 = .ok (.invokespecial 39, 3) := by decide +kernel
theorem pd___C_V : parseMethodDescriptor "([C)V" = some ⟨[(.array .char)], none⟩ := by decide +kernel
theorem d2_14 : decode method_3_code 14 = .ok (.areturn, 1) := by decide +kernel
theorem d2_15 : decode method_3_code 15 = .ok (.iload_n 0, 1) := by decide +kernel
theorem d2_16 : decode method_3_code 16 = .ok (.iconst 1, 1) := by decide +kernel
theorem d2_17 : decode method_3_code 17 = .ok (.if_icmp .ne 18, 3) := by decide +kernel
theorem d2_20 : decode method_3_code 20 = .ok (.new 37, 3) := by decide +kernel
theorem d2_23 : decode method_3_code 23 = .ok (.dup, 1) := by decide +kernel
theorem d2_24 : decode method_3_code 24 = .ok (.iconst 1, 1) := by decide +kernel
theorem d2_25 : decode method_3_code 25 = .ok (.newarray .char, 2) := by decide +kernel
theorem d2_27 : decode method_3_code 27 = .ok (.dup, 1) := by decide +kernel
theorem d2_28 : decode method_3_code 28 = .ok (.iconst 0, 1) := by decide +kernel
theorem d2_29 : decode method_3_code 29 = .ok (.iload_n 1, 1) := by decide +kernel
theorem d2_30 : decode method_3_code 30 = .ok (.castore, 1) := by decide +kernel
theorem d2_31 : decode method_3_code 31 = .ok (.invokespecial 39, 3) := by decide +kernel
theorem d2_34 : decode method_3_code 34 = .ok (.areturn, 1) := by decide +kernel
theorem d2_35 : decode method_3_code 35 = .ok (.new 37, 3) := by decide +kernel
theorem d2_38 : decode method_3_code 38 = .ok (.dup, 1) := by decide +kernel
theorem d2_39 : decode method_3_code 39 = .ok (.iconst 2, 1) := by decide +kernel
theorem d2_40 : decode method_3_code 40 = .ok (.newarray .char, 2) := by decide +kernel
theorem d2_42 : decode method_3_code 42 = .ok (.dup, 1) := by decide +kernel
theorem d2_43 : decode method_3_code 43 = .ok (.iconst 0, 1) := by decide +kernel
theorem d2_44 : decode method_3_code 44 = .ok (.iload_n 1, 1) := by decide +kernel
theorem d2_45 : decode method_3_code 45 = .ok (.castore, 1) := by decide +kernel
theorem d2_46 : decode method_3_code 46 = .ok (.dup, 1) := by decide +kernel
theorem d2_47 : decode method_3_code 47 = .ok (.iconst 1, 1) := by decide +kernel
theorem d2_48 : decode method_3_code 48 = .ok (.iload_n 2, 1) := by decide +kernel
theorem d2_49 : decode method_3_code 49 = .ok (.castore, 1) := by decide +kernel
theorem d2_50 : decode method_3_code 50 = .ok (.invokespecial 39, 3) := by decide +kernel
theorem d2_53 : decode method_3_code 53 = .ok (.areturn, 1) := by decide +kernel
theorem pn_10 : plainName "java/lang/Record" = true := by first | (simp [plainName, overriddenIn]; done) | decide +kernel
theorem ef_rmR (m : MethodId) (a1 : Addr) : entryFrame m #[(.ref a1)] 1 = mkF m 0 #[.val (.ref a1)] [] := by first | (simp [entryFrame, mkF, argsToLocals, Value.category]; done) | rfl
theorem d10_0 : decode jdk_30_method_1_code 0 = .ok (.aload_n 0, 1) := by decide +kernel
theorem d10_1 : decode jdk_30_method_1_code 1 = .ok (.invokespecial 1, 3) := by decide +kernel
theorem d10_4 : decode jdk_30_method_1_code 4 = .ok (.return_, 1) := by decide +kernel
theorem pn_9 : plainName "com/example/nodewell/nodewell/query/Token" = true := by first | (simp [plainName, overriddenIn]; done) | decide +kernel
theorem ef_rmV (m : MethodId) (a1 : Addr) (a2 : Addr) (a3 : Addr) (p4 : Int32) (p5 : Int32) : entryFrame m #[(.ref a1), (.ref a2), (.ref a3), (.int p4), (.int p5)] 5 = mkF m 0 #[.val (.ref a1), .val (.ref a2), .val (.ref a3), .val (.int p4), .val (.int p5)] [] := by first | (simp [entryFrame, mkF, argsToLocals, Value.category]; done) | rfl
theorem d9_0 : decode prog_64_method_1_code 0 = .ok (.aload_n 0, 1) := by decide +kernel
theorem d9_1 : decode prog_64_method_1_code 1 = .ok (.invokespecial 1, 3) := by decide +kernel
theorem pd___V : parseMethodDescriptor "()V" = some ⟨[], none⟩ := by decide +kernel
theorem d9_4 : decode prog_64_method_1_code 4 = .ok (.aload_n 0, 1) := by decide +kernel
theorem d9_5 : decode prog_64_method_1_code 5 = .ok (.aload_n 1, 1) := by decide +kernel
theorem d9_6 : decode prog_64_method_1_code 6 = .ok (.putfield 7, 3) := by decide +kernel
theorem d9_9 : decode prog_64_method_1_code 9 = .ok (.aload_n 0, 1) := by decide +kernel
theorem d9_10 : decode prog_64_method_1_code 10 = .ok (.aload_n 2, 1) := by decide +kernel
theorem d9_11 : decode prog_64_method_1_code 11 = .ok (.putfield 13, 3) := by decide +kernel
theorem d9_14 : decode prog_64_method_1_code 14 = .ok (.aload_n 0, 1) := by decide +kernel
theorem d9_15 : decode prog_64_method_1_code 15 = .ok (.iload_n 3, 1) := by decide +kernel
theorem d9_16 : decode prog_64_method_1_code 16 = .ok (.putfield 17, 3) := by decide +kernel
theorem d9_19 : decode prog_64_method_1_code 19 = .ok (.aload_n 0, 1) := by decide +kernel
theorem d9_20 : decode prog_64_method_1_code 20 = .ok (.iload 4, 2) := by decide +kernel
theorem d9_22 : decode prog_64_method_1_code 22 = .ok (.putfield 21, 3) := by decide +kernel
theorem d9_25 : decode prog_64_method_1_code 25 = .ok (.return_, 1) := by decide +kernel
theorem pn_11 : plainName "com/example/nodewell/nodewell/query/Token" = true := by first | (simp [plainName, overriddenIn]; done) | decide +kernel
theorem ef_rmS (m : MethodId) (a1 : Addr) (a2 : Addr) (a3 : Addr) : entryFrame m #[(.ref a1), (.ref a2), (.ref a3)] 3 = mkF m 0 #[.val (.ref a1), .val (.ref a2), .val (.ref a3)] [] := by first | (simp [entryFrame, mkF, argsToLocals, Value.category]; done) | rfl
theorem d11_0 : decode prog_64_method_2_code 0 = .ok (.aload_n 0, 1) := by decide +kernel
theorem d11_1 : decode prog_64_method_2_code 1 = .ok (.getfield 7, 3) := by decide +kernel
theorem d11_4 : decode prog_64_method_2_code 4 = .ok (.aload_n 1, 1) := by decide +kernel
theorem d11_5 : decode prog_64_method_2_code 5 = .ok (.if_acmp .ne 18, 3) := by decide +kernel
theorem d11_8 : decode prog_64_method_2_code 8 = .ok (.aload_n 0, 1) := by decide +kernel
theorem d11_9 : decode prog_64_method_2_code 9 = .ok (.getfield 13, 3) := by decide +kernel
theorem d11_12 : decode prog_64_method_2_code 12 = .ok (.aload_n 2, 1) := by decide +kernel
theorem d11_13 : decode prog_64_method_2_code 13 = .ok (.invokevirtual 24, 3) := by decide +kernel
theorem pd__Ljava_lang_Object__Z : parseMethodDescriptor "(Ljava/lang/Object;)Z" = some ⟨[(.object "java/lang/Object")], some .boolean⟩ := by decide +kernel
theorem d11_16 : decode prog_64_method_2_code 16 = .ok (.ifCond .eq 7, 3) := by decide +kernel
theorem d11_23 : decode prog_64_method_2_code 23 = .ok (.iconst 0, 1) := by decide +kernel
theorem d11_24 : decode prog_64_method_2_code 24 = .ok (.ireturn, 1) := by decide +kernel
theorem d11_19 : decode prog_64_method_2_code 19 = .ok (.iconst 1, 1) := by decide +kernel
theorem d11_20 : decode prog_64_method_2_code 20 = .ok (.goto 4, 3) := by decide +kernel
theorem pn_0 : plainName "com/example/nodewell/nodewell/query/TokenIsPinLaw" = true := by first | (simp [plainName, overriddenIn]; done) | decide +kernel
theorem ef_rm0 (m : MethodId) (p1 : Int32) (p2 : Int32) (p3 : Int32) (p4 : Int32) : entryFrame m #[(.int p1), (.int p2), (.int p3), (.int p4)] maxLocals = mkF m 0 #[.val (.int p1), .val (.int p2), .val (.int p3), .val (.int p4), .unset, .unset, .unset, .unset, .unset, .unset, .unset, .unset, .unset, .unset, .unset] [] := by first | (simp [entryFrame, mkF, argsToLocals, Value.category, maxLocals]; done) | rfl
theorem pd__I_Lcom_example_nodewell_nodewell_query_Token_Kind_ : parseMethodDescriptor "(I)Lcom/example/nodewell/nodewell/query/Token$Kind;" = some ⟨[.int], some (.object "com/example/nodewell/nodewell/query/Token$Kind")⟩ := by decide +kernel
theorem pd__ICC_Ljava_lang_String_ : parseMethodDescriptor "(ICC)Ljava/lang/String;" = some ⟨[.int, .char, .char], some (.object "java/lang/String")⟩ := by decide +kernel
theorem pd__Lcom_example_nodewell_nodewell_query_Token_Kind_Ljava_lang_String_II_V : parseMethodDescriptor "(Lcom/example/nodewell/nodewell/query/Token$Kind;Ljava/lang/String;II)V" = some ⟨[(.object "com/example/nodewell/nodewell/query/Token$Kind"), (.object "java/lang/String"), .int, .int], none⟩ := by decide +kernel
theorem pd__Lcom_example_nodewell_nodewell_query_Token_Kind_Ljava_lang_String__Z : parseMethodDescriptor "(Lcom/example/nodewell/nodewell/query/Token$Kind;Ljava/lang/String;)Z" = some ⟨[(.object "com/example/nodewell/nodewell/query/Token$Kind"), (.object "java/lang/String")], some .boolean⟩ := by decide +kernel
/-! the same, where String constants may be loaded on the way (the library's LawHeld: CHv, CHr, Safe) -/
def GoH (p : Program) (e : Env) (below : List Frame) (s : State) (C S : Nat) (Z : State) (h0 : Heap) (EL : List (String × Nat)) (Q : Option Value → Heap → List Loc → Prop) (T : State) (g : JFrame) : Prop :=
  ∃ s₂ o, Steps p.tables e below (T.setTop g) s₂ ∧ s₂.status = .running ∧ Ended s₂ below o ∧ ∃ v L, o = .returned v ∧ Q v s₂.heap L ∧ CHr Z EL s.vm h0 s₂.vm s₂.heap ∧ ReturnedEndW s o s₂ L C S
section GoHKit
variable {p : Program} {l : Launch} {e : Env} {R : Room} {s : State} {vm0 : Vm} {m : MethodId} {args : Array Value} {below : List Frame} {meth : Method} {c : Code} {T T' : State} {g g' : JFrame} {locs : List Loc} {cells slots C S k0 : Nat} {Q : Option Value → Heap → List Loc → Prop} {Z : State} {a0 : Array Value} {h h0 h' : Heap} {n0 : Nat} {EL : List (String × Nat)}
theorem GoH.st (st : ∀ t, Steps p.tables e below (T'.setTop g') t → Steps p.tables e below (T.setTop g) t) (k : GoH p e below s C S Z h0 EL Q T' g') : GoH p e below s C S Z h0 EL Q T g := by
  obtain ⟨s₂, o, h1, h2⟩ := k; exact ⟨s₂, o, st _ h1, h2⟩
theorem GoH.tr (st : Steps p.tables e below (T.setTop g) (T'.setTop g')) (k : GoH p e below s C S Z h0 EL Q T' g') : GoH p e below s C S Z h0 EL Q T g := by
  obtain ⟨s₂, o, h1, h2⟩ := k; exact ⟨s₂, o, st.trans h1, h2⟩
theorem GoH.eq (q : g = g') (k : GoH p e below s C S Z h0 EL Q T g') : GoH p e below s C S Z h0 EL Q T g := q ▸ k
theorem GoH.fin (X : Stand p l e R (s.setVm vm0) m args below meth c T locs cells slots) (hS : s.Since vm0 k0) (hk : k0 ≤ h.size) (eT : T.heap = h) (hZ : Z.Warmed39 vm0) (hEL : EW Z a0 EL) (H : CHv Z EL vm0 h) (RR : CHr Z EL s.vm h0 vm0 h) (hlk : meth.locks = false) {v : Option Value} (hv : meth.sig.returnType = none → v = none) (hc : cells ≤ C) (hs : slots ≤ S) (q : Q v T.heap locs)
    (k : ∀ fs, (∀ (f : JFrame) (acts : List Action), f.method = m → f.locked = none → f.entered = [] → (doReturn e (T.setTop f) acts v).1 = T.setFrames fs) → Steps p.tables e below (T.setTop g) (T.setFrames fs)) : GoH p e below s C S Z h0 EL Q T g := by
  obtain ⟨fs, hr, hrun, hended, hW⟩ := X.leaveW hS (eT ▸ hk) (v := v) hv hlk
  refine ⟨_, _, k fs hr, hrun, hended, _, _, rfl, q, ?_, hW.1, hW.2.1, hW.2.2.1, hW.2.2.2.mono hc hs⟩
  show CHr Z EL s.vm h0 T.vm T.heap
  rw [eT]; exact RR.trans (CHv.at X hZ hEL H)
theorem GoH.retN (X : Stand p l e R (s.setVm vm0) m args below meth c T locs cells slots) (hS : s.Since vm0 k0) (hk : k0 ≤ h.size) (eT : T.heap = h) (hZ : Z.Warmed39 vm0) (hEL : EW Z a0 EL) (H : CHv Z EL vm0 h) (RR : CHr Z EL s.vm h0 vm0 h) (hlk : meth.locks = false) (hx : p.tables.exec = Jvm.exec) {pc : Nat} {Ls : Array Slot} {z z' : Int32} {t : FieldType} {rest : List Value} (hret : meth.sig.returnType = some t) (ht : t = .boolean ∨ t = .byte ∨ t = .char ∨ t = .short)
    (hd : decode c.code pc = .ok (.ireturn, 1)) (hc : cells ≤ C) (hs : slots ≤ S) (hz : nar t z = z') (q : Q (some (.int z')) T.heap locs) : GoH p e below s C S Z h0 EL Q T (mkF m pc Ls (.int z :: rest)) := by
  subst hz
  exact GoH.fin X hS hk eT hZ hEL H RR hlk (fun h => by rw [hret] at h; cases h) hc hs q fun fs hr => Jvm.RoadKit.retN X hx hret ht hd hr
theorem GoH.retV (X : Stand p l e R (s.setVm vm0) m args below meth c T locs cells slots) (hS : s.Since vm0 k0) (hk : k0 ≤ h.size) (eT : T.heap = h) (hZ : Z.Warmed39 vm0) (hEL : EW Z a0 EL) (H : CHv Z EL vm0 h) (RR : CHr Z EL s.vm h0 vm0 h) (hlk : meth.locks = false) (hx : p.tables.exec = Jvm.exec) {pc : Nat} {Ls : Array Slot} {w : Value} {t : FieldType} {i : Instr} {rest : List Value} (hret : meth.sig.returnType = some t) (hn : narrow t w = w)
    (hi : (i = .ireturn ∧ (t = .int ∨ t = .boolean ∨ t = .byte ∨ t = .char ∨ t = .short) ∧ ∃ z, w = .int z) ∨ (i = .lreturn ∧ t = .long ∧ ∃ z, w = .long z) ∨ (i = .dreturn ∧ t = .double ∧ ∃ z, w = .double z) ∨ (i = .freturn ∧ t = .float ∧ ∃ z, w = .float z) ∨ (i = .areturn ∧ t.isReference = true ∧ w.isRef = true))
    (hd : decode c.code pc = .ok (i, 1)) (hc : cells ≤ C) (hs : slots ≤ S) (q : Q (some w) T.heap locs) : GoH p e below s C S Z h0 EL Q T (mkF m pc Ls (w :: rest)) :=
  GoH.fin X hS hk eT hZ hEL H RR hlk (fun h => by rw [hret] at h; cases h) hc hs q fun fs hr => Jvm.RoadKit.retOut X hx hret hn hi hd hr
theorem GoH.retR (X : Stand p l e R (s.setVm vm0) m args below meth c T locs cells slots) (hS : s.Since vm0 k0) (hk : k0 ≤ h.size) (eT : T.heap = h) (hZ : Z.Warmed39 vm0) (hEL : EW Z a0 EL) (H : CHv Z EL vm0 h) (RR : CHr Z EL s.vm h0 vm0 h) (hlk : meth.locks = false) (hx : p.tables.exec = Jvm.exec) {pc : Nat} {Ls : Array Slot} {w : Value} {t : FieldType} {rest : List Value} (hret : meth.sig.returnType = some t) (ht : t.isReference = true) (hw : w.isRef = true) (hn : narrow t w = w)
    (hd : decode c.code pc = .ok (.areturn, 1)) (hc : cells ≤ C) (hs : slots ≤ S) (q : Q (some w) T.heap locs) : GoH p e below s C S Z h0 EL Q T (mkF m pc Ls (w :: rest)) :=
  GoH.retV X hS hk eT hZ hEL H RR hlk hx hret hn (Or.inr (Or.inr (Or.inr (Or.inr ⟨rfl, ht, hw⟩)))) hd hc hs q
theorem GoH.retI (X : Stand p l e R (s.setVm vm0) m args below meth c T locs cells slots) (hS : s.Since vm0 k0) (hk : k0 ≤ h.size) (eT : T.heap = h) (hZ : Z.Warmed39 vm0) (hEL : EW Z a0 EL) (H : CHv Z EL vm0 h) (RR : CHr Z EL s.vm h0 vm0 h) (hlk : meth.locks = false) (hx : p.tables.exec = Jvm.exec) {pc : Nat} {Ls : Array Slot} {z : Int32} {rest : List Value} (hret : meth.sig.returnType = some .int)
    (hd : decode c.code pc = .ok (.ireturn, 1)) (hc : cells ≤ C) (hs : slots ≤ S) (q : Q (some (.int z)) T.heap locs) : GoH p e below s C S Z h0 EL Q T (mkF m pc Ls (.int z :: rest)) :=
  GoH.retV X hS hk eT hZ hEL H RR hlk hx hret rfl (Or.inl ⟨rfl, Or.inl rfl, z, rfl⟩) hd hc hs q
theorem GoH.ret0 (X : Stand p l e R (s.setVm vm0) m args below meth c T locs cells slots) (hS : s.Since vm0 k0) (hk : k0 ≤ h.size) (eT : T.heap = h) (hZ : Z.Warmed39 vm0) (hEL : EW Z a0 EL) (H : CHv Z EL vm0 h) (RR : CHr Z EL s.vm h0 vm0 h) (hlk : meth.locks = false) (hx : p.tables.exec = Jvm.exec) {pc : Nat} {Ls : Array Slot} (hret : meth.sig.returnType = none)
    (hd : decode c.code pc = .ok (.return_, 1)) (hc : cells ≤ C) (hs : slots ≤ S) (q : Q none T.heap locs) : GoH p e below s C S Z h0 EL Q T (mkF m pc Ls []) :=
  GoH.fin X hS hk eT hZ hEL H RR hlk (fun _ => rfl) hc hs q fun fs hr => X.returnOut hx hret hd hr
theorem own_backSH {y : MethodName} {bytes : ByteArray} {maxL : Nat} {ret : Option FieldType} {rm : Room} {len W : Nat} {as' : Array Value} {sf : List Addr}
    (hM : MetFree l y (head1 [Cond.code y bytes maxL ret] rm) (fun a U => a = as' ∧ Z.Warmed39 U.vm ∧ U.heap = h ∧ CHv Z EL U.vm h ∧ ∀ x ∈ sf, Safe Z EL U.vm h x) (fun _ _ _ _ _ => True) (fun _ U o U' => ∃ v L, o = .returned v ∧ Q v U'.heap L ∧ CHr Z EL U.vm U.heap U'.vm U'.heap ∧ ReturnedEndW U o U' L rm.cells rm.slots))
    (hZ : Z.Warmed39 vm0) (wc : (Cond.code y bytes maxL ret).before a0 Z = true) (wz : (Cond.initialized y.cls).before a0 Z = true) (hf : rm.frames + 1 ≤ R.frames) (hl : W + (maxL + 11) + rm.locals ≤ R.locals) (hEL : EW Z a0 EL) (H : CHv Z EL vm0 h) (hsf : ∀ x ∈ sf, Safe Z EL vm0 h x ∧ x < Array.size h) :
    BackS l R p e below (s.setVm vm0) args y len W (fun A a => a = as' ∧ A.U.heap = h ∧ A.cells + rm.cells ≤ R.cells ∧ A.slots + rm.slots ≤ R.slots)
      (fun A _ v B => ∃ L, Q v B.U.heap L ∧ B.locs = A.locs ++ L ∧ B.cells = A.cells + rm.cells ∧ B.slots = A.slots + rm.slots ∧ CHr Z EL vm0 h B.U.vm B.U.heap) := by
  have up : ∀ {m meth c} {A : Pt}, Stand p l e R (s.setVm vm0) m args below meth c A.U A.locs A.cells A.slots → Z.Warmed39 A.U.vm := fun Y => wtrans (s := s.setVm vm0) hZ Y.warmed
  refine BackS.of_freeW (bytes := bytes) (maxL := maxL) (ret := ret) (E := fun _ first o t L k n => (k = rm.cells ∧ n = rm.slots) ∧ (∃ v, o = .returned v ∧ Q v t.heap L) ∧ CHr Z EL first.vm first.heap t.vm t.heap) hM hf hl ?_ ?_ ?_ ?_ ?_
  · intro m meth c A a Y hp
    refine ⟨?_, mv (up Y) wc, mv (up Y) wz, hp.2.2.1, hp.2.2.2⟩
    show (Cond.and _ .tt).before a A.U = true
    rw [Cond.before_and, mv (up Y) wc]; rfl
  · intro m meth c A a g mk Y hp
    have q := CHv.at Y hZ hEL H
    exact ⟨hp.1, up Y, hp.2.1, q.1, fun x hx => q.safe (hsf x hx).2 (hsf x hx).1⟩
  · intro _ _ _ _ _ _ _ _ _; trivial
  · intro _ _ _ _ hq
    obtain ⟨v, L, h1, h2, h3, h4⟩ := hq
    exact ⟨L, _, _, h4, ⟨rfl, rfl⟩, ⟨v, h1, h2⟩, h3⟩
  · intro m meth c A a g mk v t L k n Y hp _ _ hq
    obtain ⟨⟨e1, e2⟩, ⟨v', e3, e4⟩, e5⟩ := hq
    cases e3; subst e1 e2
    refine ⟨L, e4, rfl, rfl, rfl, (CHv.at Y hZ hEL H).trans ?_⟩
    rw [← hp.2.1]; exact e5
theorem own_since (s : State) (n : Nat) : s.Since s.vm n := (State.WarmedH.since (s := s) (vm₁ := s.vm) (State.WarmedH.refl s) n)
end GoHKit

abbrev EL : List (String × Nat) := consts_1
theorem own_m255 (z : Int32) : ¬ nar .char ((z &&& (255 : Int32)).toUInt32.toUInt16.toUInt32.toInt32) < 0 ∧ ¬ (255 : Int32) < nar .char ((z &&& (255 : Int32)).toUInt32.toUInt16.toUInt32.toInt32) := by
  have small : ∀ k : Fin 256, ¬ nar .char ((Int32.ofNat k.val).toUInt32.toUInt16.toUInt32.toInt32) < 0 ∧ ¬ (255 : Int32) < nar .char ((Int32.ofNat k.val).toUInt32.toUInt16.toUInt32.toInt32) := by decide +kernel
  have lt : (z &&& 255).toBitVec.toNat < 256 := by
    rw [Int32.toBitVec_and, BitVec.toNat_and]; exact Nat.lt_succ_of_le Nat.and_le_right
  have eq : (z &&& 255) = Int32.ofNat (z &&& 255).toBitVec.toNat := by
    apply Int32.toBitVec_inj.mp
    show _ = BitVec.ofNat 32 _
    rw [BitVec.ofNat_toNat]; simp
  rw [eq]; exact small ⟨_, lt⟩
theorem own_nil {P : Int32 → Prop} : ∀ c ∈ ([] : List Int32), P c := fun _ q => nomatch q
theorem own_cons {P : Int32 → Prop} {y : Int32} {L : List Int32} (q : P y) (r : ∀ c ∈ L, P c) : ∀ c ∈ y :: L, P c := fun x z => (List.mem_cons.mp z).elim (fun u => u ▸ q) (r x)
theorem own_narrow {x : Value} {c : String} (h : x.isRef = true) : narrow (.object c) x = x := by cases x <;> first | rfl | simp [Value.isRef] at h
theorem own_fits {x : Value} {c : String} (h : x.isRef = true) : fits (.object c) x = true := by cases x <;> first | rfl | simp [Value.isRef] at h
def kindF (k : Int32) (w0 w1 w2 w3 w4 w5 w6 w7 w8 : Addr) : Addr := if k = 0 then w0 else if k = 1 then w1 else if k = 2 then w2 else if k = 3 then w3 else if k = 4 then w4 else if k = 5 then w5 else if k = 6 then w6 else if k = 7 then w7 else w8
def textL (k c0 c1 : Int32) : List Int32 := if k = 0 then [] else if k = 1 then [nar .char c0] else [nar .char c0, nar .char c1]
theorem own_up {cs : List Int32} (h : ∀ c ∈ cs, ¬ c < 0 ∧ ¬ (255 : Int32) < c) : ∀ c ∈ cs, ¬ c < 0 ∧ ¬ (65535 : Int32) < c := fun c hc => ⟨(h c hc).1, fun q => (h c hc).2 (by
  rw [Int32.lt_iff_toInt_lt] at q ⊢; have e1 : (65535 : Int32).toInt = 65535 := rfl; have e2 : (255 : Int32).toInt = 255 := rfl; omega)⟩
theorem own_fr {n0 : Nat} {L : List Loc} (h : L = []) : Fr n0 L := by subst h; exact Fr.nil n0
theorem own_is1 {k1 a2 : Addr} {cs ds : List Int32} (h : ¬ (k1 = a2)) : (0 : Int32) = if k1 = a2 then (if cs = ds then 1 else 0) else 0 := (if_neg h).symm
theorem own_is2 {k1 a2 : Addr} {cs ds : List Int32} (h : k1 = a2) (g : (if cs = ds then (1 : Int32) else 0) = 0) : (0 : Int32) = if k1 = a2 then (if cs = ds then 1 else 0) else 0 := by rw [if_pos h]; exact g.symm
theorem own_is3 {k1 a2 : Addr} {cs ds : List Int32} (h : k1 = a2) (g : ¬ ((if cs = ds then (1 : Int32) else 0) = 0)) : (1 : Int32) = if k1 = a2 then (if cs = ds then 1 else 0) else 0 := by
  rw [if_pos h]; by_cases q : cs = ds
  · rw [if_pos q]
  · rw [if_neg q] at g; exact absurd rfl g
theorem own_iff {cs ds : List Int32} {v : Option Value} (h : (v = some (.int 1) ∧ cs = ds) ∨ (v = some (.int 0) ∧ ¬ cs = ds)) : v = some (.int (if cs = ds then (1 : Int32) else 0)) := by
  rcases h with ⟨h, q⟩ | ⟨h, q⟩ <;> simp [h, q]

theorem own_eqi {args : Array Value} {Z : State} {t : Term} {k : Int32} (h : (Cond.eq t (Term.int k)).value args Z none Z [] = some true) : t.eval args Z none [] Z = some (.int k) := by
  cases ht : t.eval args Z none [] Z with
  | none => simp [Cond.value, Term.eval, ht] at h
  | some v => cases v <;> simp [Cond.value, Term.eval, ht] at h <;> (try rw [h])
theorem own_en {args : Array Value} {Z : State} {C n d : String} {k : Int32} (hx : (Cond.exactly (Term.static C n d) C).value args Z none Z [] = some true) (hk : (Cond.eq (Term.field (Term.static C n d) "java/lang/Enum" "ordinal" "I") (Term.int k)).value args Z none Z [] = some true)
    (hi : (Cond.initialized C).before args Z = true) (hl : (Cond.laysStatic C n d).before args Z = true) : ∃ w, Sta Z Z.heap C n d (.ref w) ∧ Exa Z Z.heap w C ∧ Fld Z Z.heap w "java/lang/Enum" "ordinal" "I" (.int k) := by
  obtain ⟨w, ew⟩ := exa_v hx
  exact ⟨w, Sta.start ew (Or.inr ⟨hi, hl⟩), Exa.start ew hx, Fld.start (by rw [← fld_at ew]; exact own_eqi hk)⟩

theorem own_modm (a m n : Int32) (k : Nat) (e1 : (a &&& m).toInt = a.toInt % 2 ^ k) (hn : 0 < n.toInt) : 0 ≤ ((a &&& m) % n).toInt ∧ ((a &&& m) % n).toInt < n.toInt := by
  rw [Int32.toInt_mod, e1]
  have p0 : 0 ≤ a.toInt % 2 ^ k := Int.emod_nonneg _ (by have := Int.pow_pos (n := 2) (m := k) (by decide); omega)
  rw [Int.tmod_eq_emod_of_nonneg p0]
  exact ⟨Int.emod_nonneg _ (by omega), Int.emod_lt_of_pos _ hn⟩

theorem own_mod3_3 (a : Int32) : (a &&& 3) % 3 = 0 ∨ (a &&& 3) % 3 = 1 ∨ (a &&& 3) % 3 = 2 := by
  have h := own_modm a 3 3 2 (Jvm.Kit.i32_mask a 3 (k := 2) (by decide) (by decide)) (by decide)
  have e : (3 : Int32).toInt = 3 := rfl
  rw [e] at h
  have : ((a &&& 3) % 3).toInt = 0 ∨ ((a &&& 3) % 3).toInt = 1 ∨ ((a &&& 3) % 3).toInt = 2 := by omega
  rcases this with h | h | h <;> simp [← Int32.toInt_inj, h]

theorem own_mod255_9 (a : Int32) : (a &&& 255) % 9 = 0 ∨ (a &&& 255) % 9 = 1 ∨ (a &&& 255) % 9 = 2 ∨ (a &&& 255) % 9 = 3 ∨ (a &&& 255) % 9 = 4 ∨ (a &&& 255) % 9 = 5 ∨ (a &&& 255) % 9 = 6 ∨ (a &&& 255) % 9 = 7 ∨ (a &&& 255) % 9 = 8 := by
  have h := own_modm a 255 9 8 (Jvm.Kit.i32_mask a 255 (k := 8) (by decide) (by decide)) (by decide)
  have e : (9 : Int32).toInt = 9 := rfl
  rw [e] at h
  have : ((a &&& 255) % 9).toInt = 0 ∨ ((a &&& 255) % 9).toInt = 1 ∨ ((a &&& 255) % 9).toInt = 2 ∨ ((a &&& 255) % 9).toInt = 3 ∨ ((a &&& 255) % 9).toInt = 4 ∨ ((a &&& 255) % 9).toInt = 5 ∨ ((a &&& 255) % 9).toInt = 6 ∨ ((a &&& 255) % 9).toInt = 7 ∨ ((a &&& 255) % 9).toInt = 8 := by omega
  rcases this with h | h | h | h | h | h | h | h | h <;> simp [← Int32.toInt_inj, h]

theorem own_i2c (z : Int32) : nar .char (z.toUInt32.toUInt16.toUInt32.toInt32) = z.toUInt32.toUInt16.toUInt32.toInt32 := by
  simp only [nar]; apply Int32.toBitVec_inj.mp; simp; apply BitVec.eq_of_toNat_eq; simp [BitVec.toNat_umod]
theorem own_tp {k c0 c1 : Int32} (h0 : ¬ nar .char c0 < 0 ∧ ¬ (255 : Int32) < nar .char c0) (h1 : ¬ nar .char c1 < 0 ∧ ¬ (255 : Int32) < nar .char c1) : ∀ c ∈ textL k c0 c1, ¬ c < 0 ∧ ¬ (255 : Int32) < c := by
  unfold textL; split
  · exact own_nil
  · split
    · exact own_cons (P := fun c => ¬ c < 0 ∧ ¬ (255 : Int32) < c) h0 own_nil
    · exact own_cons (P := fun c => ¬ c < 0 ∧ ¬ (255 : Int32) < c) h0 (own_cons (P := fun c => ¬ c < 0 ∧ ¬ (255 : Int32) < c) h1 own_nil)
theorem own_tl (k c0 c1 : Int32) : (textL k c0 c1).length ≤ 4000 := by unfold textL; split; simp; split <;> simp

theorem own_kinds {Z : State} {w_LITERAL w_NUMBER w_VARIABLE w_NAME_TEST w_NODE_TYPE w_FUNCTION_NAME w_AXIS_NAME w_OPERATOR w_PUNCTUATION : Addr} {ka kb : Int32} {xa xb : Addr} (hO : ∀ k : Int32, (k = 0 ∨ k = 1 ∨ k = 2 ∨ k = 3 ∨ k = 4 ∨ k = 5 ∨ k = 6 ∨ k = 7 ∨ k = 8) → Fld Z Z.heap (kindF k w_LITERAL w_NUMBER w_VARIABLE w_NAME_TEST w_NODE_TYPE w_FUNCTION_NAME w_AXIS_NAME w_OPERATOR w_PUNCTUATION) "java/lang/Enum" "ordinal" "I" (.int k)) (ha : ka = 0 ∨ ka = 1 ∨ ka = 2 ∨ ka = 3 ∨ ka = 4 ∨ ka = 5 ∨ ka = 6 ∨ ka = 7 ∨ ka = 8) (hb : kb = 0 ∨ kb = 1 ∨ kb = 2 ∨ kb = 3 ∨ kb = 4 ∨ kb = 5 ∨ kb = 6 ∨ kb = 7 ∨ kb = 8) (ea : xa = kindF ka w_LITERAL w_NUMBER w_VARIABLE w_NAME_TEST w_NODE_TYPE w_FUNCTION_NAME w_AXIS_NAME w_OPERATOR w_PUNCTUATION) (eb : xb = kindF kb w_LITERAL w_NUMBER w_VARIABLE w_NAME_TEST w_NODE_TYPE w_FUNCTION_NAME w_AXIS_NAME w_OPERATOR w_PUNCTUATION) : xa = xb ↔ ka = kb := by
  subst ea eb
  constructor
  · intro q
    by_cases r : ka = kb
    · exact r
    · exact absurd q ((hO ka ha).ne (hO kb hb) (fun z => r (Value.int.inj z)))
  · intro q; rw [q]

theorem own_fin {ka kb la lb c0 c1 d0 d1 : Int32} {x_ka x_kb : Addr} (hla : la = 0 ∨ la = 1 ∨ la = 2) (hlb : lb = 0 ∨ lb = 1 ∨ lb = 2) (hc0 : nar .char c0 = c0) (hc1 : nar .char c1 = c1) (hd0 : nar .char d0 = d0) (hd1 : nar .char d1 = d1) (hk : x_ka = x_kb ↔ ka = kb) : (if x_ka = x_kb then (if (textL la c0 c1) = (textL lb d0 d1) then 1 else 0) else 0) = (if ka = kb then (if (if la = lb then (if la < (1 : Int32) then (if la < (2 : Int32) then (1 : Int32) else (if c1 = d1 then (1 : Int32) else (0 : Int32))) else (if c0 = d0 then (if la < (2 : Int32) then (1 : Int32) else (if c1 = d1 then (1 : Int32) else (0 : Int32))) else (0 : Int32))) else (0 : Int32)) = (0 : Int32) then (0 : Int32) else (1 : Int32)) else (0 : Int32)) := by
  by_cases q : ka = kb
  · have q' : x_ka = x_kb := hk.mpr q
    rcases hla with rfl | rfl | rfl <;> rcases hlb with rfl | rfl | rfl <;> simp [textL, q, q', hc0, hc1, hd0, hd1] <;> by_cases r0 : c0 = d0 <;> by_cases r1 : c1 = d1 <;> simp [r0, r1]
  · have q' : ¬ x_ka = x_kb := fun z => q (hk.mp z)
    simp [q, q']

def Q_rmE4 (Z : State) (a1 : Addr) (a2 : Addr) (u1 : Value) (u2 : Value) (h0 : Heap) (n0 : Nat) (v : Option Value) (h : Heap) (L : List Loc) : Prop := v = none ∧ Fr n0 L ∧ Keep h0 h [a1] ∧ Exa Z h a1 "java/lang/String" ∧ Fld Z h a1 "java/lang/String" "coder" "B" (.int 0) ∧ ∃ (t : Addr) (kb : ClassId), Fld Z h a1 "java/lang/String" "value" "[B" (.ref t) ∧ Arv Z h t kb .byte 0 [] (.int 0)
set_option maxRecDepth 65536 in
set_option maxHeartbeats 40000000 in
theorem rmE4 (l : Launch) (Z : State) (a0 : Array Value) (hw : ∀ d ∈ tables_1, d.before a0 Z = true) (ws : List Jvm.Cond) (a1 : Addr) (a2 : Addr) (u1 : Value) (u2 : Value) (h0 : Heap) (n0 : Nat) (O : Old Z n0 h0) (hEL : EW Z a0 EL) (wS : ∀ a ∈ Bundle.stringAtoms, a.before a0 Z = true) (E_a1 : Exa Z h0 a1 "java/lang/String") (F_value_a1 : Fld Z h0 a1 "java/lang/String" "value" "[B" u1) (F_coder_a1 : Fld Z h0 a1 "java/lang/String" "coder" "B" u2) (g_a1 : n0 ≤ a1) :
    MetFree l (⟨"java/lang/String", "<init>", "([CIILjava/lang/Void;)V"⟩ : MethodName) (head1 (Jvm.Cond.code (⟨"java/lang/String", "<init>", "([CIILjava/lang/Void;)V"⟩ : MethodName) jdk_42_method_149_code 6 none :: ws) ({ frames := 1, cells := 4, slots := 8, locals := 12 } : Room)) (fun a U => a = #[(.ref a1), (.ref a2), (.int (0 : Int32)), (.int (0 : Int32)), .null] ∧ Z.Warmed39 U.vm ∧ U.heap = h0 ∧ CHv Z EL U.vm h0 ∧ ∀ x ∈ ([a1] : List Addr), Safe Z EL U.vm h0 x) (fun _ _ _ _ _ => True) (fun _ U o U' => ∃ v L, o = .returned v ∧ Q_rmE4 Z a1 a2 u1 u2 h0 n0 v U'.heap L ∧ CHr Z EL U.vm U.heap U'.vm U'.heap ∧ ReturnedEndW U o U' L ({ frames := 1, cells := 4, slots := 8, locals := 12 } : Room).cells ({ frames := 1, cells := 4, slots := 8, locals := 12 } : Room).slots) := by
  refine MetFree.of_bodySF (plainFor_of_name pn_4) hisR ?_
  intro p e s m args below meth c s₁ Bd hml0 hP hK
  obtain ⟨rfl, hZ, hh, HH, hSF⟩ := hP
  have hx := Bd.exec
  have hby := Bd.bytes
  have hml : c.maxLocals = 6 := hml0
  have hown : s.vm.findClass "java/lang/String" = some m.cls := findClass_of_methodNamed Bd.named
  have hnm := (name_of_methodNamed Bd.named Bd.method).1
  have hlk : meth.locks = false := BodyLoose.notSynchronized Bd
  have X0 : Stand p l e ({ frames := 1, cells := 4, slots := 8, locals := 12 } : Room) (s.setVm s.vm) m #[(.ref a1), (.ref a2), (.int (0 : Int32)), (.int (0 : Int32)), .null] below meth c s₁ [] 0 0 := Stand.of_body Bd
  have e0 : s₁.heap = h0 := by rw [← hh, Bd.state]; rfl
  have N0 := Fr.nil n0
  have KK : Keep h0 h0 [a1] := Keep.refl h0 _
  have hS : s.Since s.vm h0.size := own_since s _
  have hk : h0.size ≤ h0.size := Nat.le_refl _
  have RR : CHr Z EL s.vm h0 s.vm h0 := CHr.refl HH
  have Sf_a1 : Safe Z EL s.vm h0 a1 := hSF _ (List.mem_of_getElem? (i := 0) rfl)
  suffices hgo : GoH p e below s ({ frames := 1, cells := 4, slots := 8, locals := 12 } : Room).cells ({ frames := 1, cells := 4, slots := 8, locals := 12 } : Room).slots Z h0 EL (Q_rmE4 Z a1 a2 u1 u2 h0 n0) s₁ (entryFrame m #[(.ref a1), (.ref a2), (.int (0 : Int32)), (.int (0 : Int32)), .null] 6) by
    obtain ⟨s₂, o, q1, q2, q3, v, L, q4, q5, q6, q7⟩ := hgo; exact ⟨s₂, o, q1, q2, q3, v, L, q4, q5, hh ▸ q6, q7⟩
  refine GoH.eq (ef_rmE4 m a1 a2) ?_
  show GoH _ _ _ _ _ _ _ _ _ _  s₁ (mkF m 0 #[.val (.ref a1), .val (.ref a2), .val (.int (0 : Int32)), .val (.int (0 : Int32)), .val .null, .unset] [])
  refine GoH.st (fun t k => XS.aloadN X0.here hx rfl (hb hby d4_0) rfl rfl  k) ?_
  show GoH _ _ _ _ _ _ _ _ _ _  s₁ (mkF m 1 #[.val (.ref a1), .val (.ref a2), .val (.int (0 : Int32)), .val (.int (0 : Int32)), .val .null, .unset] [(.ref a1)])
  obtain ⟨T1, X1, e1, st1⟩ := initO X0 hx hZ hown (hw _ (List.mem_of_getElem? (i := 24) rfl)) (hw _ (List.mem_of_getElem? (i := 25) rfl)) (hw _ (List.mem_of_getElem? (i := 26) rfl)) e0 (g := (mkF m 1 #[.val (.ref a1), .val (.ref a2), .val (.int (0 : Int32)), .val (.int (0 : Int32)), .val .null, .unset] [(.ref a1)])) rfl (by rw [hml]; rfl) rfl (hb hby d4_1) (by decide) (W := 0) (by show 2 * 0 + _ ≤ _; exact Nat.le_of_eq rfl) (by decide)
  refine GoH.st st1 ?_
  show GoH _ _ _ _ _ _ _ _ _ _  T1 (mkF m 4 #[.val (.ref a1), .val (.ref a2), .val (.int (0 : Int32)), .val (.int (0 : Int32)), .val .null, .unset] [])
  refine GoH.st (fun t k => XS.iloadN X1.here hx rfl (hb hby d4_4) rfl  k) ?_
  show GoH _ _ _ _ _ _ _ _ _ _  T1 (mkF m 5 #[.val (.ref a1), .val (.ref a2), .val (.int (0 : Int32)), .val (.int (0 : Int32)), .val .null, .unset] [(.int (0 : Int32))])
  refine GoH.st (fun t k => XS.ifNo X1.here hx rfl (hb hby d4_5) rfl ((if0 _ _).trans (teq (rfl : (0 : Int32) = (0 : Int32))).2) k) ?_
  show GoH _ _ _ _ _ _ _ _ _ _  T1 (mkF m 8 #[.val (.ref a1), .val (.ref a2), .val (.int (0 : Int32)), .val (.int (0 : Int32)), .val .null, .unset] [])
  refine GoH.st (fun t k => XS.aloadN X1.here hx rfl (hb hby d4_8) rfl rfl  k) ?_
  show GoH _ _ _ _ _ _ _ _ _ _  T1 (mkF m 9 #[.val (.ref a1), .val (.ref a2), .val (.int (0 : Int32)), .val (.int (0 : Int32)), .val .null, .unset] [(.ref a1)])
  obtain ⟨sa2, T2, h2, kk2, sb2, kb2, X2, e2, E2, hS2, hk2, hZ2, ho2, E_sa2, F_coder_sa2, F_value_sa2, V_sb2, la2, lb2, CR2, Lt2, ns2, st2⟩ := ldcCH X1 hx hZ hown (hw _ (List.mem_of_getElem? (i := 77) rfl)) wS e1 hS hk hEL (List.mem_of_getElem? (i := 0) rfl) HH (vs := []) (z := 0) ⟨by decide, by decide⟩ (by decide) rfl (g := (mkF m 9 #[.val (.ref a1), .val (.ref a2), .val (.int (0 : Int32)), .val (.int (0 : Int32)), .val .null, .unset] [(.ref a1)])) rfl (hb hby d4_9) (n := 0) (by decide) (by decide) (by decide) (by decide)
  refine GoH.st st2 ?_
  have Sf_a1 := CHr.safe CR2 E_a1.lt Sf_a1
  have E_a1 := E_a1.ext E2
  have F_value_a1 := F_value_a1.ext E2
  have F_coder_a1 := F_coder_a1.ext E2
  have O := O.ext E2
  have KK := KK.ext E2
  have RR := RR.trans CR2
  have HH := CR2.1
  have hS := hS2
  have hk := hk2
  have hZ := hZ2
  have hown := ho2
  obtain ⟨ne_a1_sa2, ne_a1_sb2⟩ := ns2 _ Sf_a1
  show GoH _ _ _ _ _ _ _ _ _ _  T2 (mkF m 11 #[.val (.ref a1), .val (.ref a2), .val (.int (0 : Int32)), .val (.int (0 : Int32)), .val .null, .unset] [(.ref sa2), (.ref a1)])
  obtain ⟨T3, X3, e3, st3⟩ := getF X2 hx hZ hown (host := "") (Or.inl (hw _ (List.mem_of_getElem? (i := 41) rfl))) Via.refl e2 F_value_sa2 (g := (mkF m 11 #[.val (.ref a1), .val (.ref a2), .val (.int (0 : Int32)), .val (.int (0 : Int32)), .val .null, .unset] [(.ref sa2), (.ref a1)])) rfl rfl (hb hby d4_11)
  refine GoH.st st3 ?_
  show GoH _ _ _ _ _ _ _ _ _ _  T3 (mkF m 14 #[.val (.ref a1), .val (.ref a2), .val (.int (0 : Int32)), .val (.int (0 : Int32)), .val .null, .unset] [(.ref sb2), (.ref a1)])
  obtain ⟨T4, h4, X4, e4, W4, st4⟩ := putF X3 hx hZ hown (host := "") (Or.inl (hw _ (List.mem_of_getElem? (i := 41) rfl))) Via.refl e3 F_value_a1 E_a1 (Or.inr ⟨(hw _ (List.mem_of_getElem? (i := 42) rfl)), rfl, hnm⟩) (hw _ (List.mem_of_getElem? (i := 14) rfl)) (ty := (.array .byte)) (by decide) rfl rfl (g := (mkF m 14 #[.val (.ref a1), .val (.ref a2), .val (.int (0 : Int32)), .val (.int (0 : Int32)), .val .null, .unset] [(.ref sb2), (.ref a1)])) rfl rfl (hb hby d4_14)
  refine GoH.st st4 ?_
  have F_value_a1 : Fld Z h4 a1 "java/lang/String" "value" "[B" (.ref sb2) := F_value_a1.same W4
  have N4 := Fr.snoc X4 N0 g_a1
  have E_a1 := E_a1.wr W4
  have F_coder_a1 := F_coder_a1.other W4 (Or.inr (slot_ne (Or.inr (hw _ (List.mem_of_getElem? (i := 40) rfl))) (Or.inr (hw _ (List.mem_of_getElem? (i := 42) rfl))) (by decide) (t := .byte) (t' := (.array .byte)) (by decide) (by decide)))
  have E_sa2 := E_sa2.wr W4
  have V_sb2 := V_sb2.other W4 (Ne.symm ne_a1_sb2)
  have F_coder_sa2 := F_coder_sa2.other W4 (Or.inl (Ne.symm ne_a1_sa2))
  have F_value_sa2 := F_value_sa2.other W4 (Or.inl (Ne.symm ne_a1_sa2))
  have Sf'_a1 := Safe.wr W4 Sf_a1 HH Sf_a1
  have RR := RR.trans (CHr.wr W4 Sf_a1 HH)
  have HH := HH.wr W4 Sf_a1
  have Sf_a1 := Sf'_a1
  have hk := Nat.le_trans hk (Nat.le_of_eq W4.size.symm)
  have O := O.wr W4 g_a1
  have KK := KK.wr W4 (Or.inl (List.mem_of_getElem? (i := 0) rfl))
  show GoH _ _ _ _ _ _ _ _ _ _  T4 (mkF m 17 #[.val (.ref a1), .val (.ref a2), .val (.int (0 : Int32)), .val (.int (0 : Int32)), .val .null, .unset] [])
  refine GoH.st (fun t k => XS.aloadN X4.here hx rfl (hb hby d4_17) rfl rfl  k) ?_
  show GoH _ _ _ _ _ _ _ _ _ _  T4 (mkF m 18 #[.val (.ref a1), .val (.ref a2), .val (.int (0 : Int32)), .val (.int (0 : Int32)), .val .null, .unset] [(.ref a1)])
  obtain ⟨sa5, T5, h5, kk5, sb5, kb5, X5, e5, E5, hS5, hk5, hZ5, ho5, E_sa5, F_coder_sa5, F_value_sa5, V_sb5, la5, lb5, CR5, Lt5, ns5, st5⟩ := ldcCH X4 hx hZ hown (hw _ (List.mem_of_getElem? (i := 77) rfl)) wS e4 hS hk hEL (List.mem_of_getElem? (i := 0) rfl) HH (vs := []) (z := 0) ⟨by decide, by decide⟩ (by decide) rfl (g := (mkF m 18 #[.val (.ref a1), .val (.ref a2), .val (.int (0 : Int32)), .val (.int (0 : Int32)), .val .null, .unset] [(.ref a1)])) rfl (hb hby d4_18) (n := 0) (by decide) (by decide) (by decide) (by decide)
  refine GoH.st st5 ?_
  have Sf_a1 := CHr.safe CR5 E_a1.lt Sf_a1
  have E_a1 := E_a1.ext E5
  have F_value_a1 := F_value_a1.ext E5
  have F_coder_a1 := F_coder_a1.ext E5
  have E_sa2 := E_sa2.ext E5
  have V_sb2 := V_sb2.ext E5
  have F_coder_sa2 := F_coder_sa2.ext E5
  have F_value_sa2 := F_value_sa2.ext E5
  have O := O.ext E5
  have KK := KK.ext E5
  have RR := RR.trans CR5
  have HH := CR5.1
  have hS := hS5
  have hk := hk5
  have hZ := hZ5
  have hown := ho5
  obtain ⟨ne_a1_sa5, ne_a1_sb5⟩ := ns5 _ Sf_a1
  show GoH _ _ _ _ _ _ _ _ _ _  T5 (mkF m 20 #[.val (.ref a1), .val (.ref a2), .val (.int (0 : Int32)), .val (.int (0 : Int32)), .val .null, .unset] [(.ref sa5), (.ref a1)])
  obtain ⟨T6, X6, e6, st6⟩ := getF X5 hx hZ hown (host := "") (Or.inl (hw _ (List.mem_of_getElem? (i := 39) rfl))) Via.refl e5 F_coder_sa5 (g := (mkF m 20 #[.val (.ref a1), .val (.ref a2), .val (.int (0 : Int32)), .val (.int (0 : Int32)), .val .null, .unset] [(.ref sa5), (.ref a1)])) rfl rfl (hb hby d4_20)
  refine GoH.st st6 ?_
  show GoH _ _ _ _ _ _ _ _ _ _  T6 (mkF m 23 #[.val (.ref a1), .val (.ref a2), .val (.int (0 : Int32)), .val (.int (0 : Int32)), .val .null, .unset] [(.int (0 : Int32)), (.ref a1)])
  obtain ⟨T7, h7, X7, e7, W7, st7⟩ := putFN X6 hx hZ hown (hw _ (List.mem_of_getElem? (i := 39) rfl)) Via.refl e6 F_coder_a1 E_a1 (Or.inr ⟨(hw _ (List.mem_of_getElem? (i := 40) rfl)), rfl, hnm⟩) (hw _ (List.mem_of_getElem? (i := 14) rfl)) (ty := .byte) (v' := .int (0 : Int32)) (by decide) rfl rfl (g := (mkF m 23 #[.val (.ref a1), .val (.ref a2), .val (.int (0 : Int32)), .val (.int (0 : Int32)), .val .null, .unset] [(.int (0 : Int32)), (.ref a1)])) rfl rfl (hb hby d4_23)
  refine GoH.st st7 ?_
  have F_coder_a1 : Fld Z h7 a1 "java/lang/String" "coder" "B" (.int (0 : Int32)) := F_coder_a1.same W7
  have N7 := Fr.snoc X7 N4 g_a1
  have E_a1 := E_a1.wr W7
  have F_value_a1 := F_value_a1.other W7 (Or.inr (slot_ne (Or.inr (hw _ (List.mem_of_getElem? (i := 42) rfl))) (Or.inr (hw _ (List.mem_of_getElem? (i := 40) rfl))) (by decide) (t := (.array .byte)) (t' := .byte) (by decide) (by decide)))
  have E_sa2 := E_sa2.wr W7
  have V_sb2 := V_sb2.other W7 (Ne.symm ne_a1_sb2)
  have F_coder_sa2 := F_coder_sa2.other W7 (Or.inl (Ne.symm ne_a1_sa2))
  have F_value_sa2 := F_value_sa2.other W7 (Or.inl (Ne.symm ne_a1_sa2))
  have E_sa5 := E_sa5.wr W7
  have V_sb5 := V_sb5.other W7 (Ne.symm ne_a1_sb5)
  have F_coder_sa5 := F_coder_sa5.other W7 (Or.inl (Ne.symm ne_a1_sa5))
  have F_value_sa5 := F_value_sa5.other W7 (Or.inl (Ne.symm ne_a1_sa5))
  have Sf'_a1 := Safe.wr W7 Sf_a1 HH Sf_a1
  have RR := RR.trans (CHr.wr W7 Sf_a1 HH)
  have HH := HH.wr W7 Sf_a1
  have Sf_a1 := Sf'_a1
  have hk := Nat.le_trans hk (Nat.le_of_eq W7.size.symm)
  have O := O.wr W7 g_a1
  have KK := KK.wr W7 (Or.inl (List.mem_of_getElem? (i := 0) rfl))
  show GoH _ _ _ _ _ _ _ _ _ _  T7 (mkF m 26 #[.val (.ref a1), .val (.ref a2), .val (.int (0 : Int32)), .val (.int (0 : Int32)), .val .null, .unset] [])
  refine GoH.ret0 X7 hS hk e7 hZ hEL HH RR hlk hx Bd.returns (hb hby d4_26) (by decide) (by decide) ?_
  show Q_rmE4 Z _ _ _ _ h0 n0 _ T7.heap _
  rw [e7]
  exact ⟨rfl, N7, KK, E_a1, F_coder_a1, sb2, _, F_value_a1, V_sb2⟩
def Q_rmE (Z : State) (a1 : Addr) (a2 : Addr) (u1 : Value) (u2 : Value) (kC : ClassId) (h0 : Heap) (n0 : Nat) (v : Option Value) (h : Heap) (L : List Loc) : Prop := v = none ∧ Fr n0 L ∧ Keep h0 h [a1] ∧ Exa Z h a1 "java/lang/String" ∧ Fld Z h a1 "java/lang/String" "coder" "B" (.int 0) ∧ ∃ (t : Addr) (kb : ClassId), Fld Z h a1 "java/lang/String" "value" "[B" (.ref t) ∧ Arv Z h t kb .byte 0 [] (.int 0)
set_option maxRecDepth 65536 in
set_option maxHeartbeats 40000000 in
theorem rmE (l : Launch) (Z : State) (a0 : Array Value) (hw : ∀ d ∈ tables_1, d.before a0 Z = true) (ws : List Jvm.Cond) (a1 : Addr) (a2 : Addr) (u1 : Value) (u2 : Value) (kC : ClassId) (h0 : Heap) (n0 : Nat) (O : Old Z n0 h0) (hEL : EW Z a0 EL) (wS : ∀ a ∈ Bundle.stringAtoms, a.before a0 Z = true) (E_a1 : Exa Z h0 a1 "java/lang/String") (F_value_a1 : Fld Z h0 a1 "java/lang/String" "value" "[B" u1) (F_coder_a1 : Fld Z h0 a1 "java/lang/String" "coder" "B" u2) (g_a1 : n0 ≤ a1) (V_a2 : Arv Z h0 a2 kC .char 0 [] (.int 0)) (ne_a2_a1 : a2 ≠ a1) :
    MetFree l (⟨"java/lang/String", "<init>", "([C)V"⟩ : MethodName) (head1 (Jvm.Cond.code (⟨"java/lang/String", "<init>", "([C)V"⟩ : MethodName) jdk_42_method_3_code 2 none :: ws) ({ frames := 2, cells := 4, slots := 8, locals := 29 } : Room)) (fun a U => a = #[(.ref a1), (.ref a2)] ∧ Z.Warmed39 U.vm ∧ U.heap = h0 ∧ CHv Z EL U.vm h0 ∧ ∀ x ∈ ([a1] : List Addr), Safe Z EL U.vm h0 x) (fun _ _ _ _ _ => True) (fun _ U o U' => ∃ v L, o = .returned v ∧ Q_rmE Z a1 a2 u1 u2 kC h0 n0 v U'.heap L ∧ CHr Z EL U.vm U.heap U'.vm U'.heap ∧ ReturnedEndW U o U' L ({ frames := 2, cells := 4, slots := 8, locals := 29 } : Room).cells ({ frames := 2, cells := 4, slots := 8, locals := 29 } : Room).slots) := by
  refine MetFree.of_bodySF (plainFor_of_name pn_3) hisR ?_
  intro p e s m args below meth c s₁ Bd hml0 hP hK
  obtain ⟨rfl, hZ, hh, HH, hSF⟩ := hP
  have hx := Bd.exec
  have hby := Bd.bytes
  have hml : c.maxLocals = 2 := hml0
  have hown : s.vm.findClass "java/lang/String" = some m.cls := findClass_of_methodNamed Bd.named
  have hnm := (name_of_methodNamed Bd.named Bd.method).1
  have hlk : meth.locks = false := BodyLoose.notSynchronized Bd
  have X0 : Stand p l e ({ frames := 2, cells := 4, slots := 8, locals := 29 } : Room) (s.setVm s.vm) m #[(.ref a1), (.ref a2)] below meth c s₁ [] 0 0 := Stand.of_body Bd
  have e0 : s₁.heap = h0 := by rw [← hh, Bd.state]; rfl
  have N0 := Fr.nil n0
  have KK : Keep h0 h0 [a1] := Keep.refl h0 _
  have hS : s.Since s.vm h0.size := own_since s _
  have hk : h0.size ≤ h0.size := Nat.le_refl _
  have RR : CHr Z EL s.vm h0 s.vm h0 := CHr.refl HH
  have Sf_a1 : Safe Z EL s.vm h0 a1 := hSF _ (List.mem_of_getElem? (i := 0) rfl)
  suffices hgo : GoH p e below s ({ frames := 2, cells := 4, slots := 8, locals := 29 } : Room).cells ({ frames := 2, cells := 4, slots := 8, locals := 29 } : Room).slots Z h0 EL (Q_rmE Z a1 a2 u1 u2 kC h0 n0) s₁ (entryFrame m #[(.ref a1), (.ref a2)] 2) by
    obtain ⟨s₂, o, q1, q2, q3, v, L, q4, q5, q6, q7⟩ := hgo; exact ⟨s₂, o, q1, q2, q3, v, L, q4, q5, hh ▸ q6, q7⟩
  refine GoH.eq (ef_rmE m a1 a2) ?_
  show GoH _ _ _ _ _ _ _ _ _ _  s₁ (mkF m 0 #[.val (.ref a1), .val (.ref a2)] [])
  refine GoH.st (fun t k => XS.aloadN X0.here hx rfl (hb hby d3_0) rfl rfl  k) ?_
  show GoH _ _ _ _ _ _ _ _ _ _  s₁ (mkF m 1 #[.val (.ref a1), .val (.ref a2)] [(.ref a1)])
  refine GoH.st (fun t k => XS.aloadN X0.here hx rfl (hb hby d3_1) rfl rfl  k) ?_
  show GoH _ _ _ _ _ _ _ _ _ _  s₁ (mkF m 2 #[.val (.ref a1), .val (.ref a2)] [(.ref a2), (.ref a1)])
  refine GoH.st (fun t k => XS.iconst X0.here hx rfl (hb hby d3_2) k) ?_
  show GoH _ _ _ _ _ _ _ _ _ _  s₁ (mkF m 3 #[.val (.ref a1), .val (.ref a2)] [(.int (0 : Int32)), (.ref a2), (.ref a1)])
  refine GoH.st (fun t k => XS.aloadN X0.here hx rfl (hb hby d3_3) rfl rfl  k) ?_
  show GoH _ _ _ _ _ _ _ _ _ _  s₁ (mkF m 4 #[.val (.ref a1), .val (.ref a2)] [(.ref a2), (.int (0 : Int32)), (.ref a2), (.ref a1)])
  obtain ⟨cl1, Ar1, q1, S1, M1, Hh1, G1⟩ := id V_a2
  refine GoH.st (X0.arraylength hx (by rw [e0]; exact Ar1.1) (State.isArrayOf_alike hZ.alike Ar1.2.1) (g := (mkF m 4 #[.val (.ref a1), .val (.ref a2)] [(.ref a2), (.int (0 : Int32)), (.ref a2), (.ref a1)])) rfl rfl (hb hby d3_4)) ?_
  rw [len_of S1 M1]
  show GoH _ _ _ _ _ _ _ _ _ _  s₁ (mkF m 5 #[.val (.ref a1), .val (.ref a2)] [(.int (0 : Int32)), (.int (0 : Int32)), (.ref a2), (.ref a1)])
  refine GoH.st (fun t k => XS.aconstNull X0.here hx rfl (hb hby d3_5) k) ?_
  show GoH _ _ _ _ _ _ _ _ _ _  s₁ (mkF m 6 #[.val (.ref a1), .val (.ref a2)] [.null, (.int (0 : Int32)), (.int (0 : Int32)), (.ref a2), (.ref a1)])
  obtain ⟨_, _, ⟨T2, L2, k2, n2⟩, -, X2, hSn2, hgn2, ⟨Lc2, hQ2, l2, y2, z2, CR2⟩, st2⟩ := X0.specialBackS hx (y := (⟨"java/lang/String", "<init>", "([CIILjava/lang/Void;)V"⟩ : MethodName)) rfl hown (mvT hZ (hw _ (List.mem_of_getElem? (i := 20) rfl))) (mvT hZ (hw _ (List.mem_of_getElem? (i := 21) rfl))) (mvT hZ (hw _ (List.mem_of_getElem? (i := 23) rfl))) (by decide) (own_backSH (sf := [a1]) (W := 0) (rmE4 l Z a0 hw [] a1 a2 u1 u2 h0 n0 O hEL wS E_a1 F_value_a1 F_coder_a1 g_a1) hZ (hw _ (List.mem_of_getElem? (i := 23) rfl)) (hw _ (List.mem_of_getElem? (i := 15) rfl)) (by decide) (by decide) hEL HH (allS (P := fun x => Safe Z EL s.vm h0 x ∧ x < Array.size h0) ⟨Sf_a1, E_a1.lt⟩ all0)) (g := (mkF m 6 #[.val (.ref a1), .val (.ref a2)] [.null, (.int (0 : Int32)), (.int (0 : Int32)), (.ref a2), (.ref a1)])) rfl (by rw [hml]; rfl) (Steps.refl _) (a := a1) (argsL := [(.ref a2), (.int (0 : Int32)), (.int (0 : Int32)), .null]) (rest := []) (lenOf pd___CIILjava_lang_Void__V rfl) rfl (by show 2 * 0 + _ ≤ _; exact Nat.le_of_eq rfl) (hb hby d3_6) (fun _ _ => ⟨rfl, e0, (by decide : 0 + 4 ≤ _), (by decide : 0 + 8 ≤ _)⟩)
  dsimp only [Pt.U, Pt.locs, Pt.cells, Pt.slots] at X2 l2 y2 z2 st2 hQ2 hSn2 hgn2 CR2
  subst l2 y2 z2
  obtain ⟨rfl, N2q, K2q, Eq2, Cq2, t2, kt2, Vq2, Aq2⟩ := hQ2
  have X2 : Stand p l e _ (s.setVm T2.vm) m _ below meth c T2 _ _ _ := X2
  have N2 := Fr.app N0 N2q
  refine GoH.tr st2 ?_
  have hS2 := Jvm.RoadKit.foldS hS (by rw [e0]; exact hk) hSn2 hgn2
  have hZ2 := State.Warmed39.trans (t := s.setVm s.vm) hZ hSn2.1
  have hk2 := Nat.le_refl T2.heap.size
  have hown2 : T2.vm.findClass "java/lang/String" = some m.cls := by rw [hSn2.1.alike.findClass]; exact hown
  have Sf_a1 := CHr.safe CR2 E_a1.lt Sf_a1
  have E_a1 := E_a1.keep K2q
  have V_a2 := V_a2.keep K2q (ninS ne_a2_a1 nin0)
  have O := O.keep K2q (allS g_a1 all0)
  have KK := KK.trans K2q (allS (Or.inl (List.mem_of_getElem? (i := 0) rfl)) all0)
  have RR := RR.trans CR2
  have HH := CR2.1
  have hS := hS2
  have hk := hk2
  have hZ := hZ2
  have hown := hown2
  show GoH _ _ _ _ _ _ _ _ _ _  T2 (mkF m 9 #[.val (.ref a1), .val (.ref a2)] [])
  refine GoH.ret0 X2 hS hk rfl hZ hEL HH RR hlk hx Bd.returns (hb hby d3_9) (by decide) (by decide) ?_
  show Q_rmE Z _ _ _ _ _ h0 n0 _ T2.heap _
  exact ⟨rfl, N2, KK, Eq2, Cq2, _, _, Vq2, Aq2⟩
def Q_rmK (Z : State) (p1 : Int32) (w_LITERAL : Addr) (w_NUMBER : Addr) (w_VARIABLE : Addr) (w_NAME_TEST : Addr) (w_NODE_TYPE : Addr) (w_FUNCTION_NAME : Addr) (w_AXIS_NAME : Addr) (w_OPERATOR : Addr) (w_PUNCTUATION : Addr) (h0 : Heap) (n0 : Nat) (v : Option Value) (h : Heap) (L : List Loc) : Prop := v = some (.ref (kindF p1 w_LITERAL w_NUMBER w_VARIABLE w_NAME_TEST w_NODE_TYPE w_FUNCTION_NAME w_AXIS_NAME w_OPERATOR w_PUNCTUATION)) ∧ Fr n0 L ∧ h = h0
set_option maxRecDepth 65536 in
set_option maxHeartbeats 40000000 in
theorem rmK (l : Launch) (Z : State) (a0 : Array Value) (hw : ∀ d ∈ tables_1, d.before a0 Z = true) (ws : List Jvm.Cond) (p1 : Int32) (w_LITERAL : Addr) (w_NUMBER : Addr) (w_VARIABLE : Addr) (w_NAME_TEST : Addr) (w_NODE_TYPE : Addr) (w_FUNCTION_NAME : Addr) (w_AXIS_NAME : Addr) (w_OPERATOR : Addr) (w_PUNCTUATION : Addr) (h0 : Heap) (n0 : Nat) (O : Old Z n0 h0) (S_LITERAL : Sta Z Z.heap "com/example/nodewell/nodewell/query/Token$Kind" "LITERAL" "Lcom/example/nodewell/nodewell/query/Token$Kind;" (.ref w_LITERAL)) (S_NUMBER : Sta Z Z.heap "com/example/nodewell/nodewell/query/Token$Kind" "NUMBER" "Lcom/example/nodewell/nodewell/query/Token$Kind;" (.ref w_NUMBER)) (S_VARIABLE : Sta Z Z.heap "com/example/nodewell/nodewell/query/Token$Kind" "VARIABLE" "Lcom/example/nodewell/nodewell/query/Token$Kind;" (.ref w_VARIABLE)) (S_NAME_TEST : Sta Z Z.heap "com/example/nodewell/nodewell/query/Token$Kind" "NAME_TEST" "Lcom/example/nodewell/nodewell/query/Token$Kind;" (.ref w_NAME_TEST)) (S_NODE_TYPE : Sta Z Z.heap "com/example/nodewell/nodewell/query/Token$Kind" "NODE_TYPE" "Lcom/example/nodewell/nodewell/query/Token$Kind;" (.ref w_NODE_TYPE)) (S_FUNCTION_NAME : Sta Z Z.heap "com/example/nodewell/nodewell/query/Token$Kind" "FUNCTION_NAME" "Lcom/example/nodewell/nodewell/query/Token$Kind;" (.ref w_FUNCTION_NAME)) (S_AXIS_NAME : Sta Z Z.heap "com/example/nodewell/nodewell/query/Token$Kind" "AXIS_NAME" "Lcom/example/nodewell/nodewell/query/Token$Kind;" (.ref w_AXIS_NAME)) (S_OPERATOR : Sta Z Z.heap "com/example/nodewell/nodewell/query/Token$Kind" "OPERATOR" "Lcom/example/nodewell/nodewell/query/Token$Kind;" (.ref w_OPERATOR)) (S_PUNCTUATION : Sta Z Z.heap "com/example/nodewell/nodewell/query/Token$Kind" "PUNCTUATION" "Lcom/example/nodewell/nodewell/query/Token$Kind;" (.ref w_PUNCTUATION)) :
    MetFree l (⟨"com/example/nodewell/nodewell/query/TokenIsPinLaw", "kind", "(I)Lcom/example/nodewell/nodewell/query/Token$Kind;"⟩ : MethodName) (head1 (Jvm.Cond.code (⟨"com/example/nodewell/nodewell/query/TokenIsPinLaw", "kind", "(I)Lcom/example/nodewell/nodewell/query/Token$Kind;"⟩ : MethodName) method_2_code 1 (some (.object "com/example/nodewell/nodewell/query/Token$Kind")) :: ws) ({ frames := 0, cells := 0, slots := 0, locals := 0 } : Room)) (fun a U => a = #[(.int p1)] ∧ Z.Warmed39 U.vm ∧ U.heap = h0) (fun _ _ _ _ _ => True) (fun _ U o U' => ∃ v L, o = .returned v ∧ Q_rmK Z p1 w_LITERAL w_NUMBER w_VARIABLE w_NAME_TEST w_NODE_TYPE w_FUNCTION_NAME w_AXIS_NAME w_OPERATOR w_PUNCTUATION h0 n0 v U'.heap L ∧ FrameEnd U o U' L ({ frames := 0, cells := 0, slots := 0, locals := 0 } : Room).cells ({ frames := 0, cells := 0, slots := 0, locals := 0 } : Room).slots) := by
  refine MetFree.of_bodySF (plainFor_of_name pn_1) hisR ?_
  intro p e s m args below meth c s₁ Bd hml0 hP hK
  obtain ⟨rfl, hZ, hh⟩ := hP
  have hx := Bd.exec
  have hby := Bd.bytes
  have hml : c.maxLocals = 1 := hml0
  have hown : s.vm.findClass "com/example/nodewell/nodewell/query/TokenIsPinLaw" = some m.cls := findClass_of_methodNamed Bd.named
  have hnm := (name_of_methodNamed Bd.named Bd.method).1
  have hlk : meth.locks = false := BodyLoose.notSynchronized Bd
  have X0 : Stand p l e ({ frames := 0, cells := 0, slots := 0, locals := 0 } : Room) s m #[(.int p1)] below meth c s₁ [] 0 0 := Stand.of_body Bd
  have e0 : s₁.heap = h0 := by rw [← hh, Bd.state]; rfl
  have N0 := Fr.nil n0
  show Go p e below s ({ frames := 0, cells := 0, slots := 0, locals := 0 } : Room).cells ({ frames := 0, cells := 0, slots := 0, locals := 0 } : Room).slots (Q_rmK Z p1 w_LITERAL w_NUMBER w_VARIABLE w_NAME_TEST w_NODE_TYPE w_FUNCTION_NAME w_AXIS_NAME w_OPERATOR w_PUNCTUATION h0 n0) s₁ (entryFrame m #[(.int p1)] 1)
  refine Go.eq (ef_rmK m p1) ?_
  show Go _ _ _ _ _ _ _  s₁ (mkF m 0 #[.val (.int p1)] [])
  refine Go.st (fun t k => XS.iloadN X0.here hx rfl (hb hby d1_0) rfl  k) ?_
  show Go _ _ _ _ _ _ _  s₁ (mkF m 1 #[.val (.int p1)] [(.int p1)])
  by_cases c1_1 : p1 = (0 : Int32)
  · refine Go.st (fun t k => XS.ifNo X0.here hx rfl (hb hby d1_1) rfl ((if0 _ _).trans (teq c1_1).2) k) ?_
    show Go _ _ _ _ _ _ _  s₁ (mkF m 4 #[.val (.int p1)] [])
    obtain ⟨T2, X2, e2, st2⟩ := getS2 X0 hx hZ hown (host := "") (Or.inl (hw _ (List.mem_of_getElem? (i := 7) rfl))) Via.refl e0 (S_LITERAL.ext O.2) (g := (mkF m 4 #[.val (.int p1)] [])) rfl (hb hby d1_4)
    refine Go.st st2 ?_
    show Go _ _ _ _ _ _ _  T2 (mkF m 7 #[.val (.int p1)] [(.ref w_LITERAL)])
    refine Go.retR X2 hlk hx Bd.returns rfl rfl rfl (hb hby d1_7) (by decide) (by decide) ?_
    show Q_rmK Z _ _ _ _ _ _ _ _ _ _ h0 n0 _ T2.heap _
    rw [e2]
    exact ⟨by simp only [kindF, if_pos c1_1], N0, rfl⟩
  · refine Go.st (fun t k => XS.ifYes X0.here hx rfl (pc0 := 1) (pc' := 8) rfl (hb hby d1_1) rfl ((if0 _ _).trans (feq c1_1).2) (by decide) (by decide) k) ?_
    show Go _ _ _ _ _ _ _  s₁ (mkF m 8 #[.val (.int p1)] [])
    refine Go.st (fun t k => XS.iloadN X0.here hx rfl (hb hby d1_8) rfl  k) ?_
    show Go _ _ _ _ _ _ _  s₁ (mkF m 9 #[.val (.int p1)] [(.int p1)])
    refine Go.st (fun t k => XS.iconst X0.here hx rfl (hb hby d1_9) k) ?_
    show Go _ _ _ _ _ _ _  s₁ (mkF m 10 #[.val (.int p1)] [(.int (1 : Int32)), (.int p1)])
    by_cases c10_3 : p1 = (1 : Int32)
    · refine Go.st (fun t k => XS.icmpNo X0.here hx rfl (hb hby d1_10) rfl (teq c10_3).2 k) ?_
      show Go _ _ _ _ _ _ _  s₁ (mkF m 13 #[.val (.int p1)] [])
      obtain ⟨T4, X4, e4, st4⟩ := getS2 X0 hx hZ hown (host := "") (Or.inl (hw _ (List.mem_of_getElem? (i := 86) rfl))) Via.refl e0 (S_NUMBER.ext O.2) (g := (mkF m 13 #[.val (.int p1)] [])) rfl (hb hby d1_13)
      refine Go.st st4 ?_
      show Go _ _ _ _ _ _ _  T4 (mkF m 16 #[.val (.int p1)] [(.ref w_NUMBER)])
      refine Go.retR X4 hlk hx Bd.returns rfl rfl rfl (hb hby d1_16) (by decide) (by decide) ?_
      show Q_rmK Z _ _ _ _ _ _ _ _ _ _ h0 n0 _ T4.heap _
      rw [e4]
      exact ⟨by simp only [kindF, if_neg c1_1, if_pos c10_3], N0, rfl⟩
    · refine Go.st (fun t k => XS.icmpYes X0.here hx rfl (pc0 := 10) (pc' := 17) rfl (hb hby d1_10) rfl (feq c10_3).2 (by decide) (by decide) k) ?_
      show Go _ _ _ _ _ _ _  s₁ (mkF m 17 #[.val (.int p1)] [])
      refine Go.st (fun t k => XS.iloadN X0.here hx rfl (hb hby d1_17) rfl  k) ?_
      show Go _ _ _ _ _ _ _  s₁ (mkF m 18 #[.val (.int p1)] [(.int p1)])
      refine Go.st (fun t k => XS.iconst X0.here hx rfl (hb hby d1_18) k) ?_
      show Go _ _ _ _ _ _ _  s₁ (mkF m 19 #[.val (.int p1)] [(.int (2 : Int32)), (.int p1)])
      by_cases c19_5 : p1 = (2 : Int32)
      · refine Go.st (fun t k => XS.icmpNo X0.here hx rfl (hb hby d1_19) rfl (teq c19_5).2 k) ?_
        show Go _ _ _ _ _ _ _  s₁ (mkF m 22 #[.val (.int p1)] [])
        obtain ⟨T6, X6, e6, st6⟩ := getS2 X0 hx hZ hown (host := "") (Or.inl (hw _ (List.mem_of_getElem? (i := 92) rfl))) Via.refl e0 (S_VARIABLE.ext O.2) (g := (mkF m 22 #[.val (.int p1)] [])) rfl (hb hby d1_22)
        refine Go.st st6 ?_
        show Go _ _ _ _ _ _ _  T6 (mkF m 25 #[.val (.int p1)] [(.ref w_VARIABLE)])
        refine Go.retR X6 hlk hx Bd.returns rfl rfl rfl (hb hby d1_25) (by decide) (by decide) ?_
        show Q_rmK Z _ _ _ _ _ _ _ _ _ _ h0 n0 _ T6.heap _
        rw [e6]
        exact ⟨by simp only [kindF, if_neg c1_1, if_neg c10_3, if_pos c19_5], N0, rfl⟩
      · refine Go.st (fun t k => XS.icmpYes X0.here hx rfl (pc0 := 19) (pc' := 26) rfl (hb hby d1_19) rfl (feq c19_5).2 (by decide) (by decide) k) ?_
        show Go _ _ _ _ _ _ _  s₁ (mkF m 26 #[.val (.int p1)] [])
        refine Go.st (fun t k => XS.iloadN X0.here hx rfl (hb hby d1_26) rfl  k) ?_
        show Go _ _ _ _ _ _ _  s₁ (mkF m 27 #[.val (.int p1)] [(.int p1)])
        refine Go.st (fun t k => XS.iconst X0.here hx rfl (hb hby d1_27) k) ?_
        show Go _ _ _ _ _ _ _  s₁ (mkF m 28 #[.val (.int p1)] [(.int (3 : Int32)), (.int p1)])
        by_cases c28_7 : p1 = (3 : Int32)
        · refine Go.st (fun t k => XS.icmpNo X0.here hx rfl (hb hby d1_28) rfl (teq c28_7).2 k) ?_
          show Go _ _ _ _ _ _ _  s₁ (mkF m 31 #[.val (.int p1)] [])
          obtain ⟨T8, X8, e8, st8⟩ := getS2 X0 hx hZ hown (host := "") (Or.inl (hw _ (List.mem_of_getElem? (i := 75) rfl))) Via.refl e0 (S_NAME_TEST.ext O.2) (g := (mkF m 31 #[.val (.int p1)] [])) rfl (hb hby d1_31)
          refine Go.st st8 ?_
          show Go _ _ _ _ _ _ _  T8 (mkF m 34 #[.val (.int p1)] [(.ref w_NAME_TEST)])
          refine Go.retR X8 hlk hx Bd.returns rfl rfl rfl (hb hby d1_34) (by decide) (by decide) ?_
          show Q_rmK Z _ _ _ _ _ _ _ _ _ _ h0 n0 _ T8.heap _
          rw [e8]
          exact ⟨by simp only [kindF, if_neg c1_1, if_neg c10_3, if_neg c19_5, if_pos c28_7], N0, rfl⟩
        · refine Go.st (fun t k => XS.icmpYes X0.here hx rfl (pc0 := 28) (pc' := 35) rfl (hb hby d1_28) rfl (feq c28_7).2 (by decide) (by decide) k) ?_
          show Go _ _ _ _ _ _ _  s₁ (mkF m 35 #[.val (.int p1)] [])
          refine Go.st (fun t k => XS.iloadN X0.here hx rfl (hb hby d1_35) rfl  k) ?_
          show Go _ _ _ _ _ _ _  s₁ (mkF m 36 #[.val (.int p1)] [(.int p1)])
          refine Go.st (fun t k => XS.iconst X0.here hx rfl (hb hby d1_36) k) ?_
          show Go _ _ _ _ _ _ _  s₁ (mkF m 37 #[.val (.int p1)] [(.int (4 : Int32)), (.int p1)])
          by_cases c37_9 : p1 = (4 : Int32)
          · refine Go.st (fun t k => XS.icmpNo X0.here hx rfl (hb hby d1_37) rfl (teq c37_9).2 k) ?_
            show Go _ _ _ _ _ _ _  s₁ (mkF m 40 #[.val (.int p1)] [])
            obtain ⟨T10, X10, e10, st10⟩ := getS2 X0 hx hZ hown (host := "") (Or.inl (hw _ (List.mem_of_getElem? (i := 88) rfl))) Via.refl e0 (S_NODE_TYPE.ext O.2) (g := (mkF m 40 #[.val (.int p1)] [])) rfl (hb hby d1_40)
            refine Go.st st10 ?_
            show Go _ _ _ _ _ _ _  T10 (mkF m 43 #[.val (.int p1)] [(.ref w_NODE_TYPE)])
            refine Go.retR X10 hlk hx Bd.returns rfl rfl rfl (hb hby d1_43) (by decide) (by decide) ?_
            show Q_rmK Z _ _ _ _ _ _ _ _ _ _ h0 n0 _ T10.heap _
            rw [e10]
            exact ⟨by simp only [kindF, if_neg c1_1, if_neg c10_3, if_neg c19_5, if_neg c28_7, if_pos c37_9], N0, rfl⟩
          · refine Go.st (fun t k => XS.icmpYes X0.here hx rfl (pc0 := 37) (pc' := 44) rfl (hb hby d1_37) rfl (feq c37_9).2 (by decide) (by decide) k) ?_
            show Go _ _ _ _ _ _ _  s₁ (mkF m 44 #[.val (.int p1)] [])
            refine Go.st (fun t k => XS.iloadN X0.here hx rfl (hb hby d1_44) rfl  k) ?_
            show Go _ _ _ _ _ _ _  s₁ (mkF m 45 #[.val (.int p1)] [(.int p1)])
            refine Go.st (fun t k => XS.iconst X0.here hx rfl (hb hby d1_45) k) ?_
            show Go _ _ _ _ _ _ _  s₁ (mkF m 46 #[.val (.int p1)] [(.int (5 : Int32)), (.int p1)])
            by_cases c46_11 : p1 = (5 : Int32)
            · refine Go.st (fun t k => XS.icmpNo X0.here hx rfl (hb hby d1_46) rfl (teq c46_11).2 k) ?_
              show Go _ _ _ _ _ _ _  s₁ (mkF m 49 #[.val (.int p1)] [])
              obtain ⟨T12, X12, e12, st12⟩ := getS2 X0 hx hZ hown (host := "") (Or.inl (hw _ (List.mem_of_getElem? (i := 84) rfl))) Via.refl e0 (S_FUNCTION_NAME.ext O.2) (g := (mkF m 49 #[.val (.int p1)] [])) rfl (hb hby d1_49)
              refine Go.st st12 ?_
              show Go _ _ _ _ _ _ _  T12 (mkF m 52 #[.val (.int p1)] [(.ref w_FUNCTION_NAME)])
              refine Go.retR X12 hlk hx Bd.returns rfl rfl rfl (hb hby d1_52) (by decide) (by decide) ?_
              show Q_rmK Z _ _ _ _ _ _ _ _ _ _ h0 n0 _ T12.heap _
              rw [e12]
              exact ⟨by simp only [kindF, if_neg c1_1, if_neg c10_3, if_neg c19_5, if_neg c28_7, if_neg c37_9, if_pos c46_11], N0, rfl⟩
            · refine Go.st (fun t k => XS.icmpYes X0.here hx rfl (pc0 := 46) (pc' := 53) rfl (hb hby d1_46) rfl (feq c46_11).2 (by decide) (by decide) k) ?_
              show Go _ _ _ _ _ _ _  s₁ (mkF m 53 #[.val (.int p1)] [])
              refine Go.st (fun t k => XS.iloadN X0.here hx rfl (hb hby d1_53) rfl  k) ?_
              show Go _ _ _ _ _ _ _  s₁ (mkF m 54 #[.val (.int p1)] [(.int p1)])
              refine Go.st (fun t k => XS.bipush X0.here hx rfl (hb hby d1_54) k) ?_
              show Go _ _ _ _ _ _ _  s₁ (mkF m 56 #[.val (.int p1)] [(.int (6 : Int32)), (.int p1)])
              by_cases c56_13 : p1 = (6 : Int32)
              · refine Go.st (fun t k => XS.icmpNo X0.here hx rfl (hb hby d1_56) rfl (teq c56_13).2 k) ?_
                show Go _ _ _ _ _ _ _  s₁ (mkF m 59 #[.val (.int p1)] [])
                obtain ⟨T14, X14, e14, st14⟩ := getS2 X0 hx hZ hown (host := "") (Or.inl (hw _ (List.mem_of_getElem? (i := 82) rfl))) Via.refl e0 (S_AXIS_NAME.ext O.2) (g := (mkF m 59 #[.val (.int p1)] [])) rfl (hb hby d1_59)
                refine Go.st st14 ?_
                show Go _ _ _ _ _ _ _  T14 (mkF m 62 #[.val (.int p1)] [(.ref w_AXIS_NAME)])
                refine Go.retR X14 hlk hx Bd.returns rfl rfl rfl (hb hby d1_62) (by decide) (by decide) ?_
                show Q_rmK Z _ _ _ _ _ _ _ _ _ _ h0 n0 _ T14.heap _
                rw [e14]
                exact ⟨by simp only [kindF, if_neg c1_1, if_neg c10_3, if_neg c19_5, if_neg c28_7, if_neg c37_9, if_neg c46_11, if_pos c56_13], N0, rfl⟩
              · refine Go.st (fun t k => XS.icmpYes X0.here hx rfl (pc0 := 56) (pc' := 63) rfl (hb hby d1_56) rfl (feq c56_13).2 (by decide) (by decide) k) ?_
                show Go _ _ _ _ _ _ _  s₁ (mkF m 63 #[.val (.int p1)] [])
                refine Go.st (fun t k => XS.iloadN X0.here hx rfl (hb hby d1_63) rfl  k) ?_
                show Go _ _ _ _ _ _ _  s₁ (mkF m 64 #[.val (.int p1)] [(.int p1)])
                refine Go.st (fun t k => XS.bipush X0.here hx rfl (hb hby d1_64) k) ?_
                show Go _ _ _ _ _ _ _  s₁ (mkF m 66 #[.val (.int p1)] [(.int (7 : Int32)), (.int p1)])
                by_cases c66_15 : p1 = (7 : Int32)
                · refine Go.st (fun t k => XS.icmpNo X0.here hx rfl (hb hby d1_66) rfl (teq c66_15).2 k) ?_
                  show Go _ _ _ _ _ _ _  s₁ (mkF m 69 #[.val (.int p1)] [])
                  obtain ⟨T16, X16, e16, st16⟩ := getS2 X0 hx hZ hown (host := "") (Or.inl (hw _ (List.mem_of_getElem? (i := 80) rfl))) Via.refl e0 (S_OPERATOR.ext O.2) (g := (mkF m 69 #[.val (.int p1)] [])) rfl (hb hby d1_69)
                  refine Go.st st16 ?_
                  show Go _ _ _ _ _ _ _  T16 (mkF m 72 #[.val (.int p1)] [(.ref w_OPERATOR)])
                  refine Go.retR X16 hlk hx Bd.returns rfl rfl rfl (hb hby d1_72) (by decide) (by decide) ?_
                  show Q_rmK Z _ _ _ _ _ _ _ _ _ _ h0 n0 _ T16.heap _
                  rw [e16]
                  exact ⟨by simp only [kindF, if_neg c1_1, if_neg c10_3, if_neg c19_5, if_neg c28_7, if_neg c37_9, if_neg c46_11, if_neg c56_13, if_pos c66_15], N0, rfl⟩
                · refine Go.st (fun t k => XS.icmpYes X0.here hx rfl (pc0 := 66) (pc' := 73) rfl (hb hby d1_66) rfl (feq c66_15).2 (by decide) (by decide) k) ?_
                  show Go _ _ _ _ _ _ _  s₁ (mkF m 73 #[.val (.int p1)] [])
                  obtain ⟨T17, X17, e17, st17⟩ := getS2 X0 hx hZ hown (host := "") (Or.inl (hw _ (List.mem_of_getElem? (i := 90) rfl))) Via.refl e0 (S_PUNCTUATION.ext O.2) (g := (mkF m 73 #[.val (.int p1)] [])) rfl (hb hby d1_73)
                  refine Go.st st17 ?_
                  show Go _ _ _ _ _ _ _  T17 (mkF m 76 #[.val (.int p1)] [(.ref w_PUNCTUATION)])
                  refine Go.retR X17 hlk hx Bd.returns rfl rfl rfl (hb hby d1_76) (by decide) (by decide) ?_
                  show Q_rmK Z _ _ _ _ _ _ _ _ _ _ h0 n0 _ T17.heap _
                  rw [e17]
                  exact ⟨by simp only [kindF, if_neg c1_1, if_neg c10_3, if_neg c19_5, if_neg c28_7, if_neg c37_9, if_neg c46_11, if_neg c56_13, if_neg c66_15], N0, rfl⟩
def Q_rmT (Z : State) (p1 : Int32) (p2 : Int32) (p3 : Int32) (zc : Int32) (h0 : Heap) (n0 : Nat) (v : Option Value) (h : Heap) (L : List Loc) : Prop := ∃ (b t : Addr) (kb : ClassId), v = some (.ref b) ∧ Fr n0 L ∧ Ext h0 h ∧ h0.size ≤ b ∧ Exa Z h b "java/lang/String" ∧ Fld Z h b "java/lang/String" "coder" "B" (.int 0) ∧ Fld Z h b "java/lang/String" "value" "[B" (.ref t) ∧ Arv Z h t kb .byte (Int32.ofNat (textL p1 p2 p3).length) (((textL p1 p2 p3).map fun c => c.toInt8.toInt32).map Value.int) (.int 0)
set_option maxRecDepth 65536 in
set_option maxHeartbeats 40000000 in
theorem rmT (l : Launch) (Z : State) (a0 : Array Value) (hw : ∀ d ∈ tables_1, d.before a0 Z = true) (ws : List Jvm.Cond) (p1 : Int32) (p2 : Int32) (p3 : Int32) (zc : Int32) (h0 : Heap) (n0 : Nat) (O : Old Z n0 h0) (hEL : EW Z a0 EL) (wS : ∀ a ∈ Bundle.stringAtoms, a.before a0 Z = true) (S_COMPACT : Sta Z Z.heap "java/lang/String" "COMPACT_STRINGS" "Z" (.int zc)) (hcs : ¬ zc = 0) (hc2 : ¬ nar .char p2 < 0 ∧ ¬ (255 : Int32) < nar .char p2) (hc3 : ¬ nar .char p3 < 0 ∧ ¬ (255 : Int32) < nar .char p3) :
    MetFree l (⟨"com/example/nodewell/nodewell/query/TokenIsPinLaw", "text", "(ICC)Ljava/lang/String;"⟩ : MethodName) (head1 (Jvm.Cond.code (⟨"com/example/nodewell/nodewell/query/TokenIsPinLaw", "text", "(ICC)Ljava/lang/String;"⟩ : MethodName) method_3_code 3 (some (.object "java/lang/String")) :: ws) ({ frames := 4, cells := 6, slots := 16, locals := 72 } : Room)) (fun a U => a = #[(.int p1), (.int p2), (.int p3)] ∧ Z.Warmed39 U.vm ∧ U.heap = h0 ∧ CHv Z EL U.vm h0 ∧ ∀ x ∈ ([] : List Addr), Safe Z EL U.vm h0 x) (fun _ _ _ _ _ => True) (fun _ U o U' => ∃ v L, o = .returned v ∧ Q_rmT Z p1 p2 p3 zc h0 n0 v U'.heap L ∧ CHr Z EL U.vm U.heap U'.vm U'.heap ∧ ReturnedEndW U o U' L ({ frames := 4, cells := 6, slots := 16, locals := 72 } : Room).cells ({ frames := 4, cells := 6, slots := 16, locals := 72 } : Room).slots) := by
  refine MetFree.of_bodySF (plainFor_of_name pn_2) hisR ?_
  intro p e s m args below meth c s₁ Bd hml0 hP hK
  obtain ⟨rfl, hZ, hh, HH, hSF⟩ := hP
  have hx := Bd.exec
  have hby := Bd.bytes
  have hml : c.maxLocals = 3 := hml0
  have hown : s.vm.findClass "com/example/nodewell/nodewell/query/TokenIsPinLaw" = some m.cls := findClass_of_methodNamed Bd.named
  have hnm := (name_of_methodNamed Bd.named Bd.method).1
  have hlk : meth.locks = false := BodyLoose.notSynchronized Bd
  have X0 : Stand p l e ({ frames := 4, cells := 6, slots := 16, locals := 72 } : Room) (s.setVm s.vm) m #[(.int p1), (.int p2), (.int p3)] below meth c s₁ [] 0 0 := Stand.of_body Bd
  have e0 : s₁.heap = h0 := by rw [← hh, Bd.state]; rfl
  have N0 := Fr.nil n0
  have KK : Keep h0 h0 [] := Keep.refl h0 _
  have hS : s.Since s.vm h0.size := own_since s _
  have hk : h0.size ≤ h0.size := Nat.le_refl _
  have RR : CHr Z EL s.vm h0 s.vm h0 := CHr.refl HH
  suffices hgo : GoH p e below s ({ frames := 4, cells := 6, slots := 16, locals := 72 } : Room).cells ({ frames := 4, cells := 6, slots := 16, locals := 72 } : Room).slots Z h0 EL (Q_rmT Z p1 p2 p3 zc h0 n0) s₁ (entryFrame m #[(.int p1), (.int p2), (.int p3)] 3) by
    obtain ⟨s₂, o, q1, q2, q3, v, L, q4, q5, q6, q7⟩ := hgo; exact ⟨s₂, o, q1, q2, q3, v, L, q4, q5, hh ▸ q6, q7⟩
  refine GoH.eq (ef_rmT m p1 p2 p3) ?_
  have hws : ∀ d ∈ StrChars.Road.words, d.before a0 Z = true := fun d hd => hw d ((by decide +kernel : ∀ d ∈ StrChars.Road.words, d ∈ tables_1) d hd)
  show GoH _ _ _ _ _ _ _ _ _ _  s₁ (mkF m 0 #[.val (.int p1), .val (.int p2), .val (.int p3)] [])
  refine GoH.st (fun t k => XS.iloadN X0.here hx rfl (hb hby d2_0) rfl  k) ?_
  show GoH _ _ _ _ _ _ _ _ _ _  s₁ (mkF m 1 #[.val (.int p1), .val (.int p2), .val (.int p3)] [(.int p1)])
  by_cases c1_1 : p1 = (0 : Int32)
  · refine GoH.st (fun t k => XS.ifNo X0.here hx rfl (hb hby d2_1) rfl ((if0 _ _).trans (teq c1_1).2) k) ?_
    show GoH _ _ _ _ _ _ _ _ _ _  s₁ (mkF m 4 #[.val (.int p1), .val (.int p2), .val (.int p3)] [])
    obtain ⟨T2, h2, X2, e2, E2, A2, D2, -, st2⟩ := newO X0 hx hZ hown (hw _ (List.mem_of_getElem? (i := 13) rfl)) (hw _ (List.mem_of_getElem? (i := 14) rfl)) (hw _ (List.mem_of_getElem? (i := 15) rfl)) e0 (g := (mkF m 4 #[.val (.int p1), .val (.int p2), .val (.int p3)] [])) rfl (hb hby d2_4) (by decide) (by decide)
    obtain ⟨b2, g2⟩ : ∃ z, z = h0.size := ⟨_, rfl⟩
    rw [← g2] at A2 D2 st2
    refine GoH.st st2 ?_
    have g_b2 : n0 ≤ b2 := by rw [g2]; exact own_le O
    have Sf_b2 : Safe Z EL s.vm h0 b2 := Safe.new (Nat.le_of_eq g2.symm)
    have sz_b2 : h0.size ≤ b2 := by rw [g2]; exact KK.1
    have Sf_b2 := Safe.ext E2 HH Sf_b2
    have RR := RR.trans (CHr.ext E2 HH)
    have HH := HH.ext E2
    have hk := Nat.le_trans hk E2.1
    have O := O.ext E2
    have KK := KK.ext E2
    have E_b2 := A2
    have F_coder_b2 : Fld Z h2 b2 "java/lang/String" "coder" "B" (.int (0 : Int32)) := D2 (Or.inr (hw _ (List.mem_of_getElem? (i := 40) rfl))) (ty := .byte) (by decide)
    have F_value_b2 : Fld Z h2 b2 "java/lang/String" "value" "[B" .null := D2 (Or.inr (hw _ (List.mem_of_getElem? (i := 42) rfl))) (ty := (.array .byte)) (by decide)
    show GoH _ _ _ _ _ _ _ _ _ _  T2 (mkF m 7 #[.val (.int p1), .val (.int p2), .val (.int p3)] [(.ref b2)])
    refine GoH.st (fun t k => XS.dup X2.here hx rfl (hb hby d2_7) rfl rfl k) ?_
    show GoH _ _ _ _ _ _ _ _ _ _  T2 (mkF m 8 #[.val (.int p1), .val (.int p2), .val (.int p3)] [(.ref b2), (.ref b2)])
    refine GoH.st (fun t k => XS.iconst X2.here hx rfl (hb hby d2_8) k) ?_
    show GoH _ _ _ _ _ _ _ _ _ _  T2 (mkF m 9 #[.val (.int p1), .val (.int p2), .val (.int p3)] [(.int (0 : Int32)), (.ref b2), (.ref b2)])
    obtain ⟨T3, h3, k3, X3, e3, E3, A3, st3⟩ := newP X2 hx hZ (hw _ (List.mem_of_getElem? (i := 16) rfl)) e2 (g := (mkF m 9 #[.val (.int p1), .val (.int p2), .val (.int p3)] [(.int (0 : Int32)), (.ref b2), (.ref b2)])) rfl (hb hby d2_9) rfl (by decide) (cap := 0) (by decide) (by decide) (by decide) (by decide)
    obtain ⟨b3, g3⟩ : ∃ z, z = h2.size := ⟨_, rfl⟩
    rw [← g3] at A3 st3
    refine GoH.st st3 ?_
    have g_b3 : n0 ≤ b3 := by rw [g3]; exact own_le O
    have Sf_b3 : Safe Z EL s.vm h2 b3 := Safe.new (Nat.le_of_eq g3.symm)
    have sz_b3 : h0.size ≤ b3 := by rw [g3]; exact KK.1
    have ne_b2_b3 : b2 ≠ b3 := Nat.ne_of_lt (by rw [g3]; exact E_b2.lt)
    have E_b2 := E_b2.ext E3
    have F_coder_b2 := F_coder_b2.ext E3
    have F_value_b2 := F_value_b2.ext E3
    have Sf_b2 := Safe.ext E3 HH Sf_b2
    have Sf_b3 := Safe.ext E3 HH Sf_b3
    have RR := RR.trans (CHr.ext E3 HH)
    have HH := HH.ext E3
    have hk := Nat.le_trans hk E3.1
    have O := O.ext E3
    have KK := KK.ext E3
    have V_b3 : Arv Z h3 b3 k3 .char (0 : Int32) [] (.int (0 : Int32)) := (Arv.new A3 (by decide)).pad (pad_rep [] (.int (0 : Int32)) 0)
    show GoH _ _ _ _ _ _ _ _ _ _  T3 (mkF m 11 #[.val (.int p1), .val (.int p2), .val (.int p3)] [(.ref b3), (.ref b2), (.ref b2)])
    obtain ⟨_, _, ⟨T4, L4, k4, n4⟩, -, X4, hSn4, hgn4, ⟨Lc4, hQ4, l4, y4, z4, CR4⟩, st4⟩ := X3.specialBackS hx (y := (⟨"java/lang/String", "<init>", "([C)V"⟩ : MethodName)) rfl hown (mvT hZ (hw _ (List.mem_of_getElem? (i := 17) rfl))) (mvT hZ (hw _ (List.mem_of_getElem? (i := 18) rfl))) (mvT hZ (hw _ (List.mem_of_getElem? (i := 19) rfl))) (by decide) (own_backSH (sf := [b2]) (W := 1) (rmE l Z a0 hw [] b2 b3 .null (.int (0 : Int32)) k3 h3 n0 O hEL wS E_b2 F_value_b2 F_coder_b2 g_b2 V_b3 (Ne.symm ne_b2_b3)) hZ (hw _ (List.mem_of_getElem? (i := 19) rfl)) (hw _ (List.mem_of_getElem? (i := 15) rfl)) (by decide) (by decide) hEL HH (allS (P := fun x => Safe Z EL s.vm h3 x ∧ x < Array.size h3) ⟨Sf_b2, E_b2.lt⟩ all0)) (g := (mkF m 11 #[.val (.int p1), .val (.int p2), .val (.int p3)] [(.ref b3), (.ref b2), (.ref b2)])) rfl (by rw [hml]; rfl) (Steps.refl _) (a := b2) (argsL := [(.ref b3)]) (rest := [(.ref b2)]) (lenOf pd___C_V rfl) rfl (by show 2 * 0 + _ ≤ _; exact Nat.le_of_eq rfl) (hb hby d2_11) (fun _ _ => ⟨rfl, e3, (by decide : 2 + 4 ≤ _), (by decide : 4 + 8 ≤ _)⟩)
    dsimp only [Pt.U, Pt.locs, Pt.cells, Pt.slots] at X4 l4 y4 z4 st4 hQ4 hSn4 hgn4 CR4
    subst l4 y4 z4
    obtain ⟨rfl, N4q, K4q, Eq4, Cq4, t4, kt4, Vq4, Aq4⟩ := hQ4
    have X4 : Stand p l e _ (s.setVm T4.vm) m _ below meth c T4 _ _ _ := X4
    have N4 := Fr.app N0 N4q
    refine GoH.tr st4 ?_
    have hS4 := Jvm.RoadKit.foldS hS (by rw [e3]; exact hk) hSn4 hgn4
    have hZ4 := State.Warmed39.trans (t := s.setVm s.vm) hZ hSn4.1
    have hk4 := Nat.le_refl T4.heap.size
    have hown4 : T4.vm.findClass "com/example/nodewell/nodewell/query/TokenIsPinLaw" = some m.cls := by rw [hSn4.1.alike.findClass]; exact hown
    have Sf_b2 := CHr.safe CR4 E_b2.lt Sf_b2
    have Sf_b3 := CHr.safe CR4 V_b3.lt Sf_b3
    have E_b2 := E_b2.keep K4q
    have V_b3 := V_b3.keep K4q (ninS (Ne.symm ne_b2_b3) nin0)
    have O := O.keep K4q (allS g_b2 all0)
    have KK := KK.trans K4q (allS (Or.inr sz_b2) all0)
    have RR := RR.trans CR4
    have HH := CR4.1
    have hS := hS4
    have hk := hk4
    have hZ := hZ4
    have hown := hown4
    have E_b2 := Eq4
    show GoH _ _ _ _ _ _ _ _ _ _  T4 (mkF m 14 #[.val (.int p1), .val (.int p2), .val (.int p3)] [(.ref b2)])
    refine GoH.retR X4 hS hk rfl hZ hEL HH RR hlk hx Bd.returns rfl rfl rfl (hb hby d2_14) (by decide) (by decide) ?_
    show Q_rmT Z _ _ _ _ h0 n0 _ T4.heap _
    have tl : textL p1 p2 p3 = [] := by simp [textL, *]
    exact ⟨_, _, _, rfl, N4, own_ext0 KK, sz_b2, E_b2, Cq4, Vq4, by rw [tl]; exact Aq4⟩
  · refine GoH.st (fun t k => XS.ifYes X0.here hx rfl (pc0 := 1) (pc' := 15) rfl (hb hby d2_1) rfl ((if0 _ _).trans (feq c1_1).2) (by decide) (by decide) k) ?_
    show GoH _ _ _ _ _ _ _ _ _ _  s₁ (mkF m 15 #[.val (.int p1), .val (.int p2), .val (.int p3)] [])
    refine GoH.st (fun t k => XS.iloadN X0.here hx rfl (hb hby d2_15) rfl  k) ?_
    show GoH _ _ _ _ _ _ _ _ _ _  s₁ (mkF m 16 #[.val (.int p1), .val (.int p2), .val (.int p3)] [(.int p1)])
    refine GoH.st (fun t k => XS.iconst X0.here hx rfl (hb hby d2_16) k) ?_
    show GoH _ _ _ _ _ _ _ _ _ _  s₁ (mkF m 17 #[.val (.int p1), .val (.int p2), .val (.int p3)] [(.int (1 : Int32)), (.int p1)])
    by_cases c17_5 : p1 = (1 : Int32)
    · refine GoH.st (fun t k => XS.icmpNo X0.here hx rfl (hb hby d2_17) rfl (teq c17_5).2 k) ?_
      show GoH _ _ _ _ _ _ _ _ _ _  s₁ (mkF m 20 #[.val (.int p1), .val (.int p2), .val (.int p3)] [])
      obtain ⟨T6, h6, X6, e6, E6, A6, D6, -, st6⟩ := newO X0 hx hZ hown (hw _ (List.mem_of_getElem? (i := 13) rfl)) (hw _ (List.mem_of_getElem? (i := 14) rfl)) (hw _ (List.mem_of_getElem? (i := 15) rfl)) e0 (g := (mkF m 20 #[.val (.int p1), .val (.int p2), .val (.int p3)] [])) rfl (hb hby d2_20) (by decide) (by decide)
      obtain ⟨b6, g6⟩ : ∃ z, z = h0.size := ⟨_, rfl⟩
      rw [← g6] at A6 D6 st6
      refine GoH.st st6 ?_
      have g_b6 : n0 ≤ b6 := by rw [g6]; exact own_le O
      have Sf_b6 : Safe Z EL s.vm h0 b6 := Safe.new (Nat.le_of_eq g6.symm)
      have sz_b6 : h0.size ≤ b6 := by rw [g6]; exact KK.1
      have Sf_b6 := Safe.ext E6 HH Sf_b6
      have RR := RR.trans (CHr.ext E6 HH)
      have HH := HH.ext E6
      have hk := Nat.le_trans hk E6.1
      have O := O.ext E6
      have KK := KK.ext E6
      have E_b6 := A6
      have F_coder_b6 : Fld Z h6 b6 "java/lang/String" "coder" "B" (.int (0 : Int32)) := D6 (Or.inr (hw _ (List.mem_of_getElem? (i := 40) rfl))) (ty := .byte) (by decide)
      have F_value_b6 : Fld Z h6 b6 "java/lang/String" "value" "[B" .null := D6 (Or.inr (hw _ (List.mem_of_getElem? (i := 42) rfl))) (ty := (.array .byte)) (by decide)
      show GoH _ _ _ _ _ _ _ _ _ _  T6 (mkF m 23 #[.val (.int p1), .val (.int p2), .val (.int p3)] [(.ref b6)])
      refine GoH.st (fun t k => XS.dup X6.here hx rfl (hb hby d2_23) rfl rfl k) ?_
      show GoH _ _ _ _ _ _ _ _ _ _  T6 (mkF m 24 #[.val (.int p1), .val (.int p2), .val (.int p3)] [(.ref b6), (.ref b6)])
      refine GoH.st (fun t k => XS.iconst X6.here hx rfl (hb hby d2_24) k) ?_
      show GoH _ _ _ _ _ _ _ _ _ _  T6 (mkF m 25 #[.val (.int p1), .val (.int p2), .val (.int p3)] [(.int (1 : Int32)), (.ref b6), (.ref b6)])
      obtain ⟨T7, h7, k7, X7, e7, E7, A7, st7⟩ := newP X6 hx hZ (hw _ (List.mem_of_getElem? (i := 16) rfl)) e6 (g := (mkF m 25 #[.val (.int p1), .val (.int p2), .val (.int p3)] [(.int (1 : Int32)), (.ref b6), (.ref b6)])) rfl (hb hby d2_25) rfl (by decide) (cap := 1) (by decide) (by decide) (by decide) (by decide)
      obtain ⟨b7, g7⟩ : ∃ z, z = h6.size := ⟨_, rfl⟩
      rw [← g7] at A7 st7
      refine GoH.st st7 ?_
      have g_b7 : n0 ≤ b7 := by rw [g7]; exact own_le O
      have Sf_b7 : Safe Z EL s.vm h6 b7 := Safe.new (Nat.le_of_eq g7.symm)
      have sz_b7 : h0.size ≤ b7 := by rw [g7]; exact KK.1
      have ne_b6_b7 : b6 ≠ b7 := Nat.ne_of_lt (by rw [g7]; exact E_b6.lt)
      have E_b6 := E_b6.ext E7
      have F_coder_b6 := F_coder_b6.ext E7
      have F_value_b6 := F_value_b6.ext E7
      have Sf_b6 := Safe.ext E7 HH Sf_b6
      have Sf_b7 := Safe.ext E7 HH Sf_b7
      have RR := RR.trans (CHr.ext E7 HH)
      have HH := HH.ext E7
      have hk := Nat.le_trans hk E7.1
      have O := O.ext E7
      have KK := KK.ext E7
      have V_b7 : Arv Z h7 b7 k7 .char (1 : Int32) [(.int (0 : Int32))] (.int (0 : Int32)) := (Arv.new A7 (by decide)).pad (pad_rep [] (.int (0 : Int32)) 1)
      show GoH _ _ _ _ _ _ _ _ _ _  T7 (mkF m 27 #[.val (.int p1), .val (.int p2), .val (.int p3)] [(.ref b7), (.ref b6), (.ref b6)])
      refine GoH.st (fun t k => XS.dup X7.here hx rfl (hb hby d2_27) rfl rfl k) ?_
      show GoH _ _ _ _ _ _ _ _ _ _  T7 (mkF m 28 #[.val (.int p1), .val (.int p2), .val (.int p3)] [(.ref b7), (.ref b7), (.ref b6), (.ref b6)])
      refine GoH.st (fun t k => XS.iconst X7.here hx rfl (hb hby d2_28) k) ?_
      show GoH _ _ _ _ _ _ _ _ _ _  T7 (mkF m 29 #[.val (.int p1), .val (.int p2), .val (.int p3)] [(.int (0 : Int32)), (.ref b7), (.ref b7), (.ref b6), (.ref b6)])
      refine GoH.st (fun t k => XS.iloadN X7.here hx rfl (hb hby d2_29) rfl  k) ?_
      show GoH _ _ _ _ _ _ _ _ _ _  T7 (mkF m 30 #[.val (.int p1), .val (.int p2), .val (.int p3)] [(.int p2), (.int (0 : Int32)), (.ref b7), (.ref b7), (.ref b6), (.ref b6)])
      obtain ⟨cl8, Ar8, q8, S8, M8, Hh8, G8⟩ := V_b7
      obtain ⟨T9, h9, X9, e9, W9, st9⟩ := stC X7 hx hZ e7 Ar8 (j := (0 : Int32)) (inb_of S8 ⟨by decide, by decide⟩) (g := (mkF m 30 #[.val (.int p1), .val (.int p2), .val (.int p3)] [(.int p2), (.int (0 : Int32)), (.ref b7), (.ref b7), (.ref b6), (.ref b6)])) rfl rfl (hb hby d2_30)
      refine GoH.st st9 ?_
      have V_b7 : Arv Z h9 b7 k7 .char (1 : Int32) [(.int (nar .char p2))] (.int (0 : Int32)) := Arv.set Ar8 q8 S8 M8 Hh8 G8 (fits_nar_char _) W9 0 rfl (Nat.le_of_ble_eq_true rfl)
      have N9 := Fr.snoc X9 N0 g_b7
      have E_b6 := E_b6.wr W9
      have F_coder_b6 := F_coder_b6.other W9 (Or.inl ne_b6_b7)
      have F_value_b6 := F_value_b6.other W9 (Or.inl ne_b6_b7)
      have Sf_b6 := Safe.wr W9 Sf_b7 HH Sf_b6
      have Sf'_b7 := Safe.wr W9 Sf_b7 HH Sf_b7
      have RR := RR.trans (CHr.wr W9 Sf_b7 HH)
      have HH := HH.wr W9 Sf_b7
      have Sf_b7 := Sf'_b7
      have hk := Nat.le_trans hk (Nat.le_of_eq W9.size.symm)
      have O := O.wr W9 g_b7
      have KK := KK.wr W9 (Or.inr sz_b7)
      show GoH _ _ _ _ _ _ _ _ _ _  T9 (mkF m 31 #[.val (.int p1), .val (.int p2), .val (.int p3)] [(.ref b7), (.ref b6), (.ref b6)])
      have hp10 : ∀ c ∈ ([(nar .char p2)] : List Int32), ¬ c < 0 ∧ ¬ (255 : Int32) < c := (own_cons (P := fun c => ¬ c < 0 ∧ ¬ (255 : Int32) < c) hc2 own_nil)
      obtain ⟨_, _, ⟨T11, L11, k11, n11⟩, -, X11, ⟨Lc11, hQ11, l11, y11, z11⟩, st11⟩ := X9.specialBack hx (y := (⟨"java/lang/String", "<init>", "([C)V"⟩ : MethodName)) rfl hown (mvT hZ (hw _ (List.mem_of_getElem? (i := 17) rfl))) (mvT hZ (hw _ (List.mem_of_getElem? (i := 18) rfl))) (mvT hZ (hw _ (List.mem_of_getElem? (i := 19) rfl))) (by decide) (StrChars.Road.backV (W := 1) hZ hws (kI := 4) (hw _ (List.mem_of_getElem? (i := 14) rfl)) (cs := ([(nar .char p2)] : List Int32)) (bs := ([(nar .char p2)] : List Int32).map (fun c => c.toInt8.toInt32)) (n := 1) g_b6 (own_le O) E_b6 F_value_b6 F_coder_b6 V_b7 (S_COMPACT.ext O.2) hcs rfl rfl (by decide) (by decide) hp10 rfl (by decide) (by decide)) (g := (mkF m 31 #[.val (.int p1), .val (.int p2), .val (.int p3)] [(.ref b7), (.ref b6), (.ref b6)])) rfl (by rw [hml]; rfl) (Steps.refl _) (a := b6) (argsL := [(.ref b7)]) (rest := [(.ref b6)]) (lenOf pd___C_V rfl) rfl (by show 2 * 0 + _ ≤ _; exact Nat.le_of_eq rfl) (hb hby d2_31) (fun _ _ => ⟨rfl, e9, (by decide : 2 + 1 ≤ _), (by decide : 5 + 1 ≤ _)⟩)
      dsimp only [Pt.U, Pt.locs, Pt.cells, Pt.slots] at X11 l11 y11 z11 st11 hQ11
      subst l11 y11 z11
      obtain ⟨rfl, N11q, K11q, Eq11, Cq11, t11, kt11, gt11, lt11, nt11, Vq11, Aq11⟩ := hQ11
      have N11 := Fr.app N9 N11q
      refine GoH.tr st11 ?_
      have g_t11 : n0 ≤ t11 := Nat.le_trans (own_le O) lt11
      have Sf_t11 : Safe Z EL s.vm h9 t11 := Safe.new lt11
      have sz_t11 : h0.size ≤ t11 := Nat.le_trans KK.1 lt11
      have ne_b6_t11 : b6 ≠ t11 := Nat.ne_of_lt (Nat.lt_of_lt_of_le E_b6.lt lt11)
      have ne_b7_t11 : b7 ≠ t11 := Nat.ne_of_lt (Nat.lt_of_lt_of_le V_b7.lt lt11)
      have E_b6 := E_b6.keep K11q
      have V_b7 := V_b7.keep K11q (ninS (Ne.symm ne_b6_b7) nin0)
      have sfw11 := (sfS Sf_b6 sf0)
      have Sf_b6 := Safe.keep K11q sfw11 HH Sf_b6
      have Sf_b7 := Safe.keep K11q sfw11 HH Sf_b7
      have Sf_t11 := Safe.keep K11q sfw11 HH Sf_t11
      have RR := RR.trans (CHr.keep K11q sfw11 HH)
      have HH := HH.keep K11q sfw11
      have hk := Nat.le_trans hk K11q.1
      have O := O.keep K11q (allS g_b6 all0)
      have KK := KK.trans K11q (allS (Or.inr sz_b6) all0)
      have E_b6 := Eq11
      have ne_t11_b6 : t11 ≠ b6 := nt11
      show GoH _ _ _ _ _ _ _ _ _ _  T11 (mkF m 34 #[.val (.int p1), .val (.int p2), .val (.int p3)] [(.ref b6)])
      refine GoH.retR X11 hS hk rfl hZ hEL HH RR hlk hx Bd.returns rfl rfl rfl (hb hby d2_34) (by decide) (by decide) ?_
      show Q_rmT Z _ _ _ _ h0 n0 _ T11.heap _
      have tl : textL p1 p2 p3 = [(nar .char p2)] := by simp [textL, *]
      exact ⟨_, _, _, rfl, N11, own_ext0 KK, sz_b6, E_b6, Cq11, Vq11, by rw [tl]; exact Aq11⟩
    · refine GoH.st (fun t k => XS.icmpYes X0.here hx rfl (pc0 := 17) (pc' := 35) rfl (hb hby d2_17) rfl (feq c17_5).2 (by decide) (by decide) k) ?_
      show GoH _ _ _ _ _ _ _ _ _ _  s₁ (mkF m 35 #[.val (.int p1), .val (.int p2), .val (.int p3)] [])
      obtain ⟨T12, h12, X12, e12, E12, A12, D12, -, st12⟩ := newO X0 hx hZ hown (hw _ (List.mem_of_getElem? (i := 13) rfl)) (hw _ (List.mem_of_getElem? (i := 14) rfl)) (hw _ (List.mem_of_getElem? (i := 15) rfl)) e0 (g := (mkF m 35 #[.val (.int p1), .val (.int p2), .val (.int p3)] [])) rfl (hb hby d2_35) (by decide) (by decide)
      obtain ⟨b12, g12⟩ : ∃ z, z = h0.size := ⟨_, rfl⟩
      rw [← g12] at A12 D12 st12
      refine GoH.st st12 ?_
      have g_b12 : n0 ≤ b12 := by rw [g12]; exact own_le O
      have Sf_b12 : Safe Z EL s.vm h0 b12 := Safe.new (Nat.le_of_eq g12.symm)
      have sz_b12 : h0.size ≤ b12 := by rw [g12]; exact KK.1
      have Sf_b12 := Safe.ext E12 HH Sf_b12
      have RR := RR.trans (CHr.ext E12 HH)
      have HH := HH.ext E12
      have hk := Nat.le_trans hk E12.1
      have O := O.ext E12
      have KK := KK.ext E12
      have E_b12 := A12
      have F_coder_b12 : Fld Z h12 b12 "java/lang/String" "coder" "B" (.int (0 : Int32)) := D12 (Or.inr (hw _ (List.mem_of_getElem? (i := 40) rfl))) (ty := .byte) (by decide)
      have F_value_b12 : Fld Z h12 b12 "java/lang/String" "value" "[B" .null := D12 (Or.inr (hw _ (List.mem_of_getElem? (i := 42) rfl))) (ty := (.array .byte)) (by decide)
      show GoH _ _ _ _ _ _ _ _ _ _  T12 (mkF m 38 #[.val (.int p1), .val (.int p2), .val (.int p3)] [(.ref b12)])
      refine GoH.st (fun t k => XS.dup X12.here hx rfl (hb hby d2_38) rfl rfl k) ?_
      show GoH _ _ _ _ _ _ _ _ _ _  T12 (mkF m 39 #[.val (.int p1), .val (.int p2), .val (.int p3)] [(.ref b12), (.ref b12)])
      refine GoH.st (fun t k => XS.iconst X12.here hx rfl (hb hby d2_39) k) ?_
      show GoH _ _ _ _ _ _ _ _ _ _  T12 (mkF m 40 #[.val (.int p1), .val (.int p2), .val (.int p3)] [(.int (2 : Int32)), (.ref b12), (.ref b12)])
      obtain ⟨T13, h13, k13, X13, e13, E13, A13, st13⟩ := newP X12 hx hZ (hw _ (List.mem_of_getElem? (i := 16) rfl)) e12 (g := (mkF m 40 #[.val (.int p1), .val (.int p2), .val (.int p3)] [(.int (2 : Int32)), (.ref b12), (.ref b12)])) rfl (hb hby d2_40) rfl (by decide) (cap := 2) (by decide) (by decide) (by decide) (by decide)
      obtain ⟨b13, g13⟩ : ∃ z, z = h12.size := ⟨_, rfl⟩
      rw [← g13] at A13 st13
      refine GoH.st st13 ?_
      have g_b13 : n0 ≤ b13 := by rw [g13]; exact own_le O
      have Sf_b13 : Safe Z EL s.vm h12 b13 := Safe.new (Nat.le_of_eq g13.symm)
      have sz_b13 : h0.size ≤ b13 := by rw [g13]; exact KK.1
      have ne_b12_b13 : b12 ≠ b13 := Nat.ne_of_lt (by rw [g13]; exact E_b12.lt)
      have E_b12 := E_b12.ext E13
      have F_coder_b12 := F_coder_b12.ext E13
      have F_value_b12 := F_value_b12.ext E13
      have Sf_b12 := Safe.ext E13 HH Sf_b12
      have Sf_b13 := Safe.ext E13 HH Sf_b13
      have RR := RR.trans (CHr.ext E13 HH)
      have HH := HH.ext E13
      have hk := Nat.le_trans hk E13.1
      have O := O.ext E13
      have KK := KK.ext E13
      have V_b13 : Arv Z h13 b13 k13 .char (2 : Int32) [(.int (0 : Int32)), (.int (0 : Int32))] (.int (0 : Int32)) := (Arv.new A13 (by decide)).pad (pad_rep [] (.int (0 : Int32)) 2)
      show GoH _ _ _ _ _ _ _ _ _ _  T13 (mkF m 42 #[.val (.int p1), .val (.int p2), .val (.int p3)] [(.ref b13), (.ref b12), (.ref b12)])
      refine GoH.st (fun t k => XS.dup X13.here hx rfl (hb hby d2_42) rfl rfl k) ?_
      show GoH _ _ _ _ _ _ _ _ _ _  T13 (mkF m 43 #[.val (.int p1), .val (.int p2), .val (.int p3)] [(.ref b13), (.ref b13), (.ref b12), (.ref b12)])
      refine GoH.st (fun t k => XS.iconst X13.here hx rfl (hb hby d2_43) k) ?_
      show GoH _ _ _ _ _ _ _ _ _ _  T13 (mkF m 44 #[.val (.int p1), .val (.int p2), .val (.int p3)] [(.int (0 : Int32)), (.ref b13), (.ref b13), (.ref b12), (.ref b12)])
      refine GoH.st (fun t k => XS.iloadN X13.here hx rfl (hb hby d2_44) rfl  k) ?_
      show GoH _ _ _ _ _ _ _ _ _ _  T13 (mkF m 45 #[.val (.int p1), .val (.int p2), .val (.int p3)] [(.int p2), (.int (0 : Int32)), (.ref b13), (.ref b13), (.ref b12), (.ref b12)])
      obtain ⟨cl14, Ar14, q14, S14, M14, Hh14, G14⟩ := V_b13
      obtain ⟨T15, h15, X15, e15, W15, st15⟩ := stC X13 hx hZ e13 Ar14 (j := (0 : Int32)) (inb_of S14 ⟨by decide, by decide⟩) (g := (mkF m 45 #[.val (.int p1), .val (.int p2), .val (.int p3)] [(.int p2), (.int (0 : Int32)), (.ref b13), (.ref b13), (.ref b12), (.ref b12)])) rfl rfl (hb hby d2_45)
      refine GoH.st st15 ?_
      have V_b13 : Arv Z h15 b13 k13 .char (2 : Int32) [(.int (nar .char p2)), (.int (0 : Int32))] (.int (0 : Int32)) := Arv.set Ar14 q14 S14 M14 Hh14 G14 (fits_nar_char _) W15 0 rfl (Nat.le_of_ble_eq_true rfl)
      have N15 := Fr.snoc X15 N0 g_b13
      have E_b12 := E_b12.wr W15
      have F_coder_b12 := F_coder_b12.other W15 (Or.inl ne_b12_b13)
      have F_value_b12 := F_value_b12.other W15 (Or.inl ne_b12_b13)
      have Sf_b12 := Safe.wr W15 Sf_b13 HH Sf_b12
      have Sf'_b13 := Safe.wr W15 Sf_b13 HH Sf_b13
      have RR := RR.trans (CHr.wr W15 Sf_b13 HH)
      have HH := HH.wr W15 Sf_b13
      have Sf_b13 := Sf'_b13
      have hk := Nat.le_trans hk (Nat.le_of_eq W15.size.symm)
      have O := O.wr W15 g_b13
      have KK := KK.wr W15 (Or.inr sz_b13)
      show GoH _ _ _ _ _ _ _ _ _ _  T15 (mkF m 46 #[.val (.int p1), .val (.int p2), .val (.int p3)] [(.ref b13), (.ref b12), (.ref b12)])
      refine GoH.st (fun t k => XS.dup X15.here hx rfl (hb hby d2_46) rfl rfl k) ?_
      show GoH _ _ _ _ _ _ _ _ _ _  T15 (mkF m 47 #[.val (.int p1), .val (.int p2), .val (.int p3)] [(.ref b13), (.ref b13), (.ref b12), (.ref b12)])
      refine GoH.st (fun t k => XS.iconst X15.here hx rfl (hb hby d2_47) k) ?_
      show GoH _ _ _ _ _ _ _ _ _ _  T15 (mkF m 48 #[.val (.int p1), .val (.int p2), .val (.int p3)] [(.int (1 : Int32)), (.ref b13), (.ref b13), (.ref b12), (.ref b12)])
      refine GoH.st (fun t k => XS.iloadN X15.here hx rfl (hb hby d2_48) rfl  k) ?_
      show GoH _ _ _ _ _ _ _ _ _ _  T15 (mkF m 49 #[.val (.int p1), .val (.int p2), .val (.int p3)] [(.int p3), (.int (1 : Int32)), (.ref b13), (.ref b13), (.ref b12), (.ref b12)])
      obtain ⟨cl16, Ar16, q16, S16, M16, Hh16, G16⟩ := V_b13
      obtain ⟨T17, h17, X17, e17, W17, st17⟩ := stC X15 hx hZ e15 Ar16 (j := (1 : Int32)) (inb_of S16 ⟨by decide, by decide⟩) (g := (mkF m 49 #[.val (.int p1), .val (.int p2), .val (.int p3)] [(.int p3), (.int (1 : Int32)), (.ref b13), (.ref b13), (.ref b12), (.ref b12)])) rfl rfl (hb hby d2_49)
      refine GoH.st st17 ?_
      have V_b13 : Arv Z h17 b13 k13 .char (2 : Int32) [(.int (nar .char p2)), (.int (nar .char p3))] (.int (0 : Int32)) := Arv.set Ar16 q16 S16 M16 Hh16 G16 (fits_nar_char _) W17 1 rfl (Nat.le_of_ble_eq_true rfl)
      have N17 := Fr.snoc X17 N15 g_b13
      have E_b12 := E_b12.wr W17
      have F_coder_b12 := F_coder_b12.other W17 (Or.inl ne_b12_b13)
      have F_value_b12 := F_value_b12.other W17 (Or.inl ne_b12_b13)
      have Sf_b12 := Safe.wr W17 Sf_b13 HH Sf_b12
      have Sf'_b13 := Safe.wr W17 Sf_b13 HH Sf_b13
      have RR := RR.trans (CHr.wr W17 Sf_b13 HH)
      have HH := HH.wr W17 Sf_b13
      have Sf_b13 := Sf'_b13
      have hk := Nat.le_trans hk (Nat.le_of_eq W17.size.symm)
      have O := O.wr W17 g_b13
      have KK := KK.wr W17 (Or.inr sz_b13)
      show GoH _ _ _ _ _ _ _ _ _ _  T17 (mkF m 50 #[.val (.int p1), .val (.int p2), .val (.int p3)] [(.ref b13), (.ref b12), (.ref b12)])
      have hp18 : ∀ c ∈ ([(nar .char p2), (nar .char p3)] : List Int32), ¬ c < 0 ∧ ¬ (255 : Int32) < c := (own_cons (P := fun c => ¬ c < 0 ∧ ¬ (255 : Int32) < c) hc2 (own_cons (P := fun c => ¬ c < 0 ∧ ¬ (255 : Int32) < c) hc3 own_nil))
      obtain ⟨_, _, ⟨T19, L19, k19, n19⟩, -, X19, ⟨Lc19, hQ19, l19, y19, z19⟩, st19⟩ := X17.specialBack hx (y := (⟨"java/lang/String", "<init>", "([C)V"⟩ : MethodName)) rfl hown (mvT hZ (hw _ (List.mem_of_getElem? (i := 17) rfl))) (mvT hZ (hw _ (List.mem_of_getElem? (i := 18) rfl))) (mvT hZ (hw _ (List.mem_of_getElem? (i := 19) rfl))) (by decide) (StrChars.Road.backV (W := 1) hZ hws (kI := 4) (hw _ (List.mem_of_getElem? (i := 14) rfl)) (cs := ([(nar .char p2), (nar .char p3)] : List Int32)) (bs := ([(nar .char p2), (nar .char p3)] : List Int32).map (fun c => c.toInt8.toInt32)) (n := 2) g_b12 (own_le O) E_b12 F_value_b12 F_coder_b12 V_b13 (S_COMPACT.ext O.2) hcs rfl rfl (by decide) (by decide) hp18 rfl (by decide) (by decide)) (g := (mkF m 50 #[.val (.int p1), .val (.int p2), .val (.int p3)] [(.ref b13), (.ref b12), (.ref b12)])) rfl (by rw [hml]; rfl) (Steps.refl _) (a := b12) (argsL := [(.ref b13)]) (rest := [(.ref b12)]) (lenOf pd___C_V rfl) rfl (by show 2 * 0 + _ ≤ _; exact Nat.le_of_eq rfl) (hb hby d2_50) (fun _ _ => ⟨rfl, e17, (by decide : 2 + 1 ≤ _), (by decide : 6 + 2 ≤ _)⟩)
      dsimp only [Pt.U, Pt.locs, Pt.cells, Pt.slots] at X19 l19 y19 z19 st19 hQ19
      subst l19 y19 z19
      obtain ⟨rfl, N19q, K19q, Eq19, Cq19, t19, kt19, gt19, lt19, nt19, Vq19, Aq19⟩ := hQ19
      have N19 := Fr.app N17 N19q
      refine GoH.tr st19 ?_
      have g_t19 : n0 ≤ t19 := Nat.le_trans (own_le O) lt19
      have Sf_t19 : Safe Z EL s.vm h17 t19 := Safe.new lt19
      have sz_t19 : h0.size ≤ t19 := Nat.le_trans KK.1 lt19
      have ne_b12_t19 : b12 ≠ t19 := Nat.ne_of_lt (Nat.lt_of_lt_of_le E_b12.lt lt19)
      have ne_b13_t19 : b13 ≠ t19 := Nat.ne_of_lt (Nat.lt_of_lt_of_le V_b13.lt lt19)
      have E_b12 := E_b12.keep K19q
      have V_b13 := V_b13.keep K19q (ninS (Ne.symm ne_b12_b13) nin0)
      have sfw19 := (sfS Sf_b12 sf0)
      have Sf_b12 := Safe.keep K19q sfw19 HH Sf_b12
      have Sf_b13 := Safe.keep K19q sfw19 HH Sf_b13
      have Sf_t19 := Safe.keep K19q sfw19 HH Sf_t19
      have RR := RR.trans (CHr.keep K19q sfw19 HH)
      have HH := HH.keep K19q sfw19
      have hk := Nat.le_trans hk K19q.1
      have O := O.keep K19q (allS g_b12 all0)
      have KK := KK.trans K19q (allS (Or.inr sz_b12) all0)
      have E_b12 := Eq19
      have ne_t19_b12 : t19 ≠ b12 := nt19
      show GoH _ _ _ _ _ _ _ _ _ _  T19 (mkF m 53 #[.val (.int p1), .val (.int p2), .val (.int p3)] [(.ref b12)])
      refine GoH.retR X19 hS hk rfl hZ hEL HH RR hlk hx Bd.returns rfl rfl rfl (hb hby d2_53) (by decide) (by decide) ?_
      show Q_rmT Z _ _ _ _ h0 n0 _ T19.heap _
      have tl : textL p1 p2 p3 = [(nar .char p2), (nar .char p3)] := by simp [textL, *]
      exact ⟨_, _, _, rfl, N19, own_ext0 KK, sz_b12, E_b12, Cq19, Vq19, by rw [tl]; exact Aq19⟩
def Q_rmR (Z : State) (a1 : Addr) (h0 : Heap) (n0 : Nat) (v : Option Value) (h : Heap) (L : List Loc) : Prop := v = none ∧ Fr n0 L ∧ h = h0
set_option maxRecDepth 65536 in
set_option maxHeartbeats 40000000 in
theorem rmR (l : Launch) (Z : State) (a0 : Array Value) (hw : ∀ d ∈ tables_1, d.before a0 Z = true) (ws : List Jvm.Cond) (a1 : Addr) (h0 : Heap) (n0 : Nat) (O : Old Z n0 h0) :
    MetFree l (⟨"java/lang/Record", "<init>", "()V"⟩ : MethodName) (head1 (Jvm.Cond.code (⟨"java/lang/Record", "<init>", "()V"⟩ : MethodName) jdk_30_method_1_code 1 none :: ws) ({ frames := 1, cells := 0, slots := 0, locals := 12 } : Room)) (fun a U => a = #[(.ref a1)] ∧ Z.Warmed39 U.vm ∧ U.heap = h0) (fun _ _ _ _ _ => True) (fun _ U o U' => ∃ v L, o = .returned v ∧ Q_rmR Z a1 h0 n0 v U'.heap L ∧ FrameEnd U o U' L ({ frames := 1, cells := 0, slots := 0, locals := 12 } : Room).cells ({ frames := 1, cells := 0, slots := 0, locals := 12 } : Room).slots) := by
  refine MetFree.of_bodySF (plainFor_of_name pn_10) hisR ?_
  intro p e s m args below meth c s₁ Bd hml0 hP hK
  obtain ⟨rfl, hZ, hh⟩ := hP
  have hx := Bd.exec
  have hby := Bd.bytes
  have hml : c.maxLocals = 1 := hml0
  have hown : s.vm.findClass "java/lang/Record" = some m.cls := findClass_of_methodNamed Bd.named
  have hnm := (name_of_methodNamed Bd.named Bd.method).1
  have hlk : meth.locks = false := BodyLoose.notSynchronized Bd
  have X0 : Stand p l e ({ frames := 1, cells := 0, slots := 0, locals := 12 } : Room) s m #[(.ref a1)] below meth c s₁ [] 0 0 := Stand.of_body Bd
  have e0 : s₁.heap = h0 := by rw [← hh, Bd.state]; rfl
  have N0 := Fr.nil n0
  show Go p e below s ({ frames := 1, cells := 0, slots := 0, locals := 12 } : Room).cells ({ frames := 1, cells := 0, slots := 0, locals := 12 } : Room).slots (Q_rmR Z a1 h0 n0) s₁ (entryFrame m #[(.ref a1)] 1)
  refine Go.eq (ef_rmR m a1) ?_
  show Go _ _ _ _ _ _ _  s₁ (mkF m 0 #[.val (.ref a1)] [])
  refine Go.st (fun t k => XS.aloadN X0.here hx rfl (hb hby d10_0) rfl rfl  k) ?_
  show Go _ _ _ _ _ _ _  s₁ (mkF m 1 #[.val (.ref a1)] [(.ref a1)])
  obtain ⟨T1, X1, e1, st1⟩ := initO X0 hx hZ hown (hw _ (List.mem_of_getElem? (i := 51) rfl)) (hw _ (List.mem_of_getElem? (i := 25) rfl)) (hw _ (List.mem_of_getElem? (i := 26) rfl)) e0 (g := (mkF m 1 #[.val (.ref a1)] [(.ref a1)])) rfl (by rw [hml]; rfl) rfl (hb hby d10_1) (by decide) (W := 0) (by show 2 * 0 + _ ≤ _; exact Nat.le_of_eq rfl) (by decide)
  refine Go.st st1 ?_
  show Go _ _ _ _ _ _ _  T1 (mkF m 4 #[.val (.ref a1)] [])
  refine Go.ret0 X1 hlk hx Bd.returns (hb hby d10_4) (by decide) (by decide) ?_
  show Q_rmR Z _ h0 n0 _ T1.heap _
  rw [e1]
  exact ⟨rfl, N0, rfl⟩
def Q_rmV (Z : State) (a1 : Addr) (a2 : Addr) (a3 : Addr) (p4 : Int32) (p5 : Int32) (h0 : Heap) (n0 : Nat) (v : Option Value) (h : Heap) (L : List Loc) : Prop := v = none ∧ Fr n0 L ∧ Keep h0 h [a1] ∧ Exa Z h a1 "com/example/nodewell/nodewell/query/Token" ∧ Fld Z h a1 "com/example/nodewell/nodewell/query/Token" "kind" "Lcom/example/nodewell/nodewell/query/Token$Kind;" (.ref a2) ∧ Fld Z h a1 "com/example/nodewell/nodewell/query/Token" "text" "Ljava/lang/String;" (.ref a3)
set_option maxRecDepth 65536 in
set_option maxHeartbeats 40000000 in
theorem rmV (l : Launch) (Z : State) (a0 : Array Value) (hw : ∀ d ∈ tables_1, d.before a0 Z = true) (ws : List Jvm.Cond) (a1 : Addr) (a2 : Addr) (a3 : Addr) (p4 : Int32) (p5 : Int32) (h0 : Heap) (n0 : Nat) (O : Old Z n0 h0) (E_a1 : Exa Z h0 a1 "com/example/nodewell/nodewell/query/Token") (F_kind_a1 : Fld Z h0 a1 "com/example/nodewell/nodewell/query/Token" "kind" "Lcom/example/nodewell/nodewell/query/Token$Kind;" .null) (F_text_a1 : Fld Z h0 a1 "com/example/nodewell/nodewell/query/Token" "text" "Ljava/lang/String;" .null) (F_start_a1 : Fld Z h0 a1 "com/example/nodewell/nodewell/query/Token" "start" "I" (.int (0 : Int32))) (F_end_a1 : Fld Z h0 a1 "com/example/nodewell/nodewell/query/Token" "end" "I" (.int (0 : Int32))) (g_a1 : n0 ≤ a1) :
    MetFree l (⟨"com/example/nodewell/nodewell/query/Token", "<init>", "(Lcom/example/nodewell/nodewell/query/Token$Kind;Ljava/lang/String;II)V"⟩ : MethodName) (head1 (Jvm.Cond.code (⟨"com/example/nodewell/nodewell/query/Token", "<init>", "(Lcom/example/nodewell/nodewell/query/Token$Kind;Ljava/lang/String;II)V"⟩ : MethodName) prog_64_method_1_code 5 none :: ws) ({ frames := 2, cells := 0, slots := 0, locals := 24 } : Room)) (fun a U => a = #[(.ref a1), (.ref a2), (.ref a3), (.int p4), (.int p5)] ∧ Z.Warmed39 U.vm ∧ U.heap = h0) (fun _ _ _ _ _ => True) (fun _ U o U' => ∃ v L, o = .returned v ∧ Q_rmV Z a1 a2 a3 p4 p5 h0 n0 v U'.heap L ∧ FrameEnd U o U' L ({ frames := 2, cells := 0, slots := 0, locals := 24 } : Room).cells ({ frames := 2, cells := 0, slots := 0, locals := 24 } : Room).slots) := by
  refine MetFree.of_bodySF (plainFor_of_name pn_9) hisR ?_
  intro p e s m args below meth c s₁ Bd hml0 hP hK
  obtain ⟨rfl, hZ, hh⟩ := hP
  have hx := Bd.exec
  have hby := Bd.bytes
  have hml : c.maxLocals = 5 := hml0
  have hown : s.vm.findClass "com/example/nodewell/nodewell/query/Token" = some m.cls := findClass_of_methodNamed Bd.named
  have hnm := (name_of_methodNamed Bd.named Bd.method).1
  have hlk : meth.locks = false := BodyLoose.notSynchronized Bd
  have X0 : Stand p l e ({ frames := 2, cells := 0, slots := 0, locals := 24 } : Room) s m #[(.ref a1), (.ref a2), (.ref a3), (.int p4), (.int p5)] below meth c s₁ [] 0 0 := Stand.of_body Bd
  have e0 : s₁.heap = h0 := by rw [← hh, Bd.state]; rfl
  have N0 := Fr.nil n0
  have KK : Keep h0 h0 [a1] := Keep.refl h0 _
  show Go p e below s ({ frames := 2, cells := 0, slots := 0, locals := 24 } : Room).cells ({ frames := 2, cells := 0, slots := 0, locals := 24 } : Room).slots (Q_rmV Z a1 a2 a3 p4 p5 h0 n0) s₁ (entryFrame m #[(.ref a1), (.ref a2), (.ref a3), (.int p4), (.int p5)] 5)
  refine Go.eq (ef_rmV m a1 a2 a3 p4 p5) ?_
  show Go _ _ _ _ _ _ _  s₁ (mkF m 0 #[.val (.ref a1), .val (.ref a2), .val (.ref a3), .val (.int p4), .val (.int p5)] [])
  refine Go.st (fun t k => XS.aloadN X0.here hx rfl (hb hby d9_0) rfl rfl  k) ?_
  show Go _ _ _ _ _ _ _  s₁ (mkF m 1 #[.val (.ref a1), .val (.ref a2), .val (.ref a3), .val (.int p4), .val (.int p5)] [(.ref a1)])
  obtain ⟨_, _, ⟨T1, L1, k1, n1⟩, -, X1, ⟨Lc1, hQ1, l1, y1, z1⟩, st1⟩ := X0.specialBack hx (y := (⟨"java/lang/Record", "<init>", "()V"⟩ : MethodName)) rfl hown (mvT hZ (hw _ (List.mem_of_getElem? (i := 46) rfl))) (mvT hZ (hw _ (List.mem_of_getElem? (i := 47) rfl))) (mvT hZ (hw _ (List.mem_of_getElem? (i := 50) rfl))) (by decide) (backOf (W := 0) (rmR l Z a0 hw [] a1 h0 n0 O) hZ (hw _ (List.mem_of_getElem? (i := 50) rfl)) (hw _ (List.mem_of_getElem? (i := 49) rfl)) (by decide) (by decide)) (g := (mkF m 1 #[.val (.ref a1), .val (.ref a2), .val (.ref a3), .val (.int p4), .val (.int p5)] [(.ref a1)])) rfl (by rw [hml]; rfl) (Steps.refl _) (a := a1) (argsL := []) (rest := []) (lenOf pd___V rfl) rfl (by show 2 * 0 + _ ≤ _; exact Nat.le_of_eq rfl) (hb hby d9_1) (fun _ _ => ⟨rfl, e0, (by decide : 0 + 0 ≤ _), (by decide : 0 + 0 ≤ _)⟩)
  dsimp only [Pt.U, Pt.locs, Pt.cells, Pt.slots] at X1 l1 y1 z1 st1 hQ1
  subst l1 y1 z1
  obtain ⟨rfl, N1q, e1q⟩ := hQ1
  have N1 := Fr.app N0 N1q
  refine Go.tr st1 ?_
  show Go _ _ _ _ _ _ _  T1 (mkF m 4 #[.val (.ref a1), .val (.ref a2), .val (.ref a3), .val (.int p4), .val (.int p5)] [])
  refine Go.st (fun t k => XS.aloadN X1.here hx rfl (hb hby d9_4) rfl rfl  k) ?_
  show Go _ _ _ _ _ _ _  T1 (mkF m 5 #[.val (.ref a1), .val (.ref a2), .val (.ref a3), .val (.int p4), .val (.int p5)] [(.ref a1)])
  refine Go.st (fun t k => XS.aloadN X1.here hx rfl (hb hby d9_5) rfl rfl  k) ?_
  show Go _ _ _ _ _ _ _  T1 (mkF m 6 #[.val (.ref a1), .val (.ref a2), .val (.ref a3), .val (.int p4), .val (.int p5)] [(.ref a2), (.ref a1)])
  obtain ⟨T2, h2, X2, e2, W2, st2⟩ := putF X1 hx hZ hown (host := "") (Or.inl (hw _ (List.mem_of_getElem? (i := 52) rfl))) Via.refl e1q F_kind_a1 E_a1 (Or.inr ⟨(hw _ (List.mem_of_getElem? (i := 53) rfl)), rfl, hnm⟩) (hw _ (List.mem_of_getElem? (i := 1) rfl)) (ty := (.object "com/example/nodewell/nodewell/query/Token$Kind")) (by decide) rfl rfl (g := (mkF m 6 #[.val (.ref a1), .val (.ref a2), .val (.ref a3), .val (.int p4), .val (.int p5)] [(.ref a2), (.ref a1)])) rfl rfl (hb hby d9_6)
  refine Go.st st2 ?_
  have F_kind_a1 : Fld Z h2 a1 "com/example/nodewell/nodewell/query/Token" "kind" "Lcom/example/nodewell/nodewell/query/Token$Kind;" (.ref a2) := F_kind_a1.same W2
  have N2 := Fr.snoc X2 N1 g_a1
  have E_a1 := E_a1.wr W2
  have F_text_a1 := F_text_a1.other W2 (Or.inr (slot_ne (Or.inr (hw _ (List.mem_of_getElem? (i := 55) rfl))) (Or.inr (hw _ (List.mem_of_getElem? (i := 53) rfl))) (by decide) (t := (.object "java/lang/String")) (t' := (.object "com/example/nodewell/nodewell/query/Token$Kind")) (by decide) (by decide)))
  have F_start_a1 := F_start_a1.other W2 (Or.inr (slot_ne (Or.inr (hw _ (List.mem_of_getElem? (i := 57) rfl))) (Or.inr (hw _ (List.mem_of_getElem? (i := 53) rfl))) (by decide) (t := .int) (t' := (.object "com/example/nodewell/nodewell/query/Token$Kind")) (by decide) (by decide)))
  have F_end_a1 := F_end_a1.other W2 (Or.inr (slot_ne (Or.inr (hw _ (List.mem_of_getElem? (i := 59) rfl))) (Or.inr (hw _ (List.mem_of_getElem? (i := 53) rfl))) (by decide) (t := .int) (t' := (.object "com/example/nodewell/nodewell/query/Token$Kind")) (by decide) (by decide)))
  have O := O.wr W2 g_a1
  have KK := KK.wr W2 (Or.inl (List.mem_of_getElem? (i := 0) rfl))
  show Go _ _ _ _ _ _ _  T2 (mkF m 9 #[.val (.ref a1), .val (.ref a2), .val (.ref a3), .val (.int p4), .val (.int p5)] [])
  refine Go.st (fun t k => XS.aloadN X2.here hx rfl (hb hby d9_9) rfl rfl  k) ?_
  show Go _ _ _ _ _ _ _  T2 (mkF m 10 #[.val (.ref a1), .val (.ref a2), .val (.ref a3), .val (.int p4), .val (.int p5)] [(.ref a1)])
  refine Go.st (fun t k => XS.aloadN X2.here hx rfl (hb hby d9_10) rfl rfl  k) ?_
  show Go _ _ _ _ _ _ _  T2 (mkF m 11 #[.val (.ref a1), .val (.ref a2), .val (.ref a3), .val (.int p4), .val (.int p5)] [(.ref a3), (.ref a1)])
  obtain ⟨T3, h3, X3, e3, W3, st3⟩ := putF X2 hx hZ hown (host := "") (Or.inl (hw _ (List.mem_of_getElem? (i := 54) rfl))) Via.refl e2 F_text_a1 E_a1 (Or.inr ⟨(hw _ (List.mem_of_getElem? (i := 55) rfl)), rfl, hnm⟩) (hw _ (List.mem_of_getElem? (i := 1) rfl)) (ty := (.object "java/lang/String")) (by decide) rfl rfl (g := (mkF m 11 #[.val (.ref a1), .val (.ref a2), .val (.ref a3), .val (.int p4), .val (.int p5)] [(.ref a3), (.ref a1)])) rfl rfl (hb hby d9_11)
  refine Go.st st3 ?_
  have F_text_a1 : Fld Z h3 a1 "com/example/nodewell/nodewell/query/Token" "text" "Ljava/lang/String;" (.ref a3) := F_text_a1.same W3
  have N3 := Fr.snoc X3 N2 g_a1
  have E_a1 := E_a1.wr W3
  have F_kind_a1 := F_kind_a1.other W3 (Or.inr (slot_ne (Or.inr (hw _ (List.mem_of_getElem? (i := 53) rfl))) (Or.inr (hw _ (List.mem_of_getElem? (i := 55) rfl))) (by decide) (t := (.object "com/example/nodewell/nodewell/query/Token$Kind")) (t' := (.object "java/lang/String")) (by decide) (by decide)))
  have F_start_a1 := F_start_a1.other W3 (Or.inr (slot_ne (Or.inr (hw _ (List.mem_of_getElem? (i := 57) rfl))) (Or.inr (hw _ (List.mem_of_getElem? (i := 55) rfl))) (by decide) (t := .int) (t' := (.object "java/lang/String")) (by decide) (by decide)))
  have F_end_a1 := F_end_a1.other W3 (Or.inr (slot_ne (Or.inr (hw _ (List.mem_of_getElem? (i := 59) rfl))) (Or.inr (hw _ (List.mem_of_getElem? (i := 55) rfl))) (by decide) (t := .int) (t' := (.object "java/lang/String")) (by decide) (by decide)))
  have O := O.wr W3 g_a1
  have KK := KK.wr W3 (Or.inl (List.mem_of_getElem? (i := 0) rfl))
  show Go _ _ _ _ _ _ _  T3 (mkF m 14 #[.val (.ref a1), .val (.ref a2), .val (.ref a3), .val (.int p4), .val (.int p5)] [])
  refine Go.st (fun t k => XS.aloadN X3.here hx rfl (hb hby d9_14) rfl rfl  k) ?_
  show Go _ _ _ _ _ _ _  T3 (mkF m 15 #[.val (.ref a1), .val (.ref a2), .val (.ref a3), .val (.int p4), .val (.int p5)] [(.ref a1)])
  refine Go.st (fun t k => XS.iloadN X3.here hx rfl (hb hby d9_15) rfl  k) ?_
  show Go _ _ _ _ _ _ _  T3 (mkF m 16 #[.val (.ref a1), .val (.ref a2), .val (.ref a3), .val (.int p4), .val (.int p5)] [(.int p4), (.ref a1)])
  obtain ⟨T4, h4, X4, e4, W4, st4⟩ := putF X3 hx hZ hown (host := "") (Or.inl (hw _ (List.mem_of_getElem? (i := 56) rfl))) Via.refl e3 F_start_a1 E_a1 (Or.inr ⟨(hw _ (List.mem_of_getElem? (i := 57) rfl)), rfl, hnm⟩) (hw _ (List.mem_of_getElem? (i := 1) rfl)) (ty := .int) (by decide) rfl rfl (g := (mkF m 16 #[.val (.ref a1), .val (.ref a2), .val (.ref a3), .val (.int p4), .val (.int p5)] [(.int p4), (.ref a1)])) rfl rfl (hb hby d9_16)
  refine Go.st st4 ?_
  have F_start_a1 : Fld Z h4 a1 "com/example/nodewell/nodewell/query/Token" "start" "I" (.int p4) := F_start_a1.same W4
  have N4 := Fr.snoc X4 N3 g_a1
  have E_a1 := E_a1.wr W4
  have F_kind_a1 := F_kind_a1.other W4 (Or.inr (slot_ne (Or.inr (hw _ (List.mem_of_getElem? (i := 53) rfl))) (Or.inr (hw _ (List.mem_of_getElem? (i := 57) rfl))) (by decide) (t := (.object "com/example/nodewell/nodewell/query/Token$Kind")) (t' := .int) (by decide) (by decide)))
  have F_text_a1 := F_text_a1.other W4 (Or.inr (slot_ne (Or.inr (hw _ (List.mem_of_getElem? (i := 55) rfl))) (Or.inr (hw _ (List.mem_of_getElem? (i := 57) rfl))) (by decide) (t := (.object "java/lang/String")) (t' := .int) (by decide) (by decide)))
  have F_end_a1 := F_end_a1.other W4 (Or.inr (slot_ne (Or.inr (hw _ (List.mem_of_getElem? (i := 59) rfl))) (Or.inr (hw _ (List.mem_of_getElem? (i := 57) rfl))) (by decide) (t := .int) (t' := .int) (by decide) (by decide)))
  have O := O.wr W4 g_a1
  have KK := KK.wr W4 (Or.inl (List.mem_of_getElem? (i := 0) rfl))
  show Go _ _ _ _ _ _ _  T4 (mkF m 19 #[.val (.ref a1), .val (.ref a2), .val (.ref a3), .val (.int p4), .val (.int p5)] [])
  refine Go.st (fun t k => XS.aloadN X4.here hx rfl (hb hby d9_19) rfl rfl  k) ?_
  show Go _ _ _ _ _ _ _  T4 (mkF m 20 #[.val (.ref a1), .val (.ref a2), .val (.ref a3), .val (.int p4), .val (.int p5)] [(.ref a1)])
  refine Go.st (fun t k => XS.iload X4.here hx rfl (hb hby d9_20) rfl  k) ?_
  show Go _ _ _ _ _ _ _  T4 (mkF m 22 #[.val (.ref a1), .val (.ref a2), .val (.ref a3), .val (.int p4), .val (.int p5)] [(.int p5), (.ref a1)])
  obtain ⟨T5, h5, X5, e5, W5, st5⟩ := putF X4 hx hZ hown (host := "") (Or.inl (hw _ (List.mem_of_getElem? (i := 58) rfl))) Via.refl e4 F_end_a1 E_a1 (Or.inr ⟨(hw _ (List.mem_of_getElem? (i := 59) rfl)), rfl, hnm⟩) (hw _ (List.mem_of_getElem? (i := 1) rfl)) (ty := .int) (by decide) rfl rfl (g := (mkF m 22 #[.val (.ref a1), .val (.ref a2), .val (.ref a3), .val (.int p4), .val (.int p5)] [(.int p5), (.ref a1)])) rfl rfl (hb hby d9_22)
  refine Go.st st5 ?_
  have F_end_a1 : Fld Z h5 a1 "com/example/nodewell/nodewell/query/Token" "end" "I" (.int p5) := F_end_a1.same W5
  have N5 := Fr.snoc X5 N4 g_a1
  have E_a1 := E_a1.wr W5
  have F_kind_a1 := F_kind_a1.other W5 (Or.inr (slot_ne (Or.inr (hw _ (List.mem_of_getElem? (i := 53) rfl))) (Or.inr (hw _ (List.mem_of_getElem? (i := 59) rfl))) (by decide) (t := (.object "com/example/nodewell/nodewell/query/Token$Kind")) (t' := .int) (by decide) (by decide)))
  have F_text_a1 := F_text_a1.other W5 (Or.inr (slot_ne (Or.inr (hw _ (List.mem_of_getElem? (i := 55) rfl))) (Or.inr (hw _ (List.mem_of_getElem? (i := 59) rfl))) (by decide) (t := (.object "java/lang/String")) (t' := .int) (by decide) (by decide)))
  have F_start_a1 := F_start_a1.other W5 (Or.inr (slot_ne (Or.inr (hw _ (List.mem_of_getElem? (i := 57) rfl))) (Or.inr (hw _ (List.mem_of_getElem? (i := 59) rfl))) (by decide) (t := .int) (t' := .int) (by decide) (by decide)))
  have O := O.wr W5 g_a1
  have KK := KK.wr W5 (Or.inl (List.mem_of_getElem? (i := 0) rfl))
  show Go _ _ _ _ _ _ _  T5 (mkF m 25 #[.val (.ref a1), .val (.ref a2), .val (.ref a3), .val (.int p4), .val (.int p5)] [])
  refine Go.ret0 X5 hlk hx Bd.returns (hb hby d9_25) (by decide) (by decide) ?_
  show Q_rmV Z _ _ _ _ _ h0 n0 _ T5.heap _
  rw [e5]
  exact ⟨rfl, N5, KK, E_a1, F_kind_a1, F_text_a1⟩
def Q_rmS (Z : State) (a1 : Addr) (a2 : Addr) (a3 : Addr) (k1 : Addr) (s1 : Addr) (t1 : Addr) (kb1 : ClassId) (cs : List Int32) (t3 : Addr) (kb3 : ClassId) (ds : List Int32) (zc : Int32) (h0 : Heap) (n0 : Nat) (v : Option Value) (h : Heap) (L : List Loc) : Prop := v = some (.int (if k1 = a2 then (if cs = ds then 1 else 0) else 0)) ∧ Fr n0 L ∧ h = h0
set_option maxRecDepth 65536 in
set_option maxHeartbeats 40000000 in
theorem rmS (l : Launch) (Z : State) (a0 : Array Value) (hw : ∀ d ∈ tables_1, d.before a0 Z = true) (ws : List Jvm.Cond) (a1 : Addr) (a2 : Addr) (a3 : Addr) (k1 : Addr) (s1 : Addr) (t1 : Addr) (kb1 : ClassId) (cs : List Int32) (t3 : Addr) (kb3 : ClassId) (ds : List Int32) (zc : Int32) (h0 : Heap) (n0 : Nat) (O : Old Z n0 h0) (F1 : Fld Z h0 a1 "com/example/nodewell/nodewell/query/Token" "kind" "Lcom/example/nodewell/nodewell/query/Token$Kind;" (.ref k1)) (F2 : Fld Z h0 a1 "com/example/nodewell/nodewell/query/Token" "text" "Ljava/lang/String;" (.ref s1)) (E_s1 : Exa Z h0 s1 "java/lang/String") (C_s1 : Fld Z h0 s1 "java/lang/String" "coder" "B" (.int 0)) (V_s1 : Fld Z h0 s1 "java/lang/String" "value" "[B" (.ref t1)) (A_s1 : Arv Z h0 t1 kb1 .byte (Int32.ofNat cs.length) ((cs.map fun c => c.toInt8.toInt32).map Value.int) (.int 0)) (P_s1 : ∀ c ∈ cs, ¬ c < 0 ∧ ¬ (255 : Int32) < c) (L_s1 : cs.length ≤ 4000) (E_a3 : Exa Z h0 a3 "java/lang/String") (C_a3 : Fld Z h0 a3 "java/lang/String" "coder" "B" (.int 0)) (V_a3 : Fld Z h0 a3 "java/lang/String" "value" "[B" (.ref t3)) (A_a3 : Arv Z h0 t3 kb3 .byte (Int32.ofNat ds.length) ((ds.map fun c => c.toInt8.toInt32).map Value.int) (.int 0)) (P_a3 : ∀ c ∈ ds, ¬ c < 0 ∧ ¬ (255 : Int32) < c) (L_a3 : ds.length ≤ 4000) (S_COMPACT : Sta Z Z.heap "java/lang/String" "COMPACT_STRINGS" "Z" (.int zc)) (hcs : ¬ zc = 0) :
    MetFree l (⟨"com/example/nodewell/nodewell/query/Token", "is", "(Lcom/example/nodewell/nodewell/query/Token$Kind;Ljava/lang/String;)Z"⟩ : MethodName) (head1 (Jvm.Cond.code (⟨"com/example/nodewell/nodewell/query/Token", "is", "(Lcom/example/nodewell/nodewell/query/Token$Kind;Ljava/lang/String;)Z"⟩ : MethodName) prog_64_method_2_code 3 (some .boolean) :: ws) ({ frames := 2, cells := 0, slots := 0, locals := 28 } : Room)) (fun a U => a = #[(.ref a1), (.ref a2), (.ref a3)] ∧ Z.Warmed39 U.vm ∧ U.heap = h0) (fun _ _ _ _ _ => True) (fun _ U o U' => ∃ v L, o = .returned v ∧ Q_rmS Z a1 a2 a3 k1 s1 t1 kb1 cs t3 kb3 ds zc h0 n0 v U'.heap L ∧ FrameEnd U o U' L ({ frames := 2, cells := 0, slots := 0, locals := 28 } : Room).cells ({ frames := 2, cells := 0, slots := 0, locals := 28 } : Room).slots) := by
  refine MetFree.of_bodySF (plainFor_of_name pn_11) hisR ?_
  intro p e s m args below meth c s₁ Bd hml0 hP hK
  obtain ⟨rfl, hZ, hh⟩ := hP
  have hx := Bd.exec
  have hby := Bd.bytes
  have hml : c.maxLocals = 3 := hml0
  have hown : s.vm.findClass "com/example/nodewell/nodewell/query/Token" = some m.cls := findClass_of_methodNamed Bd.named
  have hnm := (name_of_methodNamed Bd.named Bd.method).1
  have hlk : meth.locks = false := BodyLoose.notSynchronized Bd
  have X0 : Stand p l e ({ frames := 2, cells := 0, slots := 0, locals := 28 } : Room) s m #[(.ref a1), (.ref a2), (.ref a3)] below meth c s₁ [] 0 0 := Stand.of_body Bd
  have e0 : s₁.heap = h0 := by rw [← hh, Bd.state]; rfl
  have N0 := Fr.nil n0
  show Go p e below s ({ frames := 2, cells := 0, slots := 0, locals := 28 } : Room).cells ({ frames := 2, cells := 0, slots := 0, locals := 28 } : Room).slots (Q_rmS Z a1 a2 a3 k1 s1 t1 kb1 cs t3 kb3 ds zc h0 n0) s₁ (entryFrame m #[(.ref a1), (.ref a2), (.ref a3)] 3)
  refine Go.eq (ef_rmS m a1 a2 a3) ?_
  have heq : ∀ d ∈ StrChars.Road.wordsEq, d.before a0 Z = true := fun d hd => hw d ((by decide +kernel : ∀ d ∈ StrChars.Road.wordsEq, d ∈ tables_1) d hd)
  show Go _ _ _ _ _ _ _  s₁ (mkF m 0 #[.val (.ref a1), .val (.ref a2), .val (.ref a3)] [])
  refine Go.st (fun t k => XS.aloadN X0.here hx rfl (hb hby d11_0) rfl rfl  k) ?_
  show Go _ _ _ _ _ _ _  s₁ (mkF m 1 #[.val (.ref a1), .val (.ref a2), .val (.ref a3)] [(.ref a1)])
  obtain ⟨T1, X1, e1, st1⟩ := getF X0 hx hZ hown (host := "") (Or.inl (hw _ (List.mem_of_getElem? (i := 52) rfl))) Via.refl e0 F1 (g := (mkF m 1 #[.val (.ref a1), .val (.ref a2), .val (.ref a3)] [(.ref a1)])) rfl rfl (hb hby d11_1)
  refine Go.st st1 ?_
  show Go _ _ _ _ _ _ _  T1 (mkF m 4 #[.val (.ref a1), .val (.ref a2), .val (.ref a3)] [(.ref k1)])
  refine Go.st (fun t k => XS.aloadN X1.here hx rfl (hb hby d11_4) rfl rfl  k) ?_
  show Go _ _ _ _ _ _ _  T1 (mkF m 5 #[.val (.ref a1), .val (.ref a2), .val (.ref a3)] [(.ref a2), (.ref k1)])
  by_cases c5_2 : k1 = a2
  · refine Go.st (fun t k => Jvm.RoadKit.acmp (g := (mkF m 5 #[.val (.ref a1), .val (.ref a2), .val (.ref a3)] [(.ref a2), (.ref k1)])) X1 hx rfl rfl rfl (pc0 := 5) (pc' := 8) (same := true) rfl (hb hby d11_5) rfl (decide_eq_true (congrArg Value.ref c5_2)) (by decide) (by decide) k) ?_
    show Go _ _ _ _ _ _ _  T1 (mkF m 8 #[.val (.ref a1), .val (.ref a2), .val (.ref a3)] [])
    refine Go.st (fun t k => XS.aloadN X1.here hx rfl (hb hby d11_8) rfl rfl  k) ?_
    show Go _ _ _ _ _ _ _  T1 (mkF m 9 #[.val (.ref a1), .val (.ref a2), .val (.ref a3)] [(.ref a1)])
    obtain ⟨T3, X3, e3, st3⟩ := getF X1 hx hZ hown (host := "") (Or.inl (hw _ (List.mem_of_getElem? (i := 54) rfl))) Via.refl e1 F2 (g := (mkF m 9 #[.val (.ref a1), .val (.ref a2), .val (.ref a3)] [(.ref a1)])) rfl rfl (hb hby d11_9)
    refine Go.st st3 ?_
    show Go _ _ _ _ _ _ _  T3 (mkF m 12 #[.val (.ref a1), .val (.ref a2), .val (.ref a3)] [(.ref s1)])
    refine Go.st (fun t k => XS.aloadN X3.here hx rfl (hb hby d11_12) rfl rfl  k) ?_
    show Go _ _ _ _ _ _ _  T3 (mkF m 13 #[.val (.ref a1), .val (.ref a2), .val (.ref a3)] [(.ref a3), (.ref s1)])
    obtain ⟨cq4, kq4, q4a, q4b, q4c⟩ := isOf hZ e3 E_s1
    obtain ⟨_, _, ⟨T4, L4, k4, n4⟩, -, X4, ⟨Lc4, hQ4, l4, y4, z4⟩, st4⟩ := X3.virtualBack hx (y := (⟨"java/lang/String", "equals", "(Ljava/lang/Object;)Z"⟩ : MethodName)) (z := (⟨"java/lang/String", "equals", "(Ljava/lang/Object;)Z"⟩ : MethodName)) hown (mvT hZ (hw _ (List.mem_of_getElem? (i := 65) rfl))) (mvT hZ (hw _ (List.mem_of_getElem? (i := 66) rfl))) (notFace_of_selects (args := #[]) (mvT hZ (hw _ (List.mem_of_getElem? (i := 68) rfl)))) (mvT hZ (hw _ (List.mem_of_getElem? (i := 68) rfl))) (mvT hZ (hw _ (List.mem_of_getElem? (i := 67) rfl))) (by decide) (StrChars.Road.eqW (W := 0) hZ heq (kI := 4) (hw _ (List.mem_of_getElem? (i := 14) rfl)) E_s1 V_s1 C_s1 A_s1 (StrChars.Road.codOf rfl (fun c hc => (P_s1 c hc).2)) (own_up P_s1) L_s1 E_a3 V_a3 C_a3 A_a3 (StrChars.Road.codOf rfl (fun c hc => (P_a3 c hc).2)) (own_up P_a3) L_a3 (S_COMPACT.ext O.2) hcs (by decide) (by decide)) q4a q4c (g := (mkF m 13 #[.val (.ref a1), .val (.ref a2), .val (.ref a3)] [(.ref a3), (.ref s1)])) rfl (by rw [hml]; rfl) (Steps.refl _) (argsL := [(.ref a3)]) (rest := []) (lenOf pd__Ljava_lang_Object__Z rfl) rfl (by show 2 * 0 + _ ≤ _; exact Nat.le_of_eq rfl) (hb hby d11_13) (fun _ _ => ⟨rfl, e3, (by decide : 0 + 0 ≤ _), (by decide : 0 + 0 ≤ _)⟩)
    dsimp only [Pt.U, Pt.locs, Pt.cells, Pt.slots] at X4 l4 y4 z4 st4 hQ4
    subst l4 y4 z4
    obtain ⟨hv4, hL4, e4q⟩ := hQ4
    have hv4' := own_iff hv4
    subst hv4'
    have N4q := own_fr (n0 := n0) hL4
    have N4 := Fr.app N0 N4q
    refine Go.tr st4 ?_
    show Go _ _ _ _ _ _ _  T4 (mkF m 16 #[.val (.ref a1), .val (.ref a2), .val (.ref a3)] [(.int (if cs = ds then (1 : Int32) else 0))])
    by_cases c16_5 : (if cs = ds then (1 : Int32) else 0) = (0 : Int32)
    · refine Go.st (fun t k => XS.ifYes X4.here hx rfl (pc0 := 16) (pc' := 23) rfl (hb hby d11_16) rfl ((if0 _ _).trans (teq c16_5).1) (by decide) (by decide) k) ?_
      show Go _ _ _ _ _ _ _  T4 (mkF m 23 #[.val (.ref a1), .val (.ref a2), .val (.ref a3)] [])
      refine Go.st (fun t k => XS.iconst X4.here hx rfl (hb hby d11_23) k) ?_
      show Go _ _ _ _ _ _ _  T4 (mkF m 24 #[.val (.ref a1), .val (.ref a2), .val (.ref a3)] [(.int (0 : Int32))])
      refine Go.retN X4 hlk hx (t := .boolean) (z' := (0 : Int32)) Bd.returns (by simp) (hb hby d11_24) (by decide) (by decide) rfl ?_
      show Q_rmS Z _ _ _ _ _ _ _ _ _ _ _ _ h0 n0 _ T4.heap _
      rw [e4q]
      exact ⟨congrArg (fun z => some (Value.int z)) (own_is2 c5_2 c16_5), N4, rfl⟩
    · refine Go.st (fun t k => XS.ifNo X4.here hx rfl (hb hby d11_16) rfl ((if0 _ _).trans (feq c16_5).1) k) ?_
      show Go _ _ _ _ _ _ _  T4 (mkF m 19 #[.val (.ref a1), .val (.ref a2), .val (.ref a3)] [])
      refine Go.st (fun t k => XS.iconst X4.here hx rfl (hb hby d11_19) k) ?_
      show Go _ _ _ _ _ _ _  T4 (mkF m 20 #[.val (.ref a1), .val (.ref a2), .val (.ref a3)] [(.int (1 : Int32))])
      refine Go.st (fun t k => XS.goto X4.here hx rfl (pc0 := 20) (pc' := 24) rfl (hb hby d11_20) (by decide) (by decide) k) ?_
      show Go _ _ _ _ _ _ _  T4 (mkF m 24 #[.val (.ref a1), .val (.ref a2), .val (.ref a3)] [(.int (1 : Int32))])
      refine Go.retN X4 hlk hx (t := .boolean) (z' := (1 : Int32)) Bd.returns (by simp) (hb hby d11_24) (by decide) (by decide) rfl ?_
      show Q_rmS Z _ _ _ _ _ _ _ _ _ _ _ _ h0 n0 _ T4.heap _
      rw [e4q]
      exact ⟨congrArg (fun z => some (Value.int z)) (own_is3 c5_2 c16_5), N4, rfl⟩
  · refine Go.st (fun t k => Jvm.RoadKit.acmp (g := (mkF m 5 #[.val (.ref a1), .val (.ref a2), .val (.ref a3)] [(.ref a2), (.ref k1)])) X1 hx rfl rfl rfl (pc0 := 5) (pc' := 23) (same := false) rfl (hb hby d11_5) rfl (decide_eq_false fun q => c5_2 (Value.ref.inj q)) (by decide) (by decide) k) ?_
    show Go _ _ _ _ _ _ _  T1 (mkF m 23 #[.val (.ref a1), .val (.ref a2), .val (.ref a3)] [])
    refine Go.st (fun t k => XS.iconst X1.here hx rfl (hb hby d11_23) k) ?_
    show Go _ _ _ _ _ _ _  T1 (mkF m 24 #[.val (.ref a1), .val (.ref a2), .val (.ref a3)] [(.int (0 : Int32))])
    refine Go.retN X1 hlk hx (t := .boolean) (z' := (0 : Int32)) Bd.returns (by simp) (hb hby d11_24) (by decide) (by decide) rfl ?_
    show Q_rmS Z _ _ _ _ _ _ _ _ _ _ _ _ h0 n0 _ T1.heap _
    rw [e1]
    exact ⟨congrArg (fun z => some (Value.int z)) (own_is1 c5_2), N0, rfl⟩
def Q_rm0 (Z : State) (p1 : Int32) (p2 : Int32) (p3 : Int32) (p4 : Int32) (zc : Int32) (w_LITERAL : Addr) (w_NUMBER : Addr) (w_VARIABLE : Addr) (w_NAME_TEST : Addr) (w_NODE_TYPE : Addr) (w_FUNCTION_NAME : Addr) (w_AXIS_NAME : Addr) (w_OPERATOR : Addr) (w_PUNCTUATION : Addr) (h0 : Heap) (n0 : Nat) (v : Option Value) (h : Heap) (L : List Loc) : Prop := v = some (.int (1 : Int32)) ∧ Fr n0 L
set_option maxRecDepth 65536 in
set_option maxHeartbeats 40000000 in
theorem rm0 (l : Launch) (Z : State) (a0 : Array Value) (hw : ∀ d ∈ tables_1, d.before a0 Z = true) (ws : List Jvm.Cond) (p1 : Int32) (p2 : Int32) (p3 : Int32) (p4 : Int32) (zc : Int32) (w_LITERAL : Addr) (w_NUMBER : Addr) (w_VARIABLE : Addr) (w_NAME_TEST : Addr) (w_NODE_TYPE : Addr) (w_FUNCTION_NAME : Addr) (w_AXIS_NAME : Addr) (w_OPERATOR : Addr) (w_PUNCTUATION : Addr) (h0 : Heap) (n0 : Nat) (O : Old Z n0 h0) (hEL : EW Z a0 EL) (wS : ∀ a ∈ Bundle.stringAtoms, a.before a0 Z = true) (S_COMPACT : Sta Z Z.heap "java/lang/String" "COMPACT_STRINGS" "Z" (.int zc)) (hcs : ¬ zc = 0) (S_LITERAL : Sta Z Z.heap "com/example/nodewell/nodewell/query/Token$Kind" "LITERAL" "Lcom/example/nodewell/nodewell/query/Token$Kind;" (.ref w_LITERAL)) (S_NUMBER : Sta Z Z.heap "com/example/nodewell/nodewell/query/Token$Kind" "NUMBER" "Lcom/example/nodewell/nodewell/query/Token$Kind;" (.ref w_NUMBER)) (S_VARIABLE : Sta Z Z.heap "com/example/nodewell/nodewell/query/Token$Kind" "VARIABLE" "Lcom/example/nodewell/nodewell/query/Token$Kind;" (.ref w_VARIABLE)) (S_NAME_TEST : Sta Z Z.heap "com/example/nodewell/nodewell/query/Token$Kind" "NAME_TEST" "Lcom/example/nodewell/nodewell/query/Token$Kind;" (.ref w_NAME_TEST)) (S_NODE_TYPE : Sta Z Z.heap "com/example/nodewell/nodewell/query/Token$Kind" "NODE_TYPE" "Lcom/example/nodewell/nodewell/query/Token$Kind;" (.ref w_NODE_TYPE)) (S_FUNCTION_NAME : Sta Z Z.heap "com/example/nodewell/nodewell/query/Token$Kind" "FUNCTION_NAME" "Lcom/example/nodewell/nodewell/query/Token$Kind;" (.ref w_FUNCTION_NAME)) (S_AXIS_NAME : Sta Z Z.heap "com/example/nodewell/nodewell/query/Token$Kind" "AXIS_NAME" "Lcom/example/nodewell/nodewell/query/Token$Kind;" (.ref w_AXIS_NAME)) (S_OPERATOR : Sta Z Z.heap "com/example/nodewell/nodewell/query/Token$Kind" "OPERATOR" "Lcom/example/nodewell/nodewell/query/Token$Kind;" (.ref w_OPERATOR)) (S_PUNCTUATION : Sta Z Z.heap "com/example/nodewell/nodewell/query/Token$Kind" "PUNCTUATION" "Lcom/example/nodewell/nodewell/query/Token$Kind;" (.ref w_PUNCTUATION)) (hO : ∀ k : Int32, (k = 0 ∨ k = 1 ∨ k = 2 ∨ k = 3 ∨ k = 4 ∨ k = 5 ∨ k = 6 ∨ k = 7 ∨ k = 8) → Fld Z Z.heap (kindF k w_LITERAL w_NUMBER w_VARIABLE w_NAME_TEST w_NODE_TYPE w_FUNCTION_NAME w_AXIS_NAME w_OPERATOR w_PUNCTUATION) "java/lang/Enum" "ordinal" "I" (.int k)) :
    MetFree l x (head1 (Jvm.Cond.code x code maxLocals ret :: ws) room_1) (fun a U => a = #[(.int p1), (.int p2), (.int p3), (.int p4)] ∧ Z.Warmed39 U.vm ∧ U.heap = h0 ∧ CHv Z EL U.vm h0 ∧ ∀ x ∈ ([] : List Addr), Safe Z EL U.vm h0 x) (fun _ _ _ _ _ => True) (fun _ U o U' => ∃ v L, o = .returned v ∧ Q_rm0 Z p1 p2 p3 p4 zc w_LITERAL w_NUMBER w_VARIABLE w_NAME_TEST w_NODE_TYPE w_FUNCTION_NAME w_AXIS_NAME w_OPERATOR w_PUNCTUATION h0 n0 v U'.heap L ∧ CHr Z EL U.vm U.heap U'.vm U'.heap ∧ ReturnedEndW U o U' L room_1.cells room_1.slots) := by
  refine MetFree.of_bodySF (plainFor_of_name pn_0) hisR ?_
  intro p e s m args below meth c s₁ Bd hml0 hP hK
  obtain ⟨rfl, hZ, hh, HH, hSF⟩ := hP
  have hx := Bd.exec
  have hby := Bd.bytes
  have hml : c.maxLocals = 15 := hml0
  have hown : s.vm.findClass "com/example/nodewell/nodewell/query/TokenIsPinLaw" = some m.cls := findClass_of_methodNamed Bd.named
  have hnm := (name_of_methodNamed Bd.named Bd.method).1
  have hlk : meth.locks = false := BodyLoose.notSynchronized Bd
  have X0 : Stand p l e room_1 (s.setVm s.vm) m #[(.int p1), (.int p2), (.int p3), (.int p4)] below meth c s₁ [] 0 0 := Stand.of_body Bd
  have e0 : s₁.heap = h0 := by rw [← hh, Bd.state]; rfl
  have N0 := Fr.nil n0
  have KK : Keep h0 h0 [] := Keep.refl h0 _
  have hS : s.Since s.vm h0.size := own_since s _
  have hk : h0.size ≤ h0.size := Nat.le_refl _
  have RR : CHr Z EL s.vm h0 s.vm h0 := CHr.refl HH
  suffices hgo : GoH p e below s room_1.cells room_1.slots Z h0 EL (Q_rm0 Z p1 p2 p3 p4 zc w_LITERAL w_NUMBER w_VARIABLE w_NAME_TEST w_NODE_TYPE w_FUNCTION_NAME w_AXIS_NAME w_OPERATOR w_PUNCTUATION h0 n0) s₁ (entryFrame m #[(.int p1), (.int p2), (.int p3), (.int p4)] maxLocals) by
    obtain ⟨s₂, o, q1, q2, q3, v, L, q4, q5, q6, q7⟩ := hgo; exact ⟨s₂, o, q1, q2, q3, v, L, q4, q5, hh ▸ q6, q7⟩
  refine GoH.eq (ef_rm0 m p1 p2 p3 p4) ?_
  show GoH _ _ _ _ _ _ _ _ _ _  s₁ (mkF m 0 #[.val (.int p1), .val (.int p2), .val (.int p3), .val (.int p4), .unset, .unset, .unset, .unset, .unset, .unset, .unset, .unset, .unset, .unset, .unset] [])
  refine GoH.st (fun t k => XS.iloadN X0.here hx rfl (hb hby at_0) rfl  k) ?_
  show GoH _ _ _ _ _ _ _ _ _ _  s₁ (mkF m 1 #[.val (.int p1), .val (.int p2), .val (.int p3), .val (.int p4), .unset, .unset, .unset, .unset, .unset, .unset, .unset, .unset, .unset, .unset, .unset] [(.int p1)])
  refine GoH.st (fun t k => XS.sipush X0.here hx rfl (hb hby at_1) k) ?_
  show GoH _ _ _ _ _ _ _ _ _ _  s₁ (mkF m 4 #[.val (.int p1), .val (.int p2), .val (.int p3), .val (.int p4), .unset, .unset, .unset, .unset, .unset, .unset, .unset, .unset, .unset, .unset, .unset] [(.int (255 : Int32)), (.int p1)])
  refine GoH.st (fun t k => XS.iand X0.here hx rfl (hb hby at_4) rfl k) ?_
  show GoH _ _ _ _ _ _ _ _ _ _  s₁ (mkF m 5 #[.val (.int p1), .val (.int p2), .val (.int p3), .val (.int p4), .unset, .unset, .unset, .unset, .unset, .unset, .unset, .unset, .unset, .unset, .unset] [(.int (p1 &&& (255 : Int32)))])
  refine GoH.st (fun t k => XS.bipush X0.here hx rfl (hb hby at_5) k) ?_
  show GoH _ _ _ _ _ _ _ _ _ _  s₁ (mkF m 7 #[.val (.int p1), .val (.int p2), .val (.int p3), .val (.int p4), .unset, .unset, .unset, .unset, .unset, .unset, .unset, .unset, .unset, .unset, .unset] [(.int (9 : Int32)), (.int (p1 &&& (255 : Int32)))])
  refine GoH.st (fun t k => Jvm.RoadKit.iremM X0 hx rfl (hb hby at_7) rfl (by decide) k) ?_
  show GoH _ _ _ _ _ _ _ _ _ _  s₁ (mkF m 8 #[.val (.int p1), .val (.int p2), .val (.int p3), .val (.int p4), .unset, .unset, .unset, .unset, .unset, .unset, .unset, .unset, .unset, .unset, .unset] [(.int ((p1 &&& (255 : Int32)) % (9 : Int32)))])
  refine GoH.st (fun t k => XS.istore X0.here hx rfl (hb hby at_8) rfl (l' := #[.val (.int p1), .val (.int p2), .val (.int p3), .val (.int p4), .val (.int ((p1 &&& (255 : Int32)) % (9 : Int32))), .unset, .unset, .unset, .unset, .unset, .unset, .unset, .unset, .unset, .unset]) rfl k) ?_
  show GoH _ _ _ _ _ _ _ _ _ _  s₁ (mkF m 10 #[.val (.int p1), .val (.int p2), .val (.int p3), .val (.int p4), .val (.int ((p1 &&& (255 : Int32)) % (9 : Int32))), .unset, .unset, .unset, .unset, .unset, .unset, .unset, .unset, .unset, .unset] [])
  obtain ⟨ka, eq_ka⟩ : ∃ z, z = ((p1 &&& (255 : Int32)) % (9 : Int32)) := ⟨_, rfl⟩
  rw [← eq_ka]
  show GoH _ _ _ _ _ _ _ _ _ _  s₁ (mkF m 10 #[.val (.int p1), .val (.int p2), .val (.int p3), .val (.int p4), .val (.int ka), .unset, .unset, .unset, .unset, .unset, .unset, .unset, .unset, .unset, .unset] [])
  refine GoH.st (fun t k => XS.iloadN X0.here hx rfl (hb hby at_10) rfl  k) ?_
  show GoH _ _ _ _ _ _ _ _ _ _  s₁ (mkF m 11 #[.val (.int p1), .val (.int p2), .val (.int p3), .val (.int p4), .val (.int ka), .unset, .unset, .unset, .unset, .unset, .unset, .unset, .unset, .unset, .unset] [(.int p2)])
  refine GoH.st (fun t k => XS.iconst X0.here hx rfl (hb hby at_11) k) ?_
  show GoH _ _ _ _ _ _ _ _ _ _  s₁ (mkF m 12 #[.val (.int p1), .val (.int p2), .val (.int p3), .val (.int p4), .val (.int ka), .unset, .unset, .unset, .unset, .unset, .unset, .unset, .unset, .unset, .unset] [(.int (1 : Int32)), (.int p2)])
  refine GoH.st (fun t k => XS.iand X0.here hx rfl (hb hby at_12) rfl k) ?_
  show GoH _ _ _ _ _ _ _ _ _ _  s₁ (mkF m 13 #[.val (.int p1), .val (.int p2), .val (.int p3), .val (.int p4), .val (.int ka), .unset, .unset, .unset, .unset, .unset, .unset, .unset, .unset, .unset, .unset] [(.int (p2 &&& (1 : Int32)))])
  refine GoH.st (T' := s₁) (g' := (mkF m 31 #[.val (.int p1), .val (.int p2), .val (.int p3), .val (.int p4), .val (.int ka), .unset, .unset, .unset, .unset, .unset, .unset, .unset, .unset, .unset, .unset] [(.int (if (p2 &&& (1 : Int32)) = (0 : Int32) then ((((p2.toUInt32 >>> ((1 : Int32) &&& 31).toUInt32).toInt32) &&& (255 : Int32)) % (9 : Int32)) else ka))])) (fun t k => ?_) ?_
  · show Steps p.tables e below (s₁.setTop (mkF m 13 #[.val (.int p1), .val (.int p2), .val (.int p3), .val (.int p4), .val (.int ka), .unset, .unset, .unset, .unset, .unset, .unset, .unset, .unset, .unset, .unset] [(.int (p2 &&& (1 : Int32)))])) _
    by_cases c13_1 : (p2 &&& (1 : Int32)) = (0 : Int32)
    · refine XS.ifYes X0.here hx rfl (pc0 := 13) (pc' := 21) rfl (hb hby at_13) rfl ((if0 _ _).trans (teq c13_1).1) (by decide) (by decide) ?_
      show Steps p.tables e below (s₁.setTop (mkF m 21 #[.val (.int p1), .val (.int p2), .val (.int p3), .val (.int p4), .val (.int ka), .unset, .unset, .unset, .unset, .unset, .unset, .unset, .unset, .unset, .unset] [])) _
      refine XS.iloadN X0.here hx rfl (hb hby at_21) rfl  ?_
      show Steps p.tables e below (s₁.setTop (mkF m 22 #[.val (.int p1), .val (.int p2), .val (.int p3), .val (.int p4), .val (.int ka), .unset, .unset, .unset, .unset, .unset, .unset, .unset, .unset, .unset, .unset] [(.int p2)])) _
      refine XS.iconst X0.here hx rfl (hb hby at_22) ?_
      show Steps p.tables e below (s₁.setTop (mkF m 23 #[.val (.int p1), .val (.int p2), .val (.int p3), .val (.int p4), .val (.int ka), .unset, .unset, .unset, .unset, .unset, .unset, .unset, .unset, .unset, .unset] [(.int (1 : Int32)), (.int p2)])) _
      refine XS.iushr X0.here hx rfl (hb hby at_23) rfl ?_
      show Steps p.tables e below (s₁.setTop (mkF m 24 #[.val (.int p1), .val (.int p2), .val (.int p3), .val (.int p4), .val (.int ka), .unset, .unset, .unset, .unset, .unset, .unset, .unset, .unset, .unset, .unset] [(.int ((p2.toUInt32 >>> ((1 : Int32) &&& 31).toUInt32).toInt32))])) _
      refine XS.sipush X0.here hx rfl (hb hby at_24) ?_
      show Steps p.tables e below (s₁.setTop (mkF m 27 #[.val (.int p1), .val (.int p2), .val (.int p3), .val (.int p4), .val (.int ka), .unset, .unset, .unset, .unset, .unset, .unset, .unset, .unset, .unset, .unset] [(.int (255 : Int32)), (.int ((p2.toUInt32 >>> ((1 : Int32) &&& 31).toUInt32).toInt32))])) _
      refine XS.iand X0.here hx rfl (hb hby at_27) rfl ?_
      show Steps p.tables e below (s₁.setTop (mkF m 28 #[.val (.int p1), .val (.int p2), .val (.int p3), .val (.int p4), .val (.int ka), .unset, .unset, .unset, .unset, .unset, .unset, .unset, .unset, .unset, .unset] [(.int (((p2.toUInt32 >>> ((1 : Int32) &&& 31).toUInt32).toInt32) &&& (255 : Int32)))])) _
      refine XS.bipush X0.here hx rfl (hb hby at_28) ?_
      show Steps p.tables e below (s₁.setTop (mkF m 30 #[.val (.int p1), .val (.int p2), .val (.int p3), .val (.int p4), .val (.int ka), .unset, .unset, .unset, .unset, .unset, .unset, .unset, .unset, .unset, .unset] [(.int (9 : Int32)), (.int (((p2.toUInt32 >>> ((1 : Int32) &&& 31).toUInt32).toInt32) &&& (255 : Int32)))])) _
      refine Jvm.RoadKit.iremM X0 hx rfl (hb hby at_30) rfl (by decide) ?_
      (try simp only [if_pos c13_1] at k); exact k
    · refine XS.ifNo X0.here hx rfl (hb hby at_13) rfl ((if0 _ _).trans (feq c13_1).1) ?_
      show Steps p.tables e below (s₁.setTop (mkF m 16 #[.val (.int p1), .val (.int p2), .val (.int p3), .val (.int p4), .val (.int ka), .unset, .unset, .unset, .unset, .unset, .unset, .unset, .unset, .unset, .unset] [])) _
      refine XS.iload X0.here hx rfl (hb hby at_16) rfl  ?_
      show Steps p.tables e below (s₁.setTop (mkF m 18 #[.val (.int p1), .val (.int p2), .val (.int p3), .val (.int p4), .val (.int ka), .unset, .unset, .unset, .unset, .unset, .unset, .unset, .unset, .unset, .unset] [(.int ka)])) _
      refine XS.goto X0.here hx rfl (pc0 := 18) (pc' := 31) rfl (hb hby at_18) (by decide) (by decide) ?_
      (try simp only [if_neg c13_1] at k); exact k
  show GoH _ _ _ _ _ _ _ _ _ _  s₁ (mkF m 31 #[.val (.int p1), .val (.int p2), .val (.int p3), .val (.int p4), .val (.int ka), .unset, .unset, .unset, .unset, .unset, .unset, .unset, .unset, .unset, .unset] [(.int (if (p2 &&& (1 : Int32)) = (0 : Int32) then ((((p2.toUInt32 >>> ((1 : Int32) &&& 31).toUInt32).toInt32) &&& (255 : Int32)) % (9 : Int32)) else ka))])
  refine GoH.st (fun t k => XS.istore X0.here hx rfl (hb hby at_31) rfl (l' := #[.val (.int p1), .val (.int p2), .val (.int p3), .val (.int p4), .val (.int ka), .val (.int (if (p2 &&& (1 : Int32)) = (0 : Int32) then ((((p2.toUInt32 >>> ((1 : Int32) &&& 31).toUInt32).toInt32) &&& (255 : Int32)) % (9 : Int32)) else ka)), .unset, .unset, .unset, .unset, .unset, .unset, .unset, .unset, .unset]) rfl k) ?_
  show GoH _ _ _ _ _ _ _ _ _ _  s₁ (mkF m 33 #[.val (.int p1), .val (.int p2), .val (.int p3), .val (.int p4), .val (.int ka), .val (.int (if (p2 &&& (1 : Int32)) = (0 : Int32) then ((((p2.toUInt32 >>> ((1 : Int32) &&& 31).toUInt32).toInt32) &&& (255 : Int32)) % (9 : Int32)) else ka)), .unset, .unset, .unset, .unset, .unset, .unset, .unset, .unset, .unset] [])
  obtain ⟨kb, eq_kb⟩ : ∃ z, z = (if (p2 &&& (1 : Int32)) = (0 : Int32) then ((((p2.toUInt32 >>> ((1 : Int32) &&& 31).toUInt32).toInt32) &&& (255 : Int32)) % (9 : Int32)) else ka) := ⟨_, rfl⟩
  rw [← eq_kb]
  show GoH _ _ _ _ _ _ _ _ _ _  s₁ (mkF m 33 #[.val (.int p1), .val (.int p2), .val (.int p3), .val (.int p4), .val (.int ka), .val (.int kb), .unset, .unset, .unset, .unset, .unset, .unset, .unset, .unset, .unset] [])
  refine GoH.st (fun t k => XS.iloadN X0.here hx rfl (hb hby at_33) rfl  k) ?_
  show GoH _ _ _ _ _ _ _ _ _ _  s₁ (mkF m 34 #[.val (.int p1), .val (.int p2), .val (.int p3), .val (.int p4), .val (.int ka), .val (.int kb), .unset, .unset, .unset, .unset, .unset, .unset, .unset, .unset, .unset] [(.int p3)])
  refine GoH.st (fun t k => XS.iconst X0.here hx rfl (hb hby at_34) k) ?_
  show GoH _ _ _ _ _ _ _ _ _ _  s₁ (mkF m 35 #[.val (.int p1), .val (.int p2), .val (.int p3), .val (.int p4), .val (.int ka), .val (.int kb), .unset, .unset, .unset, .unset, .unset, .unset, .unset, .unset, .unset] [(.int (3 : Int32)), (.int p3)])
  refine GoH.st (fun t k => XS.iand X0.here hx rfl (hb hby at_35) rfl k) ?_
  show GoH _ _ _ _ _ _ _ _ _ _  s₁ (mkF m 36 #[.val (.int p1), .val (.int p2), .val (.int p3), .val (.int p4), .val (.int ka), .val (.int kb), .unset, .unset, .unset, .unset, .unset, .unset, .unset, .unset, .unset] [(.int (p3 &&& (3 : Int32)))])
  refine GoH.st (fun t k => XS.iconst X0.here hx rfl (hb hby at_36) k) ?_
  show GoH _ _ _ _ _ _ _ _ _ _  s₁ (mkF m 37 #[.val (.int p1), .val (.int p2), .val (.int p3), .val (.int p4), .val (.int ka), .val (.int kb), .unset, .unset, .unset, .unset, .unset, .unset, .unset, .unset, .unset] [(.int (3 : Int32)), (.int (p3 &&& (3 : Int32)))])
  refine GoH.st (fun t k => Jvm.RoadKit.iremM X0 hx rfl (hb hby at_37) rfl (by decide) k) ?_
  show GoH _ _ _ _ _ _ _ _ _ _  s₁ (mkF m 38 #[.val (.int p1), .val (.int p2), .val (.int p3), .val (.int p4), .val (.int ka), .val (.int kb), .unset, .unset, .unset, .unset, .unset, .unset, .unset, .unset, .unset] [(.int ((p3 &&& (3 : Int32)) % (3 : Int32)))])
  refine GoH.st (fun t k => XS.istore X0.here hx rfl (hb hby at_38) rfl (l' := #[.val (.int p1), .val (.int p2), .val (.int p3), .val (.int p4), .val (.int ka), .val (.int kb), .val (.int ((p3 &&& (3 : Int32)) % (3 : Int32))), .unset, .unset, .unset, .unset, .unset, .unset, .unset, .unset]) rfl k) ?_
  show GoH _ _ _ _ _ _ _ _ _ _  s₁ (mkF m 40 #[.val (.int p1), .val (.int p2), .val (.int p3), .val (.int p4), .val (.int ka), .val (.int kb), .val (.int ((p3 &&& (3 : Int32)) % (3 : Int32))), .unset, .unset, .unset, .unset, .unset, .unset, .unset, .unset] [])
  obtain ⟨la, eq_la⟩ : ∃ z, z = ((p3 &&& (3 : Int32)) % (3 : Int32)) := ⟨_, rfl⟩
  rw [← eq_la]
  show GoH _ _ _ _ _ _ _ _ _ _  s₁ (mkF m 40 #[.val (.int p1), .val (.int p2), .val (.int p3), .val (.int p4), .val (.int ka), .val (.int kb), .val (.int la), .unset, .unset, .unset, .unset, .unset, .unset, .unset, .unset] [])
  refine GoH.st (fun t k => XS.iloadN X0.here hx rfl (hb hby at_40) rfl  k) ?_
  show GoH _ _ _ _ _ _ _ _ _ _  s₁ (mkF m 41 #[.val (.int p1), .val (.int p2), .val (.int p3), .val (.int p4), .val (.int ka), .val (.int kb), .val (.int la), .unset, .unset, .unset, .unset, .unset, .unset, .unset, .unset] [(.int p3)])
  refine GoH.st (fun t k => XS.iconst X0.here hx rfl (hb hby at_41) k) ?_
  show GoH _ _ _ _ _ _ _ _ _ _  s₁ (mkF m 42 #[.val (.int p1), .val (.int p2), .val (.int p3), .val (.int p4), .val (.int ka), .val (.int kb), .val (.int la), .unset, .unset, .unset, .unset, .unset, .unset, .unset, .unset] [(.int (2 : Int32)), (.int p3)])
  refine GoH.st (fun t k => XS.iushr X0.here hx rfl (hb hby at_42) rfl k) ?_
  show GoH _ _ _ _ _ _ _ _ _ _  s₁ (mkF m 43 #[.val (.int p1), .val (.int p2), .val (.int p3), .val (.int p4), .val (.int ka), .val (.int kb), .val (.int la), .unset, .unset, .unset, .unset, .unset, .unset, .unset, .unset] [(.int ((p3.toUInt32 >>> ((2 : Int32) &&& 31).toUInt32).toInt32))])
  refine GoH.st (fun t k => XS.sipush X0.here hx rfl (hb hby at_43) k) ?_
  show GoH _ _ _ _ _ _ _ _ _ _  s₁ (mkF m 46 #[.val (.int p1), .val (.int p2), .val (.int p3), .val (.int p4), .val (.int ka), .val (.int kb), .val (.int la), .unset, .unset, .unset, .unset, .unset, .unset, .unset, .unset] [(.int (255 : Int32)), (.int ((p3.toUInt32 >>> ((2 : Int32) &&& 31).toUInt32).toInt32))])
  refine GoH.st (fun t k => XS.iand X0.here hx rfl (hb hby at_46) rfl k) ?_
  show GoH _ _ _ _ _ _ _ _ _ _  s₁ (mkF m 47 #[.val (.int p1), .val (.int p2), .val (.int p3), .val (.int p4), .val (.int ka), .val (.int kb), .val (.int la), .unset, .unset, .unset, .unset, .unset, .unset, .unset, .unset] [(.int (((p3.toUInt32 >>> ((2 : Int32) &&& 31).toUInt32).toInt32) &&& (255 : Int32)))])
  refine GoH.st (fun t k => XS.i2c X0.here hx rfl (hb hby at_47) rfl k) ?_
  show GoH _ _ _ _ _ _ _ _ _ _  s₁ (mkF m 48 #[.val (.int p1), .val (.int p2), .val (.int p3), .val (.int p4), .val (.int ka), .val (.int kb), .val (.int la), .unset, .unset, .unset, .unset, .unset, .unset, .unset, .unset] [(.int ((((p3.toUInt32 >>> ((2 : Int32) &&& 31).toUInt32).toInt32) &&& (255 : Int32)).toUInt32.toUInt16.toUInt32.toInt32))])
  refine GoH.st (fun t k => XS.istore X0.here hx rfl (hb hby at_48) rfl (l' := #[.val (.int p1), .val (.int p2), .val (.int p3), .val (.int p4), .val (.int ka), .val (.int kb), .val (.int la), .val (.int ((((p3.toUInt32 >>> ((2 : Int32) &&& 31).toUInt32).toInt32) &&& (255 : Int32)).toUInt32.toUInt16.toUInt32.toInt32)), .unset, .unset, .unset, .unset, .unset, .unset, .unset]) rfl k) ?_
  show GoH _ _ _ _ _ _ _ _ _ _  s₁ (mkF m 50 #[.val (.int p1), .val (.int p2), .val (.int p3), .val (.int p4), .val (.int ka), .val (.int kb), .val (.int la), .val (.int ((((p3.toUInt32 >>> ((2 : Int32) &&& 31).toUInt32).toInt32) &&& (255 : Int32)).toUInt32.toUInt16.toUInt32.toInt32)), .unset, .unset, .unset, .unset, .unset, .unset, .unset] [])
  obtain ⟨c0, eq_c0⟩ : ∃ z, z = ((((p3.toUInt32 >>> ((2 : Int32) &&& 31).toUInt32).toInt32) &&& (255 : Int32)).toUInt32.toUInt16.toUInt32.toInt32) := ⟨_, rfl⟩
  rw [← eq_c0]
  show GoH _ _ _ _ _ _ _ _ _ _  s₁ (mkF m 50 #[.val (.int p1), .val (.int p2), .val (.int p3), .val (.int p4), .val (.int ka), .val (.int kb), .val (.int la), .val (.int c0), .unset, .unset, .unset, .unset, .unset, .unset, .unset] [])
  refine GoH.st (fun t k => XS.iloadN X0.here hx rfl (hb hby at_50) rfl  k) ?_
  show GoH _ _ _ _ _ _ _ _ _ _  s₁ (mkF m 51 #[.val (.int p1), .val (.int p2), .val (.int p3), .val (.int p4), .val (.int ka), .val (.int kb), .val (.int la), .val (.int c0), .unset, .unset, .unset, .unset, .unset, .unset, .unset] [(.int p3)])
  refine GoH.st (fun t k => XS.bipush X0.here hx rfl (hb hby at_51) k) ?_
  show GoH _ _ _ _ _ _ _ _ _ _  s₁ (mkF m 53 #[.val (.int p1), .val (.int p2), .val (.int p3), .val (.int p4), .val (.int ka), .val (.int kb), .val (.int la), .val (.int c0), .unset, .unset, .unset, .unset, .unset, .unset, .unset] [(.int (10 : Int32)), (.int p3)])
  refine GoH.st (fun t k => XS.iushr X0.here hx rfl (hb hby at_53) rfl k) ?_
  show GoH _ _ _ _ _ _ _ _ _ _  s₁ (mkF m 54 #[.val (.int p1), .val (.int p2), .val (.int p3), .val (.int p4), .val (.int ka), .val (.int kb), .val (.int la), .val (.int c0), .unset, .unset, .unset, .unset, .unset, .unset, .unset] [(.int ((p3.toUInt32 >>> ((10 : Int32) &&& 31).toUInt32).toInt32))])
  refine GoH.st (fun t k => XS.sipush X0.here hx rfl (hb hby at_54) k) ?_
  show GoH _ _ _ _ _ _ _ _ _ _  s₁ (mkF m 57 #[.val (.int p1), .val (.int p2), .val (.int p3), .val (.int p4), .val (.int ka), .val (.int kb), .val (.int la), .val (.int c0), .unset, .unset, .unset, .unset, .unset, .unset, .unset] [(.int (255 : Int32)), (.int ((p3.toUInt32 >>> ((10 : Int32) &&& 31).toUInt32).toInt32))])
  refine GoH.st (fun t k => XS.iand X0.here hx rfl (hb hby at_57) rfl k) ?_
  show GoH _ _ _ _ _ _ _ _ _ _  s₁ (mkF m 58 #[.val (.int p1), .val (.int p2), .val (.int p3), .val (.int p4), .val (.int ka), .val (.int kb), .val (.int la), .val (.int c0), .unset, .unset, .unset, .unset, .unset, .unset, .unset] [(.int (((p3.toUInt32 >>> ((10 : Int32) &&& 31).toUInt32).toInt32) &&& (255 : Int32)))])
  refine GoH.st (fun t k => XS.i2c X0.here hx rfl (hb hby at_58) rfl k) ?_
  show GoH _ _ _ _ _ _ _ _ _ _  s₁ (mkF m 59 #[.val (.int p1), .val (.int p2), .val (.int p3), .val (.int p4), .val (.int ka), .val (.int kb), .val (.int la), .val (.int c0), .unset, .unset, .unset, .unset, .unset, .unset, .unset] [(.int ((((p3.toUInt32 >>> ((10 : Int32) &&& 31).toUInt32).toInt32) &&& (255 : Int32)).toUInt32.toUInt16.toUInt32.toInt32))])
  refine GoH.st (fun t k => XS.istore X0.here hx rfl (hb hby at_59) rfl (l' := #[.val (.int p1), .val (.int p2), .val (.int p3), .val (.int p4), .val (.int ka), .val (.int kb), .val (.int la), .val (.int c0), .val (.int ((((p3.toUInt32 >>> ((10 : Int32) &&& 31).toUInt32).toInt32) &&& (255 : Int32)).toUInt32.toUInt16.toUInt32.toInt32)), .unset, .unset, .unset, .unset, .unset, .unset]) rfl k) ?_
  show GoH _ _ _ _ _ _ _ _ _ _  s₁ (mkF m 61 #[.val (.int p1), .val (.int p2), .val (.int p3), .val (.int p4), .val (.int ka), .val (.int kb), .val (.int la), .val (.int c0), .val (.int ((((p3.toUInt32 >>> ((10 : Int32) &&& 31).toUInt32).toInt32) &&& (255 : Int32)).toUInt32.toUInt16.toUInt32.toInt32)), .unset, .unset, .unset, .unset, .unset, .unset] [])
  obtain ⟨c1, eq_c1⟩ : ∃ z, z = ((((p3.toUInt32 >>> ((10 : Int32) &&& 31).toUInt32).toInt32) &&& (255 : Int32)).toUInt32.toUInt16.toUInt32.toInt32) := ⟨_, rfl⟩
  rw [← eq_c1]
  show GoH _ _ _ _ _ _ _ _ _ _  s₁ (mkF m 61 #[.val (.int p1), .val (.int p2), .val (.int p3), .val (.int p4), .val (.int ka), .val (.int kb), .val (.int la), .val (.int c0), .val (.int c1), .unset, .unset, .unset, .unset, .unset, .unset] [])
  refine GoH.st (fun t k => XS.iloadN X0.here hx rfl (hb hby at_61) rfl  k) ?_
  show GoH _ _ _ _ _ _ _ _ _ _  s₁ (mkF m 62 #[.val (.int p1), .val (.int p2), .val (.int p3), .val (.int p4), .val (.int ka), .val (.int kb), .val (.int la), .val (.int c0), .val (.int c1), .unset, .unset, .unset, .unset, .unset, .unset] [(.int p4)])
  refine GoH.st (fun t k => XS.iconst X0.here hx rfl (hb hby at_62) k) ?_
  show GoH _ _ _ _ _ _ _ _ _ _  s₁ (mkF m 63 #[.val (.int p1), .val (.int p2), .val (.int p3), .val (.int p4), .val (.int ka), .val (.int kb), .val (.int la), .val (.int c0), .val (.int c1), .unset, .unset, .unset, .unset, .unset, .unset] [(.int (1 : Int32)), (.int p4)])
  refine GoH.st (fun t k => XS.iand X0.here hx rfl (hb hby at_63) rfl k) ?_
  show GoH _ _ _ _ _ _ _ _ _ _  s₁ (mkF m 64 #[.val (.int p1), .val (.int p2), .val (.int p3), .val (.int p4), .val (.int ka), .val (.int kb), .val (.int la), .val (.int c0), .val (.int c1), .unset, .unset, .unset, .unset, .unset, .unset] [(.int (p4 &&& (1 : Int32)))])
  refine GoH.st (T' := s₁) (g' := (mkF m 79 #[.val (.int p1), .val (.int p2), .val (.int p3), .val (.int p4), .val (.int ka), .val (.int kb), .val (.int la), .val (.int c0), .val (.int c1), .unset, .unset, .unset, .unset, .unset, .unset] [(.int (if (p4 &&& (1 : Int32)) = (0 : Int32) then ((((p4.toUInt32 >>> ((1 : Int32) &&& 31).toUInt32).toInt32) &&& (3 : Int32)) % (3 : Int32)) else la))])) (fun t k => ?_) ?_
  · show Steps p.tables e below (s₁.setTop (mkF m 64 #[.val (.int p1), .val (.int p2), .val (.int p3), .val (.int p4), .val (.int ka), .val (.int kb), .val (.int la), .val (.int c0), .val (.int c1), .unset, .unset, .unset, .unset, .unset, .unset] [(.int (p4 &&& (1 : Int32)))])) _
    by_cases c64_2 : (p4 &&& (1 : Int32)) = (0 : Int32)
    · refine XS.ifYes X0.here hx rfl (pc0 := 64) (pc' := 72) rfl (hb hby at_64) rfl ((if0 _ _).trans (teq c64_2).1) (by decide) (by decide) ?_
      show Steps p.tables e below (s₁.setTop (mkF m 72 #[.val (.int p1), .val (.int p2), .val (.int p3), .val (.int p4), .val (.int ka), .val (.int kb), .val (.int la), .val (.int c0), .val (.int c1), .unset, .unset, .unset, .unset, .unset, .unset] [])) _
      refine XS.iloadN X0.here hx rfl (hb hby at_72) rfl  ?_
      show Steps p.tables e below (s₁.setTop (mkF m 73 #[.val (.int p1), .val (.int p2), .val (.int p3), .val (.int p4), .val (.int ka), .val (.int kb), .val (.int la), .val (.int c0), .val (.int c1), .unset, .unset, .unset, .unset, .unset, .unset] [(.int p4)])) _
      refine XS.iconst X0.here hx rfl (hb hby at_73) ?_
      show Steps p.tables e below (s₁.setTop (mkF m 74 #[.val (.int p1), .val (.int p2), .val (.int p3), .val (.int p4), .val (.int ka), .val (.int kb), .val (.int la), .val (.int c0), .val (.int c1), .unset, .unset, .unset, .unset, .unset, .unset] [(.int (1 : Int32)), (.int p4)])) _
      refine XS.iushr X0.here hx rfl (hb hby at_74) rfl ?_
      show Steps p.tables e below (s₁.setTop (mkF m 75 #[.val (.int p1), .val (.int p2), .val (.int p3), .val (.int p4), .val (.int ka), .val (.int kb), .val (.int la), .val (.int c0), .val (.int c1), .unset, .unset, .unset, .unset, .unset, .unset] [(.int ((p4.toUInt32 >>> ((1 : Int32) &&& 31).toUInt32).toInt32))])) _
      refine XS.iconst X0.here hx rfl (hb hby at_75) ?_
      show Steps p.tables e below (s₁.setTop (mkF m 76 #[.val (.int p1), .val (.int p2), .val (.int p3), .val (.int p4), .val (.int ka), .val (.int kb), .val (.int la), .val (.int c0), .val (.int c1), .unset, .unset, .unset, .unset, .unset, .unset] [(.int (3 : Int32)), (.int ((p4.toUInt32 >>> ((1 : Int32) &&& 31).toUInt32).toInt32))])) _
      refine XS.iand X0.here hx rfl (hb hby at_76) rfl ?_
      show Steps p.tables e below (s₁.setTop (mkF m 77 #[.val (.int p1), .val (.int p2), .val (.int p3), .val (.int p4), .val (.int ka), .val (.int kb), .val (.int la), .val (.int c0), .val (.int c1), .unset, .unset, .unset, .unset, .unset, .unset] [(.int (((p4.toUInt32 >>> ((1 : Int32) &&& 31).toUInt32).toInt32) &&& (3 : Int32)))])) _
      refine XS.iconst X0.here hx rfl (hb hby at_77) ?_
      show Steps p.tables e below (s₁.setTop (mkF m 78 #[.val (.int p1), .val (.int p2), .val (.int p3), .val (.int p4), .val (.int ka), .val (.int kb), .val (.int la), .val (.int c0), .val (.int c1), .unset, .unset, .unset, .unset, .unset, .unset] [(.int (3 : Int32)), (.int (((p4.toUInt32 >>> ((1 : Int32) &&& 31).toUInt32).toInt32) &&& (3 : Int32)))])) _
      refine Jvm.RoadKit.iremM X0 hx rfl (hb hby at_78) rfl (by decide) ?_
      (try simp only [if_pos c64_2] at k); exact k
    · refine XS.ifNo X0.here hx rfl (hb hby at_64) rfl ((if0 _ _).trans (feq c64_2).1) ?_
      show Steps p.tables e below (s₁.setTop (mkF m 67 #[.val (.int p1), .val (.int p2), .val (.int p3), .val (.int p4), .val (.int ka), .val (.int kb), .val (.int la), .val (.int c0), .val (.int c1), .unset, .unset, .unset, .unset, .unset, .unset] [])) _
      refine XS.iload X0.here hx rfl (hb hby at_67) rfl  ?_
      show Steps p.tables e below (s₁.setTop (mkF m 69 #[.val (.int p1), .val (.int p2), .val (.int p3), .val (.int p4), .val (.int ka), .val (.int kb), .val (.int la), .val (.int c0), .val (.int c1), .unset, .unset, .unset, .unset, .unset, .unset] [(.int la)])) _
      refine XS.goto X0.here hx rfl (pc0 := 69) (pc' := 79) rfl (hb hby at_69) (by decide) (by decide) ?_
      (try simp only [if_neg c64_2] at k); exact k
  show GoH _ _ _ _ _ _ _ _ _ _  s₁ (mkF m 79 #[.val (.int p1), .val (.int p2), .val (.int p3), .val (.int p4), .val (.int ka), .val (.int kb), .val (.int la), .val (.int c0), .val (.int c1), .unset, .unset, .unset, .unset, .unset, .unset] [(.int (if (p4 &&& (1 : Int32)) = (0 : Int32) then ((((p4.toUInt32 >>> ((1 : Int32) &&& 31).toUInt32).toInt32) &&& (3 : Int32)) % (3 : Int32)) else la))])
  refine GoH.st (fun t k => XS.istore X0.here hx rfl (hb hby at_79) rfl (l' := #[.val (.int p1), .val (.int p2), .val (.int p3), .val (.int p4), .val (.int ka), .val (.int kb), .val (.int la), .val (.int c0), .val (.int c1), .val (.int (if (p4 &&& (1 : Int32)) = (0 : Int32) then ((((p4.toUInt32 >>> ((1 : Int32) &&& 31).toUInt32).toInt32) &&& (3 : Int32)) % (3 : Int32)) else la)), .unset, .unset, .unset, .unset, .unset]) rfl k) ?_
  show GoH _ _ _ _ _ _ _ _ _ _  s₁ (mkF m 81 #[.val (.int p1), .val (.int p2), .val (.int p3), .val (.int p4), .val (.int ka), .val (.int kb), .val (.int la), .val (.int c0), .val (.int c1), .val (.int (if (p4 &&& (1 : Int32)) = (0 : Int32) then ((((p4.toUInt32 >>> ((1 : Int32) &&& 31).toUInt32).toInt32) &&& (3 : Int32)) % (3 : Int32)) else la)), .unset, .unset, .unset, .unset, .unset] [])
  obtain ⟨lb, eq_lb⟩ : ∃ z, z = (if (p4 &&& (1 : Int32)) = (0 : Int32) then ((((p4.toUInt32 >>> ((1 : Int32) &&& 31).toUInt32).toInt32) &&& (3 : Int32)) % (3 : Int32)) else la) := ⟨_, rfl⟩
  rw [← eq_lb]
  show GoH _ _ _ _ _ _ _ _ _ _  s₁ (mkF m 81 #[.val (.int p1), .val (.int p2), .val (.int p3), .val (.int p4), .val (.int ka), .val (.int kb), .val (.int la), .val (.int c0), .val (.int c1), .val (.int lb), .unset, .unset, .unset, .unset, .unset] [])
  refine GoH.st (fun t k => XS.iloadN X0.here hx rfl (hb hby at_81) rfl  k) ?_
  show GoH _ _ _ _ _ _ _ _ _ _  s₁ (mkF m 82 #[.val (.int p1), .val (.int p2), .val (.int p3), .val (.int p4), .val (.int ka), .val (.int kb), .val (.int la), .val (.int c0), .val (.int c1), .val (.int lb), .unset, .unset, .unset, .unset, .unset] [(.int p4)])
  refine GoH.st (fun t k => XS.bipush X0.here hx rfl (hb hby at_82) k) ?_
  show GoH _ _ _ _ _ _ _ _ _ _  s₁ (mkF m 84 #[.val (.int p1), .val (.int p2), .val (.int p3), .val (.int p4), .val (.int ka), .val (.int kb), .val (.int la), .val (.int c0), .val (.int c1), .val (.int lb), .unset, .unset, .unset, .unset, .unset] [(.int (8 : Int32)), (.int p4)])
  refine GoH.st (fun t k => XS.iand X0.here hx rfl (hb hby at_84) rfl k) ?_
  show GoH _ _ _ _ _ _ _ _ _ _  s₁ (mkF m 85 #[.val (.int p1), .val (.int p2), .val (.int p3), .val (.int p4), .val (.int ka), .val (.int kb), .val (.int la), .val (.int c0), .val (.int c1), .val (.int lb), .unset, .unset, .unset, .unset, .unset] [(.int (p4 &&& (8 : Int32)))])
  refine GoH.st (T' := s₁) (g' := (mkF m 101 #[.val (.int p1), .val (.int p2), .val (.int p3), .val (.int p4), .val (.int ka), .val (.int kb), .val (.int la), .val (.int c0), .val (.int c1), .val (.int lb), .unset, .unset, .unset, .unset, .unset] [(.int (if (p4 &&& (8 : Int32)) = (0 : Int32) then ((((p4.toUInt32 >>> ((4 : Int32) &&& 31).toUInt32).toInt32) &&& (255 : Int32)).toUInt32.toUInt16.toUInt32.toInt32) else c0))])) (fun t k => ?_) ?_
  · show Steps p.tables e below (s₁.setTop (mkF m 85 #[.val (.int p1), .val (.int p2), .val (.int p3), .val (.int p4), .val (.int ka), .val (.int kb), .val (.int la), .val (.int c0), .val (.int c1), .val (.int lb), .unset, .unset, .unset, .unset, .unset] [(.int (p4 &&& (8 : Int32)))])) _
    by_cases c85_3 : (p4 &&& (8 : Int32)) = (0 : Int32)
    · refine XS.ifYes X0.here hx rfl (pc0 := 85) (pc' := 93) rfl (hb hby at_85) rfl ((if0 _ _).trans (teq c85_3).1) (by decide) (by decide) ?_
      show Steps p.tables e below (s₁.setTop (mkF m 93 #[.val (.int p1), .val (.int p2), .val (.int p3), .val (.int p4), .val (.int ka), .val (.int kb), .val (.int la), .val (.int c0), .val (.int c1), .val (.int lb), .unset, .unset, .unset, .unset, .unset] [])) _
      refine XS.iloadN X0.here hx rfl (hb hby at_93) rfl  ?_
      show Steps p.tables e below (s₁.setTop (mkF m 94 #[.val (.int p1), .val (.int p2), .val (.int p3), .val (.int p4), .val (.int ka), .val (.int kb), .val (.int la), .val (.int c0), .val (.int c1), .val (.int lb), .unset, .unset, .unset, .unset, .unset] [(.int p4)])) _
      refine XS.iconst X0.here hx rfl (hb hby at_94) ?_
      show Steps p.tables e below (s₁.setTop (mkF m 95 #[.val (.int p1), .val (.int p2), .val (.int p3), .val (.int p4), .val (.int ka), .val (.int kb), .val (.int la), .val (.int c0), .val (.int c1), .val (.int lb), .unset, .unset, .unset, .unset, .unset] [(.int (4 : Int32)), (.int p4)])) _
      refine XS.iushr X0.here hx rfl (hb hby at_95) rfl ?_
      show Steps p.tables e below (s₁.setTop (mkF m 96 #[.val (.int p1), .val (.int p2), .val (.int p3), .val (.int p4), .val (.int ka), .val (.int kb), .val (.int la), .val (.int c0), .val (.int c1), .val (.int lb), .unset, .unset, .unset, .unset, .unset] [(.int ((p4.toUInt32 >>> ((4 : Int32) &&& 31).toUInt32).toInt32))])) _
      refine XS.sipush X0.here hx rfl (hb hby at_96) ?_
      show Steps p.tables e below (s₁.setTop (mkF m 99 #[.val (.int p1), .val (.int p2), .val (.int p3), .val (.int p4), .val (.int ka), .val (.int kb), .val (.int la), .val (.int c0), .val (.int c1), .val (.int lb), .unset, .unset, .unset, .unset, .unset] [(.int (255 : Int32)), (.int ((p4.toUInt32 >>> ((4 : Int32) &&& 31).toUInt32).toInt32))])) _
      refine XS.iand X0.here hx rfl (hb hby at_99) rfl ?_
      show Steps p.tables e below (s₁.setTop (mkF m 100 #[.val (.int p1), .val (.int p2), .val (.int p3), .val (.int p4), .val (.int ka), .val (.int kb), .val (.int la), .val (.int c0), .val (.int c1), .val (.int lb), .unset, .unset, .unset, .unset, .unset] [(.int (((p4.toUInt32 >>> ((4 : Int32) &&& 31).toUInt32).toInt32) &&& (255 : Int32)))])) _
      refine XS.i2c X0.here hx rfl (hb hby at_100) rfl ?_
      (try simp only [if_pos c85_3] at k); exact k
    · refine XS.ifNo X0.here hx rfl (hb hby at_85) rfl ((if0 _ _).trans (feq c85_3).1) ?_
      show Steps p.tables e below (s₁.setTop (mkF m 88 #[.val (.int p1), .val (.int p2), .val (.int p3), .val (.int p4), .val (.int ka), .val (.int kb), .val (.int la), .val (.int c0), .val (.int c1), .val (.int lb), .unset, .unset, .unset, .unset, .unset] [])) _
      refine XS.iload X0.here hx rfl (hb hby at_88) rfl  ?_
      show Steps p.tables e below (s₁.setTop (mkF m 90 #[.val (.int p1), .val (.int p2), .val (.int p3), .val (.int p4), .val (.int ka), .val (.int kb), .val (.int la), .val (.int c0), .val (.int c1), .val (.int lb), .unset, .unset, .unset, .unset, .unset] [(.int c0)])) _
      refine XS.goto X0.here hx rfl (pc0 := 90) (pc' := 101) rfl (hb hby at_90) (by decide) (by decide) ?_
      (try simp only [if_neg c85_3] at k); exact k
  show GoH _ _ _ _ _ _ _ _ _ _  s₁ (mkF m 101 #[.val (.int p1), .val (.int p2), .val (.int p3), .val (.int p4), .val (.int ka), .val (.int kb), .val (.int la), .val (.int c0), .val (.int c1), .val (.int lb), .unset, .unset, .unset, .unset, .unset] [(.int (if (p4 &&& (8 : Int32)) = (0 : Int32) then ((((p4.toUInt32 >>> ((4 : Int32) &&& 31).toUInt32).toInt32) &&& (255 : Int32)).toUInt32.toUInt16.toUInt32.toInt32) else c0))])
  refine GoH.st (fun t k => XS.istore X0.here hx rfl (hb hby at_101) rfl (l' := #[.val (.int p1), .val (.int p2), .val (.int p3), .val (.int p4), .val (.int ka), .val (.int kb), .val (.int la), .val (.int c0), .val (.int c1), .val (.int lb), .val (.int (if (p4 &&& (8 : Int32)) = (0 : Int32) then ((((p4.toUInt32 >>> ((4 : Int32) &&& 31).toUInt32).toInt32) &&& (255 : Int32)).toUInt32.toUInt16.toUInt32.toInt32) else c0)), .unset, .unset, .unset, .unset]) rfl k) ?_
  show GoH _ _ _ _ _ _ _ _ _ _  s₁ (mkF m 103 #[.val (.int p1), .val (.int p2), .val (.int p3), .val (.int p4), .val (.int ka), .val (.int kb), .val (.int la), .val (.int c0), .val (.int c1), .val (.int lb), .val (.int (if (p4 &&& (8 : Int32)) = (0 : Int32) then ((((p4.toUInt32 >>> ((4 : Int32) &&& 31).toUInt32).toInt32) &&& (255 : Int32)).toUInt32.toUInt16.toUInt32.toInt32) else c0)), .unset, .unset, .unset, .unset] [])
  obtain ⟨d0, eq_d0⟩ : ∃ z, z = (if (p4 &&& (8 : Int32)) = (0 : Int32) then ((((p4.toUInt32 >>> ((4 : Int32) &&& 31).toUInt32).toInt32) &&& (255 : Int32)).toUInt32.toUInt16.toUInt32.toInt32) else c0) := ⟨_, rfl⟩
  rw [← eq_d0]
  show GoH _ _ _ _ _ _ _ _ _ _  s₁ (mkF m 103 #[.val (.int p1), .val (.int p2), .val (.int p3), .val (.int p4), .val (.int ka), .val (.int kb), .val (.int la), .val (.int c0), .val (.int c1), .val (.int lb), .val (.int d0), .unset, .unset, .unset, .unset] [])
  refine GoH.st (fun t k => XS.iloadN X0.here hx rfl (hb hby at_103) rfl  k) ?_
  show GoH _ _ _ _ _ _ _ _ _ _  s₁ (mkF m 104 #[.val (.int p1), .val (.int p2), .val (.int p3), .val (.int p4), .val (.int ka), .val (.int kb), .val (.int la), .val (.int c0), .val (.int c1), .val (.int lb), .val (.int d0), .unset, .unset, .unset, .unset] [(.int p4)])
  refine GoH.st (fun t k => XS.sipush X0.here hx rfl (hb hby at_104) k) ?_
  show GoH _ _ _ _ _ _ _ _ _ _  s₁ (mkF m 107 #[.val (.int p1), .val (.int p2), .val (.int p3), .val (.int p4), .val (.int ka), .val (.int kb), .val (.int la), .val (.int c0), .val (.int c1), .val (.int lb), .val (.int d0), .unset, .unset, .unset, .unset] [(.int (4096 : Int32)), (.int p4)])
  refine GoH.st (fun t k => XS.iand X0.here hx rfl (hb hby at_107) rfl k) ?_
  show GoH _ _ _ _ _ _ _ _ _ _  s₁ (mkF m 108 #[.val (.int p1), .val (.int p2), .val (.int p3), .val (.int p4), .val (.int ka), .val (.int kb), .val (.int la), .val (.int c0), .val (.int c1), .val (.int lb), .val (.int d0), .unset, .unset, .unset, .unset] [(.int (p4 &&& (4096 : Int32)))])
  refine GoH.st (T' := s₁) (g' := (mkF m 125 #[.val (.int p1), .val (.int p2), .val (.int p3), .val (.int p4), .val (.int ka), .val (.int kb), .val (.int la), .val (.int c0), .val (.int c1), .val (.int lb), .val (.int d0), .unset, .unset, .unset, .unset] [(.int (if (p4 &&& (4096 : Int32)) = (0 : Int32) then ((((p4.toUInt32 >>> ((13 : Int32) &&& 31).toUInt32).toInt32) &&& (255 : Int32)).toUInt32.toUInt16.toUInt32.toInt32) else c1))])) (fun t k => ?_) ?_
  · show Steps p.tables e below (s₁.setTop (mkF m 108 #[.val (.int p1), .val (.int p2), .val (.int p3), .val (.int p4), .val (.int ka), .val (.int kb), .val (.int la), .val (.int c0), .val (.int c1), .val (.int lb), .val (.int d0), .unset, .unset, .unset, .unset] [(.int (p4 &&& (4096 : Int32)))])) _
    by_cases c108_4 : (p4 &&& (4096 : Int32)) = (0 : Int32)
    · refine XS.ifYes X0.here hx rfl (pc0 := 108) (pc' := 116) rfl (hb hby at_108) rfl ((if0 _ _).trans (teq c108_4).1) (by decide) (by decide) ?_
      show Steps p.tables e below (s₁.setTop (mkF m 116 #[.val (.int p1), .val (.int p2), .val (.int p3), .val (.int p4), .val (.int ka), .val (.int kb), .val (.int la), .val (.int c0), .val (.int c1), .val (.int lb), .val (.int d0), .unset, .unset, .unset, .unset] [])) _
      refine XS.iloadN X0.here hx rfl (hb hby at_116) rfl  ?_
      show Steps p.tables e below (s₁.setTop (mkF m 117 #[.val (.int p1), .val (.int p2), .val (.int p3), .val (.int p4), .val (.int ka), .val (.int kb), .val (.int la), .val (.int c0), .val (.int c1), .val (.int lb), .val (.int d0), .unset, .unset, .unset, .unset] [(.int p4)])) _
      refine XS.bipush X0.here hx rfl (hb hby at_117) ?_
      show Steps p.tables e below (s₁.setTop (mkF m 119 #[.val (.int p1), .val (.int p2), .val (.int p3), .val (.int p4), .val (.int ka), .val (.int kb), .val (.int la), .val (.int c0), .val (.int c1), .val (.int lb), .val (.int d0), .unset, .unset, .unset, .unset] [(.int (13 : Int32)), (.int p4)])) _
      refine XS.iushr X0.here hx rfl (hb hby at_119) rfl ?_
      show Steps p.tables e below (s₁.setTop (mkF m 120 #[.val (.int p1), .val (.int p2), .val (.int p3), .val (.int p4), .val (.int ka), .val (.int kb), .val (.int la), .val (.int c0), .val (.int c1), .val (.int lb), .val (.int d0), .unset, .unset, .unset, .unset] [(.int ((p4.toUInt32 >>> ((13 : Int32) &&& 31).toUInt32).toInt32))])) _
      refine XS.sipush X0.here hx rfl (hb hby at_120) ?_
      show Steps p.tables e below (s₁.setTop (mkF m 123 #[.val (.int p1), .val (.int p2), .val (.int p3), .val (.int p4), .val (.int ka), .val (.int kb), .val (.int la), .val (.int c0), .val (.int c1), .val (.int lb), .val (.int d0), .unset, .unset, .unset, .unset] [(.int (255 : Int32)), (.int ((p4.toUInt32 >>> ((13 : Int32) &&& 31).toUInt32).toInt32))])) _
      refine XS.iand X0.here hx rfl (hb hby at_123) rfl ?_
      show Steps p.tables e below (s₁.setTop (mkF m 124 #[.val (.int p1), .val (.int p2), .val (.int p3), .val (.int p4), .val (.int ka), .val (.int kb), .val (.int la), .val (.int c0), .val (.int c1), .val (.int lb), .val (.int d0), .unset, .unset, .unset, .unset] [(.int (((p4.toUInt32 >>> ((13 : Int32) &&& 31).toUInt32).toInt32) &&& (255 : Int32)))])) _
      refine XS.i2c X0.here hx rfl (hb hby at_124) rfl ?_
      (try simp only [if_pos c108_4] at k); exact k
    · refine XS.ifNo X0.here hx rfl (hb hby at_108) rfl ((if0 _ _).trans (feq c108_4).1) ?_
      show Steps p.tables e below (s₁.setTop (mkF m 111 #[.val (.int p1), .val (.int p2), .val (.int p3), .val (.int p4), .val (.int ka), .val (.int kb), .val (.int la), .val (.int c0), .val (.int c1), .val (.int lb), .val (.int d0), .unset, .unset, .unset, .unset] [])) _
      refine XS.iload X0.here hx rfl (hb hby at_111) rfl  ?_
      show Steps p.tables e below (s₁.setTop (mkF m 113 #[.val (.int p1), .val (.int p2), .val (.int p3), .val (.int p4), .val (.int ka), .val (.int kb), .val (.int la), .val (.int c0), .val (.int c1), .val (.int lb), .val (.int d0), .unset, .unset, .unset, .unset] [(.int c1)])) _
      refine XS.goto X0.here hx rfl (pc0 := 113) (pc' := 125) rfl (hb hby at_113) (by decide) (by decide) ?_
      (try simp only [if_neg c108_4] at k); exact k
  show GoH _ _ _ _ _ _ _ _ _ _  s₁ (mkF m 125 #[.val (.int p1), .val (.int p2), .val (.int p3), .val (.int p4), .val (.int ka), .val (.int kb), .val (.int la), .val (.int c0), .val (.int c1), .val (.int lb), .val (.int d0), .unset, .unset, .unset, .unset] [(.int (if (p4 &&& (4096 : Int32)) = (0 : Int32) then ((((p4.toUInt32 >>> ((13 : Int32) &&& 31).toUInt32).toInt32) &&& (255 : Int32)).toUInt32.toUInt16.toUInt32.toInt32) else c1))])
  refine GoH.st (fun t k => XS.istore X0.here hx rfl (hb hby at_125) rfl (l' := #[.val (.int p1), .val (.int p2), .val (.int p3), .val (.int p4), .val (.int ka), .val (.int kb), .val (.int la), .val (.int c0), .val (.int c1), .val (.int lb), .val (.int d0), .val (.int (if (p4 &&& (4096 : Int32)) = (0 : Int32) then ((((p4.toUInt32 >>> ((13 : Int32) &&& 31).toUInt32).toInt32) &&& (255 : Int32)).toUInt32.toUInt16.toUInt32.toInt32) else c1)), .unset, .unset, .unset]) rfl k) ?_
  show GoH _ _ _ _ _ _ _ _ _ _  s₁ (mkF m 127 #[.val (.int p1), .val (.int p2), .val (.int p3), .val (.int p4), .val (.int ka), .val (.int kb), .val (.int la), .val (.int c0), .val (.int c1), .val (.int lb), .val (.int d0), .val (.int (if (p4 &&& (4096 : Int32)) = (0 : Int32) then ((((p4.toUInt32 >>> ((13 : Int32) &&& 31).toUInt32).toInt32) &&& (255 : Int32)).toUInt32.toUInt16.toUInt32.toInt32) else c1)), .unset, .unset, .unset] [])
  obtain ⟨d1, eq_d1⟩ : ∃ z, z = (if (p4 &&& (4096 : Int32)) = (0 : Int32) then ((((p4.toUInt32 >>> ((13 : Int32) &&& 31).toUInt32).toInt32) &&& (255 : Int32)).toUInt32.toUInt16.toUInt32.toInt32) else c1) := ⟨_, rfl⟩
  rw [← eq_d1]
  have hC0 : ¬ nar .char c0 < 0 ∧ ¬ (255 : Int32) < nar .char c0 := by rw [eq_c0]; exact own_m255 _
  have hC1 : ¬ nar .char c1 < 0 ∧ ¬ (255 : Int32) < nar .char c1 := by rw [eq_c1]; exact own_m255 _
  have hD0 : ¬ nar .char d0 < 0 ∧ ¬ (255 : Int32) < nar .char d0 := by rw [eq_d0]; split; exact own_m255 _; exact hC0
  have hD1 : ¬ nar .char d1 < 0 ∧ ¬ (255 : Int32) < nar .char d1 := by rw [eq_d1]; split; exact own_m255 _; exact hC1
  have hc0 : nar .char c0 = c0 := by rw [eq_c0]; exact own_i2c _
  have hc1 : nar .char c1 = c1 := by rw [eq_c1]; exact own_i2c _
  have hd0 : nar .char d0 = d0 := by rw [eq_d0]; split; exact own_i2c _; exact hc0
  have hd1 : nar .char d1 = d1 := by rw [eq_d1]; split; exact own_i2c _; exact hc1
  have hla : la = 0 ∨ la = 1 ∨ la = 2 := by rw [eq_la]; exact own_mod3_3 _
  have hlb : lb = 0 ∨ lb = 1 ∨ lb = 2 := by rw [eq_lb]; split; exact own_mod3_3 _; exact hla
  have hka : ka = 0 ∨ ka = 1 ∨ ka = 2 ∨ ka = 3 ∨ ka = 4 ∨ ka = 5 ∨ ka = 6 ∨ ka = 7 ∨ ka = 8 := by rw [eq_ka]; exact own_mod255_9 _
  have hkb : kb = 0 ∨ kb = 1 ∨ kb = 2 ∨ kb = 3 ∨ kb = 4 ∨ kb = 5 ∨ kb = 6 ∨ kb = 7 ∨ kb = 8 := by rw [eq_kb]; split; exact own_mod255_9 _; exact hka
  show GoH _ _ _ _ _ _ _ _ _ _  s₁ (mkF m 127 #[.val (.int p1), .val (.int p2), .val (.int p3), .val (.int p4), .val (.int ka), .val (.int kb), .val (.int la), .val (.int c0), .val (.int c1), .val (.int lb), .val (.int d0), .val (.int d1), .unset, .unset, .unset] [])
  obtain ⟨T5, h5, X5, e5, E5, A5, D5, -, st5⟩ := newO X0 hx hZ hown (hw _ (List.mem_of_getElem? (i := 0) rfl)) (hw _ (List.mem_of_getElem? (i := 1) rfl)) (hw _ (List.mem_of_getElem? (i := 2) rfl)) e0 (g := (mkF m 127 #[.val (.int p1), .val (.int p2), .val (.int p3), .val (.int p4), .val (.int ka), .val (.int kb), .val (.int la), .val (.int c0), .val (.int c1), .val (.int lb), .val (.int d0), .val (.int d1), .unset, .unset, .unset] [])) rfl (hb hby at_127) (by decide) (by decide)
  obtain ⟨b5, g5⟩ : ∃ z, z = h0.size := ⟨_, rfl⟩
  rw [← g5] at A5 D5 st5
  refine GoH.st st5 ?_
  have g_b5 : n0 ≤ b5 := by rw [g5]; exact own_le O
  have Sf_b5 : Safe Z EL s.vm h0 b5 := Safe.new (Nat.le_of_eq g5.symm)
  have sz_b5 : h0.size ≤ b5 := by rw [g5]; exact KK.1
  have Sf_b5 := Safe.ext E5 HH Sf_b5
  have RR := RR.trans (CHr.ext E5 HH)
  have HH := HH.ext E5
  have hk := Nat.le_trans hk E5.1
  have O := O.ext E5
  have KK := KK.ext E5
  have E_b5 := A5
  have F_kind_b5 : Fld Z h5 b5 "com/example/nodewell/nodewell/query/Token" "kind" "Lcom/example/nodewell/nodewell/query/Token$Kind;" .null := D5 (Or.inr (hw _ (List.mem_of_getElem? (i := 53) rfl))) (ty := (.object "com/example/nodewell/nodewell/query/Token$Kind")) (by decide)
  have F_text_b5 : Fld Z h5 b5 "com/example/nodewell/nodewell/query/Token" "text" "Ljava/lang/String;" .null := D5 (Or.inr (hw _ (List.mem_of_getElem? (i := 55) rfl))) (ty := (.object "java/lang/String")) (by decide)
  have F_start_b5 : Fld Z h5 b5 "com/example/nodewell/nodewell/query/Token" "start" "I" (.int (0 : Int32)) := D5 (Or.inr (hw _ (List.mem_of_getElem? (i := 57) rfl))) (ty := .int) (by decide)
  have F_end_b5 : Fld Z h5 b5 "com/example/nodewell/nodewell/query/Token" "end" "I" (.int (0 : Int32)) := D5 (Or.inr (hw _ (List.mem_of_getElem? (i := 59) rfl))) (ty := .int) (by decide)
  show GoH _ _ _ _ _ _ _ _ _ _  T5 (mkF m 130 #[.val (.int p1), .val (.int p2), .val (.int p3), .val (.int p4), .val (.int ka), .val (.int kb), .val (.int la), .val (.int c0), .val (.int c1), .val (.int lb), .val (.int d0), .val (.int d1), .unset, .unset, .unset] [(.ref b5)])
  refine GoH.st (fun t k => XS.dup X5.here hx rfl (hb hby at_130) rfl rfl k) ?_
  show GoH _ _ _ _ _ _ _ _ _ _  T5 (mkF m 131 #[.val (.int p1), .val (.int p2), .val (.int p3), .val (.int p4), .val (.int ka), .val (.int kb), .val (.int la), .val (.int c0), .val (.int c1), .val (.int lb), .val (.int d0), .val (.int d1), .unset, .unset, .unset] [(.ref b5), (.ref b5)])
  refine GoH.st (fun t k => XS.iload X5.here hx rfl (hb hby at_131) rfl  k) ?_
  show GoH _ _ _ _ _ _ _ _ _ _  T5 (mkF m 133 #[.val (.int p1), .val (.int p2), .val (.int p3), .val (.int p4), .val (.int ka), .val (.int kb), .val (.int la), .val (.int c0), .val (.int c1), .val (.int lb), .val (.int d0), .val (.int d1), .unset, .unset, .unset] [(.int ka), (.ref b5), (.ref b5)])
  obtain ⟨_, _, ⟨T6, L6, k6, n6⟩, -, X6, ⟨Lc6, hQ6, l6, y6, z6⟩, st6⟩ := Jvm.LawKit.callS X5 hx (y := (⟨"com/example/nodewell/nodewell/query/TokenIsPinLaw", "kind", "(I)Lcom/example/nodewell/nodewell/query/Token$Kind;"⟩ : MethodName)) hown (mvT hZ (hw _ (List.mem_of_getElem? (i := 3) rfl))) (mvT hZ (hw _ (List.mem_of_getElem? (i := 4) rfl))) (mvT hZ (hw _ (List.mem_of_getElem? (i := 5) rfl))) (mvT hZ (hw _ (List.mem_of_getElem? (i := 6) rfl))) (by decide) (backOf (W := 2) (rmK l Z a0 hw [] ka w_LITERAL w_NUMBER w_VARIABLE w_NAME_TEST w_NODE_TYPE w_FUNCTION_NAME w_AXIS_NAME w_OPERATOR w_PUNCTUATION h5 n0 O S_LITERAL S_NUMBER S_VARIABLE S_NAME_TEST S_NODE_TYPE S_FUNCTION_NAME S_AXIS_NAME S_OPERATOR S_PUNCTUATION) hZ (hw _ (List.mem_of_getElem? (i := 6) rfl)) (hw _ (List.mem_of_getElem? (i := 5) rfl)) (by decide) (by decide)) (g := (mkF m 133 #[.val (.int p1), .val (.int p2), .val (.int p3), .val (.int p4), .val (.int ka), .val (.int kb), .val (.int la), .val (.int c0), .val (.int c1), .val (.int lb), .val (.int d0), .val (.int d1), .unset, .unset, .unset] [(.int ka), (.ref b5), (.ref b5)])) rfl (by rw [hml]; rfl) (argsL := [(.int ka)]) (rest := [(.ref b5), (.ref b5)]) (lenOf pd__I_Lcom_example_nodewell_nodewell_query_Token_Kind_ rfl) rfl (by show 2 * 0 + _ ≤ _; exact Nat.le_of_eq rfl) (hb hby at_133) (fun _ _ => ⟨rfl, e5, (by decide : 1 + 0 ≤ _), (by decide : 4 + 0 ≤ _)⟩)
  dsimp only [Pt.U, Pt.locs, Pt.cells, Pt.slots] at X6 l6 y6 z6 st6 hQ6
  subst l6 y6 z6
  obtain ⟨rfl, N6q, e6q⟩ := hQ6
  have N6 := Fr.app N0 N6q
  refine GoH.st st6 ?_
  show GoH _ _ _ _ _ _ _ _ _ _  T6 (mkF m 136 #[.val (.int p1), .val (.int p2), .val (.int p3), .val (.int p4), .val (.int ka), .val (.int kb), .val (.int la), .val (.int c0), .val (.int c1), .val (.int lb), .val (.int d0), .val (.int d1), .unset, .unset, .unset] [(.ref (kindF ka w_LITERAL w_NUMBER w_VARIABLE w_NAME_TEST w_NODE_TYPE w_FUNCTION_NAME w_AXIS_NAME w_OPERATOR w_PUNCTUATION)), (.ref b5), (.ref b5)])
  obtain ⟨x_ka, eq_x_ka⟩ : ∃ z, z = (kindF ka w_LITERAL w_NUMBER w_VARIABLE w_NAME_TEST w_NODE_TYPE w_FUNCTION_NAME w_AXIS_NAME w_OPERATOR w_PUNCTUATION) := ⟨_, rfl⟩
  rw [← eq_x_ka]
  show GoH _ _ _ _ _ _ _ _ _ _  T6 (mkF m 136 #[.val (.int p1), .val (.int p2), .val (.int p3), .val (.int p4), .val (.int ka), .val (.int kb), .val (.int la), .val (.int c0), .val (.int c1), .val (.int lb), .val (.int d0), .val (.int d1), .unset, .unset, .unset] [(.ref x_ka), (.ref b5), (.ref b5)])
  refine GoH.st (fun t k => XS.iload X6.here hx rfl (hb hby at_136) rfl  k) ?_
  show GoH _ _ _ _ _ _ _ _ _ _  T6 (mkF m 138 #[.val (.int p1), .val (.int p2), .val (.int p3), .val (.int p4), .val (.int ka), .val (.int kb), .val (.int la), .val (.int c0), .val (.int c1), .val (.int lb), .val (.int d0), .val (.int d1), .unset, .unset, .unset] [(.int la), (.ref x_ka), (.ref b5), (.ref b5)])
  refine GoH.st (fun t k => XS.iload X6.here hx rfl (hb hby at_138) rfl  k) ?_
  show GoH _ _ _ _ _ _ _ _ _ _  T6 (mkF m 140 #[.val (.int p1), .val (.int p2), .val (.int p3), .val (.int p4), .val (.int ka), .val (.int kb), .val (.int la), .val (.int c0), .val (.int c1), .val (.int lb), .val (.int d0), .val (.int d1), .unset, .unset, .unset] [(.int c0), (.int la), (.ref x_ka), (.ref b5), (.ref b5)])
  refine GoH.st (fun t k => XS.iload X6.here hx rfl (hb hby at_140) rfl  k) ?_
  show GoH _ _ _ _ _ _ _ _ _ _  T6 (mkF m 142 #[.val (.int p1), .val (.int p2), .val (.int p3), .val (.int p4), .val (.int ka), .val (.int kb), .val (.int la), .val (.int c0), .val (.int c1), .val (.int lb), .val (.int d0), .val (.int d1), .unset, .unset, .unset] [(.int c1), (.int c0), (.int la), (.ref x_ka), (.ref b5), (.ref b5)])
  obtain ⟨_, _, ⟨T7, L7, k7, n7⟩, -, X7, hSn7, hgn7, ⟨Lc7, hQ7, l7, y7, z7, CR7⟩, st7⟩ := callSS X6 hx (y := (⟨"com/example/nodewell/nodewell/query/TokenIsPinLaw", "text", "(ICC)Ljava/lang/String;"⟩ : MethodName)) hown (mvT hZ (hw _ (List.mem_of_getElem? (i := 10) rfl))) (mvT hZ (hw _ (List.mem_of_getElem? (i := 11) rfl))) (mvT hZ (hw _ (List.mem_of_getElem? (i := 5) rfl))) (mvT hZ (hw _ (List.mem_of_getElem? (i := 12) rfl))) (by decide) (own_backSH (sf := []) (W := 3) (rmT l Z a0 hw [] la c0 c1 zc h5 n0 O hEL wS S_COMPACT hcs hC0 hC1) hZ (hw _ (List.mem_of_getElem? (i := 12) rfl)) (hw _ (List.mem_of_getElem? (i := 5) rfl)) (by decide) (by decide) hEL HH all0) (g := (mkF m 142 #[.val (.int p1), .val (.int p2), .val (.int p3), .val (.int p4), .val (.int ka), .val (.int kb), .val (.int la), .val (.int c0), .val (.int c1), .val (.int lb), .val (.int d0), .val (.int d1), .unset, .unset, .unset] [(.int c1), (.int c0), (.int la), (.ref x_ka), (.ref b5), (.ref b5)])) rfl (by rw [hml]; rfl) (argsL := [(.int la), (.int c0), (.int c1)]) (rest := [(.ref x_ka), (.ref b5), (.ref b5)]) (lenOf pd__ICC_Ljava_lang_String_ rfl) rfl (by show 2 * 0 + _ ≤ _; exact Nat.le_of_eq rfl) (hb hby at_142) (fun _ _ => ⟨rfl, e6q, (by decide : 1 + 6 ≤ _), (by decide : 4 + 16 ≤ _)⟩)
  dsimp only [Pt.U, Pt.locs, Pt.cells, Pt.slots] at X7 l7 y7 z7 st7 hQ7 hSn7 hgn7 CR7
  subst l7 y7 z7
  obtain ⟨d7, t7, kt7, rfl, N7q, E7q, ld7, Ed7, Fcoder7, Fvalue7, Vt7⟩ := hQ7
  have X7 : Stand p l e _ (s.setVm T7.vm) m _ below meth c T7 _ _ _ := X7
  have N7 := Fr.app N6 N7q
  refine GoH.tr st7 ?_
  have g_d7 : n0 ≤ d7 := Nat.le_trans (own_le O) ld7
  have sz_d7 : h0.size ≤ d7 := Nat.le_trans KK.1 ld7
  have ne_b5_d7 : b5 ≠ d7 := Nat.ne_of_lt (Nat.lt_of_lt_of_le E_b5.lt ld7)
  have hS7 := Jvm.RoadKit.foldS hS (by rw [e6q]; exact hk) hSn7 hgn7
  have hZ7 := State.Warmed39.trans (t := s.setVm s.vm) hZ hSn7.1
  have hk7 := Nat.le_refl T7.heap.size
  have hown7 : T7.vm.findClass "com/example/nodewell/nodewell/query/TokenIsPinLaw" = some m.cls := by rw [hSn7.1.alike.findClass]; exact hown
  have E7 := E7q
  have Sf_b5 := CHr.safe CR7 E_b5.lt Sf_b5
  have E_b5 := E_b5.ext E7
  have F_kind_b5 := F_kind_b5.ext E7
  have F_text_b5 := F_text_b5.ext E7
  have F_start_b5 := F_start_b5.ext E7
  have F_end_b5 := F_end_b5.ext E7
  have O := O.ext E7
  have KK := KK.ext E7
  have RR := RR.trans CR7
  have HH := CR7.1
  have hS := hS7
  have hk := hk7
  have hZ := hZ7
  have hown := hown7
  show GoH _ _ _ _ _ _ _ _ _ _  T7 (mkF m 145 #[.val (.int p1), .val (.int p2), .val (.int p3), .val (.int p4), .val (.int ka), .val (.int kb), .val (.int la), .val (.int c0), .val (.int c1), .val (.int lb), .val (.int d0), .val (.int d1), .unset, .unset, .unset] [(.ref d7), (.ref x_ka), (.ref b5), (.ref b5)])
  refine GoH.st (fun t k => XS.iloadN X7.here hx rfl (hb hby at_145) rfl  k) ?_
  show GoH _ _ _ _ _ _ _ _ _ _  T7 (mkF m 146 #[.val (.int p1), .val (.int p2), .val (.int p3), .val (.int p4), .val (.int ka), .val (.int kb), .val (.int la), .val (.int c0), .val (.int c1), .val (.int lb), .val (.int d0), .val (.int d1), .unset, .unset, .unset] [(.int p1), (.ref d7), (.ref x_ka), (.ref b5), (.ref b5)])
  refine GoH.st (fun t k => XS.iloadN X7.here hx rfl (hb hby at_146) rfl  k) ?_
  show GoH _ _ _ _ _ _ _ _ _ _  T7 (mkF m 147 #[.val (.int p1), .val (.int p2), .val (.int p3), .val (.int p4), .val (.int ka), .val (.int kb), .val (.int la), .val (.int c0), .val (.int c1), .val (.int lb), .val (.int d0), .val (.int d1), .unset, .unset, .unset] [(.int p2), (.int p1), (.ref d7), (.ref x_ka), (.ref b5), (.ref b5)])
  obtain ⟨_, _, ⟨T8, L8, k8, n8⟩, -, X8, ⟨Lc8, hQ8, l8, y8, z8⟩, st8⟩ := X7.specialBack hx (y := (⟨"com/example/nodewell/nodewell/query/Token", "<init>", "(Lcom/example/nodewell/nodewell/query/Token$Kind;Ljava/lang/String;II)V"⟩ : MethodName)) rfl hown (mvT hZ (hw _ (List.mem_of_getElem? (i := 43) rfl))) (mvT hZ (hw _ (List.mem_of_getElem? (i := 44) rfl))) (mvT hZ (hw _ (List.mem_of_getElem? (i := 45) rfl))) (by decide) (backOf (W := 1) (rmV l Z a0 hw [] b5 x_ka d7 p1 p2 T7.heap n0 O E_b5 F_kind_b5 F_text_b5 F_start_b5 F_end_b5 g_b5) hZ (hw _ (List.mem_of_getElem? (i := 45) rfl)) (hw _ (List.mem_of_getElem? (i := 2) rfl)) (by decide) (by decide)) (g := (mkF m 147 #[.val (.int p1), .val (.int p2), .val (.int p3), .val (.int p4), .val (.int ka), .val (.int kb), .val (.int la), .val (.int c0), .val (.int c1), .val (.int lb), .val (.int d0), .val (.int d1), .unset, .unset, .unset] [(.int p2), (.int p1), (.ref d7), (.ref x_ka), (.ref b5), (.ref b5)])) rfl (by rw [hml]; rfl) (Steps.refl _) (a := b5) (argsL := [(.ref x_ka), (.ref d7), (.int p1), (.int p2)]) (rest := [(.ref b5)]) (lenOf pd__Lcom_example_nodewell_nodewell_query_Token_Kind_Ljava_lang_String_II_V rfl) rfl (by show 2 * 0 + _ ≤ _; exact Nat.le_of_eq rfl) (hb hby at_147) (fun _ _ => ⟨rfl, rfl, (by decide : 7 + 0 ≤ _), (by decide : 20 + 0 ≤ _)⟩)
  dsimp only [Pt.U, Pt.locs, Pt.cells, Pt.slots] at X8 l8 y8 z8 st8 hQ8
  subst l8 y8 z8
  obtain ⟨rfl, N8q, K8q, Eq8, Fkind8, Ftext8⟩ := hQ8
  have N8 := Fr.app N7 N8q
  refine GoH.tr st8 ?_
  have ne_t7_b5 : t7 ≠ b5 := (Ne.symm (Exa.neArv E_b5 Vt7 (hw _ (List.mem_of_getElem? (i := 1) rfl))))
  have E_b5 := E_b5.keep K8q
  have Ed7 := Ed7.keep K8q
  have Fcoder7 := Fcoder7.keep K8q (ninS (Ne.symm ne_b5_d7) nin0)
  have Fvalue7 := Fvalue7.keep K8q (ninS (Ne.symm ne_b5_d7) nin0)
  have Vt7 := Vt7.keep K8q (ninS ne_t7_b5 nin0)
  have sfw8 := (sfS Sf_b5 sf0)
  have Sf_b5 := Safe.keep K8q sfw8 HH Sf_b5
  have RR := RR.trans (CHr.keep K8q sfw8 HH)
  have HH := HH.keep K8q sfw8
  have hk := Nat.le_trans hk K8q.1
  have O := O.keep K8q (allS g_b5 all0)
  have KK := KK.trans K8q (allS (Or.inr sz_b5) all0)
  have E_b5 := Eq8
  show GoH _ _ _ _ _ _ _ _ _ _  T8 (mkF m 150 #[.val (.int p1), .val (.int p2), .val (.int p3), .val (.int p4), .val (.int ka), .val (.int kb), .val (.int la), .val (.int c0), .val (.int c1), .val (.int lb), .val (.int d0), .val (.int d1), .unset, .unset, .unset] [(.ref b5)])
  refine GoH.st (fun t k => XS.astore X8.here hx rfl (hb hby at_150) rfl rfl (l' := #[.val (.int p1), .val (.int p2), .val (.int p3), .val (.int p4), .val (.int ka), .val (.int kb), .val (.int la), .val (.int c0), .val (.int c1), .val (.int lb), .val (.int d0), .val (.int d1), .val (.ref b5), .unset, .unset]) rfl k) ?_
  show GoH _ _ _ _ _ _ _ _ _ _  T8 (mkF m 152 #[.val (.int p1), .val (.int p2), .val (.int p3), .val (.int p4), .val (.int ka), .val (.int kb), .val (.int la), .val (.int c0), .val (.int c1), .val (.int lb), .val (.int d0), .val (.int d1), .val (.ref b5), .unset, .unset] [])
  refine GoH.st (fun t k => XS.aload X8.here hx rfl (hb hby at_152) rfl rfl  k) ?_
  show GoH _ _ _ _ _ _ _ _ _ _  T8 (mkF m 154 #[.val (.int p1), .val (.int p2), .val (.int p3), .val (.int p4), .val (.int ka), .val (.int kb), .val (.int la), .val (.int c0), .val (.int c1), .val (.int lb), .val (.int d0), .val (.int d1), .val (.ref b5), .unset, .unset] [(.ref b5)])
  refine GoH.st (fun t k => XS.iload X8.here hx rfl (hb hby at_154) rfl  k) ?_
  show GoH _ _ _ _ _ _ _ _ _ _  T8 (mkF m 156 #[.val (.int p1), .val (.int p2), .val (.int p3), .val (.int p4), .val (.int ka), .val (.int kb), .val (.int la), .val (.int c0), .val (.int c1), .val (.int lb), .val (.int d0), .val (.int d1), .val (.ref b5), .unset, .unset] [(.int kb), (.ref b5)])
  obtain ⟨_, _, ⟨T9, L9, k9, n9⟩, -, X9, ⟨Lc9, hQ9, l9, y9, z9⟩, st9⟩ := Jvm.LawKit.callS X8 hx (y := (⟨"com/example/nodewell/nodewell/query/TokenIsPinLaw", "kind", "(I)Lcom/example/nodewell/nodewell/query/Token$Kind;"⟩ : MethodName)) hown (mvT hZ (hw _ (List.mem_of_getElem? (i := 3) rfl))) (mvT hZ (hw _ (List.mem_of_getElem? (i := 4) rfl))) (mvT hZ (hw _ (List.mem_of_getElem? (i := 5) rfl))) (mvT hZ (hw _ (List.mem_of_getElem? (i := 6) rfl))) (by decide) (backOf (W := 1) (rmK l Z a0 hw [] kb w_LITERAL w_NUMBER w_VARIABLE w_NAME_TEST w_NODE_TYPE w_FUNCTION_NAME w_AXIS_NAME w_OPERATOR w_PUNCTUATION T8.heap n0 O S_LITERAL S_NUMBER S_VARIABLE S_NAME_TEST S_NODE_TYPE S_FUNCTION_NAME S_AXIS_NAME S_OPERATOR S_PUNCTUATION) hZ (hw _ (List.mem_of_getElem? (i := 6) rfl)) (hw _ (List.mem_of_getElem? (i := 5) rfl)) (by decide) (by decide)) (g := (mkF m 156 #[.val (.int p1), .val (.int p2), .val (.int p3), .val (.int p4), .val (.int ka), .val (.int kb), .val (.int la), .val (.int c0), .val (.int c1), .val (.int lb), .val (.int d0), .val (.int d1), .val (.ref b5), .unset, .unset] [(.int kb), (.ref b5)])) rfl (by rw [hml]; rfl) (argsL := [(.int kb)]) (rest := [(.ref b5)]) (lenOf pd__I_Lcom_example_nodewell_nodewell_query_Token_Kind_ rfl) rfl (by show 2 * 0 + _ ≤ _; exact Nat.le_of_eq rfl) (hb hby at_156) (fun _ _ => ⟨rfl, rfl, (by decide : 7 + 0 ≤ _), (by decide : 20 + 0 ≤ _)⟩)
  dsimp only [Pt.U, Pt.locs, Pt.cells, Pt.slots] at X9 l9 y9 z9 st9 hQ9
  subst l9 y9 z9
  obtain ⟨rfl, N9q, e9q⟩ := hQ9
  have N9 := Fr.app N8 N9q
  refine GoH.st st9 ?_
  show GoH _ _ _ _ _ _ _ _ _ _  T9 (mkF m 159 #[.val (.int p1), .val (.int p2), .val (.int p3), .val (.int p4), .val (.int ka), .val (.int kb), .val (.int la), .val (.int c0), .val (.int c1), .val (.int lb), .val (.int d0), .val (.int d1), .val (.ref b5), .unset, .unset] [(.ref (kindF kb w_LITERAL w_NUMBER w_VARIABLE w_NAME_TEST w_NODE_TYPE w_FUNCTION_NAME w_AXIS_NAME w_OPERATOR w_PUNCTUATION)), (.ref b5)])
  obtain ⟨x_kb, eq_x_kb⟩ : ∃ z, z = (kindF kb w_LITERAL w_NUMBER w_VARIABLE w_NAME_TEST w_NODE_TYPE w_FUNCTION_NAME w_AXIS_NAME w_OPERATOR w_PUNCTUATION) := ⟨_, rfl⟩
  rw [← eq_x_kb]
  show GoH _ _ _ _ _ _ _ _ _ _  T9 (mkF m 159 #[.val (.int p1), .val (.int p2), .val (.int p3), .val (.int p4), .val (.int ka), .val (.int kb), .val (.int la), .val (.int c0), .val (.int c1), .val (.int lb), .val (.int d0), .val (.int d1), .val (.ref b5), .unset, .unset] [(.ref x_kb), (.ref b5)])
  refine GoH.st (fun t k => XS.iload X9.here hx rfl (hb hby at_159) rfl  k) ?_
  show GoH _ _ _ _ _ _ _ _ _ _  T9 (mkF m 161 #[.val (.int p1), .val (.int p2), .val (.int p3), .val (.int p4), .val (.int ka), .val (.int kb), .val (.int la), .val (.int c0), .val (.int c1), .val (.int lb), .val (.int d0), .val (.int d1), .val (.ref b5), .unset, .unset] [(.int lb), (.ref x_kb), (.ref b5)])
  refine GoH.st (fun t k => XS.iload X9.here hx rfl (hb hby at_161) rfl  k) ?_
  show GoH _ _ _ _ _ _ _ _ _ _  T9 (mkF m 163 #[.val (.int p1), .val (.int p2), .val (.int p3), .val (.int p4), .val (.int ka), .val (.int kb), .val (.int la), .val (.int c0), .val (.int c1), .val (.int lb), .val (.int d0), .val (.int d1), .val (.ref b5), .unset, .unset] [(.int d0), (.int lb), (.ref x_kb), (.ref b5)])
  refine GoH.st (fun t k => XS.iload X9.here hx rfl (hb hby at_163) rfl  k) ?_
  show GoH _ _ _ _ _ _ _ _ _ _  T9 (mkF m 165 #[.val (.int p1), .val (.int p2), .val (.int p3), .val (.int p4), .val (.int ka), .val (.int kb), .val (.int la), .val (.int c0), .val (.int c1), .val (.int lb), .val (.int d0), .val (.int d1), .val (.ref b5), .unset, .unset] [(.int d1), (.int d0), (.int lb), (.ref x_kb), (.ref b5)])
  obtain ⟨_, _, ⟨T10, L10, k10, n10⟩, -, X10, hSn10, hgn10, ⟨Lc10, hQ10, l10, y10, z10, CR10⟩, st10⟩ := callSS X9 hx (y := (⟨"com/example/nodewell/nodewell/query/TokenIsPinLaw", "text", "(ICC)Ljava/lang/String;"⟩ : MethodName)) hown (mvT hZ (hw _ (List.mem_of_getElem? (i := 10) rfl))) (mvT hZ (hw _ (List.mem_of_getElem? (i := 11) rfl))) (mvT hZ (hw _ (List.mem_of_getElem? (i := 5) rfl))) (mvT hZ (hw _ (List.mem_of_getElem? (i := 12) rfl))) (by decide) (own_backSH (sf := []) (W := 2) (rmT l Z a0 hw [] lb d0 d1 zc T8.heap n0 O hEL wS S_COMPACT hcs hD0 hD1) hZ (hw _ (List.mem_of_getElem? (i := 12) rfl)) (hw _ (List.mem_of_getElem? (i := 5) rfl)) (by decide) (by decide) hEL HH all0) (g := (mkF m 165 #[.val (.int p1), .val (.int p2), .val (.int p3), .val (.int p4), .val (.int ka), .val (.int kb), .val (.int la), .val (.int c0), .val (.int c1), .val (.int lb), .val (.int d0), .val (.int d1), .val (.ref b5), .unset, .unset] [(.int d1), (.int d0), (.int lb), (.ref x_kb), (.ref b5)])) rfl (by rw [hml]; rfl) (argsL := [(.int lb), (.int d0), (.int d1)]) (rest := [(.ref x_kb), (.ref b5)]) (lenOf pd__ICC_Ljava_lang_String_ rfl) rfl (by show 2 * 0 + _ ≤ _; exact Nat.le_of_eq rfl) (hb hby at_165) (fun _ _ => ⟨rfl, e9q, (by decide : 7 + 6 ≤ _), (by decide : 20 + 16 ≤ _)⟩)
  dsimp only [Pt.U, Pt.locs, Pt.cells, Pt.slots] at X10 l10 y10 z10 st10 hQ10 hSn10 hgn10 CR10
  subst l10 y10 z10
  obtain ⟨d10, t10, kt10, rfl, N10q, E10q, ld10, Ed10, Fcoder10, Fvalue10, Vt10⟩ := hQ10
  have X10 : Stand p l e _ (s.setVm T10.vm) m _ below meth c T10 _ _ _ := X10
  have N10 := Fr.app N9 N10q
  refine GoH.tr st10 ?_
  have g_d10 : n0 ≤ d10 := Nat.le_trans (own_le O) ld10
  have sz_d10 : h0.size ≤ d10 := Nat.le_trans KK.1 ld10
  have ne_b5_d10 : b5 ≠ d10 := Nat.ne_of_lt (Nat.lt_of_lt_of_le E_b5.lt ld10)
  have ne_d7_d10 : d7 ≠ d10 := Nat.ne_of_lt (Nat.lt_of_lt_of_le Ed7.lt ld10)
  have ne_t7_d10 : t7 ≠ d10 := Nat.ne_of_lt (Nat.lt_of_lt_of_le Vt7.lt ld10)
  have hS10 := Jvm.RoadKit.foldS hS (by rw [e9q]; exact hk) hSn10 hgn10
  have hZ10 := State.Warmed39.trans (t := s.setVm T7.vm) hZ hSn10.1
  have hk10 := Nat.le_refl T10.heap.size
  have hown10 : T10.vm.findClass "com/example/nodewell/nodewell/query/TokenIsPinLaw" = some m.cls := by rw [hSn10.1.alike.findClass]; exact hown
  have E10 := E10q
  have Sf_b5 := CHr.safe CR10 E_b5.lt Sf_b5
  have E_b5 := E_b5.ext E10
  have Ed7 := Ed7.ext E10
  have Fcoder7 := Fcoder7.ext E10
  have Fvalue7 := Fvalue7.ext E10
  have Vt7 := Vt7.ext E10
  have Fkind8 := Fkind8.ext E10
  have Ftext8 := Ftext8.ext E10
  have O := O.ext E10
  have KK := KK.ext E10
  have RR := RR.trans CR10
  have HH := CR10.1
  have hS := hS10
  have hk := hk10
  have hZ := hZ10
  have hown := hown10
  show GoH _ _ _ _ _ _ _ _ _ _  T10 (mkF m 168 #[.val (.int p1), .val (.int p2), .val (.int p3), .val (.int p4), .val (.int ka), .val (.int kb), .val (.int la), .val (.int c0), .val (.int c1), .val (.int lb), .val (.int d0), .val (.int d1), .val (.ref b5), .unset, .unset] [(.ref d10), (.ref x_kb), (.ref b5)])
  obtain ⟨cq11, kq11, q11a, q11b, q11c⟩ := isOf hZ rfl E_b5
  obtain ⟨_, _, ⟨T11, L11, k11, n11⟩, -, X11, ⟨Lc11, hQ11, l11, y11, z11⟩, st11⟩ := X10.virtualBack hx (y := (⟨"com/example/nodewell/nodewell/query/Token", "is", "(Lcom/example/nodewell/nodewell/query/Token$Kind;Ljava/lang/String;)Z"⟩ : MethodName)) (z := (⟨"com/example/nodewell/nodewell/query/Token", "is", "(Lcom/example/nodewell/nodewell/query/Token$Kind;Ljava/lang/String;)Z"⟩ : MethodName)) hown (mvT hZ (hw _ (List.mem_of_getElem? (i := 60) rfl))) (mvT hZ (hw _ (List.mem_of_getElem? (i := 61) rfl))) (notFace_of_selects (args := #[]) (mvT hZ (hw _ (List.mem_of_getElem? (i := 63) rfl)))) (mvT hZ (hw _ (List.mem_of_getElem? (i := 63) rfl))) (mvT hZ (hw _ (List.mem_of_getElem? (i := 62) rfl))) (by decide) (backOf (W := 0) (rmS l Z a0 hw [] b5 x_kb d10 x_ka d7 t7 kt7 (textL la c0 c1) t10 kt10 (textL lb d0 d1) zc T10.heap n0 O Fkind8 Ftext8 Ed7 Fcoder7 Fvalue7 Vt7 (own_tp hC0 hC1) (own_tl _ _ _) Ed10 Fcoder10 Fvalue10 Vt10 (own_tp hD0 hD1) (own_tl _ _ _) S_COMPACT hcs) hZ (hw _ (List.mem_of_getElem? (i := 64) rfl)) (hw _ (List.mem_of_getElem? (i := 2) rfl)) (by decide) (by decide)) q11a q11c (g := (mkF m 168 #[.val (.int p1), .val (.int p2), .val (.int p3), .val (.int p4), .val (.int ka), .val (.int kb), .val (.int la), .val (.int c0), .val (.int c1), .val (.int lb), .val (.int d0), .val (.int d1), .val (.ref b5), .unset, .unset] [(.ref d10), (.ref x_kb), (.ref b5)])) rfl (by rw [hml]; rfl) (Steps.refl _) (argsL := [(.ref x_kb), (.ref d10)]) (rest := []) (lenOf pd__Lcom_example_nodewell_nodewell_query_Token_Kind_Ljava_lang_String__Z rfl) rfl (by show 2 * 0 + _ ≤ _; exact Nat.le_of_eq rfl) (hb hby at_168) (fun _ _ => ⟨rfl, rfl, (by decide : 13 + 0 ≤ _), (by decide : 36 + 0 ≤ _)⟩)
  dsimp only [Pt.U, Pt.locs, Pt.cells, Pt.slots] at X11 l11 y11 z11 st11 hQ11
  subst l11 y11 z11
  obtain ⟨rfl, N11q, e11q⟩ := hQ11
  have N11 := Fr.app N10 N11q
  refine GoH.tr st11 ?_
  show GoH _ _ _ _ _ _ _ _ _ _  T11 (mkF m 171 #[.val (.int p1), .val (.int p2), .val (.int p3), .val (.int p4), .val (.int ka), .val (.int kb), .val (.int la), .val (.int c0), .val (.int c1), .val (.int lb), .val (.int d0), .val (.int d1), .val (.ref b5), .unset, .unset] [(.int (if x_ka = x_kb then (if (textL la c0 c1) = (textL lb d0 d1) then 1 else 0) else 0))])
  refine GoH.st (fun t k => XS.istore X11.here hx rfl (hb hby at_171) rfl (l' := #[.val (.int p1), .val (.int p2), .val (.int p3), .val (.int p4), .val (.int ka), .val (.int kb), .val (.int la), .val (.int c0), .val (.int c1), .val (.int lb), .val (.int d0), .val (.int d1), .val (.ref b5), .val (.int (if x_ka = x_kb then (if (textL la c0 c1) = (textL lb d0 d1) then 1 else 0) else 0)), .unset]) rfl k) ?_
  show GoH _ _ _ _ _ _ _ _ _ _  T11 (mkF m 173 #[.val (.int p1), .val (.int p2), .val (.int p3), .val (.int p4), .val (.int ka), .val (.int kb), .val (.int la), .val (.int c0), .val (.int c1), .val (.int lb), .val (.int d0), .val (.int d1), .val (.ref b5), .val (.int (if x_ka = x_kb then (if (textL la c0 c1) = (textL lb d0 d1) then 1 else 0) else 0)), .unset] [])
  refine GoH.st (fun t k => XS.iload X11.here hx rfl (hb hby at_173) rfl  k) ?_
  show GoH _ _ _ _ _ _ _ _ _ _  T11 (mkF m 175 #[.val (.int p1), .val (.int p2), .val (.int p3), .val (.int p4), .val (.int ka), .val (.int kb), .val (.int la), .val (.int c0), .val (.int c1), .val (.int lb), .val (.int d0), .val (.int d1), .val (.ref b5), .val (.int (if x_ka = x_kb then (if (textL la c0 c1) = (textL lb d0 d1) then 1 else 0) else 0)), .unset] [(.int la)])
  refine GoH.st (fun t k => XS.iload X11.here hx rfl (hb hby at_175) rfl  k) ?_
  show GoH _ _ _ _ _ _ _ _ _ _  T11 (mkF m 177 #[.val (.int p1), .val (.int p2), .val (.int p3), .val (.int p4), .val (.int ka), .val (.int kb), .val (.int la), .val (.int c0), .val (.int c1), .val (.int lb), .val (.int d0), .val (.int d1), .val (.ref b5), .val (.int (if x_ka = x_kb then (if (textL la c0 c1) = (textL lb d0 d1) then 1 else 0) else 0)), .unset] [(.int lb), (.int la)])
  refine GoH.st (T' := T11) (g' := (mkF m 211 #[.val (.int p1), .val (.int p2), .val (.int p3), .val (.int p4), .val (.int ka), .val (.int kb), .val (.int la), .val (.int c0), .val (.int c1), .val (.int lb), .val (.int d0), .val (.int d1), .val (.ref b5), .val (.int (if x_ka = x_kb then (if (textL la c0 c1) = (textL lb d0 d1) then 1 else 0) else 0)), .unset] [(.int (if la = lb then (if la < (1 : Int32) then (if la < (2 : Int32) then (1 : Int32) else (if c1 = d1 then (1 : Int32) else (0 : Int32))) else (if c0 = d0 then (if la < (2 : Int32) then (1 : Int32) else (if c1 = d1 then (1 : Int32) else (0 : Int32))) else (0 : Int32))) else (0 : Int32)))])) (fun t k => ?_) ?_
  · show Steps p.tables e below (T11.setTop (mkF m 177 #[.val (.int p1), .val (.int p2), .val (.int p3), .val (.int p4), .val (.int ka), .val (.int kb), .val (.int la), .val (.int c0), .val (.int c1), .val (.int lb), .val (.int d0), .val (.int d1), .val (.ref b5), .val (.int (if x_ka = x_kb then (if (textL la c0 c1) = (textL lb d0 d1) then 1 else 0) else 0)), .unset] [(.int lb), (.int la)])) _
    by_cases c177_12 : la = lb
    · refine XS.icmpNo X11.here hx rfl (hb hby at_177) rfl (teq c177_12).2 ?_
      show Steps p.tables e below (T11.setTop (mkF m 180 #[.val (.int p1), .val (.int p2), .val (.int p3), .val (.int p4), .val (.int ka), .val (.int kb), .val (.int la), .val (.int c0), .val (.int c1), .val (.int lb), .val (.int d0), .val (.int d1), .val (.ref b5), .val (.int (if x_ka = x_kb then (if (textL la c0 c1) = (textL lb d0 d1) then 1 else 0) else 0)), .unset] [])) _
      refine XS.iload X11.here hx rfl (hb hby at_180) rfl  ?_
      show Steps p.tables e below (T11.setTop (mkF m 182 #[.val (.int p1), .val (.int p2), .val (.int p3), .val (.int p4), .val (.int ka), .val (.int kb), .val (.int la), .val (.int c0), .val (.int c1), .val (.int lb), .val (.int d0), .val (.int d1), .val (.ref b5), .val (.int (if x_ka = x_kb then (if (textL la c0 c1) = (textL lb d0 d1) then 1 else 0) else 0)), .unset] [(.int la)])) _
      refine XS.iconst X11.here hx rfl (hb hby at_182) ?_
      show Steps p.tables e below (T11.setTop (mkF m 183 #[.val (.int p1), .val (.int p2), .val (.int p3), .val (.int p4), .val (.int ka), .val (.int kb), .val (.int la), .val (.int c0), .val (.int c1), .val (.int lb), .val (.int d0), .val (.int d1), .val (.ref b5), .val (.int (if x_ka = x_kb then (if (textL la c0 c1) = (textL lb d0 d1) then 1 else 0) else 0)), .unset] [(.int (1 : Int32)), (.int la)])) _
      by_cases c183_13 : la < (1 : Int32)
      · refine XS.icmpYes X11.here hx rfl (pc0 := 183) (pc' := 193) rfl (hb hby at_183) rfl (tlt c183_13).1 (by decide) (by decide) ?_
        show Steps p.tables e below (T11.setTop (mkF m 193 #[.val (.int p1), .val (.int p2), .val (.int p3), .val (.int p4), .val (.int ka), .val (.int kb), .val (.int la), .val (.int c0), .val (.int c1), .val (.int lb), .val (.int d0), .val (.int d1), .val (.ref b5), .val (.int (if x_ka = x_kb then (if (textL la c0 c1) = (textL lb d0 d1) then 1 else 0) else 0)), .unset] [])) _
        refine XS.iload X11.here hx rfl (hb hby at_193) rfl  ?_
        show Steps p.tables e below (T11.setTop (mkF m 195 #[.val (.int p1), .val (.int p2), .val (.int p3), .val (.int p4), .val (.int ka), .val (.int kb), .val (.int la), .val (.int c0), .val (.int c1), .val (.int lb), .val (.int d0), .val (.int d1), .val (.ref b5), .val (.int (if x_ka = x_kb then (if (textL la c0 c1) = (textL lb d0 d1) then 1 else 0) else 0)), .unset] [(.int la)])) _
        refine XS.iconst X11.here hx rfl (hb hby at_195) ?_
        show Steps p.tables e below (T11.setTop (mkF m 196 #[.val (.int p1), .val (.int p2), .val (.int p3), .val (.int p4), .val (.int ka), .val (.int kb), .val (.int la), .val (.int c0), .val (.int c1), .val (.int lb), .val (.int d0), .val (.int d1), .val (.ref b5), .val (.int (if x_ka = x_kb then (if (textL la c0 c1) = (textL lb d0 d1) then 1 else 0) else 0)), .unset] [(.int (2 : Int32)), (.int la)])) _
        by_cases c196_14 : la < (2 : Int32)
        · refine XS.icmpYes X11.here hx rfl (pc0 := 196) (pc' := 206) rfl (hb hby at_196) rfl (tlt c196_14).1 (by decide) (by decide) ?_
          show Steps p.tables e below (T11.setTop (mkF m 206 #[.val (.int p1), .val (.int p2), .val (.int p3), .val (.int p4), .val (.int ka), .val (.int kb), .val (.int la), .val (.int c0), .val (.int c1), .val (.int lb), .val (.int d0), .val (.int d1), .val (.ref b5), .val (.int (if x_ka = x_kb then (if (textL la c0 c1) = (textL lb d0 d1) then 1 else 0) else 0)), .unset] [])) _
          refine XS.iconst X11.here hx rfl (hb hby at_206) ?_
          show Steps p.tables e below (T11.setTop (mkF m 207 #[.val (.int p1), .val (.int p2), .val (.int p3), .val (.int p4), .val (.int ka), .val (.int kb), .val (.int la), .val (.int c0), .val (.int c1), .val (.int lb), .val (.int d0), .val (.int d1), .val (.ref b5), .val (.int (if x_ka = x_kb then (if (textL la c0 c1) = (textL lb d0 d1) then 1 else 0) else 0)), .unset] [(.int (1 : Int32))])) _
          refine XS.goto X11.here hx rfl (pc0 := 207) (pc' := 211) rfl (hb hby at_207) (by decide) (by decide) ?_
          (try simp only [if_pos c177_12] at k); (try simp only [if_pos c183_13] at k); (try simp only [if_pos c196_14] at k); exact k
        · refine XS.icmpNo X11.here hx rfl (hb hby at_196) rfl (flt c196_14).1 ?_
          show Steps p.tables e below (T11.setTop (mkF m 199 #[.val (.int p1), .val (.int p2), .val (.int p3), .val (.int p4), .val (.int ka), .val (.int kb), .val (.int la), .val (.int c0), .val (.int c1), .val (.int lb), .val (.int d0), .val (.int d1), .val (.ref b5), .val (.int (if x_ka = x_kb then (if (textL la c0 c1) = (textL lb d0 d1) then 1 else 0) else 0)), .unset] [])) _
          refine XS.iload X11.here hx rfl (hb hby at_199) rfl  ?_
          show Steps p.tables e below (T11.setTop (mkF m 201 #[.val (.int p1), .val (.int p2), .val (.int p3), .val (.int p4), .val (.int ka), .val (.int kb), .val (.int la), .val (.int c0), .val (.int c1), .val (.int lb), .val (.int d0), .val (.int d1), .val (.ref b5), .val (.int (if x_ka = x_kb then (if (textL la c0 c1) = (textL lb d0 d1) then 1 else 0) else 0)), .unset] [(.int c1)])) _
          refine XS.iload X11.here hx rfl (hb hby at_201) rfl  ?_
          show Steps p.tables e below (T11.setTop (mkF m 203 #[.val (.int p1), .val (.int p2), .val (.int p3), .val (.int p4), .val (.int ka), .val (.int kb), .val (.int la), .val (.int c0), .val (.int c1), .val (.int lb), .val (.int d0), .val (.int d1), .val (.ref b5), .val (.int (if x_ka = x_kb then (if (textL la c0 c1) = (textL lb d0 d1) then 1 else 0) else 0)), .unset] [(.int d1), (.int c1)])) _
          by_cases c203_15 : c1 = d1
          · refine XS.icmpNo X11.here hx rfl (hb hby at_203) rfl (teq c203_15).2 ?_
            show Steps p.tables e below (T11.setTop (mkF m 206 #[.val (.int p1), .val (.int p2), .val (.int p3), .val (.int p4), .val (.int ka), .val (.int kb), .val (.int la), .val (.int c0), .val (.int c1), .val (.int lb), .val (.int d0), .val (.int d1), .val (.ref b5), .val (.int (if x_ka = x_kb then (if (textL la c0 c1) = (textL lb d0 d1) then 1 else 0) else 0)), .unset] [])) _
            refine XS.iconst X11.here hx rfl (hb hby at_206) ?_
            show Steps p.tables e below (T11.setTop (mkF m 207 #[.val (.int p1), .val (.int p2), .val (.int p3), .val (.int p4), .val (.int ka), .val (.int kb), .val (.int la), .val (.int c0), .val (.int c1), .val (.int lb), .val (.int d0), .val (.int d1), .val (.ref b5), .val (.int (if x_ka = x_kb then (if (textL la c0 c1) = (textL lb d0 d1) then 1 else 0) else 0)), .unset] [(.int (1 : Int32))])) _
            refine XS.goto X11.here hx rfl (pc0 := 207) (pc' := 211) rfl (hb hby at_207) (by decide) (by decide) ?_
            (try simp only [if_pos c177_12] at k); (try simp only [if_pos c183_13] at k); (try simp only [if_neg c196_14] at k); (try simp only [if_pos c203_15] at k); exact k
          · refine XS.icmpYes X11.here hx rfl (pc0 := 203) (pc' := 210) rfl (hb hby at_203) rfl (feq c203_15).2 (by decide) (by decide) ?_
            show Steps p.tables e below (T11.setTop (mkF m 210 #[.val (.int p1), .val (.int p2), .val (.int p3), .val (.int p4), .val (.int ka), .val (.int kb), .val (.int la), .val (.int c0), .val (.int c1), .val (.int lb), .val (.int d0), .val (.int d1), .val (.ref b5), .val (.int (if x_ka = x_kb then (if (textL la c0 c1) = (textL lb d0 d1) then 1 else 0) else 0)), .unset] [])) _
            refine XS.iconst X11.here hx rfl (hb hby at_210) ?_
            (try simp only [if_pos c177_12] at k); (try simp only [if_pos c183_13] at k); (try simp only [if_neg c196_14] at k); (try simp only [if_neg c203_15] at k); exact k
      · refine XS.icmpNo X11.here hx rfl (hb hby at_183) rfl (flt c183_13).1 ?_
        show Steps p.tables e below (T11.setTop (mkF m 186 #[.val (.int p1), .val (.int p2), .val (.int p3), .val (.int p4), .val (.int ka), .val (.int kb), .val (.int la), .val (.int c0), .val (.int c1), .val (.int lb), .val (.int d0), .val (.int d1), .val (.ref b5), .val (.int (if x_ka = x_kb then (if (textL la c0 c1) = (textL lb d0 d1) then 1 else 0) else 0)), .unset] [])) _
        refine XS.iload X11.here hx rfl (hb hby at_186) rfl  ?_
        show Steps p.tables e below (T11.setTop (mkF m 188 #[.val (.int p1), .val (.int p2), .val (.int p3), .val (.int p4), .val (.int ka), .val (.int kb), .val (.int la), .val (.int c0), .val (.int c1), .val (.int lb), .val (.int d0), .val (.int d1), .val (.ref b5), .val (.int (if x_ka = x_kb then (if (textL la c0 c1) = (textL lb d0 d1) then 1 else 0) else 0)), .unset] [(.int c0)])) _
        refine XS.iload X11.here hx rfl (hb hby at_188) rfl  ?_
        show Steps p.tables e below (T11.setTop (mkF m 190 #[.val (.int p1), .val (.int p2), .val (.int p3), .val (.int p4), .val (.int ka), .val (.int kb), .val (.int la), .val (.int c0), .val (.int c1), .val (.int lb), .val (.int d0), .val (.int d1), .val (.ref b5), .val (.int (if x_ka = x_kb then (if (textL la c0 c1) = (textL lb d0 d1) then 1 else 0) else 0)), .unset] [(.int d0), (.int c0)])) _
        by_cases c190_16 : c0 = d0
        · refine XS.icmpNo X11.here hx rfl (hb hby at_190) rfl (teq c190_16).2 ?_
          show Steps p.tables e below (T11.setTop (mkF m 193 #[.val (.int p1), .val (.int p2), .val (.int p3), .val (.int p4), .val (.int ka), .val (.int kb), .val (.int la), .val (.int c0), .val (.int c1), .val (.int lb), .val (.int d0), .val (.int d1), .val (.ref b5), .val (.int (if x_ka = x_kb then (if (textL la c0 c1) = (textL lb d0 d1) then 1 else 0) else 0)), .unset] [])) _
          refine XS.iload X11.here hx rfl (hb hby at_193) rfl  ?_
          show Steps p.tables e below (T11.setTop (mkF m 195 #[.val (.int p1), .val (.int p2), .val (.int p3), .val (.int p4), .val (.int ka), .val (.int kb), .val (.int la), .val (.int c0), .val (.int c1), .val (.int lb), .val (.int d0), .val (.int d1), .val (.ref b5), .val (.int (if x_ka = x_kb then (if (textL la c0 c1) = (textL lb d0 d1) then 1 else 0) else 0)), .unset] [(.int la)])) _
          refine XS.iconst X11.here hx rfl (hb hby at_195) ?_
          show Steps p.tables e below (T11.setTop (mkF m 196 #[.val (.int p1), .val (.int p2), .val (.int p3), .val (.int p4), .val (.int ka), .val (.int kb), .val (.int la), .val (.int c0), .val (.int c1), .val (.int lb), .val (.int d0), .val (.int d1), .val (.ref b5), .val (.int (if x_ka = x_kb then (if (textL la c0 c1) = (textL lb d0 d1) then 1 else 0) else 0)), .unset] [(.int (2 : Int32)), (.int la)])) _
          by_cases c196_17 : la < (2 : Int32)
          · refine XS.icmpYes X11.here hx rfl (pc0 := 196) (pc' := 206) rfl (hb hby at_196) rfl (tlt c196_17).1 (by decide) (by decide) ?_
            show Steps p.tables e below (T11.setTop (mkF m 206 #[.val (.int p1), .val (.int p2), .val (.int p3), .val (.int p4), .val (.int ka), .val (.int kb), .val (.int la), .val (.int c0), .val (.int c1), .val (.int lb), .val (.int d0), .val (.int d1), .val (.ref b5), .val (.int (if x_ka = x_kb then (if (textL la c0 c1) = (textL lb d0 d1) then 1 else 0) else 0)), .unset] [])) _
            refine XS.iconst X11.here hx rfl (hb hby at_206) ?_
            show Steps p.tables e below (T11.setTop (mkF m 207 #[.val (.int p1), .val (.int p2), .val (.int p3), .val (.int p4), .val (.int ka), .val (.int kb), .val (.int la), .val (.int c0), .val (.int c1), .val (.int lb), .val (.int d0), .val (.int d1), .val (.ref b5), .val (.int (if x_ka = x_kb then (if (textL la c0 c1) = (textL lb d0 d1) then 1 else 0) else 0)), .unset] [(.int (1 : Int32))])) _
            refine XS.goto X11.here hx rfl (pc0 := 207) (pc' := 211) rfl (hb hby at_207) (by decide) (by decide) ?_
            (try simp only [if_pos c177_12] at k); (try simp only [if_neg c183_13] at k); (try simp only [if_pos c190_16] at k); (try simp only [if_pos c196_17] at k); exact k
          · refine XS.icmpNo X11.here hx rfl (hb hby at_196) rfl (flt c196_17).1 ?_
            show Steps p.tables e below (T11.setTop (mkF m 199 #[.val (.int p1), .val (.int p2), .val (.int p3), .val (.int p4), .val (.int ka), .val (.int kb), .val (.int la), .val (.int c0), .val (.int c1), .val (.int lb), .val (.int d0), .val (.int d1), .val (.ref b5), .val (.int (if x_ka = x_kb then (if (textL la c0 c1) = (textL lb d0 d1) then 1 else 0) else 0)), .unset] [])) _
            refine XS.iload X11.here hx rfl (hb hby at_199) rfl  ?_
            show Steps p.tables e below (T11.setTop (mkF m 201 #[.val (.int p1), .val (.int p2), .val (.int p3), .val (.int p4), .val (.int ka), .val (.int kb), .val (.int la), .val (.int c0), .val (.int c1), .val (.int lb), .val (.int d0), .val (.int d1), .val (.ref b5), .val (.int (if x_ka = x_kb then (if (textL la c0 c1) = (textL lb d0 d1) then 1 else 0) else 0)), .unset] [(.int c1)])) _
            refine XS.iload X11.here hx rfl (hb hby at_201) rfl  ?_
            show Steps p.tables e below (T11.setTop (mkF m 203 #[.val (.int p1), .val (.int p2), .val (.int p3), .val (.int p4), .val (.int ka), .val (.int kb), .val (.int la), .val (.int c0), .val (.int c1), .val (.int lb), .val (.int d0), .val (.int d1), .val (.ref b5), .val (.int (if x_ka = x_kb then (if (textL la c0 c1) = (textL lb d0 d1) then 1 else 0) else 0)), .unset] [(.int d1), (.int c1)])) _
            by_cases c203_18 : c1 = d1
            · refine XS.icmpNo X11.here hx rfl (hb hby at_203) rfl (teq c203_18).2 ?_
              show Steps p.tables e below (T11.setTop (mkF m 206 #[.val (.int p1), .val (.int p2), .val (.int p3), .val (.int p4), .val (.int ka), .val (.int kb), .val (.int la), .val (.int c0), .val (.int c1), .val (.int lb), .val (.int d0), .val (.int d1), .val (.ref b5), .val (.int (if x_ka = x_kb then (if (textL la c0 c1) = (textL lb d0 d1) then 1 else 0) else 0)), .unset] [])) _
              refine XS.iconst X11.here hx rfl (hb hby at_206) ?_
              show Steps p.tables e below (T11.setTop (mkF m 207 #[.val (.int p1), .val (.int p2), .val (.int p3), .val (.int p4), .val (.int ka), .val (.int kb), .val (.int la), .val (.int c0), .val (.int c1), .val (.int lb), .val (.int d0), .val (.int d1), .val (.ref b5), .val (.int (if x_ka = x_kb then (if (textL la c0 c1) = (textL lb d0 d1) then 1 else 0) else 0)), .unset] [(.int (1 : Int32))])) _
              refine XS.goto X11.here hx rfl (pc0 := 207) (pc' := 211) rfl (hb hby at_207) (by decide) (by decide) ?_
              (try simp only [if_pos c177_12] at k); (try simp only [if_neg c183_13] at k); (try simp only [if_pos c190_16] at k); (try simp only [if_neg c196_17] at k); (try simp only [if_pos c203_18] at k); exact k
            · refine XS.icmpYes X11.here hx rfl (pc0 := 203) (pc' := 210) rfl (hb hby at_203) rfl (feq c203_18).2 (by decide) (by decide) ?_
              show Steps p.tables e below (T11.setTop (mkF m 210 #[.val (.int p1), .val (.int p2), .val (.int p3), .val (.int p4), .val (.int ka), .val (.int kb), .val (.int la), .val (.int c0), .val (.int c1), .val (.int lb), .val (.int d0), .val (.int d1), .val (.ref b5), .val (.int (if x_ka = x_kb then (if (textL la c0 c1) = (textL lb d0 d1) then 1 else 0) else 0)), .unset] [])) _
              refine XS.iconst X11.here hx rfl (hb hby at_210) ?_
              (try simp only [if_pos c177_12] at k); (try simp only [if_neg c183_13] at k); (try simp only [if_pos c190_16] at k); (try simp only [if_neg c196_17] at k); (try simp only [if_neg c203_18] at k); exact k
        · refine XS.icmpYes X11.here hx rfl (pc0 := 190) (pc' := 210) rfl (hb hby at_190) rfl (feq c190_16).2 (by decide) (by decide) ?_
          show Steps p.tables e below (T11.setTop (mkF m 210 #[.val (.int p1), .val (.int p2), .val (.int p3), .val (.int p4), .val (.int ka), .val (.int kb), .val (.int la), .val (.int c0), .val (.int c1), .val (.int lb), .val (.int d0), .val (.int d1), .val (.ref b5), .val (.int (if x_ka = x_kb then (if (textL la c0 c1) = (textL lb d0 d1) then 1 else 0) else 0)), .unset] [])) _
          refine XS.iconst X11.here hx rfl (hb hby at_210) ?_
          (try simp only [if_pos c177_12] at k); (try simp only [if_neg c183_13] at k); (try simp only [if_neg c190_16] at k); exact k
    · refine XS.icmpYes X11.here hx rfl (pc0 := 177) (pc' := 210) rfl (hb hby at_177) rfl (feq c177_12).2 (by decide) (by decide) ?_
      show Steps p.tables e below (T11.setTop (mkF m 210 #[.val (.int p1), .val (.int p2), .val (.int p3), .val (.int p4), .val (.int ka), .val (.int kb), .val (.int la), .val (.int c0), .val (.int c1), .val (.int lb), .val (.int d0), .val (.int d1), .val (.ref b5), .val (.int (if x_ka = x_kb then (if (textL la c0 c1) = (textL lb d0 d1) then 1 else 0) else 0)), .unset] [])) _
      refine XS.iconst X11.here hx rfl (hb hby at_210) ?_
      (try simp only [if_neg c177_12] at k); exact k
  show GoH _ _ _ _ _ _ _ _ _ _  T11 (mkF m 211 #[.val (.int p1), .val (.int p2), .val (.int p3), .val (.int p4), .val (.int ka), .val (.int kb), .val (.int la), .val (.int c0), .val (.int c1), .val (.int lb), .val (.int d0), .val (.int d1), .val (.ref b5), .val (.int (if x_ka = x_kb then (if (textL la c0 c1) = (textL lb d0 d1) then 1 else 0) else 0)), .unset] [(.int (if la = lb then (if la < (1 : Int32) then (if la < (2 : Int32) then (1 : Int32) else (if c1 = d1 then (1 : Int32) else (0 : Int32))) else (if c0 = d0 then (if la < (2 : Int32) then (1 : Int32) else (if c1 = d1 then (1 : Int32) else (0 : Int32))) else (0 : Int32))) else (0 : Int32)))])
  refine GoH.st (fun t k => XS.istore X11.here hx rfl (hb hby at_211) rfl (l' := #[.val (.int p1), .val (.int p2), .val (.int p3), .val (.int p4), .val (.int ka), .val (.int kb), .val (.int la), .val (.int c0), .val (.int c1), .val (.int lb), .val (.int d0), .val (.int d1), .val (.ref b5), .val (.int (if x_ka = x_kb then (if (textL la c0 c1) = (textL lb d0 d1) then 1 else 0) else 0)), .val (.int (if la = lb then (if la < (1 : Int32) then (if la < (2 : Int32) then (1 : Int32) else (if c1 = d1 then (1 : Int32) else (0 : Int32))) else (if c0 = d0 then (if la < (2 : Int32) then (1 : Int32) else (if c1 = d1 then (1 : Int32) else (0 : Int32))) else (0 : Int32))) else (0 : Int32)))]) rfl k) ?_
  show GoH _ _ _ _ _ _ _ _ _ _  T11 (mkF m 213 #[.val (.int p1), .val (.int p2), .val (.int p3), .val (.int p4), .val (.int ka), .val (.int kb), .val (.int la), .val (.int c0), .val (.int c1), .val (.int lb), .val (.int d0), .val (.int d1), .val (.ref b5), .val (.int (if x_ka = x_kb then (if (textL la c0 c1) = (textL lb d0 d1) then 1 else 0) else 0)), .val (.int (if la = lb then (if la < (1 : Int32) then (if la < (2 : Int32) then (1 : Int32) else (if c1 = d1 then (1 : Int32) else (0 : Int32))) else (if c0 = d0 then (if la < (2 : Int32) then (1 : Int32) else (if c1 = d1 then (1 : Int32) else (0 : Int32))) else (0 : Int32))) else (0 : Int32)))] [])
  refine GoH.st (fun t k => XS.iload X11.here hx rfl (hb hby at_213) rfl  k) ?_
  show GoH _ _ _ _ _ _ _ _ _ _  T11 (mkF m 215 #[.val (.int p1), .val (.int p2), .val (.int p3), .val (.int p4), .val (.int ka), .val (.int kb), .val (.int la), .val (.int c0), .val (.int c1), .val (.int lb), .val (.int d0), .val (.int d1), .val (.ref b5), .val (.int (if x_ka = x_kb then (if (textL la c0 c1) = (textL lb d0 d1) then 1 else 0) else 0)), .val (.int (if la = lb then (if la < (1 : Int32) then (if la < (2 : Int32) then (1 : Int32) else (if c1 = d1 then (1 : Int32) else (0 : Int32))) else (if c0 = d0 then (if la < (2 : Int32) then (1 : Int32) else (if c1 = d1 then (1 : Int32) else (0 : Int32))) else (0 : Int32))) else (0 : Int32)))] [(.int (if x_ka = x_kb then (if (textL la c0 c1) = (textL lb d0 d1) then 1 else 0) else 0))])
  refine GoH.st (fun t k => XS.iload X11.here hx rfl (hb hby at_215) rfl  k) ?_
  show GoH _ _ _ _ _ _ _ _ _ _  T11 (mkF m 217 #[.val (.int p1), .val (.int p2), .val (.int p3), .val (.int p4), .val (.int ka), .val (.int kb), .val (.int la), .val (.int c0), .val (.int c1), .val (.int lb), .val (.int d0), .val (.int d1), .val (.ref b5), .val (.int (if x_ka = x_kb then (if (textL la c0 c1) = (textL lb d0 d1) then 1 else 0) else 0)), .val (.int (if la = lb then (if la < (1 : Int32) then (if la < (2 : Int32) then (1 : Int32) else (if c1 = d1 then (1 : Int32) else (0 : Int32))) else (if c0 = d0 then (if la < (2 : Int32) then (1 : Int32) else (if c1 = d1 then (1 : Int32) else (0 : Int32))) else (0 : Int32))) else (0 : Int32)))] [(.int ka), (.int (if x_ka = x_kb then (if (textL la c0 c1) = (textL lb d0 d1) then 1 else 0) else 0))])
  refine GoH.st (fun t k => XS.iload X11.here hx rfl (hb hby at_217) rfl  k) ?_
  show GoH _ _ _ _ _ _ _ _ _ _  T11 (mkF m 219 #[.val (.int p1), .val (.int p2), .val (.int p3), .val (.int p4), .val (.int ka), .val (.int kb), .val (.int la), .val (.int c0), .val (.int c1), .val (.int lb), .val (.int d0), .val (.int d1), .val (.ref b5), .val (.int (if x_ka = x_kb then (if (textL la c0 c1) = (textL lb d0 d1) then 1 else 0) else 0)), .val (.int (if la = lb then (if la < (1 : Int32) then (if la < (2 : Int32) then (1 : Int32) else (if c1 = d1 then (1 : Int32) else (0 : Int32))) else (if c0 = d0 then (if la < (2 : Int32) then (1 : Int32) else (if c1 = d1 then (1 : Int32) else (0 : Int32))) else (0 : Int32))) else (0 : Int32)))] [(.int kb), (.int ka), (.int (if x_ka = x_kb then (if (textL la c0 c1) = (textL lb d0 d1) then 1 else 0) else 0))])
  refine GoH.st (T' := T11) (g' := (mkF m 232 #[.val (.int p1), .val (.int p2), .val (.int p3), .val (.int p4), .val (.int ka), .val (.int kb), .val (.int la), .val (.int c0), .val (.int c1), .val (.int lb), .val (.int d0), .val (.int d1), .val (.ref b5), .val (.int (if x_ka = x_kb then (if (textL la c0 c1) = (textL lb d0 d1) then 1 else 0) else 0)), .val (.int (if la = lb then (if la < (1 : Int32) then (if la < (2 : Int32) then (1 : Int32) else (if c1 = d1 then (1 : Int32) else (0 : Int32))) else (if c0 = d0 then (if la < (2 : Int32) then (1 : Int32) else (if c1 = d1 then (1 : Int32) else (0 : Int32))) else (0 : Int32))) else (0 : Int32)))] [(.int (if ka = kb then (if (if la = lb then (if la < (1 : Int32) then (if la < (2 : Int32) then (1 : Int32) else (if c1 = d1 then (1 : Int32) else (0 : Int32))) else (if c0 = d0 then (if la < (2 : Int32) then (1 : Int32) else (if c1 = d1 then (1 : Int32) else (0 : Int32))) else (0 : Int32))) else (0 : Int32)) = (0 : Int32) then (0 : Int32) else (1 : Int32)) else (0 : Int32))), (.int (if x_ka = x_kb then (if (textL la c0 c1) = (textL lb d0 d1) then 1 else 0) else 0))])) (fun t k => ?_) ?_
  · show Steps p.tables e below (T11.setTop (mkF m 219 #[.val (.int p1), .val (.int p2), .val (.int p3), .val (.int p4), .val (.int ka), .val (.int kb), .val (.int la), .val (.int c0), .val (.int c1), .val (.int lb), .val (.int d0), .val (.int d1), .val (.ref b5), .val (.int (if x_ka = x_kb then (if (textL la c0 c1) = (textL lb d0 d1) then 1 else 0) else 0)), .val (.int (if la = lb then (if la < (1 : Int32) then (if la < (2 : Int32) then (1 : Int32) else (if c1 = d1 then (1 : Int32) else (0 : Int32))) else (if c0 = d0 then (if la < (2 : Int32) then (1 : Int32) else (if c1 = d1 then (1 : Int32) else (0 : Int32))) else (0 : Int32))) else (0 : Int32)))] [(.int kb), (.int ka), (.int (if x_ka = x_kb then (if (textL la c0 c1) = (textL lb d0 d1) then 1 else 0) else 0))])) _
    by_cases c219_19 : ka = kb
    · refine XS.icmpNo X11.here hx rfl (hb hby at_219) rfl (teq c219_19).2 ?_
      show Steps p.tables e below (T11.setTop (mkF m 222 #[.val (.int p1), .val (.int p2), .val (.int p3), .val (.int p4), .val (.int ka), .val (.int kb), .val (.int la), .val (.int c0), .val (.int c1), .val (.int lb), .val (.int d0), .val (.int d1), .val (.ref b5), .val (.int (if x_ka = x_kb then (if (textL la c0 c1) = (textL lb d0 d1) then 1 else 0) else 0)), .val (.int (if la = lb then (if la < (1 : Int32) then (if la < (2 : Int32) then (1 : Int32) else (if c1 = d1 then (1 : Int32) else (0 : Int32))) else (if c0 = d0 then (if la < (2 : Int32) then (1 : Int32) else (if c1 = d1 then (1 : Int32) else (0 : Int32))) else (0 : Int32))) else (0 : Int32)))] [(.int (if x_ka = x_kb then (if (textL la c0 c1) = (textL lb d0 d1) then 1 else 0) else 0))])) _
      refine XS.iload X11.here hx rfl (hb hby at_222) rfl  ?_
      show Steps p.tables e below (T11.setTop (mkF m 224 #[.val (.int p1), .val (.int p2), .val (.int p3), .val (.int p4), .val (.int ka), .val (.int kb), .val (.int la), .val (.int c0), .val (.int c1), .val (.int lb), .val (.int d0), .val (.int d1), .val (.ref b5), .val (.int (if x_ka = x_kb then (if (textL la c0 c1) = (textL lb d0 d1) then 1 else 0) else 0)), .val (.int (if la = lb then (if la < (1 : Int32) then (if la < (2 : Int32) then (1 : Int32) else (if c1 = d1 then (1 : Int32) else (0 : Int32))) else (if c0 = d0 then (if la < (2 : Int32) then (1 : Int32) else (if c1 = d1 then (1 : Int32) else (0 : Int32))) else (0 : Int32))) else (0 : Int32)))] [(.int (if la = lb then (if la < (1 : Int32) then (if la < (2 : Int32) then (1 : Int32) else (if c1 = d1 then (1 : Int32) else (0 : Int32))) else (if c0 = d0 then (if la < (2 : Int32) then (1 : Int32) else (if c1 = d1 then (1 : Int32) else (0 : Int32))) else (0 : Int32))) else (0 : Int32))), (.int (if x_ka = x_kb then (if (textL la c0 c1) = (textL lb d0 d1) then 1 else 0) else 0))])) _
      by_cases c224_20 : (if la = lb then (if la < (1 : Int32) then (if la < (2 : Int32) then (1 : Int32) else (if c1 = d1 then (1 : Int32) else (0 : Int32))) else (if c0 = d0 then (if la < (2 : Int32) then (1 : Int32) else (if c1 = d1 then (1 : Int32) else (0 : Int32))) else (0 : Int32))) else (0 : Int32)) = (0 : Int32)
      · refine XS.ifYes X11.here hx rfl (pc0 := 224) (pc' := 231) rfl (hb hby at_224) rfl ((if0 _ _).trans (teq c224_20).1) (by decide) (by decide) ?_
        show Steps p.tables e below (T11.setTop (mkF m 231 #[.val (.int p1), .val (.int p2), .val (.int p3), .val (.int p4), .val (.int ka), .val (.int kb), .val (.int la), .val (.int c0), .val (.int c1), .val (.int lb), .val (.int d0), .val (.int d1), .val (.ref b5), .val (.int (if x_ka = x_kb then (if (textL la c0 c1) = (textL lb d0 d1) then 1 else 0) else 0)), .val (.int (if la = lb then (if la < (1 : Int32) then (if la < (2 : Int32) then (1 : Int32) else (if c1 = d1 then (1 : Int32) else (0 : Int32))) else (if c0 = d0 then (if la < (2 : Int32) then (1 : Int32) else (if c1 = d1 then (1 : Int32) else (0 : Int32))) else (0 : Int32))) else (0 : Int32)))] [(.int (if x_ka = x_kb then (if (textL la c0 c1) = (textL lb d0 d1) then 1 else 0) else 0))])) _
        refine XS.iconst X11.here hx rfl (hb hby at_231) ?_
        (try simp only [if_pos c219_19] at k); (try simp only [if_pos c224_20] at k); exact k
      · refine XS.ifNo X11.here hx rfl (hb hby at_224) rfl ((if0 _ _).trans (feq c224_20).1) ?_
        show Steps p.tables e below (T11.setTop (mkF m 227 #[.val (.int p1), .val (.int p2), .val (.int p3), .val (.int p4), .val (.int ka), .val (.int kb), .val (.int la), .val (.int c0), .val (.int c1), .val (.int lb), .val (.int d0), .val (.int d1), .val (.ref b5), .val (.int (if x_ka = x_kb then (if (textL la c0 c1) = (textL lb d0 d1) then 1 else 0) else 0)), .val (.int (if la = lb then (if la < (1 : Int32) then (if la < (2 : Int32) then (1 : Int32) else (if c1 = d1 then (1 : Int32) else (0 : Int32))) else (if c0 = d0 then (if la < (2 : Int32) then (1 : Int32) else (if c1 = d1 then (1 : Int32) else (0 : Int32))) else (0 : Int32))) else (0 : Int32)))] [(.int (if x_ka = x_kb then (if (textL la c0 c1) = (textL lb d0 d1) then 1 else 0) else 0))])) _
        refine XS.iconst X11.here hx rfl (hb hby at_227) ?_
        show Steps p.tables e below (T11.setTop (mkF m 228 #[.val (.int p1), .val (.int p2), .val (.int p3), .val (.int p4), .val (.int ka), .val (.int kb), .val (.int la), .val (.int c0), .val (.int c1), .val (.int lb), .val (.int d0), .val (.int d1), .val (.ref b5), .val (.int (if x_ka = x_kb then (if (textL la c0 c1) = (textL lb d0 d1) then 1 else 0) else 0)), .val (.int (if la = lb then (if la < (1 : Int32) then (if la < (2 : Int32) then (1 : Int32) else (if c1 = d1 then (1 : Int32) else (0 : Int32))) else (if c0 = d0 then (if la < (2 : Int32) then (1 : Int32) else (if c1 = d1 then (1 : Int32) else (0 : Int32))) else (0 : Int32))) else (0 : Int32)))] [(.int (1 : Int32)), (.int (if x_ka = x_kb then (if (textL la c0 c1) = (textL lb d0 d1) then 1 else 0) else 0))])) _
        refine XS.goto X11.here hx rfl (pc0 := 228) (pc' := 232) rfl (hb hby at_228) (by decide) (by decide) ?_
        (try simp only [if_pos c219_19] at k); (try simp only [if_neg c224_20] at k); exact k
    · refine XS.icmpYes X11.here hx rfl (pc0 := 219) (pc' := 231) rfl (hb hby at_219) rfl (feq c219_19).2 (by decide) (by decide) ?_
      show Steps p.tables e below (T11.setTop (mkF m 231 #[.val (.int p1), .val (.int p2), .val (.int p3), .val (.int p4), .val (.int ka), .val (.int kb), .val (.int la), .val (.int c0), .val (.int c1), .val (.int lb), .val (.int d0), .val (.int d1), .val (.ref b5), .val (.int (if x_ka = x_kb then (if (textL la c0 c1) = (textL lb d0 d1) then 1 else 0) else 0)), .val (.int (if la = lb then (if la < (1 : Int32) then (if la < (2 : Int32) then (1 : Int32) else (if c1 = d1 then (1 : Int32) else (0 : Int32))) else (if c0 = d0 then (if la < (2 : Int32) then (1 : Int32) else (if c1 = d1 then (1 : Int32) else (0 : Int32))) else (0 : Int32))) else (0 : Int32)))] [(.int (if x_ka = x_kb then (if (textL la c0 c1) = (textL lb d0 d1) then 1 else 0) else 0))])) _
      refine XS.iconst X11.here hx rfl (hb hby at_231) ?_
      (try simp only [if_neg c219_19] at k); exact k
  show GoH _ _ _ _ _ _ _ _ _ _  T11 (mkF m 232 #[.val (.int p1), .val (.int p2), .val (.int p3), .val (.int p4), .val (.int ka), .val (.int kb), .val (.int la), .val (.int c0), .val (.int c1), .val (.int lb), .val (.int d0), .val (.int d1), .val (.ref b5), .val (.int (if x_ka = x_kb then (if (textL la c0 c1) = (textL lb d0 d1) then 1 else 0) else 0)), .val (.int (if la = lb then (if la < (1 : Int32) then (if la < (2 : Int32) then (1 : Int32) else (if c1 = d1 then (1 : Int32) else (0 : Int32))) else (if c0 = d0 then (if la < (2 : Int32) then (1 : Int32) else (if c1 = d1 then (1 : Int32) else (0 : Int32))) else (0 : Int32))) else (0 : Int32)))] [(.int (if ka = kb then (if (if la = lb then (if la < (1 : Int32) then (if la < (2 : Int32) then (1 : Int32) else (if c1 = d1 then (1 : Int32) else (0 : Int32))) else (if c0 = d0 then (if la < (2 : Int32) then (1 : Int32) else (if c1 = d1 then (1 : Int32) else (0 : Int32))) else (0 : Int32))) else (0 : Int32)) = (0 : Int32) then (0 : Int32) else (1 : Int32)) else (0 : Int32))), (.int (if x_ka = x_kb then (if (textL la c0 c1) = (textL lb d0 d1) then 1 else 0) else 0))])
  refine GoH.st (fun t k => XS.icmpNo X11.here hx rfl (hb hby at_232) rfl (teq (own_fin hla hlb hc0 hc1 hd0 hd1 (own_kinds hO hka hkb eq_x_ka eq_x_kb) : (if x_ka = x_kb then (if (textL la c0 c1) = (textL lb d0 d1) then 1 else 0) else 0) = (if ka = kb then (if (if la = lb then (if la < (1 : Int32) then (if la < (2 : Int32) then (1 : Int32) else (if c1 = d1 then (1 : Int32) else (0 : Int32))) else (if c0 = d0 then (if la < (2 : Int32) then (1 : Int32) else (if c1 = d1 then (1 : Int32) else (0 : Int32))) else (0 : Int32))) else (0 : Int32)) = (0 : Int32) then (0 : Int32) else (1 : Int32)) else (0 : Int32)))).2 k) ?_
  show GoH _ _ _ _ _ _ _ _ _ _  T11 (mkF m 235 #[.val (.int p1), .val (.int p2), .val (.int p3), .val (.int p4), .val (.int ka), .val (.int kb), .val (.int la), .val (.int c0), .val (.int c1), .val (.int lb), .val (.int d0), .val (.int d1), .val (.ref b5), .val (.int (if x_ka = x_kb then (if (textL la c0 c1) = (textL lb d0 d1) then 1 else 0) else 0)), .val (.int (if la = lb then (if la < (1 : Int32) then (if la < (2 : Int32) then (1 : Int32) else (if c1 = d1 then (1 : Int32) else (0 : Int32))) else (if c0 = d0 then (if la < (2 : Int32) then (1 : Int32) else (if c1 = d1 then (1 : Int32) else (0 : Int32))) else (0 : Int32))) else (0 : Int32)))] [])
  refine GoH.st (fun t k => XS.iconst X11.here hx rfl (hb hby at_235) k) ?_
  show GoH _ _ _ _ _ _ _ _ _ _  T11 (mkF m 236 #[.val (.int p1), .val (.int p2), .val (.int p3), .val (.int p4), .val (.int ka), .val (.int kb), .val (.int la), .val (.int c0), .val (.int c1), .val (.int lb), .val (.int d0), .val (.int d1), .val (.ref b5), .val (.int (if x_ka = x_kb then (if (textL la c0 c1) = (textL lb d0 d1) then 1 else 0) else 0)), .val (.int (if la = lb then (if la < (1 : Int32) then (if la < (2 : Int32) then (1 : Int32) else (if c1 = d1 then (1 : Int32) else (0 : Int32))) else (if c0 = d0 then (if la < (2 : Int32) then (1 : Int32) else (if c1 = d1 then (1 : Int32) else (0 : Int32))) else (0 : Int32))) else (0 : Int32)))] [(.int (1 : Int32))])
  refine GoH.st (fun t k => XS.goto X11.here hx rfl (pc0 := 236) (pc' := 240) rfl (hb hby at_236) (by decide) (by decide) k) ?_
  show GoH _ _ _ _ _ _ _ _ _ _  T11 (mkF m 240 #[.val (.int p1), .val (.int p2), .val (.int p3), .val (.int p4), .val (.int ka), .val (.int kb), .val (.int la), .val (.int c0), .val (.int c1), .val (.int lb), .val (.int d0), .val (.int d1), .val (.ref b5), .val (.int (if x_ka = x_kb then (if (textL la c0 c1) = (textL lb d0 d1) then 1 else 0) else 0)), .val (.int (if la = lb then (if la < (1 : Int32) then (if la < (2 : Int32) then (1 : Int32) else (if c1 = d1 then (1 : Int32) else (0 : Int32))) else (if c0 = d0 then (if la < (2 : Int32) then (1 : Int32) else (if c1 = d1 then (1 : Int32) else (0 : Int32))) else (0 : Int32))) else (0 : Int32)))] [(.int (1 : Int32))])
  refine GoH.retN X11 hS hk e11q hZ hEL HH RR hlk hx (t := .boolean) (z' := (1 : Int32)) Bd.returns (by simp) (hb hby at_240) (by decide) (by decide) rfl ?_
  show Q_rm0 Z _ _ _ _ _ _ _ _ _ _ _ _ _ _ h0 n0 _ T11.heap _
  rw [e11q]
  exact ⟨rfl, N11⟩
set_option maxRecDepth 65536 in
set_option maxHeartbeats 40000000 in
theorem comes_1 {Post : Tables → Env → Array Value → State → Outcome → State → Prop} (hpost : ∀ tb e args s v u, (limb_1_1.after args s (.returned v) u = true ∧ limb_1_2.after args s (.returned v) u = true ∧ True) → ReturnedEndW s (.returned v) u (Jvm.fieldLocs frame_1_writes args s ++ Jvm.arrayLocs frame_1_arrays args s ++ Jvm.staticLocs frame_1_statics s) 24 1152 → Post tb e args s (.returned v) u) :
    ArmFor flags0 classFile x code maxLocals ret World_1 tables_1 room_1 Calls_1 rest_1 Pre_1 Post := by
  intro l hfl _ _ p e ha hc hk s m args below hf hA hF happ hP
  obtain ⟨hcalls, hrest, hpre⟩ := hP
  obtain ⟨-, -, -, hnamed, -, -, -, hat⟩ := (Spec.applies_iff hf).mp happ
  obtain ⟨hg, hn⟩ := and_e (Cond.before_iff.mp (show (Jvm.Cond.and given_1 narrow_1).before args s = true from hpre))
  obtain ⟨g1, g2⟩ := and_e hg
  obtain ⟨g3, g4⟩ := and_e g2
  obtain ⟨g5, g6⟩ := and_e g4
  obtain ⟨g7, g8⟩ := and_e g6
  obtain ⟨w0, w1, w2, w3, rfl⟩ : ∃ w0 w1 w2 w3 : Value, args = #[w0, w1, w2, w3] := by
    have hs : args.size = 4 := by simpa [Cond.value, given_1] using g1
    obtain ⟨L⟩ := args
    match L, hs with
    | [w0, w1, w2, w3], _ => exact ⟨w0, w1, w2, w3, rfl⟩
  have hw := fun d (hd : d ∈ tables_1) => atoms_spec (ws := Jvm.Cond.code x code maxLocals ret :: tables_1) hat d (List.mem_cons_of_mem _ hd)
  have hfit : Fit s := fun {y c} hc i hi => by
    obtain ⟨ha, rfl⟩ := Array.getElem?_eq_some_iff.mp hc
    have q := List.all_eq_true.mp ((Array.all_eq_true_iff_forall_mem.mp hF) _ (Array.getElem_mem ha)) i (List.mem_range.mpr hi)
    simpa [Array.getElem?_eq_getElem hi] using q
  obtain ⟨hsets, hown0⟩ := atoms_of _ (rest_1_c_eq ▸ (show rest_1_c.before _ s = true from hrest))
  obtain ⟨i0, ei0⟩ := is_v g3
  obtain rfl : w0 = (.int i0) := Option.some.inj ei0
  obtain ⟨i1, ei1⟩ := is_v g5
  obtain rfl : w1 = (.int i1) := Option.some.inj ei1
  obtain ⟨i2, ei2⟩ := is_v g7
  obtain rfl : w2 = (.int i2) := Option.some.inj ei2
  obtain ⟨i3, ei3⟩ := is_v g8
  obtain rfl : w3 = (.int i3) := Option.some.inj ei3
  obtain ⟨zc, ezc⟩ := is_v (Cond.before_iff.mp (hsets _ (List.mem_of_getElem? (i := 1) rfl)))
  have S_COMPACT : Sta s s.heap "java/lang/String" "COMPACT_STRINGS" "Z" (.int zc) := Sta.start ezc (Or.inl (hsets _ (List.mem_of_getElem? (i := 0) rfl)))
  have hcs : ¬ (zc = (0 : Int32)) := gotF (Cond.eq_ints ezc (Term.int_eval (0))) (not_v (Cond.before_iff.mp (hsets _ (List.mem_of_getElem? (i := 2) rfl))))
  obtain ⟨fm, efm, ref_fm⟩ := isR_v (Cond.before_iff.mp (hsets _ (List.mem_of_getElem? (i := 8) rfl)))
  have S_SIO : Sta s s.heap "jdk/internal/util/Preconditions" "SIOOBE_FORMATTER" "Ljava/util/function/BiFunction;" fm := Sta.start efm (Or.inl (hsets _ (List.mem_of_getElem? (i := 7) rfl)))
  obtain ⟨nr1, nr2⟩ := and_e hn
  obtain ⟨nr3, nr4⟩ := and_e nr2
  obtain ⟨nr5, nr6⟩ := and_e nr4
  obtain ⟨nr7, nr8⟩ := and_e nr6
  obtain ⟨nr9, nr10⟩ := and_e nr8
  obtain ⟨nr11, nr12⟩ := and_e nr10
  obtain ⟨nr13, nr14⟩ := and_e nr12
  obtain ⟨nr15, nr16⟩ := and_e nr14
  obtain ⟨nr17, nr18⟩ := and_e nr16
  obtain ⟨nr19, nr20⟩ := and_e nr18
  obtain ⟨nr21, nr22⟩ := and_e nr20
  obtain ⟨nr23, nr24⟩ := and_e nr22
  obtain ⟨nr25, nr26⟩ := and_e nr24
  obtain ⟨nr27, nr28⟩ := and_e nr26
  obtain ⟨nr29, nr30⟩ := and_e nr28
  obtain ⟨nr31, nr32⟩ := and_e nr30
  obtain ⟨nr33, nr34⟩ := and_e nr32
  obtain ⟨w_LITERAL, S_LITERAL, E_LITERAL, O_LITERAL⟩ := own_en nr1 nr29 (hw _ (List.mem_of_getElem? (i := 8) rfl)) (hw _ (List.mem_of_getElem? (i := 9) rfl))
  obtain ⟨w_NUMBER, S_NUMBER, E_NUMBER, O_NUMBER⟩ := own_en nr15 nr19 (hw _ (List.mem_of_getElem? (i := 8) rfl)) (hw _ (List.mem_of_getElem? (i := 87) rfl))
  obtain ⟨w_VARIABLE, S_VARIABLE, E_VARIABLE, O_VARIABLE⟩ := own_en nr25 nr27 (hw _ (List.mem_of_getElem? (i := 8) rfl)) (hw _ (List.mem_of_getElem? (i := 93) rfl))
  obtain ⟨w_NAME_TEST, S_NAME_TEST, E_NAME_TEST, O_NAME_TEST⟩ := own_en nr3 nr33 (hw _ (List.mem_of_getElem? (i := 8) rfl)) (hw _ (List.mem_of_getElem? (i := 76) rfl))
  obtain ⟨w_NODE_TYPE, S_NODE_TYPE, E_NODE_TYPE, O_NODE_TYPE⟩ := own_en nr17 nr21 (hw _ (List.mem_of_getElem? (i := 8) rfl)) (hw _ (List.mem_of_getElem? (i := 89) rfl))
  obtain ⟨w_FUNCTION_NAME, S_FUNCTION_NAME, E_FUNCTION_NAME, O_FUNCTION_NAME⟩ := own_en nr9 nr13 (hw _ (List.mem_of_getElem? (i := 8) rfl)) (hw _ (List.mem_of_getElem? (i := 85) rfl))
  obtain ⟨w_AXIS_NAME, S_AXIS_NAME, E_AXIS_NAME, O_AXIS_NAME⟩ := own_en nr7 nr11 (hw _ (List.mem_of_getElem? (i := 8) rfl)) (hw _ (List.mem_of_getElem? (i := 83) rfl))
  obtain ⟨w_OPERATOR, S_OPERATOR, E_OPERATOR, O_OPERATOR⟩ := own_en nr5 nr31 (hw _ (List.mem_of_getElem? (i := 8) rfl)) (hw _ (List.mem_of_getElem? (i := 81) rfl))
  obtain ⟨w_PUNCTUATION, S_PUNCTUATION, E_PUNCTUATION, O_PUNCTUATION⟩ := own_en nr23 nr34 (hw _ (List.mem_of_getElem? (i := 8) rfl)) (hw _ (List.mem_of_getElem? (i := 91) rfl))
  have hEL : EW s _ EL := (EW.cons (hw _ (List.mem_of_getElem? (i := 77) rfl)) (by decide) EW.nil)
  have wS : ∀ a ∈ Bundle.stringAtoms, a.before _ s = true := fun d hd => hw d ((by decide +kernel : ∀ d ∈ Bundle.stringAtoms, d ∈ tables_1) d hd)
  have HH : CHv s EL s.vm s.heap := CHv.start hEL (fun q hq => hcalls.1 q hq) (hsets _ (List.mem_of_getElem? (i := 2) rfl)) (hw _ (List.mem_of_getElem? (i := 32) rfl)) (hw _ (List.mem_of_getElem? (i := 14) rfl))
  obtain ⟨n, o, h1, h2, h3, _, L, rfl, ⟨rfl, N⟩, hcr, hq⟩ := rm0 l s _ hw tables_1 i0 i1 i2 i3 zc w_LITERAL w_NUMBER w_VARIABLE w_NAME_TEST w_NODE_TYPE w_FUNCTION_NAME w_AXIS_NAME w_OPERATOR w_PUNCTUATION s.heap s.heap.size (Old.start s) hEL wS S_COMPACT hcs S_LITERAL S_NUMBER S_VARIABLE S_NAME_TEST S_NODE_TYPE S_FUNCTION_NAME S_AXIS_NAME S_OPERATOR S_PUNCTUATION (fun k hk => by rcases hk with hk | hk | hk | hk | hk | hk | hk | hk | hk <;> subst hk <;> simp only [kindF] <;> first | exact O_LITERAL | exact O_LITERAL | exact O_NUMBER | exact O_VARIABLE | exact O_NAME_TEST | exact O_NODE_TYPE | exact O_FUNCTION_NAME | exact O_AXIS_NAME | exact O_OPERATOR | exact O_PUNCTUATION) p e ha hc hk s m _ below hf ((Spec.applies_iff_loose hf).mp happ).1 ⟨rfl, State.Warmed39.refl s, rfl, HH, fun _ q => nomatch q⟩ trivial
  refine ⟨n, _, h1, h2, h3, hpost _ _ _ _ _ _ ⟨Cond.after_iff.mpr rfl, Cond.after_iff.mpr (eq_i res_at (Term.int_eval (1)) rfl), trivial⟩ ⟨hq.1, hq.2.1, hq.2.2.1, (hq.2.2.2.sift fun y hy => Or.inr (N y hy)).mono (by decide) (by decide)⟩⟩
theorem main_1_1 : Claimed_1_1 := comes_1 fun _ _ _ _ _ _ h hF => ⟨h.1, hF⟩
theorem main_1_2 : Claimed_1_2 := comes_1 fun _ _ _ _ _ _ h hF => ⟨h.2.1, hF⟩
end Jvm.Pilot.@@N@@
namespace Jvm.Pilot.@@N@@
open Jvm Jvm.ClassFile Sem Op Lib Jvm.Free Jvm.Stand Jvm.Pilot.@@N@@.Jvm.D
/-! MADE BY PROGRAM (witnessworld.py) out of the Statement's table words and the real class files: 23 classes; the members and pool entries that the words name. The judged class is class 1, her method 3. -/
namespace start1
open Jvm.ClassFile
def u (s : String) : CpInfo := .utf8 (stringToUtf16 s)
/-- a pool by its gaps: so many unusable entries, then the entry; so many at the end -/
def gap : Nat → List CpInfo → List CpInfo
  | 0, r => r
  | n + 1, r => .unusable :: gap n r
def poolList (es : List (Nat × CpInfo)) (last : Nat) : List CpInfo := es.foldr (fun e r => gap e.1 (e.2 :: r)) (gap last [])
def pool (es : List (Nat × CpInfo)) (last : Nat) : Array CpInfo := ⟨poolList es last⟩
def fileOf (pool : Array CpInfo) (this : Nat) (attrs : Array Attribute := #[]) (ms : Array MethodInfo := #[]) (fl : Nat := 33) (sup : Nat := 0) (ifs : Array Nat := #[]) (fds : Array FieldInfo := #[]) : ClassFile where
  minorVersion := 0
  majorVersion := 65
  constantPool := pool
  accessFlags := fl
  thisClass := this
  superClass := sup
  interfaces := ifs
  fields := fds
  methods := ms
  attributes := attrs
def plain (name : String) (sup : Option ClassId) : Class where
  name := name
  kind := .ordinary
  loader := none
  accessFlags := 33
  super := sup
  interfaces := #[]
  cf := none
  fields := #[]
  methods := #[]
  instanceTypes := #[]
  staticTypes := #[]
  resolved := #[]
  callSites := []
  init := .initialized
  statics := none
  mirror := none

def pool0 : Array CpInfo := pool [(5, u "<init>"), (0, u "()V"), (1, .class_ 10), (1, u "java/lang/Object")] 113

def k0c0 : Code := { maxStack := 0, maxLocals := 1, code := object_method_1_code, exceptionTable := #[], attributes := #[] }
def k0m0 : Method := { name := "<init>", desc := "()V", sig := { parameters := [], returnType := none }, accessFlags := 1, code := some k0c0 }
/-- java/lang/Object -/
def k0 : Class := { plain "java/lang/Object" none with
  accessFlags := 33
  interfaces := #[]
  cf := some (fileOf pool0 8 #[] #[{ accessFlags := 1, nameIndex := 5, descriptorIndex := 6, attributes := #[] }] 33 0 #[] #[])
  fields := #[]
  methods := #[k0m0]
  instanceTypes := #[]
  staticTypes := #[]
  resolved := Array.replicate 124 none
  statics := none }

def pool1 : Array CpInfo := pool [(2, .class_ 4), (1, u "java/lang/Object"), (0, u "<init>"), (0, u "()V"), (0, .fieldref 8 9), (0, .class_ 10), (0, .nameAndType 11 12), (0, u "com/example/nodewell/nodewell/query/Token$Kind"), (0, u "LITERAL"), (0, u "Lcom/example/nodewell/nodewell/query/Token$Kind;"), (0, .fieldref 8 14), (0, .nameAndType 15 12), (0, u "NUMBER"), (0, .fieldref 8 17), (0, .nameAndType 18 12), (0, u "VARIABLE"), (0, .fieldref 8 20), (0, .nameAndType 21 12), (0, u "NAME_TEST"), (0, .fieldref 8 23), (0, .nameAndType 24 12), (0, u "NODE_TYPE"), (0, .fieldref 8 26), (0, .nameAndType 27 12), (0, u "FUNCTION_NAME"), (0, .fieldref 8 29), (0, .nameAndType 30 12), (0, u "AXIS_NAME"), (0, .fieldref 8 32), (0, .nameAndType 33 12), (0, u "OPERATOR"), (0, .fieldref 8 35), (0, .nameAndType 36 12), (0, u "PUNCTUATION"), (0, .class_ 38), (0, u "java/lang/String"), (0, .methodref 37 40), (0, .nameAndType 5 41), (0, u "([C)V"), (0, .class_ 43), (0, u "com/example/nodewell/nodewell/query/Token"), (0, .methodref 45 46), (0, .class_ 47), (0, .nameAndType 48 49), (0, u "com/example/nodewell/nodewell/query/TokenIsPinLaw"), (0, u "kind"), (0, u "(I)Lcom/example/nodewell/nodewell/query/Token$Kind;"), (0, .methodref 45 51), (0, .nameAndType 52 53), (0, u "text"), (0, u "(ICC)Ljava/lang/String;"), (0, .methodref 42 55), (0, .nameAndType 5 56), (0, u "(Lcom/example/nodewell/nodewell/query/Token$Kind;Ljava/lang/String;II)V"), (0, .methodref 42 58), (0, .nameAndType 59 60), (0, u "is"), (0, u "(Lcom/example/nodewell/nodewell/query/Token$Kind;Ljava/lang/String;)Z"), (3, u "law"), (0, u "(IIII)Z")] 4

def k1m0 : Method := { name := "<init>", desc := "()V", sig := { parameters := [], returnType := none }, accessFlags := 1, code := none }
def k1c1 : Code := { maxStack := 2, maxLocals := 1, code := method_2_code, exceptionTable := #[], attributes := #[] }
def k1m1 : Method := { name := "kind", desc := "(I)Lcom/example/nodewell/nodewell/query/Token$Kind;", sig := { parameters := [.int], returnType := some (.object "com/example/nodewell/nodewell/query/Token$Kind") }, accessFlags := 10, code := some k1c1 }
def k1c2 : Code := { maxStack := 6, maxLocals := 3, code := method_3_code, exceptionTable := #[], attributes := #[] }
def k1m2 : Method := { name := "text", desc := "(ICC)Ljava/lang/String;", sig := { parameters := [.int, .char, .char], returnType := some (.object "java/lang/String") }, accessFlags := 10, code := some k1c2 }
def k1c3 : Code := { maxStack := 6, maxLocals := 15, code := code, exceptionTable := #[], attributes := #[] }
def k1m3 : Method := { name := "law", desc := "(IIII)Z", sig := { parameters := [.int, .int, .int, .int], returnType := some .boolean }, accessFlags := 9, code := some k1c3 }
/-- com/example/nodewell/nodewell/query/TokenIsPinLaw -/
def k1 : Class := { plain "com/example/nodewell/nodewell/query/TokenIsPinLaw" (some 0) with
  accessFlags := 49
  interfaces := #[]
  cf := some (fileOf pool1 45 #[] #[{ accessFlags := 1, nameIndex := 5, descriptorIndex := 6, attributes := #[] }, { accessFlags := 10, nameIndex := 48, descriptorIndex := 49, attributes := #[] }, { accessFlags := 10, nameIndex := 52, descriptorIndex := 53, attributes := #[] }, { accessFlags := 9, nameIndex := 64, descriptorIndex := 65, attributes := #[] }] 49 2 #[] #[])
  fields := #[]
  methods := #[k1m0, k1m1, k1m2, k1m3]
  instanceTypes := #[]
  staticTypes := #[]
  resolved := Array.replicate 70 none
  statics := none }

def pool2 : Array CpInfo := pool [(1, .methodref 2 3), (0, .class_ 4), (0, .nameAndType 5 6), (0, u "java/lang/Object"), (0, u "<init>"), (0, u "()V"), (0, .class_ 8), (0, u "java/lang/Record")] 13

def k2c0 : Code := { maxStack := 1, maxLocals := 1, code := jdk_30_method_1_code, exceptionTable := #[], attributes := #[] }
def k2m0 : Method := { name := "<init>", desc := "()V", sig := { parameters := [], returnType := none }, accessFlags := 4, code := some k2c0 }
/-- java/lang/Record -/
def k2 : Class := { plain "java/lang/Record" (some 0) with
  accessFlags := 1057
  interfaces := #[]
  cf := some (fileOf pool2 7 #[] #[{ accessFlags := 4, nameIndex := 5, descriptorIndex := 6, attributes := #[] }] 1057 2 #[] #[])
  fields := #[]
  methods := #[k2m0]
  instanceTypes := #[]
  staticTypes := #[]
  resolved := Array.replicate 22 none
  statics := none }

def pool3 : Array CpInfo := pool [(1, .methodref 2 3), (0, .class_ 4), (0, .nameAndType 5 6), (0, u "java/lang/Record"), (0, u "<init>"), (0, u "()V"), (0, .fieldref 8 9), (0, .class_ 10), (0, .nameAndType 11 12), (0, u "com/example/nodewell/nodewell/query/Token"), (0, u "kind"), (0, u "Lcom/example/nodewell/nodewell/query/Token$Kind;"), (0, .fieldref 8 14), (0, .nameAndType 15 16), (0, u "text"), (0, u "Ljava/lang/String;"), (0, .fieldref 8 18), (0, .nameAndType 19 20), (0, u "start"), (0, u "I"), (0, .fieldref 8 22), (0, .nameAndType 23 20), (0, u "end"), (0, .methodref 25 26), (0, .class_ 27), (0, .nameAndType 28 29), (0, u "java/lang/String"), (0, u "equals"), (0, u "(Ljava/lang/Object;)Z"), (1, .class_ 33), (1, u "com/example/nodewell/nodewell/query/Token$Kind"), (0, u "PUNCTUATION"), (2, u "is"), (0, u "(Lcom/example/nodewell/nodewell/query/Token$Kind;Ljava/lang/String;)Z"), (120, u "OPERATORS"), (0, u "Ljava/util/List;"), (22, u "OPERATOR_NAMES"), (0, u "Ljava/util/Set;"), (16, u "NODE_TYPES"), (8, u "BEFORE_OPERANDS"), (12, u "(Lcom/example/nodewell/nodewell/query/Token$Kind;Ljava/lang/String;II)V"), (69, u "SPACE"), (1, u "DELIMITERS")] 43

def k3c0 : Code := { maxStack := 2, maxLocals := 5, code := prog_64_method_1_code, exceptionTable := #[], attributes := #[] }
def k3m0 : Method := { name := "<init>", desc := "(Lcom/example/nodewell/nodewell/query/Token$Kind;Ljava/lang/String;II)V", sig := { parameters := [(.object "com/example/nodewell/nodewell/query/Token$Kind"), (.object "java/lang/String"), .int, .int], returnType := none }, accessFlags := 0, code := some k3c0 }
def k3c1 : Code := { maxStack := 2, maxLocals := 3, code := prog_64_method_2_code, exceptionTable := #[], attributes := #[] }
def k3m1 : Method := { name := "is", desc := "(Lcom/example/nodewell/nodewell/query/Token$Kind;Ljava/lang/String;)Z", sig := { parameters := [(.object "com/example/nodewell/nodewell/query/Token$Kind"), (.object "java/lang/String")], returnType := some .boolean }, accessFlags := 0, code := some k3c1 }
/-- com/example/nodewell/nodewell/query/Token -/
def k3 : Class := { plain "com/example/nodewell/nodewell/query/Token" (some 2) with
  accessFlags := 48
  interfaces := #[]
  cf := some (fileOf pool3 8 #[.nestMembers #[31]] #[{ accessFlags := 0, nameIndex := 5, descriptorIndex := 223, attributes := #[] }, { accessFlags := 0, nameIndex := 37, descriptorIndex := 38, attributes := #[] }] 48 2 #[] #[{ accessFlags := 18, nameIndex := 11, descriptorIndex := 12, attributes := #[] }, { accessFlags := 18, nameIndex := 15, descriptorIndex := 16, attributes := #[] }, { accessFlags := 18, nameIndex := 19, descriptorIndex := 20, attributes := #[] }, { accessFlags := 18, nameIndex := 23, descriptorIndex := 20, attributes := #[] }, { accessFlags := 26, nameIndex := 293, descriptorIndex := 16, attributes := #[] }, { accessFlags := 26, nameIndex := 295, descriptorIndex := 16, attributes := #[] }, { accessFlags := 26, nameIndex := 183, descriptorIndex := 184, attributes := #[] }, { accessFlags := 26, nameIndex := 201, descriptorIndex := 184, attributes := #[] }, { accessFlags := 26, nameIndex := 210, descriptorIndex := 184, attributes := #[] }, { accessFlags := 26, nameIndex := 159, descriptorIndex := 160, attributes := #[] }, { accessFlags := 26, nameIndex := 34, descriptorIndex := 160, attributes := #[] }])
  fields := #[{ name := "kind", type := (.object "com/example/nodewell/nodewell/query/Token$Kind"), accessFlags := 18, slot := 0, constantValue := 0 }, { name := "text", type := (.object "java/lang/String"), accessFlags := 18, slot := 1, constantValue := 0 }, { name := "start", type := .int, accessFlags := 18, slot := 2, constantValue := 0 }, { name := "end", type := .int, accessFlags := 18, slot := 3, constantValue := 0 }, { name := "SPACE", type := (.object "java/lang/String"), accessFlags := 26, slot := 0, constantValue := 0 }, { name := "DELIMITERS", type := (.object "java/lang/String"), accessFlags := 26, slot := 1, constantValue := 0 }, { name := "OPERATOR_NAMES", type := (.object "java/util/Set"), accessFlags := 26, slot := 2, constantValue := 0 }, { name := "NODE_TYPES", type := (.object "java/util/Set"), accessFlags := 26, slot := 3, constantValue := 0 }, { name := "BEFORE_OPERANDS", type := (.object "java/util/Set"), accessFlags := 26, slot := 4, constantValue := 0 }, { name := "OPERATORS", type := (.object "java/util/List"), accessFlags := 26, slot := 5, constantValue := 0 }, { name := "PUNCTUATION", type := (.object "java/util/List"), accessFlags := 26, slot := 6, constantValue := 0 }]
  methods := #[k3m0, k3m1]
  instanceTypes := #[(.object "com/example/nodewell/nodewell/query/Token$Kind"), (.object "java/lang/String"), .int, .int]
  staticTypes := #[(.object "java/lang/String"), (.object "java/lang/String"), (.object "java/util/Set"), (.object "java/util/Set"), (.object "java/util/Set"), (.object "java/util/List"), (.object "java/util/List")]
  resolved := Array.replicate 339 none
  statics := none }

def pool4 : Array CpInfo := pool [(1, .class_ 2), (0, u "java/lang/constant/Constable"), (0, .class_ 4), (0, u "java/lang/Object")] 6

/-- java/lang/constant/Constable -/
def k4 : Class := { plain "java/lang/constant/Constable" (some 0) with
  accessFlags := 1537
  interfaces := #[]
  cf := some (fileOf pool4 1 #[] #[] 1537 3 #[] #[])
  fields := #[]
  methods := #[]
  instanceTypes := #[]
  staticTypes := #[]
  resolved := Array.replicate 11 none
  statics := none }

def pool5 : Array CpInfo := pool [(1, .class_ 2), (0, u "java/lang/Comparable"), (0, .class_ 4), (0, u "java/lang/Object")] 7

/-- java/lang/Comparable -/
def k5 : Class := { plain "java/lang/Comparable" (some 0) with
  accessFlags := 1537
  interfaces := #[]
  cf := some (fileOf pool5 1 #[] #[] 1537 3 #[] #[])
  fields := #[]
  methods := #[]
  instanceTypes := #[]
  staticTypes := #[]
  resolved := Array.replicate 12 none
  statics := none }

def pool6 : Array CpInfo := pool [(1, .class_ 2), (0, u "java/io/Serializable"), (0, .class_ 4), (0, u "java/lang/Object")] 2

/-- java/io/Serializable -/
def k6 : Class := { plain "java/io/Serializable" (some 0) with
  accessFlags := 1537
  interfaces := #[]
  cf := some (fileOf pool6 1 #[] #[] 1537 3 #[] #[])
  fields := #[]
  methods := #[]
  instanceTypes := #[]
  staticTypes := #[]
  resolved := Array.replicate 7 none
  statics := none }

def pool7 : Array CpInfo := pool [(2, .class_ 4), (1, u "java/lang/Enum"), (0, u "name"), (0, u "Ljava/lang/String;"), (2, u "ordinal"), (0, u "I"), (1, .class_ 14), (1, u "java/lang/Object"), (4, u "hash"), (86, .class_ 108), (1, u "java/lang/Enum$EnumDesc"), (2, .class_ 112), (0, u "java/lang/constant/Constable"), (0, .class_ 114), (0, u "java/lang/Comparable"), (0, .class_ 116), (0, u "java/io/Serializable")] 87

/-- java/lang/Enum -/
def k7 : Class := { plain "java/lang/Enum" (some 0) with
  accessFlags := 1057
  interfaces := #[4, 5, 6]
  cf := some (fileOf pool7 2 #[.nestMembers #[106]] #[] 1057 12 #[111, 113, 115] #[{ accessFlags := 18, nameIndex := 5, descriptorIndex := 6, attributes := #[] }, { accessFlags := 18, nameIndex := 9, descriptorIndex := 10, attributes := #[] }, { accessFlags := 2, nameIndex := 19, descriptorIndex := 10, attributes := #[] }])
  fields := #[{ name := "name", type := (.object "java/lang/String"), accessFlags := 18, slot := 0, constantValue := 0 }, { name := "ordinal", type := .int, accessFlags := 18, slot := 1, constantValue := 0 }, { name := "hash", type := .int, accessFlags := 2, slot := 2, constantValue := 0 }]
  methods := #[]
  instanceTypes := #[(.object "java/lang/String"), .int, .int]
  staticTypes := #[]
  resolved := Array.replicate 204 none
  statics := none }

def pool8 : Array CpInfo := pool [(1, .class_ 2), (0, u "com/example/nodewell/nodewell/query/Token$Kind"), (2, u "LITERAL"), (0, u "Lcom/example/nodewell/nodewell/query/Token$Kind;"), (2, u "NUMBER"), (2, u "VARIABLE"), (2, u "NAME_TEST"), (2, u "NODE_TYPE"), (2, u "FUNCTION_NAME"), (2, u "AXIS_NAME"), (2, u "OPERATOR"), (2, u "PUNCTUATION"), (2, u "$VALUES"), (0, u "[Lcom/example/nodewell/nodewell/query/Token$Kind;"), (6, .class_ 43), (1, u "java/lang/Enum"), (32, .class_ 77), (0, u "com/example/nodewell/nodewell/query/Token")] 2

/-- com/example/nodewell/nodewell/query/Token$Kind -/
def k8 : Class := { plain "com/example/nodewell/nodewell/query/Token$Kind" (some 7) with
  accessFlags := 16432
  interfaces := #[]
  cf := some (fileOf pool8 1 #[.nestHost 76] #[] 16432 41 #[] #[{ accessFlags := 16409, nameIndex := 5, descriptorIndex := 6, attributes := #[] }, { accessFlags := 16409, nameIndex := 9, descriptorIndex := 6, attributes := #[] }, { accessFlags := 16409, nameIndex := 12, descriptorIndex := 6, attributes := #[] }, { accessFlags := 16409, nameIndex := 15, descriptorIndex := 6, attributes := #[] }, { accessFlags := 16409, nameIndex := 18, descriptorIndex := 6, attributes := #[] }, { accessFlags := 16409, nameIndex := 21, descriptorIndex := 6, attributes := #[] }, { accessFlags := 16409, nameIndex := 24, descriptorIndex := 6, attributes := #[] }, { accessFlags := 16409, nameIndex := 27, descriptorIndex := 6, attributes := #[] }, { accessFlags := 16409, nameIndex := 30, descriptorIndex := 6, attributes := #[] }, { accessFlags := 4122, nameIndex := 33, descriptorIndex := 34, attributes := #[] }])
  fields := #[{ name := "LITERAL", type := (.object "com/example/nodewell/nodewell/query/Token$Kind"), accessFlags := 16409, slot := 0, constantValue := 0 }, { name := "NUMBER", type := (.object "com/example/nodewell/nodewell/query/Token$Kind"), accessFlags := 16409, slot := 1, constantValue := 0 }, { name := "VARIABLE", type := (.object "com/example/nodewell/nodewell/query/Token$Kind"), accessFlags := 16409, slot := 2, constantValue := 0 }, { name := "NAME_TEST", type := (.object "com/example/nodewell/nodewell/query/Token$Kind"), accessFlags := 16409, slot := 3, constantValue := 0 }, { name := "NODE_TYPE", type := (.object "com/example/nodewell/nodewell/query/Token$Kind"), accessFlags := 16409, slot := 4, constantValue := 0 }, { name := "FUNCTION_NAME", type := (.object "com/example/nodewell/nodewell/query/Token$Kind"), accessFlags := 16409, slot := 5, constantValue := 0 }, { name := "AXIS_NAME", type := (.object "com/example/nodewell/nodewell/query/Token$Kind"), accessFlags := 16409, slot := 6, constantValue := 0 }, { name := "OPERATOR", type := (.object "com/example/nodewell/nodewell/query/Token$Kind"), accessFlags := 16409, slot := 7, constantValue := 0 }, { name := "PUNCTUATION", type := (.object "com/example/nodewell/nodewell/query/Token$Kind"), accessFlags := 16409, slot := 8, constantValue := 0 }, { name := "$VALUES", type := (.array (.object "com/example/nodewell/nodewell/query/Token$Kind")), accessFlags := 4122, slot := 9, constantValue := 0 }]
  methods := #[]
  instanceTypes := #[(.object "java/lang/String"), .int, .int]
  staticTypes := #[(.object "com/example/nodewell/nodewell/query/Token$Kind"), (.object "com/example/nodewell/nodewell/query/Token$Kind"), (.object "com/example/nodewell/nodewell/query/Token$Kind"), (.object "com/example/nodewell/nodewell/query/Token$Kind"), (.object "com/example/nodewell/nodewell/query/Token$Kind"), (.object "com/example/nodewell/nodewell/query/Token$Kind"), (.object "com/example/nodewell/nodewell/query/Token$Kind"), (.object "com/example/nodewell/nodewell/query/Token$Kind"), (.object "com/example/nodewell/nodewell/query/Token$Kind"), (.array (.object "com/example/nodewell/nodewell/query/Token$Kind"))]
  resolved := Array.replicate 80 none
  statics := some 0 }

def pool9 : Array CpInfo := pool [(2, .class_ 4), (1, u "java/lang/CharSequence"), (42, .class_ 48), (0, u "java/lang/CharSequence$1CodePointIterator"), (10, .class_ 60), (0, u "java/lang/CharSequence$1CharIterator"), (5, .class_ 67), (0, u "java/lang/Object")] 63

/-- java/lang/CharSequence -/
def k9 : Class := { plain "java/lang/CharSequence" (some 0) with
  accessFlags := 1537
  interfaces := #[]
  cf := some (fileOf pool9 2 #[.nestMembers #[47, 59]] #[] 1537 66 #[] #[])
  fields := #[]
  methods := #[]
  instanceTypes := #[]
  staticTypes := #[]
  resolved := Array.replicate 131 none
  statics := none }

def pool10 : Array CpInfo := pool [(1, .class_ 2), (0, u "java/lang/constant/ConstantDesc"), (0, .class_ 4), (0, u "java/lang/Object")] 32

/-- java/lang/constant/ConstantDesc -/
def k10 : Class := { plain "java/lang/constant/ConstantDesc" (some 0) with
  accessFlags := 1537
  interfaces := #[]
  cf := some (fileOf pool10 1 #[] #[] 1537 3 #[] #[])
  fields := #[]
  methods := #[]
  instanceTypes := #[]
  staticTypes := #[]
  resolved := Array.replicate 37 none
  statics := none }

def pool11 : Array CpInfo := pool [(1, .methodref 2 3), (0, .class_ 4), (0, .nameAndType 5 6), (0, u "java/lang/Object"), (0, u "<init>"), (0, u "()V"), (0, .string 8), (0, u ""), (0, .fieldref 10 11), (0, .class_ 12), (0, .nameAndType 13 14), (0, u "java/lang/String"), (0, u "value"), (0, u "[B"), (0, .fieldref 10 16), (0, .nameAndType 17 18), (0, u "coder"), (0, u "B"), (2, u "hash"), (0, u "I"), (2, u "hashIsZero"), (0, u "Z"), (0, .methodref 10 28), (0, .nameAndType 5 29), (0, u "([CIILjava/lang/Void;)V"), (8, .fieldref 10 39), (0, .nameAndType 40 26), (0, u "COMPACT_STRINGS"), (1, .class_ 44), (1, u "java/lang/StringUTF16"), (0, u "compress"), (1, .methodref 42 48), (0, .nameAndType 49 50), (0, u "coderFromArrayLen"), (0, u "([BI)B"), (56, .class_ 109), (1, u "java/lang/StringLatin1"), (67, .methodref 42 178), (0, .nameAndType 45 179), (0, u "([CII)[B"), (361, .methodref 107 542), (0, .nameAndType 543 544), (0, u "equals"), (0, u "([B[B)Z"), (28, u "(Ljava/lang/Object;)Z"), (1, .class_ 576), (0, u "java/lang/CharSequence"), (22, u "CASE_INSENSITIVE_ORDER"), (0, u "Ljava/util/Comparator;"), (409, u "([C)V"), (90, u "serialPersistentFields"), (0, u "[Ljava/io/ObjectStreamField;"), (0, .class_ 1104), (0, u "java/lang/String$CaseInsensitiveComparator"), (1, .class_ 1107), (0, u "java/io/Serializable"), (0, .class_ 1109), (0, u "java/lang/Comparable"), (0, .class_ 1111), (0, u "java/lang/constant/Constable"), (0, .class_ 1113), (0, u "java/lang/constant/ConstantDesc"), (2, u "serialVersionUID"), (0, u "J"), (3, u "REPL"), (0, u "C"), (2, u "LATIN1"), (1, u "UTF16")] 323

def k11m0 : Method := { name := "<init>", desc := "()V", sig := { parameters := [], returnType := none }, accessFlags := 1, code := none }
def k11c1 : Code := { maxStack := 5, maxLocals := 2, code := jdk_42_method_3_code, exceptionTable := #[], attributes := #[] }
def k11m1 : Method := { name := "<init>", desc := "([C)V", sig := { parameters := [(.array .char)], returnType := none }, accessFlags := 1, code := some k11c1 }
def k11c2 : Code := { maxStack := 2, maxLocals := 3, code := jdk_42_method_66_code, exceptionTable := #[], attributes := #[] }
def k11m2 : Method := { name := "equals", desc := "(Ljava/lang/Object;)Z", sig := { parameters := [(.object "java/lang/Object")], returnType := some .boolean }, accessFlags := 1, code := some k11c2 }
def k11c3 : Code := { maxStack := 4, maxLocals := 6, code := jdk_42_method_149_code, exceptionTable := #[], attributes := #[] }
def k11m3 : Method := { name := "<init>", desc := "([CIILjava/lang/Void;)V", sig := { parameters := [(.array .char), .int, .int, (.object "java/lang/Void")], returnType := none }, accessFlags := 2, code := some k11c3 }
/-- java/lang/String -/
def k11 : Class := { plain "java/lang/String" (some 0) with
  accessFlags := 49
  interfaces := #[6, 5, 9, 4, 10]
  cf := some (fileOf pool11 10 #[.nestMembers #[1103]] #[{ accessFlags := 1, nameIndex := 5, descriptorIndex := 6, attributes := #[] }, { accessFlags := 1, nameIndex := 5, descriptorIndex := 1010, attributes := #[] }, { accessFlags := 1, nameIndex := 543, descriptorIndex := 573, attributes := #[] }, { accessFlags := 2, nameIndex := 5, descriptorIndex := 29, attributes := #[] }] 49 2 #[1106, 1108, 575, 1110, 1112] #[{ accessFlags := 18, nameIndex := 13, descriptorIndex := 14, attributes := #[] }, { accessFlags := 18, nameIndex := 17, descriptorIndex := 18, attributes := #[] }, { accessFlags := 2, nameIndex := 21, descriptorIndex := 22, attributes := #[] }, { accessFlags := 2, nameIndex := 25, descriptorIndex := 26, attributes := #[] }, { accessFlags := 26, nameIndex := 1116, descriptorIndex := 1117, attributes := #[] }, { accessFlags := 24, nameIndex := 40, descriptorIndex := 26, attributes := #[] }, { accessFlags := 26, nameIndex := 1101, descriptorIndex := 1102, attributes := #[] }, { accessFlags := 26, nameIndex := 1121, descriptorIndex := 1122, attributes := #[] }, { accessFlags := 25, nameIndex := 599, descriptorIndex := 600, attributes := #[] }, { accessFlags := 24, nameIndex := 1125, descriptorIndex := 18, attributes := #[] }, { accessFlags := 24, nameIndex := 1127, descriptorIndex := 18, attributes := #[] }])
  fields := #[{ name := "value", type := (.array .byte), accessFlags := 18, slot := 0, constantValue := 0 }, { name := "coder", type := .byte, accessFlags := 18, slot := 1, constantValue := 0 }, { name := "hash", type := .int, accessFlags := 2, slot := 2, constantValue := 0 }, { name := "hashIsZero", type := .boolean, accessFlags := 2, slot := 3, constantValue := 0 }, { name := "serialVersionUID", type := .long, accessFlags := 26, slot := 0, constantValue := 0 }, { name := "COMPACT_STRINGS", type := .boolean, accessFlags := 24, slot := 1, constantValue := 0 }, { name := "serialPersistentFields", type := (.array (.object "java/io/ObjectStreamField")), accessFlags := 26, slot := 2, constantValue := 0 }, { name := "REPL", type := .char, accessFlags := 26, slot := 3, constantValue := 0 }, { name := "CASE_INSENSITIVE_ORDER", type := (.object "java/util/Comparator"), accessFlags := 25, slot := 4, constantValue := 0 }, { name := "LATIN1", type := .byte, accessFlags := 24, slot := 5, constantValue := 0 }, { name := "UTF16", type := .byte, accessFlags := 24, slot := 6, constantValue := 0 }]
  methods := #[k11m0, k11m1, k11m2, k11m3]
  instanceTypes := #[(.array .byte), .byte, .int, .boolean]
  staticTypes := #[.long, .boolean, (.array (.object "java/io/ObjectStreamField")), .char, (.object "java/util/Comparator"), .byte, .byte]
  resolved := Array.replicate 1451 none
  statics := some 1 }

def pool12 : Array CpInfo := pool [(6, .class_ 8), (1, u "java/lang/Object"), (0, u "<init>"), (0, u "()V"), (1, .class_ 14), (1, u "java/lang/StringUTF16"), (31, u "$assertionsDisabled"), (0, u "Z"), (13, u "HI_BYTE_SHIFT"), (0, u "I"), (2, u "LO_BYTE_SHIFT"), (49, .methodref 12 116), (0, .nameAndType 117 118), (0, u "compress"), (0, u "([CI[BII)I"), (3, u "([CII)[B"), (138, u "coderFromArrayLen"), (0, u "([BI)B"), (106, .class_ 371), (1, u "java/lang/StringUTF16$LinesSpliterator"), (58, u "MAX_LENGTH"), (196, .class_ 628), (0, u "java/lang/StringUTF16$CodePointsSpliterator"), (0, .class_ 630), (0, u "java/lang/StringUTF16$CharsSpliterator")] 4

def k12m0 : Method := { name := "<init>", desc := "()V", sig := { parameters := [], returnType := none }, accessFlags := 0, code := none }
def k12c1 : Code := { maxStack := 2, maxLocals := 2, code := jdk_52_method_15_code, exceptionTable := #[], attributes := #[] }
def k12m1 : Method := { name := "coderFromArrayLen", desc := "([BI)B", sig := { parameters := [(.array .byte), .int], returnType := some .byte }, accessFlags := 8, code := some k12c1 }
def k12c2 : Code := { maxStack := 5, maxLocals := 6, code := jdk_52_method_16_code, exceptionTable := #[], attributes := #[] }
def k12m2 : Method := { name := "compress", desc := "([CII)[B", sig := { parameters := [(.array .char), .int, .int], returnType := some (.array .byte) }, accessFlags := 9, code := some k12c2 }
def k12c3 : Code := { maxStack := 3, maxLocals := 7, code := jdk_52_method_21_code, exceptionTable := #[], attributes := #[] }
def k12m3 : Method := { name := "compress", desc := "([CI[BII)I", sig := { parameters := [(.array .char), .int, (.array .byte), .int, .int], returnType := some .int }, accessFlags := 9, code := some k12c3 }
/-- java/lang/StringUTF16 -/
def k12 : Class := { plain "java/lang/StringUTF16" (some 0) with
  accessFlags := 48
  interfaces := #[]
  cf := some (fileOf pool12 12 #[.nestMembers #[627, 629, 369]] #[{ accessFlags := 0, nameIndex := 9, descriptorIndex := 10, attributes := #[] }, { accessFlags := 8, nameIndex := 261, descriptorIndex := 262, attributes := #[] }, { accessFlags := 9, nameIndex := 117, descriptorIndex := 122, attributes := #[] }, { accessFlags := 9, nameIndex := 117, descriptorIndex := 118, attributes := #[] }] 48 6 #[] #[{ accessFlags := 26, nameIndex := 61, descriptorIndex := 62, attributes := #[] }, { accessFlags := 26, nameIndex := 65, descriptorIndex := 62, attributes := #[] }, { accessFlags := 24, nameIndex := 430, descriptorIndex := 62, attributes := #[] }, { accessFlags := 4120, nameIndex := 46, descriptorIndex := 47, attributes := #[] }])
  fields := #[{ name := "HI_BYTE_SHIFT", type := .int, accessFlags := 26, slot := 0, constantValue := 0 }, { name := "LO_BYTE_SHIFT", type := .int, accessFlags := 26, slot := 1, constantValue := 0 }, { name := "MAX_LENGTH", type := .int, accessFlags := 24, slot := 2, constantValue := 0 }, { name := "$assertionsDisabled", type := .boolean, accessFlags := 4120, slot := 3, constantValue := 0 }]
  methods := #[k12m0, k12m1, k12m2, k12m3]
  instanceTypes := #[]
  staticTypes := #[.int, .int, .int, .boolean]
  resolved := Array.replicate 635 none
  statics := none }

def pool13 : Array CpInfo := pool [(4, .class_ 6), (1, u "java/lang/Object"), (0, u "<init>"), (0, u "()V"), (5, .class_ 16), (1, u "java/lang/StringLatin1"), (104, u "$assertionsDisabled"), (0, u "Z"), (98, .class_ 223), (1, u "java/lang/StringLatin1$LinesSpliterator"), (57, u "equals"), (0, u "([B[B)Z"), (107, .class_ 391), (0, u "java/lang/StringLatin1$CharsSpliterator")] 3

def k13m0 : Method := { name := "<init>", desc := "()V", sig := { parameters := [], returnType := none }, accessFlags := 0, code := none }
def k13c1 : Code := { maxStack := 3, maxLocals := 3, code := jdk_43_method_13_code, exceptionTable := #[], attributes := #[] }
def k13m1 : Method := { name := "equals", desc := "([B[B)Z", sig := { parameters := [(.array .byte), (.array .byte)], returnType := some .boolean }, accessFlags := 9, code := some k13c1 }
/-- java/lang/StringLatin1 -/
def k13 : Class := { plain "java/lang/StringLatin1" (some 0) with
  accessFlags := 48
  interfaces := #[]
  cf := some (fileOf pool13 14 #[.nestMembers #[390, 221]] #[{ accessFlags := 0, nameIndex := 7, descriptorIndex := 8, attributes := #[] }, { accessFlags := 9, nameIndex := 281, descriptorIndex := 282, attributes := #[] }] 48 4 #[] #[{ accessFlags := 4120, nameIndex := 121, descriptorIndex := 122, attributes := #[] }])
  fields := #[{ name := "$assertionsDisabled", type := .boolean, accessFlags := 4120, slot := 0, constantValue := 0 }]
  methods := #[k13m0, k13m1]
  instanceTypes := #[]
  staticTypes := #[.boolean]
  resolved := Array.replicate 395 none
  statics := none }

def pool14 : Array CpInfo := pool [(2, .class_ 4), (1, u "java/lang/Object"), (0, u "<init>"), (0, u "()V"), (17, .class_ 26), (1, u "jdk/internal/util/Preconditions"), (28, .class_ 56), (0, u "jdk/internal/util/Preconditions$4"), (57, .class_ 115), (0, u "jdk/internal/util/Preconditions$1"), (7, u "SIOOBE_FORMATTER"), (0, u "Ljava/util/function/BiFunction;"), (0, .class_ 126), (0, u "jdk/internal/util/Preconditions$2"), (3, u "AIOOBE_FORMATTER"), (0, .class_ 132), (0, u "jdk/internal/util/Preconditions$3"), (3, u "IOOBE_FORMATTER")] 57

def k14m0 : Method := { name := "<init>", desc := "()V", sig := { parameters := [], returnType := none }, accessFlags := 1, code := none }
/-- jdk/internal/util/Preconditions -/
def k14 : Class := { plain "jdk/internal/util/Preconditions" (some 0) with
  accessFlags := 33
  interfaces := #[]
  cf := some (fileOf pool14 24 #[.nestMembers #[55, 131, 125, 114]] #[{ accessFlags := 1, nameIndex := 5, descriptorIndex := 6, attributes := #[] }] 33 2 #[] #[{ accessFlags := 25, nameIndex := 123, descriptorIndex := 124, attributes := #[] }, { accessFlags := 25, nameIndex := 130, descriptorIndex := 124, attributes := #[] }, { accessFlags := 25, nameIndex := 136, descriptorIndex := 124, attributes := #[] }])
  fields := #[{ name := "SIOOBE_FORMATTER", type := (.object "java/util/function/BiFunction"), accessFlags := 25, slot := 0, constantValue := 0 }, { name := "AIOOBE_FORMATTER", type := (.object "java/util/function/BiFunction"), accessFlags := 25, slot := 1, constantValue := 0 }, { name := "IOOBE_FORMATTER", type := (.object "java/util/function/BiFunction"), accessFlags := 25, slot := 2, constantValue := 0 }]
  methods := #[k14m0]
  instanceTypes := #[]
  staticTypes := #[(.object "java/util/function/BiFunction"), (.object "java/util/function/BiFunction"), (.object "java/util/function/BiFunction")]
  resolved := Array.replicate 194 none
  statics := some 2 }

def pool15 : Array CpInfo := pool [(9, u "<init>"), (6, .class_ 18), (1, u "java/lang/Object"), (0, u "()V"), (1, .class_ 23), (1, u "jdk/internal/util/ArraysSupport"), (0, u "LOG2_ARRAY_LONG_INDEX_SCALE"), (0, u "I"), (2, u "U"), (0, u "Ljdk/internal/misc/Unsafe;"), (8, u "BIG_ENDIAN"), (0, u "Z"), (8, u "LOG2_BYTE_BIT_SIZE"), (4, u "LOG2_ARRAY_INT_INDEX_SCALE"), (54, u "JLA"), (0, u "Ljdk/internal/access/JavaLangAccess;"), (11, u "LOG2_ARRAY_BOOLEAN_INDEX_SCALE"), (9, u "LOG2_ARRAY_BYTE_INDEX_SCALE"), (5, u "LOG2_ARRAY_CHAR_INDEX_SCALE"), (5, u "LOG2_ARRAY_SHORT_INDEX_SCALE"), (18, u "LOG2_ARRAY_FLOAT_INDEX_SCALE"), (24, u "LOG2_ARRAY_DOUBLE_INDEX_SCALE"), (89, u "T_BOOLEAN"), (2, u "T_CHAR"), (1, u "T_FLOAT"), (1, u "T_DOUBLE"), (1, u "T_BYTE"), (1, u "T_SHORT"), (1, u "T_INT"), (1, u "T_LONG"), (1, u "SOFT_MAX_ARRAY_LENGTH")] 83

def k15m0 : Method := { name := "<init>", desc := "()V", sig := { parameters := [], returnType := none }, accessFlags := 2, code := none }
/-- jdk/internal/util/ArraysSupport -/
def k15 : Class := { plain "jdk/internal/util/ArraysSupport" (some 0) with
  accessFlags := 33
  interfaces := #[]
  cf := some (fileOf pool15 21 #[] #[{ accessFlags := 2, nameIndex := 9, descriptorIndex := 19, attributes := #[] }] 33 16 #[] #[{ accessFlags := 24, nameIndex := 28, descriptorIndex := 29, attributes := #[] }, { accessFlags := 26, nameIndex := 38, descriptorIndex := 39, attributes := #[] }, { accessFlags := 25, nameIndex := 121, descriptorIndex := 25, attributes := #[] }, { accessFlags := 25, nameIndex := 131, descriptorIndex := 25, attributes := #[] }, { accessFlags := 25, nameIndex := 137, descriptorIndex := 25, attributes := #[] }, { accessFlags := 25, nameIndex := 143, descriptorIndex := 25, attributes := #[] }, { accessFlags := 25, nameIndex := 53, descriptorIndex := 25, attributes := #[] }, { accessFlags := 25, nameIndex := 24, descriptorIndex := 25, attributes := #[] }, { accessFlags := 25, nameIndex := 162, descriptorIndex := 25, attributes := #[] }, { accessFlags := 25, nameIndex := 187, descriptorIndex := 25, attributes := #[] }, { accessFlags := 26, nameIndex := 48, descriptorIndex := 25, attributes := #[] }, { accessFlags := 25, nameIndex := 277, descriptorIndex := 25, attributes := #[] }, { accessFlags := 25, nameIndex := 280, descriptorIndex := 25, attributes := #[] }, { accessFlags := 25, nameIndex := 282, descriptorIndex := 25, attributes := #[] }, { accessFlags := 25, nameIndex := 284, descriptorIndex := 25, attributes := #[] }, { accessFlags := 25, nameIndex := 286, descriptorIndex := 25, attributes := #[] }, { accessFlags := 25, nameIndex := 288, descriptorIndex := 25, attributes := #[] }, { accessFlags := 25, nameIndex := 290, descriptorIndex := 25, attributes := #[] }, { accessFlags := 25, nameIndex := 292, descriptorIndex := 25, attributes := #[] }, { accessFlags := 26, nameIndex := 108, descriptorIndex := 109, attributes := #[] }, { accessFlags := 25, nameIndex := 294, descriptorIndex := 25, attributes := #[] }])
  fields := #[{ name := "U", type := (.object "jdk/internal/misc/Unsafe"), accessFlags := 24, slot := 0, constantValue := 0 }, { name := "BIG_ENDIAN", type := .boolean, accessFlags := 26, slot := 1, constantValue := 0 }, { name := "LOG2_ARRAY_BOOLEAN_INDEX_SCALE", type := .int, accessFlags := 25, slot := 2, constantValue := 0 }, { name := "LOG2_ARRAY_BYTE_INDEX_SCALE", type := .int, accessFlags := 25, slot := 3, constantValue := 0 }, { name := "LOG2_ARRAY_CHAR_INDEX_SCALE", type := .int, accessFlags := 25, slot := 4, constantValue := 0 }, { name := "LOG2_ARRAY_SHORT_INDEX_SCALE", type := .int, accessFlags := 25, slot := 5, constantValue := 0 }, { name := "LOG2_ARRAY_INT_INDEX_SCALE", type := .int, accessFlags := 25, slot := 6, constantValue := 0 }, { name := "LOG2_ARRAY_LONG_INDEX_SCALE", type := .int, accessFlags := 25, slot := 7, constantValue := 0 }, { name := "LOG2_ARRAY_FLOAT_INDEX_SCALE", type := .int, accessFlags := 25, slot := 8, constantValue := 0 }, { name := "LOG2_ARRAY_DOUBLE_INDEX_SCALE", type := .int, accessFlags := 25, slot := 9, constantValue := 0 }, { name := "LOG2_BYTE_BIT_SIZE", type := .int, accessFlags := 26, slot := 10, constantValue := 0 }, { name := "T_BOOLEAN", type := .int, accessFlags := 25, slot := 11, constantValue := 0 }, { name := "T_CHAR", type := .int, accessFlags := 25, slot := 12, constantValue := 0 }, { name := "T_FLOAT", type := .int, accessFlags := 25, slot := 13, constantValue := 0 }, { name := "T_DOUBLE", type := .int, accessFlags := 25, slot := 14, constantValue := 0 }, { name := "T_BYTE", type := .int, accessFlags := 25, slot := 15, constantValue := 0 }, { name := "T_SHORT", type := .int, accessFlags := 25, slot := 16, constantValue := 0 }, { name := "T_INT", type := .int, accessFlags := 25, slot := 17, constantValue := 0 }, { name := "T_LONG", type := .int, accessFlags := 25, slot := 18, constantValue := 0 }, { name := "JLA", type := (.object "jdk/internal/access/JavaLangAccess"), accessFlags := 26, slot := 19, constantValue := 0 }, { name := "SOFT_MAX_ARRAY_LENGTH", type := .int, accessFlags := 25, slot := 20, constantValue := 0 }]
  methods := #[k15m0]
  instanceTypes := #[]
  staticTypes := #[(.object "jdk/internal/misc/Unsafe"), .boolean, .int, .int, .int, .int, .int, .int, .int, .int, .int, .int, .int, .int, .int, .int, .int, .int, .int, (.object "jdk/internal/access/JavaLangAccess"), .int]
  resolved := Array.replicate 378 none
  statics := none }

def pool16 : Array CpInfo := pool [(1, u "java/lang/Cloneable"), (0, .class_ 1), (0, u "java/lang/Object"), (0, .class_ 3)] 3

/-- java/lang/Cloneable -/
def k16 : Class := { plain "java/lang/Cloneable" (some 0) with
  accessFlags := 1537
  interfaces := #[]
  cf := some (fileOf pool16 2 #[] #[] 1537 4 #[] #[])
  fields := #[]
  methods := #[]
  instanceTypes := #[]
  staticTypes := #[]
  resolved := Array.replicate 8 none
  statics := none }

/-- the primitive byte -/
def k17 : Class := { plain "byte" none with kind := .primitive 'B', accessFlags := 0x411 }
/-- [B -/
def k18 : Class := { plain "[B" (some 0) with kind := .array 17 .byte, interfaces := #[16, 6], accessFlags := 1041 }

/-- the primitive char -/
def k19 : Class := { plain "char" none with kind := .primitive 'C', accessFlags := 0x411 }
/-- [C -/
def k20 : Class := { plain "[C" (some 0) with kind := .array 19 .char, interfaces := #[16, 6], accessFlags := 1041 }

/-- the primitive int -/
def k21 : Class := { plain "int" none with kind := .primitive 'I', accessFlags := 0x411 }
/-- [I -/
def k22 : Class := { plain "[I" (some 0) with kind := .array 21 .int, interfaces := #[16, 6], accessFlags := 1041 }

def heap : Heap := #[{ cls := 8, slots := #[.ref 3, .ref 4, .ref 5, .ref 6, .ref 7, .ref 8, .ref 9, .ref 10, .ref 11, .null], vm := .statics 8 },
  { cls := 11, slots := #[.long 0, .int 1, .null, .int 0, .null, .int 0, .int 0], vm := .statics 11 },
  { cls := 14, slots := #[.null, .null, .null], vm := .statics 14 },
  { cls := 8, slots := #[.null, .int 0, .int 0], vm := .none },
  { cls := 8, slots := #[.null, .int 1, .int 0], vm := .none },
  { cls := 8, slots := #[.null, .int 2, .int 0], vm := .none },
  { cls := 8, slots := #[.null, .int 3, .int 0], vm := .none },
  { cls := 8, slots := #[.null, .int 4, .int 0], vm := .none },
  { cls := 8, slots := #[.null, .int 5, .int 0], vm := .none },
  { cls := 8, slots := #[.null, .int 6, .int 0], vm := .none },
  { cls := 8, slots := #[.null, .int 7, .int 0], vm := .none },
  { cls := 8, slots := #[.null, .int 8, .int 0], vm := .none }]
def classes : Array Class := #[k0, k1, k2, k3, k4, k5, k6, k7, k8, k9, k10, k11, k12, k13, k14, k15, k16, k17, k18, k19, k20, k21, k22]
def interned : List (Array UInt16 × Addr) := []
def slotsUsed : Nat := 47
def theMethod : MethodId := ⟨1, 3⟩
def args0 : Array Value := #[.int 5, .int 7, .int 9, .int 11]
def aboutOver (below : List Frame) : State where
  vm := { classes := classes, interned := interned.toArray }
  heap := heap
  slotsUsed := slotsUsed
  threads := #[{ frames := .invoking theMethod args0 :: below }]
def below0 : List Frame := [.native { method := ⟨0, 0⟩, args := #[] }]
def about1 : State := aboutOver below0
def p0 : Program := .bare "" "" ""
def e0 : Env := launch0.env 0 0 0
theorem w_frames : about1.frames = Frame.invoking theMethod args0 :: below0 := rfl
set_option maxRecDepth 65536 in
theorem w_args : argsFit about1.vm theMethod args0 = true := by decide +kernel
set_option maxRecDepth 65536 in
theorem w_heap : heapFits about1 = true := by decide +kernel
set_option maxRecDepth 65536 in
theorem w_runnable : about1.curStatus? = some .runnable := by decide +kernel
set_option maxRecDepth 65536 in
theorem w_alone : about1.alone = true := by decide +kernel
set_option maxRecDepth 65536 in
theorem w_named : about1.methodNamed? x = some theMethod := by decide +kernel
set_option maxRecDepth 65536 in
theorem w_hears : about1.hears theMethod below0 = true := by decide +kernel
set_option maxRecDepth 65536 in
theorem w_ripe : about1.ripe theMethod args0 below0 = true := by decide +kernel
theorem w_running : about1.status = .running := rfl
set_option maxRecDepth 65536 in
theorem w_room : about1.hasRoom e0.platform room_1 = true :=
  launch0.hasRoom_least _ room_1 (by decide +kernel) (by decide +kernel) (by decide +kernel) (by decide +kernel) (by decide +kernel) (by decide +kernel)
theorem allAtoms_all (ts : List Jvm.Cond) (a : Array Jvm.Value) (st : Jvm.State) : (allAtoms ts).before a st = ts.all (fun c => c.before a st) := by
  induction ts with
  | nil => rfl
  | cons c t ih =>
    show (Jvm.Cond.and c (allAtoms t)).before a st = _
    rw [Jvm.Cond.before_and, ih, List.all_cons]
def words1 : List Jvm.Cond := Jvm.Cond.code x code maxLocals ret :: tables_1
/-- a 'code' word, met by the world's own term for the bytes: nothing is compared byte by byte -/
theorem code_word {y : MethodName} {bytes : ByteArray} {mx : Nat} {rt : Option FieldType} {a : Array Value} {s : State} {m : MethodId} {meth : Method} {c : Code} (h1 : s.methodNamed? y = some m) (h2 : s.vm.method? m = some meth) (h3 : meth.code = some c) (h4 : c.code = bytes)
    (h5 : (c.maxLocals == mx && c.exceptionTable.isEmpty && decide (c.maxStack ≤ mostOperands) && decide (meth.sig.returnType = rt) && !meth.locks && decide (parseMethodDescriptor y.desc = some meth.sig)) = true) : (Jvm.Cond.code y bytes mx rt).before a s = true := by
  simp only [Bool.and_eq_true, beq_iff_eq, Bool.not_eq_true', decide_eq_true_eq] at h5
  obtain ⟨⟨⟨⟨⟨g1, g2⟩, g3⟩, g4⟩, g5⟩, g6⟩ := h5
  simp [Cond.before, Cond.holds, Cond.value, h1, h2, h3, h4, g1, g2, g3, g4, g5, g6]
def isCode : Jvm.Cond → Bool
  | .code _ _ _ _ => true
  | _ => false
theorem all_split {L : List Jvm.Cond} {P : Jvm.Cond → Bool} (h1 : L.all (fun c => isCode c || P c) = true) (h2 : ∀ c ∈ L.filter isCode, P c = true) : L.all P = true := by
  refine List.all_eq_true.mpr fun c hc => ?_
  have h := List.all_eq_true.mp h1 c hc
  rcases Bool.eq_false_or_eq_true (isCode c) with hi | hi
  · exact h2 c (List.mem_filter.mpr ⟨hc, hi⟩)
  · simpa [hi] using h
set_option maxRecDepth 65536 in
theorem w_c0 : (Jvm.Cond.code x code maxLocals ret).before args0 about1 = true := code_word (m := ⟨1, 3⟩) (meth := k1m3) (c := k1c3) (by decide +kernel) rfl rfl rfl (by decide +kernel)
set_option maxRecDepth 65536 in
theorem w_c1 : (Jvm.Cond.code ({ cls := "com/example/nodewell/nodewell/query/TokenIsPinLaw", name := "kind", desc := "(I)Lcom/example/nodewell/nodewell/query/Token$Kind;" } : Jvm.MethodName) method_2_code (1 : Nat) (Option.some (Jvm.ClassFile.FieldType.object "com/example/nodewell/nodewell/query/Token$Kind"))).before args0 about1 = true := code_word (m := ⟨1, 1⟩) (meth := k1m1) (c := k1c1) (by decide +kernel) rfl rfl rfl (by decide +kernel)
set_option maxRecDepth 65536 in
theorem w_c2 : (Jvm.Cond.code ({ cls := "com/example/nodewell/nodewell/query/TokenIsPinLaw", name := "text", desc := "(ICC)Ljava/lang/String;" } : Jvm.MethodName) method_3_code (3 : Nat) (Option.some (Jvm.ClassFile.FieldType.object "java/lang/String"))).before args0 about1 = true := code_word (m := ⟨1, 2⟩) (meth := k1m2) (c := k1c2) (by decide +kernel) rfl rfl rfl (by decide +kernel)
set_option maxRecDepth 65536 in
theorem w_c3 : (Jvm.Cond.code ({ cls := "java/lang/String", name := "<init>", desc := "([C)V" } : Jvm.MethodName) jdk_42_method_3_code (2 : Nat) (Option.none : Option Jvm.ClassFile.FieldType)).before args0 about1 = true := code_word (m := ⟨11, 1⟩) (meth := k11m1) (c := k11c1) (by decide +kernel) rfl rfl rfl (by decide +kernel)
set_option maxRecDepth 65536 in
theorem w_c4 : (Jvm.Cond.code ({ cls := "java/lang/String", name := "<init>", desc := "([CIILjava/lang/Void;)V" } : Jvm.MethodName) jdk_42_method_149_code (6 : Nat) (Option.none : Option Jvm.ClassFile.FieldType)).before args0 about1 = true := code_word (m := ⟨11, 3⟩) (meth := k11m3) (c := k11c3) (by decide +kernel) rfl rfl rfl (by decide +kernel)
set_option maxRecDepth 65536 in
theorem w_c5 : (Jvm.Cond.code ({ cls := "java/lang/Object", name := "<init>", desc := "()V" } : Jvm.MethodName) object_method_1_code (1 : Nat) (Option.none : Option Jvm.ClassFile.FieldType)).before args0 about1 = true := code_word (m := ⟨0, 0⟩) (meth := k0m0) (c := k0c0) (by decide +kernel) rfl rfl rfl (by decide +kernel)
set_option maxRecDepth 65536 in
theorem w_c6 : (Jvm.Cond.code ({ cls := "java/lang/StringUTF16", name := "compress", desc := "([CII)[B" } : Jvm.MethodName) jdk_52_method_16_code (6 : Nat) (Option.some (Jvm.ClassFile.FieldType.array Jvm.ClassFile.FieldType.byte))).before args0 about1 = true := code_word (m := ⟨12, 2⟩) (meth := k12m2) (c := k12c2) (by decide +kernel) rfl rfl rfl (by decide +kernel)
set_option maxRecDepth 65536 in
theorem w_c7 : (Jvm.Cond.code ({ cls := "java/lang/StringUTF16", name := "compress", desc := "([CI[BII)I" } : Jvm.MethodName) jdk_52_method_21_code (7 : Nat) (Option.some Jvm.ClassFile.FieldType.int)).before args0 about1 = true := code_word (m := ⟨12, 3⟩) (meth := k12m3) (c := k12c3) (by decide +kernel) rfl rfl rfl (by decide +kernel)
set_option maxRecDepth 65536 in
theorem w_c8 : (Jvm.Cond.code ({ cls := "java/lang/StringUTF16", name := "coderFromArrayLen", desc := "([BI)B" } : Jvm.MethodName) jdk_52_method_15_code (2 : Nat) (Option.some Jvm.ClassFile.FieldType.byte)).before args0 about1 = true := code_word (m := ⟨12, 1⟩) (meth := k12m1) (c := k12c1) (by decide +kernel) rfl rfl rfl (by decide +kernel)
set_option maxRecDepth 65536 in
theorem w_c9 : (Jvm.Cond.code ({ cls := "com/example/nodewell/nodewell/query/Token", name := "<init>", desc := "(Lcom/example/nodewell/nodewell/query/Token$Kind;Ljava/lang/String;II)V" } : Jvm.MethodName) prog_64_method_1_code (5 : Nat) (Option.none : Option Jvm.ClassFile.FieldType)).before args0 about1 = true := code_word (m := ⟨3, 0⟩) (meth := k3m0) (c := k3c0) (by decide +kernel) rfl rfl rfl (by decide +kernel)
set_option maxRecDepth 65536 in
theorem w_c10 : (Jvm.Cond.code ({ cls := "java/lang/Record", name := "<init>", desc := "()V" } : Jvm.MethodName) jdk_30_method_1_code (1 : Nat) (Option.none : Option Jvm.ClassFile.FieldType)).before args0 about1 = true := code_word (m := ⟨2, 0⟩) (meth := k2m0) (c := k2c0) (by decide +kernel) rfl rfl rfl (by decide +kernel)
set_option maxRecDepth 65536 in
theorem w_c11 : (Jvm.Cond.code ({ cls := "com/example/nodewell/nodewell/query/Token", name := "is", desc := "(Lcom/example/nodewell/nodewell/query/Token$Kind;Ljava/lang/String;)Z" } : Jvm.MethodName) prog_64_method_2_code (3 : Nat) (Option.some Jvm.ClassFile.FieldType.boolean)).before args0 about1 = true := code_word (m := ⟨3, 1⟩) (meth := k3m1) (c := k3c1) (by decide +kernel) rfl rfl rfl (by decide +kernel)
set_option maxRecDepth 65536 in
theorem w_c12 : (Jvm.Cond.code ({ cls := "java/lang/String", name := "equals", desc := "(Ljava/lang/Object;)Z" } : Jvm.MethodName) jdk_42_method_66_code (3 : Nat) (Option.some Jvm.ClassFile.FieldType.boolean)).before args0 about1 = true := code_word (m := ⟨11, 2⟩) (meth := k11m2) (c := k11c2) (by decide +kernel) rfl rfl rfl (by decide +kernel)
set_option maxRecDepth 65536 in
theorem w_c13 : (Jvm.Cond.code ({ cls := "java/lang/StringLatin1", name := "equals", desc := "([B[B)Z" } : Jvm.MethodName) jdk_43_method_13_code (3 : Nat) (Option.some Jvm.ClassFile.FieldType.boolean)).before args0 about1 = true := code_word (m := ⟨13, 1⟩) (meth := k13m1) (c := k13c1) (by decide +kernel) rfl rfl rfl (by decide +kernel)
def codes1 : List Jvm.Cond := [Jvm.Cond.code x code maxLocals ret, Jvm.Cond.code ({ cls := "com/example/nodewell/nodewell/query/TokenIsPinLaw", name := "kind", desc := "(I)Lcom/example/nodewell/nodewell/query/Token$Kind;" } : Jvm.MethodName) method_2_code (1 : Nat) (Option.some (Jvm.ClassFile.FieldType.object "com/example/nodewell/nodewell/query/Token$Kind")), Jvm.Cond.code ({ cls := "com/example/nodewell/nodewell/query/TokenIsPinLaw", name := "text", desc := "(ICC)Ljava/lang/String;" } : Jvm.MethodName) method_3_code (3 : Nat) (Option.some (Jvm.ClassFile.FieldType.object "java/lang/String")), Jvm.Cond.code ({ cls := "java/lang/String", name := "<init>", desc := "([C)V" } : Jvm.MethodName) jdk_42_method_3_code (2 : Nat) (Option.none : Option Jvm.ClassFile.FieldType), Jvm.Cond.code ({ cls := "java/lang/String", name := "<init>", desc := "([CIILjava/lang/Void;)V" } : Jvm.MethodName) jdk_42_method_149_code (6 : Nat) (Option.none : Option Jvm.ClassFile.FieldType), Jvm.Cond.code ({ cls := "java/lang/Object", name := "<init>", desc := "()V" } : Jvm.MethodName) object_method_1_code (1 : Nat) (Option.none : Option Jvm.ClassFile.FieldType), Jvm.Cond.code ({ cls := "java/lang/StringUTF16", name := "compress", desc := "([CII)[B" } : Jvm.MethodName) jdk_52_method_16_code (6 : Nat) (Option.some (Jvm.ClassFile.FieldType.array Jvm.ClassFile.FieldType.byte)), Jvm.Cond.code ({ cls := "java/lang/StringUTF16", name := "compress", desc := "([CI[BII)I" } : Jvm.MethodName) jdk_52_method_21_code (7 : Nat) (Option.some Jvm.ClassFile.FieldType.int), Jvm.Cond.code ({ cls := "java/lang/StringUTF16", name := "coderFromArrayLen", desc := "([BI)B" } : Jvm.MethodName) jdk_52_method_15_code (2 : Nat) (Option.some Jvm.ClassFile.FieldType.byte), Jvm.Cond.code ({ cls := "com/example/nodewell/nodewell/query/Token", name := "<init>", desc := "(Lcom/example/nodewell/nodewell/query/Token$Kind;Ljava/lang/String;II)V" } : Jvm.MethodName) prog_64_method_1_code (5 : Nat) (Option.none : Option Jvm.ClassFile.FieldType), Jvm.Cond.code ({ cls := "java/lang/Record", name := "<init>", desc := "()V" } : Jvm.MethodName) jdk_30_method_1_code (1 : Nat) (Option.none : Option Jvm.ClassFile.FieldType), Jvm.Cond.code ({ cls := "com/example/nodewell/nodewell/query/Token", name := "is", desc := "(Lcom/example/nodewell/nodewell/query/Token$Kind;Ljava/lang/String;)Z" } : Jvm.MethodName) prog_64_method_2_code (3 : Nat) (Option.some Jvm.ClassFile.FieldType.boolean), Jvm.Cond.code ({ cls := "java/lang/String", name := "equals", desc := "(Ljava/lang/Object;)Z" } : Jvm.MethodName) jdk_42_method_66_code (3 : Nat) (Option.some Jvm.ClassFile.FieldType.boolean), Jvm.Cond.code ({ cls := "java/lang/StringLatin1", name := "equals", desc := "([B[B)Z" } : Jvm.MethodName) jdk_43_method_13_code (3 : Nat) (Option.some Jvm.ClassFile.FieldType.boolean)]
set_option maxRecDepth 65536 in
theorem codes_eq : words1.filter isCode = codes1 := rfl
theorem w_codes : ∀ c ∈ words1.filter isCode, c.before args0 about1 = true := by
  rw [codes_eq]
  intro c hc
  simp only [codes1, List.mem_cons, List.not_mem_nil, or_false] at hc
  rcases hc with rfl | rfl | rfl | rfl | rfl | rfl | rfl | rfl | rfl | rfl | rfl | rfl | rfl | rfl
  · exact w_c0
  · exact w_c1
  · exact w_c2
  · exact w_c3
  · exact w_c4
  · exact w_c5
  · exact w_c6
  · exact w_c7
  · exact w_c8
  · exact w_c9
  · exact w_c10
  · exact w_c11
  · exact w_c12
  · exact w_c13
set_option maxRecDepth 65536 in
theorem w_t1 : (words1.take 24).all (fun c => isCode c || c.before args0 about1) = true := by decide +kernel
set_option maxRecDepth 65536 in
theorem w_t2 : ((words1.drop 24).take 24).all (fun c => isCode c || c.before args0 about1) = true := by decide +kernel
set_option maxRecDepth 65536 in
theorem w_t3 : (((words1.drop 24).drop 24).take 24).all (fun c => isCode c || c.before args0 about1) = true := by decide +kernel
set_option maxRecDepth 65536 in
theorem w_t4 : (((words1.drop 24).drop 24).drop 24).all (fun c => isCode c || c.before args0 about1) = true := by decide +kernel
theorem w_tables : (allAtoms (Jvm.Cond.code x code maxLocals ret :: tables_1)).before args0 about1 = true := by
  rw [allAtoms_all]
  show words1.all (fun c => c.before args0 about1) = true
  refine all_split ?_ w_codes
  rw [← List.take_append_drop 24 words1, List.all_append, w_t1, ← List.take_append_drop 24 (words1.drop 24), List.all_append, w_t2, ← List.take_append_drop 24 ((words1.drop 24).drop 24), List.all_append, w_t3, w_t4]
  rfl
set_option maxRecDepth 65536 in
theorem w_rest : rest_1_c.before args0 about1 = true := by decide +kernel
set_option maxRecDepth 65536 in
theorem w_case : (Jvm.Cond.and given_1 narrow_1).before args0 about1 = true := by decide +kernel
set_option maxRecDepth 65536 in
theorem w_consts : constsHeld consts_1 about1 := Jvm.Lit.constsHeldB_iff.mp (by decide +kernel)
theorem w_applies : (headSpec (Jvm.Cond.code x code maxLocals ret :: tables_1) room_1).applies x e0.platform about1 = true :=
  (Spec.applies_iff w_frames).mpr ⟨w_running, w_runnable, w_alone, w_named, w_hears, w_ripe, w_room, w_tables⟩
theorem atStart : AtStart classFile x code maxLocals ret World_1 tables_1 room_1 Calls_1 rest_1 Pre_1 launch0 p0 e0 about1 theMethod args0 below0 :=
  ⟨lists_1, trivial, launch0.admits_env _ _ _, launch0.least_env, fairChoices_fair.cas, fairChoices_fair.clock, w_frames, w_args, w_heap, w_applies, ⟨w_consts, trivial⟩, w_rest, w_case⟩
end start1
theorem witness_1 : WitnessClaimed_1 := ⟨start1.p0, start1.e0, start1.about1, start1.theMethod, start1.args0, start1.below0, start1.atStart⟩
end Jvm.Pilot.@@N@@
