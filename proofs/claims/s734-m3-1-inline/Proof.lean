import JvmDerived
import JvmDerived.Pilot.@@N@@Statement
import JvmDerived.Pilot.@@N@@Code
set_option linter.unusedVariables false
set_option linter.unusedSimpArgs false
/- laws to paste: Road.backV (cut by pick.py; bodies as the Statement names them) -/
namespace Jvm.Pilot.@@N@@
namespace StrChars
open Jvm Sem ClassFile Op Lib Jvm.Stand Jvm.Free.XT Jvm.Free.ALB Jvm.Free.JM Jvm.Free
open Jvm.Lib.Cold (StaticIs)
/-- a char array whose places are chars -/
def Ch (a : Addr) (A : Cell) (U : State) : Prop := Arr .char a A U ∧ Typed .char A
theorem Ch.mv {a : Addr} {A : Cell} {U U' : State} (h : Ch a A U) (hal : U.vm.Alike U'.vm) (hh : U'.heap = U.heap) : Ch a A U' := ⟨h.1.mv hal hh, h.2⟩
theorem Ch.keep {a : Addr} {A : Cell} {U U' : State} (h : Ch a A U) (hal : U.vm.Alike U'.vm) (hk : U'.heap[a]? = some A) : Ch a A U' := ⟨h.1.keep hal hk, h.2⟩
/-- what place i of a char[]'s cell holds -/
def cv (A : Cell) (i : Nat) : Int32 := match A.slots[i]? with | some (.int x) => x | _ => 0
theorem Ch.get {a : Addr} {A : Cell} {U : State} (h : Ch a A U) {i : Nat} (hi : i < A.slots.size) : A.slots[i]? = some (.int (cv A i)) := by
  have e := Array.getElem?_eq_getElem hi
  have f := h.2 i _ e
  unfold cv; rw [e]
  generalize A.slots[i] = v at f
  cases v <;> simp [fits] at f ⊢
/-- the byte that i2b leaves of a char -/
def lo8 (x : Int32) : Int32 := x.toInt8.toInt32
theorem fits_lo8 (y : Int32) : fits .byte (.int (lo8 y)) = true := by
  have h1 := y.toInt8.le_toInt
  have h2 := y.toInt8.toInt_lt
  simp only [lo8, fits, Bool.and_eq_true, decide_eq_true_eq, Int32.le_iff_toInt_le, Int8.toInt_toInt32, show (-128 : Int32).toInt = -128 from by decide, show (127 : Int32).toInt = 127 from by decide]
  omega
/-- A' is A but that each place j of lo .. hi - 1 holds f j -/
def Laid (A A' : Cell) (lo hi : Nat) (f : Nat → Value) : Prop := A'.cls = A.cls ∧ A'.vm = A.vm ∧ A'.slots.size = A.slots.size ∧ ∀ i, A'.slots[i]? = if lo ≤ i ∧ i < hi then some (f i) else A.slots[i]?
theorem Laid.zero (A : Cell) (lo : Nat) (f : Nat → Value) : Laid A A lo (lo + 0) f := ⟨rfl, rfl, rfl, fun i => by rw [if_neg (by omega)]⟩
theorem Laid.step {A Ak : Cell} {lo k : Nat} {f : Nat → Value} {v : Value} (h : Laid A Ak lo k f) (hlo : lo ≤ k) (hk : k < Ak.slots.size) (hv : v = f k) : Laid A (Ak.setSlot k v) lo (k + 1) f := by
  refine ⟨h.1, h.2.1, by simpa [Cell.setSlot] using h.2.2.1, fun i => ?_⟩
  by_cases e : k = i
  · subst e; rw [Cell.slots_setSlot_self v hk, if_pos (by omega), hv]
  · rw [Cell.slots_setSlot_ne v e, h.2.2.2 i]
    by_cases q : lo ≤ i ∧ i < k
    · rw [if_pos q, if_pos (by omega)]
    · rw [if_neg q, if_neg (by omega)]
def U16 : String := "java/lang/StringUTF16"
namespace Cmp5
def yN : MethodName := ⟨"java/lang/StringUTF16", "compress", "([CI[BII)I"⟩
abbrev yB : ByteArray := jdk_52_method_21_code
theorem d0 : decode yB 0 = .ok (.iconst 0, 1) := by decide +kernel
theorem d1 : decode yB 1 = .ok (.istore 5, 2) := by decide +kernel
theorem d3 : decode yB 3 = .ok (.iload 5, 2) := by decide +kernel
theorem d5 : decode yB 5 = .ok (.iload 4, 2) := by decide +kernel
theorem d7 : decode yB 7 = .ok (.if_icmp (.ge) 37, 3) := by decide +kernel
theorem d10 : decode yB 10 = .ok (.aload_n 0, 1) := by decide +kernel
theorem d11 : decode yB 11 = .ok (.iload_n 1, 1) := by decide +kernel
theorem d12 : decode yB 12 = .ok (.caload, 1) := by decide +kernel
theorem d13 : decode yB 13 = .ok (.istore 6, 2) := by decide +kernel
theorem d15 : decode yB 15 = .ok (.iload 6, 2) := by decide +kernel
theorem d17 : decode yB 17 = .ok (.sipush 255, 3) := by decide +kernel
theorem d20 : decode yB 20 = .ok (.if_icmp (.le) 6, 3) := by decide +kernel
theorem d26 : decode yB 26 = .ok (.aload_n 2, 1) := by decide +kernel
theorem d27 : decode yB 27 = .ok (.iload_n 3, 1) := by decide +kernel
theorem d28 : decode yB 28 = .ok (.iload 6, 2) := by decide +kernel
theorem d30 : decode yB 30 = .ok (.i2b, 1) := by decide +kernel
theorem d31 : decode yB 31 = .ok (.bastore, 1) := by decide +kernel
theorem d32 : decode yB 32 = .ok (.iinc 1 1, 3) := by decide +kernel
theorem d35 : decode yB 35 = .ok (.iinc 3 1, 3) := by decide +kernel
theorem d38 : decode yB 38 = .ok (.iinc 5 1, 3) := by decide +kernel
theorem d41 : decode yB 41 = .ok (.goto (-38), 3) := by decide +kernel
theorem d44 : decode yB 44 = .ok (.iload 4, 2) := by decide +kernel
theorem d46 : decode yB 46 = .ok (.ireturn, 1) := by decide +kernel
def site : List Cond := []
def tab : Cond := tabOf yN yB 7 (some .int) site
def P (b : Addr) (A : Cell) (d : Addr) (B : Cell) (o q len : Nat) (args : Array Value) (s : State) : Prop := args = #[.ref b, .int (Int32.ofNat o), .ref d, .int (Int32.ofNat q), .int (Int32.ofNat len)] ∧ Ch b A s ∧ Arr .byte d B s ∧ b ≠ d ∧ o + len ≤ A.slots.size ∧ q + len ≤ B.slots.size ∧ ∀ i, i < len → ¬ 255 < cv A (o + i)
def E (b : Addr) (A : Cell) (d : Addr) (B : Cell) (o q len : Nat) (r : Option Value) (s u : State) : Prop := r = some (.int (Int32.ofNat len)) ∧ ∃ B', Put d B' s u ∧ Laid B B' q (q + len) (fun j => Value.int (lo8 (cv A (o + (j - q)))))
/-- no char of the range above 255: len; the places written hold each char's low byte -/
theorem law (l : Launch) (b : Addr) (A : Cell) (d : Addr) (B : Cell) (o q len : Nat) : Law l yN 5 5 0 0 yB 7 (some .int) site (P b A d B o q len) (E b A d B o q len) (copyLocs d q len) 0 0 := by
  refine Law.of_walk (plainFor_of_name (by decide +kernel)) (by decide +kernel) (by decide +kernel) (by decide) (fun _ _ h => by rw [h.1]; rfl) (fun _ U U' hal hh h => ⟨h.1, h.2.1.mv hal hh, h.2.2.1.mv hal hh, h.2.2.2⟩) (fun r U U' V V' h1 hal h2 h => ⟨h.1, h.2.elim fun B' q => ⟨B', q.1.mv h1 h2, q.2⟩⟩) ?_
  intro p e s m args below meth c s₁ X0 hexec hbytes hml hret hlk hnm hown hh0 W hP
  obtain ⟨rfl, hA, hB, hne, l1, l2, hp⟩ := hP
  have c1 : Steps p.tables e below (s₁.setTop (entryFrame m #[.ref b, .int (Int32.ofNat o), .ref d, .int (Int32.ofNat q), .int (Int32.ofNat len)] 7)) (s₁.setTop (mkF m 0 #[.val (.ref b), .val (.int (Int32.ofNat o)), .val (.ref d), .val (.int (Int32.ofNat q)), .val (.int (Int32.ofNat len)), .unset, .unset] [])) := entry rfl
  have hA0 := hA.1.mv X0.warmed.alike hh0
  have hB0 := hB.mv X0.warmed.alike hh0
  have a31 := hA.1.2.2.2
  have c2 : Steps p.tables e below (s₁.setTop (entryFrame m #[.ref b, .int (Int32.ofNat o), .ref d, .int (Int32.ofNat q), .int (Int32.ofNat len)] 7)) (s₁.setTop (mkF m 3 #[.val (.ref b), .val (.int (Int32.ofNat o)), .val (.ref d), .val (.int (Int32.ofNat q)), .val (.int (Int32.ofNat len)), .val (.int 0), .unset] [])) := c1.trans (by
    refine iconstV X0.here hexec rfl 0 (hb hbytes d0) (by decide) ?_
    refine XS.istore X0.here hexec rfl (hb hbytes d1) rfl rfl ?_
    exact Steps.refl _)
  have loop : ∀ (r i : Nat), i + r = len → ∀ (z : Slot), (z = .unset ∨ ∃ w, z = .val w ∧ w.category = 1) → ∀ (Tl : State) (Bk : Cell), Stand p l e { frames := 0, locals := 0, cells := 0, slots := 0 } s m #[.ref b, .int (Int32.ofNat o), .ref d, .int (Int32.ofNat q), .int (Int32.ofNat len)] below meth c Tl ([] ++ copyLocs d q i) 0 0 → Put d Bk s₁ Tl → Laid B Bk q (q + i) (fun j => Value.int (lo8 (cv A (o + (j - q))))) →
      Steps p.tables e below (s₁.setTop (entryFrame m #[.ref b, .int (Int32.ofNat o), .ref d, .int (Int32.ofNat q), .int (Int32.ofNat len)] 7)) (Tl.setTop (mkF m 3 #[.val (.ref b), .val (.int (Int32.ofNat (o + i))), .val (.ref d), .val (.int (Int32.ofNat (q + i))), .val (.int (Int32.ofNat len)), .val (.int (Int32.ofNat i)), z] [])) → ∃ (T' : State) (B' : Cell) (z' : Slot), Stand p l e { frames := 0, locals := 0, cells := 0, slots := 0 } s m #[.ref b, .int (Int32.ofNat o), .ref d, .int (Int32.ofNat q), .int (Int32.ofNat len)] below meth c T' ([] ++ copyLocs d q len) 0 0 ∧ Put d B' s₁ T' ∧ Laid B B' q (q + len) (fun j => Value.int (lo8 (cv A (o + (j - q))))) ∧
      Steps p.tables e below (s₁.setTop (entryFrame m #[.ref b, .int (Int32.ofNat o), .ref d, .int (Int32.ofNat q), .int (Int32.ofNat len)] 7)) (T'.setTop (mkF m 3 #[.val (.ref b), .val (.int (Int32.ofNat (o + len))), .val (.ref d), .val (.int (Int32.ofNat (q + len))), .val (.int (Int32.ofNat len)), .val (.int (Int32.ofNat len)), z'] [])) := by
    intro r
    induction r with
    | zero =>
      intro i hi z hz Tl Bk Xl pl fl cl
      have hil : i = len := by omega
      rw [hil] at Xl fl cl
      exact ⟨Tl, Bk, z, Xl, pl, fl, cl⟩
    | succ r ih =>
      intro i hi z hz Tl Bk Xl pl fl cl
      have all := X0.warmed.alike.symm.trans Xl.warmed.alike
      have hAl := hA0.keep all (pl.other hne hA0.1)
      have hBk := hB0.like all pl.1 fl.1 fl.2.1 fl.2.2.1
      have hlt : q + i < Bk.slots.size := by rw [fl.2.2.1]; omega
      have c3 : Steps p.tables e below (s₁.setTop (entryFrame m #[.ref b, .int (Int32.ofNat o), .ref d, .int (Int32.ofNat q), .int (Int32.ofNat len)] 7)) (Tl.setTop (mkF m 12 #[.val (.ref b), .val (.int (Int32.ofNat (o + i))), .val (.ref d), .val (.int (Int32.ofNat (q + i))), .val (.int (Int32.ofNat len)), .val (.int (Int32.ofNat i)), z] [.int (Int32.ofNat (o + i)), .ref b])) := cl.trans (by
        refine XS.iload Xl.here hexec rfl (hb hbytes d3) rfl ?_
        refine XS.iload Xl.here hexec rfl (hb hbytes d5) rfl ?_
        refine XS.icmpNo Xl.here hexec rfl (hb hbytes d7) rfl (ii_ge_f (lt32 (by omega) (by omega))) ?_
        refine XS.aloadN Xl.here hexec rfl (hb hbytes d10) rfl rfl ?_
        refine XS.iloadN Xl.here hexec rfl (hb hbytes d11) rfl ?_
        exact Steps.refl _)
      have c4 : Steps p.tables e below (s₁.setTop (entryFrame m #[.ref b, .int (Int32.ofNat o), .ref d, .int (Int32.ofNat q), .int (Int32.ofNat len)] 7)) (Tl.setTop (mkF m 13 #[.val (.ref b), .val (.int (Int32.ofNat (o + i))), .val (.ref d), .val (.int (Int32.ofNat (q + i))), .val (.int (Int32.ofNat len)), .val (.int (Int32.ofNat i)), z] [.int (cv A (o + i))])) := c3.trans (by
        refine Xl.aget hexec hAl rfl (hA.get (i := o + i) (by omega)) rfl rfl (hb hbytes d12) ?_
        exact Steps.refl _)
      have c5 : Steps p.tables e below (s₁.setTop (entryFrame m #[.ref b, .int (Int32.ofNat o), .ref d, .int (Int32.ofNat q), .int (Int32.ofNat len)] 7)) (Tl.setTop (mkF m 15 #[.val (.ref b), .val (.int (Int32.ofNat (o + i))), .val (.ref d), .val (.int (Int32.ofNat (q + i))), .val (.int (Int32.ofNat len)), .val (.int (Int32.ofNat i)), .val (.int (cv A (o + i)))] [])) := c4.trans (by
        refine XS.istoreS Xl.here hexec rfl (hb hbytes d13) rfl rfl hz ?_
        exact Steps.refl _)
      have c6 : Steps p.tables e below (s₁.setTop (entryFrame m #[.ref b, .int (Int32.ofNat o), .ref d, .int (Int32.ofNat q), .int (Int32.ofNat len)] 7)) (Tl.setTop (mkF m 31 #[.val (.ref b), .val (.int (Int32.ofNat (o + i))), .val (.ref d), .val (.int (Int32.ofNat (q + i))), .val (.int (Int32.ofNat len)), .val (.int (Int32.ofNat i)), .val (.int (cv A (o + i)))] [.int (lo8 (cv A (o + i))), .int (Int32.ofNat (q + i)), .ref d])) := c5.trans (by
        refine XS.iload Xl.here hexec rfl (hb hbytes d15) rfl ?_
        refine sipushV Xl.here hexec rfl 255 (hb hbytes d17) (by decide) ?_
        refine XS.icmpYes Xl.here hexec rfl (pc0 := 20) rfl (hb hbytes d20) rfl (ii_le_t (hp i (by omega))) (by decide) rfl ?_
        refine XS.aloadN Xl.here hexec rfl (hb hbytes d26) rfl rfl ?_
        refine XS.iloadN Xl.here hexec rfl (hb hbytes d27) rfl ?_
        refine XS.iload Xl.here hexec rfl (hb hbytes d28) rfl ?_
        refine i2b Xl.here hexec rfl (hb hbytes d30) rfl ?_
        exact Steps.refl _)
      obtain ⟨T7, X7, p7, st7⟩ := Xl.aput hexec hBk rfl hlt rfl (fits_lo8 (cv A (o + i))) (g := (mkF m 31 #[.val (.ref b), .val (.int (Int32.ofNat (o + i))), .val (.ref d), .val (.int (Int32.ofNat (q + i))), .val (.int (Int32.ofNat len)), .val (.int (Int32.ofNat i)), .val (.int (cv A (o + i)))] [.int (lo8 (cv A (o + i))), .int (Int32.ofNat (q + i)), .ref d])) rfl (rest := []) rfl (hb hbytes d31)
      have c8 : Steps p.tables e below (s₁.setTop (entryFrame m #[.ref b, .int (Int32.ofNat o), .ref d, .int (Int32.ofNat q), .int (Int32.ofNat len)] 7)) (T7.setTop (mkF m 32 #[.val (.ref b), .val (.int (Int32.ofNat (o + i))), .val (.ref d), .val (.int (Int32.ofNat (q + i))), .val (.int (Int32.ofNat len)), .val (.int (Int32.ofNat i)), .val (.int (cv A (o + i)))] [])) := c6.trans (st7 _ (Steps.refl _))
      have c9 : Steps p.tables e below (s₁.setTop (entryFrame m #[.ref b, .int (Int32.ofNat o), .ref d, .int (Int32.ofNat q), .int (Int32.ofNat len)] 7)) (T7.setTop (mkF m 3 #[.val (.ref b), .val (.int (Int32.ofNat (o + i) + 1)), .val (.ref d), .val (.int (Int32.ofNat (q + i) + 1)), .val (.int (Int32.ofNat len)), .val (.int (Int32.ofNat i + 1)), .val (.int (cv A (o + i)))] [])) := c8.trans (by
        refine iincV X7.here hexec rfl 1 (hb hbytes d32) (by decide) rfl rfl ?_
        refine iincV X7.here hexec rfl 1 (hb hbytes d35) (by decide) rfl rfl ?_
        refine iincV X7.here hexec rfl 1 (hb hbytes d38) (by decide) rfl rfl ?_
        refine XS.goto X7.here hexec rfl (pc0 := 41) rfl (hb hbytes d41) (by decide) rfl ?_
        exact Steps.refl _)
      have c10 : Steps p.tables e below (s₁.setTop (entryFrame m #[.ref b, .int (Int32.ofNat o), .ref d, .int (Int32.ofNat q), .int (Int32.ofNat len)] 7)) (T7.setTop (mkF m 3 #[.val (.ref b), .val (.int (Int32.ofNat (o + (i + 1)))), .val (.ref d), .val (.int (Int32.ofNat (q + (i + 1)))), .val (.int (Int32.ofNat len)), .val (.int (Int32.ofNat (i + 1))), .val (.int (cv A (o + i)))] [])) := by
        have := c9
        rw [succ32, succ32, succ32] at this
        exact this
      exact ih (i + 1) (by omega) _ (Or.inr ⟨_, rfl, rfl⟩) T7 _ (by rw [copyLocs_step, ← List.append_assoc]; exact X7) (pl.trans p7) (fl.step (by omega) hlt (by simp)) c10
  obtain ⟨T9, B9, z9, X9, p9, f9, g9⟩ := loop len 0 (by omega) .unset (Or.inl rfl) s₁ B (by simpa [copyLocs] using X0) ⟨hB0.1, fun _ _ => rfl, rfl⟩ (Laid.zero _ _ _) c2
  have c11 : Steps p.tables e below (s₁.setTop (entryFrame m #[.ref b, .int (Int32.ofNat o), .ref d, .int (Int32.ofNat q), .int (Int32.ofNat len)] 7)) (T9.setTop (mkF m 46 #[.val (.ref b), .val (.int (Int32.ofNat (o + len))), .val (.ref d), .val (.int (Int32.ofNat (q + len))), .val (.int (Int32.ofNat len)), .val (.int (Int32.ofNat len)), z9] [.int (Int32.ofNat len)])) := g9.trans (by
    refine XS.iload X9.here hexec rfl (hb hbytes d3) rfl ?_
    refine XS.iload X9.here hexec rfl (hb hbytes d5) rfl ?_
    refine XS.icmpYes X9.here hexec rfl (pc0 := 7) rfl (hb hbytes d7) rfl (ii_ge_t (nlt32 (by omega) (Nat.le_refl _))) (by decide) rfl ?_
    refine XS.iload X9.here hexec rfl (hb hbytes d44) rfl ?_
    exact Steps.refl _)
  exact ⟨T9, some (.int (Int32.ofNat len)), _, _, _, X9, by simp, rfl, rfl, (fun h => by cases h), ⟨rfl, B9, p9.from hh0, f9⟩, fun fs hl => c11.trans (X9.ireturnOut hexec hret rfl (Or.inl rfl) (hb hbytes d46) hl)⟩
end Cmp5
namespace Cmp3
def yN : MethodName := ⟨"java/lang/StringUTF16", "compress", "([CII)[B"⟩
abbrev yB : ByteArray := jdk_52_method_16_code
theorem d0 : decode yB 0 = .ok (.iload_n 2, 1) := by decide +kernel
theorem d1 : decode yB 1 = .ok (.newarray .byte, 2) := by decide +kernel
theorem d3 : decode yB 3 = .ok (.astore_n 3, 1) := by decide +kernel
theorem d4 : decode yB 4 = .ok (.aload_n 0, 1) := by decide +kernel
theorem d5 : decode yB 5 = .ok (.iload_n 1, 1) := by decide +kernel
theorem d6 : decode yB 6 = .ok (.aload_n 3, 1) := by decide +kernel
theorem d7 : decode yB 7 = .ok (.iconst 0, 1) := by decide +kernel
theorem d8 : decode yB 8 = .ok (.iload_n 2, 1) := by decide +kernel
theorem d9 : decode yB 9 = .ok (.invokestatic 115, 3) := by decide +kernel
theorem d12 : decode yB 12 = .ok (.istore 4, 2) := by decide +kernel
theorem d14 : decode yB 14 = .ok (.iload 4, 2) := by decide +kernel
theorem d16 : decode yB 16 = .ok (.iload_n 2, 1) := by decide +kernel
theorem d17 : decode yB 17 = .ok (.if_icmp (.eq) 40, 3) := by decide +kernel
theorem d57 : decode yB 57 = .ok (.aload_n 3, 1) := by decide +kernel
theorem d58 : decode yB 58 = .ok (.areturn, 1) := by decide +kernel
def site : List Cond := [.arrayClass .byte, Cmp5.tab] ++ staticW U16 115 Cmp5.yN
def tab : Cond := tabOf yN yB 6 (some (.array .byte)) site
def P (b : Addr) (A : Cell) (o len : Nat) (args : Array Value) (s : State) : Prop := args = #[.ref b, .int (Int32.ofNat o), .int (Int32.ofNat len)] ∧ Ch b A s ∧ o + len ≤ A.slots.size ∧ len ≤ 536870912 ∧ ∀ i, i < len → ¬ 255 < cv A (o + i)
def E (b : Addr) (A : Cell) (o len : Nat) (r : Option Value) (s u : State) : Prop := NewArr .byte "[B" len (fun j => .int (lo8 (cv A (o + j)))) r s u ∧ u.heap.size = s.heap.size + 1
/-- no char of the range above 255: a new byte[] of their low bytes -/
theorem law (l : Launch) (b : Addr) (A : Cell) (o len : Nat) : Law l yN 3 3 1 18 yB 6 (some (.array .byte)) site (P b A o len) (E b A o len) [] 1 len := by
  refine Law.of_walk (plainFor_of_name (by decide +kernel)) (by decide +kernel) (by decide +kernel) (by decide) (fun _ _ h => by rw [h.1]; rfl) (fun _ U U' hal hh h => ⟨h.1, h.2.1.mv hal hh, h.2.2⟩) (fun r U U' V V' h1 hal h2 h => ⟨NewArr.mv r U U' V V' h1 hal h2 h.1, by rw [h1, h2]; exact h.2⟩) ?_
  intro p e s m args below meth c s₁ X0 hexec hbytes hml hret hlk hnm hown hh0 W hP
  obtain ⟨rfl, hA, l1, l2, hp⟩ := hP
  have a31 := hA.1.2.2.2
  have c1 : Steps p.tables e below (s₁.setTop (entryFrame m #[.ref b, .int (Int32.ofNat o), .int (Int32.ofNat len)] 6)) (s₁.setTop (mkF m 0 #[.val (.ref b), .val (.int (Int32.ofNat o)), .val (.int (Int32.ofNat len)), .unset, .unset, .unset] [])) := entry rfl
  have c2 : Steps p.tables e below (s₁.setTop (entryFrame m #[.ref b, .int (Int32.ofNat o), .int (Int32.ofNat len)] 6)) (s₁.setTop (mkF m 1 #[.val (.ref b), .val (.int (Int32.ofNat o)), .val (.int (Int32.ofNat len)), .unset, .unset, .unset] [.int (Int32.ofNat len)])) := c1.trans (by
    refine XS.iloadN X0.here hexec rfl (hb hbytes d0) rfl ?_
    exact Steps.refl _)
  obtain ⟨T3, B3, X3, ba3, bs3, bv3, bh3, bf3, st3⟩ := X0.anew hexec (atype := .byte) (wk W (.arrayClass .byte)) rfl (by show len * 1 ≤ _; omega) (by omega) (g := (mkF m 1 #[.val (.ref b), .val (.int (Int32.ofNat o)), .val (.int (Int32.ofNat len)), .unset, .unset, .unset] [.int (Int32.ofNat len)])) rfl (hb hbytes d1) (rest := []) rfl (Nat.le_refl _) (by show 0 + len ≤ len; omega)
  rw [hh0] at ba3 st3
  have kp3 : XT.Kept s T3 := (XT.Kept.of_eq hh0).push bh3
  have hA3 := hA.keep X3.warmed.alike (kp3 _ _ hA.1.1)
  have hne : b ≠ s.heap.size := hA.1.ne
  have c4 : Steps p.tables e below (s₁.setTop (entryFrame m #[.ref b, .int (Int32.ofNat o), .int (Int32.ofNat len)] 6)) (T3.setTop (mkF m 3 #[.val (.ref b), .val (.int (Int32.ofNat o)), .val (.int (Int32.ofNat len)), .unset, .unset, .unset] [.ref s.heap.size])) := c2.trans (st3 _ (Steps.refl _))
  have c5 : Steps p.tables e below (s₁.setTop (entryFrame m #[.ref b, .int (Int32.ofNat o), .int (Int32.ofNat len)] 6)) (T3.setTop (mkF m 9 #[.val (.ref b), .val (.int (Int32.ofNat o)), .val (.int (Int32.ofNat len)), .val (.ref s.heap.size), .unset, .unset] [.int (Int32.ofNat len), .int 0, .ref s.heap.size, .int (Int32.ofNat o), .ref b])) := c4.trans (by
    refine XS.astoreN X3.here hexec rfl (hb hbytes d3) rfl rfl rfl ?_
    refine XS.aloadN X3.here hexec rfl (hb hbytes d4) rfl rfl ?_
    refine XS.iloadN X3.here hexec rfl (hb hbytes d5) rfl ?_
    refine XS.aloadN X3.here hexec rfl (hb hbytes d6) rfl rfl ?_
    refine iconstV X3.here hexec rfl 0 (hb hbytes d7) (by decide) ?_
    refine XS.iloadN X3.here hexec rfl (hb hbytes d8) rfl ?_
    exact Steps.refl _)
  obtain ⟨v6, T6, X6, E6, g6⟩ := X3.callS hexec (Cmp5.law l b A s.heap.size B3 o 0 len) hown (wks W (staticW U16 115 Cmp5.yN)) (wk W Cmp5.tab) (W := 0) (Nat.le_of_ble_eq_true rfl) (Nat.le_of_ble_eq_true rfl) (Nat.le_refl _) (by show 0 + len + 0 ≤ len; omega) (g := (mkF m 9 #[.val (.ref b), .val (.int (Int32.ofNat o)), .val (.int (Int32.ofNat len)), .val (.ref s.heap.size), .unset, .unset] [.int (Int32.ofNat len), .int (Int32.ofNat 0), .ref s.heap.size, .int (Int32.ofNat o), .ref b])) rfl (by rw [hml]; rfl) c5 (argsL := [.ref b, .int (Int32.ofNat o), .ref s.heap.size, .int (Int32.ofNat 0), .int (Int32.ofNat len)]) (rest := []) rfl rfl (by show 2 * 0 + 0 ≤ _; decide) (hb hbytes d9) (⟨rfl, hA3, ba3, hne, l1, by rw [bs3]; simp, hp⟩)
  obtain ⟨rfl, B6, p6, f6⟩ := E6
  have c7 : Steps p.tables e below (s₁.setTop (entryFrame m #[.ref b, .int (Int32.ofNat o), .int (Int32.ofNat len)] 6)) (T6.setTop (mkF m 12 #[.val (.ref b), .val (.int (Int32.ofNat o)), .val (.int (Int32.ofNat len)), .val (.ref s.heap.size), .unset, .unset] [.int (Int32.ofNat len)])) := g6
  have c8 : Steps p.tables e below (s₁.setTop (entryFrame m #[.ref b, .int (Int32.ofNat o), .int (Int32.ofNat len)] 6)) (T6.setTop (mkF m 58 #[.val (.ref b), .val (.int (Int32.ofNat o)), .val (.int (Int32.ofNat len)), .val (.ref s.heap.size), .val (.int (Int32.ofNat len)), .unset] [.ref s.heap.size])) := c7.trans (by
    refine XS.istore X6.here hexec rfl (hb hbytes d12) rfl rfl ?_
    refine XS.iload X6.here hexec rfl (hb hbytes d14) rfl ?_
    refine XS.iloadN X6.here hexec rfl (hb hbytes d16) rfl ?_
    refine XS.icmpYes X6.here hexec rfl (pc0 := 17) rfl (hb hbytes d17) rfl (ii_eq_t rfl) (by decide) rfl ?_
    refine XS.aloadN X6.here hexec rfl (hb hbytes d57) rfl rfl ?_
    exact Steps.refl _)
  have X8 := X6.wide (L' := []) (cells' := 1) (slots' := len) (fun x hx hlt => by
    simp only [List.nil_append, copyLocs, List.mem_map, List.mem_range] at hx
    obtain ⟨i, -, rfl⟩ := hx
    exact absurd hlt (Nat.lt_irrefl _)) (Nat.le_refl _) (by omega)
  exact ⟨T6, some (.ref s.heap.size), _, _, _, X8, rfl, rfl, rfl, (fun h => by cases h), ⟨⟨rfl, B6, ba3.like (X3.warmed.alike.symm.trans X6.warmed.alike) p6.1 f6.1 f6.2.1 f6.2.2.1, f6.2.1.trans bv3, by rw [X6.warmed.alike.findClass, f6.1]; exact bf3, by rw [f6.2.2.1, bs3]; simp, fun j hj => by rw [f6.2.2.2 j, if_pos (by omega)]; rfl, kp3.put p6 (Nat.le_refl _)⟩, by rw [p6.2.2, bh3, hh0]; simp⟩, fun fs hl => c8.trans (X8.areturnOut hexec rfl hret rfl (hb hbytes d58) hl)⟩
end Cmp3
namespace CodL
def yN : MethodName := ⟨"java/lang/StringUTF16", "coderFromArrayLen", "([BI)B"⟩
abbrev yB : ByteArray := jdk_52_method_15_code
theorem d0 : decode yB 0 = .ok (.iload_n 1, 1) := by decide +kernel
theorem d1 : decode yB 1 = .ok (.aload_n 0, 1) := by decide +kernel
theorem d2 : decode yB 2 = .ok (.arraylength, 1) := by decide +kernel
theorem d3 : decode yB 3 = .ok (.isub, 1) := by decide +kernel
theorem d4 : decode yB 4 = .ok (.bipush 31, 2) := by decide +kernel
theorem d6 : decode yB 6 = .ok (.iushr, 1) := by decide +kernel
theorem d7 : decode yB 7 = .ok (.i2b, 1) := by decide +kernel
theorem d8 : decode yB 8 = .ok (.ireturn, 1) := by decide +kernel
def site : List Cond := []
def tab : Cond := tabOf yN yB 2 (some .byte) site
def P (d : Addr) (B : Cell) (args : Array Value) (s : State) : Prop := args = #[.ref d, .int (Int32.ofNat B.slots.size)] ∧ Arr .byte d B s
def E (r : Option Value) (s u : State) : Prop := XT.PureE (some (.int 0)) r s u
/-- an array as long as the number of chars: LATIN1 -/
theorem law (l : Launch) (d : Addr) (B : Cell) : Law l yN 2 2 0 0 yB 2 (some .byte) site (P d B) E [] 0 0 := by
  refine Law.of_walk (plainFor_of_name (by decide +kernel)) (by decide +kernel) (by decide +kernel) (by decide) (fun _ _ h => by rw [h.1]; rfl) (fun _ U U' hal hh h => ⟨h.1, h.2.mv hal hh⟩) (fun r U U' V V' h1 hal h2 h => XT.PureE.mv r U U' V V' h1 hal h2 h) ?_
  intro p e s m args below meth c s₁ X0 hexec hbytes hml hret hlk hnm hown hh0 W hP
  obtain ⟨rfl, hB⟩ := hP
  have hB0 := hB.mv X0.warmed.alike hh0
  have c1 : Steps p.tables e below (s₁.setTop (entryFrame m #[.ref d, .int (Int32.ofNat B.slots.size)] 2)) (s₁.setTop (mkF m 0 #[.val (.ref d), .val (.int (Int32.ofNat B.slots.size))] [])) := entry rfl
  have c2 : Steps p.tables e below (s₁.setTop (entryFrame m #[.ref d, .int (Int32.ofNat B.slots.size)] 2)) (s₁.setTop (mkF m 2 #[.val (.ref d), .val (.int (Int32.ofNat B.slots.size))] [.ref d, .int (Int32.ofNat B.slots.size)])) := c1.trans (by
    refine XS.iloadN X0.here hexec rfl (hb hbytes d0) rfl ?_
    refine XS.aloadN X0.here hexec rfl (hb hbytes d1) rfl rfl ?_
    exact Steps.refl _)
  have c3 : Steps p.tables e below (s₁.setTop (entryFrame m #[.ref d, .int (Int32.ofNat B.slots.size)] 2)) (s₁.setTop (mkF m 8 #[.val (.ref d), .val (.int (Int32.ofNat B.slots.size))] [.int (lo8 (ushr (Int32.ofNat B.slots.size - Int32.ofNat B.slots.size) 31))])) := c2.trans (by
    refine X0.alen hexec hB0 rfl rfl (hb hbytes d2) ?_
    refine XS.isub X0.here hexec rfl (hb hbytes d3) rfl ?_
    refine bipushV X0.here hexec rfl 31 (hb hbytes d4) (by decide) ?_
    refine iushr X0.here hexec rfl (hb hbytes d6) rfl ?_
    refine i2b X0.here hexec rfl (hb hbytes d7) rfl ?_
    exact Steps.refl _)
  have e0 : lo8 (ushr (Int32.ofNat B.slots.size - Int32.ofNat B.slots.size) 31) = 0 := by rw [Int32.sub_self]; decide
  rw [e0] at c3
  exact ⟨s₁, some (.int 0), _, _, _, X0, rfl, rfl, rfl, (fun h => by cases h), ⟨rfl, hh0⟩, fun fs hl => c3.trans (X0.ireturnOut hexec hret rfl (Or.inr (Or.inr (Or.inl rfl))) (hb hbytes d8) hl)⟩
end CodL
/-- the String at a is Latin-1 over a new byte[] (the heap's one new cell): the low bytes of the len chars of A from o on; every cell but a is kept -/
def Got (a : Addr) (D : Cell) (fV fC : Field) (A : Cell) (o len : Nat) (r : Option Value) (s u : State) : Prop := r = none ∧ ∃ D' V : Cell, Blank "java/lang/String" a D' u ∧ Same D D' [fV.slot, fC.slot] ∧ D'.slots[fV.slot]? = some (.ref s.heap.size) ∧ D'.slots[fC.slot]? = some (.int 0) ∧ Arr .byte s.heap.size V u ∧ V.vm = .none ∧ u.vm.findClass "[B" = some V.cls ∧ V.slots.size = len ∧ (∀ j, j < len → V.slots[j]? = some (.int (lo8 (cv A (o + j))))) ∧ (∀ (y : Addr) (c : Cell), y ≠ a → s.heap[y]? = some c → u.heap[y]? = some c) ∧ u.heap.size = s.heap.size + 1
theorem Got.mv {a : Addr} {D A : Cell} {fV fC : Field} {o len : Nat} : ∀ r (U U' V V' : State), U'.heap = U.heap → V.vm.Alike V'.vm → V'.heap = V.heap → Got a D fV fC A o len r U V → Got a D fV fC A o len r U' V' :=
  fun r U U' V V' h1 hal h2 ⟨e0, D', X, a1, a2, a3, a4, a5, a6, a7, a8, a9, a10, a11⟩ => ⟨e0, D', X, a1.mv hal h2, a2, by rw [h1]; exact a3, a4, by rw [h1]; exact a5.mv hal h2, a6, by rw [hal.findClass]; exact a7, a8, a9, by rw [h1, h2]; exact a10, by rw [h1, h2]; exact a11⟩
namespace New4
def yN : MethodName := ⟨"java/lang/String", "<init>", "([CIILjava/lang/Void;)V"⟩
abbrev yB : ByteArray := jdk_42_method_149_code
theorem d0 : decode yB 0 = .ok (.aload_n 0, 1) := by decide +kernel
theorem d1 : decode yB 1 = .ok (.invokespecial 1, 3) := by decide +kernel
theorem d4 : decode yB 4 = .ok (.iload_n 3, 1) := by decide +kernel
theorem d5 : decode yB 5 = .ok (.ifCond (.ne) 22, 3) := by decide +kernel
theorem d27 : decode yB 27 = .ok (.getstatic 38, 3) := by decide +kernel
theorem d30 : decode yB 30 = .ok (.ifCond (.eq) 28, 3) := by decide +kernel
theorem d33 : decode yB 33 = .ok (.aload_n 1, 1) := by decide +kernel
theorem d34 : decode yB 34 = .ok (.iload_n 2, 1) := by decide +kernel
theorem d35 : decode yB 35 = .ok (.iload_n 3, 1) := by decide +kernel
theorem d36 : decode yB 36 = .ok (.invokestatic 177, 3) := by decide +kernel
theorem d39 : decode yB 39 = .ok (.astore 5, 2) := by decide +kernel
theorem d41 : decode yB 41 = .ok (.aload_n 0, 1) := by decide +kernel
theorem d42 : decode yB 42 = .ok (.aload 5, 2) := by decide +kernel
theorem d44 : decode yB 44 = .ok (.iload_n 3, 1) := by decide +kernel
theorem d45 : decode yB 45 = .ok (.invokestatic 47, 3) := by decide +kernel
theorem d48 : decode yB 48 = .ok (.putfield 15, 3) := by decide +kernel
theorem d51 : decode yB 51 = .ok (.aload_n 0, 1) := by decide +kernel
theorem d52 : decode yB 52 = .ok (.aload 5, 2) := by decide +kernel
theorem d54 : decode yB 54 = .ok (.putfield 9, 3) := by decide +kernel
theorem d57 : decode yB 57 = .ok (.return_, 1) := by decide +kernel
def site : List Cond := [.fieldLink "java/lang/String" 38 "java/lang/String" "COMPACT_STRINGS" "Z", Cmp3.tab, CodL.tab, .laysFinal "java/lang/String" "java/lang/String" "value" "[B", .fieldLink "java/lang/String" 9 "java/lang/String" "value" "[B", .laysFinal "java/lang/String" "java/lang/String" "coder" "B", .fieldLink "java/lang/String" 15 "java/lang/String" "coder" "B"] ++ objW "java/lang/String" 1 ++ staticW "java/lang/String" 177 Cmp3.yN ++ staticW "java/lang/String" 47 CodL.yN
def tab : Cond := tabOf yN yB 6 none site
def P (a : Addr) (D : Cell) (fV fC : Field) (b : Addr) (A : Cell) (z : Int32) (o len : Nat) (args : Array Value) (s : State) : Prop := args = #[.ref a, .ref b, .int (Int32.ofNat o), .int (Int32.ofNat len), .null] ∧ Blank "java/lang/String" a D s ∧ Found "java/lang/String" "value" "[B" fV s ∧ Found "java/lang/String" "coder" "B" fC s ∧ Ch b A s ∧ StaticIs s "java/lang/String" "COMPACT_STRINGS" "Z" (.int z) ∧ ¬ z = 0 ∧ 0 < len ∧ o + len ≤ A.slots.size ∧ len ≤ 536870912 ∧ ∀ i, i < len → ¬ 255 < cv A (o + i)
def E (a : Addr) (D : Cell) (fV fC : Field) (A : Cell) (o len : Nat) (r : Option Value) (s u : State) : Prop := Got a D fV fC A o len r s u
/-- len > 0, no char of the range above 255: a Latin-1 String of their low bytes -/
theorem law (l : Launch) (a : Addr) (D : Cell) (fV fC : Field) (b : Addr) (A : Cell) (z : Int32) (o len : Nat) : Law l yN 5 4 2 35 yB 6 none site (P a D fV fC b A z o len) (E a D fV fC A o len) [⟨a, fC.slot⟩, ⟨a, fV.slot⟩] 1 len := by
  refine Law.of_walk (plainFor_of_name (by decide +kernel)) (by decide +kernel) (by decide +kernel) (by decide) (fun _ _ h => by rw [h.1]; rfl) (fun _ U U' hal hh h => ⟨h.1, h.2.1.mv hal hh, h.2.2.1.al hal, h.2.2.2.1.al hal, h.2.2.2.2.1.mv hal hh, h.2.2.2.2.2.1.there hal hh, h.2.2.2.2.2.2⟩) (fun r U U' V V' h1 hal h2 h => Got.mv r U U' V V' h1 hal h2 h) ?_
  intro p e s m args below meth c s₁ X0 hexec hbytes hml hret hlk hnm hown hh0 W hP
  obtain ⟨rfl, hB, f1, f2, hA, s1, hz, l0, l1, l2, hp⟩ := hP
  have a31 := hA.1.2.2.2
  have c1 : Steps p.tables e below (s₁.setTop (entryFrame m #[.ref a, .ref b, .int (Int32.ofNat o), .int (Int32.ofNat len), .null] 6)) (s₁.setTop (mkF m 0 #[.val (.ref a), .val (.ref b), .val (.int (Int32.ofNat o)), .val (.int (Int32.ofNat len)), .val .null, .unset] [])) := entry rfl
  have c2 : Steps p.tables e below (s₁.setTop (entryFrame m #[.ref a, .ref b, .int (Int32.ofNat o), .int (Int32.ofNat len), .null] 6)) (s₁.setTop (mkF m 1 #[.val (.ref a), .val (.ref b), .val (.int (Int32.ofNat o)), .val (.int (Int32.ofNat len)), .val .null, .unset] [.ref a])) := c1.trans (by
    refine XS.aloadN X0.here hexec rfl (hb hbytes d0) rfl rfl ?_
    exact Steps.refl _)
  obtain ⟨T3, X3, q3, st3⟩ := X0.oinit hexec hown (wks W (objW "java/lang/String" 1)) (g := (mkF m 1 #[.val (.ref a), .val (.ref b), .val (.int (Int32.ofNat o)), .val (.int (Int32.ofNat len)), .val .null, .unset] [.ref a])) rfl (by rw [hml]; rfl) (rest := []) rfl (hb hbytes d1) (W := 0) (by show 2 * 0 + 0 ≤ _; decide) (Nat.le_of_ble_eq_true rfl) (Nat.le_of_ble_eq_true rfl)
  have hh3 := q3.trans hh0
  have c4 : Steps p.tables e below (s₁.setTop (entryFrame m #[.ref a, .ref b, .int (Int32.ofNat o), .int (Int32.ofNat len), .null] 6)) (T3.setTop (mkF m 27 #[.val (.ref a), .val (.ref b), .val (.int (Int32.ofNat o)), .val (.int (Int32.ofNat len)), .val .null, .unset] [])) := (c2.trans (st3 _ (Steps.refl _))).trans (by
    refine XS.iloadN X3.here hexec rfl (hb hbytes d4) rfl ?_
    refine XS.ifYes X3.here hexec rfl (pc0 := 5) rfl (hb hbytes d5) rfl (i0_ne_t (nz32 (by omega) l0)) (by decide) rfl ?_
    exact Steps.refl _)
  obtain ⟨T5, X5, q5, st5⟩ := X3.sget hexec hown (wk W (.fieldLink "java/lang/String" 38 "java/lang/String" "COMPACT_STRINGS" "Z")) s1 (fun _ _ h => by rw [hh3]; exact h) (g := (mkF m 27 #[.val (.ref a), .val (.ref b), .val (.int (Int32.ofNat o)), .val (.int (Int32.ofNat len)), .val .null, .unset] [])) rfl (hb hbytes d27)
  have hh5 := q5.trans hh3
  have c6 : Steps p.tables e below (s₁.setTop (entryFrame m #[.ref a, .ref b, .int (Int32.ofNat o), .int (Int32.ofNat len), .null] 6)) (T5.setTop (mkF m 30 #[.val (.ref a), .val (.ref b), .val (.int (Int32.ofNat o)), .val (.int (Int32.ofNat len)), .val .null, .unset] [.int z])) := c4.trans (st5 _ (Steps.refl _))
  have c7 : Steps p.tables e below (s₁.setTop (entryFrame m #[.ref a, .ref b, .int (Int32.ofNat o), .int (Int32.ofNat len), .null] 6)) (T5.setTop (mkF m 36 #[.val (.ref a), .val (.ref b), .val (.int (Int32.ofNat o)), .val (.int (Int32.ofNat len)), .val .null, .unset] [.int (Int32.ofNat len), .int (Int32.ofNat o), .ref b])) := c6.trans (by
    refine XS.ifNo X5.here hexec rfl (hb hbytes d30) rfl (i0_eq_f hz) ?_
    refine XS.aloadN X5.here hexec rfl (hb hbytes d33) rfl rfl ?_
    refine XS.iloadN X5.here hexec rfl (hb hbytes d34) rfl ?_
    refine XS.iloadN X5.here hexec rfl (hb hbytes d35) rfl ?_
    exact Steps.refl _)
  obtain ⟨v8, T8, X8, E8, g8⟩ := X5.callS hexec (Cmp3.law l b A o len) hown (wks W (staticW "java/lang/String" 177 Cmp3.yN)) (wk W Cmp3.tab) (W := 0) (Nat.le_of_ble_eq_true rfl) (Nat.le_of_ble_eq_true rfl) (Nat.le_refl _) (by show 0 + len ≤ len; omega) (g := (mkF m 36 #[.val (.ref a), .val (.ref b), .val (.int (Int32.ofNat o)), .val (.int (Int32.ofNat len)), .val .null, .unset] [.int (Int32.ofNat len), .int (Int32.ofNat o), .ref b])) rfl (by rw [hml]; rfl) c7 (argsL := [.ref b, .int (Int32.ofNat o), .int (Int32.ofNat len)]) (rest := []) rfl rfl (by show 2 * 0 + 0 ≤ _; decide) (hb hbytes d36) (⟨rfl, hA.mv X5.warmed.alike hh5, l1, l2, hp⟩)
  obtain ⟨e8, z8⟩ := E8
  obtain ⟨rfl, N, n1, n2, n3, n4, n5, n6⟩ := NewArr.mv _ T5 s _ _ hh5.symm (Vm.Alike.refl _) rfl e8
  rw [hh5] at z8
  have hB1 := hB.keep X8.warmed.alike (n6 _ _ hB.1)
  have hne : s.heap.size ≠ a := (Nat.ne_of_lt (Array.getElem?_eq_some_iff.mp hB.1).1).symm
  have c9 : Steps p.tables e below (s₁.setTop (entryFrame m #[.ref a, .ref b, .int (Int32.ofNat o), .int (Int32.ofNat len), .null] 6)) (T8.setTop (mkF m 39 #[.val (.ref a), .val (.ref b), .val (.int (Int32.ofNat o)), .val (.int (Int32.ofNat len)), .val .null, .unset] [.ref s.heap.size])) := g8
  have c10 : Steps p.tables e below (s₁.setTop (entryFrame m #[.ref a, .ref b, .int (Int32.ofNat o), .int (Int32.ofNat len), .null] 6)) (T8.setTop (mkF m 45 #[.val (.ref a), .val (.ref b), .val (.int (Int32.ofNat o)), .val (.int (Int32.ofNat len)), .val .null, .val (.ref s.heap.size)] [.int (Int32.ofNat N.slots.size), .ref s.heap.size, .ref a])) := by
    have hc : Steps p.tables e below (s₁.setTop (entryFrame m #[.ref a, .ref b, .int (Int32.ofNat o), .int (Int32.ofNat len), .null] 6)) (T8.setTop (mkF m 45 #[.val (.ref a), .val (.ref b), .val (.int (Int32.ofNat o)), .val (.int (Int32.ofNat len)), .val .null, .val (.ref s.heap.size)] [.int (Int32.ofNat len), .ref s.heap.size, .ref a])) := c9.trans (by
      refine XS.astore X8.here hexec rfl (hb hbytes d39) rfl rfl rfl ?_
      refine XS.aloadN X8.here hexec rfl (hb hbytes d41) rfl rfl ?_
      refine XS.aload X8.here hexec rfl (hb hbytes d42) rfl rfl ?_
      refine XS.iloadN X8.here hexec rfl (hb hbytes d44) rfl ?_
      exact Steps.refl _)
    rw [n4]; exact hc
  obtain ⟨v11, T11, X11, E11, g11⟩ := X8.callS hexec (CodL.law l s.heap.size N) hown (wks W (staticW "java/lang/String" 47 CodL.yN)) (wk W CodL.tab) (W := 1) (Nat.le_of_ble_eq_true rfl) (Nat.le_of_ble_eq_true rfl) (Nat.le_refl _) (by show 0 + len + 0 ≤ len; omega) (g := (mkF m 45 #[.val (.ref a), .val (.ref b), .val (.int (Int32.ofNat o)), .val (.int (Int32.ofNat len)), .val .null, .val (.ref s.heap.size)] [.int (Int32.ofNat N.slots.size), .ref s.heap.size, .ref a])) rfl (by rw [hml]; rfl) c10 (argsL := [.ref s.heap.size, .int (Int32.ofNat N.slots.size)]) (rest := [.ref a]) rfl rfl (by show 2 * 0 + (1 + 0) ≤ _; decide) (hb hbytes d45) (⟨rfl, n1⟩)
  obtain ⟨rfl, q11⟩ := E11
  have hB11 := hB1.mv (X8.warmed.alike.symm.trans X11.warmed.alike) q11
  have c12 : Steps p.tables e below (s₁.setTop (entryFrame m #[.ref a, .ref b, .int (Int32.ofNat o), .int (Int32.ofNat len), .null] 6)) (T11.setTop (mkF m 48 #[.val (.ref a), .val (.ref b), .val (.int (Int32.ofNat o)), .val (.int (Int32.ofNat len)), .val .null, .val (.ref s.heap.size)] [.int 0, .ref a])) := g11
  obtain ⟨T13, X13, p13, bl13, sl13, st13⟩ := X11.finit hexec hown (wk W (.fieldLink "java/lang/String" 15 "java/lang/String" "coder" "B")) (Or.inr ⟨_, (wk W (.laysFinal "java/lang/String" "java/lang/String" "coder" "B"))⟩) (Or.inl ⟨rfl, hnm⟩) f2 (Or.inl rfl) hB11 (t := .byte) (by decide +kernel) rfl (g := (mkF m 48 #[.val (.ref a), .val (.ref b), .val (.int (Int32.ofNat o)), .val (.int (Int32.ofNat len)), .val .null, .val (.ref s.heap.size)] [.int 0, .ref a])) rfl (rest := []) rfl (hb hbytes d48)
  have c14 : Steps p.tables e below (s₁.setTop (entryFrame m #[.ref a, .ref b, .int (Int32.ofNat o), .int (Int32.ofNat len), .null] 6)) (T13.setTop (mkF m 54 #[.val (.ref a), .val (.ref b), .val (.int (Int32.ofNat o)), .val (.int (Int32.ofNat len)), .val .null, .val (.ref s.heap.size)] [.ref s.heap.size, .ref a])) := (c12.trans (st13 _ (Steps.refl _))).trans (by
    refine XS.aloadN X13.here hexec rfl (hb hbytes d51) rfl rfl ?_
    refine XS.aload X13.here hexec rfl (hb hbytes d52) rfl rfl ?_
    exact Steps.refl _)
  obtain ⟨T15, X15, p15, bl15, sl15, st15⟩ := X13.finit hexec hown (wk W (.fieldLink "java/lang/String" 9 "java/lang/String" "value" "[B")) (Or.inr ⟨_, (wk W (.laysFinal "java/lang/String" "java/lang/String" "value" "[B"))⟩) (Or.inl ⟨rfl, hnm⟩) f1 (Or.inl rfl) bl13 (t := (.array .byte)) (by decide +kernel) rfl (g := (mkF m 54 #[.val (.ref a), .val (.ref b), .val (.int (Int32.ofNat o)), .val (.int (Int32.ofNat len)), .val .null, .val (.ref s.heap.size)] [.ref s.heap.size, .ref a])) rfl (rest := []) rfl (hb hbytes d54)
  have c16 : Steps p.tables e below (s₁.setTop (entryFrame m #[.ref a, .ref b, .int (Int32.ofNat o), .int (Int32.ofNat len), .null] 6)) (T15.setTop (mkF m 57 #[.val (.ref a), .val (.ref b), .val (.int (Int32.ofNat o)), .val (.int (Int32.ofNat len)), .val .null, .val (.ref s.heap.size)] [])) := c14.trans (st15 _ (Steps.refl _))
  have ap := apart (Or.inr ⟨_, (wk W (.laysFinal "java/lang/String" "java/lang/String" "value" "[B"))⟩) (Or.inr ⟨_, (wk W (.laysFinal "java/lang/String" "java/lang/String" "coder" "B"))⟩) f1 f2 (t₁ := .array .byte) (t₂ := .byte) (by decide +kernel) (by decide +kernel) (by decide)
  have al := X8.warmed.alike.symm.trans X15.warmed.alike
  have n7 : T11.heap[s.heap.size]? = some N := by rw [q11]; exact n1.1
  exact ⟨T15, none, _, _, _, X15, by simp, rfl, by omega, (fun _ => rfl), ⟨rfl, _, N, bl15, ((Same.refl D _).set _ (by simp)).set _ (by simp), sl15, (Cell.slots_setSlot_ne _ ap).trans sl13, n1.keep al (p15.other hne (p13.other hne n7)), n2, by rw [al.findClass]; exact n3, n4, n5, fun y c h1 h2 => p15.other h1 (p13.other h1 (by rw [q11]; exact n6 y c h2)), by rw [p15.2.2, p13.2.2, q11]; exact z8⟩, fun fs hl => c16.trans (X15.returnOut hexec hret (hb hbytes d57) hl)⟩
end New4
namespace New1
def yN : MethodName := ⟨"java/lang/String", "<init>", "([C)V"⟩
abbrev yB : ByteArray := jdk_42_method_3_code
theorem d0 : decode yB 0 = .ok (.aload_n 0, 1) := by decide +kernel
theorem d1 : decode yB 1 = .ok (.aload_n 1, 1) := by decide +kernel
theorem d2 : decode yB 2 = .ok (.iconst 0, 1) := by decide +kernel
theorem d3 : decode yB 3 = .ok (.aload_n 1, 1) := by decide +kernel
theorem d4 : decode yB 4 = .ok (.arraylength, 1) := by decide +kernel
theorem d5 : decode yB 5 = .ok (.aconst_null, 1) := by decide +kernel
theorem d6 : decode yB 6 = .ok (.invokespecial 27, 3) := by decide +kernel
theorem d9 : decode yB 9 = .ok (.return_, 1) := by decide +kernel
def site : List Cond := [New4.tab] ++ initW "java/lang/String" 27 New4.yN
def tab : Cond := tabOf yN yB 2 none site
def P (a : Addr) (D : Cell) (fV fC : Field) (b : Addr) (A : Cell) (z : Int32) (args : Array Value) (s : State) : Prop := args = #[.ref a, .ref b] ∧ Blank "java/lang/String" a D s ∧ Found "java/lang/String" "value" "[B" fV s ∧ Found "java/lang/String" "coder" "B" fC s ∧ Ch b A s ∧ StaticIs s "java/lang/String" "COMPACT_STRINGS" "Z" (.int z) ∧ ¬ z = 0 ∧ 0 < A.slots.size ∧ A.slots.size ≤ 536870912 ∧ ∀ i, i < A.slots.size → ¬ 255 < cv A i
def E (a : Addr) (D : Cell) (fV fC : Field) (A : Cell) (r : Option Value) (s u : State) : Prop := Got a D fV fC A 0 A.slots.size r s u
/-- new String(chars), not empty, no char above 255: a Latin-1 String of their low bytes -/
theorem law (l : Launch) (a : Addr) (D : Cell) (fV fC : Field) (b : Addr) (A : Cell) (z : Int32) : Law l yN 2 1 3 52 yB 2 none site (P a D fV fC b A z) (E a D fV fC A) [⟨a, fC.slot⟩, ⟨a, fV.slot⟩] 1 A.slots.size := by
  refine Law.of_walk (plainFor_of_name (by decide +kernel)) (by decide +kernel) (by decide +kernel) (by decide) (fun _ _ h => by rw [h.1]; rfl) (fun _ U U' hal hh h => ⟨h.1, h.2.1.mv hal hh, h.2.2.1.al hal, h.2.2.2.1.al hal, h.2.2.2.2.1.mv hal hh, h.2.2.2.2.2.1.there hal hh, h.2.2.2.2.2.2⟩) (fun r U U' V V' h1 hal h2 h => Got.mv r U U' V V' h1 hal h2 h) ?_
  intro p e s m args below meth c s₁ X0 hexec hbytes hml hret hlk hnm hown hh0 W hP
  obtain ⟨rfl, hB, f1, f2, hA, s1, hz, l0, l2, hp⟩ := hP
  have c1 : Steps p.tables e below (s₁.setTop (entryFrame m #[.ref a, .ref b] 2)) (s₁.setTop (mkF m 0 #[.val (.ref a), .val (.ref b)] [])) := entry rfl
  have c2 : Steps p.tables e below (s₁.setTop (entryFrame m #[.ref a, .ref b] 2)) (s₁.setTop (mkF m 6 #[.val (.ref a), .val (.ref b)] [.null, .int (Int32.ofNat A.slots.size), .int 0, .ref b, .ref a])) := c1.trans (by
    refine XS.aloadN X0.here hexec rfl (hb hbytes d0) rfl rfl ?_
    refine XS.aloadN X0.here hexec rfl (hb hbytes d1) rfl rfl ?_
    refine iconstV X0.here hexec rfl 0 (hb hbytes d2) (by decide) ?_
    refine XS.aloadN X0.here hexec rfl (hb hbytes d3) rfl rfl ?_
    refine X0.alen hexec (hA.1.mv X0.warmed.alike hh0) rfl rfl (hb hbytes d4) ?_
    refine XS.aconstNull X0.here hexec rfl (hb hbytes d5) ?_
    exact Steps.refl _)
  obtain ⟨v3, T3, X3, E3, g3⟩ := X0.callN hexec (New4.law l a D fV fC b A z 0 A.slots.size) rfl hown (wks W (initW "java/lang/String" 27 New4.yN)) (W New4.tab (by simp only [site, List.mem_cons, List.mem_append, true_or, or_true])) (W := 0) (Nat.le_of_ble_eq_true rfl) (Nat.le_of_ble_eq_true rfl) (Nat.le_refl _) (by show 0 + A.slots.size ≤ A.slots.size; omega) (g := (mkF m 6 #[.val (.ref a), .val (.ref b)] [.null, .int (Int32.ofNat A.slots.size), .int (Int32.ofNat 0), .ref b, .ref a])) rfl (by rw [hml]; rfl) c2 (argsL := [.ref b, .int (Int32.ofNat 0), .int (Int32.ofNat A.slots.size), .null]) (rest := []) rfl rfl (by show 2 * 0 + 0 ≤ _; decide) (hb hbytes d6) (⟨rfl, hB.mv X0.warmed.alike hh0, f1.al X0.warmed.alike, f2.al X0.warmed.alike, hA.mv X0.warmed.alike hh0, s1.there X0.warmed.alike hh0, hz, l0, by omega, l2, fun i hi => by rw [Nat.zero_add]; exact hp i hi⟩)
  have e0 := Got.mv _ s₁ s _ _ hh0.symm (Vm.Alike.refl _) rfl E3
  obtain rfl := e0.1
  have c4 : Steps p.tables e below (s₁.setTop (entryFrame m #[.ref a, .ref b] 2)) (T3.setTop (mkF m 9 #[.val (.ref a), .val (.ref b)] [])) := g3
  exact ⟨T3, none, _, _, _, X3, by simp, rfl, by omega, (fun _ => rfl), e0, fun fs hl => c4.trans (X3.returnOut hexec hret (hb hbytes d9) hl)⟩
theorem pays {l : Launch} {R : Room} {p : Program} {e : Env} {below : List Frame} {s : State} {sargs : Array Value} {len W : Nat} (a : Addr) (D : Cell) (fV fC : Field) (b : Addr) (A : Cell) (z : Int32) (htab : tab.before sargs s = true) (hfr : 4 ≤ R.frames) (hlo : W + 65 ≤ R.locals) :
    Back l R p e below s sargs yN len W (fun A₁ a₁ => A₁.cells + 1 ≤ R.cells ∧ A₁.slots + A.slots.size ≤ R.slots ∧ P a D fV fC b A z a₁ A₁.U) (fun A₁ _ v₁ B₁ => E a D fV fC A v₁ A₁.U B₁.U ∧ B₁.locs = A₁.locs ++ [⟨a, fC.slot⟩, ⟨a, fV.slot⟩] ∧ B₁.cells = A₁.cells + 1 ∧ B₁.slots = A₁.slots + A.slots.size) :=
  (law l a D fV fC b A z).pays htab hfr (by omega)
end New1
end StrChars
namespace StrChars.Road
open Jvm Sem ClassFile Op Lib Jvm.Stand Jvm.Free Jvm.Free.XT
open Jvm.Lib.Cold (StaticIs)
abbrev ST : String := "java/lang/String"
/-- every table word that New1's law asks, flat -/
abbrev words : List Jvm.Cond := [.code New1.yN New1.yB 2 none, .initialized ST, .methodLink ST 27 New4.yN, .instanceMethod New4.yN,
  .code New4.yN New4.yB 6 none, .fieldLink ST 38 ST "COMPACT_STRINGS" "Z", .laysFinal ST ST "value" "[B", .fieldLink ST 9 ST "value" "[B", .laysFinal ST ST "coder" "B", .fieldLink ST 15 ST "coder" "B",
  .methodLink ST 1 Lib.objectInit, .instanceMethod Lib.objectInit, .code Lib.objectInit ⟨#[0xb1]⟩ 1 none, .methodLink ST 177 Cmp3.yN, .static Cmp3.yN, .methodLink ST 47 CodL.yN, .static CodL.yN,
  .code Cmp3.yN Cmp3.yB 6 (some (.array .byte)), .initialized U16, .arrayClass .byte, .methodLink U16 115 Cmp5.yN, .static Cmp5.yN, .code Cmp5.yN Cmp5.yB 7 (some .int), .code CodL.yN CodL.yB 2 (some .byte)]
theorem tab_of {a : Array Value} {s : State} (h : ∀ w ∈ words, w.before a s = true) : New1.tab.before a s = true := by
  have h5 : Cmp5.tab.before a s = true := unparts (wk h (.code Cmp5.yN Cmp5.yB 7 (some .int))) (wks h (.initialized Cmp5.yN.cls :: Cmp5.site))
  have hc : CodL.tab.before a s = true := unparts (wk h (.code CodL.yN CodL.yB 2 (some .byte))) (wks h (.initialized CodL.yN.cls :: CodL.site))
  have q5 : ∀ w ∈ Cmp5.tab :: words, w.before a s = true := fun w hw => (List.mem_cons.mp hw).elim (fun e => e ▸ h5) (h w)
  have h3 : Cmp3.tab.before a s = true := unparts (wk q5 (.code Cmp3.yN Cmp3.yB 6 (some (.array .byte)))) (wks q5 (.initialized Cmp3.yN.cls :: Cmp3.site))
  have q3 : ∀ w ∈ Cmp3.tab :: CodL.tab :: words, w.before a s = true := fun w hw => (List.mem_cons.mp hw).elim (fun e => e ▸ h3) fun hw => (List.mem_cons.mp hw).elim (fun e => e ▸ hc) (h w)
  have h4 : New4.tab.before a s = true := unparts (wk q3 (.code New4.yN New4.yB 6 none)) (wks q3 (.initialized New4.yN.cls :: New4.site))
  have q4 : ∀ w ∈ New4.tab :: words, w.before a s = true := fun w hw => (List.mem_cons.mp hw).elim (fun e => e ▸ h4) (h w)
  exact unparts (wk q4 (.code New1.yN New1.yB 2 none)) (wks q4 (.initialized New1.yN.cls :: New1.site))
/-- the words ride from the start Z to the walk's own state -/
theorem moved {Z s : State} {a0 args : Array Value} (hZ : Z.Warmed39 s.vm) (hw : ∀ d ∈ words, d.before a0 Z = true) : ∀ d ∈ words, d.before args s = true := fun d hd => by
  have q := hw d hd
  have t : ∀ d ∈ words, d = .arrayClass .byte ∨ (d.onTables && d.keepsFace) = true := by decide +kernel
  rcases t d hd with rfl | t
  · exact RoadKit.mvA hZ q
  · exact RoadKit.mv hZ q t
/-- WHAT COMES BACK, over the tables of the start Z: h the heap at the call, h' behind it -/
def Q (Z : State) (x : Addr) (A : Cell) (h : Heap) (v : Option Value) (h' : Heap) (L : List Loc) : Prop := v = none ∧ (∀ y ∈ L, y.base = x) ∧ RoadKit.Keep h h' [x] ∧ h'.size = h.size + 1 ∧ RoadKit.Exa Z h' x ST ∧ RoadKit.Fld Z h' x ST "value" "[B" (.ref h.size) ∧ RoadKit.Fld Z h' x ST "coder" "B" (.int 0) ∧
  (∃ V : Cell, RoadKit.Arr Z h' h.size V .byte ∧ V.vm = .none ∧ Z.vm.findClass "[B" = some V.cls ∧ V.slots.size = A.slots.size ∧ ∀ j, j < A.slots.size → V.slots[j]? = some (.int (lo8 (cv A j)))) ∧
  ∀ (O n d : String) (w : Value), RoadKit.Fld Z h x O n d w → RoadKit.slotOf Z O n d ≠ RoadKit.slotOf Z ST "value" "[B" → RoadKit.slotOf Z O n d ≠ RoadKit.slotOf Z ST "coder" "B" → RoadKit.Fld Z h' x O n d w
/-- **new String(chars) AT A CALL, IN THE ROAD'S FORM**: for specialBack behind newO: x the fresh String, b the char[] with the cell A -/
theorem back {p : Program} {l : Launch} {e : Env} {R : Room} {s : State} {args : Array Value} {below : List Frame} {len W : Nat} {Z : State} {a0 : Array Value} {h : Heap} (hZ : Z.Warmed39 s.vm) (hw : ∀ d ∈ words, d.before a0 Z = true) {kI : Nat} (wi : (Jvm.Cond.instantiable ST kI).before a0 Z = true)
    {x b : Addr} {A : Cell} {z : Int32} {v0 c0 : Value} (E : RoadKit.Exa Z h x ST) (V : RoadKit.Fld Z h x ST "value" "[B" v0) (C : RoadKit.Fld Z h x ST "coder" "B" c0) (K : RoadKit.Arr Z h b A .char) (hty : Typed .char A) (S : RoadKit.Sta Z h ST "COMPACT_STRINGS" "Z" (.int z)) (hz : ¬ z = 0)
    (l0 : 0 < A.slots.size) (l2 : A.slots.size ≤ 536870912) (hp : ∀ i, i < A.slots.size → ¬ 255 < cv A i) (hfr : 4 ≤ R.frames) (hlo : W + 65 ≤ R.locals) :
    Back l R p e below s args New1.yN len W (fun P a => a = #[.ref x, .ref b] ∧ P.U.heap = h ∧ P.cells + 1 ≤ R.cells ∧ P.slots + A.slots.size ≤ R.slots)
      (fun P _ v B => ∃ L, Q Z x A h v B.U.heap L ∧ B.locs = P.locs ++ L ∧ B.cells = P.cells + 1 ∧ B.slots = P.slots + A.slots.size) := by
  intro m meth c P g ig mk a X hg hsize hdg hW hn hp'
  obtain ⟨rfl, rfl, r1, r2⟩ := hp'
  have al : Z.vm.Alike P.U.vm := hZ.alike.trans X.warmed.alike
  obtain ⟨D, cfV, kV, iV, fV, hD, gV, stV, knV, obV, asV, slV⟩ := id V
  obtain ⟨D', cfC, kC, iC, fC, hD', gC, stC, -, -, asC, slC⟩ := id C
  cases hD.symm.trans hD'
  obtain ⟨D2, kD, e1, e2, e3, e4, e5⟩ := id E
  cases hD.symm.trans e1
  obtain ⟨c2, k2, i1, i2, i3, -⟩ := Cond.instantiable_spec wi
  cases e2.symm.trans i1
  cases e3.symm.trans i2
  obtain ⟨kU, u1, u2⟩ := al.2.2 _ _ e3
  have hB : Blank ST x D P.U := ⟨hD, ⟨knV, fun q hq => by rw [hq] at obV; cases obV⟩, by rw [al.findClass]; exact e2, kU, u1, by rw [u2]; exact i3, by rw [u2]; exact e5 i3⟩
  have F1 : Found ST "value" "[B" fV P.U := ⟨SBG.found_only al ⟨cfV, kV, iV, gV⟩, stV⟩
  have F2 : Found ST "coder" "B" fC P.U := ⟨SBG.found_only al ⟨cfC, kC, iC, gC⟩, stC⟩
  have hA : Ch b A P.U := ⟨⟨K.1, State.isArrayOf_alike al K.2.1, K.2.2, by omega⟩, hty⟩
  have hS : StaticIs P.U ST "COMPACT_STRINGS" "Z" (.int z) := by
    obtain ⟨cfS, iS, kS, fS, st, cS, t1, t2, t3, t4, t5, t6, t7⟩ := S
    exact StaticIs.there (s := { Z with heap := P.U.heap }) ⟨cfS, iS, kS, fS, st, cS, t1, t2, t3, t4, t5, (fun q => by rw [q] at t6; cases t6), t7⟩ al rfl
  obtain ⟨v, B, X', ⟨⟨hv, E', V', q1, q2, q3, q4, q5, q6, q7, q8, q9, q10, q11⟩, hl, hc, hs⟩, st⟩ := New1.pays x D fV fC b A z (tab_of (moved hZ hw)) hfr hlo m meth c P g ig mk _ X hg hsize hdg hW hn ⟨r1, r2, rfl, hB, F1, F2, hA, hS, hz, l0, l2, hp⟩
  have al' : Z.vm.Alike B.U.vm := hZ.alike.trans X'.warmed.alike
  have hsz : E'.slots.size = D.slots.size := by
    obtain ⟨-, -, -, kB, w1, w2, w3⟩ := q1
    obtain ⟨kB', y1, y2⟩ := al'.2.2 _ _ e3
    rw [q2.2.1] at w1
    cases w1.symm.trans y1
    rw [w3, e5 i3, y2]
  refine ⟨v, B, X', ⟨_, ⟨hv, ?_, ⟨by omega, fun y cy hy hn' => q10 y cy (by simpa using hn') hy, fun y cy hy => ?_⟩, q11, ⟨E', _, q1.1, by rw [q2.2.1]; exact e2, by rw [q2.2.1]; exact e3, by rw [q2.1]; exact obV, fun _ => by rw [hsz]; exact e5 i3⟩,
    ⟨E', cfV, kV, iV, fV, q1.1, gV, stV, by rw [q2.1]; exact knV, by rw [q2.1]; exact obV, by rw [q2.2.1]; exact asV, q3⟩, ⟨E', cfC, kC, iC, fC, q1.1, gC, stC, by rw [q2.1]; exact knV, by rw [q2.1]; exact obV, by rw [q2.2.1]; exact asC, q4⟩,
    ⟨V', ⟨q5.1, State.isArrayOf_alike al'.symm q5.2.1, q5.2.2.1⟩, q6, by rw [← al'.findClass]; exact q7, q8, fun j hj => by have := q9 j hj; rwa [Nat.zero_add] at this⟩, fun O n d w F n1 n2 => ?_⟩, hl, hc, hs⟩, st⟩
  · intro y hy
    simp only [List.mem_cons, List.not_mem_nil, or_false] at hy
    rcases hy with rfl | rfl <;> rfl
  · by_cases q : y = x
    · subst q
      cases hD.symm.trans hy
      exact ⟨E', q1.1, q2.2.1, q2.1, hsz⟩
    · exact ⟨cy, q10 y cy q hy, rfl, rfl, rfl⟩
  · obtain ⟨D3, cf, k, i, f, g1, g2, g3, g4, g5, g6, g7⟩ := F
    cases hD.symm.trans g1
    simp only [RoadKit.slotOf, g2, gV, gC, Option.map_some, Option.getD_some] at n1 n2
    exact ⟨E', cf, k, i, f, q1.1, g2, g3, by rw [q2.1]; exact g4, by rw [q2.1]; exact g5, by rw [q2.2.1]; exact g6, by rw [q2.2.2 f.slot (by simp [n1, n2])]; exact g7⟩
end StrChars.Road
namespace StrChars.Road
open Jvm Sem ClassFile Op Lib Jvm.Stand Jvm.Free Jvm.Free.XT
/-- WHAT COMES BACK, the byte[] as a list of values -/
def QA (Z : State) (x : Addr) (zn : Int32) (cs : List Int32) (h : Heap) (v : Option Value) (h' : Heap) (L : List Loc) : Prop := v = none ∧ (∀ y ∈ L, y.base = x) ∧ RoadKit.Keep h h' [x] ∧ h'.size = h.size + 1 ∧ RoadKit.Exa Z h' x ST ∧ RoadKit.Fld Z h' x ST "value" "[B" (.ref h.size) ∧ RoadKit.Fld Z h' x ST "coder" "B" (.int 0) ∧
  (∃ kb, Z.vm.findClass "[B" = some kb ∧ RoadKit.Arv Z h' h.size kb .byte zn (cs.map fun c => .int (lo8 c)) (.int 0)) ∧
  ∀ (O n d : String) (w : Value), RoadKit.Fld Z h x O n d w → RoadKit.slotOf Z O n d ≠ RoadKit.slotOf Z ST "value" "[B" → RoadKit.slotOf Z O n d ≠ RoadKit.slotOf Z ST "coder" "B" → RoadKit.Fld Z h' x O n d w
/-- **new String(chars) AT A CALL, THE ARRAYS AS LISTS**: the char[] at b holds cs, not empty, no char above 255 -/
theorem backArv {p : Program} {l : Launch} {e : Env} {R : Room} {s : State} {args : Array Value} {below : List Frame} {len W : Nat} {Z : State} {a0 : Array Value} {h : Heap} (hZ : Z.Warmed39 s.vm) (hw : ∀ d ∈ words, d.before a0 Z = true) {kI : Nat} (wi : (Jvm.Cond.instantiable ST kI).before a0 Z = true)
    {x b : Addr} {k : ClassId} {zn z : Int32} {cs : List Int32} {dv v0 c0 : Value} (E : RoadKit.Exa Z h x ST) (V : RoadKit.Fld Z h x ST "value" "[B" v0) (C : RoadKit.Fld Z h x ST "coder" "B" c0) (K : RoadKit.Arv Z h b k .char zn (cs.map Value.int) dv) (S : RoadKit.Sta Z h ST "COMPACT_STRINGS" "Z" (.int z)) (hz : ¬ z = 0)
    (hlen : zn.toNatClampNeg = cs.length) (h0 : 0 < cs.length) (hbig : cs.length ≤ 536870912) (hall : ∀ c ∈ cs, ¬ 255 < c) (hfr : 4 ≤ R.frames) (hlo : W + 65 ≤ R.locals) :
    Back l R p e below s args New1.yN len W (fun P a => a = #[.ref x, .ref b] ∧ P.U.heap = h ∧ P.cells + 1 ≤ R.cells ∧ P.slots + cs.length ≤ R.slots)
      (fun P _ v B => ∃ L, QA Z x zn cs h v B.U.heap L ∧ B.locs = P.locs ++ L ∧ B.cells = P.cells + 1 ∧ B.slots = P.slots + cs.length) := by
  obtain ⟨A, K1, K2, K3, K4, K5, K6⟩ := K
  have e : A.slots.size = cs.length := K3.trans hlen
  have hat : ∀ (i : Nat) (hi : i < cs.length), A.slots[i]? = some (.int cs[i]) := fun i hi => by rw [K5 i (by omega)]; simp [List.getD_eq_getElem?_getD, hi]
  have hcv : ∀ (i : Nat) (hi : i < cs.length), cv A i = cs[i] := fun i hi => by unfold cv; rw [hat i hi]
  have hty : Typed .char A := fun i v hv => by
    have hi : i < A.slots.size := (Array.getElem?_eq_some_iff.mp hv).1
    have q := K5 i hi
    rw [hv] at q
    rw [Option.some.inj q]
    exact K6 i hi
  refine Back.mono (back hZ hw wi E V C K1 hty S hz (by omega) (by omega) (fun i hi => by rw [hcv i (by omega)]; exact hall _ (List.getElem_mem _)) hfr hlo) (fun P a hp => ⟨hp.1, hp.2.1, hp.2.2.1, by rw [e]; exact hp.2.2.2⟩) (fun P a v B hp hq => ?_)
  obtain ⟨L, ⟨q1, q2, q3, q4, q5, q6, q7, ⟨V', v1, v2, v3, v4, v5⟩, q9⟩, hl, hc, hs⟩ := hq
  refine ⟨L, ⟨q1, q2, q3, q4, q5, q6, q7, ⟨V'.cls, v3, V', v1, rfl, by rw [v4, e, hlen], K4, fun i hi => ?_, fun i hi => ?_⟩, q9⟩, hl, hc, by rw [hs, e]⟩
  · have hi' : i < cs.length := by omega
    rw [v5 i (by omega), hcv i hi']; simp [List.getD_eq_getElem?_getD, hi']
  · have hi' : i < cs.length := by omega
    simp only [List.getD_eq_getElem?_getD, List.getElem?_map, List.getElem?_eq_getElem hi', Option.map_some, Option.getD_some]
    exact fits_lo8 _
end StrChars.Road
namespace StrChars.Road
open Jvm Sem ClassFile Op Lib Jvm.Stand Jvm.Free Jvm.Free.XT
/-- WHAT COMES BACK, in the writer's own shape -/
def QV (Z : State) (x : Addr) (N : Int32) (bs : List Int32) (h : Heap) (n0 : Nat) (v : Option Value) (h' : Heap) (L : List Loc) : Prop := v = none ∧ RoadKit.Fr n0 L ∧ RoadKit.Keep h h' [x] ∧ RoadKit.Exa Z h' x ST ∧ RoadKit.Fld Z h' x ST "coder" "B" (.int 0) ∧
  ∃ (t : Addr) (kb : ClassId), n0 ≤ t ∧ h.size ≤ t ∧ ¬ t = x ∧ RoadKit.Fld Z h' x ST "value" "[B" (.ref t) ∧ RoadKit.Arv Z h' t kb .byte N (bs.map Value.int) (.int 0)
/-- **new String(chars) AT A CALL, FOR THE WRITER**: a char[] of n known ints, each 0 to 255 -/
theorem backV {p : Program} {l : Launch} {e : Env} {R : Room} {s : State} {args : Array Value} {below : List Frame} {len W : Nat} {Z : State} {a0 : Array Value} {h : Heap} (hZ : Z.Warmed39 s.vm) (hw : ∀ d ∈ words, d.before a0 Z = true) {kI : Nat} (wi : (Jvm.Cond.instantiable ST kI).before a0 Z = true)
    {x b : Addr} {kC : ClassId} {cs bs : List Int32} {d v0 c0 : Value} {z N : Int32} {n n0 : Nat} (hx0 : n0 ≤ x) (hh0 : n0 ≤ h.size) (E : RoadKit.Exa Z h x ST) (V : RoadKit.Fld Z h x ST "value" "[B" v0) (C : RoadKit.Fld Z h x ST "coder" "B" c0) (K : RoadKit.Arv Z h b kC .char N (cs.map Value.int) d) (S : RoadKit.Sta Z h ST "COMPACT_STRINGS" "Z" (.int z)) (hz : ¬ z = 0)
    (hn : cs.length = n) (hN : N = Int32.ofNat n) (l0 : 0 < n) (l2 : n ≤ 4000) (hp : ∀ c ∈ cs, ¬ c < 0 ∧ ¬ (255 : Int32) < c) (hb : bs = cs.map (fun c => c.toInt8.toInt32)) (hfr : 4 ≤ R.frames) (hlo : W + 65 ≤ R.locals) :
    Back l R p e below s args (⟨"java/lang/String", "<init>", "([C)V"⟩ : MethodName) len W (fun P a => a = #[.ref x, .ref b] ∧ P.U.heap = h ∧ P.cells + 1 ≤ R.cells ∧ P.slots + n ≤ R.slots)
      (fun P _ v B => ∃ L, QV Z x N bs h n0 v B.U.heap L ∧ B.locs = P.locs ++ L ∧ B.cells = P.cells + 1 ∧ B.slots = P.slots + n) := by
  subst hn hN hb
  refine Back.mono (backArv hZ hw wi E V C K S hz (n32 (by omega)) l0 (by omega) (fun c hc => (hp c hc).2) hfr hlo) (fun P a hp => hp) (fun P a v B hp hq => ?_)
  obtain ⟨L, ⟨q1, q2, q3, q4, q5, q6, q7, ⟨kb, v1, v2⟩, q9⟩, hl, hc, hs⟩ := hq
  exact ⟨L, ⟨q1, fun y hy => by rw [q2 y hy]; exact hx0, q3, q5, q7, h.size, kb, hh0, Nat.le_refl _, Nat.ne_of_gt E.lt, q6, by rw [List.map_map]; exact v2⟩, hl, hc, hs⟩
end StrChars.Road
end Jvm.Pilot.@@N@@

namespace Jvm.Pilot.@@N@@
open Jvm Jvm.ClassFile Sem Op Lib Jvm.Free Jvm.Stand Jvm.LawKit Jvm.RoadKit Bundle Jvm.Pilot.@@N@@.Jvm.D
/-! the walk in continuation form: from T with the frame g on top the run comes to an end that says Q -/
def Go (p : Program) (e : Env) (below : List Frame) (s : State) (C S : Nat) (Q : Option Value → Heap → List Loc → Prop) (T : State) (g : JFrame) : Prop :=
  ∃ s₂ o, Steps p.tables e below (T.setTop g) s₂ ∧ s₂.status = .running ∧ Ended s₂ below o ∧ ∃ v L, o = .returned v ∧ Q v s₂.heap L ∧ FrameEnd s o s₂ L C S
section GoKit
variable {p : Program} {l : Launch} {e : Env} {R : Room} {s : State} {m : MethodId} {args : Array Value} {below : List Frame} {meth : Method} {c : Code} {T T' : State} {g g' : JFrame} {locs : List Loc} {cells slots C S : Nat} {Q : Option Value → Heap → List Loc → Prop} {Z : State} {h h' : Heap} {n0 : Nat}
theorem Go.st (st : ∀ t, Steps p.tables e below (T'.setTop g') t → Steps p.tables e below (T.setTop g) t) (k : Go p e below s C S Q T' g') : Go p e below s C S Q T g := by
  obtain ⟨s₂, o, h1, h2⟩ := k; exact ⟨s₂, o, st _ h1, h2⟩
theorem Go.tr (st : Steps p.tables e below (T.setTop g) (T'.setTop g')) (k : Go p e below s C S Q T' g') : Go p e below s C S Q T g := by
  obtain ⟨s₂, o, h1, h2⟩ := k; exact ⟨s₂, o, st.trans h1, h2⟩
theorem Go.eq (q : g = g') (k : Go p e below s C S Q T g') : Go p e below s C S Q T g := q ▸ k
theorem Go.fin (X : Stand p l e R s m args below meth c T locs cells slots) (hlk : meth.locks = false) {v : Option Value} (hv : meth.sig.returnType = none → v = none) (hc : cells ≤ C) (hs : slots ≤ S) (q : Q v T.heap locs)
    (k : ∀ fs, (∀ (f : JFrame) (acts : List Action), f.method = m → f.locked = none → f.entered = [] → (doReturn e (T.setTop f) acts v).1 = T.setFrames fs) → Steps p.tables e below (T.setTop g) (T.setFrames fs)) : Go p e below s C S Q T g := by
  obtain ⟨fs, hr, hrun, hended, hW, hsame⟩ := X.leave (v := v) hv hlk
  exact ⟨_, _, k fs hr, hrun, hended, _, _, rfl, q, ⟨_, rfl⟩, hW, hsame.mono hc hs⟩
theorem Go.retN (X : Stand p l e R s m args below meth c T locs cells slots) (hlk : meth.locks = false) (hx : p.tables.exec = Jvm.exec) {pc : Nat} {Ls : Array Slot} {z z' : Int32} {t : FieldType} {rest : List Value} (hret : meth.sig.returnType = some t) (ht : t = .boolean ∨ t = .byte ∨ t = .char ∨ t = .short)
    (hd : decode c.code pc = .ok (.ireturn, 1)) (hc : cells ≤ C) (hs : slots ≤ S) (hz : nar t z = z') (q : Q (some (.int z')) T.heap locs) : Go p e below s C S Q T (mkF m pc Ls (.int z :: rest)) := by
  subst hz
  exact Go.fin X hlk (fun h => by rw [hret] at h; cases h) hc hs q fun fs hr => Jvm.RoadKit.retN X hx hret ht hd hr
theorem Go.retV (X : Stand p l e R s m args below meth c T locs cells slots) (hlk : meth.locks = false) (hx : p.tables.exec = Jvm.exec) {pc : Nat} {Ls : Array Slot} {w : Value} {t : FieldType} {i : Instr} {rest : List Value} (hret : meth.sig.returnType = some t) (hn : narrow t w = w)
    (hi : (i = .ireturn ∧ (t = .int ∨ t = .boolean ∨ t = .byte ∨ t = .char ∨ t = .short) ∧ ∃ z, w = .int z) ∨ (i = .lreturn ∧ t = .long ∧ ∃ z, w = .long z) ∨ (i = .dreturn ∧ t = .double ∧ ∃ z, w = .double z) ∨ (i = .freturn ∧ t = .float ∧ ∃ z, w = .float z) ∨ (i = .areturn ∧ t.isReference = true ∧ w.isRef = true))
    (hd : decode c.code pc = .ok (i, 1)) (hc : cells ≤ C) (hs : slots ≤ S) (q : Q (some w) T.heap locs) : Go p e below s C S Q T (mkF m pc Ls (w :: rest)) :=
  Go.fin X hlk (fun h => by rw [hret] at h; cases h) hc hs q fun fs hr => Jvm.RoadKit.retOut X hx hret hn hi hd hr
theorem Go.retR (X : Stand p l e R s m args below meth c T locs cells slots) (hlk : meth.locks = false) (hx : p.tables.exec = Jvm.exec) {pc : Nat} {Ls : Array Slot} {w : Value} {t : FieldType} {rest : List Value} (hret : meth.sig.returnType = some t) (ht : t.isReference = true) (hw : w.isRef = true) (hn : narrow t w = w)
    (hd : decode c.code pc = .ok (.areturn, 1)) (hc : cells ≤ C) (hs : slots ≤ S) (q : Q (some w) T.heap locs) : Go p e below s C S Q T (mkF m pc Ls (w :: rest)) :=
  Go.retV X hlk hx hret hn (Or.inr (Or.inr (Or.inr (Or.inr ⟨rfl, ht, hw⟩)))) hd hc hs q
theorem Go.retI (X : Stand p l e R s m args below meth c T locs cells slots) (hlk : meth.locks = false) (hx : p.tables.exec = Jvm.exec) {pc : Nat} {Ls : Array Slot} {z : Int32} {rest : List Value} (hret : meth.sig.returnType = some .int)
    (hd : decode c.code pc = .ok (.ireturn, 1)) (hc : cells ≤ C) (hs : slots ≤ S) (q : Q (some (.int z)) T.heap locs) : Go p e below s C S Q T (mkF m pc Ls (.int z :: rest)) :=
  Go.retV X hlk hx hret rfl (Or.inl ⟨rfl, Or.inl rfl, z, rfl⟩) hd hc hs q
theorem Go.retJ (X : Stand p l e R s m args below meth c T locs cells slots) (hlk : meth.locks = false) (hx : p.tables.exec = Jvm.exec) {pc : Nat} {Ls : Array Slot} {z : Int64} {rest : List Value} (hret : meth.sig.returnType = some .long)
    (hd : decode c.code pc = .ok (.lreturn, 1)) (hc : cells ≤ C) (hs : slots ≤ S) (q : Q (some (.long z)) T.heap locs) : Go p e below s C S Q T (mkF m pc Ls (.long z :: rest)) :=
  Go.retV X hlk hx hret rfl (Or.inr (Or.inl ⟨rfl, rfl, z, rfl⟩)) hd hc hs q
theorem Go.ret0 (X : Stand p l e R s m args below meth c T locs cells slots) (hlk : meth.locks = false) (hx : p.tables.exec = Jvm.exec) {pc : Nat} {Ls : Array Slot} (hret : meth.sig.returnType = none)
    (hd : decode c.code pc = .ok (.return_, 1)) (hc : cells ≤ C) (hs : slots ≤ S) (q : Q none T.heap locs) : Go p e below s C S Q T (mkF m pc Ls []) :=
  Go.fin X hlk (fun _ => rfl) hc hs q fun fs hr => X.returnOut hx hret hd hr
theorem own_le (O : Old Z n0 h) : n0 ≤ h.size := O.1 ▸ O.2.1
theorem own_ext {ws : List Addr} (K : Keep h h' ws) (q : ∀ x ∈ ws, h.size ≤ x) : Ext h h' := ⟨K.1, fun x c r => K.2.1 x c r fun z => absurd (Array.getElem?_eq_some_iff.mp r).1 (Nat.not_lt.mpr (q x z))⟩
theorem own_ext0 (K : Keep h h' []) : Ext h h' := own_ext K all0
theorem own_exr (h : Heap) : Ext h h := ⟨Nat.le_refl _, fun _ _ q => q⟩
theorem own_ext_t {h'' : Heap} (E : Ext h h') (E' : Ext h' h'') : Ext h h'' := ⟨Nat.le_trans E.1 E'.1, fun x c r => E'.2 x c (E.2 x c r)⟩
theorem Go.pure {w : Option Value} {Qc : Option Value → Heap → List Loc → Prop} {rest : List Value} {pc' : Nat} (H : ∃ (v : Option Value) (vm₁ : Vm) (B : Pt), s.WarmedH vm₁ ∧ Stand p l e R s m args below meth c B.U B.locs B.cells B.slots ∧ (∃ L, Qc v B.U.heap L ∧ B.locs = locs ++ L ∧ B.cells = cells + 0 ∧ B.slots = slots + 0) ∧ Steps p.tables e below (T.setTop g) (B.U.setTop { g with pc := pc', stack := v.toList ++ rest })) (hq : ∀ v h' L, Qc v h' L → v = w ∧ Fr n0 L ∧ h' = h) (N : Fr n0 locs)
    (k : ∀ T' L', Stand p l e R s m args below meth c T' L' cells slots → T'.heap = h → Fr n0 L' → Go p e below s C S Q T' { g with pc := pc', stack := w.toList ++ rest }) : Go p e below s C S Q T g := by
  obtain ⟨v, vm1, ⟨T', L', c', s'⟩, -, X, ⟨L, q, e1, e2, e3⟩, st⟩ := H
  obtain ⟨rfl, q2, q3⟩ := hq _ _ _ q
  dsimp only [Pt.U, Pt.locs, Pt.cells, Pt.slots] at X e1 e2 e3 st q3
  subst e1 e2 e3
  exact Go.tr st (k _ _ X q3 (Fr.app N q2))
theorem Go.pureS {w : Option Value} {Qc : Option Value → Heap → List Loc → Prop} {rest : List Value} {pc' : Nat} (H : ∃ (v : Option Value) (vm₁ : Vm) (B : Pt), s.WarmedH vm₁ ∧ Stand p l e R s m args below meth c B.U B.locs B.cells B.slots ∧ (∃ L, Qc v B.U.heap L ∧ B.locs = locs ++ L ∧ B.cells = cells + 0 ∧ B.slots = slots + 0) ∧ ∀ target, Steps p.tables e below (B.U.setTop { g with pc := pc', stack := v.toList ++ rest }) target → Steps p.tables e below (T.setTop g) target) (hq : ∀ v h' L, Qc v h' L → v = w ∧ Fr n0 L ∧ h' = h) (N : Fr n0 locs)
    (k : ∀ T' L', Stand p l e R s m args below meth c T' L' cells slots → T'.heap = h → Fr n0 L' → Go p e below s C S Q T' { g with pc := pc', stack := w.toList ++ rest }) : Go p e below s C S Q T g := by
  obtain ⟨v, vm1, ⟨T', L', c', s'⟩, -, X, ⟨L, q, e1, e2, e3⟩, st⟩ := H
  obtain ⟨rfl, q2, q3⟩ := hq _ _ _ q
  dsimp only [Pt.U, Pt.locs, Pt.cells, Pt.slots] at X e1 e2 e3 st q3
  subst e1 e2 e3
  exact Go.st st (k _ _ X q3 (Fr.app N q2))
end GoKit
theorem pn_9 : plainName "java/lang/String" = true := by first | (simp [plainName, overriddenIn]; done) | decide +kernel
theorem ef_rmCoder (m : MethodId) (a1 : Addr) : entryFrame m #[(.ref a1)] 1 = mkF m 0 #[.val (.ref a1)] [] := by first | (simp [entryFrame, mkF, argsToLocals, Value.category]; done) | rfl
theorem d9_0 : decode jdk_42_method_152_code 0 = .ok (.getstatic 38, 3) := by decide +kernel
theorem d9_3 : decode jdk_42_method_152_code 3 = .ok (.ifCond .eq 10, 3) := by decide +kernel
theorem d9_6 : decode jdk_42_method_152_code 6 = .ok (.aload_n 0, 1) := by decide +kernel
theorem d9_7 : decode jdk_42_method_152_code 7 = .ok (.getfield 15, 3) := by decide +kernel
theorem d9_10 : decode jdk_42_method_152_code 10 = .ok (.goto 4, 3) := by decide +kernel
theorem d9_14 : decode jdk_42_method_152_code 14 = .ok (.ireturn, 1) := by decide +kernel
theorem pn_8 : plainName "java/lang/String" = true := by first | (simp [plainName, overriddenIn]; done) | decide +kernel
theorem ef_rmLen (m : MethodId) (a1 : Addr) : entryFrame m #[(.ref a1)] 1 = mkF m 0 #[.val (.ref a1)] [] := by first | (simp [entryFrame, mkF, argsToLocals, Value.category]; done) | rfl
theorem d8_0 : decode jdk_42_method_54_code 0 = .ok (.aload_n 0, 1) := by decide +kernel
theorem d8_1 : decode jdk_42_method_54_code 1 = .ok (.getfield 9, 3) := by decide +kernel
theorem d8_4 : decode jdk_42_method_54_code 4 = .ok (.arraylength, 1) := by decide +kernel
theorem d8_5 : decode jdk_42_method_54_code 5 = .ok (.aload_n 0, 1) := by decide +kernel
theorem d8_6 : decode jdk_42_method_54_code 6 = .ok (.invokevirtual 335, 3) := by decide +kernel
theorem pd___B : parseMethodDescriptor "()B" = some ⟨[], some .byte⟩ := by decide +kernel
theorem d8_9 : decode jdk_42_method_54_code 9 = .ok (.ishr, 1) := by decide +kernel
theorem d8_10 : decode jdk_42_method_54_code 10 = .ok (.ireturn, 1) := by decide +kernel
theorem pn_13 : plainName "java/lang/String" = true := by first | (simp [plainName, overriddenIn]; done) | decide +kernel
theorem ef_rmGB (m : MethodId) (a1 : Addr) (a2 : Addr) (y_2 : Int32) (y_3 : Int32) : entryFrame m #[(.ref a1), (.ref a2), (.int y_2), (.int y_3)] 4 = mkF m 0 #[.val (.ref a1), .val (.ref a2), .val (.int y_2), .val (.int y_3)] [] := by first | (simp [entryFrame, mkF, argsToLocals, Value.category]; done) | rfl
theorem d13_0 : decode jdk_42_method_147_code 0 = .ok (.aload_n 0, 1) := by decide +kernel
theorem d13_1 : decode jdk_42_method_147_code 1 = .ok (.invokevirtual 335, 3) := by decide +kernel
theorem d13_4 : decode jdk_42_method_147_code 4 = .ok (.iload_n 3, 1) := by decide +kernel
theorem d13_5 : decode jdk_42_method_147_code 5 = .ok (.if_icmp .ne 23, 3) := by decide +kernel
theorem d13_8 : decode jdk_42_method_147_code 8 = .ok (.aload_n 0, 1) := by decide +kernel
theorem d13_9 : decode jdk_42_method_147_code 9 = .ok (.getfield 9, 3) := by decide +kernel
theorem d13_12 : decode jdk_42_method_147_code 12 = .ok (.iconst 0, 1) := by decide +kernel
theorem d13_13 : decode jdk_42_method_147_code 13 = .ok (.aload_n 1, 1) := by decide +kernel
theorem d13_14 : decode jdk_42_method_147_code 14 = .ok (.iload_n 2, 1) := by decide +kernel
theorem d13_15 : decode jdk_42_method_147_code 15 = .ok (.iload_n 3, 1) := by decide +kernel
theorem d13_16 : decode jdk_42_method_147_code 16 = .ok (.ishl, 1) := by decide +kernel
theorem d13_17 : decode jdk_42_method_147_code 17 = .ok (.aload_n 0, 1) := by decide +kernel
theorem d13_18 : decode jdk_42_method_147_code 18 = .ok (.getfield 9, 3) := by decide +kernel
theorem d13_21 : decode jdk_42_method_147_code 21 = .ok (.arraylength, 1) := by decide +kernel
theorem d13_22 : decode jdk_42_method_147_code 22 = .ok (.invokestatic 212, 3) := by decide +kernel
theorem d13_25 : decode jdk_42_method_147_code 25 = .ok (.goto 18, 3) := by decide +kernel
theorem d13_43 : decode jdk_42_method_147_code 43 = .ok (.return_, 1) := by decide +kernel
theorem pn_12 : plainName "java/lang/AbstractStringBuilder" = true := by first | (simp [plainName, overriddenIn]; done) | decide +kernel
theorem ef_rmInf (m : MethodId) (a1 : Addr) (a2 : Addr) : entryFrame m #[(.ref a1), (.ref a2)] 2 = mkF m 0 #[.val (.ref a1), .val (.ref a2)] [] := by first | (simp [entryFrame, mkF, argsToLocals, Value.category]; done) | rfl
theorem d12_0 : decode jdk_68_method_71_code 0 = .ok (.getstatic 18, 3) := by decide +kernel
theorem d12_3 : decode jdk_68_method_71_code 3 = .ok (.ifCond .eq 18, 3) := by decide +kernel
theorem d12_6 : decode jdk_68_method_71_code 6 = .ok (.aload_n 0, 1) := by decide +kernel
theorem d12_7 : decode jdk_68_method_71_code 7 = .ok (.getfield 22, 3) := by decide +kernel
theorem d12_10 : decode jdk_68_method_71_code 10 = .ok (.aload_n 1, 1) := by decide +kernel
theorem d12_11 : decode jdk_68_method_71_code 11 = .ok (.invokevirtual 40, 3) := by decide +kernel
theorem d12_14 : decode jdk_68_method_71_code 14 = .ok (.if_icmp .eq 7, 3) := by decide +kernel
theorem d12_21 : decode jdk_68_method_71_code 21 = .ok (.return_, 1) := by decide +kernel
theorem pn_11 : plainName "java/lang/AbstractStringBuilder" = true := by first | (simp [plainName, overriddenIn]; done) | decide +kernel
theorem ef_rmPut (m : MethodId) (a1 : Addr) (y_1 : Int32) (a2 : Addr) : entryFrame m #[(.ref a1), (.int y_1), (.ref a2)] 3 = mkF m 0 #[.val (.ref a1), .val (.int y_1), .val (.ref a2)] [] := by first | (simp [entryFrame, mkF, argsToLocals, Value.category]; done) | rfl
theorem d11_0 : decode jdk_68_method_73_code 0 = .ok (.aload_n 0, 1) := by decide +kernel
theorem d11_1 : decode jdk_68_method_73_code 1 = .ok (.aload_n 2, 1) := by decide +kernel
theorem d11_2 : decode jdk_68_method_73_code 2 = .ok (.invokevirtual 397, 3) := by decide +kernel
theorem pd__Ljava_lang_String__V : parseMethodDescriptor "(Ljava/lang/String;)V" = some ⟨[(.object "java/lang/String")], none⟩ := by decide +kernel
theorem d11_5 : decode jdk_68_method_73_code 5 = .ok (.aload_n 2, 1) := by decide +kernel
theorem d11_6 : decode jdk_68_method_73_code 6 = .ok (.aload_n 0, 1) := by decide +kernel
theorem d11_7 : decode jdk_68_method_73_code 7 = .ok (.getfield 15, 3) := by decide +kernel
theorem d11_10 : decode jdk_68_method_73_code 10 = .ok (.iload_n 1, 1) := by decide +kernel
theorem d11_11 : decode jdk_68_method_73_code 11 = .ok (.aload_n 0, 1) := by decide +kernel
theorem d11_12 : decode jdk_68_method_73_code 12 = .ok (.getfield 22, 3) := by decide +kernel
theorem d11_15 : decode jdk_68_method_73_code 15 = .ok (.invokevirtual 399, 3) := by decide +kernel
theorem pd___BIB_V : parseMethodDescriptor "([BIB)V" = some ⟨[(.array .byte), .int, .byte], none⟩ := by decide +kernel
theorem d11_18 : decode jdk_68_method_73_code 18 = .ok (.return_, 1) := by decide +kernel
theorem ef_rmMax (m : MethodId) (y_0 : Int32) (y_1 : Int32) : entryFrame m #[(.int y_0), (.int y_1)] 2 = mkF m 0 #[.val (.int y_0), .val (.int y_1)] [] := by first | (simp [entryFrame, mkF, argsToLocals, Value.category]; done) | rfl
theorem d28_0 : decode jdk_29_method_65_code 0 = .ok (.iload_n 0, 1) := by decide +kernel
theorem d28_1 : decode jdk_29_method_65_code 1 = .ok (.iload_n 1, 1) := by decide +kernel
theorem d28_2 : decode jdk_29_method_65_code 2 = .ok (.if_icmp .lt 7, 3) := by decide +kernel
theorem d28_9 : decode jdk_29_method_65_code 9 = .ok (.iload_n 1, 1) := by decide +kernel
theorem d28_10 : decode jdk_29_method_65_code 10 = .ok (.ireturn, 1) := by decide +kernel
theorem d28_5 : decode jdk_29_method_65_code 5 = .ok (.iload_n 0, 1) := by decide +kernel
theorem d28_6 : decode jdk_29_method_65_code 6 = .ok (.goto 4, 3) := by decide +kernel
theorem ef_rmMin (m : MethodId) (y_0 : Int32) (y_1 : Int32) : entryFrame m #[(.int y_0), (.int y_1)] 2 = mkF m 0 #[.val (.int y_0), .val (.int y_1)] [] := by first | (simp [entryFrame, mkF, argsToLocals, Value.category]; done) | rfl
theorem d24_0 : decode jdk_29_method_69_code 0 = .ok (.iload_n 0, 1) := by decide +kernel
theorem d24_1 : decode jdk_29_method_69_code 1 = .ok (.iload_n 1, 1) := by decide +kernel
theorem d24_2 : decode jdk_29_method_69_code 2 = .ok (.if_icmp .gt 7, 3) := by decide +kernel
theorem d24_9 : decode jdk_29_method_69_code 9 = .ok (.iload_n 1, 1) := by decide +kernel
theorem d24_10 : decode jdk_29_method_69_code 10 = .ok (.ireturn, 1) := by decide +kernel
theorem d24_5 : decode jdk_29_method_69_code 5 = .ok (.iload_n 0, 1) := by decide +kernel
theorem d24_6 : decode jdk_29_method_69_code 6 = .ok (.goto 4, 3) := by decide +kernel
theorem pn_27 : plainName "jdk/internal/util/ArraysSupport" = true := by first | (simp [plainName, overriddenIn]; done) | decide +kernel
theorem ef_rmNL (m : MethodId) (y_0 : Int32) (y_1 : Int32) (y_2 : Int32) : entryFrame m #[(.int y_0), (.int y_1), (.int y_2)] 4 = mkF m 0 #[.val (.int y_0), .val (.int y_1), .val (.int y_2), .unset] [] := by first | (simp [entryFrame, mkF, argsToLocals, Value.category]; done) | rfl
theorem d27_0 : decode jdk_48_method_27_code 0 = .ok (.iload_n 0, 1) := by decide +kernel
theorem d27_1 : decode jdk_48_method_27_code 1 = .ok (.iload_n 1, 1) := by decide +kernel
theorem d27_2 : decode jdk_48_method_27_code 2 = .ok (.iload_n 2, 1) := by decide +kernel
theorem d27_3 : decode jdk_48_method_27_code 3 = .ok (.invokestatic 194, 3) := by decide +kernel
theorem pd__II_I : parseMethodDescriptor "(II)I" = some ⟨[.int, .int], some .int⟩ := by decide +kernel
theorem d27_6 : decode jdk_48_method_27_code 6 = .ok (.iadd, 1) := by decide +kernel
theorem d27_7 : decode jdk_48_method_27_code 7 = .ok (.istore_n 3, 1) := by decide +kernel
theorem d27_8 : decode jdk_48_method_27_code 8 = .ok (.iconst 0, 1) := by decide +kernel
theorem d27_9 : decode jdk_48_method_27_code 9 = .ok (.iload_n 3, 1) := by decide +kernel
theorem d27_10 : decode jdk_48_method_27_code 10 = .ok (.if_icmp .ge 11, 3) := by decide +kernel
theorem d27_13 : decode jdk_48_method_27_code 13 = .ok (.iload_n 3, 1) := by decide +kernel
theorem d27_14 : decode jdk_48_method_27_code 14 = .ok (.ldc 200, 2) := by decide +kernel
theorem d27_16 : decode jdk_48_method_27_code 16 = .ok (.if_icmp .gt 5, 3) := by decide +kernel
theorem d27_19 : decode jdk_48_method_27_code 19 = .ok (.iload_n 3, 1) := by decide +kernel
theorem d27_20 : decode jdk_48_method_27_code 20 = .ok (.ireturn, 1) := by decide +kernel
theorem pn_26 : plainName "java/lang/AbstractStringBuilder" = true := by first | (simp [plainName, overriddenIn]; done) | decide +kernel
theorem ef_rmNC (m : MethodId) (a1 : Addr) (y_1 : Int32) : entryFrame m #[(.ref a1), (.int y_1)] 6 = mkF m 0 #[.val (.ref a1), .val (.int y_1), .unset, .unset, .unset, .unset] [] := by first | (simp [entryFrame, mkF, argsToLocals, Value.category]; done) | rfl
theorem d26_0 : decode jdk_68_method_10_code 0 = .ok (.aload_n 0, 1) := by decide +kernel
theorem d26_1 : decode jdk_68_method_10_code 1 = .ok (.getfield 15, 3) := by decide +kernel
theorem d26_4 : decode jdk_68_method_10_code 4 = .ok (.arraylength, 1) := by decide +kernel
theorem d26_5 : decode jdk_68_method_10_code 5 = .ok (.istore_n 2, 1) := by decide +kernel
theorem d26_6 : decode jdk_68_method_10_code 6 = .ok (.iload_n 1, 1) := by decide +kernel
theorem d26_7 : decode jdk_68_method_10_code 7 = .ok (.aload_n 0, 1) := by decide +kernel
theorem d26_8 : decode jdk_68_method_10_code 8 = .ok (.getfield 22, 3) := by decide +kernel
theorem d26_11 : decode jdk_68_method_10_code 11 = .ok (.ishl, 1) := by decide +kernel
theorem d26_12 : decode jdk_68_method_10_code 12 = .ok (.istore_n 3, 1) := by decide +kernel
theorem d26_13 : decode jdk_68_method_10_code 13 = .ok (.iload_n 3, 1) := by decide +kernel
theorem d26_14 : decode jdk_68_method_10_code 14 = .ok (.iload_n 2, 1) := by decide +kernel
theorem d26_15 : decode jdk_68_method_10_code 15 = .ok (.isub, 1) := by decide +kernel
theorem d26_16 : decode jdk_68_method_10_code 16 = .ok (.istore 4, 2) := by decide +kernel
theorem d26_18 : decode jdk_68_method_10_code 18 = .ok (.iload_n 2, 1) := by decide +kernel
theorem d26_19 : decode jdk_68_method_10_code 19 = .ok (.iload 4, 2) := by decide +kernel
theorem d26_21 : decode jdk_68_method_10_code 21 = .ok (.iload_n 2, 1) := by decide +kernel
theorem d26_22 : decode jdk_68_method_10_code 22 = .ok (.iconst 2, 1) := by decide +kernel
theorem d26_23 : decode jdk_68_method_10_code 23 = .ok (.aload_n 0, 1) := by decide +kernel
theorem d26_24 : decode jdk_68_method_10_code 24 = .ok (.getfield 22, 3) := by decide +kernel
theorem d26_27 : decode jdk_68_method_10_code 27 = .ok (.ishl, 1) := by decide +kernel
theorem d26_28 : decode jdk_68_method_10_code 28 = .ok (.iadd, 1) := by decide +kernel
theorem d26_29 : decode jdk_68_method_10_code 29 = .ok (.invokestatic 114, 3) := by decide +kernel
theorem pd__III_I : parseMethodDescriptor "(III)I" = some ⟨[.int, .int, .int], some .int⟩ := by decide +kernel
theorem d26_32 : decode jdk_68_method_10_code 32 = .ok (.istore 5, 2) := by decide +kernel
theorem d26_34 : decode jdk_68_method_10_code 34 = .ok (.iload 5, 2) := by decide +kernel
theorem d26_36 : decode jdk_68_method_10_code 36 = .ok (.ldc 39, 2) := by decide +kernel
theorem d26_38 : decode jdk_68_method_10_code 38 = .ok (.if_icmp .ne 13, 3) := by decide +kernel
theorem d26_51 : decode jdk_68_method_10_code 51 = .ok (.iload 5, 2) := by decide +kernel
theorem d26_53 : decode jdk_68_method_10_code 53 = .ok (.aload_n 0, 1) := by decide +kernel
theorem d26_54 : decode jdk_68_method_10_code 54 = .ok (.getfield 22, 3) := by decide +kernel
theorem d26_57 : decode jdk_68_method_10_code 57 = .ok (.ishr, 1) := by decide +kernel
theorem d26_58 : decode jdk_68_method_10_code 58 = .ok (.ireturn, 1) := by decide +kernel
theorem pn_29 : plainName "java/util/Arrays" = true := by first | (simp [plainName, overriddenIn]; done) | decide +kernel
theorem ef_rmCO (m : MethodId) (a1 : Addr) (y_1 : Int32) : entryFrame m #[(.ref a1), (.int y_1)] 3 = mkF m 0 #[.val (.ref a1), .val (.int y_1), .unset] [] := by first | (simp [entryFrame, mkF, argsToLocals, Value.category]; done) | rfl
theorem d29_0 : decode jdk_65_method_121_code 0 = .ok (.iload_n 1, 1) := by decide +kernel
theorem d29_1 : decode jdk_65_method_121_code 1 = .ok (.aload_n 0, 1) := by decide +kernel
theorem d29_2 : decode jdk_65_method_121_code 2 = .ok (.arraylength, 1) := by decide +kernel
theorem d29_3 : decode jdk_65_method_121_code 3 = .ok (.if_icmp .ne 11, 3) := by decide +kernel
theorem d29_14 : decode jdk_65_method_121_code 14 = .ok (.iload_n 1, 1) := by decide +kernel
theorem d29_15 : decode jdk_65_method_121_code 15 = .ok (.newarray .byte, 2) := by decide +kernel
theorem d29_17 : decode jdk_65_method_121_code 17 = .ok (.astore_n 2, 1) := by decide +kernel
theorem d29_18 : decode jdk_65_method_121_code 18 = .ok (.aload_n 0, 1) := by decide +kernel
theorem d29_19 : decode jdk_65_method_121_code 19 = .ok (.iconst 0, 1) := by decide +kernel
theorem d29_20 : decode jdk_65_method_121_code 20 = .ok (.aload_n 2, 1) := by decide +kernel
theorem d29_21 : decode jdk_65_method_121_code 21 = .ok (.iconst 0, 1) := by decide +kernel
theorem d29_22 : decode jdk_65_method_121_code 22 = .ok (.aload_n 0, 1) := by decide +kernel
theorem d29_23 : decode jdk_65_method_121_code 23 = .ok (.arraylength, 1) := by decide +kernel
theorem d29_24 : decode jdk_65_method_121_code 24 = .ok (.iload_n 1, 1) := by decide +kernel
theorem d29_25 : decode jdk_65_method_121_code 25 = .ok (.invokestatic 304, 3) := by decide +kernel
theorem d29_28 : decode jdk_65_method_121_code 28 = .ok (.invokestatic 150, 3) := by decide +kernel
theorem d29_31 : decode jdk_65_method_121_code 31 = .ok (.aload_n 2, 1) := by decide +kernel
theorem d29_32 : decode jdk_65_method_121_code 32 = .ok (.areturn, 1) := by decide +kernel
theorem pn_10 : plainName "java/lang/AbstractStringBuilder" = true := by first | (simp [plainName, overriddenIn]; done) | decide +kernel
theorem ef_rmE0 (m : MethodId) (a1 : Addr) (y_1 : Int32) : entryFrame m #[(.ref a1), (.int y_1)] 3 = mkF m 0 #[.val (.ref a1), .val (.int y_1), .unset] [] := by first | (simp [entryFrame, mkF, argsToLocals, Value.category]; done) | rfl
theorem d10_0 : decode jdk_68_method_9_code 0 = .ok (.aload_n 0, 1) := by decide +kernel
theorem d10_1 : decode jdk_68_method_9_code 1 = .ok (.getfield 15, 3) := by decide +kernel
theorem d10_4 : decode jdk_68_method_9_code 4 = .ok (.arraylength, 1) := by decide +kernel
theorem d10_5 : decode jdk_68_method_9_code 5 = .ok (.aload_n 0, 1) := by decide +kernel
theorem d10_6 : decode jdk_68_method_9_code 6 = .ok (.getfield 22, 3) := by decide +kernel
theorem d10_9 : decode jdk_68_method_9_code 9 = .ok (.ishr, 1) := by decide +kernel
theorem d10_10 : decode jdk_68_method_9_code 10 = .ok (.istore_n 2, 1) := by decide +kernel
theorem d10_11 : decode jdk_68_method_9_code 11 = .ok (.iload_n 1, 1) := by decide +kernel
theorem d10_12 : decode jdk_68_method_9_code 12 = .ok (.iload_n 2, 1) := by decide +kernel
theorem d10_13 : decode jdk_68_method_9_code 13 = .ok (.isub, 1) := by decide +kernel
theorem d10_14 : decode jdk_68_method_9_code 14 = .ok (.ifCond .le 24, 3) := by decide +kernel
theorem d10_38 : decode jdk_68_method_9_code 38 = .ok (.return_, 1) := by decide +kernel
theorem ef_rmE1 (m : MethodId) (a1 : Addr) (y_1 : Int32) : entryFrame m #[(.ref a1), (.int y_1)] 3 = mkF m 0 #[.val (.ref a1), .val (.int y_1), .unset] [] := by first | (simp [entryFrame, mkF, argsToLocals, Value.category]; done) | rfl
theorem d10_17 : decode jdk_68_method_9_code 17 = .ok (.aload_n 0, 1) := by decide +kernel
theorem d10_18 : decode jdk_68_method_9_code 18 = .ok (.aload_n 0, 1) := by decide +kernel
theorem d10_19 : decode jdk_68_method_9_code 19 = .ok (.getfield 15, 3) := by decide +kernel
theorem d10_22 : decode jdk_68_method_9_code 22 = .ok (.aload_n 0, 1) := by decide +kernel
theorem d10_23 : decode jdk_68_method_9_code 23 = .ok (.iload_n 1, 1) := by decide +kernel
theorem d10_24 : decode jdk_68_method_9_code 24 = .ok (.invokevirtual 104, 3) := by decide +kernel
theorem pd__I_I : parseMethodDescriptor "(I)I" = some ⟨[.int], some .int⟩ := by decide +kernel
theorem d10_27 : decode jdk_68_method_9_code 27 = .ok (.aload_n 0, 1) := by decide +kernel
theorem d10_28 : decode jdk_68_method_9_code 28 = .ok (.getfield 22, 3) := by decide +kernel
theorem d10_31 : decode jdk_68_method_9_code 31 = .ok (.ishl, 1) := by decide +kernel
theorem d10_32 : decode jdk_68_method_9_code 32 = .ok (.invokestatic 108, 3) := by decide +kernel
theorem pd___BI__B : parseMethodDescriptor "([BI)[B" = some ⟨[(.array .byte), .int], some (.array .byte)⟩ := by decide +kernel
theorem d10_35 : decode jdk_68_method_9_code 35 = .ok (.putfield 15, 3) := by decide +kernel
theorem pn_7 : plainName "java/lang/AbstractStringBuilder" = true := by first | (simp [plainName, overriddenIn]; done) | decide +kernel
theorem ef_rmA0 (m : MethodId) (a1 : Addr) (a2 : Addr) : entryFrame m #[(.ref a1), (.ref a2)] 3 = mkF m 0 #[.val (.ref a1), .val (.ref a2), .unset] [] := by first | (simp [entryFrame, mkF, argsToLocals, Value.category]; done) | rfl
theorem d7_0 : decode jdk_68_method_22_code 0 = .ok (.aload_n 1, 1) := by decide +kernel
theorem d7_1 : decode jdk_68_method_22_code 1 = .ok (.ifnonnull 8, 3) := by decide +kernel
theorem d7_9 : decode jdk_68_method_22_code 9 = .ok (.aload_n 1, 1) := by decide +kernel
theorem d7_10 : decode jdk_68_method_22_code 10 = .ok (.invokevirtual 32, 3) := by decide +kernel
theorem pd___I : parseMethodDescriptor "()I" = some ⟨[], some .int⟩ := by decide +kernel
theorem d7_13 : decode jdk_68_method_22_code 13 = .ok (.istore_n 2, 1) := by decide +kernel
theorem d7_14 : decode jdk_68_method_22_code 14 = .ok (.aload_n 0, 1) := by decide +kernel
theorem d7_15 : decode jdk_68_method_22_code 15 = .ok (.aload_n 0, 1) := by decide +kernel
theorem d7_16 : decode jdk_68_method_22_code 16 = .ok (.getfield 79, 3) := by decide +kernel
theorem d7_19 : decode jdk_68_method_22_code 19 = .ok (.iload_n 2, 1) := by decide +kernel
theorem d7_20 : decode jdk_68_method_22_code 20 = .ok (.iadd, 1) := by decide +kernel
theorem d7_21 : decode jdk_68_method_22_code 21 = .ok (.invokevirtual 100, 3) := by decide +kernel
theorem pd__I_V : parseMethodDescriptor "(I)V" = some ⟨[.int], none⟩ := by decide +kernel
theorem d7_24 : decode jdk_68_method_22_code 24 = .ok (.aload_n 0, 1) := by decide +kernel
theorem d7_25 : decode jdk_68_method_22_code 25 = .ok (.aload_n 0, 1) := by decide +kernel
theorem d7_26 : decode jdk_68_method_22_code 26 = .ok (.getfield 79, 3) := by decide +kernel
theorem d7_29 : decode jdk_68_method_22_code 29 = .ok (.aload_n 1, 1) := by decide +kernel
theorem d7_30 : decode jdk_68_method_22_code 30 = .ok (.invokevirtual 208, 3) := by decide +kernel
theorem pd__ILjava_lang_String__V : parseMethodDescriptor "(ILjava/lang/String;)V" = some ⟨[.int, (.object "java/lang/String")], none⟩ := by decide +kernel
theorem d7_33 : decode jdk_68_method_22_code 33 = .ok (.aload_n 0, 1) := by decide +kernel
theorem d7_34 : decode jdk_68_method_22_code 34 = .ok (.dup, 1) := by decide +kernel
theorem d7_35 : decode jdk_68_method_22_code 35 = .ok (.getfield 79, 3) := by decide +kernel
theorem d7_38 : decode jdk_68_method_22_code 38 = .ok (.iload_n 2, 1) := by decide +kernel
theorem d7_39 : decode jdk_68_method_22_code 39 = .ok (.iadd, 1) := by decide +kernel
theorem d7_40 : decode jdk_68_method_22_code 40 = .ok (.putfield 79, 3) := by decide +kernel
theorem d7_43 : decode jdk_68_method_22_code 43 = .ok (.aload_n 0, 1) := by decide +kernel
theorem d7_44 : decode jdk_68_method_22_code 44 = .ok (.areturn, 1) := by decide +kernel
theorem pn_6 : plainName "java/lang/StringBuilder" = true := by first | (simp [plainName, overriddenIn]; done) | decide +kernel
theorem ef_rmS0 (m : MethodId) (a1 : Addr) (a2 : Addr) : entryFrame m #[(.ref a1), (.ref a2)] 2 = mkF m 0 #[.val (.ref a1), .val (.ref a2)] [] := by first | (simp [entryFrame, mkF, argsToLocals, Value.category]; done) | rfl
theorem d6_0 : decode jdk_67_method_7_code 0 = .ok (.aload_n 0, 1) := by decide +kernel
theorem d6_1 : decode jdk_67_method_7_code 1 = .ok (.aload_n 1, 1) := by decide +kernel
theorem d6_2 : decode jdk_67_method_7_code 2 = .ok (.invokespecial 29, 3) := by decide +kernel
theorem pd__Ljava_lang_String__Ljava_lang_AbstractStringBuilder_ : parseMethodDescriptor "(Ljava/lang/String;)Ljava/lang/AbstractStringBuilder;" = some ⟨[(.object "java/lang/String")], some (.object "java/lang/AbstractStringBuilder")⟩ := by decide +kernel
theorem d6_5 : decode jdk_67_method_7_code 5 = .ok (.pop, 1) := by decide +kernel
theorem d6_6 : decode jdk_67_method_7_code 6 = .ok (.aload_n 0, 1) := by decide +kernel
theorem d6_7 : decode jdk_67_method_7_code 7 = .ok (.areturn, 1) := by decide +kernel
theorem ef_rmA1 (m : MethodId) (a1 : Addr) (a2 : Addr) : entryFrame m #[(.ref a1), (.ref a2)] 3 = mkF m 0 #[.val (.ref a1), .val (.ref a2), .unset] [] := by first | (simp [entryFrame, mkF, argsToLocals, Value.category]; done) | rfl
theorem ef_rmS1 (m : MethodId) (a1 : Addr) (a2 : Addr) : entryFrame m #[(.ref a1), (.ref a2)] 2 = mkF m 0 #[.val (.ref a1), .val (.ref a2)] [] := by first | (simp [entryFrame, mkF, argsToLocals, Value.category]; done) | rfl
theorem pn_4 : plainName "java/lang/AbstractStringBuilder" = true := by first | (simp [plainName, overriddenIn]; done) | decide +kernel
theorem ef_rmI1 (m : MethodId) (a1 : Addr) : entryFrame m #[(.ref a1), (.int (16 : Int32))] 2 = mkF m 0 #[.val (.ref a1), .val (.int (16 : Int32))] [] := by first | (simp [entryFrame, mkF, argsToLocals, Value.category]; done) | rfl
theorem d4_0 : decode jdk_68_method_2_code 0 = .ok (.aload_n 0, 1) := by decide +kernel
theorem d4_1 : decode jdk_68_method_2_code 1 = .ok (.invokespecial 3, 3) := by decide +kernel
theorem d4_4 : decode jdk_68_method_2_code 4 = .ok (.getstatic 18, 3) := by decide +kernel
theorem d4_7 : decode jdk_68_method_2_code 7 = .ok (.ifCond .eq 18, 3) := by decide +kernel
theorem d4_10 : decode jdk_68_method_2_code 10 = .ok (.aload_n 0, 1) := by decide +kernel
theorem d4_11 : decode jdk_68_method_2_code 11 = .ok (.iload_n 1, 1) := by decide +kernel
theorem d4_12 : decode jdk_68_method_2_code 12 = .ok (.newarray .byte, 2) := by decide +kernel
theorem d4_14 : decode jdk_68_method_2_code 14 = .ok (.putfield 15, 3) := by decide +kernel
theorem d4_17 : decode jdk_68_method_2_code 17 = .ok (.aload_n 0, 1) := by decide +kernel
theorem d4_18 : decode jdk_68_method_2_code 18 = .ok (.iconst 0, 1) := by decide +kernel
theorem d4_19 : decode jdk_68_method_2_code 19 = .ok (.putfield 22, 3) := by decide +kernel
theorem d4_22 : decode jdk_68_method_2_code 22 = .ok (.goto 16, 3) := by decide +kernel
theorem d4_38 : decode jdk_68_method_2_code 38 = .ok (.return_, 1) := by decide +kernel
theorem pn_3 : plainName "java/lang/StringBuilder" = true := by first | (simp [plainName, overriddenIn]; done) | decide +kernel
theorem ef_rmI0 (m : MethodId) (a1 : Addr) : entryFrame m #[(.ref a1)] 1 = mkF m 0 #[.val (.ref a1)] [] := by first | (simp [entryFrame, mkF, argsToLocals, Value.category]; done) | rfl
theorem d3_0 : decode jdk_67_method_1_code 0 = .ok (.aload_n 0, 1) := by decide +kernel
theorem d3_1 : decode jdk_67_method_1_code 1 = .ok (.bipush 16, 2) := by decide +kernel
theorem d3_3 : decode jdk_67_method_1_code 3 = .ok (.invokespecial 1, 3) := by decide +kernel
theorem d3_6 : decode jdk_67_method_1_code 6 = .ok (.return_, 1) := by decide +kernel
theorem pn_17 : plainName "java/lang/AbstractStringBuilder" = true := by first | (simp [plainName, overriddenIn]; done) | decide +kernel
theorem ef_rmGV (m : MethodId) (a1 : Addr) : entryFrame m #[(.ref a1)] 1 = mkF m 0 #[.val (.ref a1)] [] := by first | (simp [entryFrame, mkF, argsToLocals, Value.category]; done) | rfl
theorem d17_0 : decode jdk_68_method_64_code 0 = .ok (.aload_n 0, 1) := by decide +kernel
theorem d17_1 : decode jdk_68_method_64_code 1 = .ok (.getfield 15, 3) := by decide +kernel
theorem d17_4 : decode jdk_68_method_64_code 4 = .ok (.areturn, 1) := by decide +kernel
theorem pn_19 : plainName "java/lang/AbstractStringBuilder" = true := by first | (simp [plainName, overriddenIn]; done) | decide +kernel
theorem ef_rmAL (m : MethodId) (a1 : Addr) : entryFrame m #[(.ref a1)] 1 = mkF m 0 #[.val (.ref a1)] [] := by first | (simp [entryFrame, mkF, argsToLocals, Value.category]; done) | rfl
theorem d19_0 : decode jdk_68_method_6_code 0 = .ok (.aload_n 0, 1) := by decide +kernel
theorem d19_1 : decode jdk_68_method_6_code 1 = .ok (.getfield 79, 3) := by decide +kernel
theorem d19_4 : decode jdk_68_method_6_code 4 = .ok (.ireturn, 1) := by decide +kernel
theorem pn_18 : plainName "java/lang/StringBuilder" = true := by first | (simp [plainName, overriddenIn]; done) | decide +kernel
theorem ef_rmSL (m : MethodId) (a1 : Addr) : entryFrame m #[(.ref a1)] 1 = mkF m 0 #[.val (.ref a1)] [] := by first | (simp [entryFrame, mkF, argsToLocals, Value.category]; done) | rfl
theorem d18_0 : decode jdk_67_method_93_code 0 = .ok (.aload_n 0, 1) := by decide +kernel
theorem d18_1 : decode jdk_67_method_93_code 1 = .ok (.invokespecial 343, 3) := by decide +kernel
theorem d18_4 : decode jdk_67_method_93_code 4 = .ok (.ireturn, 1) := by decide +kernel
theorem pn_20 : plainName "java/lang/AbstractStringBuilder" = true := by first | (simp [plainName, overriddenIn]; done) | decide +kernel
theorem ef_rmIL (m : MethodId) (a1 : Addr) : entryFrame m #[(.ref a1)] 1 = mkF m 0 #[.val (.ref a1)] [] := by first | (simp [entryFrame, mkF, argsToLocals, Value.category]; done) | rfl
theorem d20_0 : decode jdk_68_method_68_code 0 = .ok (.getstatic 18, 3) := by decide +kernel
theorem d20_3 : decode jdk_68_method_68_code 3 = .ok (.ifCond .eq 14, 3) := by decide +kernel
theorem d20_6 : decode jdk_68_method_68_code 6 = .ok (.aload_n 0, 1) := by decide +kernel
theorem d20_7 : decode jdk_68_method_68_code 7 = .ok (.getfield 22, 3) := by decide +kernel
theorem d20_10 : decode jdk_68_method_68_code 10 = .ok (.ifCond .ne 7, 3) := by decide +kernel
theorem d20_13 : decode jdk_68_method_68_code 13 = .ok (.iconst 1, 1) := by decide +kernel
theorem d20_14 : decode jdk_68_method_68_code 14 = .ok (.goto 4, 3) := by decide +kernel
theorem d20_18 : decode jdk_68_method_68_code 18 = .ok (.ireturn, 1) := by decide +kernel
theorem pn_23 : plainName "java/util/Arrays" = true := by first | (simp [plainName, overriddenIn]; done) | decide +kernel
theorem ef_rmCL (m : MethodId) (y_0 : Int32) (y_1 : Int32) : entryFrame m #[(.int y_0), (.int y_1)] 2 = mkF m 0 #[.val (.int y_0), .val (.int y_1)] [] := by first | (simp [entryFrame, mkF, argsToLocals, Value.category]; done) | rfl
theorem d23_0 : decode jdk_65_method_131_code 0 = .ok (.iload_n 1, 1) := by decide +kernel
theorem d23_1 : decode jdk_65_method_131_code 1 = .ok (.iload_n 0, 1) := by decide +kernel
theorem d23_2 : decode jdk_65_method_131_code 2 = .ok (.if_icmp .ge 35, 3) := by decide +kernel
theorem d23_37 : decode jdk_65_method_131_code 37 = .ok (.return_, 1) := by decide +kernel
theorem pn_22 : plainName "java/util/Arrays" = true := by first | (simp [plainName, overriddenIn]; done) | decide +kernel
theorem ef_rmCRB (m : MethodId) (a1 : Addr) (y_1 : Int32) (y_2 : Int32) : entryFrame m #[(.ref a1), (.int y_1), (.int y_2)] 5 = mkF m 0 #[.val (.ref a1), .val (.int y_1), .val (.int y_2), .unset, .unset] [] := by first | (simp [entryFrame, mkF, argsToLocals, Value.category]; done) | rfl
theorem d22_0 : decode jdk_65_method_133_code 0 = .ok (.iload_n 1, 1) := by decide +kernel
theorem d22_1 : decode jdk_65_method_133_code 1 = .ok (.iload_n 2, 1) := by decide +kernel
theorem d22_2 : decode jdk_65_method_133_code 2 = .ok (.invokestatic 343, 3) := by decide +kernel
theorem pd__II_V : parseMethodDescriptor "(II)V" = some ⟨[.int, .int], none⟩ := by decide +kernel
theorem d22_5 : decode jdk_65_method_133_code 5 = .ok (.iload_n 2, 1) := by decide +kernel
theorem d22_6 : decode jdk_65_method_133_code 6 = .ok (.iload_n 1, 1) := by decide +kernel
theorem d22_7 : decode jdk_65_method_133_code 7 = .ok (.isub, 1) := by decide +kernel
theorem d22_8 : decode jdk_65_method_133_code 8 = .ok (.istore_n 3, 1) := by decide +kernel
theorem d22_9 : decode jdk_65_method_133_code 9 = .ok (.iload_n 3, 1) := by decide +kernel
theorem d22_10 : decode jdk_65_method_133_code 10 = .ok (.newarray .byte, 2) := by decide +kernel
theorem d22_12 : decode jdk_65_method_133_code 12 = .ok (.astore 4, 2) := by decide +kernel
theorem d22_14 : decode jdk_65_method_133_code 14 = .ok (.aload_n 0, 1) := by decide +kernel
theorem d22_15 : decode jdk_65_method_133_code 15 = .ok (.iload_n 1, 1) := by decide +kernel
theorem d22_16 : decode jdk_65_method_133_code 16 = .ok (.aload 4, 2) := by decide +kernel
theorem d22_18 : decode jdk_65_method_133_code 18 = .ok (.iconst 0, 1) := by decide +kernel
theorem d22_19 : decode jdk_65_method_133_code 19 = .ok (.aload_n 0, 1) := by decide +kernel
theorem d22_20 : decode jdk_65_method_133_code 20 = .ok (.arraylength, 1) := by decide +kernel
theorem d22_21 : decode jdk_65_method_133_code 21 = .ok (.iload_n 1, 1) := by decide +kernel
theorem d22_22 : decode jdk_65_method_133_code 22 = .ok (.isub, 1) := by decide +kernel
theorem d22_23 : decode jdk_65_method_133_code 23 = .ok (.iload_n 3, 1) := by decide +kernel
theorem d22_24 : decode jdk_65_method_133_code 24 = .ok (.invokestatic 304, 3) := by decide +kernel
theorem d22_27 : decode jdk_65_method_133_code 27 = .ok (.invokestatic 150, 3) := by decide +kernel
theorem d22_30 : decode jdk_65_method_133_code 30 = .ok (.aload 4, 2) := by decide +kernel
theorem d22_32 : decode jdk_65_method_133_code 32 = .ok (.areturn, 1) := by decide +kernel
theorem pn_21 : plainName "java/util/Arrays" = true := by first | (simp [plainName, overriddenIn]; done) | decide +kernel
theorem ef_rmCR (m : MethodId) (a1 : Addr) (y_1 : Int32) (y_2 : Int32) : entryFrame m #[(.ref a1), (.int y_1), (.int y_2)] 3 = mkF m 0 #[.val (.ref a1), .val (.int y_1), .val (.int y_2)] [] := by first | (simp [entryFrame, mkF, argsToLocals, Value.category]; done) | rfl
theorem d21_0 : decode jdk_65_method_132_code 0 = .ok (.iload_n 1, 1) := by decide +kernel
theorem d21_1 : decode jdk_65_method_132_code 1 = .ok (.ifCond .ne 9, 3) := by decide +kernel
theorem d21_4 : decode jdk_65_method_132_code 4 = .ok (.iload_n 2, 1) := by decide +kernel
theorem d21_5 : decode jdk_65_method_132_code 5 = .ok (.aload_n 0, 1) := by decide +kernel
theorem d21_6 : decode jdk_65_method_132_code 6 = .ok (.arraylength, 1) := by decide +kernel
theorem d21_7 : decode jdk_65_method_132_code 7 = .ok (.if_icmp .eq 10, 3) := by decide +kernel
theorem d21_10 : decode jdk_65_method_132_code 10 = .ok (.aload_n 0, 1) := by decide +kernel
theorem d21_11 : decode jdk_65_method_132_code 11 = .ok (.iload_n 1, 1) := by decide +kernel
theorem d21_12 : decode jdk_65_method_132_code 12 = .ok (.iload_n 2, 1) := by decide +kernel
theorem d21_13 : decode jdk_65_method_132_code 13 = .ok (.invokestatic 339, 3) := by decide +kernel
theorem pd___BII__B : parseMethodDescriptor "([BII)[B" = some ⟨[(.array .byte), .int, .int], some (.array .byte)⟩ := by decide +kernel
theorem d21_16 : decode jdk_65_method_132_code 16 = .ok (.areturn, 1) := by decide +kernel
theorem pn_16 : plainName "java/lang/String" = true := by first | (simp [plainName, overriddenIn]; done) | decide +kernel
theorem ef_rmT2 (m : MethodId) (a1 : Addr) (a2 : Addr) : entryFrame m #[(.ref a1), (.ref a2), .null] 5 = mkF m 0 #[.val (.ref a1), .val (.ref a2), .val .null, .unset, .unset] [] := by first | (simp [entryFrame, mkF, argsToLocals, Value.category]; done) | rfl
theorem d16_0 : decode jdk_42_method_150_code 0 = .ok (.aload_n 0, 1) := by decide +kernel
theorem d16_1 : decode jdk_42_method_150_code 1 = .ok (.invokespecial 1, 3) := by decide +kernel
theorem d16_4 : decode jdk_42_method_150_code 4 = .ok (.aload_n 1, 1) := by decide +kernel
theorem d16_5 : decode jdk_42_method_150_code 5 = .ok (.invokevirtual 552, 3) := by decide +kernel
theorem pd____B : parseMethodDescriptor "()[B" = some ⟨[], some (.array .byte)⟩ := by decide +kernel
theorem d16_8 : decode jdk_42_method_150_code 8 = .ok (.astore_n 3, 1) := by decide +kernel
theorem d16_9 : decode jdk_42_method_150_code 9 = .ok (.aload_n 1, 1) := by decide +kernel
theorem d16_10 : decode jdk_42_method_150_code 10 = .ok (.invokevirtual 549, 3) := by decide +kernel
theorem d16_13 : decode jdk_42_method_150_code 13 = .ok (.istore 4, 2) := by decide +kernel
theorem d16_15 : decode jdk_42_method_150_code 15 = .ok (.aload_n 1, 1) := by decide +kernel
theorem d16_16 : decode jdk_42_method_150_code 16 = .ok (.invokevirtual 1047, 3) := by decide +kernel
theorem pd___Z : parseMethodDescriptor "()Z" = some ⟨[], some .boolean⟩ := by decide +kernel
theorem d16_19 : decode jdk_42_method_150_code 19 = .ok (.ifCond .eq 22, 3) := by decide +kernel
theorem d16_22 : decode jdk_42_method_150_code 22 = .ok (.aload_n 0, 1) := by decide +kernel
theorem d16_23 : decode jdk_42_method_150_code 23 = .ok (.iconst 0, 1) := by decide +kernel
theorem d16_24 : decode jdk_42_method_150_code 24 = .ok (.putfield 15, 3) := by decide +kernel
theorem d16_27 : decode jdk_42_method_150_code 27 = .ok (.aload_n 0, 1) := by decide +kernel
theorem d16_28 : decode jdk_42_method_150_code 28 = .ok (.aload_n 3, 1) := by decide +kernel
theorem d16_29 : decode jdk_42_method_150_code 29 = .ok (.iconst 0, 1) := by decide +kernel
theorem d16_30 : decode jdk_42_method_150_code 30 = .ok (.iload 4, 2) := by decide +kernel
theorem d16_32 : decode jdk_42_method_150_code 32 = .ok (.invokestatic 54, 3) := by decide +kernel
theorem d16_35 : decode jdk_42_method_150_code 35 = .ok (.putfield 9, 3) := by decide +kernel
theorem d16_38 : decode jdk_42_method_150_code 38 = .ok (.goto 59, 3) := by decide +kernel
theorem d16_97 : decode jdk_42_method_150_code 97 = .ok (.return_, 1) := by decide +kernel
theorem pn_15 : plainName "java/lang/String" = true := by first | (simp [plainName, overriddenIn]; done) | decide +kernel
theorem ef_rmT1 (m : MethodId) (a1 : Addr) (a2 : Addr) : entryFrame m #[(.ref a1), (.ref a2)] 2 = mkF m 0 #[.val (.ref a1), .val (.ref a2)] [] := by first | (simp [entryFrame, mkF, argsToLocals, Value.category]; done) | rfl
theorem d15_0 : decode jdk_42_method_53_code 0 = .ok (.aload_n 0, 1) := by decide +kernel
theorem d15_1 : decode jdk_42_method_53_code 1 = .ok (.aload_n 1, 1) := by decide +kernel
theorem d15_2 : decode jdk_42_method_53_code 2 = .ok (.aconst_null, 1) := by decide +kernel
theorem d15_3 : decode jdk_42_method_53_code 3 = .ok (.invokespecial 489, 3) := by decide +kernel
theorem pd__Ljava_lang_AbstractStringBuilder_Ljava_lang_Void__V : parseMethodDescriptor "(Ljava/lang/AbstractStringBuilder;Ljava/lang/Void;)V" = some ⟨[(.object "java/lang/AbstractStringBuilder"), (.object "java/lang/Void")], none⟩ := by decide +kernel
theorem d15_6 : decode jdk_42_method_53_code 6 = .ok (.return_, 1) := by decide +kernel
theorem pn_14 : plainName "java/lang/StringBuilder" = true := by first | (simp [plainName, overriddenIn]; done) | decide +kernel
theorem ef_rmTS (m : MethodId) (a1 : Addr) : entryFrame m #[(.ref a1)] 1 = mkF m 0 #[.val (.ref a1)] [] := by first | (simp [entryFrame, mkF, argsToLocals, Value.category]; done) | rfl
theorem d14_0 : decode jdk_67_method_42_code 0 = .ok (.new 18, 3) := by decide +kernel
theorem d14_3 : decode jdk_67_method_42_code 3 = .ok (.dup, 1) := by decide +kernel
theorem d14_4 : decode jdk_67_method_42_code 4 = .ok (.aload_n 0, 1) := by decide +kernel
theorem d14_5 : decode jdk_67_method_42_code 5 = .ok (.invokespecial 137, 3) := by decide +kernel
theorem pd__Ljava_lang_StringBuilder__V : parseMethodDescriptor "(Ljava/lang/StringBuilder;)V" = some ⟨[(.object "java/lang/StringBuilder")], none⟩ := by decide +kernel
theorem d14_8 : decode jdk_67_method_42_code 8 = .ok (.areturn, 1) := by decide +kernel
theorem pn_41 : plainName "jdk/internal/util/Preconditions" = true := by first | (simp [plainName, overriddenIn]; done) | decide +kernel
theorem ef_rmPC (m : MethodId) (y_0 : Int32) (y_1 : Int32) (fm : Value) (ref_fm : fm.isRef = true) : entryFrame m #[(.int y_0), (.int y_1), fm] 3 = mkF m 0 #[.val (.int y_0), .val (.int y_1), .val fm] [] := by rcases ref_cases ref_fm with rfl | ⟨_, rfl⟩ <;> first | (simp [entryFrame, mkF, argsToLocals, Value.category]; done) | rfl
theorem d41_0 : decode jdk_41_method_11_code 0 = .ok (.iload_n 0, 1) := by decide +kernel
theorem d41_1 : decode jdk_41_method_11_code 1 = .ok (.ifCond .lt 8, 3) := by decide +kernel
theorem d41_4 : decode jdk_41_method_11_code 4 = .ok (.iload_n 0, 1) := by decide +kernel
theorem d41_5 : decode jdk_41_method_11_code 5 = .ok (.iload_n 1, 1) := by decide +kernel
theorem d41_6 : decode jdk_41_method_11_code 6 = .ok (.if_icmp .lt 10, 3) := by decide +kernel
theorem d41_16 : decode jdk_41_method_11_code 16 = .ok (.iload_n 0, 1) := by decide +kernel
theorem d41_17 : decode jdk_41_method_11_code 17 = .ok (.ireturn, 1) := by decide +kernel
theorem pn_40 : plainName "java/lang/String" = true := by first | (simp [plainName, overriddenIn]; done) | decide +kernel
theorem ef_rmCI (m : MethodId) (y_0 : Int32) (y_1 : Int32) : entryFrame m #[(.int y_0), (.int y_1)] 2 = mkF m 0 #[.val (.int y_0), .val (.int y_1)] [] := by first | (simp [entryFrame, mkF, argsToLocals, Value.category]; done) | rfl
theorem d40_0 : decode jdk_42_method_155_code 0 = .ok (.iload_n 0, 1) := by decide +kernel
theorem d40_1 : decode jdk_42_method_155_code 1 = .ok (.iload_n 1, 1) := by decide +kernel
theorem d40_2 : decode jdk_42_method_155_code 2 = .ok (.getstatic 1053, 3) := by decide +kernel
theorem d40_5 : decode jdk_42_method_155_code 5 = .ok (.invokestatic 1059, 3) := by decide +kernel
theorem pd__IILjava_util_function_BiFunction__I : parseMethodDescriptor "(IILjava/util/function/BiFunction;)I" = some ⟨[.int, .int, (.object "java/util/function/BiFunction")], some .int⟩ := by decide +kernel
theorem d40_8 : decode jdk_42_method_155_code 8 = .ok (.pop, 1) := by decide +kernel
theorem d40_9 : decode jdk_42_method_155_code 9 = .ok (.return_, 1) := by decide +kernel
theorem pn_39 : plainName "java/lang/StringLatin1" = true := by first | (simp [plainName, overriddenIn]; done) | decide +kernel
theorem ef_rmLC (m : MethodId) (a1 : Addr) (y_1 : Int32) : entryFrame m #[(.ref a1), (.int y_1)] 2 = mkF m 0 #[.val (.ref a1), .val (.int y_1)] [] := by first | (simp [entryFrame, mkF, argsToLocals, Value.category]; done) | rfl
theorem d39_0 : decode jdk_43_method_2_code 0 = .ok (.iload_n 1, 1) := by decide +kernel
theorem d39_1 : decode jdk_43_method_2_code 1 = .ok (.aload_n 0, 1) := by decide +kernel
theorem d39_2 : decode jdk_43_method_2_code 2 = .ok (.arraylength, 1) := by decide +kernel
theorem d39_3 : decode jdk_43_method_2_code 3 = .ok (.invokestatic 9, 3) := by decide +kernel
theorem d39_6 : decode jdk_43_method_2_code 6 = .ok (.aload_n 0, 1) := by decide +kernel
theorem d39_7 : decode jdk_43_method_2_code 7 = .ok (.iload_n 1, 1) := by decide +kernel
theorem d39_8 : decode jdk_43_method_2_code 8 = .ok (.baload, 1) := by decide +kernel
theorem d39_9 : decode jdk_43_method_2_code 9 = .ok (.sipush 255, 3) := by decide +kernel
theorem d39_12 : decode jdk_43_method_2_code 12 = .ok (.iand, 1) := by decide +kernel
theorem d39_13 : decode jdk_43_method_2_code 13 = .ok (.i2c, 1) := by decide +kernel
theorem d39_14 : decode jdk_43_method_2_code 14 = .ok (.ireturn, 1) := by decide +kernel
theorem pn_38 : plainName "java/lang/String" = true := by first | (simp [plainName, overriddenIn]; done) | decide +kernel
theorem ef_rmIsL (m : MethodId) (a1 : Addr) : entryFrame m #[(.ref a1)] 1 = mkF m 0 #[.val (.ref a1)] [] := by first | (simp [entryFrame, mkF, argsToLocals, Value.category]; done) | rfl
theorem d38_0 : decode jdk_42_method_154_code 0 = .ok (.getstatic 38, 3) := by decide +kernel
theorem d38_3 : decode jdk_42_method_154_code 3 = .ok (.ifCond .eq 14, 3) := by decide +kernel
theorem d38_6 : decode jdk_42_method_154_code 6 = .ok (.aload_n 0, 1) := by decide +kernel
theorem d38_7 : decode jdk_42_method_154_code 7 = .ok (.getfield 15, 3) := by decide +kernel
theorem d38_10 : decode jdk_42_method_154_code 10 = .ok (.ifCond .ne 7, 3) := by decide +kernel
theorem d38_13 : decode jdk_42_method_154_code 13 = .ok (.iconst 1, 1) := by decide +kernel
theorem d38_14 : decode jdk_42_method_154_code 14 = .ok (.goto 4, 3) := by decide +kernel
theorem d38_18 : decode jdk_42_method_154_code 18 = .ok (.ireturn, 1) := by decide +kernel
theorem pn_37 : plainName "java/lang/String" = true := by first | (simp [plainName, overriddenIn]; done) | decide +kernel
theorem ef_rmCA (m : MethodId) (a1 : Addr) (y_1 : Int32) : entryFrame m #[(.ref a1), (.int y_1)] 2 = mkF m 0 #[.val (.ref a1), .val (.int y_1)] [] := by first | (simp [entryFrame, mkF, argsToLocals, Value.category]; done) | rfl
theorem d37_0 : decode jdk_42_method_56_code 0 = .ok (.aload_n 0, 1) := by decide +kernel
theorem d37_1 : decode jdk_42_method_56_code 1 = .ok (.invokevirtual 492, 3) := by decide +kernel
theorem d37_4 : decode jdk_42_method_56_code 4 = .ok (.ifCond .eq 12, 3) := by decide +kernel
theorem d37_7 : decode jdk_42_method_56_code 7 = .ok (.aload_n 0, 1) := by decide +kernel
theorem d37_8 : decode jdk_42_method_56_code 8 = .ok (.getfield 9, 3) := by decide +kernel
theorem d37_11 : decode jdk_42_method_56_code 11 = .ok (.iload_n 1, 1) := by decide +kernel
theorem d37_12 : decode jdk_42_method_56_code 12 = .ok (.invokestatic 495, 3) := by decide +kernel
theorem pd___BI_C : parseMethodDescriptor "([BI)C" = some ⟨[(.array .byte), .int], some .char⟩ := by decide +kernel
theorem d37_15 : decode jdk_42_method_56_code 15 = .ok (.ireturn, 1) := by decide +kernel
theorem pn_49 : plainName "java/lang/StringLatin1" = true := by first | (simp [plainName, overriddenIn]; done) | decide +kernel
theorem ef_rmCE (m : MethodId) (p1 : Int32) : entryFrame m #[(.int p1)] 1 = mkF m 0 #[.val (.int p1)] [] := by first | (simp [entryFrame, mkF, argsToLocals, Value.category]; done) | rfl
theorem d49_0 : decode jdk_43_method_3_code 0 = .ok (.iload_n 0, 1) := by decide +kernel
theorem d49_1 : decode jdk_43_method_3_code 1 = .ok (.sipush 255, 3) := by decide +kernel
theorem d49_4 : decode jdk_43_method_3_code 4 = .ok (.if_icmp .gt 7, 3) := by decide +kernel
theorem d49_7 : decode jdk_43_method_3_code 7 = .ok (.iconst 1, 1) := by decide +kernel
theorem d49_8 : decode jdk_43_method_3_code 8 = .ok (.goto 4, 3) := by decide +kernel
theorem d49_12 : decode jdk_43_method_3_code 12 = .ok (.ireturn, 1) := by decide +kernel
theorem pn_50 : plainName "java/lang/StringLatin1" = true := by first | (simp [plainName, overriddenIn]; done) | decide +kernel
theorem ef_rmTB (m : MethodId) (p1 : Int32) : entryFrame m #[(.int p1)] 1 = mkF m 0 #[.val (.int p1)] [] := by first | (simp [entryFrame, mkF, argsToLocals, Value.category]; done) | rfl
theorem d50_0 : decode jdk_43_method_46_code 0 = .ok (.iconst 1, 1) := by decide +kernel
theorem d50_1 : decode jdk_43_method_46_code 1 = .ok (.newarray .byte, 2) := by decide +kernel
theorem d50_3 : decode jdk_43_method_46_code 3 = .ok (.dup, 1) := by decide +kernel
theorem d50_4 : decode jdk_43_method_46_code 4 = .ok (.iconst 0, 1) := by decide +kernel
theorem d50_5 : decode jdk_43_method_46_code 5 = .ok (.iload_n 0, 1) := by decide +kernel
theorem d50_6 : decode jdk_43_method_46_code 6 = .ok (.i2b, 1) := by decide +kernel
theorem d50_7 : decode jdk_43_method_46_code 7 = .ok (.bastore, 1) := by decide +kernel
theorem d50_8 : decode jdk_43_method_46_code 8 = .ok (.areturn, 1) := by decide +kernel
theorem pn_51 : plainName "java/lang/String" = true := by first | (simp [plainName, overriddenIn]; done) | decide +kernel
theorem ef_rmSI (m : MethodId) (a1 : Addr) (a2 : Addr) : entryFrame m #[(.ref a1), (.ref a2), (.int (0 : Int32))] 3 = mkF m 0 #[.val (.ref a1), .val (.ref a2), .val (.int (0 : Int32))] [] := by first | (simp [entryFrame, mkF, argsToLocals, Value.category]; done) | rfl
theorem d51_0 : decode jdk_42_method_151_code 0 = .ok (.aload_n 0, 1) := by decide +kernel
theorem d51_1 : decode jdk_42_method_151_code 1 = .ok (.invokespecial 1, 3) := by decide +kernel
theorem d51_4 : decode jdk_42_method_151_code 4 = .ok (.aload_n 0, 1) := by decide +kernel
theorem d51_5 : decode jdk_42_method_151_code 5 = .ok (.aload_n 1, 1) := by decide +kernel
theorem d51_6 : decode jdk_42_method_151_code 6 = .ok (.putfield 9, 3) := by decide +kernel
theorem d51_9 : decode jdk_42_method_151_code 9 = .ok (.aload_n 0, 1) := by decide +kernel
theorem d51_10 : decode jdk_42_method_151_code 10 = .ok (.iload_n 2, 1) := by decide +kernel
theorem d51_11 : decode jdk_42_method_151_code 11 = .ok (.putfield 15, 3) := by decide +kernel
theorem d51_14 : decode jdk_42_method_151_code 14 = .ok (.return_, 1) := by decide +kernel
theorem pn_48 : plainName "java/lang/String" = true := by first | (simp [plainName, overriddenIn]; done) | decide +kernel
theorem ef_rmVO (m : MethodId) (p1 : Int32) : entryFrame m #[(.int p1)] 1 = mkF m 0 #[.val (.int p1)] [] := by first | (simp [entryFrame, mkF, argsToLocals, Value.category]; done) | rfl
theorem d48_0 : decode jdk_42_method_139_code 0 = .ok (.getstatic 38, 3) := by decide +kernel
theorem d48_3 : decode jdk_42_method_139_code 3 = .ok (.ifCond .eq 23, 3) := by decide +kernel
theorem d48_6 : decode jdk_42_method_139_code 6 = .ok (.iload_n 0, 1) := by decide +kernel
theorem d48_7 : decode jdk_42_method_139_code 7 = .ok (.invokestatic 1015, 3) := by decide +kernel
theorem pd__C_Z : parseMethodDescriptor "(C)Z" = some ⟨[.char], some .boolean⟩ := by decide +kernel
theorem d48_10 : decode jdk_42_method_139_code 10 = .ok (.ifCond .eq 16, 3) := by decide +kernel
theorem d48_13 : decode jdk_42_method_139_code 13 = .ok (.new 10, 3) := by decide +kernel
theorem d48_16 : decode jdk_42_method_139_code 16 = .ok (.dup, 1) := by decide +kernel
theorem d48_17 : decode jdk_42_method_139_code 17 = .ok (.iload_n 0, 1) := by decide +kernel
theorem d48_18 : decode jdk_42_method_139_code 18 = .ok (.invokestatic 1018, 3) := by decide +kernel
theorem pd__C__B : parseMethodDescriptor "(C)[B" = some ⟨[.char], some (.array .byte)⟩ := by decide +kernel
theorem d48_21 : decode jdk_42_method_139_code 21 = .ok (.iconst 0, 1) := by decide +kernel
theorem d48_22 : decode jdk_42_method_139_code 22 = .ok (.invokespecial 209, 3) := by decide +kernel
theorem pd___BB_V : parseMethodDescriptor "([BB)V" = some ⟨[(.array .byte), .byte], none⟩ := by decide +kernel
theorem d48_25 : decode jdk_42_method_139_code 25 = .ok (.areturn, 1) := by decide +kernel
theorem pn_1 : plainName "com/example/keyset/keyset/query/DeclarationExceptionForFieldPinLaw" = true := by first | (simp [plainName, overriddenIn]; done) | decide +kernel
theorem ef_rmMk (m : MethodId) (p1 : Int32) : entryFrame m #[(.int p1)] 4 = mkF m 0 #[.val (.int p1), .unset, .unset, .unset] [] := by first | (simp [entryFrame, mkF, argsToLocals, Value.category]; done) | rfl
theorem d1_0 : decode method_2_code 0 = .ok (.iload_n 0, 1) := by decide +kernel
theorem d1_1 : decode method_2_code 1 = .ok (.sipush 255, 3) := by decide +kernel
theorem d1_4 : decode method_2_code 4 = .ok (.iand, 1) := by decide +kernel
theorem d1_5 : decode method_2_code 5 = .ok (.i2c, 1) := by decide +kernel
theorem d1_6 : decode method_2_code 6 = .ok (.istore_n 1, 1) := by decide +kernel
theorem d1_7 : decode method_2_code 7 = .ok (.iload_n 0, 1) := by decide +kernel
theorem d1_8 : decode method_2_code 8 = .ok (.bipush 8, 2) := by decide +kernel
theorem d1_10 : decode method_2_code 10 = .ok (.iushr, 1) := by decide +kernel
theorem d1_11 : decode method_2_code 11 = .ok (.sipush 255, 3) := by decide +kernel
theorem d1_14 : decode method_2_code 14 = .ok (.iand, 1) := by decide +kernel
theorem d1_15 : decode method_2_code 15 = .ok (.i2c, 1) := by decide +kernel
theorem d1_16 : decode method_2_code 16 = .ok (.istore_n 2, 1) := by decide +kernel
theorem d1_17 : decode method_2_code 17 = .ok (.iload_n 0, 1) := by decide +kernel
theorem d1_18 : decode method_2_code 18 = .ok (.bipush 16, 2) := by decide +kernel
theorem d1_20 : decode method_2_code 20 = .ok (.iushr, 1) := by decide +kernel
theorem d1_21 : decode method_2_code 21 = .ok (.sipush 32767, 3) := by decide +kernel
theorem d1_24 : decode method_2_code 24 = .ok (.iand, 1) := by decide +kernel
theorem d1_25 : decode method_2_code 25 = .ok (.iconst 3, 1) := by decide +kernel
theorem d1_26 : decode method_2_code 26 = .ok (.irem, 1) := by decide +kernel
theorem d1_27 : decode method_2_code 27 = .ok (.istore_n 3, 1) := by decide +kernel
theorem d1_28 : decode method_2_code 28 = .ok (.iload_n 3, 1) := by decide +kernel
theorem d1_29 : decode method_2_code 29 = .ok (.ifCond .ne 6, 3) := by decide +kernel
theorem d1_32 : decode method_2_code 32 = .ok (.ldc 7, 2) := by decide +kernel
theorem d1_34 : decode method_2_code 34 = .ok (.areturn, 1) := by decide +kernel
theorem d1_35 : decode method_2_code 35 = .ok (.iload_n 3, 1) := by decide +kernel
theorem d1_36 : decode method_2_code 36 = .ok (.iconst 1, 1) := by decide +kernel
theorem d1_37 : decode method_2_code 37 = .ok (.if_icmp .ne 8, 3) := by decide +kernel
theorem d1_40 : decode method_2_code 40 = .ok (.iload_n 1, 1) := by decide +kernel
theorem d1_41 : decode method_2_code 41 = .ok (.invokestatic 9, 3) := by decide +kernel
theorem pd__C_Ljava_lang_String_ : parseMethodDescriptor "(C)Ljava/lang/String;" = some ⟨[.char], some (.object "java/lang/String")⟩ := by decide +kernel
theorem d1_44 : decode method_2_code 44 = .ok (.areturn, 1) := by decide +kernel
theorem d1_45 : decode method_2_code 45 = .ok (.new 10, 3) := by decide +kernel
theorem d1_48 : decode method_2_code 48 = .ok (.dup, 1) := by decide +kernel
theorem d1_49 : decode method_2_code 49 = .ok (.iconst 2, 1) := by decide +kernel
theorem d1_50 : decode method_2_code 50 = .ok (.newarray .char, 2) := by decide +kernel
theorem d1_52 : decode method_2_code 52 = .ok (.dup, 1) := by decide +kernel
theorem d1_53 : decode method_2_code 53 = .ok (.iconst 0, 1) := by decide +kernel
theorem d1_54 : decode method_2_code 54 = .ok (.iload_n 1, 1) := by decide +kernel
theorem d1_55 : decode method_2_code 55 = .ok (.castore, 1) := by decide +kernel
theorem d1_56 : decode method_2_code 56 = .ok (.dup, 1) := by decide +kernel
theorem d1_57 : decode method_2_code 57 = .ok (.iconst 1, 1) := by decide +kernel
theorem d1_58 : decode method_2_code 58 = .ok (.iload_n 2, 1) := by decide +kernel
theorem d1_59 : decode method_2_code 59 = .ok (.castore, 1) := by decide +kernel
theorem d1_60 : decode method_2_code 60 = .ok (.invokespecial 15, 3) := by decide +kernel
theorem pd___C_V : parseMethodDescriptor "([C)V" = some ⟨[(.array .char)], none⟩ := by decide +kernel
theorem d1_63 : decode method_2_code 63 = .ok (.areturn, 1) := by decide +kernel
theorem pn_33 : plainName "java/lang/Throwable" = true := by first | (simp [plainName, overriddenIn]; done) | decide +kernel
theorem ef_rmTh (m : MethodId) (a1 : Addr) (msg : Value) (ref_msg : msg.isRef = true) : entryFrame m #[(.ref a1), msg] 2 = mkF m 0 #[.val (.ref a1), .val msg] [] := by
  rcases ref_cases ref_msg with rfl | ⟨_, rfl⟩ <;> rfl
theorem d33_0 : decode jdk_78_method_2_code 0 = .ok (.aload_n 0, 1) := by decide +kernel
theorem d33_1 : decode jdk_78_method_2_code 1 = .ok (.invokespecial 1, 3) := by decide +kernel
theorem d33_4 : decode jdk_78_method_2_code 4 = .ok (.aload_n 0, 1) := by decide +kernel
theorem d33_5 : decode jdk_78_method_2_code 5 = .ok (.aload_n 0, 1) := by decide +kernel
theorem d33_6 : decode jdk_78_method_2_code 6 = .ok (.putfield 7, 3) := by decide +kernel
theorem d33_9 : decode jdk_78_method_2_code 9 = .ok (.aload_n 0, 1) := by decide +kernel
theorem d33_10 : decode jdk_78_method_2_code 10 = .ok (.getstatic 13, 3) := by decide +kernel
theorem d33_13 : decode jdk_78_method_2_code 13 = .ok (.putfield 17, 3) := by decide +kernel
theorem d33_16 : decode jdk_78_method_2_code 16 = .ok (.aload_n 0, 1) := by decide +kernel
theorem d33_17 : decode jdk_78_method_2_code 17 = .ok (.getstatic 20, 3) := by decide +kernel
theorem d33_20 : decode jdk_78_method_2_code 20 = .ok (.putfield 24, 3) := by decide +kernel
theorem d33_23 : decode jdk_78_method_2_code 23 = .ok (.aload_n 0, 1) := by decide +kernel
theorem d33_24 : decode jdk_78_method_2_code 24 = .ok (.invokevirtual 27, 3) := by decide +kernel
theorem d33_27 : decode jdk_78_method_2_code 27 = .ok (.pop, 1) := by decide +kernel
theorem d33_28 : decode jdk_78_method_2_code 28 = .ok (.aload_n 0, 1) := by decide +kernel
theorem d33_29 : decode jdk_78_method_2_code 29 = .ok (.aload_n 1, 1) := by decide +kernel
theorem d33_30 : decode jdk_78_method_2_code 30 = .ok (.putfield 31, 3) := by decide +kernel
theorem d33_33 : decode jdk_78_method_2_code 33 = .ok (.return_, 1) := by decide +kernel
theorem pn_32 : plainName "java/lang/Exception" = true := by first | (simp [plainName, overriddenIn]; done) | decide +kernel
theorem ef_rmEx (m : MethodId) (a1 : Addr) (msg : Value) (ref_msg : msg.isRef = true) : entryFrame m #[(.ref a1), msg] 2 = mkF m 0 #[.val (.ref a1), .val msg] [] := by
  rcases ref_cases ref_msg with rfl | ⟨_, rfl⟩ <;> rfl
theorem d32_0 : decode jdk_59_method_2_code 0 = .ok (.aload_n 0, 1) := by decide +kernel
theorem d32_1 : decode jdk_59_method_2_code 1 = .ok (.aload_n 1, 1) := by decide +kernel
theorem d32_2 : decode jdk_59_method_2_code 2 = .ok (.invokespecial 7, 3) := by decide +kernel
theorem d32_5 : decode jdk_59_method_2_code 5 = .ok (.return_, 1) := by decide +kernel
theorem pn_31 : plainName "java/lang/RuntimeException" = true := by first | (simp [plainName, overriddenIn]; done) | decide +kernel
theorem ef_rmRt (m : MethodId) (a1 : Addr) (msg : Value) (ref_msg : msg.isRef = true) : entryFrame m #[(.ref a1), msg] 2 = mkF m 0 #[.val (.ref a1), .val msg] [] := by
  rcases ref_cases ref_msg with rfl | ⟨_, rfl⟩ <;> rfl
theorem d31_0 : decode jdk_58_method_2_code 0 = .ok (.aload_n 0, 1) := by decide +kernel
theorem d31_1 : decode jdk_58_method_2_code 1 = .ok (.aload_n 1, 1) := by decide +kernel
theorem d31_2 : decode jdk_58_method_2_code 2 = .ok (.invokespecial 7, 3) := by decide +kernel
theorem d31_5 : decode jdk_58_method_2_code 5 = .ok (.return_, 1) := by decide +kernel
theorem pn_30 : plainName "com/example/keyset/keyset/query/DeclarationException" = true := by first | (simp [plainName, overriddenIn]; done) | decide +kernel
theorem ef_rmDc (m : MethodId) (a1 : Addr) (msg : Value) (ref_msg : msg.isRef = true) : entryFrame m #[(.ref a1), msg] 2 = mkF m 0 #[.val (.ref a1), .val msg] [] := by
  rcases ref_cases ref_msg with rfl | ⟨_, rfl⟩ <;> rfl
theorem d30_0 : decode prog_2_method_1_code 0 = .ok (.aload_n 0, 1) := by decide +kernel
theorem d30_1 : decode prog_2_method_1_code 1 = .ok (.aload_n 1, 1) := by decide +kernel
theorem d30_2 : decode prog_2_method_1_code 2 = .ok (.invokespecial 1, 3) := by decide +kernel
theorem d30_5 : decode prog_2_method_1_code 5 = .ok (.return_, 1) := by decide +kernel
theorem pn_25 : plainName "com/example/keyset/keyset/query/DeclarationException" = true := by first | (simp [plainName, overriddenIn]; done) | decide +kernel
theorem ef_rmFR (m : MethodId) (a1 : Addr) (a2 : Addr) : entryFrame m #[(.ref a1), (.ref a2)] 2 = mkF m 0 #[.val (.ref a1), .val (.ref a2)] [] := by first | (simp [entryFrame, mkF, argsToLocals, Value.category]; done) | rfl
theorem d25_0 : decode prog_2_method_2_code 0 = .ok (.new 7, 3) := by decide +kernel
theorem d25_3 : decode prog_2_method_2_code 3 = .ok (.dup, 1) := by decide +kernel
theorem d25_4 : decode prog_2_method_2_code 4 = .ok (.new 9, 3) := by decide +kernel
theorem d25_7 : decode prog_2_method_2_code 7 = .ok (.dup, 1) := by decide +kernel
theorem d25_8 : decode prog_2_method_2_code 8 = .ok (.invokespecial 11, 3) := by decide +kernel
theorem pd___V : parseMethodDescriptor "()V" = some ⟨[], none⟩ := by decide +kernel
theorem d25_11 : decode prog_2_method_2_code 11 = .ok (.ldc 14, 2) := by decide +kernel
theorem d25_13 : decode prog_2_method_2_code 13 = .ok (.invokevirtual 16, 3) := by decide +kernel
theorem pd__Ljava_lang_String__Ljava_lang_StringBuilder_ : parseMethodDescriptor "(Ljava/lang/String;)Ljava/lang/StringBuilder;" = some ⟨[(.object "java/lang/String")], some (.object "java/lang/StringBuilder")⟩ := by decide +kernel
theorem d25_16 : decode prog_2_method_2_code 16 = .ok (.aload_n 0, 1) := by decide +kernel
theorem d25_17 : decode prog_2_method_2_code 17 = .ok (.invokevirtual 16, 3) := by decide +kernel
theorem d25_20 : decode prog_2_method_2_code 20 = .ok (.ldc 20, 2) := by decide +kernel
theorem d25_22 : decode prog_2_method_2_code 22 = .ok (.invokevirtual 16, 3) := by decide +kernel
theorem d25_25 : decode prog_2_method_2_code 25 = .ok (.aload_n 1, 1) := by decide +kernel
theorem d25_26 : decode prog_2_method_2_code 26 = .ok (.invokevirtual 16, 3) := by decide +kernel
theorem d25_29 : decode prog_2_method_2_code 29 = .ok (.invokevirtual 22, 3) := by decide +kernel
theorem pd___Ljava_lang_String_ : parseMethodDescriptor "()Ljava/lang/String;" = some ⟨[], some (.object "java/lang/String")⟩ := by decide +kernel
theorem d25_32 : decode prog_2_method_2_code 32 = .ok (.invokespecial 26, 3) := by decide +kernel
theorem d25_35 : decode prog_2_method_2_code 35 = .ok (.areturn, 1) := by decide +kernel
theorem pn_2 : plainName "com/example/keyset/keyset/query/DeclarationException" = true := by first | (simp [plainName, overriddenIn]; done) | decide +kernel
theorem ef_rmFF (m : MethodId) (a1 : Addr) (a2 : Addr) (a3 : Addr) : entryFrame m #[(.ref a1), (.ref a2), (.ref a3)] 3 = mkF m 0 #[.val (.ref a1), .val (.ref a2), .val (.ref a3)] [] := by first | (simp [entryFrame, mkF, argsToLocals, Value.category]; done) | rfl
theorem d2_0 : decode prog_2_method_3_code 0 = .ok (.aload_n 0, 1) := by decide +kernel
theorem d2_1 : decode prog_2_method_3_code 1 = .ok (.new 9, 3) := by decide +kernel
theorem d2_4 : decode prog_2_method_3_code 4 = .ok (.dup, 1) := by decide +kernel
theorem d2_5 : decode prog_2_method_3_code 5 = .ok (.invokespecial 11, 3) := by decide +kernel
theorem d2_8 : decode prog_2_method_3_code 8 = .ok (.ldc 27, 2) := by decide +kernel
theorem d2_10 : decode prog_2_method_3_code 10 = .ok (.invokevirtual 16, 3) := by decide +kernel
theorem d2_13 : decode prog_2_method_3_code 13 = .ok (.aload_n 1, 1) := by decide +kernel
theorem d2_14 : decode prog_2_method_3_code 14 = .ok (.invokevirtual 16, 3) := by decide +kernel
theorem d2_17 : decode prog_2_method_3_code 17 = .ok (.ldc 20, 2) := by decide +kernel
theorem d2_19 : decode prog_2_method_3_code 19 = .ok (.invokevirtual 16, 3) := by decide +kernel
theorem d2_22 : decode prog_2_method_3_code 22 = .ok (.aload_n 2, 1) := by decide +kernel
theorem d2_23 : decode prog_2_method_3_code 23 = .ok (.invokevirtual 16, 3) := by decide +kernel
theorem d2_26 : decode prog_2_method_3_code 26 = .ok (.invokevirtual 22, 3) := by decide +kernel
theorem d2_29 : decode prog_2_method_3_code 29 = .ok (.invokestatic 29, 3) := by decide +kernel
theorem pd__Ljava_lang_String_Ljava_lang_String__Lcom_example_keyset_keyset_query_DeclarationException_ : parseMethodDescriptor "(Ljava/lang/String;Ljava/lang/String;)Lcom/example/keyset/keyset/query/DeclarationException;" = some ⟨[(.object "java/lang/String"), (.object "java/lang/String")], some (.object "com/example/keyset/keyset/query/DeclarationException")⟩ := by decide +kernel
theorem d2_32 : decode prog_2_method_3_code 32 = .ok (.areturn, 1) := by decide +kernel
theorem pn_36 : plainName "java/lang/Throwable" = true := by first | (simp [plainName, overriddenIn]; done) | decide +kernel
theorem ef_rmGM (m : MethodId) (a1 : Addr) : entryFrame m #[(.ref a1)] 1 = mkF m 0 #[.val (.ref a1)] [] := by first | (simp [entryFrame, mkF, argsToLocals, Value.category]; done) | rfl
theorem d36_0 : decode jdk_78_method_6_code 0 = .ok (.aload_n 0, 1) := by decide +kernel
theorem d36_1 : decode jdk_78_method_6_code 1 = .ok (.getfield 31, 3) := by decide +kernel
theorem d36_4 : decode jdk_78_method_6_code 4 = .ok (.areturn, 1) := by decide +kernel
theorem pn_42 : plainName "com/example/keyset/keyset/query/DeclarationExceptionForFieldPinLaw" = true := by first | (simp [plainName, overriddenIn]; done) | decide +kernel
theorem ef_rmPt (m : MethodId) (a1 : Addr) (y_1 : Int32) (a3 : Addr) : entryFrame m #[(.ref a1), (.int y_1), (.ref a3)] 4 = mkF m 0 #[.val (.ref a1), .val (.int y_1), .val (.ref a3), .unset] [] := by first | (simp [entryFrame, mkF, argsToLocals, Value.category]; done) | rfl
theorem d42_0 : decode method_3_code 0 = .ok (.iconst 1, 1) := by decide +kernel
theorem d42_1 : decode method_3_code 1 = .ok (.istore_n 3, 1) := by decide +kernel
theorem d42_2 : decode method_3_code 2 = .ok (.aload_n 2, 1) := by decide +kernel
theorem d42_3 : decode method_3_code 3 = .ok (.invokevirtual 18, 3) := by decide +kernel
theorem d42_6 : decode method_3_code 6 = .ok (.ifCond .le 26, 3) := by decide +kernel
theorem d42_9 : decode method_3_code 9 = .ok (.iload_n 3, 1) := by decide +kernel
theorem d42_10 : decode method_3_code 10 = .ok (.ifCond .eq 20, 3) := by decide +kernel
theorem d42_13 : decode method_3_code 13 = .ok (.aload_n 0, 1) := by decide +kernel
theorem d42_14 : decode method_3_code 14 = .ok (.iload_n 1, 1) := by decide +kernel
theorem d42_15 : decode method_3_code 15 = .ok (.invokevirtual 22, 3) := by decide +kernel
theorem pd__I_C : parseMethodDescriptor "(I)C" = some ⟨[.int], some .char⟩ := by decide +kernel
theorem d42_18 : decode method_3_code 18 = .ok (.aload_n 2, 1) := by decide +kernel
theorem d42_19 : decode method_3_code 19 = .ok (.iconst 0, 1) := by decide +kernel
theorem d42_20 : decode method_3_code 20 = .ok (.invokevirtual 22, 3) := by decide +kernel
theorem d42_23 : decode method_3_code 23 = .ok (.if_icmp .ne 7, 3) := by decide +kernel
theorem d42_26 : decode method_3_code 26 = .ok (.iconst 1, 1) := by decide +kernel
theorem d42_27 : decode method_3_code 27 = .ok (.goto 4, 3) := by decide +kernel
theorem d42_31 : decode method_3_code 31 = .ok (.istore_n 3, 1) := by decide +kernel
theorem d42_32 : decode method_3_code 32 = .ok (.aload_n 2, 1) := by decide +kernel
theorem d42_33 : decode method_3_code 33 = .ok (.invokevirtual 18, 3) := by decide +kernel
theorem d42_36 : decode method_3_code 36 = .ok (.iconst 1, 1) := by decide +kernel
theorem d42_37 : decode method_3_code 37 = .ok (.if_icmp .le 28, 3) := by decide +kernel
theorem d42_40 : decode method_3_code 40 = .ok (.iload_n 3, 1) := by decide +kernel
theorem d42_41 : decode method_3_code 41 = .ok (.ifCond .eq 22, 3) := by decide +kernel
theorem d42_44 : decode method_3_code 44 = .ok (.aload_n 0, 1) := by decide +kernel
theorem d42_45 : decode method_3_code 45 = .ok (.iload_n 1, 1) := by decide +kernel
theorem d42_46 : decode method_3_code 46 = .ok (.iconst 1, 1) := by decide +kernel
theorem d42_47 : decode method_3_code 47 = .ok (.iadd, 1) := by decide +kernel
theorem d42_48 : decode method_3_code 48 = .ok (.invokevirtual 22, 3) := by decide +kernel
theorem d42_51 : decode method_3_code 51 = .ok (.aload_n 2, 1) := by decide +kernel
theorem d42_52 : decode method_3_code 52 = .ok (.iconst 1, 1) := by decide +kernel
theorem d42_53 : decode method_3_code 53 = .ok (.invokevirtual 22, 3) := by decide +kernel
theorem d42_56 : decode method_3_code 56 = .ok (.if_icmp .ne 7, 3) := by decide +kernel
theorem d42_59 : decode method_3_code 59 = .ok (.iconst 1, 1) := by decide +kernel
theorem d42_60 : decode method_3_code 60 = .ok (.goto 4, 3) := by decide +kernel
theorem d42_64 : decode method_3_code 64 = .ok (.istore_n 3, 1) := by decide +kernel
theorem d42_65 : decode method_3_code 65 = .ok (.iload_n 3, 1) := by decide +kernel
theorem d42_66 : decode method_3_code 66 = .ok (.ireturn, 1) := by decide +kernel
theorem pn_0 : plainName "com/example/keyset/keyset/query/DeclarationExceptionForFieldPinLaw" = true := by first | (simp [plainName, overriddenIn]; done) | decide +kernel
theorem ef_rm0 (m : MethodId) (p1 : Int32) (p2 : Int32) (p3 : Int32) : entryFrame m #[(.int p1), (.int p2), (.int p3)] maxLocals = mkF m 0 #[.val (.int p1), .val (.int p2), .val (.int p3), .unset, .unset, .unset, .unset, .unset, .unset, .unset, .unset, .unset, .unset, .unset] [] := by first | (simp [entryFrame, mkF, argsToLocals, Value.category, maxLocals]; done) | rfl
theorem pd__I_Ljava_lang_String_ : parseMethodDescriptor "(I)Ljava/lang/String;" = some ⟨[.int], some (.object "java/lang/String")⟩ := by decide +kernel
theorem pd__Ljava_lang_String_Ljava_lang_String_Ljava_lang_String__Lcom_example_keyset_keyset_query_DeclarationException_ : parseMethodDescriptor "(Ljava/lang/String;Ljava/lang/String;Ljava/lang/String;)Lcom/example/keyset/keyset/query/DeclarationException;" = some ⟨[(.object "java/lang/String"), (.object "java/lang/String"), (.object "java/lang/String")], some (.object "com/example/keyset/keyset/query/DeclarationException")⟩ := by decide +kernel
theorem pd__Ljava_lang_String_ILjava_lang_String__Z : parseMethodDescriptor "(Ljava/lang/String;ILjava/lang/String;)Z" = some ⟨[(.object "java/lang/String"), .int, (.object "java/lang/String")], some .boolean⟩ := by decide +kernel
/-! the same, where String constants may be loaded on the way (the library's LawHeld: CHv, CHr, Safe) -/
def GoH (p : Program) (e : Env) (below : List Frame) (s : State) (C S : Nat) (Z : State) (h0 : Heap) (EL : List (String × Nat)) (Q : Option Value → Heap → List Loc → Prop) (T : State) (g : JFrame) : Prop :=
  ∃ s₂ o, Steps p.tables e below (T.setTop g) s₂ ∧ s₂.status = .running ∧ Ended s₂ below o ∧ ∃ v L, o = .returned v ∧ Q v s₂.heap L ∧ CHr Z EL s.vm h0 s₂.vm s₂.heap ∧ ReturnedEndW s o s₂ L C S
section GoHKit
variable {p : Program} {l : Launch} {e : Env} {R : Room} {s : State} {vm0 : Vm} {m : MethodId} {args : Array Value} {below : List Frame} {meth : Method} {c : Code} {T T' : State} {g g' : JFrame} {locs : List Loc} {cells slots C S k0 : Nat} {Q : Option Value → Heap → List Loc → Prop} {Z : State} {a0 : Array Value} {h h0 h' : Heap} {n0 : Nat} {EL : List (String × Nat)}
theorem GoH.st (st : ∀ t, Steps p.tables e below (T'.setTop g') t → Steps p.tables e below (T.setTop g) t) (k : GoH p e below s C S Z h0 EL Q T' g') : GoH p e below s C S Z h0 EL Q T g := by
  obtain ⟨s₂, o, h1, h2⟩ := k; exact ⟨s₂, o, st _ h1, h2⟩
theorem GoH.tr (st : Steps p.tables e below (T.setTop g) (T'.setTop g')) (k : GoH p e below s C S Z h0 EL Q T' g') : GoH p e below s C S Z h0 EL Q T g := by
  obtain ⟨s₂, o, h1, h2⟩ := k; exact ⟨s₂, o, st.trans h1, h2⟩
theorem GoH.eq (q : g = g') (k : GoH p e below s C S Z h0 EL Q T g') : GoH p e below s C S Z h0 EL Q T g := q ▸ k
theorem GoH.fin (X : Stand p l e R (s.setVm vm0) m args below meth c T locs cells slots) (hS : s.Since vm0 k0) (hk : k0 ≤ h.size) (eT : T.heap = h) (hZ : Z.Warmed39 vm0) (hEL : EW Z a0 EL) (H : CHv Z EL vm0 h) (RR : CHr Z EL s.vm h0 vm0 h) (hlk : meth.locks = false) {v : Option Value} (hv : meth.sig.returnType = none → v = none) (hc : cells ≤ C) (hs : slots ≤ S) (q : Q v T.heap locs)
    (k : ∀ fs, (∀ (f : JFrame) (acts : List Action), f.method = m → f.locked = none → f.entered = [] → (doReturn e (T.setTop f) acts v).1 = T.setFrames fs) → Steps p.tables e below (T.setTop g) (T.setFrames fs)) : GoH p e below s C S Z h0 EL Q T g := by
  obtain ⟨fs, hr, hrun, hended, hW⟩ := X.leaveW hS (eT ▸ hk) (v := v) hv hlk
  refine ⟨_, _, k fs hr, hrun, hended, _, _, rfl, q, ?_, hW.1, hW.2.1, hW.2.2.1, hW.2.2.2.mono hc hs⟩
  show CHr Z EL s.vm h0 T.vm T.heap
  rw [eT]; exact RR.trans (CHv.at X hZ hEL H)
theorem GoH.retN (X : Stand p l e R (s.setVm vm0) m args below meth c T locs cells slots) (hS : s.Since vm0 k0) (hk : k0 ≤ h.size) (eT : T.heap = h) (hZ : Z.Warmed39 vm0) (hEL : EW Z a0 EL) (H : CHv Z EL vm0 h) (RR : CHr Z EL s.vm h0 vm0 h) (hlk : meth.locks = false) (hx : p.tables.exec = Jvm.exec) {pc : Nat} {Ls : Array Slot} {z z' : Int32} {t : FieldType} {rest : List Value} (hret : meth.sig.returnType = some t) (ht : t = .boolean ∨ t = .byte ∨ t = .char ∨ t = .short)
    (hd : decode c.code pc = .ok (.ireturn, 1)) (hc : cells ≤ C) (hs : slots ≤ S) (hz : nar t z = z') (q : Q (some (.int z')) T.heap locs) : GoH p e below s C S Z h0 EL Q T (mkF m pc Ls (.int z :: rest)) := by
  subst hz
  exact GoH.fin X hS hk eT hZ hEL H RR hlk (fun h => by rw [hret] at h; cases h) hc hs q fun fs hr => Jvm.RoadKit.retN X hx hret ht hd hr
theorem GoH.retV (X : Stand p l e R (s.setVm vm0) m args below meth c T locs cells slots) (hS : s.Since vm0 k0) (hk : k0 ≤ h.size) (eT : T.heap = h) (hZ : Z.Warmed39 vm0) (hEL : EW Z a0 EL) (H : CHv Z EL vm0 h) (RR : CHr Z EL s.vm h0 vm0 h) (hlk : meth.locks = false) (hx : p.tables.exec = Jvm.exec) {pc : Nat} {Ls : Array Slot} {w : Value} {t : FieldType} {i : Instr} {rest : List Value} (hret : meth.sig.returnType = some t) (hn : narrow t w = w)
    (hi : (i = .ireturn ∧ (t = .int ∨ t = .boolean ∨ t = .byte ∨ t = .char ∨ t = .short) ∧ ∃ z, w = .int z) ∨ (i = .lreturn ∧ t = .long ∧ ∃ z, w = .long z) ∨ (i = .dreturn ∧ t = .double ∧ ∃ z, w = .double z) ∨ (i = .freturn ∧ t = .float ∧ ∃ z, w = .float z) ∨ (i = .areturn ∧ t.isReference = true ∧ w.isRef = true))
    (hd : decode c.code pc = .ok (i, 1)) (hc : cells ≤ C) (hs : slots ≤ S) (q : Q (some w) T.heap locs) : GoH p e below s C S Z h0 EL Q T (mkF m pc Ls (w :: rest)) :=
  GoH.fin X hS hk eT hZ hEL H RR hlk (fun h => by rw [hret] at h; cases h) hc hs q fun fs hr => Jvm.RoadKit.retOut X hx hret hn hi hd hr
theorem GoH.retR (X : Stand p l e R (s.setVm vm0) m args below meth c T locs cells slots) (hS : s.Since vm0 k0) (hk : k0 ≤ h.size) (eT : T.heap = h) (hZ : Z.Warmed39 vm0) (hEL : EW Z a0 EL) (H : CHv Z EL vm0 h) (RR : CHr Z EL s.vm h0 vm0 h) (hlk : meth.locks = false) (hx : p.tables.exec = Jvm.exec) {pc : Nat} {Ls : Array Slot} {w : Value} {t : FieldType} {rest : List Value} (hret : meth.sig.returnType = some t) (ht : t.isReference = true) (hw : w.isRef = true) (hn : narrow t w = w)
    (hd : decode c.code pc = .ok (.areturn, 1)) (hc : cells ≤ C) (hs : slots ≤ S) (q : Q (some w) T.heap locs) : GoH p e below s C S Z h0 EL Q T (mkF m pc Ls (w :: rest)) :=
  GoH.retV X hS hk eT hZ hEL H RR hlk hx hret hn (Or.inr (Or.inr (Or.inr (Or.inr ⟨rfl, ht, hw⟩)))) hd hc hs q
theorem GoH.retI (X : Stand p l e R (s.setVm vm0) m args below meth c T locs cells slots) (hS : s.Since vm0 k0) (hk : k0 ≤ h.size) (eT : T.heap = h) (hZ : Z.Warmed39 vm0) (hEL : EW Z a0 EL) (H : CHv Z EL vm0 h) (RR : CHr Z EL s.vm h0 vm0 h) (hlk : meth.locks = false) (hx : p.tables.exec = Jvm.exec) {pc : Nat} {Ls : Array Slot} {z : Int32} {rest : List Value} (hret : meth.sig.returnType = some .int)
    (hd : decode c.code pc = .ok (.ireturn, 1)) (hc : cells ≤ C) (hs : slots ≤ S) (q : Q (some (.int z)) T.heap locs) : GoH p e below s C S Z h0 EL Q T (mkF m pc Ls (.int z :: rest)) :=
  GoH.retV X hS hk eT hZ hEL H RR hlk hx hret rfl (Or.inl ⟨rfl, Or.inl rfl, z, rfl⟩) hd hc hs q
theorem GoH.ret0 (X : Stand p l e R (s.setVm vm0) m args below meth c T locs cells slots) (hS : s.Since vm0 k0) (hk : k0 ≤ h.size) (eT : T.heap = h) (hZ : Z.Warmed39 vm0) (hEL : EW Z a0 EL) (H : CHv Z EL vm0 h) (RR : CHr Z EL s.vm h0 vm0 h) (hlk : meth.locks = false) (hx : p.tables.exec = Jvm.exec) {pc : Nat} {Ls : Array Slot} (hret : meth.sig.returnType = none)
    (hd : decode c.code pc = .ok (.return_, 1)) (hc : cells ≤ C) (hs : slots ≤ S) (q : Q none T.heap locs) : GoH p e below s C S Z h0 EL Q T (mkF m pc Ls []) :=
  GoH.fin X hS hk eT hZ hEL H RR hlk (fun _ => rfl) hc hs q fun fs hr => X.returnOut hx hret hd hr
theorem own_backSH {y : MethodName} {bytes : ByteArray} {maxL : Nat} {ret : Option FieldType} {rm : Room} {len W : Nat} {as' : Array Value} {sf : List Addr}
    (hM : MetFree l y (head1 [Cond.code y bytes maxL ret] rm) (fun a U => a = as' ∧ Z.Warmed39 U.vm ∧ U.heap = h ∧ CHv Z EL U.vm h ∧ ∀ x ∈ sf, Safe Z EL U.vm h x) (fun _ _ _ _ _ => True) (fun _ U o U' => ∃ v L, o = .returned v ∧ Q v U'.heap L ∧ CHr Z EL U.vm U.heap U'.vm U'.heap ∧ ReturnedEndW U o U' L rm.cells rm.slots))
    (hZ : Z.Warmed39 vm0) (wc : (Cond.code y bytes maxL ret).before a0 Z = true) (wz : (Cond.initialized y.cls).before a0 Z = true) (hf : rm.frames + 1 ≤ R.frames) (hl : W + (maxL + 11) + rm.locals ≤ R.locals) (hEL : EW Z a0 EL) (H : CHv Z EL vm0 h) (hsf : ∀ x ∈ sf, Safe Z EL vm0 h x ∧ x < Array.size h) :
    BackS l R p e below (s.setVm vm0) args y len W (fun A a => a = as' ∧ A.U.heap = h ∧ A.cells + rm.cells ≤ R.cells ∧ A.slots + rm.slots ≤ R.slots)
      (fun A _ v B => ∃ L, Q v B.U.heap L ∧ B.locs = A.locs ++ L ∧ B.cells = A.cells + rm.cells ∧ B.slots = A.slots + rm.slots ∧ CHr Z EL vm0 h B.U.vm B.U.heap) := by
  have up : ∀ {m meth c} {A : Pt}, Stand p l e R (s.setVm vm0) m args below meth c A.U A.locs A.cells A.slots → Z.Warmed39 A.U.vm := fun Y => wtrans (s := s.setVm vm0) hZ Y.warmed
  refine BackS.of_freeW (bytes := bytes) (maxL := maxL) (ret := ret) (E := fun _ first o t L k n => (k = rm.cells ∧ n = rm.slots) ∧ (∃ v, o = .returned v ∧ Q v t.heap L) ∧ CHr Z EL first.vm first.heap t.vm t.heap) hM hf hl ?_ ?_ ?_ ?_ ?_
  · intro m meth c A a Y hp
    refine ⟨?_, mv (up Y) wc, mv (up Y) wz, hp.2.2.1, hp.2.2.2⟩
    show (Cond.and _ .tt).before a A.U = true
    rw [Cond.before_and, mv (up Y) wc]; rfl
  · intro m meth c A a g mk Y hp
    have q := CHv.at Y hZ hEL H
    exact ⟨hp.1, up Y, hp.2.1, q.1, fun x hx => q.safe (hsf x hx).2 (hsf x hx).1⟩
  · intro _ _ _ _ _ _ _ _ _; trivial
  · intro _ _ _ _ hq
    obtain ⟨v, L, h1, h2, h3, h4⟩ := hq
    exact ⟨L, _, _, h4, ⟨rfl, rfl⟩, ⟨v, h1, h2⟩, h3⟩
  · intro m meth c A a g mk v t L k n Y hp _ _ hq
    obtain ⟨⟨e1, e2⟩, ⟨v', e3, e4⟩, e5⟩ := hq
    cases e3; subst e1 e2
    refine ⟨L, e4, rfl, rfl, rfl, (CHv.at Y hZ hEL H).trans ?_⟩
    rw [← hp.2.1]; exact e5
theorem own_backSKH {y : MethodName} {bytes : ByteArray} {maxL : Nat} {ret : Option FieldType} {rm : Room} {len W : Nat} {as' : Array Value} {sf : List Addr}
    (hM : MetFree l y (head1 [Cond.code y bytes maxL ret] rm) (fun a U => a = as' ∧ Z.Warmed39 U.vm ∧ U.heap = h ∧ CHv Z EL U.vm h ∧ ∀ x ∈ sf, Safe Z EL U.vm h x) (fun _ _ bl s _ => s.vm.MethodsKnown ∧ s.vm.FramesKnown bl) (fun _ U o U' => ∃ v L, o = .returned v ∧ Q v U'.heap L ∧ CHr Z EL U.vm U.heap U'.vm U'.heap ∧ ReturnedEndW U o U' L rm.cells rm.slots))
    (hZ : Z.Warmed39 vm0) (wc : (Cond.code y bytes maxL ret).before a0 Z = true) (wz : (Cond.initialized y.cls).before a0 Z = true) (hf : rm.frames + 1 ≤ R.frames) (hl : W + (maxL + 11) + rm.locals ≤ R.locals) (hEL : EW Z a0 EL) (H : CHv Z EL vm0 h) (hsf : ∀ x ∈ sf, Safe Z EL vm0 h x ∧ x < Array.size h) (hTK : vm0.MethodsKnown) (hBelow : vm0.FramesKnown below) :
    BackS l R p e below (s.setVm vm0) args y len W (fun A a => a = as' ∧ A.U.heap = h ∧ A.cells + rm.cells ≤ R.cells ∧ A.slots + rm.slots ≤ R.slots)
      (fun A _ v B => ∃ L, Q v B.U.heap L ∧ B.locs = A.locs ++ L ∧ B.cells = A.cells + rm.cells ∧ B.slots = A.slots + rm.slots ∧ CHr Z EL vm0 h B.U.vm B.U.heap) := by
  have up : ∀ {m meth c} {A : Pt}, Stand p l e R (s.setVm vm0) m args below meth c A.U A.locs A.cells A.slots → Z.Warmed39 A.U.vm := fun Y => wtrans (s := s.setVm vm0) hZ Y.warmed
  refine BackS.of_freeWG (bytes := bytes) (maxL := maxL) (ret := ret) (E := fun _ first o t L k n => (k = rm.cells ∧ n = rm.slots) ∧ (∃ v, o = .returned v ∧ Q v t.heap L) ∧ CHr Z EL first.vm first.heap t.vm t.heap) hM hf hl ?_ ?_ ?_ ?_ ?_
  · intro m meth c A a Y hp
    refine ⟨?_, mv (up Y) wc, mv (up Y) wz, hp.2.2.1, hp.2.2.2⟩
    show (Cond.and _ .tt).before a A.U = true
    rw [Cond.before_and, mv (up Y) wc]; rfl
  · intro m meth c A a g mk Y hp
    have q := CHv.at Y hZ hEL H
    exact ⟨hp.1, up Y, hp.2.1, q.1, fun x hx => q.safe (hsf x hx).2 (hsf x hx).1⟩
  · intro m meth c A a g mk Y hp hg; exact known_frames Y hg hTK hBelow
  · intro _ _ _ _ hq
    obtain ⟨v, L, h1, h2, h3, h4⟩ := hq
    exact ⟨L, _, _, h4, ⟨rfl, rfl⟩, ⟨v, h1, h2⟩, h3⟩
  · intro m meth c A a g mk v t L k n Y hp _ _ hq
    obtain ⟨⟨e1, e2⟩, ⟨v', e3, e4⟩, e5⟩ := hq
    cases e3; subst e1 e2
    refine ⟨L, e4, rfl, rfl, rfl, (CHv.at Y hZ hEL H).trans ?_⟩
    rw [← hp.2.1]; exact e5
theorem own_since (s : State) (n : Nat) : s.Since s.vm n := (State.WarmedH.since (s := s) (vm₁ := s.vm) (State.WarmedH.refl s) n)
theorem GoH.pure {w : Option Value} {Qc : Option Value → Heap → List Loc → Prop} {rest : List Value} {pc' : Nat} (H : ∃ (v : Option Value) (vm₁ : Vm) (B : Pt), (s.setVm vm0).WarmedH vm₁ ∧ Stand p l e R (s.setVm vm0) m args below meth c B.U B.locs B.cells B.slots ∧ (∃ L, Qc v B.U.heap L ∧ B.locs = locs ++ L ∧ B.cells = cells + 0 ∧ B.slots = slots + 0) ∧ Steps p.tables e below (T.setTop g) (B.U.setTop { g with pc := pc', stack := v.toList ++ rest })) (hq : ∀ v h' L, Qc v h' L → v = w ∧ Fr n0 L ∧ h' = h) (N : Fr n0 locs)
    (k : ∀ T' L', Stand p l e R (s.setVm vm0) m args below meth c T' L' cells slots → T'.heap = h → Fr n0 L' → GoH p e below s C S Z h0 EL Q T' { g with pc := pc', stack := w.toList ++ rest }) : GoH p e below s C S Z h0 EL Q T g := by
  obtain ⟨v, vm1, ⟨T', L', c', s'⟩, -, X, ⟨L, q, e1, e2, e3⟩, st⟩ := H
  obtain ⟨rfl, q2, q3⟩ := hq _ _ _ q
  dsimp only [Pt.U, Pt.locs, Pt.cells, Pt.slots] at X e1 e2 e3 st q3
  subst e1 e2 e3
  exact GoH.tr st (k _ _ X q3 (Fr.app N q2))
theorem GoH.pureS {w : Option Value} {Qc : Option Value → Heap → List Loc → Prop} {rest : List Value} {pc' : Nat} (H : ∃ (v : Option Value) (vm₁ : Vm) (B : Pt), (s.setVm vm0).WarmedH vm₁ ∧ Stand p l e R (s.setVm vm0) m args below meth c B.U B.locs B.cells B.slots ∧ (∃ L, Qc v B.U.heap L ∧ B.locs = locs ++ L ∧ B.cells = cells + 0 ∧ B.slots = slots + 0) ∧ ∀ target, Steps p.tables e below (B.U.setTop { g with pc := pc', stack := v.toList ++ rest }) target → Steps p.tables e below (T.setTop g) target) (hq : ∀ v h' L, Qc v h' L → v = w ∧ Fr n0 L ∧ h' = h) (N : Fr n0 locs)
    (k : ∀ T' L', Stand p l e R (s.setVm vm0) m args below meth c T' L' cells slots → T'.heap = h → Fr n0 L' → GoH p e below s C S Z h0 EL Q T' { g with pc := pc', stack := w.toList ++ rest }) : GoH p e below s C S Z h0 EL Q T g := by
  obtain ⟨v, vm1, ⟨T', L', c', s'⟩, -, X, ⟨L, q, e1, e2, e3⟩, st⟩ := H
  obtain ⟨rfl, q2, q3⟩ := hq _ _ _ q
  dsimp only [Pt.U, Pt.locs, Pt.cells, Pt.slots] at X e1 e2 e3 st q3
  subst e1 e2 e3
  exact GoH.st st (k _ _ X q3 (Fr.app N q2))
end GoHKit

abbrev EL : List (String × Nat) := consts_1
theorem own_m255 (z : Int32) : ¬ nar .char ((z &&& (255 : Int32)).toUInt32.toUInt16.toUInt32.toInt32) < 0 ∧ ¬ (255 : Int32) < nar .char ((z &&& (255 : Int32)).toUInt32.toUInt16.toUInt32.toInt32) := by
  have small : ∀ k : Fin 256, ¬ nar .char ((Int32.ofNat k.val).toUInt32.toUInt16.toUInt32.toInt32) < 0 ∧ ¬ (255 : Int32) < nar .char ((Int32.ofNat k.val).toUInt32.toUInt16.toUInt32.toInt32) := by decide +kernel
  have lt : (z &&& 255).toBitVec.toNat < 256 := by
    rw [Int32.toBitVec_and, BitVec.toNat_and]; exact Nat.lt_succ_of_le Nat.and_le_right
  have eq : (z &&& 255) = Int32.ofNat (z &&& 255).toBitVec.toNat := by
    apply Int32.toBitVec_inj.mp
    show _ = BitVec.ofNat 32 _
    rw [BitVec.ofNat_toNat]; simp
  rw [eq]; exact small ⟨_, lt⟩
theorem own_nil {P : Int32 → Prop} : ∀ c ∈ ([] : List Int32), P c := fun _ q => nomatch q
theorem own_cons {P : Int32 → Prop} {y : Int32} {L : List Int32} (q : P y) (r : ∀ c ∈ L, P c) : ∀ c ∈ y :: L, P c := fun x z => (List.mem_cons.mp z).elim (fun u => u ▸ q) (r x)
theorem own_narrow {x : Value} {c : String} (h : x.isRef = true) : narrow (.object c) x = x := by cases x <;> first | rfl | simp [Value.isRef] at h
theorem own_fits {x : Value} {c : String} (h : x.isRef = true) : fits (.object c) x = true := by cases x <;> first | rfl | simp [Value.isRef] at h
theorem own_selfsel2 {C : String} {y : MethodName} {args : Array Value} {s : State} (hs : (Jvm.Cond.selects C y y).before args s = true) (hp : (Jvm.Cond.privateMethod y).before args s = true) (hi : (Jvm.Cond.instanceMethod y).before args s = true) (hy : y.cls ≠ "java/lang/invoke/MethodHandle" ∧ y.cls ≠ "java/lang/invoke/VarHandle") : (Jvm.Cond.selects y.cls y y).before args s = true := by
  obtain ⟨c2, r2, m2, -, -, q3, -, kP, hkP, hkPi⟩ := Cond.selects_spec hs
  exact selects_self_of_private (findClass_of_methodNamed q3) hkP hkPi (Cond.privateMethod_at hp) hi hy
theorem own_selfsel3 {C : String} {y z : MethodName} {args : Array Value} {s : State} (hs : (Jvm.Cond.selects C z z).before args s = true) (e : z.cls = y.cls) (hp : (Jvm.Cond.privateMethod y).before args s = true) (hi : (Jvm.Cond.instanceMethod y).before args s = true) (hy : y.cls ≠ "java/lang/invoke/MethodHandle" ∧ y.cls ≠ "java/lang/invoke/VarHandle") : (Jvm.Cond.selects y.cls y y).before args s = true := by
  obtain ⟨c2, r2, m2, -, -, q3, -, kP, hkP, hkPi⟩ := Cond.selects_spec hs
  exact selects_self_of_private (e ▸ findClass_of_methodNamed q3) hkP hkPi (Cond.privateMethod_at hp) hi hy
theorem own_same {C : String} {y z : MethodName} {args : Array Value} {s : State} (hd : (Jvm.Cond.declares y).before args s = true) (hs : (Jvm.Cond.selects C z z).before args s = true) (e : z.cls = y.cls) (hy : y.cls ≠ "java/lang/invoke/MethodHandle" ∧ y.cls ≠ "java/lang/invoke/VarHandle") : (Jvm.Cond.sameMethod y.cls y.cls y.name y.desc).before args s = true := by
  obtain ⟨m, meth, hm, -, -, -⟩ := Cond.declares_spec hd
  obtain ⟨c2, r2, m2, -, -, q3, -, kP, hkP, hkPi⟩ := Cond.selects_spec hs
  have hf := State.methodFound?_of_named hm hy
  have hc : s.vm.findClass y.cls = some m2.cls := e ▸ findClass_of_methodNamed q3
  have hm' : s.methodNamed? ⟨y.cls, y.name, y.desc⟩ = some m := hm
  simp [Cond.before, Cond.holds, Cond.value, hc, hf, hm', hkP, hkPi]
theorem own_nf {C : String} {y z : MethodName} {args : Array Value} {s : State} (hs : (Jvm.Cond.selects C z z).before args s = true) (e : z.cls = y.cls) : NotFace s y := fun r0 h0 => by
  obtain ⟨c2, r2, m2, -, -, q3, -, kP, hkP, hkPi⟩ := Cond.selects_spec hs
  have h1 : s.vm.findClass y.cls = some m2.cls := e ▸ findClass_of_methodNamed q3
  have h2 : s.vm.findClass y.cls = some r0.cls := findClass_of_methodNamed h0
  have q := Option.some.inj (h1.symm.trans h2)
  exact ⟨kP, q ▸ hkP, hkPi⟩
theorem own_shr0 (x : Int32) : x >>> ((0 : Int32) &&& 31) = x := by
  have h := c_ishr x 0 0 (by decide)
  apply Int32.toInt_inj.mp; rw [h]; simp
theorem own_shl0 (x : Int32) : x <<< ((0 : Int32) &&& 31) = x := by
  have h := c_ishl x 0 0 (by decide); have h1 := Int32.le_toInt x; have h2 := Int32.toInt_lt x; have h3 := Int32.le_toInt (x <<< ((0 : Int32) &&& 31)); have h4 := Int32.toInt_lt (x <<< ((0 : Int32) &&& 31))
  apply Int32.toInt_inj.mp
  have e : ((2 ^ 0 : Nat) : Int) = 1 := rfl
  rw [e] at h; omega
theorem own_oi {a : Nat} (h : a < 2147483648) : (Int32.ofNat a).toInt = a := Int32.toInt_ofNat_of_lt h
theorem own_oadd (a b : Nat) : Int32.ofNat a + Int32.ofNat b = Int32.ofNat (a + b) := (Int32.ofNat_add a b).symm
theorem own_oadd2 (a : Nat) : Int32.ofNat a + (2 : Int32) = Int32.ofNat (a + 2) := (Int32.ofNat_add a 2).symm
theorem own_osub {a b : Nat} (h : b ≤ a) (ha : a < 1073741824) : Int32.ofNat a - Int32.ofNat b = Int32.ofNat (a - b) := by
  apply Int32.toInt_inj.mp
  have h2 := c_isub (Int32.ofNat a) (Int32.ofNat b); rw [own_oi (by omega), own_oi (by omega)] at h2; rw [own_oi (by omega)]
  have h3 := Int32.le_toInt (Int32.ofNat a - Int32.ofNat b); have h4 := Int32.toInt_lt (Int32.ofNat a - Int32.ofNat b); omega
theorem own_osub0 {a : Nat} : Int32.ofNat a - (0 : Int32) = Int32.ofNat a := Int32.sub_zero _
theorem own_le0 {a b : Nat} (h : a ≤ b) (hb : b < 1073741824) : ¬ ((0 : Int32) < (Int32.ofNat a - Int32.ofNat b)) := by
  rw [Int32.lt_iff_toInt_lt]
  have h2 := c_isub (Int32.ofNat a) (Int32.ofNat b); rw [own_oi (by omega), own_oi (by omega)] at h2
  have h3 := Int32.le_toInt (Int32.ofNat a - Int32.ofNat b); have h4 := Int32.toInt_lt (Int32.ofNat a - Int32.ofNat b); have e : (0 : Int32).toInt = 0 := rfl; omega
theorem own_gt0 {a b : Nat} (h : b < a) (ha : a < 1073741824) : (0 : Int32) < (Int32.ofNat a - Int32.ofNat b) := by
  rw [own_osub (Nat.le_of_lt h) ha, Int32.lt_iff_toInt_lt, own_oi (by omega)]; have e : (0 : Int32).toInt = 0 := rfl; omega
theorem own_olt {a b : Nat} (ha : a < 2147483648) (hb : b < 2147483648) : Int32.ofNat a < Int32.ofNat b ↔ a < b := by
  rw [Int32.lt_iff_toInt_lt, own_oi ha, own_oi hb]; omega
theorem own_oeq {a b : Nat} (ha : a < 2147483648) (hb : b < 2147483648) : Int32.ofNat a = Int32.ofNat b ↔ a = b := by
  constructor
  · intro h; have := congrArg Int32.toInt h; rw [own_oi ha, own_oi hb] at this; omega
  · intro h; rw [h]
theorem own_ocl {a : Nat} (h : a < 2147483648) : (Int32.ofNat a).toNatClampNeg = a := by
  rw [Int32.toNatClampNeg, own_oi h]; rfl
theorem own_onn {a : Nat} (h : a < 2147483648) : ¬ (Int32.ofNat a < 0) := by
  rw [Int32.lt_iff_toInt_lt, own_oi h]; have e : (0 : Int32).toInt = 0 := rfl; omega
theorem own_rng {vs : List Value} {dv : Value} (m : Nat) (i : Nat) (h : vs.length ≤ m) : ((List.range m).map fun i => vs.getD (0 + i) dv).getD i dv = vs.getD i dv := by
  simp only [List.getD_eq_getElem?_getD, List.getElem?_map, Nat.zero_add]
  by_cases q : i < m
  · simp [List.getElem?_range q]
  · rw [List.getElem?_eq_none (by simpa using q)]; simp [List.getElem?_eq_none (by omega : vs.length ≤ i)]
theorem own_rep (r i : Nat) (dv : Value) : (List.replicate r dv).getD i dv = dv := by
  simp only [List.getD_eq_getElem?_getD, List.getElem?_replicate]; split <;> rfl
theorem own_cp {bs vs : List Value} {dv : Value} {d m r : Nat} (hb : bs.length = d) (hv : vs.length ≤ m) : ∀ i, (bs ++ vs).getD i dv = ((bs ++ List.replicate r dv).take d ++ ((List.range m).map fun i => vs.getD (0 + i) dv) ++ (bs ++ List.replicate r dv).drop (d + m)).getD i dv := by
  intro i
  subst hb
  rw [List.take_left]
  have e1 : (bs ++ List.replicate r dv).drop (bs.length + m) = List.replicate (r - m) dv := by
    rw [← List.drop_drop, List.drop_left, List.drop_replicate]
  rw [e1, List.append_assoc]
  simp only [List.getD_eq_getElem?_getD]
  by_cases q : i < bs.length
  · rw [List.getElem?_append_left q, List.getElem?_append_left q]
  · rw [List.getElem?_append_right (Nat.le_of_not_lt q), List.getElem?_append_right (Nat.le_of_not_lt q)]
    generalize i - bs.length = j
    have a1 := own_rng (vs := vs) (dv := dv) m j hv
    have a2 := own_rep (r - m) (j - m) dv
    simp only [List.getD_eq_getElem?_getD] at a1 a2
    by_cases w : j < m
    · rw [List.getElem?_append_left (by simpa using w)]; exact a1.symm
    · rw [List.getElem?_append_right (by simpa using w)]; simp only [List.length_map, List.length_range]
      rw [a2, List.getElem?_eq_none (by omega)]; rfl
theorem own_opos {a : Nat} (h : 0 < a) (h2 : a < 2147483648) : (0 : Int32) < Int32.ofNat a := by
  rw [Int32.lt_iff_toInt_lt, own_oi h2]; have e : (0 : Int32).toInt = 0 := rfl; omega
theorem own_onbig {a : Nat} (h : a < 2000000000) : ¬ ((2147483639 : Int32) < Int32.ofNat a) := by
  rw [Int32.lt_iff_toInt_lt, own_oi (by omega)]; have e : (2147483639 : Int32).toInt = 2147483639 := rfl; omega
theorem own_onmax {a : Nat} (h : a < 2000000000) : ¬ (Int32.ofNat a = (2147483647 : Int32)) := by
  intro q; have := congrArg Int32.toInt q; rw [own_oi (by omega)] at this; have e : (2147483647 : Int32).toInt = 2147483647 := rfl; omega
theorem own_lapp {bs vs : List Value} {n m : Nat} (h : bs.length = n) (g : vs.length = m) : (bs ++ vs).length = n + m := by rw [List.length_append, h, g]
theorem own_nch (x : Int32) : nar .char ((x &&& (255 : Int32)).toUInt32.toUInt16.toUInt32.toInt32) = (x &&& (255 : Int32)).toUInt32.toUInt16.toUInt32.toInt32 := by
  generalize (x &&& (255 : Int32)).toUInt32.toUInt16 = u
  show (u.toUInt32.toInt32).toUInt32.toUInt16.toUInt32.toInt32 = u.toUInt32.toInt32
  simp
def own_chr (x : Int32) : Int32 := (x &&& (255 : Int32)).toUInt32.toUInt16.toUInt32.toInt32
theorem own_nchr (x : Int32) : nar .char (own_chr x) = own_chr x := own_nch x
theorem own_gm (cs : List Int32) (i : Nat) : (cs.map Value.int).getD i (.int 0) = .int (cs.getD i 0) := by
  simp only [List.getD_eq_getElem?_getD, List.getElem?_map]
  cases cs[i]? <;> rfl
theorem own_mid {M A B C : List Int32} {i k : Nat} (e : M = A ++ (B ++ C)) (hi : i = A.length + k) (hk : k < B.length) : M.getD i 0 = B.getD k 0 := by
  subst e hi
  simp only [List.getD_eq_getElem?_getD]
  rw [List.getElem?_append_right (Nat.le_add_right _ _), Nat.add_sub_cancel_left, List.getElem?_append_left hk]
theorem own_lit {M A B C : List Int32} {i k : Nat} {z : Int32} (e : M = A ++ (B ++ C)) (hi : i = A.length + k) (hk : k < B.length) (hz : own_chr (B.getD k 0) = z) : own_chr (M.getD i 0) = z := by
  rw [own_mid e hi hk]; exact hz
theorem own_km {vm : Vm} {m : MethodId} (h : methodKnown vm m = true) : vm.knowsMethod m := by
  unfold methodKnown at h
  cases hk : vm.classes[m.cls]? with
  | none => rw [hk] at h; cases h
  | some k => exact ⟨k, hk, fun cf hcf => by simpa [hk, hcf] using h⟩
theorem own_tk {s : State} (h : tablesKnown s = true) : s.vm.MethodsKnown := by
  intro m x hm
  unfold Vm.method? at hm
  cases hk : s.vm.classes[m.cls]? with
  | none => simp [hk] at hm
  | some k =>
    simp only [hk, Option.bind_some] at hm
    refine ⟨k, hk, fun cf hcf => ?_⟩
    have q := (Array.all_eq_true_iff_forall_mem.mp h) k (Array.mem_of_getElem? hk)
    simp only [hcf, beq_iff_eq] at q
    have lt := (Array.getElem?_eq_some_iff.mp hm).1
    rw [q] at lt
    simp [lt]
theorem own_fk {s : State} {m : MethodId} {args : Array Value} {below : List Frame} (h : framesKnown s = true) (hf : s.frames = .invoking m args :: below) : s.vm.FramesKnown below := by
  intro y hy m' hm'
  unfold framesKnown at h
  rw [hf] at h
  have q := (List.all_eq_true.mp h) y (List.mem_cons_of_mem _ hy)
  cases y with
  | java g => cases hm'; exact own_km q
  | native n => cases hm'; exact own_km q
  | _ => cases hm'
def own_chainL (k : Nat) (rc : String) : List Jvm.Free.Exc.Link → List Jvm.Cond
  | [] => Jvm.Cond.code (Jvm.Free.Exc.ctor k tN) (Jvm.Free.Exc.topCode k) (k + 1) none :: Jvm.Cond.fieldLink tN 31 tN "detailMessage" Jvm.Free.Exc.msgD :: Jvm.Free.Exc.excAtoms rc
  | x :: r => [Jvm.Cond.code (Jvm.Free.Exc.ctor k x.1) x.2.2 (k + 1) none, Jvm.Cond.initialized x.1, Jvm.Cond.methodLink x.1 x.2.1 (Jvm.Free.Exc.ctor k (Jvm.Free.Exc.headName r)), Jvm.Cond.instanceMethod (Jvm.Free.Exc.ctor k (Jvm.Free.Exc.headName r))] ++ own_chainL k rc r
theorem own_chain {k : Nat} {rc : String} {a0 : Array Value} {Z : State} : ∀ links : List Jvm.Free.Exc.Link, (∀ d ∈ own_chainL k rc links, d.before a0 Z = true) → (Jvm.Free.Exc.chainTab k rc links).before a0 Z = true
  | [], w => Jvm.RoadKit.conj_of w
  | x :: r, w => Jvm.RoadKit.conj_of fun d hd => by
    have w1 := fun y hy => w y (List.mem_append_left _ hy)
    have w2 := own_chain r fun y hy => w y (List.mem_append_right _ hy)
    simp only [List.mem_cons, List.not_mem_nil, or_false] at hd w1
    rcases hd with rfl | rfl | rfl | rfl | rfl
    · exact w1 _ (Or.inl rfl)
    · exact w1 _ (Or.inr (Or.inl rfl))
    · exact w1 _ (Or.inr (Or.inr (Or.inl rfl)))
    · exact w1 _ (Or.inr (Or.inr (Or.inr rfl)))
    · exact w2
theorem own_m255' (z : Int32) : ¬ (255 : Int32) < ((z &&& (255 : Int32)).toUInt32.toUInt16.toUInt32.toInt32) := by
  have small : ∀ k : Fin 256, ¬ (255 : Int32) < ((Int32.ofNat k.val).toUInt32.toUInt16.toUInt32.toInt32) := by decide +kernel
  have lt : (z &&& 255).toBitVec.toNat < 256 := by
    rw [Int32.toBitVec_and, BitVec.toNat_and]; exact Nat.lt_succ_of_le Nat.and_le_right
  have eq : (z &&& 255) = Int32.ofNat (z &&& 255).toBitVec.toNat := by
    apply Int32.toBitVec_inj.mp
    show _ = BitVec.ofNat 32 _
    rw [BitVec.ofNat_toNat]; simp
  rw [eq]; exact small ⟨_, lt⟩
theorem own_posk (k : Nat) {n : Nat} (h : Int32.ofNat k < Int32.ofNat n) (b : k < 100000 ∧ n < 100000) : k < n := (own_olt (by omega) (by omega)).mp h
def own_L1 : List Int32 := [114, 101, 115, 111, 117, 114, 99, 101, 32, 34]
def own_L2 : List Int32 := [34, 58, 32]
def own_L3 : List Int32 := [102, 105, 101, 108, 100, 32, 34]
theorem own_l1 : own_L1.length = 10 := rfl
theorem own_l2 : own_L2.length = 3 := rfl
theorem own_l3 : own_L3.length = 7 := rfl
def own_inner (fs ps : List Int32) : List Int32 := own_L3 ++ fs ++ own_L2 ++ ps
def own_M (rs qs : List Int32) : List Int32 := own_L1 ++ rs ++ own_L2 ++ qs
theorem own_innerl (fs ps : List Int32) : (own_inner fs ps).length = 10 + fs.length + ps.length := by simp only [own_inner, List.length_append, own_l2, own_l3]; omega
theorem own_Ml (rs qs : List Int32) : (own_M rs qs).length = 13 + rs.length + qs.length := by simp only [own_M, List.length_append, own_l1, own_l2]; omega
theorem own_lM {M a b c : List Int32} (e : M = own_M a (own_inner b c)) : M.length = 23 + a.length + b.length + c.length := by rw [e, own_Ml, own_innerl]; omega
theorem own_M5 {M : List Int32} {a b c : Nat} (e : M.length = 23 + a + b + c) (h1 : a ≤ 2) (h2 : b ≤ 2) (h3 : c ≤ 2) : M.length < 100000 := by omega
theorem own_b2 {n : Nat} (h : n ≤ 2) : n < 100000 := by omega
theorem own_i1 {n a b c : Nat} (e : n = 23 + a + b + c) (k : Nat) (h : k < 10) : 0 + k < n := by omega
theorem own_i2 {n a b c : Nat} (e : n = 23 + a + b + c) (k : Nat) (h : k < 10) : (10 + a) + k < n := by omega
theorem own_i3 {n a b c : Nat} (e : n = 23 + a + b + c) (k : Nat) (h : k < 3) : ((10 + a) + 10 + b) + k < n := by omega
theorem own_p1 {n a b c : Nat} (e : n = 23 + a + b + c) : 10 + a ≤ n := by omega
theorem own_p2 {n a b c : Nat} (e : n = 23 + a + b + c) : ((10 + a) + 10) + b ≤ n := by omega
theorem own_p3 {n a b c : Nat} (e : n = 23 + a + b + c) : (((10 + a) + 10 + b) + 3) + c ≤ n := by omega
theorem own_al1 (i : Nat) : 10 + i = own_L1.length + i := rfl
theorem own_al2 {a : List Int32} (i : Nat) : ((10 + a.length) + 10) + i = (own_L1 ++ a ++ own_L2 ++ own_L3).length + i := by simp only [List.length_append, own_l1, own_l2, own_l3] <;> omega
theorem own_al3 {a b : List Int32} (i : Nat) : (((10 + a.length) + 10 + b.length) + 3) + i = (own_L1 ++ a ++ own_L2 ++ own_L3 ++ b ++ own_L2).length + i := by simp only [List.length_append, own_l1, own_l2, own_l3] <;> omega
theorem own_ae1 {k : Nat} : 0 + k = ([] : List Int32).length + k := rfl
theorem own_ae2 {a : List Int32} {k : Nat} : (10 + a.length) + k = (own_L1 ++ a).length + k := by simp only [List.length_append, own_l1]
theorem own_ae3 {a b : List Int32} {k : Nat} : ((10 + a.length) + 10 + b.length) + k = (own_L1 ++ a ++ own_L2 ++ own_L3 ++ b).length + k := by simp only [List.length_append, own_l1, own_l2, own_l3] <;> omega
theorem own_ok {o : Int32} {n : Nat} (h : o = Int32.ofNat n) (k : Nat) : o + Int32.ofNat k = Int32.ofNat (n + k) := by rw [h]; exact (Int32.ofNat_add n k).symm
theorem own_84 {M : List Int32} {a b c : Nat} {j1 j2 j3 : Int32} (e : M.length = 23 + a + b + c) (h1 : j1 = Int32.ofNat a) (h2 : j2 = Int32.ofNat b) (h3 : j3 = Int32.ofNat c) : Int32.ofNat M.length = (23 : Int32) + j1 + j2 + j3 := by
  rw [e, h1, h2, h3, Int32.ofNat_add, Int32.ofNat_add, Int32.ofNat_add]; rfl
/-! Throwable's tables, said with the subclass's own word for suppressedExceptions (the word of Throwable itself isn't in this sheet) -/
open Jvm.Free.Exc in
def own_thrL (rc : String) : List Jvm.Cond := [.native tFill0, .initialized tN, .superclass tN "java/lang/Object", .instanceMethod tFill, .codeSync tFill LibCode.Throwable.Fill.code 1 (some (.object tN)), .instanceMethod tFill0, .instanceMethod oInit, .code oInit ⟨#[0xb1]⟩ 1 none, .methodLink tN 1 oInit, .methodLink tN 27 tFill, .methodLink tN 202 tFill0, .fieldLink tN 7 tN "cause" thD, .lays rc tN "cause" thD, .fieldLink tN 17 tN "stackTrace" steD, .lays rc tN "stackTrace" steD, .fieldLink tN 24 tN "suppressedExceptions" listD, .lays rc tN "suppressedExceptions" listD, .fieldLink tN 13 tN "UNASSIGNED_STACK" steD, .laysStatic tN "UNASSIGNED_STACK" steD, .fieldLink tN 20 tN "SUPPRESSED_SENTINEL" listD, .laysStatic tN "SUPPRESSED_SENTINEL" listD]
open Jvm.Free.Exc in
theorem own_thr {args : Array Value} {s : State} {pl : Platform} {rc : String} (o1 : pl.frameOwnsMonitors = true) (o2 : pl.finalization = false) (o3 : pl.magicAccessors = ({} : Platform).magicAccessors)
    (w : ∀ d ∈ own_thrL rc, d.before args s = true) :
    ∃ T : ThrowableC, T.Links pl s ∧ s.vm.findClass tN = some T.cT ∧ s.methodNamed? tFill = some T.fill ∧ s.methodNamed? tFill0 = some T.fill0 ∧ s.fieldFound? tN "stackTrace" steD = some (T.cT, T.kT, T.i17, T.fStack) ∧ T.fStack.type = .array (.object "java/lang/StackTraceElement") ∧ s.fieldFound? tN "UNASSIGNED_STACK" steD = some (T.cT, T.kT, T.i13, T.fUnassigned) := by
  have W : ∀ (i : Nat) (d : Jvm.Cond), (own_thrL rc)[i]? = some d → d.holds args s none s [] = true := fun i d h => w d (List.mem_of_getElem? h)
  -- the class, its two fill methods
  obtain ⟨⟨cT, j0⟩, f0, n0, p0, p1, p2, p3, p4⟩ := Cond.native_spec (W 0 _ rfl)
  have hT : s.vm.findClass tN = some cT := findClass_of_methodNamed n0
  obtain ⟨kT, hk, hname⟩ := Vm.findClass_spec hT
  obtain ⟨-, k1, -, -, hk1, -, -, -, -, hni⟩ := Cond.superclass_spec hT (W 2 _ rfl)
  obtain rfl := Option.some.inj (hk.symm.trans hk1)
  obtain ⟨j0', f0', n0', p0', q1, q2, q3, q4, q5⟩ := Cond.ownMethod (x := tFill0) hT hk (W 5 _ rfl)
  have ej : j0 = j0' := congrArg MethodId.idx (Option.some.inj (n0.symm.trans n0'))
  subst ej
  obtain rfl := Option.some.inj (p0.symm.trans p0')
  obtain ⟨jF, fF, nF, a1, a2, a3, a4, -, -⟩ := Cond.ownMethod (x := tFill) hT hk (W 3 _ rfl)
  obtain ⟨fF', cF, b1, b2, b3, b4, b5, b6, -, b7⟩ := Cond.codeSync_spec nF (W 4 _ rfl)
  obtain rfl := Option.some.inj (a1.symm.trans b1)
  -- Object's constructor
  obtain ⟨mO, fO, nO, d1, d2, d3⟩ := Cond.instanceMethod_spec (W 6 _ rfl)
  obtain ⟨fO', cO, g1, g2, g3, -, -, g4, -, g5⟩ := Cond.code_spec nO (W 7 _ rfl)
  obtain rfl := Option.some.inj (d1.symm.trans g1)
  obtain ⟨kO, hkO, hnO⟩ := Vm.findClass_spec (findClass_of_methodNamed nO)
  obtain ⟨nmO, dsO⟩ := name_of_methodNamed nO d1
  -- the links
  obtain ⟨u1, v1, cf, l1, r1, hcf, t1⟩ := Cond.linkedMethod hT hk nO (W 8 _ rfl) pl o3
  obtain ⟨u2, v2, cf2, l2, r2, hcf2, t2⟩ := Cond.linkedMethod hT hk nF (W 9 _ rfl) pl o3
  obtain ⟨u3, v3, cf3, l3, r3, hcf3, t3⟩ := Cond.linkedMethod hT hk n0 (W 10 _ rfl) pl o3
  obtain rfl := Option.some.inj (hcf.symm.trans hcf2)
  obtain rfl := Option.some.inj (hcf.symm.trans hcf3)
  obtain ⟨x7, i7, f7, A1, A2, A3, A4, A5, A6, A7, -⟩ := Cond.ownField (t := .object tN) hT hk (by decide +kernel) (W 11 _ rfl) (W 12 _ rfl) pl o3
  obtain ⟨x17, i17, f17, B1, B2, B3, B4, B5, B6, B7, B8⟩ := Cond.ownField (t := .array (.object "java/lang/StackTraceElement")) hT hk (by decide +kernel) (W 13 _ rfl) (W 14 _ rfl) pl o3
  obtain ⟨x24, i24, f24, C1, C2, C3, C4, C5, C6, C7, C8⟩ := Cond.ownField (t := .object "java/util/List") hT hk (by decide +kernel) (W 15 _ rfl) (W 16 _ rfl) pl o3
  obtain ⟨x13, i13, f13, aS, cS, D1, D2, D3, D4, -, -, D5, D6, D7, -, -, D8⟩ := Cond.ownStatic (t := .array (.object "java/lang/StackTraceElement")) hT hk (by decide +kernel) (W 17 _ rfl) (W 18 _ rfl) pl o3
  obtain ⟨x20, i20, f20, -, -, E1, E2, E3, E4, -, -, -, -, -, -, -, -⟩ := Cond.ownStatic (t := .object "java/util/List") hT hk (by decide +kernel) (W 19 _ rfl) (W 20 _ rfl) pl o3
  have apart : f17.slot ≠ f24.slot := by
    obtain ⟨cR, kR, -, -, -, -, y1, y2, -⟩ := Cond.lays_spec (W 14 _ rfl)
    obtain ⟨-, d17, y3, y4⟩ := Cond.laysAt y1 y2 B8 (W 14 _ rfl)
    obtain ⟨-, d24, y5, y6⟩ := Cond.laysAt y1 y2 C8 (W 16 _ rfl)
    exact Cond.laysApart y3 y5 y4 y6 (by rw [B6, C6]; decide)
  refine ⟨{ cT := cT, kT := kT, cO := cT, aS := aS, fillIdx := jF, fill0Idx := j0, initSIdx := jF, obj := mO, kObj := kO, methFill := fF, methFill0 := f0, methInitS := fF, methObj := fO, codeFill := cF, codeInitS := cF, codeObj := cO, fBack := f7, fDepth := f7, fStack := f17, fCause := f7, fSupp := f24, fMsg := f7, fUnassigned := f13, fSentinel := f20, cfT := cf, ci1 := u1, n1 := v1, ci27 := u2, n27 := v2, ci202 := u3, n202 := v3, ci7 := x7, i7 := i7, ci13 := x13, i13 := i13, ci17 := x17, i17 := i17, ci20 := x20, i20 := i20, ci24 := x24, i24 := i24 }, ?_, hT, nF, n0, B8, B7, D8⟩
  constructor
  case owns => exact o1
  case noFinalization => exact o2
  case cls => exact hk
  case name => exact hname
  case boot => exact Vm.findClass_boot hT hk
  case notInterface => exact hni
  case initialized => exact Cond.initialized_spec hT hk (W 1 _ rfl)
  case fillParams =>
    have q : (parseMethodDescriptor tFill.desc).map (·.parameters) = some [] := by decide +kernel
    rw [b7] at q; simpa using q
  case fill0Params =>
    have q : (parseMethodDescriptor tFill0.desc).map (·.parameters) = some [.int] := by decide +kernel
    rw [p4] at q; simpa using q
  case objParams =>
    have q : (parseMethodDescriptor oInit.desc).map (·.parameters) = some [] := by decide +kernel
    rw [g5] at q
    have q2 : fO.sig.parameters = [] := by simpa using q
    show fO.sig.parameters.length = 0
    rw [q2]; rfl
  case objFound => show lookupSpecial s.vm mO.cls "<init>" fO.desc = _; rw [dsO]; exact lookupSpecial_of_named nO d1 d2
  case stackApartSupp => exact apart
  all_goals first | assumption | exact b6
open Jvm.Free.Exc in
def own_filL (rc : String) : List Jvm.Cond := [.declares tFill, .selects rc tFill0 tFill0, .selects rc tFill tFill, .fieldLink tN 198 tN "backtrace" obD, .lays rc tN "backtrace" obD, .soleField tN "backtrace", .soleField tN "depth", .lays rc tN "depth" "I", .lays rc tN "detailMessage" msgD, .arrayOver (.object "java/lang/Object")]
theorem own_xok {rc : String} : (own_thrL rc ++ own_filL rc).all Jvm.RoadKit.xOk = true := rfl
open Jvm.Free.Exc in
/-- fillInStackTrace() on an object that the walk has made, whose stackTrace holds what UNASSIGNED_STACK holds -/
theorem own_fill {p : Program} {l : Launch} {e : Env} {R : Room} {s : State} {m : MethodId} {args : Array Value} {below : List Frame} {meth : Method} {c : Code} {T : State} {locs : List Loc} {cells slots : Nat} {Z : State} {a0 : Array Value} {h : Heap} (X : Stand p l e R s m args below meth c T locs cells slots) (hx : p.tables.exec = Jvm.exec) (hl : l.stackTraces = true) (hZ : Z.Warmed39 s.vm) (hown : s.vm.findClass tN = some m.cls) {rc : String} {kI : Nat} (wT : ∀ d ∈ own_thrL rc ++ own_filL rc, d.before a0 Z = true) (wi : (Cond.instantiable rc kI).before a0 Z = true)
    (hT0 : Jvm.RoadKit.ThS Z s.heap) (hTK : s.vm.MethodsKnown) (hBelow : s.vm.FramesKnown below) (eT : T.heap = h) {a : Addr} (hL : ∀ y ∈ locs, y.base = a) (E : Exa Z h a rc) (U : Unt h a) (B : Fld Z h a tN "backtrace" obD .null) {w u : Value} (M : Fld Z h a tN "detailMessage" msgD w) (hu : u.isRef = true) (S1 : Fld Z h a tN "stackTrace" steD u) (SU : Sta Z h tN "UNASSIGNED_STACK" steD u)
    {g : JFrame} (hg : g.method = m) (hsize : g.locals.size = c.maxLocals) {rest : List Value} (hs : g.stack = .ref a :: rest) (hd : decode c.code g.pc = .ok (.invokevirtual 27, 3)) {W : Nat} (hW : 2 * g.monitorRoom + (rest.map fun v => v.category).sum ≤ W)
    (hf : 2 < R.frames) (hlo : W + 42 ≤ R.locals) (hc : cells + 1 ≤ R.cells) (hsl : slots + 2752 ≤ R.slots) :
    ∃ (T' : State) (L' : List Loc), Stand p l e R s m args below meth c T' L' (cells + 1) (slots + 2752) ∧ (∀ y ∈ L', y.base = a) ∧ Keep s.heap T'.heap [a] ∧ Exa Z T'.heap a rc ∧ Fld Z T'.heap a tN "detailMessage" msgD w ∧
      Steps p.tables e below (T.setTop g) (T'.setTop { g with pc := g.pc + 3, stack := .ref a :: rest }) := by
  obtain ⟨cell, kc, h1, h2, h3, h4, h5⟩ := E
  obtain ⟨c2, u1, u2, u3⟩ := U
  cases h1.symm.trans u1
  obtain ⟨c3, cfB, kB, iB, fB, b1, b2, -, -, -, -, b7⟩ := B
  cases h1.symm.trans b1
  obtain ⟨c4, cfM, kM, iM, fM, m1, m2, m3, m4, m5, m6, m7⟩ := M
  cases h1.symm.trans m1
  obtain ⟨c5, cfS, kS, iS, fS, s1, s2, -, -, -, -, s7⟩ := S1
  cases h1.symm.trans s1
  obtain ⟨cfU, iU, kU, fU, st, cU, t1, -, -, t4, t5, t6, t7⟩ := SU
  obtain ⟨c6, k6, i1, i2, i3, -⟩ := Cond.instantiable_spec wi
  cases h2.symm.trans i1
  cases h3.symm.trans i2
  have ws : ∀ d ∈ own_thrL rc ++ own_filL rc, d.before args s = true := fun d hd => Jvm.RoadKit.mvX hT0 hZ (List.all_eq_true.mp own_xok d hd) (wT d hd)
  have Wf : ∀ (i : Nat) (d : Jvm.Cond), (own_filL rc)[i]? = some d → d.before args s = true := fun i d q => ws d (List.mem_append_right _ (List.mem_of_getElem? q))
  have Wt : ∀ (i : Nat) (d : Jvm.Cond), (own_thrL rc)[i]? = some d → d.before args s = true := fun i d q => ws d (List.mem_append_left _ (List.mem_of_getElem? q))
  have tr : e.platform.stackTraces = true := by rw [X.admits.platform]; exact hl
  have pl : e.platform.magicAccessors = ({} : Platform).magicAccessors := by rw [X.admits.platform]
  obtain ⟨TT, LK, y1, y2, y3, y4, y5, y6⟩ := own_thr (args := args) (s := s) (pl := e.platform) (rc := rc) (by rw [X.admits.platform]) (by rw [X.admits.platform]) pl (fun d hd => ws d (List.mem_append_left _ hd))
  have hfound : s.vm.findClass rc = some cell.cls := by rw [hZ.alike.findClass]; exact h2
  obtain ⟨kX, x1, x2⟩ := hZ.alike.2.2 _ _ h3
  have hord : kX.kind = .ordinary := by rw [x2]; exact i3
  have hsz : cell.slots.size = kX.instanceTypes.size := by rw [x2]; exact h5 i3
  -- the fields, at s
  obtain ⟨kS', z1, -⟩ := State.fieldFound?_setVm (s := Z) hZ.alike s2
  cases (show s.fieldFound? tN "stackTrace" steD = _ from z1).symm.trans y4
  obtain ⟨kU', z2, z2'⟩ := State.fieldFound?_setVm (s := Z) hZ.alike t1
  cases (show s.fieldFound? tN "UNASSIGNED_STACK" steD = _ from z2).symm.trans y6
  have est : st = TT.aS := by
    have q : TT.kT.statics = some st := by rw [z2']; exact t4
    exact Option.some.inj (q.symm.trans LK.statics)
  subst est
  obtain ⟨kB', z3, -⟩ := State.fieldFound?_setVm (s := Z) hZ.alike b2
  obtain ⟨kM', z4, -⟩ := State.fieldFound?_setVm (s := Z) hZ.alike m2
  obtain ⟨c198, i198, fB', A1, A2, A3, A4, -, A6, A7, A8⟩ := Cond.ownField (t := .object "java/lang/Object") y1 LK.cls (by decide +kernel) (Wf 3 _ rfl) (Wf 4 _ rfl) e.platform pl
  cases (show s.fieldFound? tN "backtrace" obD = _ from z3).symm.trans A8
  obtain ⟨-, -, cD, kD, iD, fD, -, -, D1, D2, -⟩ := Cond.lays_spec (Wf 7 _ rfl)
  cases Option.some.inj ((Cond.lays_declared (Wf 7 _ rfl) D1).symm.trans y1)
  obtain ⟨D3, D4⟩ := State.fieldFound?_spec D1
  cases Option.some.inj (D3.symm.trans LK.cls)
  obtain ⟨D5, D6⟩ := State.fieldFound?_type D1 (t := .int) (by decide +kernel)
  obtain ⟨nM, -⟩ := State.fieldFound?_type (show s.fieldFound? tN "detailMessage" msgD = _ from z4) (t := .object "java/lang/String") (by decide +kernel)
  obtain ⟨nS, -⟩ := State.fieldFound?_type y4 (t := .array (.object "java/lang/StackTraceElement")) (by decide +kernel)
  obtain ⟨v1, d1, e1, g1⟩ := Cond.laysAt hfound x1 y4 (Wt 14 _ rfl)
  obtain ⟨v2, d2, e2, g2⟩ := Cond.laysAt hfound x1 A8 (Wf 4 _ rfl)
  obtain ⟨v3, d3, e3, g3⟩ := Cond.laysAt hfound x1 D1 (Wf 7 _ rfl)
  obtain ⟨-, d4, e4, g4⟩ := Cond.laysAt hfound x1 (show s.fieldFound? tN "detailMessage" msgD = _ from z4) (Wf 8 _ rfl)
  have a1 := Cond.laysApart e4 e2 g4 g2 (by rw [nM, A6]; decide)
  have a2 := Cond.laysApart e4 e3 g4 g3 (by rw [nM, D5]; decide)
  have a3 := Cond.laysApart e4 e1 g4 g1 (by rw [nM, nS]; decide)
  have tk : ∀ {f : Field} {v : Value}, kX.instanceTypes[f.slot]? = some f.type → fits f.type v = true → Jvm.Takes s cell f v := fun {f v} q1 q2 => ⟨by rw [hsz]; exact (Array.getElem?_eq_some_iff.mp q1).1, by rw [u2]; exact (Takes.of_laid x1 hord q1 q2).2⟩
  have sel0 : selectMethod e.platform s.vm cell.cls TT.fill0 = .method TT.fill0 := by
    obtain ⟨c2, r2, m2, q1, q2, q3, q4, -⟩ := Cond.selects_spec (Wf 1 _ rfl)
    cases Option.some.inj (q1.symm.trans hfound)
    cases Option.some.inj (q2.symm.trans (State.methodFound?_of_named y3 (by decide)))
    cases Option.some.inj (q3.symm.trans y3)
    rw [Launch.admits_selectMethod X.admits]; exact q4
  obtain ⟨comp, cO, kO, -, -, o1, o2, o3⟩ := Cond.arrayOver_spec (Wf 9 _ rfl)
  have neS : TT.aS ≠ a := fun q => by
    rw [q, h1] at t5
    rw [← Option.some.inj t5, h4] at t6; cases t6
  obtain ⟨v6, vm6, ⟨T6, L6, k6, n6⟩, -, X6, ⟨f1, C, n, f2, f3, f4, f5, f6, f7, f8, f9, f10⟩, come⟩ := X.virtualBack hx (own := tN) (C := rc) (index := 27) (y := tFill) (z := tFill) hown (Wt 9 _ rfl) (Wf 0 _ rfl) (notFace_of_selects (Wf 2 _ rfl)) (Wf 2 _ rfl) (Wt 3 _ rfl) (by decide)
    (fillPaysAny (l := l) (W := W) hx tr TT LK y2 (u0 := ⟨u, hu⟩) (self := a) (cell := cell) (cellS := cU) (fun _ => by rw [u2]; simp) (by rw [u2]; simp) (by rw [u3]) (by rw [u3]) s7 sel0 neS (fun q => by rw [q] at t6; cases t6) t7 (tk v1 (by rw [y5]; exact fits_refV_array _ ⟨u, hu⟩))
      ⟨{ ci198 := c198, i198 := iB, fBack := fB }, ⟨A1, A2, A3, A4⟩, b7⟩ hTK hBelow y1 o3 o1 o2 (Cond.soleField_find y1 LK.cls (Wf 5 _ rfl) A3 A6 A4) (Cond.soleField_find y1 LK.cls (Wf 6 _ rfl) D4 D5 D2)
      (fun x => tk v2 (by rw [A7]; rfl)) (fun x => tk v3 (by rw [D6]; rfl)) hf hlo)
    hfound ⟨cell, by rw [eT]; exact h1, rfl, h4⟩ hg hsize (Steps.refl _) (argsL := []) (rest := rest) (fun sig q => by rw [show parseMethodDescriptor tFill.desc = some ⟨[], some (.object tN)⟩ from by decide +kernel] at q; rw [← Option.some.inj q]; rfl) hs hW hd
    (fun vmx _ => ⟨rfl, hc, hsl, by show T.heap[a]? = _; rw [eT]; exact h1, by show T.heap[TT.aS]? = _; rw [eT]; exact t5⟩)
  dsimp only [Pt.U, Pt.locs, Pt.cells, Pt.slots] at X6 f3 f8 f9 f10 come
  subst f1 f8 f9 f10
  have hL' : ∀ y ∈ locs ++ [⟨a, fB.slot⟩, ⟨a, fD.slot⟩, ⟨a, TT.fStack.slot⟩], y.base = a := fun y hy => by
    rcases List.mem_append.mp hy with q | q
    · exact hL y q
    · simp only [List.mem_cons, List.not_mem_nil, or_false] at q; rcases q with rfl | rfl | rfl <;> rfl
  obtain ⟨-, j1, -, -, -, j2⟩ := X6.same
  refine ⟨T6, _, X6.more (Nat.le_refl _) (Nat.add_le_add_left f2 _), hL', ⟨j1, fun x cx q ne => ?_, fun x cx q => ?_⟩, ⟨C, kc, f3, by rw [f4]; exact h2, by rw [f4]; exact h3, by rw [f5]; exact h4, fun q => by rw [f6]; exact h5 q⟩, ⟨C, cfM, kM, iM, fM, f3, m2, m3, by rw [f5]; exact m4, by rw [f5]; exact m5, by rw [f4]; exact m6, (f7 _ a1 a2 a3).trans m7⟩, come⟩
  · obtain ⟨c', q1, q2, -, q4⟩ := j2 x cx q
    have e5 : c'.slots = cx.slots := Array.ext_getElem? fun i => q4 i fun hm => ne (by rw [← hL' _ hm]; exact List.mem_singleton.mpr rfl)
    rw [show T6.heap[x]? = some c' from q1, q2, e5]
  · obtain ⟨c', q1, q2, q3, -⟩ := j2 x cx q
    exact ⟨c', q1, by rw [q2], by rw [q2], q3⟩

def Q_rmCoder (Z : State) (a1 : Addr) (zc : Int32) (h0 : Heap) (n0 : Nat) (v : Option Value) (h : Heap) (L : List Loc) : Prop := v = some (.int 0) ∧ Fr n0 L ∧ h = h0
set_option maxRecDepth 65536 in
set_option maxHeartbeats 40000000 in
theorem rmCoder (l : Launch) (Z : State) (a0 : Array Value) (hw : ∀ d ∈ tables_1, d.before a0 Z = true) (ws : List Jvm.Cond) (a1 : Addr) (zc : Int32) (h0 : Heap) (n0 : Nat) (O : Old Z n0 h0) (S_COMPACT : Sta Z Z.heap "java/lang/String" "COMPACT_STRINGS" "Z" (.int zc)) (hcs : ¬ zc = 0) (C_a1 : Fld Z h0 a1 "java/lang/String" "coder" "B" (.int 0)) :
    MetFree l (⟨"java/lang/String", "coder", "()B"⟩ : MethodName) (head1 (Jvm.Cond.code (⟨"java/lang/String", "coder", "()B"⟩ : MethodName) jdk_42_method_152_code 1 (some .byte) :: ws) ({ frames := 0, cells := 0, slots := 0, locals := 0 } : Room)) (fun a U => a = #[(.ref a1)] ∧ Z.Warmed39 U.vm ∧ U.heap = h0) (fun _ _ _ _ _ => True) (fun _ U o U' => ∃ v L, o = .returned v ∧ Q_rmCoder Z a1 zc h0 n0 v U'.heap L ∧ FrameEnd U o U' L ({ frames := 0, cells := 0, slots := 0, locals := 0 } : Room).cells ({ frames := 0, cells := 0, slots := 0, locals := 0 } : Room).slots) := by
  refine MetFree.of_bodySF (plainFor_of_name pn_9) hisR ?_
  intro p e s m args below meth c s₁ Bd hml0 hP hK
  obtain ⟨rfl, hZ, hh⟩ := hP
  have hx := Bd.exec
  have hby := Bd.bytes
  have hml : c.maxLocals = 1 := hml0
  have hown : s.vm.findClass "java/lang/String" = some m.cls := findClass_of_methodNamed Bd.named
  have hnm := (name_of_methodNamed Bd.named Bd.method).1
  have hlk : meth.locks = false := BodyLoose.notSynchronized Bd
  have X0 : Stand p l e ({ frames := 0, cells := 0, slots := 0, locals := 0 } : Room) s m #[(.ref a1)] below meth c s₁ [] 0 0 := Stand.of_body Bd
  have e0 : s₁.heap = h0 := by rw [← hh, Bd.state]; rfl
  have N0 := Fr.nil n0
  show Go p e below s ({ frames := 0, cells := 0, slots := 0, locals := 0 } : Room).cells ({ frames := 0, cells := 0, slots := 0, locals := 0 } : Room).slots (Q_rmCoder Z a1 zc h0 n0) s₁ (entryFrame m #[(.ref a1)] 1)
  refine Go.eq (ef_rmCoder m a1) ?_
  show Go _ _ _ _ _ _ _  s₁ (mkF m 0 #[.val (.ref a1)] [])
  obtain ⟨T1, X1, e1, st1⟩ := getS2 X0 hx hZ hown (host := "") (Or.inl (hw _ (List.mem_of_getElem? (i := 58) rfl))) Via.refl e0 (S_COMPACT.ext O.2) (g := (mkF m 0 #[.val (.ref a1)] [])) rfl (hb hby d9_0)
  refine Go.st st1 ?_
  show Go _ _ _ _ _ _ _  T1 (mkF m 3 #[.val (.ref a1)] [(.int zc)])
  refine Go.st (fun tT kT => XS.ifNo X1.here hx rfl (hb hby d9_3) rfl ((if0 _ _).trans (feq (hcs : ¬ (zc = (0 : Int32)))).1) kT) ?_
  show Go _ _ _ _ _ _ _  T1 (mkF m 6 #[.val (.ref a1)] [])
  refine Go.st (fun tT kT => XS.aloadN X1.here hx rfl (hb hby d9_6) rfl rfl  kT) ?_
  show Go _ _ _ _ _ _ _  T1 (mkF m 7 #[.val (.ref a1)] [(.ref a1)])
  obtain ⟨T2, X2, e2, st2⟩ := getF X1 hx hZ hown (host := "") (Or.inl (hw _ (List.mem_of_getElem? (i := 59) rfl))) Via.refl e1 C_a1 (g := (mkF m 7 #[.val (.ref a1)] [(.ref a1)])) rfl rfl (hb hby d9_7)
  refine Go.st st2 ?_
  show Go _ _ _ _ _ _ _  T2 (mkF m 10 #[.val (.ref a1)] [(.int (0 : Int32))])
  refine Go.st (fun tT kT => XS.goto X2.here hx rfl (pc0 := 10) (pc' := 14) rfl (hb hby d9_10) (by decide) (by decide) kT) ?_
  show Go _ _ _ _ _ _ _  T2 (mkF m 14 #[.val (.ref a1)] [(.int (0 : Int32))])
  refine Go.retN X2 hlk hx (t := .byte) (z' := (0 : Int32)) Bd.returns (by simp) (hb hby d9_14) (by decide) (by decide) rfl ?_
  show Q_rmCoder Z _ _ h0 n0 _ T2.heap _
  rw [e2]
  exact ⟨rfl, N0, rfl⟩
def Q_rmLen (Z : State) (a1 : Addr) (zc : Int32) (t : Addr) (kb : ClassId) (mm : Nat) (vs : List Value) (h0 : Heap) (n0 : Nat) (v : Option Value) (h : Heap) (L : List Loc) : Prop := v = some (.int (Int32.ofNat mm)) ∧ Fr n0 L ∧ h = h0
set_option maxRecDepth 65536 in
set_option maxHeartbeats 40000000 in
theorem rmLen (l : Launch) (Z : State) (a0 : Array Value) (hw : ∀ d ∈ tables_1, d.before a0 Z = true) (ws : List Jvm.Cond) (a1 : Addr) (zc : Int32) (t : Addr) (kb : ClassId) (mm : Nat) (vs : List Value) (h0 : Heap) (n0 : Nat) (O : Old Z n0 h0) (S_COMPACT : Sta Z Z.heap "java/lang/String" "COMPACT_STRINGS" "Z" (.int zc)) (hcs : ¬ zc = 0) (E_a1 : Exa Z h0 a1 "java/lang/String") (C_a1 : Fld Z h0 a1 "java/lang/String" "coder" "B" (.int 0)) (V_a1 : Fld Z h0 a1 "java/lang/String" "value" "[B" (.ref t)) (A_t : Arv Z h0 t kb .byte (Int32.ofNat mm) vs (.int 0)) (L_a1 : vs.length = mm) (B_a1 : mm < 100000) :
    MetFree l (⟨"java/lang/String", "length", "()I"⟩ : MethodName) (head1 (Jvm.Cond.code (⟨"java/lang/String", "length", "()I"⟩ : MethodName) jdk_42_method_54_code 1 (some .int) :: ws) ({ frames := 1, cells := 0, slots := 0, locals := 13 } : Room)) (fun a U => a = #[(.ref a1)] ∧ Z.Warmed39 U.vm ∧ U.heap = h0) (fun _ _ _ _ _ => True) (fun _ U o U' => ∃ v L, o = .returned v ∧ Q_rmLen Z a1 zc t kb mm vs h0 n0 v U'.heap L ∧ FrameEnd U o U' L ({ frames := 1, cells := 0, slots := 0, locals := 13 } : Room).cells ({ frames := 1, cells := 0, slots := 0, locals := 13 } : Room).slots) := by
  refine MetFree.of_bodySF (plainFor_of_name pn_8) hisR ?_
  intro p e s m args below meth c s₁ Bd hml0 hP hK
  obtain ⟨rfl, hZ, hh⟩ := hP
  have hx := Bd.exec
  have hby := Bd.bytes
  have hml : c.maxLocals = 1 := hml0
  have hown : s.vm.findClass "java/lang/String" = some m.cls := findClass_of_methodNamed Bd.named
  have hnm := (name_of_methodNamed Bd.named Bd.method).1
  have hlk : meth.locks = false := BodyLoose.notSynchronized Bd
  have X0 : Stand p l e ({ frames := 1, cells := 0, slots := 0, locals := 13 } : Room) s m #[(.ref a1)] below meth c s₁ [] 0 0 := Stand.of_body Bd
  have e0 : s₁.heap = h0 := by rw [← hh, Bd.state]; rfl
  have N0 := Fr.nil n0
  show Go p e below s ({ frames := 1, cells := 0, slots := 0, locals := 13 } : Room).cells ({ frames := 1, cells := 0, slots := 0, locals := 13 } : Room).slots (Q_rmLen Z a1 zc t kb mm vs h0 n0) s₁ (entryFrame m #[(.ref a1)] 1)
  refine Go.eq (ef_rmLen m a1) ?_
  show Go _ _ _ _ _ _ _  s₁ (mkF m 0 #[.val (.ref a1)] [])
  refine Go.st (fun tT kT => XS.aloadN X0.here hx rfl (hb hby d8_0) rfl rfl  kT) ?_
  show Go _ _ _ _ _ _ _  s₁ (mkF m 1 #[.val (.ref a1)] [(.ref a1)])
  obtain ⟨T1, X1, e1, st1⟩ := getF X0 hx hZ hown (host := "") (Or.inl (hw _ (List.mem_of_getElem? (i := 52) rfl))) Via.refl e0 V_a1 (g := (mkF m 1 #[.val (.ref a1)] [(.ref a1)])) rfl rfl (hb hby d8_1)
  refine Go.st st1 ?_
  show Go _ _ _ _ _ _ _  T1 (mkF m 4 #[.val (.ref a1)] [(.ref t)])
  obtain ⟨cl2, Ar2, q2, S2, M2, Hh2, G2⟩ := id A_t
  refine Go.st (X1.arraylength hx (by rw [e1]; exact Ar2.1) (State.isArrayOf_alike hZ.alike Ar2.2.1) (g := (mkF m 4 #[.val (.ref a1)] [(.ref t)])) rfl rfl (hb hby d8_4)) ?_
  rw [len_of S2 M2]
  show Go _ _ _ _ _ _ _  T1 (mkF m 5 #[.val (.ref a1)] [(.int (Int32.ofNat mm))])
  refine Go.st (fun tT kT => XS.aloadN X1.here hx rfl (hb hby d8_5) rfl rfl  kT) ?_
  show Go _ _ _ _ _ _ _  T1 (mkF m 6 #[.val (.ref a1)] [(.ref a1), (.int (Int32.ofNat mm))])
  obtain ⟨cq3, kq3, q3a, q3b, q3c⟩ := isOf hZ e1 E_a1
  refine Go.pure (w := (some (.int (0 : Int32)))) (rest := [(.int (Int32.ofNat mm))]) (pc' := 9) (X1.virtualBack hx (y := (⟨"java/lang/String", "coder", "()B"⟩ : MethodName)) (z := (⟨"java/lang/String", "coder", "()B"⟩ : MethodName)) hown (mvT hZ (hw _ (List.mem_of_getElem? (i := 53) rfl))) (mvT hZ (hw _ (List.mem_of_getElem? (i := 54) rfl))) (notFace_of_selects (args := #[]) (mvT hZ (hw _ (List.mem_of_getElem? (i := 56) rfl)))) (mvT hZ (hw _ (List.mem_of_getElem? (i := 56) rfl))) (mvT hZ (hw _ (List.mem_of_getElem? (i := 55) rfl))) (by decide) (backOf (W := 1) (rmCoder l Z a0 hw [] a1 zc h0 n0 O S_COMPACT hcs C_a1) hZ (hw _ (List.mem_of_getElem? (i := 57) rfl)) (hw _ (List.mem_of_getElem? (i := 5) rfl)) (by decide) (by decide)) q3a q3c (g := (mkF m 6 #[.val (.ref a1)] [(.ref a1), (.int (Int32.ofNat mm))])) rfl (by rw [hml]; rfl) (Steps.refl _) (argsL := []) (rest := [(.int (Int32.ofNat mm))]) (lenOf pd___B rfl) rfl (by show 2 * 0 + _ ≤ _; exact Nat.le_of_eq rfl) (hb hby d8_6) (fun _ _ => ⟨rfl, e1, (by decide : 0 + 0 ≤ _), (by decide : 0 + 0 ≤ _)⟩)) (fun _ _ _ q => q) N0 (fun T3 L3 X3 e3q N3 => ?_)
  show Go _ _ _ _ _ _ _  T3 (mkF m 9 #[.val (.ref a1)] [(.int (0 : Int32)), (.int (Int32.ofNat mm))])
  refine Go.st (fun tT kT => XS.ishr X3.here hx rfl (hb hby d8_9) rfl kT) ?_
  show Go _ _ _ _ _ _ _  T3 (mkF m 10 #[.val (.ref a1)] [(.int ((Int32.ofNat mm) >>> ((0 : Int32) &&& 31)))])
  rw [own_shr0]
  show Go _ _ _ _ _ _ _  T3 (mkF m 10 #[.val (.ref a1)] [(.int (Int32.ofNat mm))])
  refine Go.retI X3 hlk hx Bd.returns (hb hby d8_10) (by decide) (by decide) ?_
  show Q_rmLen Z _ _ _ _ _ _ h0 n0 _ T3.heap _
  rw [e3q]
  exact ⟨rfl, N3, rfl⟩
def Q_rmGB (Z : State) (a1 : Addr) (a2 : Addr) (zc : Int32) (t : Addr) (kb : ClassId) (mm : Nat) (vs : List Value) (kd : ClassId) (n : Nat) (cap : Nat) (bs : List Value) (h0 : Heap) (n0 : Nat) (v : Option Value) (h : Heap) (L : List Loc) : Prop := v = none ∧ Fr n0 L ∧ Keep h0 h [a2] ∧ Arv Z h a2 kd .byte (Int32.ofNat cap) (bs ++ vs) (.int 0)
set_option maxRecDepth 65536 in
set_option maxHeartbeats 40000000 in
theorem rmGB (l : Launch) (Z : State) (a0 : Array Value) (hw : ∀ d ∈ tables_1, d.before a0 Z = true) (ws : List Jvm.Cond) (a1 : Addr) (a2 : Addr) (zc : Int32) (t : Addr) (kb : ClassId) (mm : Nat) (vs : List Value) (kd : ClassId) (n : Nat) (cap : Nat) (bs : List Value) (h0 : Heap) (n0 : Nat) (O : Old Z n0 h0) (S_COMPACT : Sta Z Z.heap "java/lang/String" "COMPACT_STRINGS" "Z" (.int zc)) (hcs : ¬ zc = 0) (E_a1 : Exa Z h0 a1 "java/lang/String") (C_a1 : Fld Z h0 a1 "java/lang/String" "coder" "B" (.int 0)) (V_a1 : Fld Z h0 a1 "java/lang/String" "value" "[B" (.ref t)) (A_t : Arv Z h0 t kb .byte (Int32.ofNat mm) vs (.int 0)) (L_a1 : vs.length = mm) (B_a1 : mm < 100000) (A_a2 : Arv Z h0 a2 kd .byte (Int32.ofNat cap) bs (.int 0)) (hbs : bs.length = n) (hcap : n + mm ≤ cap) (hcb : cap < 100000) (g_a2 : n0 ≤ a2) (ne_t_a2 : t ≠ a2) :
    MetFree l (⟨"java/lang/String", "getBytes", "([BIB)V"⟩ : MethodName) (head1 (Jvm.Cond.code (⟨"java/lang/String", "getBytes", "([BIB)V"⟩ : MethodName) jdk_42_method_147_code 4 none :: ws) ({ frames := 1, cells := 0, slots := 0, locals := 18 } : Room)) (fun a U => a = #[(.ref a1), (.ref a2), (.int (Int32.ofNat n)), (.int (0 : Int32))] ∧ Z.Warmed39 U.vm ∧ U.heap = h0) (fun _ _ _ _ _ => True) (fun _ U o U' => ∃ v L, o = .returned v ∧ Q_rmGB Z a1 a2 zc t kb mm vs kd n cap bs h0 n0 v U'.heap L ∧ FrameEnd U o U' L ({ frames := 1, cells := 0, slots := 0, locals := 18 } : Room).cells ({ frames := 1, cells := 0, slots := 0, locals := 18 } : Room).slots) := by
  refine MetFree.of_bodySF (plainFor_of_name pn_13) hisR ?_
  intro p e s m args below meth c s₁ Bd hml0 hP hK
  obtain ⟨rfl, hZ, hh⟩ := hP
  have hx := Bd.exec
  have hby := Bd.bytes
  have hml : c.maxLocals = 4 := hml0
  have hown : s.vm.findClass "java/lang/String" = some m.cls := findClass_of_methodNamed Bd.named
  have hnm := (name_of_methodNamed Bd.named Bd.method).1
  have hlk : meth.locks = false := BodyLoose.notSynchronized Bd
  have X0 : Stand p l e ({ frames := 1, cells := 0, slots := 0, locals := 18 } : Room) s m #[(.ref a1), (.ref a2), (.int (Int32.ofNat n)), (.int (0 : Int32))] below meth c s₁ [] 0 0 := Stand.of_body Bd
  have e0 : s₁.heap = h0 := by rw [← hh, Bd.state]; rfl
  have N0 := Fr.nil n0
  have KK : Keep h0 h0 [a2] := Keep.refl h0 _
  show Go p e below s ({ frames := 1, cells := 0, slots := 0, locals := 18 } : Room).cells ({ frames := 1, cells := 0, slots := 0, locals := 18 } : Room).slots (Q_rmGB Z a1 a2 zc t kb mm vs kd n cap bs h0 n0) s₁ (entryFrame m #[(.ref a1), (.ref a2), (.int (Int32.ofNat n)), (.int (0 : Int32))] 4)
  refine Go.eq (ef_rmGB m a1 a2 (Int32.ofNat n) (0 : Int32)) ?_
  show Go _ _ _ _ _ _ _  s₁ (mkF m 0 #[.val (.ref a1), .val (.ref a2), .val (.int (Int32.ofNat n)), .val (.int (0 : Int32))] [])
  refine Go.st (fun tT kT => XS.aloadN X0.here hx rfl (hb hby d13_0) rfl rfl  kT) ?_
  show Go _ _ _ _ _ _ _  s₁ (mkF m 1 #[.val (.ref a1), .val (.ref a2), .val (.int (Int32.ofNat n)), .val (.int (0 : Int32))] [(.ref a1)])
  obtain ⟨cq1, kq1, q1a, q1b, q1c⟩ := isOf hZ e0 E_a1
  refine Go.pure (w := (some (.int (0 : Int32)))) (rest := []) (pc' := 4) (X0.virtualBack hx (y := (⟨"java/lang/String", "coder", "()B"⟩ : MethodName)) (z := (⟨"java/lang/String", "coder", "()B"⟩ : MethodName)) hown (mvT hZ (hw _ (List.mem_of_getElem? (i := 53) rfl))) (mvT hZ (hw _ (List.mem_of_getElem? (i := 54) rfl))) (notFace_of_selects (args := #[]) (mvT hZ (hw _ (List.mem_of_getElem? (i := 56) rfl)))) (mvT hZ (hw _ (List.mem_of_getElem? (i := 56) rfl))) (mvT hZ (hw _ (List.mem_of_getElem? (i := 55) rfl))) (by decide) (backOf (W := 0) (rmCoder l Z a0 hw [] a1 zc h0 n0 O S_COMPACT hcs C_a1) hZ (hw _ (List.mem_of_getElem? (i := 57) rfl)) (hw _ (List.mem_of_getElem? (i := 5) rfl)) (by decide) (by decide)) q1a q1c (g := (mkF m 1 #[.val (.ref a1), .val (.ref a2), .val (.int (Int32.ofNat n)), .val (.int (0 : Int32))] [(.ref a1)])) rfl (by rw [hml]; rfl) (Steps.refl _) (argsL := []) (rest := []) (lenOf pd___B rfl) rfl (by show 2 * 0 + _ ≤ _; exact Nat.le_of_eq rfl) (hb hby d13_1) (fun _ _ => ⟨rfl, e0, (by decide : 0 + 0 ≤ _), (by decide : 0 + 0 ≤ _)⟩)) (fun _ _ _ q => q) N0 (fun T1 L1 X1 e1q N1 => ?_)
  show Go _ _ _ _ _ _ _  T1 (mkF m 4 #[.val (.ref a1), .val (.ref a2), .val (.int (Int32.ofNat n)), .val (.int (0 : Int32))] [(.int (0 : Int32))])
  refine Go.st (fun tT kT => XS.iloadN X1.here hx rfl (hb hby d13_4) rfl  kT) ?_
  show Go _ _ _ _ _ _ _  T1 (mkF m 5 #[.val (.ref a1), .val (.ref a2), .val (.int (Int32.ofNat n)), .val (.int (0 : Int32))] [(.int (0 : Int32)), (.int (0 : Int32))])
  refine Go.st (fun tT kT => XS.icmpNo X1.here hx rfl (hb hby d13_5) rfl (teq (rfl : (0 : Int32) = (0 : Int32))).2 kT) ?_
  show Go _ _ _ _ _ _ _  T1 (mkF m 8 #[.val (.ref a1), .val (.ref a2), .val (.int (Int32.ofNat n)), .val (.int (0 : Int32))] [])
  refine Go.st (fun tT kT => XS.aloadN X1.here hx rfl (hb hby d13_8) rfl rfl  kT) ?_
  show Go _ _ _ _ _ _ _  T1 (mkF m 9 #[.val (.ref a1), .val (.ref a2), .val (.int (Int32.ofNat n)), .val (.int (0 : Int32))] [(.ref a1)])
  obtain ⟨T2, X2, e2, st2⟩ := getF X1 hx hZ hown (host := "") (Or.inl (hw _ (List.mem_of_getElem? (i := 52) rfl))) Via.refl e1q V_a1 (g := (mkF m 9 #[.val (.ref a1), .val (.ref a2), .val (.int (Int32.ofNat n)), .val (.int (0 : Int32))] [(.ref a1)])) rfl rfl (hb hby d13_9)
  refine Go.st st2 ?_
  show Go _ _ _ _ _ _ _  T2 (mkF m 12 #[.val (.ref a1), .val (.ref a2), .val (.int (Int32.ofNat n)), .val (.int (0 : Int32))] [(.ref t)])
  refine Go.st (fun tT kT => XS.iconst X2.here hx rfl (hb hby d13_12) kT) ?_
  show Go _ _ _ _ _ _ _  T2 (mkF m 13 #[.val (.ref a1), .val (.ref a2), .val (.int (Int32.ofNat n)), .val (.int (0 : Int32))] [(.int (0 : Int32)), (.ref t)])
  refine Go.st (fun tT kT => XS.aloadN X2.here hx rfl (hb hby d13_13) rfl rfl  kT) ?_
  show Go _ _ _ _ _ _ _  T2 (mkF m 14 #[.val (.ref a1), .val (.ref a2), .val (.int (Int32.ofNat n)), .val (.int (0 : Int32))] [(.ref a2), (.int (0 : Int32)), (.ref t)])
  refine Go.st (fun tT kT => XS.iloadN X2.here hx rfl (hb hby d13_14) rfl  kT) ?_
  show Go _ _ _ _ _ _ _  T2 (mkF m 15 #[.val (.ref a1), .val (.ref a2), .val (.int (Int32.ofNat n)), .val (.int (0 : Int32))] [(.int (Int32.ofNat n)), (.ref a2), (.int (0 : Int32)), (.ref t)])
  refine Go.st (fun tT kT => XS.iloadN X2.here hx rfl (hb hby d13_15) rfl  kT) ?_
  show Go _ _ _ _ _ _ _  T2 (mkF m 16 #[.val (.ref a1), .val (.ref a2), .val (.int (Int32.ofNat n)), .val (.int (0 : Int32))] [(.int (0 : Int32)), (.int (Int32.ofNat n)), (.ref a2), (.int (0 : Int32)), (.ref t)])
  refine Go.st (fun tT kT => XS.ishl X2.here hx rfl (hb hby d13_16) rfl kT) ?_
  show Go _ _ _ _ _ _ _  T2 (mkF m 17 #[.val (.ref a1), .val (.ref a2), .val (.int (Int32.ofNat n)), .val (.int (0 : Int32))] [(.int ((Int32.ofNat n) <<< ((0 : Int32) &&& 31))), (.ref a2), (.int (0 : Int32)), (.ref t)])
  rw [own_shl0]
  show Go _ _ _ _ _ _ _  T2 (mkF m 17 #[.val (.ref a1), .val (.ref a2), .val (.int (Int32.ofNat n)), .val (.int (0 : Int32))] [(.int (Int32.ofNat n)), (.ref a2), (.int (0 : Int32)), (.ref t)])
  refine Go.st (fun tT kT => XS.aloadN X2.here hx rfl (hb hby d13_17) rfl rfl  kT) ?_
  show Go _ _ _ _ _ _ _  T2 (mkF m 18 #[.val (.ref a1), .val (.ref a2), .val (.int (Int32.ofNat n)), .val (.int (0 : Int32))] [(.ref a1), (.int (Int32.ofNat n)), (.ref a2), (.int (0 : Int32)), (.ref t)])
  obtain ⟨T3, X3, e3, st3⟩ := getF X2 hx hZ hown (host := "") (Or.inl (hw _ (List.mem_of_getElem? (i := 52) rfl))) Via.refl e2 V_a1 (g := (mkF m 18 #[.val (.ref a1), .val (.ref a2), .val (.int (Int32.ofNat n)), .val (.int (0 : Int32))] [(.ref a1), (.int (Int32.ofNat n)), (.ref a2), (.int (0 : Int32)), (.ref t)])) rfl rfl (hb hby d13_18)
  refine Go.st st3 ?_
  show Go _ _ _ _ _ _ _  T3 (mkF m 21 #[.val (.ref a1), .val (.ref a2), .val (.int (Int32.ofNat n)), .val (.int (0 : Int32))] [(.ref t), (.int (Int32.ofNat n)), (.ref a2), (.int (0 : Int32)), (.ref t)])
  obtain ⟨cl4, Ar4, q4, S4, M4, Hh4, G4⟩ := id A_t
  refine Go.st (X3.arraylength hx (by rw [e3]; exact Ar4.1) (State.isArrayOf_alike hZ.alike Ar4.2.1) (g := (mkF m 21 #[.val (.ref a1), .val (.ref a2), .val (.int (Int32.ofNat n)), .val (.int (0 : Int32))] [(.ref t), (.int (Int32.ofNat n)), (.ref a2), (.int (0 : Int32)), (.ref t)])) rfl rfl (hb hby d13_21)) ?_
  rw [len_of S4 M4]
  show Go _ _ _ _ _ _ _  T3 (mkF m 22 #[.val (.ref a1), .val (.ref a2), .val (.int (Int32.ofNat n)), .val (.int (0 : Int32))] [(.int (Int32.ofNat mm)), (.int (Int32.ofNat n)), (.ref a2), (.int (0 : Int32)), (.ref t)])
  obtain ⟨T5, h5, L5, X5, e5, N5, K5, V5, st5⟩ := cpA X3 hx hZ hown (hw _ (List.mem_of_getElem? (i := 83) rfl)) (hw _ (List.mem_of_getElem? (i := 86) rfl)) (hw _ (List.mem_of_getElem? (i := 84) rfl)) (hw _ (List.mem_of_getElem? (i := 85) rfl)) e3 A_t (A_a2.pad (pad_rep bs (.int 0) mm)) (Or.inl ⟨rfl, rfl⟩) (by decide) (own_onn (by omega)) (own_onn (by omega)) (by rw [own_ocl (by omega)]; exact Nat.le_of_eq (Nat.zero_add _)) (by rw [own_ocl (by omega), own_ocl (by omega), own_ocl (by omega)]; omega) (us := (List.range mm).map fun i => vs.getD (0 + i) (.int 0)) (by rw [own_ocl (by omega)]; rfl) (by rw [own_ocl (by omega), own_ocl (by omega)]; simp; omega) N1 g_a2 (g := (mkF m 22 #[.val (.ref a1), .val (.ref a2), .val (.int (Int32.ofNat n)), .val (.int (0 : Int32))] [(.int (Int32.ofNat mm)), (.int (Int32.ofNat n)), (.ref a2), (.int (0 : Int32)), (.ref t)])) rfl (by rw [hml]; rfl) rfl (hb hby d13_22) (by decide) (W := 0) (by show 2 * 0 + _ ≤ _; exact Nat.le_of_eq rfl) (by decide)
  refine Go.st st5 ?_
  have V5 := V5.pad (by rw [own_ocl (by omega), own_ocl (by omega)]; exact own_cp hbs (Nat.le_of_eq L_a1))
  have ne_a1_a2 : a1 ≠ a2 := (Exa.neArv E_a1 A_a2 (hw _ (List.mem_of_getElem? (i := 6) rfl)))
  have E_a1 := E_a1.keep K5
  have A_t := A_t.keep K5 (ninS ne_t_a2 nin0)
  have C_a1 := C_a1.keep K5 (ninS ne_a1_a2 nin0)
  have V_a1 := V_a1.keep K5 (ninS ne_a1_a2 nin0)
  have O := O.keep K5 (allS g_a2 all0)
  have KK := KK.trans K5 (allS (Or.inl (List.mem_of_getElem? (i := 0) rfl)) all0)
  have A_a2 := V5
  show Go _ _ _ _ _ _ _  T5 (mkF m 25 #[.val (.ref a1), .val (.ref a2), .val (.int (Int32.ofNat n)), .val (.int (0 : Int32))] [])
  refine Go.st (fun tT kT => XS.goto X5.here hx rfl (pc0 := 25) (pc' := 43) rfl (hb hby d13_25) (by decide) (by decide) kT) ?_
  show Go _ _ _ _ _ _ _  T5 (mkF m 43 #[.val (.ref a1), .val (.ref a2), .val (.int (Int32.ofNat n)), .val (.int (0 : Int32))] [])
  refine Go.ret0 X5 hlk hx Bd.returns (hb hby d13_43) (by decide) (by decide) ?_
  show Q_rmGB Z _ _ _ _ _ _ _ _ _ _ _ h0 n0 _ T5.heap _
  rw [e5]
  exact ⟨rfl, N5, KK, A_a2⟩
def Q_rmInf (Z : State) (a1 : Addr) (a2 : Addr) (zc : Int32) (h0 : Heap) (n0 : Nat) (v : Option Value) (h : Heap) (L : List Loc) : Prop := v = none ∧ Fr n0 L ∧ h = h0
set_option maxRecDepth 65536 in
set_option maxHeartbeats 40000000 in
theorem rmInf (l : Launch) (Z : State) (a0 : Array Value) (hw : ∀ d ∈ tables_1, d.before a0 Z = true) (ws : List Jvm.Cond) (a1 : Addr) (a2 : Addr) (zc : Int32) (h0 : Heap) (n0 : Nat) (O : Old Z n0 h0) (S_COMPACT : Sta Z Z.heap "java/lang/String" "COMPACT_STRINGS" "Z" (.int zc)) (hcs : ¬ zc = 0) (C_a1 : Fld Z h0 a1 "java/lang/AbstractStringBuilder" "coder" "B" (.int 0)) (E_a2 : Exa Z h0 a2 "java/lang/String") (C_a2 : Fld Z h0 a2 "java/lang/String" "coder" "B" (.int 0)) :
    MetFree l (⟨"java/lang/AbstractStringBuilder", "inflateIfNeededFor", "(Ljava/lang/String;)V"⟩ : MethodName) (head1 (Jvm.Cond.code (⟨"java/lang/AbstractStringBuilder", "inflateIfNeededFor", "(Ljava/lang/String;)V"⟩ : MethodName) jdk_68_method_71_code 2 none :: ws) ({ frames := 1, cells := 0, slots := 0, locals := 13 } : Room)) (fun a U => a = #[(.ref a1), (.ref a2)] ∧ Z.Warmed39 U.vm ∧ U.heap = h0) (fun _ _ _ _ _ => True) (fun _ U o U' => ∃ v L, o = .returned v ∧ Q_rmInf Z a1 a2 zc h0 n0 v U'.heap L ∧ FrameEnd U o U' L ({ frames := 1, cells := 0, slots := 0, locals := 13 } : Room).cells ({ frames := 1, cells := 0, slots := 0, locals := 13 } : Room).slots) := by
  refine MetFree.of_bodySF (plainFor_of_name pn_12) hisR ?_
  intro p e s m args below meth c s₁ Bd hml0 hP hK
  obtain ⟨rfl, hZ, hh⟩ := hP
  have hx := Bd.exec
  have hby := Bd.bytes
  have hml : c.maxLocals = 2 := hml0
  have hown : s.vm.findClass "java/lang/AbstractStringBuilder" = some m.cls := findClass_of_methodNamed Bd.named
  have hnm := (name_of_methodNamed Bd.named Bd.method).1
  have hlk : meth.locks = false := BodyLoose.notSynchronized Bd
  have X0 : Stand p l e ({ frames := 1, cells := 0, slots := 0, locals := 13 } : Room) s m #[(.ref a1), (.ref a2)] below meth c s₁ [] 0 0 := Stand.of_body Bd
  have e0 : s₁.heap = h0 := by rw [← hh, Bd.state]; rfl
  have N0 := Fr.nil n0
  show Go p e below s ({ frames := 1, cells := 0, slots := 0, locals := 13 } : Room).cells ({ frames := 1, cells := 0, slots := 0, locals := 13 } : Room).slots (Q_rmInf Z a1 a2 zc h0 n0) s₁ (entryFrame m #[(.ref a1), (.ref a2)] 2)
  refine Go.eq (ef_rmInf m a1 a2) ?_
  show Go _ _ _ _ _ _ _  s₁ (mkF m 0 #[.val (.ref a1), .val (.ref a2)] [])
  obtain ⟨T1, X1, e1, st1⟩ := getS2 X0 hx hZ hown (host := "") (Or.inl (hw _ (List.mem_of_getElem? (i := 31) rfl))) Via.refl e0 (S_COMPACT.ext O.2) (g := (mkF m 0 #[.val (.ref a1), .val (.ref a2)] [])) rfl (hb hby d12_0)
  refine Go.st st1 ?_
  show Go _ _ _ _ _ _ _  T1 (mkF m 3 #[.val (.ref a1), .val (.ref a2)] [(.int zc)])
  refine Go.st (fun tT kT => XS.ifNo X1.here hx rfl (hb hby d12_3) rfl ((if0 _ _).trans (feq (hcs : ¬ (zc = (0 : Int32)))).1) kT) ?_
  show Go _ _ _ _ _ _ _  T1 (mkF m 6 #[.val (.ref a1), .val (.ref a2)] [])
  refine Go.st (fun tT kT => XS.aloadN X1.here hx rfl (hb hby d12_6) rfl rfl  kT) ?_
  show Go _ _ _ _ _ _ _  T1 (mkF m 7 #[.val (.ref a1), .val (.ref a2)] [(.ref a1)])
  obtain ⟨T2, X2, e2, st2⟩ := getF X1 hx hZ hown (host := "") (Or.inl (hw _ (List.mem_of_getElem? (i := 34) rfl))) Via.refl e1 C_a1 (g := (mkF m 7 #[.val (.ref a1), .val (.ref a2)] [(.ref a1)])) rfl rfl (hb hby d12_7)
  refine Go.st st2 ?_
  show Go _ _ _ _ _ _ _  T2 (mkF m 10 #[.val (.ref a1), .val (.ref a2)] [(.int (0 : Int32))])
  refine Go.st (fun tT kT => XS.aloadN X2.here hx rfl (hb hby d12_10) rfl rfl  kT) ?_
  show Go _ _ _ _ _ _ _  T2 (mkF m 11 #[.val (.ref a1), .val (.ref a2)] [(.ref a2), (.int (0 : Int32))])
  obtain ⟨cq3, kq3, q3a, q3b, q3c⟩ := isOf hZ e2 E_a2
  refine Go.pure (w := (some (.int (0 : Int32)))) (rest := [(.int (0 : Int32))]) (pc' := 14) (X2.virtualBack hx (y := (⟨"java/lang/String", "coder", "()B"⟩ : MethodName)) (z := (⟨"java/lang/String", "coder", "()B"⟩ : MethodName)) hown (mvT hZ (hw _ (List.mem_of_getElem? (i := 77) rfl))) (mvT hZ (hw _ (List.mem_of_getElem? (i := 54) rfl))) (notFace_of_selects (args := #[]) (mvT hZ (hw _ (List.mem_of_getElem? (i := 56) rfl)))) (mvT hZ (hw _ (List.mem_of_getElem? (i := 56) rfl))) (mvT hZ (hw _ (List.mem_of_getElem? (i := 55) rfl))) (by decide) (backOf (W := 1) (rmCoder l Z a0 hw [] a2 zc h0 n0 O S_COMPACT hcs C_a2) hZ (hw _ (List.mem_of_getElem? (i := 57) rfl)) (hw _ (List.mem_of_getElem? (i := 5) rfl)) (by decide) (by decide)) q3a q3c (g := (mkF m 11 #[.val (.ref a1), .val (.ref a2)] [(.ref a2), (.int (0 : Int32))])) rfl (by rw [hml]; rfl) (Steps.refl _) (argsL := []) (rest := [(.int (0 : Int32))]) (lenOf pd___B rfl) rfl (by show 2 * 0 + _ ≤ _; exact Nat.le_of_eq rfl) (hb hby d12_11) (fun _ _ => ⟨rfl, e2, (by decide : 0 + 0 ≤ _), (by decide : 0 + 0 ≤ _)⟩)) (fun _ _ _ q => q) N0 (fun T3 L3 X3 e3q N3 => ?_)
  show Go _ _ _ _ _ _ _  T3 (mkF m 14 #[.val (.ref a1), .val (.ref a2)] [(.int (0 : Int32)), (.int (0 : Int32))])
  refine Go.st (fun tT kT => XS.icmpYes X3.here hx rfl (pc0 := 14) (pc' := 21) rfl (hb hby d12_14) rfl (teq (rfl : (0 : Int32) = (0 : Int32))).1 (by decide) (by decide) kT) ?_
  show Go _ _ _ _ _ _ _  T3 (mkF m 21 #[.val (.ref a1), .val (.ref a2)] [])
  refine Go.ret0 X3 hlk hx Bd.returns (hb hby d12_21) (by decide) (by decide) ?_
  show Q_rmInf Z _ _ _ h0 n0 _ T3.heap _
  rw [e3q]
  exact ⟨rfl, N3, rfl⟩
def Q_rmPut (Z : State) (a1 : Addr) (a2 : Addr) (zc : Int32) (t : Addr) (kd : ClassId) (n : Nat) (cap : Nat) (bs : List Value) (u : Addr) (ku : ClassId) (mm : Nat) (vs : List Value) (h0 : Heap) (n0 : Nat) (v : Option Value) (h : Heap) (L : List Loc) : Prop := v = none ∧ Fr n0 L ∧ Keep h0 h [t] ∧ Arv Z h t kd .byte (Int32.ofNat cap) (bs ++ vs) (.int 0)
set_option maxRecDepth 65536 in
set_option maxHeartbeats 40000000 in
theorem rmPut (l : Launch) (Z : State) (a0 : Array Value) (hw : ∀ d ∈ tables_1, d.before a0 Z = true) (ws : List Jvm.Cond) (a1 : Addr) (a2 : Addr) (zc : Int32) (t : Addr) (kd : ClassId) (n : Nat) (cap : Nat) (bs : List Value) (u : Addr) (ku : ClassId) (mm : Nat) (vs : List Value) (h0 : Heap) (n0 : Nat) (O : Old Z n0 h0) (S_COMPACT : Sta Z Z.heap "java/lang/String" "COMPACT_STRINGS" "Z" (.int zc)) (hcs : ¬ zc = 0) (E_a1 : Exa Z h0 a1 "java/lang/StringBuilder") (C_a1 : Fld Z h0 a1 "java/lang/AbstractStringBuilder" "coder" "B" (.int 0)) (V_a1 : Fld Z h0 a1 "java/lang/AbstractStringBuilder" "value" "[B" (.ref t)) (N_a1 : Fld Z h0 a1 "java/lang/AbstractStringBuilder" "count" "I" (.int (Int32.ofNat n))) (A_t : Arv Z h0 t kd .byte (Int32.ofNat cap) bs (.int 0)) (L_a1 : bs.length = n) (K_a1 : n ≤ cap) (B_a1 : cap < 100000) (g_a1 : n0 ≤ a1) (g_t : n0 ≤ t) (E_a2 : Exa Z h0 a2 "java/lang/String") (C_a2 : Fld Z h0 a2 "java/lang/String" "coder" "B" (.int 0)) (V_a2 : Fld Z h0 a2 "java/lang/String" "value" "[B" (.ref u)) (A_u : Arv Z h0 u ku .byte (Int32.ofNat mm) vs (.int 0)) (L_a2 : vs.length = mm) (B_a2 : mm < 100000) (hcap : n + mm ≤ cap) (ne_u_t : u ≠ t) :
    MetFree l (⟨"java/lang/AbstractStringBuilder", "putStringAt", "(ILjava/lang/String;)V"⟩ : MethodName) (head1 (Jvm.Cond.code (⟨"java/lang/AbstractStringBuilder", "putStringAt", "(ILjava/lang/String;)V"⟩ : MethodName) jdk_68_method_73_code 3 none :: ws) ({ frames := 2, cells := 0, slots := 0, locals := 33 } : Room)) (fun a U => a = #[(.ref a1), (.int (Int32.ofNat n)), (.ref a2)] ∧ Z.Warmed39 U.vm ∧ U.heap = h0) (fun _ _ _ _ _ => True) (fun _ U o U' => ∃ v L, o = .returned v ∧ Q_rmPut Z a1 a2 zc t kd n cap bs u ku mm vs h0 n0 v U'.heap L ∧ FrameEnd U o U' L ({ frames := 2, cells := 0, slots := 0, locals := 33 } : Room).cells ({ frames := 2, cells := 0, slots := 0, locals := 33 } : Room).slots) := by
  refine MetFree.of_bodySF (plainFor_of_name pn_11) hisR ?_
  intro p e s m args below meth c s₁ Bd hml0 hP hK
  obtain ⟨rfl, hZ, hh⟩ := hP
  have hx := Bd.exec
  have hby := Bd.bytes
  have hml : c.maxLocals = 3 := hml0
  have hown : s.vm.findClass "java/lang/AbstractStringBuilder" = some m.cls := findClass_of_methodNamed Bd.named
  have hnm := (name_of_methodNamed Bd.named Bd.method).1
  have hlk : meth.locks = false := BodyLoose.notSynchronized Bd
  have X0 : Stand p l e ({ frames := 2, cells := 0, slots := 0, locals := 33 } : Room) s m #[(.ref a1), (.int (Int32.ofNat n)), (.ref a2)] below meth c s₁ [] 0 0 := Stand.of_body Bd
  have e0 : s₁.heap = h0 := by rw [← hh, Bd.state]; rfl
  have N0 := Fr.nil n0
  have KK : Keep h0 h0 [t] := Keep.refl h0 _
  show Go p e below s ({ frames := 2, cells := 0, slots := 0, locals := 33 } : Room).cells ({ frames := 2, cells := 0, slots := 0, locals := 33 } : Room).slots (Q_rmPut Z a1 a2 zc t kd n cap bs u ku mm vs h0 n0) s₁ (entryFrame m #[(.ref a1), (.int (Int32.ofNat n)), (.ref a2)] 3)
  refine Go.eq (ef_rmPut m a1 (Int32.ofNat n) a2) ?_
  show Go _ _ _ _ _ _ _  s₁ (mkF m 0 #[.val (.ref a1), .val (.int (Int32.ofNat n)), .val (.ref a2)] [])
  refine Go.st (fun tT kT => XS.aloadN X0.here hx rfl (hb hby d11_0) rfl rfl  kT) ?_
  show Go _ _ _ _ _ _ _  s₁ (mkF m 1 #[.val (.ref a1), .val (.int (Int32.ofNat n)), .val (.ref a2)] [(.ref a1)])
  refine Go.st (fun tT kT => XS.aloadN X0.here hx rfl (hb hby d11_1) rfl rfl  kT) ?_
  show Go _ _ _ _ _ _ _  s₁ (mkF m 2 #[.val (.ref a1), .val (.int (Int32.ofNat n)), .val (.ref a2)] [(.ref a2), (.ref a1)])
  obtain ⟨cq1, q1, q1'⟩ := Exa.cell E_a1
  refine Go.pure (w := none) (rest := []) (pc' := 5) (X0.privateBack hx (y := (⟨"java/lang/AbstractStringBuilder", "inflateIfNeededFor", "(Ljava/lang/String;)V"⟩ : MethodName)) hown (mvT hZ (hw _ (List.mem_of_getElem? (i := 72) rfl))) (mvT hZ (hw _ (List.mem_of_getElem? (i := 73) rfl))) (own_selfsel2 (mvT hZ (hw _ (List.mem_of_getElem? (i := 75) rfl))) (mvP hZ (hw _ (List.mem_of_getElem? (i := 74) rfl))) (mvT hZ (hw _ (List.mem_of_getElem? (i := 73) rfl))) (by decide)) (Cond.privateMethod_at (mvP hZ (hw _ (List.mem_of_getElem? (i := 74) rfl)) (args := #[]))) (mvT hZ (hw _ (List.mem_of_getElem? (i := 76) rfl))) (by decide) (backOf (W := 0) (rmInf l Z a0 hw [] a1 a2 zc h0 n0 O S_COMPACT hcs C_a1 E_a2 C_a2) hZ (hw _ (List.mem_of_getElem? (i := 76) rfl)) (hw _ (List.mem_of_getElem? (i := 26) rfl)) (by decide) (by decide)) (g := (mkF m 2 #[.val (.ref a1), .val (.int (Int32.ofNat n)), .val (.ref a2)] [(.ref a2), (.ref a1)])) rfl (by rw [hml]; rfl) (Steps.refl _) (a := a1) (by rw [e0]; exact q1) q1' (argsL := [(.ref a2)]) (rest := []) (lenOf pd__Ljava_lang_String__V rfl) rfl (by show 2 * 0 + _ ≤ _; exact Nat.le_of_eq rfl) (hb hby d11_2) (fun _ _ => ⟨rfl, e0, (by decide : 0 + 0 ≤ _), (by decide : 0 + 0 ≤ _)⟩)) (fun _ _ _ q => q) N0 (fun T1 L1 X1 e1q N1 => ?_)
  show Go _ _ _ _ _ _ _  T1 (mkF m 5 #[.val (.ref a1), .val (.int (Int32.ofNat n)), .val (.ref a2)] [])
  refine Go.st (fun tT kT => XS.aloadN X1.here hx rfl (hb hby d11_5) rfl rfl  kT) ?_
  show Go _ _ _ _ _ _ _  T1 (mkF m 6 #[.val (.ref a1), .val (.int (Int32.ofNat n)), .val (.ref a2)] [(.ref a2)])
  refine Go.st (fun tT kT => XS.aloadN X1.here hx rfl (hb hby d11_6) rfl rfl  kT) ?_
  show Go _ _ _ _ _ _ _  T1 (mkF m 7 #[.val (.ref a1), .val (.int (Int32.ofNat n)), .val (.ref a2)] [(.ref a1), (.ref a2)])
  obtain ⟨T2, X2, e2, st2⟩ := getF X1 hx hZ hown (host := "") (Or.inl (hw _ (List.mem_of_getElem? (i := 32) rfl))) Via.refl e1q V_a1 (g := (mkF m 7 #[.val (.ref a1), .val (.int (Int32.ofNat n)), .val (.ref a2)] [(.ref a1), (.ref a2)])) rfl rfl (hb hby d11_7)
  refine Go.st st2 ?_
  show Go _ _ _ _ _ _ _  T2 (mkF m 10 #[.val (.ref a1), .val (.int (Int32.ofNat n)), .val (.ref a2)] [(.ref t), (.ref a2)])
  refine Go.st (fun tT kT => XS.iloadN X2.here hx rfl (hb hby d11_10) rfl  kT) ?_
  show Go _ _ _ _ _ _ _  T2 (mkF m 11 #[.val (.ref a1), .val (.int (Int32.ofNat n)), .val (.ref a2)] [(.int (Int32.ofNat n)), (.ref t), (.ref a2)])
  refine Go.st (fun tT kT => XS.aloadN X2.here hx rfl (hb hby d11_11) rfl rfl  kT) ?_
  show Go _ _ _ _ _ _ _  T2 (mkF m 12 #[.val (.ref a1), .val (.int (Int32.ofNat n)), .val (.ref a2)] [(.ref a1), (.int (Int32.ofNat n)), (.ref t), (.ref a2)])
  obtain ⟨T3, X3, e3, st3⟩ := getF X2 hx hZ hown (host := "") (Or.inl (hw _ (List.mem_of_getElem? (i := 34) rfl))) Via.refl e2 C_a1 (g := (mkF m 12 #[.val (.ref a1), .val (.int (Int32.ofNat n)), .val (.ref a2)] [(.ref a1), (.int (Int32.ofNat n)), (.ref t), (.ref a2)])) rfl rfl (hb hby d11_12)
  refine Go.st st3 ?_
  show Go _ _ _ _ _ _ _  T3 (mkF m 15 #[.val (.ref a1), .val (.int (Int32.ofNat n)), .val (.ref a2)] [(.int (0 : Int32)), (.int (Int32.ofNat n)), (.ref t), (.ref a2)])
  obtain ⟨cq4, kq4, q4a, q4b, q4c⟩ := isOf hZ e3 E_a2
  obtain ⟨_, _, ⟨T4, L4, k4, n4⟩, -, X4, ⟨Lc4, hQ4, l4, y4, z4⟩, st4⟩ := X3.virtualBack hx (y := (⟨"java/lang/String", "getBytes", "([BIB)V"⟩ : MethodName)) (z := (⟨"java/lang/String", "getBytes", "([BIB)V"⟩ : MethodName)) hown (mvT hZ (hw _ (List.mem_of_getElem? (i := 78) rfl))) (mvT hZ (hw _ (List.mem_of_getElem? (i := 79) rfl))) (notFace_of_selects (args := #[]) (mvT hZ (hw _ (List.mem_of_getElem? (i := 81) rfl)))) (mvT hZ (hw _ (List.mem_of_getElem? (i := 81) rfl))) (mvT hZ (hw _ (List.mem_of_getElem? (i := 80) rfl))) (by decide) (backOf (W := 0) (rmGB l Z a0 hw [] a2 t zc u ku mm vs kd n cap bs h0 n0 O S_COMPACT hcs E_a2 C_a2 V_a2 A_u L_a2 B_a2 A_t L_a1 hcap B_a1 g_t ne_u_t) hZ (hw _ (List.mem_of_getElem? (i := 82) rfl)) (hw _ (List.mem_of_getElem? (i := 5) rfl)) (by decide) (by decide)) q4a q4c (g := (mkF m 15 #[.val (.ref a1), .val (.int (Int32.ofNat n)), .val (.ref a2)] [(.int (0 : Int32)), (.int (Int32.ofNat n)), (.ref t), (.ref a2)])) rfl (by rw [hml]; rfl) (Steps.refl _) (argsL := [(.ref t), (.int (Int32.ofNat n)), (.int (0 : Int32))]) (rest := []) (lenOf pd___BIB_V rfl) rfl (by show 2 * 0 + _ ≤ _; exact Nat.le_of_eq rfl) (hb hby d11_15) (fun _ _ => ⟨rfl, e3, (by decide : 0 + 0 ≤ _), (by decide : 0 + 0 ≤ _)⟩)
  dsimp only [Pt.U, Pt.locs, Pt.cells, Pt.slots] at X4 l4 y4 z4 st4 hQ4
  subst l4 y4 z4
  have X4 : Stand p l e _ _ m _ below meth c T4 _ 0 0 := X4
  obtain ⟨rfl, N4q, K4q, Vq4⟩ := hQ4
  have N4 := Fr.app N1 N4q
  refine Go.tr st4 ?_
  have ne_a1_t : a1 ≠ t := (Exa.neArv E_a1 A_t (hw _ (List.mem_of_getElem? (i := 17) rfl)))
  have ne_a2_t : a2 ≠ t := (Exa.neArv E_a2 A_t (hw _ (List.mem_of_getElem? (i := 6) rfl)))
  have E_a1 := E_a1.keep K4q
  have C_a1 := C_a1.keep K4q (ninS ne_a1_t nin0)
  have V_a1 := V_a1.keep K4q (ninS ne_a1_t nin0)
  have N_a1 := N_a1.keep K4q (ninS ne_a1_t nin0)
  have E_a2 := E_a2.keep K4q
  have A_u := A_u.keep K4q (ninS ne_u_t nin0)
  have C_a2 := C_a2.keep K4q (ninS ne_a2_t nin0)
  have V_a2 := V_a2.keep K4q (ninS ne_a2_t nin0)
  have O := O.keep K4q (allS g_t all0)
  have KK := KK.trans K4q (allS (Or.inl (List.mem_of_getElem? (i := 0) rfl)) all0)
  show Go _ _ _ _ _ _ _  T4 (mkF m 18 #[.val (.ref a1), .val (.int (Int32.ofNat n)), .val (.ref a2)] [])
  refine Go.ret0 X4 hlk hx Bd.returns (hb hby d11_18) (by decide) (by decide) ?_
  show Q_rmPut Z _ _ _ _ _ _ _ _ _ _ _ _ h0 n0 _ T4.heap _
  exact ⟨rfl, N4, KK, Vq4⟩
def Q_rmMax (Z : State) (na : Nat) (nb : Nat) (h0 : Heap) (n0 : Nat) (v : Option Value) (h : Heap) (L : List Loc) : Prop := v = some (.int (Int32.ofNat (max na nb))) ∧ Fr n0 L ∧ h = h0
set_option maxRecDepth 65536 in
set_option maxHeartbeats 40000000 in
theorem rmMax (l : Launch) (Z : State) (a0 : Array Value) (hw : ∀ d ∈ tables_1, d.before a0 Z = true) (ws : List Jvm.Cond) (na : Nat) (nb : Nat) (h0 : Heap) (n0 : Nat) (O : Old Z n0 h0) (ha : na < 1073741824) (hb_ : nb < 1073741824) :
    MetFree l (⟨"java/lang/Math", "max", "(II)I"⟩ : MethodName) (head1 (Jvm.Cond.code (⟨"java/lang/Math", "max", "(II)I"⟩ : MethodName) jdk_29_method_65_code 2 (some .int) :: ws) ({ frames := 0, cells := 0, slots := 0, locals := 0 } : Room)) (fun a U => a = #[(.int (Int32.ofNat na)), (.int (Int32.ofNat nb))] ∧ Z.Warmed39 U.vm ∧ U.heap = h0) (fun _ _ _ _ _ => True) (fun _ U o U' => ∃ v L, o = .returned v ∧ Q_rmMax Z na nb h0 n0 v U'.heap L ∧ FrameEnd U o U' L ({ frames := 0, cells := 0, slots := 0, locals := 0 } : Room).cells ({ frames := 0, cells := 0, slots := 0, locals := 0 } : Room).slots) := by
  refine MetFree.of_bodySF (Jvm.Free.JP.mathPlain rfl (by decide +kernel)) hisR ?_
  intro p e s m args below meth c s₁ Bd hml0 hP hK
  obtain ⟨rfl, hZ, hh⟩ := hP
  have hx := Bd.exec
  have hby := Bd.bytes
  have hml : c.maxLocals = 2 := hml0
  have hown : s.vm.findClass "java/lang/Math" = some m.cls := findClass_of_methodNamed Bd.named
  have hnm := (name_of_methodNamed Bd.named Bd.method).1
  have hlk : meth.locks = false := BodyLoose.notSynchronized Bd
  have X0 : Stand p l e ({ frames := 0, cells := 0, slots := 0, locals := 0 } : Room) s m #[(.int (Int32.ofNat na)), (.int (Int32.ofNat nb))] below meth c s₁ [] 0 0 := Stand.of_body Bd
  have e0 : s₁.heap = h0 := by rw [← hh, Bd.state]; rfl
  have N0 := Fr.nil n0
  show Go p e below s ({ frames := 0, cells := 0, slots := 0, locals := 0 } : Room).cells ({ frames := 0, cells := 0, slots := 0, locals := 0 } : Room).slots (Q_rmMax Z na nb h0 n0) s₁ (entryFrame m #[(.int (Int32.ofNat na)), (.int (Int32.ofNat nb))] 2)
  refine Go.eq (ef_rmMax m (Int32.ofNat na) (Int32.ofNat nb)) ?_
  show Go _ _ _ _ _ _ _  s₁ (mkF m 0 #[.val (.int (Int32.ofNat na)), .val (.int (Int32.ofNat nb))] [])
  refine Go.st (fun tT kT => XS.iloadN X0.here hx rfl (hb hby d28_0) rfl  kT) ?_
  show Go _ _ _ _ _ _ _  s₁ (mkF m 1 #[.val (.int (Int32.ofNat na)), .val (.int (Int32.ofNat nb))] [(.int (Int32.ofNat na))])
  refine Go.st (fun tT kT => XS.iloadN X0.here hx rfl (hb hby d28_1) rfl  kT) ?_
  show Go _ _ _ _ _ _ _  s₁ (mkF m 2 #[.val (.int (Int32.ofNat na)), .val (.int (Int32.ofNat nb))] [(.int (Int32.ofNat nb)), (.int (Int32.ofNat na))])
  by_cases c2_1 : (Int32.ofNat na) < (Int32.ofNat nb)
  · refine Go.st (fun tT kT => XS.icmpYes X0.here hx rfl (pc0 := 2) (pc' := 9) rfl (hb hby d28_2) rfl (tlt c2_1).1 (by decide) (by decide) kT) ?_
    show Go _ _ _ _ _ _ _  s₁ (mkF m 9 #[.val (.int (Int32.ofNat na)), .val (.int (Int32.ofNat nb))] [])
    refine Go.st (fun tT kT => XS.iloadN X0.here hx rfl (hb hby d28_9) rfl  kT) ?_
    show Go _ _ _ _ _ _ _  s₁ (mkF m 10 #[.val (.int (Int32.ofNat na)), .val (.int (Int32.ofNat nb))] [(.int (Int32.ofNat nb))])
    refine Go.retI X0 hlk hx Bd.returns (hb hby d28_10) (by decide) (by decide) ?_
    show Q_rmMax Z _ _ h0 n0 _ s₁.heap _
    rw [e0]
    exact ⟨by have q := c2_1; rw [own_olt (by omega) (by omega)] at q; rw [show max na nb = nb by omega], N0, rfl⟩
  · refine Go.st (fun tT kT => XS.icmpNo X0.here hx rfl (hb hby d28_2) rfl (flt c2_1).1 kT) ?_
    show Go _ _ _ _ _ _ _  s₁ (mkF m 5 #[.val (.int (Int32.ofNat na)), .val (.int (Int32.ofNat nb))] [])
    refine Go.st (fun tT kT => XS.iloadN X0.here hx rfl (hb hby d28_5) rfl  kT) ?_
    show Go _ _ _ _ _ _ _  s₁ (mkF m 6 #[.val (.int (Int32.ofNat na)), .val (.int (Int32.ofNat nb))] [(.int (Int32.ofNat na))])
    refine Go.st (fun tT kT => XS.goto X0.here hx rfl (pc0 := 6) (pc' := 10) rfl (hb hby d28_6) (by decide) (by decide) kT) ?_
    show Go _ _ _ _ _ _ _  s₁ (mkF m 10 #[.val (.int (Int32.ofNat na)), .val (.int (Int32.ofNat nb))] [(.int (Int32.ofNat na))])
    refine Go.retI X0 hlk hx Bd.returns (hb hby d28_10) (by decide) (by decide) ?_
    show Q_rmMax Z _ _ h0 n0 _ s₁.heap _
    rw [e0]
    exact ⟨by have q := c2_1; rw [own_olt (by omega) (by omega)] at q; rw [show max na nb = na by omega], N0, rfl⟩
def Q_rmMin (Z : State) (na : Nat) (nb : Nat) (h0 : Heap) (n0 : Nat) (v : Option Value) (h : Heap) (L : List Loc) : Prop := v = some (.int (Int32.ofNat (min na nb))) ∧ Fr n0 L ∧ h = h0
set_option maxRecDepth 65536 in
set_option maxHeartbeats 40000000 in
theorem rmMin (l : Launch) (Z : State) (a0 : Array Value) (hw : ∀ d ∈ tables_1, d.before a0 Z = true) (ws : List Jvm.Cond) (na : Nat) (nb : Nat) (h0 : Heap) (n0 : Nat) (O : Old Z n0 h0) (ha : na < 1073741824) (hb_ : nb < 1073741824) :
    MetFree l (⟨"java/lang/Math", "min", "(II)I"⟩ : MethodName) (head1 (Jvm.Cond.code (⟨"java/lang/Math", "min", "(II)I"⟩ : MethodName) jdk_29_method_69_code 2 (some .int) :: ws) ({ frames := 0, cells := 0, slots := 0, locals := 0 } : Room)) (fun a U => a = #[(.int (Int32.ofNat na)), (.int (Int32.ofNat nb))] ∧ Z.Warmed39 U.vm ∧ U.heap = h0) (fun _ _ _ _ _ => True) (fun _ U o U' => ∃ v L, o = .returned v ∧ Q_rmMin Z na nb h0 n0 v U'.heap L ∧ FrameEnd U o U' L ({ frames := 0, cells := 0, slots := 0, locals := 0 } : Room).cells ({ frames := 0, cells := 0, slots := 0, locals := 0 } : Room).slots) := by
  refine MetFree.of_bodySF (Jvm.Free.JP.mathPlain rfl (by decide +kernel)) hisR ?_
  intro p e s m args below meth c s₁ Bd hml0 hP hK
  obtain ⟨rfl, hZ, hh⟩ := hP
  have hx := Bd.exec
  have hby := Bd.bytes
  have hml : c.maxLocals = 2 := hml0
  have hown : s.vm.findClass "java/lang/Math" = some m.cls := findClass_of_methodNamed Bd.named
  have hnm := (name_of_methodNamed Bd.named Bd.method).1
  have hlk : meth.locks = false := BodyLoose.notSynchronized Bd
  have X0 : Stand p l e ({ frames := 0, cells := 0, slots := 0, locals := 0 } : Room) s m #[(.int (Int32.ofNat na)), (.int (Int32.ofNat nb))] below meth c s₁ [] 0 0 := Stand.of_body Bd
  have e0 : s₁.heap = h0 := by rw [← hh, Bd.state]; rfl
  have N0 := Fr.nil n0
  show Go p e below s ({ frames := 0, cells := 0, slots := 0, locals := 0 } : Room).cells ({ frames := 0, cells := 0, slots := 0, locals := 0 } : Room).slots (Q_rmMin Z na nb h0 n0) s₁ (entryFrame m #[(.int (Int32.ofNat na)), (.int (Int32.ofNat nb))] 2)
  refine Go.eq (ef_rmMin m (Int32.ofNat na) (Int32.ofNat nb)) ?_
  show Go _ _ _ _ _ _ _  s₁ (mkF m 0 #[.val (.int (Int32.ofNat na)), .val (.int (Int32.ofNat nb))] [])
  refine Go.st (fun tT kT => XS.iloadN X0.here hx rfl (hb hby d24_0) rfl  kT) ?_
  show Go _ _ _ _ _ _ _  s₁ (mkF m 1 #[.val (.int (Int32.ofNat na)), .val (.int (Int32.ofNat nb))] [(.int (Int32.ofNat na))])
  refine Go.st (fun tT kT => XS.iloadN X0.here hx rfl (hb hby d24_1) rfl  kT) ?_
  show Go _ _ _ _ _ _ _  s₁ (mkF m 2 #[.val (.int (Int32.ofNat na)), .val (.int (Int32.ofNat nb))] [(.int (Int32.ofNat nb)), (.int (Int32.ofNat na))])
  by_cases c2_1 : (Int32.ofNat nb) < (Int32.ofNat na)
  · refine Go.st (fun tT kT => XS.icmpYes X0.here hx rfl (pc0 := 2) (pc' := 9) rfl (hb hby d24_2) rfl (tlt c2_1).2.2.1 (by decide) (by decide) kT) ?_
    show Go _ _ _ _ _ _ _  s₁ (mkF m 9 #[.val (.int (Int32.ofNat na)), .val (.int (Int32.ofNat nb))] [])
    refine Go.st (fun tT kT => XS.iloadN X0.here hx rfl (hb hby d24_9) rfl  kT) ?_
    show Go _ _ _ _ _ _ _  s₁ (mkF m 10 #[.val (.int (Int32.ofNat na)), .val (.int (Int32.ofNat nb))] [(.int (Int32.ofNat nb))])
    refine Go.retI X0 hlk hx Bd.returns (hb hby d24_10) (by decide) (by decide) ?_
    show Q_rmMin Z _ _ h0 n0 _ s₁.heap _
    rw [e0]
    exact ⟨by have q := c2_1; rw [own_olt (by omega) (by omega)] at q; rw [show min na nb = nb by omega], N0, rfl⟩
  · refine Go.st (fun tT kT => XS.icmpNo X0.here hx rfl (hb hby d24_2) rfl (flt c2_1).2.2.1 kT) ?_
    show Go _ _ _ _ _ _ _  s₁ (mkF m 5 #[.val (.int (Int32.ofNat na)), .val (.int (Int32.ofNat nb))] [])
    refine Go.st (fun tT kT => XS.iloadN X0.here hx rfl (hb hby d24_5) rfl  kT) ?_
    show Go _ _ _ _ _ _ _  s₁ (mkF m 6 #[.val (.int (Int32.ofNat na)), .val (.int (Int32.ofNat nb))] [(.int (Int32.ofNat na))])
    refine Go.st (fun tT kT => XS.goto X0.here hx rfl (pc0 := 6) (pc' := 10) rfl (hb hby d24_6) (by decide) (by decide) kT) ?_
    show Go _ _ _ _ _ _ _  s₁ (mkF m 10 #[.val (.int (Int32.ofNat na)), .val (.int (Int32.ofNat nb))] [(.int (Int32.ofNat na))])
    refine Go.retI X0 hlk hx Bd.returns (hb hby d24_10) (by decide) (by decide) ?_
    show Q_rmMin Z _ _ h0 n0 _ s₁.heap _
    rw [e0]
    exact ⟨by have q := c2_1; rw [own_olt (by omega) (by omega)] at q; rw [show min na nb = na by omega], N0, rfl⟩
def Q_rmNL (Z : State) (c0 : Nat) (na : Nat) (nb : Nat) (h0 : Heap) (n0 : Nat) (v : Option Value) (h : Heap) (L : List Loc) : Prop := v = some (.int (Int32.ofNat (c0 + max na nb))) ∧ Fr n0 L ∧ h = h0
set_option maxRecDepth 65536 in
set_option maxHeartbeats 40000000 in
theorem rmNL (l : Launch) (Z : State) (a0 : Array Value) (hw : ∀ d ∈ tables_1, d.before a0 Z = true) (ws : List Jvm.Cond) (c0 : Nat) (na : Nat) (nb : Nat) (h0 : Heap) (n0 : Nat) (O : Old Z n0 h0) (hc : c0 < 500000000) (ha : na < 500000000) (hb_ : nb < 500000000) (hpos : 0 < nb) :
    MetFree l (⟨"jdk/internal/util/ArraysSupport", "newLength", "(III)I"⟩ : MethodName) (head1 (Jvm.Cond.code (⟨"jdk/internal/util/ArraysSupport", "newLength", "(III)I"⟩ : MethodName) jdk_48_method_27_code 4 (some .int) :: ws) ({ frames := 1, cells := 0, slots := 0, locals := 14 } : Room)) (fun a U => a = #[(.int (Int32.ofNat c0)), (.int (Int32.ofNat na)), (.int (Int32.ofNat nb))] ∧ Z.Warmed39 U.vm ∧ U.heap = h0) (fun _ _ _ _ _ => True) (fun _ U o U' => ∃ v L, o = .returned v ∧ Q_rmNL Z c0 na nb h0 n0 v U'.heap L ∧ FrameEnd U o U' L ({ frames := 1, cells := 0, slots := 0, locals := 14 } : Room).cells ({ frames := 1, cells := 0, slots := 0, locals := 14 } : Room).slots) := by
  refine MetFree.of_bodySF (plainFor_of_name pn_27) hisR ?_
  intro p e s m args below meth c s₁ Bd hml0 hP hK
  obtain ⟨rfl, hZ, hh⟩ := hP
  have hx := Bd.exec
  have hby := Bd.bytes
  have hml : c.maxLocals = 4 := hml0
  have hown : s.vm.findClass "jdk/internal/util/ArraysSupport" = some m.cls := findClass_of_methodNamed Bd.named
  have hnm := (name_of_methodNamed Bd.named Bd.method).1
  have hlk : meth.locks = false := BodyLoose.notSynchronized Bd
  have X0 : Stand p l e ({ frames := 1, cells := 0, slots := 0, locals := 14 } : Room) s m #[(.int (Int32.ofNat c0)), (.int (Int32.ofNat na)), (.int (Int32.ofNat nb))] below meth c s₁ [] 0 0 := Stand.of_body Bd
  have e0 : s₁.heap = h0 := by rw [← hh, Bd.state]; rfl
  have N0 := Fr.nil n0
  show Go p e below s ({ frames := 1, cells := 0, slots := 0, locals := 14 } : Room).cells ({ frames := 1, cells := 0, slots := 0, locals := 14 } : Room).slots (Q_rmNL Z c0 na nb h0 n0) s₁ (entryFrame m #[(.int (Int32.ofNat c0)), (.int (Int32.ofNat na)), (.int (Int32.ofNat nb))] 4)
  refine Go.eq (ef_rmNL m (Int32.ofNat c0) (Int32.ofNat na) (Int32.ofNat nb)) ?_
  show Go _ _ _ _ _ _ _  s₁ (mkF m 0 #[.val (.int (Int32.ofNat c0)), .val (.int (Int32.ofNat na)), .val (.int (Int32.ofNat nb)), .unset] [])
  refine Go.st (fun tT kT => XS.iloadN X0.here hx rfl (hb hby d27_0) rfl  kT) ?_
  show Go _ _ _ _ _ _ _  s₁ (mkF m 1 #[.val (.int (Int32.ofNat c0)), .val (.int (Int32.ofNat na)), .val (.int (Int32.ofNat nb)), .unset] [(.int (Int32.ofNat c0))])
  refine Go.st (fun tT kT => XS.iloadN X0.here hx rfl (hb hby d27_1) rfl  kT) ?_
  show Go _ _ _ _ _ _ _  s₁ (mkF m 2 #[.val (.int (Int32.ofNat c0)), .val (.int (Int32.ofNat na)), .val (.int (Int32.ofNat nb)), .unset] [(.int (Int32.ofNat na)), (.int (Int32.ofNat c0))])
  refine Go.st (fun tT kT => XS.iloadN X0.here hx rfl (hb hby d27_2) rfl  kT) ?_
  show Go _ _ _ _ _ _ _  s₁ (mkF m 3 #[.val (.int (Int32.ofNat c0)), .val (.int (Int32.ofNat na)), .val (.int (Int32.ofNat nb)), .unset] [(.int (Int32.ofNat nb)), (.int (Int32.ofNat na)), (.int (Int32.ofNat c0))])
  refine Go.pureS (w := (some (.int (Int32.ofNat (max na nb))))) (rest := [(.int (Int32.ofNat c0))]) (pc' := 6) (Jvm.LawKit.callS X0 hx (y := (⟨"java/lang/Math", "max", "(II)I"⟩ : MethodName)) hown (mvT hZ (hw _ (List.mem_of_getElem? (i := 150) rfl))) (mvT hZ (hw _ (List.mem_of_getElem? (i := 151) rfl))) (mvT hZ (hw _ (List.mem_of_getElem? (i := 132) rfl))) (mvT hZ (hw _ (List.mem_of_getElem? (i := 152) rfl))) (by decide) (backOf (W := 1) (rmMax l Z a0 hw [] na nb h0 n0 O (by omega) (by omega)) hZ (hw _ (List.mem_of_getElem? (i := 152) rfl)) (hw _ (List.mem_of_getElem? (i := 132) rfl)) (by decide) (by decide)) (g := (mkF m 3 #[.val (.int (Int32.ofNat c0)), .val (.int (Int32.ofNat na)), .val (.int (Int32.ofNat nb)), .unset] [(.int (Int32.ofNat nb)), (.int (Int32.ofNat na)), (.int (Int32.ofNat c0))])) rfl (by rw [hml]; rfl) (argsL := [(.int (Int32.ofNat na)), (.int (Int32.ofNat nb))]) (rest := [(.int (Int32.ofNat c0))]) (lenOf pd__II_I rfl) rfl (by show 2 * 0 + _ ≤ _; exact Nat.le_of_eq rfl) (hb hby d27_3) (fun _ _ => ⟨rfl, e0, (by decide : 0 + 0 ≤ _), (by decide : 0 + 0 ≤ _)⟩)) (fun _ _ _ q => q) N0 (fun T1 L1 X1 e1q N1 => ?_)
  show Go _ _ _ _ _ _ _  T1 (mkF m 6 #[.val (.int (Int32.ofNat c0)), .val (.int (Int32.ofNat na)), .val (.int (Int32.ofNat nb)), .unset] [(.int (Int32.ofNat (max na nb))), (.int (Int32.ofNat c0))])
  refine Go.st (fun tT kT => XS.iadd X1.here hx rfl (hb hby d27_6) rfl kT) ?_
  show Go _ _ _ _ _ _ _  T1 (mkF m 7 #[.val (.int (Int32.ofNat c0)), .val (.int (Int32.ofNat na)), .val (.int (Int32.ofNat nb)), .unset] [(.int ((Int32.ofNat c0) + (Int32.ofNat (max na nb))))])
  rw [own_oadd]
  show Go _ _ _ _ _ _ _  T1 (mkF m 7 #[.val (.int (Int32.ofNat c0)), .val (.int (Int32.ofNat na)), .val (.int (Int32.ofNat nb)), .unset] [(.int (Int32.ofNat (c0 + max na nb)))])
  refine Go.st (fun tT kT => XS.istoreN X1.here hx rfl (hb hby d27_7) rfl (l' := #[.val (.int (Int32.ofNat c0)), .val (.int (Int32.ofNat na)), .val (.int (Int32.ofNat nb)), .val (.int (Int32.ofNat (c0 + max na nb)))]) rfl kT) ?_
  show Go _ _ _ _ _ _ _  T1 (mkF m 8 #[.val (.int (Int32.ofNat c0)), .val (.int (Int32.ofNat na)), .val (.int (Int32.ofNat nb)), .val (.int (Int32.ofNat (c0 + max na nb)))] [])
  refine Go.st (fun tT kT => XS.iconst X1.here hx rfl (hb hby d27_8) kT) ?_
  show Go _ _ _ _ _ _ _  T1 (mkF m 9 #[.val (.int (Int32.ofNat c0)), .val (.int (Int32.ofNat na)), .val (.int (Int32.ofNat nb)), .val (.int (Int32.ofNat (c0 + max na nb)))] [(.int (0 : Int32))])
  refine Go.st (fun tT kT => XS.iloadN X1.here hx rfl (hb hby d27_9) rfl  kT) ?_
  show Go _ _ _ _ _ _ _  T1 (mkF m 10 #[.val (.int (Int32.ofNat c0)), .val (.int (Int32.ofNat na)), .val (.int (Int32.ofNat nb)), .val (.int (Int32.ofNat (c0 + max na nb)))] [(.int (Int32.ofNat (c0 + max na nb))), (.int (0 : Int32))])
  refine Go.st (fun tT kT => XS.icmpNo X1.here hx rfl (hb hby d27_10) rfl (tlt (own_opos (by omega) (by omega) : (0 : Int32) < (Int32.ofNat (c0 + max na nb)))).2.1 kT) ?_
  show Go _ _ _ _ _ _ _  T1 (mkF m 13 #[.val (.int (Int32.ofNat c0)), .val (.int (Int32.ofNat na)), .val (.int (Int32.ofNat nb)), .val (.int (Int32.ofNat (c0 + max na nb)))] [])
  refine Go.st (fun tT kT => XS.iloadN X1.here hx rfl (hb hby d27_13) rfl  kT) ?_
  show Go _ _ _ _ _ _ _  T1 (mkF m 14 #[.val (.int (Int32.ofNat c0)), .val (.int (Int32.ofNat na)), .val (.int (Int32.ofNat nb)), .val (.int (Int32.ofNat (c0 + max na nb)))] [(.int (Int32.ofNat (c0 + max na nb)))])
  refine Go.st (X1.ldcInt hx hown (mvT hZ (hw _ (List.mem_of_getElem? (i := 153) rfl))) (g := (mkF m 14 #[.val (.int (Int32.ofNat c0)), .val (.int (Int32.ofNat na)), .val (.int (Int32.ofNat nb)), .val (.int (Int32.ofNat (c0 + max na nb)))] [(.int (Int32.ofNat (c0 + max na nb)))])) rfl (hb hby d27_14)) ?_
  show Go _ _ _ _ _ _ _  T1 (mkF m 16 #[.val (.int (Int32.ofNat c0)), .val (.int (Int32.ofNat na)), .val (.int (Int32.ofNat nb)), .val (.int (Int32.ofNat (c0 + max na nb)))] [(.int (2147483639 : Int32)), (.int (Int32.ofNat (c0 + max na nb)))])
  refine Go.st (fun tT kT => XS.icmpNo X1.here hx rfl (hb hby d27_16) rfl (flt (own_onbig (by omega) : ¬ ((2147483639 : Int32) < (Int32.ofNat (c0 + max na nb))))).2.2.1 kT) ?_
  show Go _ _ _ _ _ _ _  T1 (mkF m 19 #[.val (.int (Int32.ofNat c0)), .val (.int (Int32.ofNat na)), .val (.int (Int32.ofNat nb)), .val (.int (Int32.ofNat (c0 + max na nb)))] [])
  refine Go.st (fun tT kT => XS.iloadN X1.here hx rfl (hb hby d27_19) rfl  kT) ?_
  show Go _ _ _ _ _ _ _  T1 (mkF m 20 #[.val (.int (Int32.ofNat c0)), .val (.int (Int32.ofNat na)), .val (.int (Int32.ofNat nb)), .val (.int (Int32.ofNat (c0 + max na nb)))] [(.int (Int32.ofNat (c0 + max na nb)))])
  refine Go.retI X1 hlk hx Bd.returns (hb hby d27_20) (by decide) (by decide) ?_
  show Q_rmNL Z _ _ _ h0 n0 _ T1.heap _
  rw [e1q]
  exact ⟨rfl, N1, rfl⟩
def Q_rmNC (Z : State) (a1 : Addr) (kk : Nat) (t : Addr) (kd : ClassId) (n : Nat) (cap : Nat) (bs : List Value) (h0 : Heap) (n0 : Nat) (v : Option Value) (h : Heap) (L : List Loc) : Prop := v = some (.int (Int32.ofNat (cap + max (kk - cap) (cap + 2)))) ∧ Fr n0 L ∧ h = h0
set_option maxRecDepth 65536 in
set_option maxHeartbeats 40000000 in
theorem rmNC (l : Launch) (Z : State) (a0 : Array Value) (hw : ∀ d ∈ tables_1, d.before a0 Z = true) (ws : List Jvm.Cond) (a1 : Addr) (kk : Nat) (t : Addr) (kd : ClassId) (n : Nat) (cap : Nat) (bs : List Value) (h0 : Heap) (n0 : Nat) (O : Old Z n0 h0) (E_a1 : Exa Z h0 a1 "java/lang/StringBuilder") (C_a1 : Fld Z h0 a1 "java/lang/AbstractStringBuilder" "coder" "B" (.int 0)) (V_a1 : Fld Z h0 a1 "java/lang/AbstractStringBuilder" "value" "[B" (.ref t)) (N_a1 : Fld Z h0 a1 "java/lang/AbstractStringBuilder" "count" "I" (.int (Int32.ofNat n))) (A_t : Arv Z h0 t kd .byte (Int32.ofNat cap) bs (.int 0)) (L_a1 : bs.length = n) (K_a1 : n ≤ cap) (B_a1 : cap < 100000) (g_a1 : n0 ≤ a1) (g_t : n0 ≤ t) (hk1 : cap < kk) (hk2 : kk < 200000) :
    MetFree l (⟨"java/lang/AbstractStringBuilder", "newCapacity", "(I)I"⟩ : MethodName) (head1 (Jvm.Cond.code (⟨"java/lang/AbstractStringBuilder", "newCapacity", "(I)I"⟩ : MethodName) jdk_68_method_10_code 6 (some .int) :: ws) ({ frames := 2, cells := 0, slots := 0, locals := 29 } : Room)) (fun a U => a = #[(.ref a1), (.int (Int32.ofNat kk))] ∧ Z.Warmed39 U.vm ∧ U.heap = h0) (fun _ _ _ _ _ => True) (fun _ U o U' => ∃ v L, o = .returned v ∧ Q_rmNC Z a1 kk t kd n cap bs h0 n0 v U'.heap L ∧ FrameEnd U o U' L ({ frames := 2, cells := 0, slots := 0, locals := 29 } : Room).cells ({ frames := 2, cells := 0, slots := 0, locals := 29 } : Room).slots) := by
  refine MetFree.of_bodySF (plainFor_of_name pn_26) hisR ?_
  intro p e s m args below meth c s₁ Bd hml0 hP hK
  obtain ⟨rfl, hZ, hh⟩ := hP
  have hx := Bd.exec
  have hby := Bd.bytes
  have hml : c.maxLocals = 6 := hml0
  have hown : s.vm.findClass "java/lang/AbstractStringBuilder" = some m.cls := findClass_of_methodNamed Bd.named
  have hnm := (name_of_methodNamed Bd.named Bd.method).1
  have hlk : meth.locks = false := BodyLoose.notSynchronized Bd
  have X0 : Stand p l e ({ frames := 2, cells := 0, slots := 0, locals := 29 } : Room) s m #[(.ref a1), (.int (Int32.ofNat kk))] below meth c s₁ [] 0 0 := Stand.of_body Bd
  have e0 : s₁.heap = h0 := by rw [← hh, Bd.state]; rfl
  have N0 := Fr.nil n0
  show Go p e below s ({ frames := 2, cells := 0, slots := 0, locals := 29 } : Room).cells ({ frames := 2, cells := 0, slots := 0, locals := 29 } : Room).slots (Q_rmNC Z a1 kk t kd n cap bs h0 n0) s₁ (entryFrame m #[(.ref a1), (.int (Int32.ofNat kk))] 6)
  refine Go.eq (ef_rmNC m a1 (Int32.ofNat kk)) ?_
  show Go _ _ _ _ _ _ _  s₁ (mkF m 0 #[.val (.ref a1), .val (.int (Int32.ofNat kk)), .unset, .unset, .unset, .unset] [])
  refine Go.st (fun tT kT => XS.aloadN X0.here hx rfl (hb hby d26_0) rfl rfl  kT) ?_
  show Go _ _ _ _ _ _ _  s₁ (mkF m 1 #[.val (.ref a1), .val (.int (Int32.ofNat kk)), .unset, .unset, .unset, .unset] [(.ref a1)])
  obtain ⟨T1, X1, e1, st1⟩ := getF X0 hx hZ hown (host := "") (Or.inl (hw _ (List.mem_of_getElem? (i := 32) rfl))) Via.refl e0 V_a1 (g := (mkF m 1 #[.val (.ref a1), .val (.int (Int32.ofNat kk)), .unset, .unset, .unset, .unset] [(.ref a1)])) rfl rfl (hb hby d26_1)
  refine Go.st st1 ?_
  show Go _ _ _ _ _ _ _  T1 (mkF m 4 #[.val (.ref a1), .val (.int (Int32.ofNat kk)), .unset, .unset, .unset, .unset] [(.ref t)])
  obtain ⟨cl2, Ar2, q2, S2, M2, Hh2, G2⟩ := id A_t
  refine Go.st (X1.arraylength hx (by rw [e1]; exact Ar2.1) (State.isArrayOf_alike hZ.alike Ar2.2.1) (g := (mkF m 4 #[.val (.ref a1), .val (.int (Int32.ofNat kk)), .unset, .unset, .unset, .unset] [(.ref t)])) rfl rfl (hb hby d26_4)) ?_
  rw [len_of S2 M2]
  show Go _ _ _ _ _ _ _  T1 (mkF m 5 #[.val (.ref a1), .val (.int (Int32.ofNat kk)), .unset, .unset, .unset, .unset] [(.int (Int32.ofNat cap))])
  refine Go.st (fun tT kT => XS.istoreN X1.here hx rfl (hb hby d26_5) rfl (l' := #[.val (.ref a1), .val (.int (Int32.ofNat kk)), .val (.int (Int32.ofNat cap)), .unset, .unset, .unset]) rfl kT) ?_
  show Go _ _ _ _ _ _ _  T1 (mkF m 6 #[.val (.ref a1), .val (.int (Int32.ofNat kk)), .val (.int (Int32.ofNat cap)), .unset, .unset, .unset] [])
  refine Go.st (fun tT kT => XS.iloadN X1.here hx rfl (hb hby d26_6) rfl  kT) ?_
  show Go _ _ _ _ _ _ _  T1 (mkF m 7 #[.val (.ref a1), .val (.int (Int32.ofNat kk)), .val (.int (Int32.ofNat cap)), .unset, .unset, .unset] [(.int (Int32.ofNat kk))])
  refine Go.st (fun tT kT => XS.aloadN X1.here hx rfl (hb hby d26_7) rfl rfl  kT) ?_
  show Go _ _ _ _ _ _ _  T1 (mkF m 8 #[.val (.ref a1), .val (.int (Int32.ofNat kk)), .val (.int (Int32.ofNat cap)), .unset, .unset, .unset] [(.ref a1), (.int (Int32.ofNat kk))])
  obtain ⟨T3, X3, e3, st3⟩ := getF X1 hx hZ hown (host := "") (Or.inl (hw _ (List.mem_of_getElem? (i := 34) rfl))) Via.refl e1 C_a1 (g := (mkF m 8 #[.val (.ref a1), .val (.int (Int32.ofNat kk)), .val (.int (Int32.ofNat cap)), .unset, .unset, .unset] [(.ref a1), (.int (Int32.ofNat kk))])) rfl rfl (hb hby d26_8)
  refine Go.st st3 ?_
  show Go _ _ _ _ _ _ _  T3 (mkF m 11 #[.val (.ref a1), .val (.int (Int32.ofNat kk)), .val (.int (Int32.ofNat cap)), .unset, .unset, .unset] [(.int (0 : Int32)), (.int (Int32.ofNat kk))])
  refine Go.st (fun tT kT => XS.ishl X3.here hx rfl (hb hby d26_11) rfl kT) ?_
  show Go _ _ _ _ _ _ _  T3 (mkF m 12 #[.val (.ref a1), .val (.int (Int32.ofNat kk)), .val (.int (Int32.ofNat cap)), .unset, .unset, .unset] [(.int ((Int32.ofNat kk) <<< ((0 : Int32) &&& 31)))])
  rw [own_shl0]
  show Go _ _ _ _ _ _ _  T3 (mkF m 12 #[.val (.ref a1), .val (.int (Int32.ofNat kk)), .val (.int (Int32.ofNat cap)), .unset, .unset, .unset] [(.int (Int32.ofNat kk))])
  refine Go.st (fun tT kT => XS.istoreN X3.here hx rfl (hb hby d26_12) rfl (l' := #[.val (.ref a1), .val (.int (Int32.ofNat kk)), .val (.int (Int32.ofNat cap)), .val (.int (Int32.ofNat kk)), .unset, .unset]) rfl kT) ?_
  show Go _ _ _ _ _ _ _  T3 (mkF m 13 #[.val (.ref a1), .val (.int (Int32.ofNat kk)), .val (.int (Int32.ofNat cap)), .val (.int (Int32.ofNat kk)), .unset, .unset] [])
  refine Go.st (fun tT kT => XS.iloadN X3.here hx rfl (hb hby d26_13) rfl  kT) ?_
  show Go _ _ _ _ _ _ _  T3 (mkF m 14 #[.val (.ref a1), .val (.int (Int32.ofNat kk)), .val (.int (Int32.ofNat cap)), .val (.int (Int32.ofNat kk)), .unset, .unset] [(.int (Int32.ofNat kk))])
  refine Go.st (fun tT kT => XS.iloadN X3.here hx rfl (hb hby d26_14) rfl  kT) ?_
  show Go _ _ _ _ _ _ _  T3 (mkF m 15 #[.val (.ref a1), .val (.int (Int32.ofNat kk)), .val (.int (Int32.ofNat cap)), .val (.int (Int32.ofNat kk)), .unset, .unset] [(.int (Int32.ofNat cap)), (.int (Int32.ofNat kk))])
  refine Go.st (fun tT kT => XS.isub X3.here hx rfl (hb hby d26_15) rfl kT) ?_
  show Go _ _ _ _ _ _ _  T3 (mkF m 16 #[.val (.ref a1), .val (.int (Int32.ofNat kk)), .val (.int (Int32.ofNat cap)), .val (.int (Int32.ofNat kk)), .unset, .unset] [(.int ((Int32.ofNat kk) - (Int32.ofNat cap)))])
  rw [own_osub (by omega) (by omega)]
  show Go _ _ _ _ _ _ _  T3 (mkF m 16 #[.val (.ref a1), .val (.int (Int32.ofNat kk)), .val (.int (Int32.ofNat cap)), .val (.int (Int32.ofNat kk)), .unset, .unset] [(.int (Int32.ofNat (kk - cap)))])
  refine Go.st (fun tT kT => XS.istore X3.here hx rfl (hb hby d26_16) rfl (l' := #[.val (.ref a1), .val (.int (Int32.ofNat kk)), .val (.int (Int32.ofNat cap)), .val (.int (Int32.ofNat kk)), .val (.int (Int32.ofNat (kk - cap))), .unset]) rfl kT) ?_
  show Go _ _ _ _ _ _ _  T3 (mkF m 18 #[.val (.ref a1), .val (.int (Int32.ofNat kk)), .val (.int (Int32.ofNat cap)), .val (.int (Int32.ofNat kk)), .val (.int (Int32.ofNat (kk - cap))), .unset] [])
  refine Go.st (fun tT kT => XS.iloadN X3.here hx rfl (hb hby d26_18) rfl  kT) ?_
  show Go _ _ _ _ _ _ _  T3 (mkF m 19 #[.val (.ref a1), .val (.int (Int32.ofNat kk)), .val (.int (Int32.ofNat cap)), .val (.int (Int32.ofNat kk)), .val (.int (Int32.ofNat (kk - cap))), .unset] [(.int (Int32.ofNat cap))])
  refine Go.st (fun tT kT => XS.iload X3.here hx rfl (hb hby d26_19) rfl  kT) ?_
  show Go _ _ _ _ _ _ _  T3 (mkF m 21 #[.val (.ref a1), .val (.int (Int32.ofNat kk)), .val (.int (Int32.ofNat cap)), .val (.int (Int32.ofNat kk)), .val (.int (Int32.ofNat (kk - cap))), .unset] [(.int (Int32.ofNat (kk - cap))), (.int (Int32.ofNat cap))])
  refine Go.st (fun tT kT => XS.iloadN X3.here hx rfl (hb hby d26_21) rfl  kT) ?_
  show Go _ _ _ _ _ _ _  T3 (mkF m 22 #[.val (.ref a1), .val (.int (Int32.ofNat kk)), .val (.int (Int32.ofNat cap)), .val (.int (Int32.ofNat kk)), .val (.int (Int32.ofNat (kk - cap))), .unset] [(.int (Int32.ofNat cap)), (.int (Int32.ofNat (kk - cap))), (.int (Int32.ofNat cap))])
  refine Go.st (fun tT kT => XS.iconst X3.here hx rfl (hb hby d26_22) kT) ?_
  show Go _ _ _ _ _ _ _  T3 (mkF m 23 #[.val (.ref a1), .val (.int (Int32.ofNat kk)), .val (.int (Int32.ofNat cap)), .val (.int (Int32.ofNat kk)), .val (.int (Int32.ofNat (kk - cap))), .unset] [(.int (2 : Int32)), (.int (Int32.ofNat cap)), (.int (Int32.ofNat (kk - cap))), (.int (Int32.ofNat cap))])
  refine Go.st (fun tT kT => XS.aloadN X3.here hx rfl (hb hby d26_23) rfl rfl  kT) ?_
  show Go _ _ _ _ _ _ _  T3 (mkF m 24 #[.val (.ref a1), .val (.int (Int32.ofNat kk)), .val (.int (Int32.ofNat cap)), .val (.int (Int32.ofNat kk)), .val (.int (Int32.ofNat (kk - cap))), .unset] [(.ref a1), (.int (2 : Int32)), (.int (Int32.ofNat cap)), (.int (Int32.ofNat (kk - cap))), (.int (Int32.ofNat cap))])
  obtain ⟨T4, X4, e4, st4⟩ := getF X3 hx hZ hown (host := "") (Or.inl (hw _ (List.mem_of_getElem? (i := 34) rfl))) Via.refl e3 C_a1 (g := (mkF m 24 #[.val (.ref a1), .val (.int (Int32.ofNat kk)), .val (.int (Int32.ofNat cap)), .val (.int (Int32.ofNat kk)), .val (.int (Int32.ofNat (kk - cap))), .unset] [(.ref a1), (.int (2 : Int32)), (.int (Int32.ofNat cap)), (.int (Int32.ofNat (kk - cap))), (.int (Int32.ofNat cap))])) rfl rfl (hb hby d26_24)
  refine Go.st st4 ?_
  show Go _ _ _ _ _ _ _  T4 (mkF m 27 #[.val (.ref a1), .val (.int (Int32.ofNat kk)), .val (.int (Int32.ofNat cap)), .val (.int (Int32.ofNat kk)), .val (.int (Int32.ofNat (kk - cap))), .unset] [(.int (0 : Int32)), (.int (2 : Int32)), (.int (Int32.ofNat cap)), (.int (Int32.ofNat (kk - cap))), (.int (Int32.ofNat cap))])
  refine Go.st (fun tT kT => XS.ishl X4.here hx rfl (hb hby d26_27) rfl kT) ?_
  show Go _ _ _ _ _ _ _  T4 (mkF m 28 #[.val (.ref a1), .val (.int (Int32.ofNat kk)), .val (.int (Int32.ofNat cap)), .val (.int (Int32.ofNat kk)), .val (.int (Int32.ofNat (kk - cap))), .unset] [(.int ((2 : Int32) <<< ((0 : Int32) &&& 31))), (.int (Int32.ofNat cap)), (.int (Int32.ofNat (kk - cap))), (.int (Int32.ofNat cap))])
  rw [own_shl0]
  show Go _ _ _ _ _ _ _  T4 (mkF m 28 #[.val (.ref a1), .val (.int (Int32.ofNat kk)), .val (.int (Int32.ofNat cap)), .val (.int (Int32.ofNat kk)), .val (.int (Int32.ofNat (kk - cap))), .unset] [(.int (2 : Int32)), (.int (Int32.ofNat cap)), (.int (Int32.ofNat (kk - cap))), (.int (Int32.ofNat cap))])
  refine Go.st (fun tT kT => XS.iadd X4.here hx rfl (hb hby d26_28) rfl kT) ?_
  show Go _ _ _ _ _ _ _  T4 (mkF m 29 #[.val (.ref a1), .val (.int (Int32.ofNat kk)), .val (.int (Int32.ofNat cap)), .val (.int (Int32.ofNat kk)), .val (.int (Int32.ofNat (kk - cap))), .unset] [(.int ((Int32.ofNat cap) + (2 : Int32))), (.int (Int32.ofNat (kk - cap))), (.int (Int32.ofNat cap))])
  rw [own_oadd2]
  show Go _ _ _ _ _ _ _  T4 (mkF m 29 #[.val (.ref a1), .val (.int (Int32.ofNat kk)), .val (.int (Int32.ofNat cap)), .val (.int (Int32.ofNat kk)), .val (.int (Int32.ofNat (kk - cap))), .unset] [(.int (Int32.ofNat (cap + 2))), (.int (Int32.ofNat (kk - cap))), (.int (Int32.ofNat cap))])
  refine Go.pureS (w := (some (.int (Int32.ofNat (cap + max (kk - cap) (cap + 2)))))) (rest := []) (pc' := 32) (Jvm.LawKit.callS X4 hx (y := (⟨"jdk/internal/util/ArraysSupport", "newLength", "(III)I"⟩ : MethodName)) hown (mvT hZ (hw _ (List.mem_of_getElem? (i := 146) rfl))) (mvT hZ (hw _ (List.mem_of_getElem? (i := 147) rfl))) (mvT hZ (hw _ (List.mem_of_getElem? (i := 148) rfl))) (mvT hZ (hw _ (List.mem_of_getElem? (i := 149) rfl))) (by decide) (backOf (W := 0) (rmNL l Z a0 hw [] cap (kk - cap) (cap + 2) h0 n0 O (by omega) (by omega) (by omega) (by omega)) hZ (hw _ (List.mem_of_getElem? (i := 149) rfl)) (hw _ (List.mem_of_getElem? (i := 148) rfl)) (by decide) (by decide)) (g := (mkF m 29 #[.val (.ref a1), .val (.int (Int32.ofNat kk)), .val (.int (Int32.ofNat cap)), .val (.int (Int32.ofNat kk)), .val (.int (Int32.ofNat (kk - cap))), .unset] [(.int (Int32.ofNat (cap + 2))), (.int (Int32.ofNat (kk - cap))), (.int (Int32.ofNat cap))])) rfl (by rw [hml]; rfl) (argsL := [(.int (Int32.ofNat cap)), (.int (Int32.ofNat (kk - cap))), (.int (Int32.ofNat (cap + 2)))]) (rest := []) (lenOf pd__III_I rfl) rfl (by show 2 * 0 + _ ≤ _; exact Nat.le_of_eq rfl) (hb hby d26_29) (fun _ _ => ⟨rfl, e4, (by decide : 0 + 0 ≤ _), (by decide : 0 + 0 ≤ _)⟩)) (fun _ _ _ q => q) N0 (fun T5 L5 X5 e5q N5 => ?_)
  show Go _ _ _ _ _ _ _  T5 (mkF m 32 #[.val (.ref a1), .val (.int (Int32.ofNat kk)), .val (.int (Int32.ofNat cap)), .val (.int (Int32.ofNat kk)), .val (.int (Int32.ofNat (kk - cap))), .unset] [(.int (Int32.ofNat (cap + max (kk - cap) (cap + 2))))])
  refine Go.st (fun tT kT => XS.istore X5.here hx rfl (hb hby d26_32) rfl (l' := #[.val (.ref a1), .val (.int (Int32.ofNat kk)), .val (.int (Int32.ofNat cap)), .val (.int (Int32.ofNat kk)), .val (.int (Int32.ofNat (kk - cap))), .val (.int (Int32.ofNat (cap + max (kk - cap) (cap + 2))))]) rfl kT) ?_
  show Go _ _ _ _ _ _ _  T5 (mkF m 34 #[.val (.ref a1), .val (.int (Int32.ofNat kk)), .val (.int (Int32.ofNat cap)), .val (.int (Int32.ofNat kk)), .val (.int (Int32.ofNat (kk - cap))), .val (.int (Int32.ofNat (cap + max (kk - cap) (cap + 2))))] [])
  refine Go.st (fun tT kT => XS.iload X5.here hx rfl (hb hby d26_34) rfl  kT) ?_
  show Go _ _ _ _ _ _ _  T5 (mkF m 36 #[.val (.ref a1), .val (.int (Int32.ofNat kk)), .val (.int (Int32.ofNat cap)), .val (.int (Int32.ofNat kk)), .val (.int (Int32.ofNat (kk - cap))), .val (.int (Int32.ofNat (cap + max (kk - cap) (cap + 2))))] [(.int (Int32.ofNat (cap + max (kk - cap) (cap + 2))))])
  refine Go.st (X5.ldcInt hx hown (mvT hZ (hw _ (List.mem_of_getElem? (i := 154) rfl))) (g := (mkF m 36 #[.val (.ref a1), .val (.int (Int32.ofNat kk)), .val (.int (Int32.ofNat cap)), .val (.int (Int32.ofNat kk)), .val (.int (Int32.ofNat (kk - cap))), .val (.int (Int32.ofNat (cap + max (kk - cap) (cap + 2))))] [(.int (Int32.ofNat (cap + max (kk - cap) (cap + 2))))])) rfl (hb hby d26_36)) ?_
  show Go _ _ _ _ _ _ _  T5 (mkF m 38 #[.val (.ref a1), .val (.int (Int32.ofNat kk)), .val (.int (Int32.ofNat cap)), .val (.int (Int32.ofNat kk)), .val (.int (Int32.ofNat (kk - cap))), .val (.int (Int32.ofNat (cap + max (kk - cap) (cap + 2))))] [(.int (2147483647 : Int32)), (.int (Int32.ofNat (cap + max (kk - cap) (cap + 2))))])
  refine Go.st (fun tT kT => XS.icmpYes X5.here hx rfl (pc0 := 38) (pc' := 51) rfl (hb hby d26_38) rfl (feq (own_onmax (by omega) : ¬ ((Int32.ofNat (cap + max (kk - cap) (cap + 2))) = (2147483647 : Int32)))).2 (by decide) (by decide) kT) ?_
  show Go _ _ _ _ _ _ _  T5 (mkF m 51 #[.val (.ref a1), .val (.int (Int32.ofNat kk)), .val (.int (Int32.ofNat cap)), .val (.int (Int32.ofNat kk)), .val (.int (Int32.ofNat (kk - cap))), .val (.int (Int32.ofNat (cap + max (kk - cap) (cap + 2))))] [])
  refine Go.st (fun tT kT => XS.iload X5.here hx rfl (hb hby d26_51) rfl  kT) ?_
  show Go _ _ _ _ _ _ _  T5 (mkF m 53 #[.val (.ref a1), .val (.int (Int32.ofNat kk)), .val (.int (Int32.ofNat cap)), .val (.int (Int32.ofNat kk)), .val (.int (Int32.ofNat (kk - cap))), .val (.int (Int32.ofNat (cap + max (kk - cap) (cap + 2))))] [(.int (Int32.ofNat (cap + max (kk - cap) (cap + 2))))])
  refine Go.st (fun tT kT => XS.aloadN X5.here hx rfl (hb hby d26_53) rfl rfl  kT) ?_
  show Go _ _ _ _ _ _ _  T5 (mkF m 54 #[.val (.ref a1), .val (.int (Int32.ofNat kk)), .val (.int (Int32.ofNat cap)), .val (.int (Int32.ofNat kk)), .val (.int (Int32.ofNat (kk - cap))), .val (.int (Int32.ofNat (cap + max (kk - cap) (cap + 2))))] [(.ref a1), (.int (Int32.ofNat (cap + max (kk - cap) (cap + 2))))])
  obtain ⟨T6, X6, e6, st6⟩ := getF X5 hx hZ hown (host := "") (Or.inl (hw _ (List.mem_of_getElem? (i := 34) rfl))) Via.refl e5q C_a1 (g := (mkF m 54 #[.val (.ref a1), .val (.int (Int32.ofNat kk)), .val (.int (Int32.ofNat cap)), .val (.int (Int32.ofNat kk)), .val (.int (Int32.ofNat (kk - cap))), .val (.int (Int32.ofNat (cap + max (kk - cap) (cap + 2))))] [(.ref a1), (.int (Int32.ofNat (cap + max (kk - cap) (cap + 2))))])) rfl rfl (hb hby d26_54)
  refine Go.st st6 ?_
  show Go _ _ _ _ _ _ _  T6 (mkF m 57 #[.val (.ref a1), .val (.int (Int32.ofNat kk)), .val (.int (Int32.ofNat cap)), .val (.int (Int32.ofNat kk)), .val (.int (Int32.ofNat (kk - cap))), .val (.int (Int32.ofNat (cap + max (kk - cap) (cap + 2))))] [(.int (0 : Int32)), (.int (Int32.ofNat (cap + max (kk - cap) (cap + 2))))])
  refine Go.st (fun tT kT => XS.ishr X6.here hx rfl (hb hby d26_57) rfl kT) ?_
  show Go _ _ _ _ _ _ _  T6 (mkF m 58 #[.val (.ref a1), .val (.int (Int32.ofNat kk)), .val (.int (Int32.ofNat cap)), .val (.int (Int32.ofNat kk)), .val (.int (Int32.ofNat (kk - cap))), .val (.int (Int32.ofNat (cap + max (kk - cap) (cap + 2))))] [(.int ((Int32.ofNat (cap + max (kk - cap) (cap + 2))) >>> ((0 : Int32) &&& 31)))])
  rw [own_shr0]
  show Go _ _ _ _ _ _ _  T6 (mkF m 58 #[.val (.ref a1), .val (.int (Int32.ofNat kk)), .val (.int (Int32.ofNat cap)), .val (.int (Int32.ofNat kk)), .val (.int (Int32.ofNat (kk - cap))), .val (.int (Int32.ofNat (cap + max (kk - cap) (cap + 2))))] [(.int (Int32.ofNat (cap + max (kk - cap) (cap + 2))))])
  refine Go.retI X6 hlk hx Bd.returns (hb hby d26_58) (by decide) (by decide) ?_
  show Q_rmNC Z _ _ _ _ _ _ _ h0 n0 _ T6.heap _
  rw [e6]
  exact ⟨rfl, N5, rfl⟩
def Q_rmCO (Z : State) (a1 : Addr) (N : Nat) (kd : ClassId) (cap : Nat) (bs : List Value) (h0 : Heap) (n0 : Nat) (v : Option Value) (h : Heap) (L : List Loc) : Prop := ∃ (b : Addr) (kb : ClassId), v = some (.ref b) ∧ Fr n0 L ∧ Ext h0 h ∧ h0.size ≤ b ∧ Arv Z h b kb .byte (Int32.ofNat N) bs (.int 0)
set_option maxRecDepth 65536 in
set_option maxHeartbeats 40000000 in
theorem rmCO (l : Launch) (Z : State) (a0 : Array Value) (hw : ∀ d ∈ tables_1, d.before a0 Z = true) (ws : List Jvm.Cond) (a1 : Addr) (N : Nat) (kd : ClassId) (cap : Nat) (bs : List Value) (h0 : Heap) (n0 : Nat) (O : Old Z n0 h0) (A_a1 : Arv Z h0 a1 kd .byte (Int32.ofNat cap) bs (.int 0)) (hbs : bs.length ≤ cap) (hN1 : cap ≤ N) (hN2 : N ≠ cap) (hN3 : N ≤ 64) :
    MetFree l (⟨"java/util/Arrays", "copyOf", "([BI)[B"⟩ : MethodName) (head1 (Jvm.Cond.code (⟨"java/util/Arrays", "copyOf", "([BI)[B"⟩ : MethodName) jdk_65_method_121_code 3 (some (.array .byte)) :: ws) ({ frames := 1, cells := 1, slots := 64, locals := 18 } : Room)) (fun a U => a = #[(.ref a1), (.int (Int32.ofNat N))] ∧ Z.Warmed39 U.vm ∧ U.heap = h0) (fun _ _ _ _ _ => True) (fun _ U o U' => ∃ v L, o = .returned v ∧ Q_rmCO Z a1 N kd cap bs h0 n0 v U'.heap L ∧ FrameEnd U o U' L ({ frames := 1, cells := 1, slots := 64, locals := 18 } : Room).cells ({ frames := 1, cells := 1, slots := 64, locals := 18 } : Room).slots) := by
  refine MetFree.of_bodySF (plainFor_of_name pn_29) hisR ?_
  intro p e s m args below meth c s₁ Bd hml0 hP hK
  obtain ⟨rfl, hZ, hh⟩ := hP
  have hx := Bd.exec
  have hby := Bd.bytes
  have hml : c.maxLocals = 3 := hml0
  have hown : s.vm.findClass "java/util/Arrays" = some m.cls := findClass_of_methodNamed Bd.named
  have hnm := (name_of_methodNamed Bd.named Bd.method).1
  have hlk : meth.locks = false := BodyLoose.notSynchronized Bd
  have X0 : Stand p l e ({ frames := 1, cells := 1, slots := 64, locals := 18 } : Room) s m #[(.ref a1), (.int (Int32.ofNat N))] below meth c s₁ [] 0 0 := Stand.of_body Bd
  have e0 : s₁.heap = h0 := by rw [← hh, Bd.state]; rfl
  have N0 := Fr.nil n0
  have KK : Keep h0 h0 [] := Keep.refl h0 _
  show Go p e below s ({ frames := 1, cells := 1, slots := 64, locals := 18 } : Room).cells ({ frames := 1, cells := 1, slots := 64, locals := 18 } : Room).slots (Q_rmCO Z a1 N kd cap bs h0 n0) s₁ (entryFrame m #[(.ref a1), (.int (Int32.ofNat N))] 3)
  refine Go.eq (ef_rmCO m a1 (Int32.ofNat N)) ?_
  show Go _ _ _ _ _ _ _  s₁ (mkF m 0 #[.val (.ref a1), .val (.int (Int32.ofNat N)), .unset] [])
  refine Go.st (fun tT kT => XS.iloadN X0.here hx rfl (hb hby d29_0) rfl  kT) ?_
  show Go _ _ _ _ _ _ _  s₁ (mkF m 1 #[.val (.ref a1), .val (.int (Int32.ofNat N)), .unset] [(.int (Int32.ofNat N))])
  refine Go.st (fun tT kT => XS.aloadN X0.here hx rfl (hb hby d29_1) rfl rfl  kT) ?_
  show Go _ _ _ _ _ _ _  s₁ (mkF m 2 #[.val (.ref a1), .val (.int (Int32.ofNat N)), .unset] [(.ref a1), (.int (Int32.ofNat N))])
  obtain ⟨cl1, Ar1, q1, S1, M1, Hh1, G1⟩ := id A_a1
  refine Go.st (X0.arraylength hx (by rw [e0]; exact Ar1.1) (State.isArrayOf_alike hZ.alike Ar1.2.1) (g := (mkF m 2 #[.val (.ref a1), .val (.int (Int32.ofNat N)), .unset] [(.ref a1), (.int (Int32.ofNat N))])) rfl rfl (hb hby d29_2)) ?_
  rw [len_of S1 M1]
  show Go _ _ _ _ _ _ _  s₁ (mkF m 3 #[.val (.ref a1), .val (.int (Int32.ofNat N)), .unset] [(.int (Int32.ofNat cap)), (.int (Int32.ofNat N))])
  refine Go.st (fun tT kT => XS.icmpYes X0.here hx rfl (pc0 := 3) (pc' := 14) rfl (hb hby d29_3) rfl (feq (fun q => hN2 ((own_oeq (by omega) (by omega)).mp q) : ¬ ((Int32.ofNat N) = (Int32.ofNat cap)))).2 (by decide) (by decide) kT) ?_
  show Go _ _ _ _ _ _ _  s₁ (mkF m 14 #[.val (.ref a1), .val (.int (Int32.ofNat N)), .unset] [])
  refine Go.st (fun tT kT => XS.iloadN X0.here hx rfl (hb hby d29_14) rfl  kT) ?_
  show Go _ _ _ _ _ _ _  s₁ (mkF m 15 #[.val (.ref a1), .val (.int (Int32.ofNat N)), .unset] [(.int (Int32.ofNat N))])
  obtain ⟨T2, h2, k2, X2, e2, E2, A2, st2⟩ := newP X0 hx hZ (hw _ (List.mem_of_getElem? (i := 7) rfl)) e0 (g := (mkF m 15 #[.val (.ref a1), .val (.int (Int32.ofNat N)), .unset] [(.int (Int32.ofNat N))])) rfl (hb hby d29_15) rfl (own_onn (by omega)) (cap := 64) (by rw [own_ocl (by omega)]; omega) (by decide) (by decide) (by decide)
  obtain ⟨b2, g2⟩ : ∃ z, z = h0.size := ⟨_, rfl⟩
  rw [← g2] at A2 st2
  refine Go.st st2 ?_
  have g_b2 : n0 ≤ b2 := by rw [g2]; exact own_le O
  have sz_b2 : h0.size ≤ b2 := by rw [g2]; exact KK.1
  have ne_a1_b2 : a1 ≠ b2 := Nat.ne_of_lt (by rw [g2]; exact A_a1.lt)
  have A_a1 := A_a1.ext E2
  have O := O.ext E2
  have KK := KK.ext E2
  have V_b2 := Arv.new A2 (own_onn (by omega))
  show Go _ _ _ _ _ _ _  T2 (mkF m 17 #[.val (.ref a1), .val (.int (Int32.ofNat N)), .unset] [(.ref b2)])
  refine Go.st (fun tT kT => XS.astoreN X2.here hx rfl (hb hby d29_17) rfl rfl (l' := #[.val (.ref a1), .val (.int (Int32.ofNat N)), .val (.ref b2)]) rfl kT) ?_
  show Go _ _ _ _ _ _ _  T2 (mkF m 18 #[.val (.ref a1), .val (.int (Int32.ofNat N)), .val (.ref b2)] [])
  refine Go.st (fun tT kT => XS.aloadN X2.here hx rfl (hb hby d29_18) rfl rfl  kT) ?_
  show Go _ _ _ _ _ _ _  T2 (mkF m 19 #[.val (.ref a1), .val (.int (Int32.ofNat N)), .val (.ref b2)] [(.ref a1)])
  refine Go.st (fun tT kT => XS.iconst X2.here hx rfl (hb hby d29_19) kT) ?_
  show Go _ _ _ _ _ _ _  T2 (mkF m 20 #[.val (.ref a1), .val (.int (Int32.ofNat N)), .val (.ref b2)] [(.int (0 : Int32)), (.ref a1)])
  refine Go.st (fun tT kT => XS.aloadN X2.here hx rfl (hb hby d29_20) rfl rfl  kT) ?_
  show Go _ _ _ _ _ _ _  T2 (mkF m 21 #[.val (.ref a1), .val (.int (Int32.ofNat N)), .val (.ref b2)] [(.ref b2), (.int (0 : Int32)), (.ref a1)])
  refine Go.st (fun tT kT => XS.iconst X2.here hx rfl (hb hby d29_21) kT) ?_
  show Go _ _ _ _ _ _ _  T2 (mkF m 22 #[.val (.ref a1), .val (.int (Int32.ofNat N)), .val (.ref b2)] [(.int (0 : Int32)), (.ref b2), (.int (0 : Int32)), (.ref a1)])
  refine Go.st (fun tT kT => XS.aloadN X2.here hx rfl (hb hby d29_22) rfl rfl  kT) ?_
  show Go _ _ _ _ _ _ _  T2 (mkF m 23 #[.val (.ref a1), .val (.int (Int32.ofNat N)), .val (.ref b2)] [(.ref a1), (.int (0 : Int32)), (.ref b2), (.int (0 : Int32)), (.ref a1)])
  obtain ⟨cl3, Ar3, q3, S3, M3, Hh3, G3⟩ := id A_a1
  refine Go.st (X2.arraylength hx (by rw [e2]; exact Ar3.1) (State.isArrayOf_alike hZ.alike Ar3.2.1) (g := (mkF m 23 #[.val (.ref a1), .val (.int (Int32.ofNat N)), .val (.ref b2)] [(.ref a1), (.int (0 : Int32)), (.ref b2), (.int (0 : Int32)), (.ref a1)])) rfl rfl (hb hby d29_23)) ?_
  rw [len_of S3 M3]
  show Go _ _ _ _ _ _ _  T2 (mkF m 24 #[.val (.ref a1), .val (.int (Int32.ofNat N)), .val (.ref b2)] [(.int (Int32.ofNat cap)), (.int (0 : Int32)), (.ref b2), (.int (0 : Int32)), (.ref a1)])
  refine Go.st (fun tT kT => XS.iloadN X2.here hx rfl (hb hby d29_24) rfl  kT) ?_
  show Go _ _ _ _ _ _ _  T2 (mkF m 25 #[.val (.ref a1), .val (.int (Int32.ofNat N)), .val (.ref b2)] [(.int (Int32.ofNat N)), (.int (Int32.ofNat cap)), (.int (0 : Int32)), (.ref b2), (.int (0 : Int32)), (.ref a1)])
  refine Go.pureS (w := (some (.int (Int32.ofNat (min cap N))))) (rest := [(.int (0 : Int32)), (.ref b2), (.int (0 : Int32)), (.ref a1)]) (pc' := 28) (Jvm.LawKit.callS X2 hx (y := (⟨"java/lang/Math", "min", "(II)I"⟩ : MethodName)) hown (mvT hZ (hw _ (List.mem_of_getElem? (i := 130) rfl))) (mvT hZ (hw _ (List.mem_of_getElem? (i := 131) rfl))) (mvT hZ (hw _ (List.mem_of_getElem? (i := 132) rfl))) (mvT hZ (hw _ (List.mem_of_getElem? (i := 133) rfl))) (by decide) (backOf (W := 4) (rmMin l Z a0 hw [] cap N h2 n0 O (by omega) (by omega)) hZ (hw _ (List.mem_of_getElem? (i := 133) rfl)) (hw _ (List.mem_of_getElem? (i := 132) rfl)) (by decide) (by decide)) (g := (mkF m 25 #[.val (.ref a1), .val (.int (Int32.ofNat N)), .val (.ref b2)] [(.int (Int32.ofNat N)), (.int (Int32.ofNat cap)), (.int (0 : Int32)), (.ref b2), (.int (0 : Int32)), (.ref a1)])) rfl (by rw [hml]; rfl) (argsL := [(.int (Int32.ofNat cap)), (.int (Int32.ofNat N))]) (rest := [(.int (0 : Int32)), (.ref b2), (.int (0 : Int32)), (.ref a1)]) (lenOf pd__II_I rfl) rfl (by show 2 * 0 + _ ≤ _; exact Nat.le_of_eq rfl) (hb hby d29_25) (fun _ _ => ⟨rfl, e2, (by decide : 1 + 0 ≤ _), (by decide : 64 + 0 ≤ _)⟩)) (fun _ _ _ q => q) N0 (fun T4 L4 X4 e4q N4 => ?_)
  rw [Nat.min_eq_left hN1]
  show Go _ _ _ _ _ _ _  T4 (mkF m 28 #[.val (.ref a1), .val (.int (Int32.ofNat N)), .val (.ref b2)] [(.int (Int32.ofNat cap)), (.int (0 : Int32)), (.ref b2), (.int (0 : Int32)), (.ref a1)])
  obtain ⟨T5, h5, L5, X5, e5, N5, K5, V5, st5⟩ := cpA X4 hx hZ hown (hw _ (List.mem_of_getElem? (i := 134) rfl)) (hw _ (List.mem_of_getElem? (i := 86) rfl)) (hw _ (List.mem_of_getElem? (i := 84) rfl)) (hw _ (List.mem_of_getElem? (i := 85) rfl)) e4q A_a1 (V_b2.pad (pad_rep [] (.int 0) cap)) (Or.inl ⟨rfl, rfl⟩) (by decide) (by decide) (own_onn (by omega)) (by rw [own_ocl (by omega)]; exact Nat.le_of_eq (Nat.zero_add _)) (by rw [own_ocl (by omega), own_ocl (by omega)]; exact Nat.le_trans (Nat.le_of_eq (Nat.zero_add _)) hN1) (us := (List.range cap).map fun i => bs.getD (0 + i) (.int 0)) (by rw [own_ocl (by omega)]; rfl) (by rw [own_ocl (by omega)]; simp) N4 g_b2 (g := (mkF m 28 #[.val (.ref a1), .val (.int (Int32.ofNat N)), .val (.ref b2)] [(.int (Int32.ofNat cap)), (.int (0 : Int32)), (.ref b2), (.int (0 : Int32)), (.ref a1)])) rfl (by rw [hml]; rfl) rfl (hb hby d29_28) (by decide) (W := 0) (by show 2 * 0 + _ ≤ _; exact Nat.le_of_eq rfl) (by decide)
  refine Go.st st5 ?_
  have V5 := V5.pad (by rw [own_ocl (by omega)]; exact own_cp (bs := []) (d := 0) rfl hbs)
  have A_a1 := A_a1.keep K5 (ninS ne_a1_b2 nin0)
  have O := O.keep K5 (allS g_b2 all0)
  have KK := KK.trans K5 (allS (Or.inr sz_b2) all0)
  have V_b2 := V5
  show Go _ _ _ _ _ _ _  T5 (mkF m 31 #[.val (.ref a1), .val (.int (Int32.ofNat N)), .val (.ref b2)] [])
  refine Go.st (fun tT kT => XS.aloadN X5.here hx rfl (hb hby d29_31) rfl rfl  kT) ?_
  show Go _ _ _ _ _ _ _  T5 (mkF m 32 #[.val (.ref a1), .val (.int (Int32.ofNat N)), .val (.ref b2)] [(.ref b2)])
  refine Go.retR X5 hlk hx Bd.returns rfl rfl rfl (hb hby d29_32) (by decide) (by decide) ?_
  show Q_rmCO Z _ _ _ _ _ h0 n0 _ T5.heap _
  rw [e5]
  exact ⟨_, _, rfl, N5, own_ext0 KK, sz_b2, V_b2⟩
def Q_rmE0 (Z : State) (a1 : Addr) (kk : Nat) (t : Addr) (kd : ClassId) (n : Nat) (cap : Nat) (bs : List Value) (h0 : Heap) (n0 : Nat) (v : Option Value) (h : Heap) (L : List Loc) : Prop := v = none ∧ Fr n0 L ∧ h = h0
set_option maxRecDepth 65536 in
set_option maxHeartbeats 40000000 in
theorem rmE0 (l : Launch) (Z : State) (a0 : Array Value) (hw : ∀ d ∈ tables_1, d.before a0 Z = true) (ws : List Jvm.Cond) (a1 : Addr) (kk : Nat) (t : Addr) (kd : ClassId) (n : Nat) (cap : Nat) (bs : List Value) (h0 : Heap) (n0 : Nat) (O : Old Z n0 h0) (E_a1 : Exa Z h0 a1 "java/lang/StringBuilder") (C_a1 : Fld Z h0 a1 "java/lang/AbstractStringBuilder" "coder" "B" (.int 0)) (V_a1 : Fld Z h0 a1 "java/lang/AbstractStringBuilder" "value" "[B" (.ref t)) (N_a1 : Fld Z h0 a1 "java/lang/AbstractStringBuilder" "count" "I" (.int (Int32.ofNat n))) (A_t : Arv Z h0 t kd .byte (Int32.ofNat cap) bs (.int 0)) (L_a1 : bs.length = n) (K_a1 : n ≤ cap) (B_a1 : cap < 100000) (g_a1 : n0 ≤ a1) (g_t : n0 ≤ t) (hk1 : kk ≤ cap) :
    MetFree l (⟨"java/lang/AbstractStringBuilder", "ensureCapacityInternal", "(I)V"⟩ : MethodName) (head1 (Jvm.Cond.code (⟨"java/lang/AbstractStringBuilder", "ensureCapacityInternal", "(I)V"⟩ : MethodName) jdk_68_method_9_code 3 none :: ws) ({ frames := 0, cells := 0, slots := 0, locals := 0 } : Room)) (fun a U => a = #[(.ref a1), (.int (Int32.ofNat kk))] ∧ Z.Warmed39 U.vm ∧ U.heap = h0) (fun _ _ _ _ _ => True) (fun _ U o U' => ∃ v L, o = .returned v ∧ Q_rmE0 Z a1 kk t kd n cap bs h0 n0 v U'.heap L ∧ FrameEnd U o U' L ({ frames := 0, cells := 0, slots := 0, locals := 0 } : Room).cells ({ frames := 0, cells := 0, slots := 0, locals := 0 } : Room).slots) := by
  refine MetFree.of_bodySF (plainFor_of_name pn_10) hisR ?_
  intro p e s m args below meth c s₁ Bd hml0 hP hK
  obtain ⟨rfl, hZ, hh⟩ := hP
  have hx := Bd.exec
  have hby := Bd.bytes
  have hml : c.maxLocals = 3 := hml0
  have hown : s.vm.findClass "java/lang/AbstractStringBuilder" = some m.cls := findClass_of_methodNamed Bd.named
  have hnm := (name_of_methodNamed Bd.named Bd.method).1
  have hlk : meth.locks = false := BodyLoose.notSynchronized Bd
  have X0 : Stand p l e ({ frames := 0, cells := 0, slots := 0, locals := 0 } : Room) s m #[(.ref a1), (.int (Int32.ofNat kk))] below meth c s₁ [] 0 0 := Stand.of_body Bd
  have e0 : s₁.heap = h0 := by rw [← hh, Bd.state]; rfl
  have N0 := Fr.nil n0
  show Go p e below s ({ frames := 0, cells := 0, slots := 0, locals := 0 } : Room).cells ({ frames := 0, cells := 0, slots := 0, locals := 0 } : Room).slots (Q_rmE0 Z a1 kk t kd n cap bs h0 n0) s₁ (entryFrame m #[(.ref a1), (.int (Int32.ofNat kk))] 3)
  refine Go.eq (ef_rmE0 m a1 (Int32.ofNat kk)) ?_
  show Go _ _ _ _ _ _ _  s₁ (mkF m 0 #[.val (.ref a1), .val (.int (Int32.ofNat kk)), .unset] [])
  refine Go.st (fun tT kT => XS.aloadN X0.here hx rfl (hb hby d10_0) rfl rfl  kT) ?_
  show Go _ _ _ _ _ _ _  s₁ (mkF m 1 #[.val (.ref a1), .val (.int (Int32.ofNat kk)), .unset] [(.ref a1)])
  obtain ⟨T1, X1, e1, st1⟩ := getF X0 hx hZ hown (host := "") (Or.inl (hw _ (List.mem_of_getElem? (i := 32) rfl))) Via.refl e0 V_a1 (g := (mkF m 1 #[.val (.ref a1), .val (.int (Int32.ofNat kk)), .unset] [(.ref a1)])) rfl rfl (hb hby d10_1)
  refine Go.st st1 ?_
  show Go _ _ _ _ _ _ _  T1 (mkF m 4 #[.val (.ref a1), .val (.int (Int32.ofNat kk)), .unset] [(.ref t)])
  obtain ⟨cl2, Ar2, q2, S2, M2, Hh2, G2⟩ := id A_t
  refine Go.st (X1.arraylength hx (by rw [e1]; exact Ar2.1) (State.isArrayOf_alike hZ.alike Ar2.2.1) (g := (mkF m 4 #[.val (.ref a1), .val (.int (Int32.ofNat kk)), .unset] [(.ref t)])) rfl rfl (hb hby d10_4)) ?_
  rw [len_of S2 M2]
  show Go _ _ _ _ _ _ _  T1 (mkF m 5 #[.val (.ref a1), .val (.int (Int32.ofNat kk)), .unset] [(.int (Int32.ofNat cap))])
  refine Go.st (fun tT kT => XS.aloadN X1.here hx rfl (hb hby d10_5) rfl rfl  kT) ?_
  show Go _ _ _ _ _ _ _  T1 (mkF m 6 #[.val (.ref a1), .val (.int (Int32.ofNat kk)), .unset] [(.ref a1), (.int (Int32.ofNat cap))])
  obtain ⟨T3, X3, e3, st3⟩ := getF X1 hx hZ hown (host := "") (Or.inl (hw _ (List.mem_of_getElem? (i := 34) rfl))) Via.refl e1 C_a1 (g := (mkF m 6 #[.val (.ref a1), .val (.int (Int32.ofNat kk)), .unset] [(.ref a1), (.int (Int32.ofNat cap))])) rfl rfl (hb hby d10_6)
  refine Go.st st3 ?_
  show Go _ _ _ _ _ _ _  T3 (mkF m 9 #[.val (.ref a1), .val (.int (Int32.ofNat kk)), .unset] [(.int (0 : Int32)), (.int (Int32.ofNat cap))])
  refine Go.st (fun tT kT => XS.ishr X3.here hx rfl (hb hby d10_9) rfl kT) ?_
  show Go _ _ _ _ _ _ _  T3 (mkF m 10 #[.val (.ref a1), .val (.int (Int32.ofNat kk)), .unset] [(.int ((Int32.ofNat cap) >>> ((0 : Int32) &&& 31)))])
  rw [own_shr0]
  show Go _ _ _ _ _ _ _  T3 (mkF m 10 #[.val (.ref a1), .val (.int (Int32.ofNat kk)), .unset] [(.int (Int32.ofNat cap))])
  refine Go.st (fun tT kT => XS.istoreN X3.here hx rfl (hb hby d10_10) rfl (l' := #[.val (.ref a1), .val (.int (Int32.ofNat kk)), .val (.int (Int32.ofNat cap))]) rfl kT) ?_
  show Go _ _ _ _ _ _ _  T3 (mkF m 11 #[.val (.ref a1), .val (.int (Int32.ofNat kk)), .val (.int (Int32.ofNat cap))] [])
  refine Go.st (fun tT kT => XS.iloadN X3.here hx rfl (hb hby d10_11) rfl  kT) ?_
  show Go _ _ _ _ _ _ _  T3 (mkF m 12 #[.val (.ref a1), .val (.int (Int32.ofNat kk)), .val (.int (Int32.ofNat cap))] [(.int (Int32.ofNat kk))])
  refine Go.st (fun tT kT => XS.iloadN X3.here hx rfl (hb hby d10_12) rfl  kT) ?_
  show Go _ _ _ _ _ _ _  T3 (mkF m 13 #[.val (.ref a1), .val (.int (Int32.ofNat kk)), .val (.int (Int32.ofNat cap))] [(.int (Int32.ofNat cap)), (.int (Int32.ofNat kk))])
  refine Go.st (fun tT kT => XS.isub X3.here hx rfl (hb hby d10_13) rfl kT) ?_
  show Go _ _ _ _ _ _ _  T3 (mkF m 14 #[.val (.ref a1), .val (.int (Int32.ofNat kk)), .val (.int (Int32.ofNat cap))] [(.int ((Int32.ofNat kk) - (Int32.ofNat cap)))])
  refine Go.st (fun tT kT => XS.ifYes X3.here hx rfl (pc0 := 14) (pc' := 38) rfl (hb hby d10_14) rfl ((if0 _ _).trans (flt (own_le0 hk1 (by omega) : ¬ ((0 : Int32) < ((Int32.ofNat kk) - (Int32.ofNat cap))))).2.2.2) (by decide) (by decide) kT) ?_
  show Go _ _ _ _ _ _ _  T3 (mkF m 38 #[.val (.ref a1), .val (.int (Int32.ofNat kk)), .val (.int (Int32.ofNat cap))] [])
  refine Go.ret0 X3 hlk hx Bd.returns (hb hby d10_38) (by decide) (by decide) ?_
  show Q_rmE0 Z _ _ _ _ _ _ _ h0 n0 _ T3.heap _
  rw [e3]
  exact ⟨rfl, N0, rfl⟩
def Q_rmE1 (Z : State) (a1 : Addr) (kk : Nat) (t : Addr) (kd : ClassId) (n : Nat) (cap : Nat) (bs : List Value) (h0 : Heap) (n0 : Nat) (v : Option Value) (h : Heap) (L : List Loc) : Prop := v = none ∧ Fr n0 L ∧ Keep h0 h [a1] ∧ Exa Z h a1 "java/lang/StringBuilder" ∧ Fld Z h a1 "java/lang/AbstractStringBuilder" "coder" "B" (.int 0) ∧ Fld Z h a1 "java/lang/AbstractStringBuilder" "count" "I" (.int (Int32.ofNat n)) ∧ ∃ (b : Addr) (kb : ClassId), h0.size ≤ b ∧ Fld Z h a1 "java/lang/AbstractStringBuilder" "value" "[B" (.ref b) ∧ Arv Z h b kb .byte (Int32.ofNat (cap + max (kk - cap) (cap + 2))) bs (.int 0)
set_option maxRecDepth 65536 in
set_option maxHeartbeats 40000000 in
theorem rmE1 (l : Launch) (Z : State) (a0 : Array Value) (hw : ∀ d ∈ tables_1, d.before a0 Z = true) (ws : List Jvm.Cond) (a1 : Addr) (kk : Nat) (t : Addr) (kd : ClassId) (n : Nat) (cap : Nat) (bs : List Value) (h0 : Heap) (n0 : Nat) (O : Old Z n0 h0) (E_a1 : Exa Z h0 a1 "java/lang/StringBuilder") (C_a1 : Fld Z h0 a1 "java/lang/AbstractStringBuilder" "coder" "B" (.int 0)) (V_a1 : Fld Z h0 a1 "java/lang/AbstractStringBuilder" "value" "[B" (.ref t)) (N_a1 : Fld Z h0 a1 "java/lang/AbstractStringBuilder" "count" "I" (.int (Int32.ofNat n))) (A_t : Arv Z h0 t kd .byte (Int32.ofNat cap) bs (.int 0)) (L_a1 : bs.length = n) (K_a1 : n ≤ cap) (B_a1 : cap < 100000) (g_a1 : n0 ≤ a1) (g_t : n0 ≤ t) (hk1 : cap < kk) (hk2 : kk < 200000) (hk3 : (cap + max (kk - cap) (cap + 2)) ≤ 64) :
    MetFree l (⟨"java/lang/AbstractStringBuilder", "ensureCapacityInternal", "(I)V"⟩ : MethodName) (head1 (Jvm.Cond.code (⟨"java/lang/AbstractStringBuilder", "ensureCapacityInternal", "(I)V"⟩ : MethodName) jdk_68_method_9_code 3 none :: ws) ({ frames := 3, cells := 1, slots := 64, locals := 48 } : Room)) (fun a U => a = #[(.ref a1), (.int (Int32.ofNat kk))] ∧ Z.Warmed39 U.vm ∧ U.heap = h0) (fun _ _ _ _ _ => True) (fun _ U o U' => ∃ v L, o = .returned v ∧ Q_rmE1 Z a1 kk t kd n cap bs h0 n0 v U'.heap L ∧ FrameEnd U o U' L ({ frames := 3, cells := 1, slots := 64, locals := 48 } : Room).cells ({ frames := 3, cells := 1, slots := 64, locals := 48 } : Room).slots) := by
  refine MetFree.of_bodySF (plainFor_of_name pn_10) hisR ?_
  intro p e s m args below meth c s₁ Bd hml0 hP hK
  obtain ⟨rfl, hZ, hh⟩ := hP
  have hx := Bd.exec
  have hby := Bd.bytes
  have hml : c.maxLocals = 3 := hml0
  have hown : s.vm.findClass "java/lang/AbstractStringBuilder" = some m.cls := findClass_of_methodNamed Bd.named
  have hnm := (name_of_methodNamed Bd.named Bd.method).1
  have hlk : meth.locks = false := BodyLoose.notSynchronized Bd
  have X0 : Stand p l e ({ frames := 3, cells := 1, slots := 64, locals := 48 } : Room) s m #[(.ref a1), (.int (Int32.ofNat kk))] below meth c s₁ [] 0 0 := Stand.of_body Bd
  have e0 : s₁.heap = h0 := by rw [← hh, Bd.state]; rfl
  have N0 := Fr.nil n0
  have KK : Keep h0 h0 [a1] := Keep.refl h0 _
  show Go p e below s ({ frames := 3, cells := 1, slots := 64, locals := 48 } : Room).cells ({ frames := 3, cells := 1, slots := 64, locals := 48 } : Room).slots (Q_rmE1 Z a1 kk t kd n cap bs h0 n0) s₁ (entryFrame m #[(.ref a1), (.int (Int32.ofNat kk))] 3)
  refine Go.eq (ef_rmE1 m a1 (Int32.ofNat kk)) ?_
  show Go _ _ _ _ _ _ _  s₁ (mkF m 0 #[.val (.ref a1), .val (.int (Int32.ofNat kk)), .unset] [])
  refine Go.st (fun tT kT => XS.aloadN X0.here hx rfl (hb hby d10_0) rfl rfl  kT) ?_
  show Go _ _ _ _ _ _ _  s₁ (mkF m 1 #[.val (.ref a1), .val (.int (Int32.ofNat kk)), .unset] [(.ref a1)])
  obtain ⟨T1, X1, e1, st1⟩ := getF X0 hx hZ hown (host := "") (Or.inl (hw _ (List.mem_of_getElem? (i := 32) rfl))) Via.refl e0 V_a1 (g := (mkF m 1 #[.val (.ref a1), .val (.int (Int32.ofNat kk)), .unset] [(.ref a1)])) rfl rfl (hb hby d10_1)
  refine Go.st st1 ?_
  show Go _ _ _ _ _ _ _  T1 (mkF m 4 #[.val (.ref a1), .val (.int (Int32.ofNat kk)), .unset] [(.ref t)])
  obtain ⟨cl2, Ar2, q2, S2, M2, Hh2, G2⟩ := id A_t
  refine Go.st (X1.arraylength hx (by rw [e1]; exact Ar2.1) (State.isArrayOf_alike hZ.alike Ar2.2.1) (g := (mkF m 4 #[.val (.ref a1), .val (.int (Int32.ofNat kk)), .unset] [(.ref t)])) rfl rfl (hb hby d10_4)) ?_
  rw [len_of S2 M2]
  show Go _ _ _ _ _ _ _  T1 (mkF m 5 #[.val (.ref a1), .val (.int (Int32.ofNat kk)), .unset] [(.int (Int32.ofNat cap))])
  refine Go.st (fun tT kT => XS.aloadN X1.here hx rfl (hb hby d10_5) rfl rfl  kT) ?_
  show Go _ _ _ _ _ _ _  T1 (mkF m 6 #[.val (.ref a1), .val (.int (Int32.ofNat kk)), .unset] [(.ref a1), (.int (Int32.ofNat cap))])
  obtain ⟨T3, X3, e3, st3⟩ := getF X1 hx hZ hown (host := "") (Or.inl (hw _ (List.mem_of_getElem? (i := 34) rfl))) Via.refl e1 C_a1 (g := (mkF m 6 #[.val (.ref a1), .val (.int (Int32.ofNat kk)), .unset] [(.ref a1), (.int (Int32.ofNat cap))])) rfl rfl (hb hby d10_6)
  refine Go.st st3 ?_
  show Go _ _ _ _ _ _ _  T3 (mkF m 9 #[.val (.ref a1), .val (.int (Int32.ofNat kk)), .unset] [(.int (0 : Int32)), (.int (Int32.ofNat cap))])
  refine Go.st (fun tT kT => XS.ishr X3.here hx rfl (hb hby d10_9) rfl kT) ?_
  show Go _ _ _ _ _ _ _  T3 (mkF m 10 #[.val (.ref a1), .val (.int (Int32.ofNat kk)), .unset] [(.int ((Int32.ofNat cap) >>> ((0 : Int32) &&& 31)))])
  rw [own_shr0]
  show Go _ _ _ _ _ _ _  T3 (mkF m 10 #[.val (.ref a1), .val (.int (Int32.ofNat kk)), .unset] [(.int (Int32.ofNat cap))])
  refine Go.st (fun tT kT => XS.istoreN X3.here hx rfl (hb hby d10_10) rfl (l' := #[.val (.ref a1), .val (.int (Int32.ofNat kk)), .val (.int (Int32.ofNat cap))]) rfl kT) ?_
  show Go _ _ _ _ _ _ _  T3 (mkF m 11 #[.val (.ref a1), .val (.int (Int32.ofNat kk)), .val (.int (Int32.ofNat cap))] [])
  refine Go.st (fun tT kT => XS.iloadN X3.here hx rfl (hb hby d10_11) rfl  kT) ?_
  show Go _ _ _ _ _ _ _  T3 (mkF m 12 #[.val (.ref a1), .val (.int (Int32.ofNat kk)), .val (.int (Int32.ofNat cap))] [(.int (Int32.ofNat kk))])
  refine Go.st (fun tT kT => XS.iloadN X3.here hx rfl (hb hby d10_12) rfl  kT) ?_
  show Go _ _ _ _ _ _ _  T3 (mkF m 13 #[.val (.ref a1), .val (.int (Int32.ofNat kk)), .val (.int (Int32.ofNat cap))] [(.int (Int32.ofNat cap)), (.int (Int32.ofNat kk))])
  refine Go.st (fun tT kT => XS.isub X3.here hx rfl (hb hby d10_13) rfl kT) ?_
  show Go _ _ _ _ _ _ _  T3 (mkF m 14 #[.val (.ref a1), .val (.int (Int32.ofNat kk)), .val (.int (Int32.ofNat cap))] [(.int ((Int32.ofNat kk) - (Int32.ofNat cap)))])
  refine Go.st (fun tT kT => XS.ifNo X3.here hx rfl (hb hby d10_14) rfl ((if0 _ _).trans (tlt (own_gt0 hk1 (by omega) : (0 : Int32) < ((Int32.ofNat kk) - (Int32.ofNat cap)))).2.2.2) kT) ?_
  show Go _ _ _ _ _ _ _  T3 (mkF m 17 #[.val (.ref a1), .val (.int (Int32.ofNat kk)), .val (.int (Int32.ofNat cap))] [])
  refine Go.st (fun tT kT => XS.aloadN X3.here hx rfl (hb hby d10_17) rfl rfl  kT) ?_
  show Go _ _ _ _ _ _ _  T3 (mkF m 18 #[.val (.ref a1), .val (.int (Int32.ofNat kk)), .val (.int (Int32.ofNat cap))] [(.ref a1)])
  refine Go.st (fun tT kT => XS.aloadN X3.here hx rfl (hb hby d10_18) rfl rfl  kT) ?_
  show Go _ _ _ _ _ _ _  T3 (mkF m 19 #[.val (.ref a1), .val (.int (Int32.ofNat kk)), .val (.int (Int32.ofNat cap))] [(.ref a1), (.ref a1)])
  obtain ⟨T4, X4, e4, st4⟩ := getF X3 hx hZ hown (host := "") (Or.inl (hw _ (List.mem_of_getElem? (i := 32) rfl))) Via.refl e3 V_a1 (g := (mkF m 19 #[.val (.ref a1), .val (.int (Int32.ofNat kk)), .val (.int (Int32.ofNat cap))] [(.ref a1), (.ref a1)])) rfl rfl (hb hby d10_19)
  refine Go.st st4 ?_
  show Go _ _ _ _ _ _ _  T4 (mkF m 22 #[.val (.ref a1), .val (.int (Int32.ofNat kk)), .val (.int (Int32.ofNat cap))] [(.ref t), (.ref a1)])
  refine Go.st (fun tT kT => XS.aloadN X4.here hx rfl (hb hby d10_22) rfl rfl  kT) ?_
  show Go _ _ _ _ _ _ _  T4 (mkF m 23 #[.val (.ref a1), .val (.int (Int32.ofNat kk)), .val (.int (Int32.ofNat cap))] [(.ref a1), (.ref t), (.ref a1)])
  refine Go.st (fun tT kT => XS.iloadN X4.here hx rfl (hb hby d10_23) rfl  kT) ?_
  show Go _ _ _ _ _ _ _  T4 (mkF m 24 #[.val (.ref a1), .val (.int (Int32.ofNat kk)), .val (.int (Int32.ofNat cap))] [(.int (Int32.ofNat kk)), (.ref a1), (.ref t), (.ref a1)])
  obtain ⟨cq5, q5, q5'⟩ := Exa.cell E_a1
  refine Go.pure (w := (some (.int (Int32.ofNat (cap + max (kk - cap) (cap + 2)))))) (rest := [(.ref t), (.ref a1)]) (pc' := 27) (X4.privateBack hx (y := (⟨"java/lang/AbstractStringBuilder", "newCapacity", "(I)I"⟩ : MethodName)) hown (mvT hZ (hw _ (List.mem_of_getElem? (i := 141) rfl))) (mvT hZ (hw _ (List.mem_of_getElem? (i := 142) rfl))) (own_selfsel2 (mvT hZ (hw _ (List.mem_of_getElem? (i := 144) rfl))) (mvP hZ (hw _ (List.mem_of_getElem? (i := 143) rfl))) (mvT hZ (hw _ (List.mem_of_getElem? (i := 142) rfl))) (by decide)) (Cond.privateMethod_at (mvP hZ (hw _ (List.mem_of_getElem? (i := 143) rfl)) (args := #[]))) (mvT hZ (hw _ (List.mem_of_getElem? (i := 145) rfl))) (by decide) (backOf (W := 2) (rmNC l Z a0 hw [] a1 kk t kd n cap bs h0 n0 O E_a1 C_a1 V_a1 N_a1 A_t L_a1 K_a1 B_a1 g_a1 g_t hk1 hk2) hZ (hw _ (List.mem_of_getElem? (i := 145) rfl)) (hw _ (List.mem_of_getElem? (i := 26) rfl)) (by decide) (by decide)) (g := (mkF m 24 #[.val (.ref a1), .val (.int (Int32.ofNat kk)), .val (.int (Int32.ofNat cap))] [(.int (Int32.ofNat kk)), (.ref a1), (.ref t), (.ref a1)])) rfl (by rw [hml]; rfl) (Steps.refl _) (a := a1) (by rw [e4]; exact q5) q5' (argsL := [(.int (Int32.ofNat kk))]) (rest := [(.ref t), (.ref a1)]) (lenOf pd__I_I rfl) rfl (by show 2 * 0 + _ ≤ _; exact Nat.le_of_eq rfl) (hb hby d10_24) (fun _ _ => ⟨rfl, e4, (by decide : 0 + 0 ≤ _), (by decide : 0 + 0 ≤ _)⟩)) (fun _ _ _ q => q) N0 (fun T5 L5 X5 e5q N5 => ?_)
  show Go _ _ _ _ _ _ _  T5 (mkF m 27 #[.val (.ref a1), .val (.int (Int32.ofNat kk)), .val (.int (Int32.ofNat cap))] [(.int (Int32.ofNat (cap + max (kk - cap) (cap + 2)))), (.ref t), (.ref a1)])
  refine Go.st (fun tT kT => XS.aloadN X5.here hx rfl (hb hby d10_27) rfl rfl  kT) ?_
  show Go _ _ _ _ _ _ _  T5 (mkF m 28 #[.val (.ref a1), .val (.int (Int32.ofNat kk)), .val (.int (Int32.ofNat cap))] [(.ref a1), (.int (Int32.ofNat (cap + max (kk - cap) (cap + 2)))), (.ref t), (.ref a1)])
  obtain ⟨T6, X6, e6, st6⟩ := getF X5 hx hZ hown (host := "") (Or.inl (hw _ (List.mem_of_getElem? (i := 34) rfl))) Via.refl e5q C_a1 (g := (mkF m 28 #[.val (.ref a1), .val (.int (Int32.ofNat kk)), .val (.int (Int32.ofNat cap))] [(.ref a1), (.int (Int32.ofNat (cap + max (kk - cap) (cap + 2)))), (.ref t), (.ref a1)])) rfl rfl (hb hby d10_28)
  refine Go.st st6 ?_
  show Go _ _ _ _ _ _ _  T6 (mkF m 31 #[.val (.ref a1), .val (.int (Int32.ofNat kk)), .val (.int (Int32.ofNat cap))] [(.int (0 : Int32)), (.int (Int32.ofNat (cap + max (kk - cap) (cap + 2)))), (.ref t), (.ref a1)])
  refine Go.st (fun tT kT => XS.ishl X6.here hx rfl (hb hby d10_31) rfl kT) ?_
  show Go _ _ _ _ _ _ _  T6 (mkF m 32 #[.val (.ref a1), .val (.int (Int32.ofNat kk)), .val (.int (Int32.ofNat cap))] [(.int ((Int32.ofNat (cap + max (kk - cap) (cap + 2))) <<< ((0 : Int32) &&& 31))), (.ref t), (.ref a1)])
  rw [own_shl0]
  show Go _ _ _ _ _ _ _  T6 (mkF m 32 #[.val (.ref a1), .val (.int (Int32.ofNat kk)), .val (.int (Int32.ofNat cap))] [(.int (Int32.ofNat (cap + max (kk - cap) (cap + 2)))), (.ref t), (.ref a1)])
  obtain ⟨_, _, ⟨T7, L7, k7, n7⟩, -, X7, ⟨Lc7, hQ7, l7, y7, z7⟩, st7⟩ := Jvm.LawKit.callS X6 hx (y := (⟨"java/util/Arrays", "copyOf", "([BI)[B"⟩ : MethodName)) hown (mvT hZ (hw _ (List.mem_of_getElem? (i := 155) rfl))) (mvT hZ (hw _ (List.mem_of_getElem? (i := 156) rfl))) (mvT hZ (hw _ (List.mem_of_getElem? (i := 122) rfl))) (mvT hZ (hw _ (List.mem_of_getElem? (i := 157) rfl))) (by decide) (backOf (W := 1) (rmCO l Z a0 hw [] t (cap + max (kk - cap) (cap + 2)) kd cap bs h0 n0 O A_t (by omega) (by omega) (by omega) hk3) hZ (hw _ (List.mem_of_getElem? (i := 157) rfl)) (hw _ (List.mem_of_getElem? (i := 122) rfl)) (by decide) (by decide)) (g := (mkF m 32 #[.val (.ref a1), .val (.int (Int32.ofNat kk)), .val (.int (Int32.ofNat cap))] [(.int (Int32.ofNat (cap + max (kk - cap) (cap + 2)))), (.ref t), (.ref a1)])) rfl (by rw [hml]; rfl) (argsL := [(.ref t), (.int (Int32.ofNat (cap + max (kk - cap) (cap + 2))))]) (rest := [(.ref a1)]) (lenOf pd___BI__B rfl) rfl (by show 2 * 0 + _ ≤ _; exact Nat.le_of_eq rfl) (hb hby d10_32) (fun _ _ => ⟨rfl, e6, (by decide : 0 + 1 ≤ _), (by decide : 0 + 64 ≤ _)⟩)
  dsimp only [Pt.U, Pt.locs, Pt.cells, Pt.slots] at X7 l7 y7 z7 st7 hQ7
  subst l7 y7 z7
  have X7 : Stand p l e _ _ m _ below meth c T7 _ 1 64 := X7
  obtain ⟨t7, kt7, rfl, N7q, E7q, lt7, Vq7⟩ := hQ7
  have N7 := Fr.app N5 N7q
  refine Go.st st7 ?_
  have g_t7 : n0 ≤ t7 := Nat.le_trans (own_le O) lt7
  have sz_t7 : h0.size ≤ t7 := Nat.le_trans KK.1 lt7
  have ne_a1_t7 : a1 ≠ t7 := Nat.ne_of_lt (Nat.lt_of_lt_of_le E_a1.lt lt7)
  have ne_t_t7 : t ≠ t7 := Nat.ne_of_lt (Nat.lt_of_lt_of_le A_t.lt lt7)
  have E7 := E7q
  have E_a1 := E_a1.ext E7
  have A_t := A_t.ext E7
  have C_a1 := C_a1.ext E7
  have V_a1 := V_a1.ext E7
  have N_a1 := N_a1.ext E7
  have O := O.ext E7
  have KK := KK.ext E7
  show Go _ _ _ _ _ _ _  T7 (mkF m 35 #[.val (.ref a1), .val (.int (Int32.ofNat kk)), .val (.int (Int32.ofNat cap))] [(.ref t7), (.ref a1)])
  obtain ⟨T8, h8, X8, e8, W8, st8⟩ := putF X7 hx hZ hown (host := "") (Or.inl (hw _ (List.mem_of_getElem? (i := 32) rfl))) Via.refl rfl V_a1 E_a1 (Or.inl (hw _ (List.mem_of_getElem? (i := 33) rfl))) (hw _ (List.mem_of_getElem? (i := 17) rfl)) (ty := (.array .byte)) (by decide) rfl rfl (g := (mkF m 35 #[.val (.ref a1), .val (.int (Int32.ofNat kk)), .val (.int (Int32.ofNat cap))] [(.ref t7), (.ref a1)])) rfl rfl (hb hby d10_35)
  refine Go.st st8 ?_
  have V_a1 : Fld Z h8 a1 "java/lang/AbstractStringBuilder" "value" "[B" (.ref t7) := V_a1.same W8
  have N8 := Fr.snoc X8 N7 g_a1
  have ne_t_a1 : t ≠ a1 := (Ne.symm (Exa.neArv E_a1 A_t (hw _ (List.mem_of_getElem? (i := 17) rfl))))
  have E_a1 := E_a1.wr W8
  have A_t := A_t.other W8 ne_t_a1
  have C_a1 := C_a1.other W8 (Or.inr (slot_ne (Or.inl (hw _ (List.mem_of_getElem? (i := 35) rfl))) (Or.inl (hw _ (List.mem_of_getElem? (i := 33) rfl))) (by decide) (t := .byte) (t' := (.array .byte)) (by decide) (by decide)))
  have N_a1 := N_a1.other W8 (Or.inr (slot_ne (Or.inl (hw _ (List.mem_of_getElem? (i := 61) rfl))) (Or.inl (hw _ (List.mem_of_getElem? (i := 33) rfl))) (by decide) (t := .int) (t' := (.array .byte)) (by decide) (by decide)))
  have Vq7 := Vq7.other W8 (Ne.symm ne_a1_t7)
  have O := O.wr W8 g_a1
  have KK := KK.wr W8 (Or.inl (List.mem_of_getElem? (i := 0) rfl))
  show Go _ _ _ _ _ _ _  T8 (mkF m 38 #[.val (.ref a1), .val (.int (Int32.ofNat kk)), .val (.int (Int32.ofNat cap))] [])
  refine Go.ret0 X8 hlk hx Bd.returns (hb hby d10_38) (by decide) (by decide) ?_
  show Q_rmE1 Z _ _ _ _ _ _ _ h0 n0 _ T8.heap _
  rw [e8]
  exact ⟨rfl, N8, KK, E_a1, C_a1, N_a1, t7, _, sz_t7, V_a1, Vq7⟩
def Q_rmA0 (Z : State) (a1 : Addr) (a2 : Addr) (zc : Int32) (t : Addr) (kd : ClassId) (n : Nat) (cap : Nat) (bs : List Value) (u : Addr) (ku : ClassId) (mm : Nat) (vs : List Value) (h0 : Heap) (n0 : Nat) (v : Option Value) (h : Heap) (L : List Loc) : Prop := v = some (.ref a1) ∧ Fr n0 L ∧ Keep h0 h [a1, t] ∧ Exa Z h a1 "java/lang/StringBuilder" ∧ Fld Z h a1 "java/lang/AbstractStringBuilder" "coder" "B" (.int 0) ∧ Fld Z h a1 "java/lang/AbstractStringBuilder" "count" "I" (.int (Int32.ofNat (n + mm))) ∧ Fld Z h a1 "java/lang/AbstractStringBuilder" "value" "[B" (.ref t) ∧ Arv Z h t kd .byte (Int32.ofNat cap) (bs ++ vs) (.int 0)
set_option maxRecDepth 65536 in
set_option maxHeartbeats 40000000 in
theorem rmA0 (l : Launch) (Z : State) (a0 : Array Value) (hw : ∀ d ∈ tables_1, d.before a0 Z = true) (ws : List Jvm.Cond) (a1 : Addr) (a2 : Addr) (zc : Int32) (t : Addr) (kd : ClassId) (n : Nat) (cap : Nat) (bs : List Value) (u : Addr) (ku : ClassId) (mm : Nat) (vs : List Value) (h0 : Heap) (n0 : Nat) (O : Old Z n0 h0) (S_COMPACT : Sta Z Z.heap "java/lang/String" "COMPACT_STRINGS" "Z" (.int zc)) (hcs : ¬ zc = 0) (E_a1 : Exa Z h0 a1 "java/lang/StringBuilder") (C_a1 : Fld Z h0 a1 "java/lang/AbstractStringBuilder" "coder" "B" (.int 0)) (V_a1 : Fld Z h0 a1 "java/lang/AbstractStringBuilder" "value" "[B" (.ref t)) (N_a1 : Fld Z h0 a1 "java/lang/AbstractStringBuilder" "count" "I" (.int (Int32.ofNat n))) (A_t : Arv Z h0 t kd .byte (Int32.ofNat cap) bs (.int 0)) (L_a1 : bs.length = n) (K_a1 : n ≤ cap) (B_a1 : cap < 100000) (g_a1 : n0 ≤ a1) (g_t : n0 ≤ t) (E_a2 : Exa Z h0 a2 "java/lang/String") (C_a2 : Fld Z h0 a2 "java/lang/String" "coder" "B" (.int 0)) (V_a2 : Fld Z h0 a2 "java/lang/String" "value" "[B" (.ref u)) (A_u : Arv Z h0 u ku .byte (Int32.ofNat mm) vs (.int 0)) (L_a2 : vs.length = mm) (B_a2 : mm < 100000) (hcap : n + mm ≤ cap) (ne_u_t : u ≠ t) :
    MetFree l (⟨"java/lang/AbstractStringBuilder", "append", "(Ljava/lang/String;)Ljava/lang/AbstractStringBuilder;"⟩ : MethodName) (head1 (Jvm.Cond.code (⟨"java/lang/AbstractStringBuilder", "append", "(Ljava/lang/String;)Ljava/lang/AbstractStringBuilder;"⟩ : MethodName) jdk_68_method_22_code 3 (some (.object "java/lang/AbstractStringBuilder")) :: ws) ({ frames := 3, cells := 0, slots := 0, locals := 47 } : Room)) (fun a U => a = #[(.ref a1), (.ref a2)] ∧ Z.Warmed39 U.vm ∧ U.heap = h0) (fun _ _ _ _ _ => True) (fun _ U o U' => ∃ v L, o = .returned v ∧ Q_rmA0 Z a1 a2 zc t kd n cap bs u ku mm vs h0 n0 v U'.heap L ∧ FrameEnd U o U' L ({ frames := 3, cells := 0, slots := 0, locals := 47 } : Room).cells ({ frames := 3, cells := 0, slots := 0, locals := 47 } : Room).slots) := by
  refine MetFree.of_bodySF (plainFor_of_name pn_7) hisR ?_
  intro p e s m args below meth c s₁ Bd hml0 hP hK
  obtain ⟨rfl, hZ, hh⟩ := hP
  have hx := Bd.exec
  have hby := Bd.bytes
  have hml : c.maxLocals = 3 := hml0
  have hown : s.vm.findClass "java/lang/AbstractStringBuilder" = some m.cls := findClass_of_methodNamed Bd.named
  have hnm := (name_of_methodNamed Bd.named Bd.method).1
  have hlk : meth.locks = false := BodyLoose.notSynchronized Bd
  have X0 : Stand p l e ({ frames := 3, cells := 0, slots := 0, locals := 47 } : Room) s m #[(.ref a1), (.ref a2)] below meth c s₁ [] 0 0 := Stand.of_body Bd
  have e0 : s₁.heap = h0 := by rw [← hh, Bd.state]; rfl
  have N0 := Fr.nil n0
  have KK : Keep h0 h0 [a1, t] := Keep.refl h0 _
  show Go p e below s ({ frames := 3, cells := 0, slots := 0, locals := 47 } : Room).cells ({ frames := 3, cells := 0, slots := 0, locals := 47 } : Room).slots (Q_rmA0 Z a1 a2 zc t kd n cap bs u ku mm vs h0 n0) s₁ (entryFrame m #[(.ref a1), (.ref a2)] 3)
  refine Go.eq (ef_rmA0 m a1 a2) ?_
  show Go _ _ _ _ _ _ _  s₁ (mkF m 0 #[.val (.ref a1), .val (.ref a2), .unset] [])
  refine Go.st (fun tT kT => XS.aloadN X0.here hx rfl (hb hby d7_0) rfl rfl  kT) ?_
  show Go _ _ _ _ _ _ _  s₁ (mkF m 1 #[.val (.ref a1), .val (.ref a2), .unset] [(.ref a2)])
  refine Go.st (fun tT kT => XS.ifnonnullYes X0.here hx rfl (pc0 := 1) (pc' := 9) rfl (hb hby d7_1) rfl (by decide) (by decide) kT) ?_
  show Go _ _ _ _ _ _ _  s₁ (mkF m 9 #[.val (.ref a1), .val (.ref a2), .unset] [])
  refine Go.st (fun tT kT => XS.aloadN X0.here hx rfl (hb hby d7_9) rfl rfl  kT) ?_
  show Go _ _ _ _ _ _ _  s₁ (mkF m 10 #[.val (.ref a1), .val (.ref a2), .unset] [(.ref a2)])
  obtain ⟨cq1, kq1, q1a, q1b, q1c⟩ := isOf hZ e0 E_a2
  refine Go.pure (w := (some (.int (Int32.ofNat mm)))) (rest := []) (pc' := 13) (X0.virtualBack hx (y := (⟨"java/lang/String", "length", "()I"⟩ : MethodName)) (z := (⟨"java/lang/String", "length", "()I"⟩ : MethodName)) hown (mvT hZ (hw _ (List.mem_of_getElem? (i := 47) rfl))) (mvT hZ (hw _ (List.mem_of_getElem? (i := 48) rfl))) (notFace_of_selects (args := #[]) (mvT hZ (hw _ (List.mem_of_getElem? (i := 50) rfl)))) (mvT hZ (hw _ (List.mem_of_getElem? (i := 50) rfl))) (mvT hZ (hw _ (List.mem_of_getElem? (i := 49) rfl))) (by decide) (backOf (W := 0) (rmLen l Z a0 hw [] a2 zc u ku mm vs h0 n0 O S_COMPACT hcs E_a2 C_a2 V_a2 A_u L_a2 B_a2) hZ (hw _ (List.mem_of_getElem? (i := 51) rfl)) (hw _ (List.mem_of_getElem? (i := 5) rfl)) (by decide) (by decide)) q1a q1c (g := (mkF m 10 #[.val (.ref a1), .val (.ref a2), .unset] [(.ref a2)])) rfl (by rw [hml]; rfl) (Steps.refl _) (argsL := []) (rest := []) (lenOf pd___I rfl) rfl (by show 2 * 0 + _ ≤ _; exact Nat.le_of_eq rfl) (hb hby d7_10) (fun _ _ => ⟨rfl, e0, (by decide : 0 + 0 ≤ _), (by decide : 0 + 0 ≤ _)⟩)) (fun _ _ _ q => q) N0 (fun T1 L1 X1 e1q N1 => ?_)
  show Go _ _ _ _ _ _ _  T1 (mkF m 13 #[.val (.ref a1), .val (.ref a2), .unset] [(.int (Int32.ofNat mm))])
  refine Go.st (fun tT kT => XS.istoreN X1.here hx rfl (hb hby d7_13) rfl (l' := #[.val (.ref a1), .val (.ref a2), .val (.int (Int32.ofNat mm))]) rfl kT) ?_
  show Go _ _ _ _ _ _ _  T1 (mkF m 14 #[.val (.ref a1), .val (.ref a2), .val (.int (Int32.ofNat mm))] [])
  refine Go.st (fun tT kT => XS.aloadN X1.here hx rfl (hb hby d7_14) rfl rfl  kT) ?_
  show Go _ _ _ _ _ _ _  T1 (mkF m 15 #[.val (.ref a1), .val (.ref a2), .val (.int (Int32.ofNat mm))] [(.ref a1)])
  refine Go.st (fun tT kT => XS.aloadN X1.here hx rfl (hb hby d7_15) rfl rfl  kT) ?_
  show Go _ _ _ _ _ _ _  T1 (mkF m 16 #[.val (.ref a1), .val (.ref a2), .val (.int (Int32.ofNat mm))] [(.ref a1), (.ref a1)])
  obtain ⟨T2, X2, e2, st2⟩ := getF X1 hx hZ hown (host := "") (Or.inl (hw _ (List.mem_of_getElem? (i := 60) rfl))) Via.refl e1q N_a1 (g := (mkF m 16 #[.val (.ref a1), .val (.ref a2), .val (.int (Int32.ofNat mm))] [(.ref a1), (.ref a1)])) rfl rfl (hb hby d7_16)
  refine Go.st st2 ?_
  show Go _ _ _ _ _ _ _  T2 (mkF m 19 #[.val (.ref a1), .val (.ref a2), .val (.int (Int32.ofNat mm))] [(.int (Int32.ofNat n)), (.ref a1)])
  refine Go.st (fun tT kT => XS.iloadN X2.here hx rfl (hb hby d7_19) rfl  kT) ?_
  show Go _ _ _ _ _ _ _  T2 (mkF m 20 #[.val (.ref a1), .val (.ref a2), .val (.int (Int32.ofNat mm))] [(.int (Int32.ofNat mm)), (.int (Int32.ofNat n)), (.ref a1)])
  refine Go.st (fun tT kT => XS.iadd X2.here hx rfl (hb hby d7_20) rfl kT) ?_
  show Go _ _ _ _ _ _ _  T2 (mkF m 21 #[.val (.ref a1), .val (.ref a2), .val (.int (Int32.ofNat mm))] [(.int ((Int32.ofNat n) + (Int32.ofNat mm))), (.ref a1)])
  rw [own_oadd]
  show Go _ _ _ _ _ _ _  T2 (mkF m 21 #[.val (.ref a1), .val (.ref a2), .val (.int (Int32.ofNat mm))] [(.int (Int32.ofNat (n + mm))), (.ref a1)])
  obtain ⟨cq3, q3, q3'⟩ := Exa.cell E_a1
  refine Go.pure (w := none) (rest := []) (pc' := 24) (X2.privateBack hx (y := (⟨"java/lang/AbstractStringBuilder", "ensureCapacityInternal", "(I)V"⟩ : MethodName)) hown (mvT hZ (hw _ (List.mem_of_getElem? (i := 62) rfl))) (mvT hZ (hw _ (List.mem_of_getElem? (i := 63) rfl))) (own_selfsel2 (mvT hZ (hw _ (List.mem_of_getElem? (i := 65) rfl))) (mvP hZ (hw _ (List.mem_of_getElem? (i := 64) rfl))) (mvT hZ (hw _ (List.mem_of_getElem? (i := 63) rfl))) (by decide)) (Cond.privateMethod_at (mvP hZ (hw _ (List.mem_of_getElem? (i := 64) rfl)) (args := #[]))) (mvT hZ (hw _ (List.mem_of_getElem? (i := 66) rfl))) (by decide) (backOf (W := 0) (rmE0 l Z a0 hw [] a1 (n + mm) t kd n cap bs h0 n0 O E_a1 C_a1 V_a1 N_a1 A_t L_a1 K_a1 B_a1 g_a1 g_t hcap) hZ (hw _ (List.mem_of_getElem? (i := 66) rfl)) (hw _ (List.mem_of_getElem? (i := 26) rfl)) (by decide) (by decide)) (g := (mkF m 21 #[.val (.ref a1), .val (.ref a2), .val (.int (Int32.ofNat mm))] [(.int (Int32.ofNat (n + mm))), (.ref a1)])) rfl (by rw [hml]; rfl) (Steps.refl _) (a := a1) (by rw [e2]; exact q3) q3' (argsL := [(.int (Int32.ofNat (n + mm)))]) (rest := []) (lenOf pd__I_V rfl) rfl (by show 2 * 0 + _ ≤ _; exact Nat.le_of_eq rfl) (hb hby d7_21) (fun _ _ => ⟨rfl, e2, (by decide : 0 + 0 ≤ _), (by decide : 0 + 0 ≤ _)⟩)) (fun _ _ _ q => q) N1 (fun T3 L3 X3 e3q N3 => ?_)
  show Go _ _ _ _ _ _ _  T3 (mkF m 24 #[.val (.ref a1), .val (.ref a2), .val (.int (Int32.ofNat mm))] [])
  refine Go.st (fun tT kT => XS.aloadN X3.here hx rfl (hb hby d7_24) rfl rfl  kT) ?_
  show Go _ _ _ _ _ _ _  T3 (mkF m 25 #[.val (.ref a1), .val (.ref a2), .val (.int (Int32.ofNat mm))] [(.ref a1)])
  refine Go.st (fun tT kT => XS.aloadN X3.here hx rfl (hb hby d7_25) rfl rfl  kT) ?_
  show Go _ _ _ _ _ _ _  T3 (mkF m 26 #[.val (.ref a1), .val (.ref a2), .val (.int (Int32.ofNat mm))] [(.ref a1), (.ref a1)])
  obtain ⟨T4, X4, e4, st4⟩ := getF X3 hx hZ hown (host := "") (Or.inl (hw _ (List.mem_of_getElem? (i := 60) rfl))) Via.refl e3q N_a1 (g := (mkF m 26 #[.val (.ref a1), .val (.ref a2), .val (.int (Int32.ofNat mm))] [(.ref a1), (.ref a1)])) rfl rfl (hb hby d7_26)
  refine Go.st st4 ?_
  show Go _ _ _ _ _ _ _  T4 (mkF m 29 #[.val (.ref a1), .val (.ref a2), .val (.int (Int32.ofNat mm))] [(.int (Int32.ofNat n)), (.ref a1)])
  refine Go.st (fun tT kT => XS.aloadN X4.here hx rfl (hb hby d7_29) rfl rfl  kT) ?_
  show Go _ _ _ _ _ _ _  T4 (mkF m 30 #[.val (.ref a1), .val (.ref a2), .val (.int (Int32.ofNat mm))] [(.ref a2), (.int (Int32.ofNat n)), (.ref a1)])
  obtain ⟨cq5, q5, q5'⟩ := Exa.cell E_a1
  obtain ⟨_, _, ⟨T5, L5, k5, n5⟩, -, X5, ⟨Lc5, hQ5, l5, y5, z5⟩, st5⟩ := X4.privateBack hx (y := (⟨"java/lang/AbstractStringBuilder", "putStringAt", "(ILjava/lang/String;)V"⟩ : MethodName)) hown (mvT hZ (hw _ (List.mem_of_getElem? (i := 67) rfl))) (mvT hZ (hw _ (List.mem_of_getElem? (i := 68) rfl))) (own_selfsel2 (mvT hZ (hw _ (List.mem_of_getElem? (i := 70) rfl))) (mvP hZ (hw _ (List.mem_of_getElem? (i := 69) rfl))) (mvT hZ (hw _ (List.mem_of_getElem? (i := 68) rfl))) (by decide)) (Cond.privateMethod_at (mvP hZ (hw _ (List.mem_of_getElem? (i := 69) rfl)) (args := #[]))) (mvT hZ (hw _ (List.mem_of_getElem? (i := 71) rfl))) (by decide) (backOf (W := 0) (rmPut l Z a0 hw [] a1 a2 zc t kd n cap bs u ku mm vs h0 n0 O S_COMPACT hcs E_a1 C_a1 V_a1 N_a1 A_t L_a1 K_a1 B_a1 g_a1 g_t E_a2 C_a2 V_a2 A_u L_a2 B_a2 hcap ne_u_t) hZ (hw _ (List.mem_of_getElem? (i := 71) rfl)) (hw _ (List.mem_of_getElem? (i := 26) rfl)) (by decide) (by decide)) (g := (mkF m 30 #[.val (.ref a1), .val (.ref a2), .val (.int (Int32.ofNat mm))] [(.ref a2), (.int (Int32.ofNat n)), (.ref a1)])) rfl (by rw [hml]; rfl) (Steps.refl _) (a := a1) (by rw [e4]; exact q5) q5' (argsL := [(.int (Int32.ofNat n)), (.ref a2)]) (rest := []) (lenOf pd__ILjava_lang_String__V rfl) rfl (by show 2 * 0 + _ ≤ _; exact Nat.le_of_eq rfl) (hb hby d7_30) (fun _ _ => ⟨rfl, e4, (by decide : 0 + 0 ≤ _), (by decide : 0 + 0 ≤ _)⟩)
  dsimp only [Pt.U, Pt.locs, Pt.cells, Pt.slots] at X5 l5 y5 z5 st5 hQ5
  subst l5 y5 z5
  have X5 : Stand p l e _ _ m _ below meth c T5 _ 0 0 := X5
  obtain ⟨rfl, N5q, K5q, Pq5⟩ := hQ5
  have N5 := Fr.app N3 N5q
  refine Go.tr st5 ?_
  have ne_a1_t : a1 ≠ t := (Exa.neArv E_a1 A_t (hw _ (List.mem_of_getElem? (i := 17) rfl)))
  have ne_a2_t : a2 ≠ t := (Exa.neArv E_a2 A_t (hw _ (List.mem_of_getElem? (i := 6) rfl)))
  have E_a1 := E_a1.keep K5q
  have C_a1 := C_a1.keep K5q (ninS ne_a1_t nin0)
  have V_a1 := V_a1.keep K5q (ninS ne_a1_t nin0)
  have N_a1 := N_a1.keep K5q (ninS ne_a1_t nin0)
  have E_a2 := E_a2.keep K5q
  have A_u := A_u.keep K5q (ninS ne_u_t nin0)
  have C_a2 := C_a2.keep K5q (ninS ne_a2_t nin0)
  have V_a2 := V_a2.keep K5q (ninS ne_a2_t nin0)
  have O := O.keep K5q (allS g_t all0)
  have KK := KK.trans K5q (allS (Or.inl (List.mem_of_getElem? (i := 1) rfl)) all0)
  show Go _ _ _ _ _ _ _  T5 (mkF m 33 #[.val (.ref a1), .val (.ref a2), .val (.int (Int32.ofNat mm))] [])
  refine Go.st (fun tT kT => XS.aloadN X5.here hx rfl (hb hby d7_33) rfl rfl  kT) ?_
  show Go _ _ _ _ _ _ _  T5 (mkF m 34 #[.val (.ref a1), .val (.ref a2), .val (.int (Int32.ofNat mm))] [(.ref a1)])
  refine Go.st (fun tT kT => XS.dup X5.here hx rfl (hb hby d7_34) rfl rfl kT) ?_
  show Go _ _ _ _ _ _ _  T5 (mkF m 35 #[.val (.ref a1), .val (.ref a2), .val (.int (Int32.ofNat mm))] [(.ref a1), (.ref a1)])
  obtain ⟨T6, X6, e6, st6⟩ := getF X5 hx hZ hown (host := "") (Or.inl (hw _ (List.mem_of_getElem? (i := 60) rfl))) Via.refl rfl N_a1 (g := (mkF m 35 #[.val (.ref a1), .val (.ref a2), .val (.int (Int32.ofNat mm))] [(.ref a1), (.ref a1)])) rfl rfl (hb hby d7_35)
  refine Go.st st6 ?_
  show Go _ _ _ _ _ _ _  T6 (mkF m 38 #[.val (.ref a1), .val (.ref a2), .val (.int (Int32.ofNat mm))] [(.int (Int32.ofNat n)), (.ref a1)])
  refine Go.st (fun tT kT => XS.iloadN X6.here hx rfl (hb hby d7_38) rfl  kT) ?_
  show Go _ _ _ _ _ _ _  T6 (mkF m 39 #[.val (.ref a1), .val (.ref a2), .val (.int (Int32.ofNat mm))] [(.int (Int32.ofNat mm)), (.int (Int32.ofNat n)), (.ref a1)])
  refine Go.st (fun tT kT => XS.iadd X6.here hx rfl (hb hby d7_39) rfl kT) ?_
  show Go _ _ _ _ _ _ _  T6 (mkF m 40 #[.val (.ref a1), .val (.ref a2), .val (.int (Int32.ofNat mm))] [(.int ((Int32.ofNat n) + (Int32.ofNat mm))), (.ref a1)])
  rw [own_oadd]
  show Go _ _ _ _ _ _ _  T6 (mkF m 40 #[.val (.ref a1), .val (.ref a2), .val (.int (Int32.ofNat mm))] [(.int (Int32.ofNat (n + mm))), (.ref a1)])
  obtain ⟨T7, h7, X7, e7, W7, st7⟩ := putF X6 hx hZ hown (host := "") (Or.inl (hw _ (List.mem_of_getElem? (i := 60) rfl))) Via.refl e6 N_a1 E_a1 (Or.inl (hw _ (List.mem_of_getElem? (i := 61) rfl))) (hw _ (List.mem_of_getElem? (i := 17) rfl)) (ty := .int) (by decide) rfl rfl (g := (mkF m 40 #[.val (.ref a1), .val (.ref a2), .val (.int (Int32.ofNat mm))] [(.int (Int32.ofNat (n + mm))), (.ref a1)])) rfl rfl (hb hby d7_40)
  refine Go.st st7 ?_
  have N_a1 : Fld Z h7 a1 "java/lang/AbstractStringBuilder" "count" "I" (.int (Int32.ofNat (n + mm))) := N_a1.same W7
  have N7 := Fr.snoc X7 N5 g_a1
  have ne_u_a1 : u ≠ a1 := (Ne.symm (Exa.neArv E_a1 A_u (hw _ (List.mem_of_getElem? (i := 17) rfl))))
  have ne_a2_a1 : a2 ≠ a1 := (ne_exa E_a2 E_a1 (by decide))
  have E_a1 := E_a1.wr W7
  have C_a1 := C_a1.other W7 (Or.inr (slot_ne (Or.inl (hw _ (List.mem_of_getElem? (i := 35) rfl))) (Or.inl (hw _ (List.mem_of_getElem? (i := 61) rfl))) (by decide) (t := .byte) (t' := .int) (by decide) (by decide)))
  have V_a1 := V_a1.other W7 (Or.inr (slot_ne (Or.inl (hw _ (List.mem_of_getElem? (i := 33) rfl))) (Or.inl (hw _ (List.mem_of_getElem? (i := 61) rfl))) (by decide) (t := (.array .byte)) (t' := .int) (by decide) (by decide)))
  have E_a2 := E_a2.wr W7
  have A_u := A_u.other W7 ne_u_a1
  have C_a2 := C_a2.other W7 (Or.inl ne_a2_a1)
  have V_a2 := V_a2.other W7 (Or.inl ne_a2_a1)
  have Pq5 := Pq5.other W7 (Ne.symm ne_a1_t)
  have O := O.wr W7 g_a1
  have KK := KK.wr W7 (Or.inl (List.mem_of_getElem? (i := 0) rfl))
  show Go _ _ _ _ _ _ _  T7 (mkF m 43 #[.val (.ref a1), .val (.ref a2), .val (.int (Int32.ofNat mm))] [])
  refine Go.st (fun tT kT => XS.aloadN X7.here hx rfl (hb hby d7_43) rfl rfl  kT) ?_
  show Go _ _ _ _ _ _ _  T7 (mkF m 44 #[.val (.ref a1), .val (.ref a2), .val (.int (Int32.ofNat mm))] [(.ref a1)])
  refine Go.retR X7 hlk hx Bd.returns rfl rfl rfl (hb hby d7_44) (by decide) (by decide) ?_
  show Q_rmA0 Z _ _ _ _ _ _ _ _ _ _ _ _ h0 n0 _ T7.heap _
  rw [e7]
  exact ⟨rfl, N7, KK, E_a1, C_a1, N_a1, V_a1, Pq5⟩
def Q_rmS0 (Z : State) (a1 : Addr) (a2 : Addr) (zc : Int32) (t : Addr) (kd : ClassId) (n : Nat) (cap : Nat) (bs : List Value) (u : Addr) (ku : ClassId) (mm : Nat) (vs : List Value) (h0 : Heap) (n0 : Nat) (v : Option Value) (h : Heap) (L : List Loc) : Prop := v = some (.ref a1) ∧ Fr n0 L ∧ Keep h0 h [a1, t] ∧ Exa Z h a1 "java/lang/StringBuilder" ∧ Fld Z h a1 "java/lang/AbstractStringBuilder" "coder" "B" (.int 0) ∧ Fld Z h a1 "java/lang/AbstractStringBuilder" "count" "I" (.int (Int32.ofNat (n + mm))) ∧ Fld Z h a1 "java/lang/AbstractStringBuilder" "value" "[B" (.ref t) ∧ Arv Z h t kd .byte (Int32.ofNat cap) (bs ++ vs) (.int 0)
set_option maxRecDepth 65536 in
set_option maxHeartbeats 40000000 in
theorem rmS0 (l : Launch) (Z : State) (a0 : Array Value) (hw : ∀ d ∈ tables_1, d.before a0 Z = true) (ws : List Jvm.Cond) (a1 : Addr) (a2 : Addr) (zc : Int32) (t : Addr) (kd : ClassId) (n : Nat) (cap : Nat) (bs : List Value) (u : Addr) (ku : ClassId) (mm : Nat) (vs : List Value) (h0 : Heap) (n0 : Nat) (O : Old Z n0 h0) (S_COMPACT : Sta Z Z.heap "java/lang/String" "COMPACT_STRINGS" "Z" (.int zc)) (hcs : ¬ zc = 0) (E_a1 : Exa Z h0 a1 "java/lang/StringBuilder") (C_a1 : Fld Z h0 a1 "java/lang/AbstractStringBuilder" "coder" "B" (.int 0)) (V_a1 : Fld Z h0 a1 "java/lang/AbstractStringBuilder" "value" "[B" (.ref t)) (N_a1 : Fld Z h0 a1 "java/lang/AbstractStringBuilder" "count" "I" (.int (Int32.ofNat n))) (A_t : Arv Z h0 t kd .byte (Int32.ofNat cap) bs (.int 0)) (L_a1 : bs.length = n) (K_a1 : n ≤ cap) (B_a1 : cap < 100000) (g_a1 : n0 ≤ a1) (g_t : n0 ≤ t) (E_a2 : Exa Z h0 a2 "java/lang/String") (C_a2 : Fld Z h0 a2 "java/lang/String" "coder" "B" (.int 0)) (V_a2 : Fld Z h0 a2 "java/lang/String" "value" "[B" (.ref u)) (A_u : Arv Z h0 u ku .byte (Int32.ofNat mm) vs (.int 0)) (L_a2 : vs.length = mm) (B_a2 : mm < 100000) (hcap : n + mm ≤ cap) (ne_u_t : u ≠ t) :
    MetFree l (⟨"java/lang/StringBuilder", "append", "(Ljava/lang/String;)Ljava/lang/StringBuilder;"⟩ : MethodName) (head1 (Jvm.Cond.code (⟨"java/lang/StringBuilder", "append", "(Ljava/lang/String;)Ljava/lang/StringBuilder;"⟩ : MethodName) jdk_67_method_7_code 2 (some (.object "java/lang/StringBuilder")) :: ws) ({ frames := 4, cells := 0, slots := 0, locals := 61 } : Room)) (fun a U => a = #[(.ref a1), (.ref a2)] ∧ Z.Warmed39 U.vm ∧ U.heap = h0) (fun _ _ _ _ _ => True) (fun _ U o U' => ∃ v L, o = .returned v ∧ Q_rmS0 Z a1 a2 zc t kd n cap bs u ku mm vs h0 n0 v U'.heap L ∧ FrameEnd U o U' L ({ frames := 4, cells := 0, slots := 0, locals := 61 } : Room).cells ({ frames := 4, cells := 0, slots := 0, locals := 61 } : Room).slots) := by
  refine MetFree.of_bodySF (plainFor_of_name pn_6) hisR ?_
  intro p e s m args below meth c s₁ Bd hml0 hP hK
  obtain ⟨rfl, hZ, hh⟩ := hP
  have hx := Bd.exec
  have hby := Bd.bytes
  have hml : c.maxLocals = 2 := hml0
  have hown : s.vm.findClass "java/lang/StringBuilder" = some m.cls := findClass_of_methodNamed Bd.named
  have hnm := (name_of_methodNamed Bd.named Bd.method).1
  have hlk : meth.locks = false := BodyLoose.notSynchronized Bd
  have X0 : Stand p l e ({ frames := 4, cells := 0, slots := 0, locals := 61 } : Room) s m #[(.ref a1), (.ref a2)] below meth c s₁ [] 0 0 := Stand.of_body Bd
  have e0 : s₁.heap = h0 := by rw [← hh, Bd.state]; rfl
  have N0 := Fr.nil n0
  have KK : Keep h0 h0 [a1, t] := Keep.refl h0 _
  show Go p e below s ({ frames := 4, cells := 0, slots := 0, locals := 61 } : Room).cells ({ frames := 4, cells := 0, slots := 0, locals := 61 } : Room).slots (Q_rmS0 Z a1 a2 zc t kd n cap bs u ku mm vs h0 n0) s₁ (entryFrame m #[(.ref a1), (.ref a2)] 2)
  refine Go.eq (ef_rmS0 m a1 a2) ?_
  show Go _ _ _ _ _ _ _  s₁ (mkF m 0 #[.val (.ref a1), .val (.ref a2)] [])
  refine Go.st (fun tT kT => XS.aloadN X0.here hx rfl (hb hby d6_0) rfl rfl  kT) ?_
  show Go _ _ _ _ _ _ _  s₁ (mkF m 1 #[.val (.ref a1), .val (.ref a2)] [(.ref a1)])
  refine Go.st (fun tT kT => XS.aloadN X0.here hx rfl (hb hby d6_1) rfl rfl  kT) ?_
  show Go _ _ _ _ _ _ _  s₁ (mkF m 2 #[.val (.ref a1), .val (.ref a2)] [(.ref a2), (.ref a1)])
  obtain ⟨_, _, ⟨T1, L1, k1, n1⟩, -, X1, ⟨Lc1, hQ1, l1, y1, z1⟩, st1⟩ := superBack X0 hx hZ (y := (⟨"java/lang/AbstractStringBuilder", "append", "(Ljava/lang/String;)Ljava/lang/AbstractStringBuilder;"⟩ : MethodName)) hown (hw _ (List.mem_of_getElem? (i := 42) rfl)) (own_same (hw _ (List.mem_of_getElem? (i := 45) rfl)) (hw _ (List.mem_of_getElem? (i := 65) rfl)) rfl (by decide)) (hw _ (List.mem_of_getElem? (i := 43) rfl)) (hw _ (List.mem_of_getElem? (i := 44) rfl)) (by decide) (backOf (W := 0) (rmA0 l Z a0 hw [] a1 a2 zc t kd n cap bs u ku mm vs h0 n0 O S_COMPACT hcs E_a1 C_a1 V_a1 N_a1 A_t L_a1 K_a1 B_a1 g_a1 g_t E_a2 C_a2 V_a2 A_u L_a2 B_a2 hcap ne_u_t) hZ (hw _ (List.mem_of_getElem? (i := 46) rfl)) (hw _ (List.mem_of_getElem? (i := 26) rfl)) (by decide) (by decide)) e0 (Ins.self E_a1) (g := (mkF m 2 #[.val (.ref a1), .val (.ref a2)] [(.ref a2), (.ref a1)])) rfl (by rw [hml]; rfl) (hw _ (List.mem_of_getElem? (i := 46) rfl)) (argsL := [(.ref a2)]) (rest := []) (lenOf pd__Ljava_lang_String__Ljava_lang_AbstractStringBuilder_ rfl) rfl (by show 2 * 0 + _ ≤ _; exact Nat.le_of_eq rfl) (hb hby d6_2) (fun _ _ => ⟨rfl, e0, (by decide : 0 + 0 ≤ _), (by decide : 0 + 0 ≤ _)⟩)
  dsimp only [Pt.U, Pt.locs, Pt.cells, Pt.slots] at X1 l1 y1 z1 st1 hQ1
  subst l1 y1 z1
  have X1 : Stand p l e _ _ m _ below meth c T1 _ 0 0 := X1
  obtain ⟨rfl, N1q, K1q, Q1⟩ := hQ1
  have N1 := Fr.app N0 N1q
  refine Go.tr st1 ?_
  have ne_u_a1 : u ≠ a1 := (Ne.symm (Exa.neArv E_a1 A_u (hw _ (List.mem_of_getElem? (i := 17) rfl))))
  have ne_a2_a1 : a2 ≠ a1 := (ne_exa E_a2 E_a1 (by decide))
  have ne_a2_t : a2 ≠ t := (Exa.neArv E_a2 A_t (hw _ (List.mem_of_getElem? (i := 6) rfl)))
  have E_a1 := E_a1.keep K1q
  have E_a2 := E_a2.keep K1q
  have A_u := A_u.keep K1q (ninS ne_u_a1 (ninS ne_u_t nin0))
  have C_a2 := C_a2.keep K1q (ninS ne_a2_a1 (ninS ne_a2_t nin0))
  have V_a2 := V_a2.keep K1q (ninS ne_a2_a1 (ninS ne_a2_t nin0))
  have O := O.keep K1q (allS g_a1 (allS g_t all0))
  have KK := KK.trans K1q (allS (Or.inl (List.mem_of_getElem? (i := 0) rfl)) (allS (Or.inl (List.mem_of_getElem? (i := 1) rfl)) all0))
  show Go _ _ _ _ _ _ _  T1 (mkF m 5 #[.val (.ref a1), .val (.ref a2)] [(.ref a1)])
  refine Go.st (fun tT kT => XS.pop X1.here hx rfl (hb hby d6_5) rfl rfl kT) ?_
  show Go _ _ _ _ _ _ _  T1 (mkF m 6 #[.val (.ref a1), .val (.ref a2)] [])
  refine Go.st (fun tT kT => XS.aloadN X1.here hx rfl (hb hby d6_6) rfl rfl  kT) ?_
  show Go _ _ _ _ _ _ _  T1 (mkF m 7 #[.val (.ref a1), .val (.ref a2)] [(.ref a1)])
  refine Go.retR X1 hlk hx Bd.returns rfl rfl rfl (hb hby d6_7) (by decide) (by decide) ?_
  show Q_rmS0 Z _ _ _ _ _ _ _ _ _ _ _ _ h0 n0 _ T1.heap _
  exact ⟨rfl, N1, KK, Q1⟩
def Q_rmA1 (Z : State) (a1 : Addr) (a2 : Addr) (zc : Int32) (t : Addr) (kd : ClassId) (n : Nat) (cap : Nat) (bs : List Value) (u : Addr) (ku : ClassId) (mm : Nat) (vs : List Value) (h0 : Heap) (n0 : Nat) (v : Option Value) (h : Heap) (L : List Loc) : Prop := v = some (.ref a1) ∧ Fr n0 L ∧ Keep h0 h [a1] ∧ Exa Z h a1 "java/lang/StringBuilder" ∧ Fld Z h a1 "java/lang/AbstractStringBuilder" "coder" "B" (.int 0) ∧ Fld Z h a1 "java/lang/AbstractStringBuilder" "count" "I" (.int (Int32.ofNat (n + mm))) ∧ ∃ (b : Addr) (kb : ClassId), h0.size ≤ b ∧ Fld Z h a1 "java/lang/AbstractStringBuilder" "value" "[B" (.ref b) ∧ Arv Z h b kb .byte (Int32.ofNat (cap + max (n + mm - cap) (cap + 2))) (bs ++ vs) (.int 0)
set_option maxRecDepth 65536 in
set_option maxHeartbeats 40000000 in
theorem rmA1 (l : Launch) (Z : State) (a0 : Array Value) (hw : ∀ d ∈ tables_1, d.before a0 Z = true) (ws : List Jvm.Cond) (a1 : Addr) (a2 : Addr) (zc : Int32) (t : Addr) (kd : ClassId) (n : Nat) (cap : Nat) (bs : List Value) (u : Addr) (ku : ClassId) (mm : Nat) (vs : List Value) (h0 : Heap) (n0 : Nat) (O : Old Z n0 h0) (S_COMPACT : Sta Z Z.heap "java/lang/String" "COMPACT_STRINGS" "Z" (.int zc)) (hcs : ¬ zc = 0) (E_a1 : Exa Z h0 a1 "java/lang/StringBuilder") (C_a1 : Fld Z h0 a1 "java/lang/AbstractStringBuilder" "coder" "B" (.int 0)) (V_a1 : Fld Z h0 a1 "java/lang/AbstractStringBuilder" "value" "[B" (.ref t)) (N_a1 : Fld Z h0 a1 "java/lang/AbstractStringBuilder" "count" "I" (.int (Int32.ofNat n))) (A_t : Arv Z h0 t kd .byte (Int32.ofNat cap) bs (.int 0)) (L_a1 : bs.length = n) (K_a1 : n ≤ cap) (B_a1 : cap < 100000) (g_a1 : n0 ≤ a1) (g_t : n0 ≤ t) (E_a2 : Exa Z h0 a2 "java/lang/String") (C_a2 : Fld Z h0 a2 "java/lang/String" "coder" "B" (.int 0)) (V_a2 : Fld Z h0 a2 "java/lang/String" "value" "[B" (.ref u)) (A_u : Arv Z h0 u ku .byte (Int32.ofNat mm) vs (.int 0)) (L_a2 : vs.length = mm) (B_a2 : mm < 100000) (hcap : cap < n + mm) (hgc : (cap + max (n + mm - cap) (cap + 2)) ≤ 64) :
    MetFree l (⟨"java/lang/AbstractStringBuilder", "append", "(Ljava/lang/String;)Ljava/lang/AbstractStringBuilder;"⟩ : MethodName) (head1 (Jvm.Cond.code (⟨"java/lang/AbstractStringBuilder", "append", "(Ljava/lang/String;)Ljava/lang/AbstractStringBuilder;"⟩ : MethodName) jdk_68_method_22_code 3 (some (.object "java/lang/AbstractStringBuilder")) :: ws) ({ frames := 4, cells := 1, slots := 64, locals := 62 } : Room)) (fun a U => a = #[(.ref a1), (.ref a2)] ∧ Z.Warmed39 U.vm ∧ U.heap = h0) (fun _ _ _ _ _ => True) (fun _ U o U' => ∃ v L, o = .returned v ∧ Q_rmA1 Z a1 a2 zc t kd n cap bs u ku mm vs h0 n0 v U'.heap L ∧ FrameEnd U o U' L ({ frames := 4, cells := 1, slots := 64, locals := 62 } : Room).cells ({ frames := 4, cells := 1, slots := 64, locals := 62 } : Room).slots) := by
  refine MetFree.of_bodySF (plainFor_of_name pn_7) hisR ?_
  intro p e s m args below meth c s₁ Bd hml0 hP hK
  obtain ⟨rfl, hZ, hh⟩ := hP
  have hx := Bd.exec
  have hby := Bd.bytes
  have hml : c.maxLocals = 3 := hml0
  have hown : s.vm.findClass "java/lang/AbstractStringBuilder" = some m.cls := findClass_of_methodNamed Bd.named
  have hnm := (name_of_methodNamed Bd.named Bd.method).1
  have hlk : meth.locks = false := BodyLoose.notSynchronized Bd
  have X0 : Stand p l e ({ frames := 4, cells := 1, slots := 64, locals := 62 } : Room) s m #[(.ref a1), (.ref a2)] below meth c s₁ [] 0 0 := Stand.of_body Bd
  have e0 : s₁.heap = h0 := by rw [← hh, Bd.state]; rfl
  have N0 := Fr.nil n0
  have KK : Keep h0 h0 [a1] := Keep.refl h0 _
  show Go p e below s ({ frames := 4, cells := 1, slots := 64, locals := 62 } : Room).cells ({ frames := 4, cells := 1, slots := 64, locals := 62 } : Room).slots (Q_rmA1 Z a1 a2 zc t kd n cap bs u ku mm vs h0 n0) s₁ (entryFrame m #[(.ref a1), (.ref a2)] 3)
  refine Go.eq (ef_rmA1 m a1 a2) ?_
  show Go _ _ _ _ _ _ _  s₁ (mkF m 0 #[.val (.ref a1), .val (.ref a2), .unset] [])
  refine Go.st (fun tT kT => XS.aloadN X0.here hx rfl (hb hby d7_0) rfl rfl  kT) ?_
  show Go _ _ _ _ _ _ _  s₁ (mkF m 1 #[.val (.ref a1), .val (.ref a2), .unset] [(.ref a2)])
  refine Go.st (fun tT kT => XS.ifnonnullYes X0.here hx rfl (pc0 := 1) (pc' := 9) rfl (hb hby d7_1) rfl (by decide) (by decide) kT) ?_
  show Go _ _ _ _ _ _ _  s₁ (mkF m 9 #[.val (.ref a1), .val (.ref a2), .unset] [])
  refine Go.st (fun tT kT => XS.aloadN X0.here hx rfl (hb hby d7_9) rfl rfl  kT) ?_
  show Go _ _ _ _ _ _ _  s₁ (mkF m 10 #[.val (.ref a1), .val (.ref a2), .unset] [(.ref a2)])
  obtain ⟨cq1, kq1, q1a, q1b, q1c⟩ := isOf hZ e0 E_a2
  refine Go.pure (w := (some (.int (Int32.ofNat mm)))) (rest := []) (pc' := 13) (X0.virtualBack hx (y := (⟨"java/lang/String", "length", "()I"⟩ : MethodName)) (z := (⟨"java/lang/String", "length", "()I"⟩ : MethodName)) hown (mvT hZ (hw _ (List.mem_of_getElem? (i := 47) rfl))) (mvT hZ (hw _ (List.mem_of_getElem? (i := 48) rfl))) (notFace_of_selects (args := #[]) (mvT hZ (hw _ (List.mem_of_getElem? (i := 50) rfl)))) (mvT hZ (hw _ (List.mem_of_getElem? (i := 50) rfl))) (mvT hZ (hw _ (List.mem_of_getElem? (i := 49) rfl))) (by decide) (backOf (W := 0) (rmLen l Z a0 hw [] a2 zc u ku mm vs h0 n0 O S_COMPACT hcs E_a2 C_a2 V_a2 A_u L_a2 B_a2) hZ (hw _ (List.mem_of_getElem? (i := 51) rfl)) (hw _ (List.mem_of_getElem? (i := 5) rfl)) (by decide) (by decide)) q1a q1c (g := (mkF m 10 #[.val (.ref a1), .val (.ref a2), .unset] [(.ref a2)])) rfl (by rw [hml]; rfl) (Steps.refl _) (argsL := []) (rest := []) (lenOf pd___I rfl) rfl (by show 2 * 0 + _ ≤ _; exact Nat.le_of_eq rfl) (hb hby d7_10) (fun _ _ => ⟨rfl, e0, (by decide : 0 + 0 ≤ _), (by decide : 0 + 0 ≤ _)⟩)) (fun _ _ _ q => q) N0 (fun T1 L1 X1 e1q N1 => ?_)
  show Go _ _ _ _ _ _ _  T1 (mkF m 13 #[.val (.ref a1), .val (.ref a2), .unset] [(.int (Int32.ofNat mm))])
  refine Go.st (fun tT kT => XS.istoreN X1.here hx rfl (hb hby d7_13) rfl (l' := #[.val (.ref a1), .val (.ref a2), .val (.int (Int32.ofNat mm))]) rfl kT) ?_
  show Go _ _ _ _ _ _ _  T1 (mkF m 14 #[.val (.ref a1), .val (.ref a2), .val (.int (Int32.ofNat mm))] [])
  refine Go.st (fun tT kT => XS.aloadN X1.here hx rfl (hb hby d7_14) rfl rfl  kT) ?_
  show Go _ _ _ _ _ _ _  T1 (mkF m 15 #[.val (.ref a1), .val (.ref a2), .val (.int (Int32.ofNat mm))] [(.ref a1)])
  refine Go.st (fun tT kT => XS.aloadN X1.here hx rfl (hb hby d7_15) rfl rfl  kT) ?_
  show Go _ _ _ _ _ _ _  T1 (mkF m 16 #[.val (.ref a1), .val (.ref a2), .val (.int (Int32.ofNat mm))] [(.ref a1), (.ref a1)])
  obtain ⟨T2, X2, e2, st2⟩ := getF X1 hx hZ hown (host := "") (Or.inl (hw _ (List.mem_of_getElem? (i := 60) rfl))) Via.refl e1q N_a1 (g := (mkF m 16 #[.val (.ref a1), .val (.ref a2), .val (.int (Int32.ofNat mm))] [(.ref a1), (.ref a1)])) rfl rfl (hb hby d7_16)
  refine Go.st st2 ?_
  show Go _ _ _ _ _ _ _  T2 (mkF m 19 #[.val (.ref a1), .val (.ref a2), .val (.int (Int32.ofNat mm))] [(.int (Int32.ofNat n)), (.ref a1)])
  refine Go.st (fun tT kT => XS.iloadN X2.here hx rfl (hb hby d7_19) rfl  kT) ?_
  show Go _ _ _ _ _ _ _  T2 (mkF m 20 #[.val (.ref a1), .val (.ref a2), .val (.int (Int32.ofNat mm))] [(.int (Int32.ofNat mm)), (.int (Int32.ofNat n)), (.ref a1)])
  refine Go.st (fun tT kT => XS.iadd X2.here hx rfl (hb hby d7_20) rfl kT) ?_
  show Go _ _ _ _ _ _ _  T2 (mkF m 21 #[.val (.ref a1), .val (.ref a2), .val (.int (Int32.ofNat mm))] [(.int ((Int32.ofNat n) + (Int32.ofNat mm))), (.ref a1)])
  rw [own_oadd]
  show Go _ _ _ _ _ _ _  T2 (mkF m 21 #[.val (.ref a1), .val (.ref a2), .val (.int (Int32.ofNat mm))] [(.int (Int32.ofNat (n + mm))), (.ref a1)])
  obtain ⟨cq3, q3, q3'⟩ := Exa.cell E_a1
  obtain ⟨_, _, ⟨T3, L3, k3, n3⟩, -, X3, ⟨Lc3, hQ3, l3, y3, z3⟩, st3⟩ := X2.privateBack hx (y := (⟨"java/lang/AbstractStringBuilder", "ensureCapacityInternal", "(I)V"⟩ : MethodName)) hown (mvT hZ (hw _ (List.mem_of_getElem? (i := 62) rfl))) (mvT hZ (hw _ (List.mem_of_getElem? (i := 63) rfl))) (own_selfsel2 (mvT hZ (hw _ (List.mem_of_getElem? (i := 65) rfl))) (mvP hZ (hw _ (List.mem_of_getElem? (i := 64) rfl))) (mvT hZ (hw _ (List.mem_of_getElem? (i := 63) rfl))) (by decide)) (Cond.privateMethod_at (mvP hZ (hw _ (List.mem_of_getElem? (i := 64) rfl)) (args := #[]))) (mvT hZ (hw _ (List.mem_of_getElem? (i := 66) rfl))) (by decide) (backOf (W := 0) (rmE1 l Z a0 hw [] a1 (n + mm) t kd n cap bs h0 n0 O E_a1 C_a1 V_a1 N_a1 A_t L_a1 K_a1 B_a1 g_a1 g_t hcap (by omega) hgc) hZ (hw _ (List.mem_of_getElem? (i := 66) rfl)) (hw _ (List.mem_of_getElem? (i := 26) rfl)) (by decide) (by decide)) (g := (mkF m 21 #[.val (.ref a1), .val (.ref a2), .val (.int (Int32.ofNat mm))] [(.int (Int32.ofNat (n + mm))), (.ref a1)])) rfl (by rw [hml]; rfl) (Steps.refl _) (a := a1) (by rw [e2]; exact q3) q3' (argsL := [(.int (Int32.ofNat (n + mm)))]) (rest := []) (lenOf pd__I_V rfl) rfl (by show 2 * 0 + _ ≤ _; exact Nat.le_of_eq rfl) (hb hby d7_21) (fun _ _ => ⟨rfl, e2, (by decide : 0 + 1 ≤ _), (by decide : 0 + 64 ≤ _)⟩)
  dsimp only [Pt.U, Pt.locs, Pt.cells, Pt.slots] at X3 l3 y3 z3 st3 hQ3
  subst l3 y3 z3
  have X3 : Stand p l e _ _ m _ below meth c T3 _ 1 64 := X3
  obtain ⟨rfl, N3q, K3q, Eq3, Cq3, Nq3, t3, kt3, lt3, Vq3, Wq3⟩ := hQ3
  have N3 := Fr.app N1 N3q
  refine Go.tr st3 ?_
  have g_t3 : n0 ≤ t3 := Nat.le_trans (own_le O) lt3
  have sz_t3 : h0.size ≤ t3 := Nat.le_trans KK.1 lt3
  have ne_a1_t3 : a1 ≠ t3 := Nat.ne_of_lt (Nat.lt_of_lt_of_le E_a1.lt lt3)
  have ne_t_t3 : t ≠ t3 := Nat.ne_of_lt (Nat.lt_of_lt_of_le A_t.lt lt3)
  have ne_a2_t3 : a2 ≠ t3 := Nat.ne_of_lt (Nat.lt_of_lt_of_le E_a2.lt lt3)
  have ne_u_t3 : u ≠ t3 := Nat.ne_of_lt (Nat.lt_of_lt_of_le A_u.lt lt3)
  have ne_t_a1 : t ≠ a1 := (Ne.symm (Exa.neArv E_a1 A_t (hw _ (List.mem_of_getElem? (i := 17) rfl))))
  have ne_u_a1 : u ≠ a1 := (Ne.symm (Exa.neArv E_a1 A_u (hw _ (List.mem_of_getElem? (i := 17) rfl))))
  have ne_a2_a1 : a2 ≠ a1 := (ne_exa E_a2 E_a1 (by decide))
  have E_a1 := E_a1.keep K3q
  have A_t := A_t.keep K3q (ninS ne_t_a1 nin0)
  have E_a2 := E_a2.keep K3q
  have A_u := A_u.keep K3q (ninS ne_u_a1 nin0)
  have C_a2 := C_a2.keep K3q (ninS ne_a2_a1 nin0)
  have V_a2 := V_a2.keep K3q (ninS ne_a2_a1 nin0)
  have O := O.keep K3q (allS g_a1 all0)
  have KK := KK.trans K3q (allS (Or.inl (List.mem_of_getElem? (i := 0) rfl)) all0)
  have E_a1 := Eq3
  have C_a1 := Cq3
  have N_a1 := Nq3
  have V_a1 := Vq3
  show Go _ _ _ _ _ _ _  T3 (mkF m 24 #[.val (.ref a1), .val (.ref a2), .val (.int (Int32.ofNat mm))] [])
  refine Go.st (fun tT kT => XS.aloadN X3.here hx rfl (hb hby d7_24) rfl rfl  kT) ?_
  show Go _ _ _ _ _ _ _  T3 (mkF m 25 #[.val (.ref a1), .val (.ref a2), .val (.int (Int32.ofNat mm))] [(.ref a1)])
  refine Go.st (fun tT kT => XS.aloadN X3.here hx rfl (hb hby d7_25) rfl rfl  kT) ?_
  show Go _ _ _ _ _ _ _  T3 (mkF m 26 #[.val (.ref a1), .val (.ref a2), .val (.int (Int32.ofNat mm))] [(.ref a1), (.ref a1)])
  obtain ⟨T4, X4, e4, st4⟩ := getF X3 hx hZ hown (host := "") (Or.inl (hw _ (List.mem_of_getElem? (i := 60) rfl))) Via.refl rfl N_a1 (g := (mkF m 26 #[.val (.ref a1), .val (.ref a2), .val (.int (Int32.ofNat mm))] [(.ref a1), (.ref a1)])) rfl rfl (hb hby d7_26)
  refine Go.st st4 ?_
  show Go _ _ _ _ _ _ _  T4 (mkF m 29 #[.val (.ref a1), .val (.ref a2), .val (.int (Int32.ofNat mm))] [(.int (Int32.ofNat n)), (.ref a1)])
  refine Go.st (fun tT kT => XS.aloadN X4.here hx rfl (hb hby d7_29) rfl rfl  kT) ?_
  show Go _ _ _ _ _ _ _  T4 (mkF m 30 #[.val (.ref a1), .val (.ref a2), .val (.int (Int32.ofNat mm))] [(.ref a2), (.int (Int32.ofNat n)), (.ref a1)])
  obtain ⟨cq5, q5, q5'⟩ := Exa.cell E_a1
  obtain ⟨_, _, ⟨T5, L5, k5, n5⟩, -, X5, ⟨Lc5, hQ5, l5, y5, z5⟩, st5⟩ := X4.privateBack hx (y := (⟨"java/lang/AbstractStringBuilder", "putStringAt", "(ILjava/lang/String;)V"⟩ : MethodName)) hown (mvT hZ (hw _ (List.mem_of_getElem? (i := 67) rfl))) (mvT hZ (hw _ (List.mem_of_getElem? (i := 68) rfl))) (own_selfsel2 (mvT hZ (hw _ (List.mem_of_getElem? (i := 70) rfl))) (mvP hZ (hw _ (List.mem_of_getElem? (i := 69) rfl))) (mvT hZ (hw _ (List.mem_of_getElem? (i := 68) rfl))) (by decide)) (Cond.privateMethod_at (mvP hZ (hw _ (List.mem_of_getElem? (i := 69) rfl)) (args := #[]))) (mvT hZ (hw _ (List.mem_of_getElem? (i := 71) rfl))) (by decide) (backOf (W := 0) (rmPut l Z a0 hw [] a1 a2 zc t3 kt3 n (cap + max (n + mm - cap) (cap + 2)) bs u ku mm vs T3.heap n0 O S_COMPACT hcs E_a1 C_a1 V_a1 N_a1 Wq3 L_a1 (by omega) (by omega) g_a1 g_t3 E_a2 C_a2 V_a2 A_u L_a2 B_a2 (by omega) ne_u_t3) hZ (hw _ (List.mem_of_getElem? (i := 71) rfl)) (hw _ (List.mem_of_getElem? (i := 26) rfl)) (by decide) (by decide)) (g := (mkF m 30 #[.val (.ref a1), .val (.ref a2), .val (.int (Int32.ofNat mm))] [(.ref a2), (.int (Int32.ofNat n)), (.ref a1)])) rfl (by rw [hml]; rfl) (Steps.refl _) (a := a1) (by rw [e4]; exact q5) q5' (argsL := [(.int (Int32.ofNat n)), (.ref a2)]) (rest := []) (lenOf pd__ILjava_lang_String__V rfl) rfl (by show 2 * 0 + _ ≤ _; exact Nat.le_of_eq rfl) (hb hby d7_30) (fun _ _ => ⟨rfl, e4, (by decide : 1 + 0 ≤ _), (by decide : 64 + 0 ≤ _)⟩)
  dsimp only [Pt.U, Pt.locs, Pt.cells, Pt.slots] at X5 l5 y5 z5 st5 hQ5
  subst l5 y5 z5
  have X5 : Stand p l e _ _ m _ below meth c T5 _ 1 64 := X5
  obtain ⟨rfl, N5q, K5q, Pq5⟩ := hQ5
  have N5 := Fr.app N3 N5q
  refine Go.tr st5 ?_
  have E_a1 := E_a1.keep K5q
  have A_t := A_t.keep K5q (ninS ne_t_t3 nin0)
  have E_a2 := E_a2.keep K5q
  have A_u := A_u.keep K5q (ninS ne_u_t3 nin0)
  have C_a2 := C_a2.keep K5q (ninS ne_a2_t3 nin0)
  have V_a2 := V_a2.keep K5q (ninS ne_a2_t3 nin0)
  have C_a1 := C_a1.keep K5q (ninS ne_a1_t3 nin0)
  have V_a1 := V_a1.keep K5q (ninS ne_a1_t3 nin0)
  have N_a1 := N_a1.keep K5q (ninS ne_a1_t3 nin0)
  have O := O.keep K5q (allS g_t3 all0)
  have KK := KK.trans K5q (allS (Or.inr sz_t3) all0)
  show Go _ _ _ _ _ _ _  T5 (mkF m 33 #[.val (.ref a1), .val (.ref a2), .val (.int (Int32.ofNat mm))] [])
  refine Go.st (fun tT kT => XS.aloadN X5.here hx rfl (hb hby d7_33) rfl rfl  kT) ?_
  show Go _ _ _ _ _ _ _  T5 (mkF m 34 #[.val (.ref a1), .val (.ref a2), .val (.int (Int32.ofNat mm))] [(.ref a1)])
  refine Go.st (fun tT kT => XS.dup X5.here hx rfl (hb hby d7_34) rfl rfl kT) ?_
  show Go _ _ _ _ _ _ _  T5 (mkF m 35 #[.val (.ref a1), .val (.ref a2), .val (.int (Int32.ofNat mm))] [(.ref a1), (.ref a1)])
  obtain ⟨T6, X6, e6, st6⟩ := getF X5 hx hZ hown (host := "") (Or.inl (hw _ (List.mem_of_getElem? (i := 60) rfl))) Via.refl rfl N_a1 (g := (mkF m 35 #[.val (.ref a1), .val (.ref a2), .val (.int (Int32.ofNat mm))] [(.ref a1), (.ref a1)])) rfl rfl (hb hby d7_35)
  refine Go.st st6 ?_
  show Go _ _ _ _ _ _ _  T6 (mkF m 38 #[.val (.ref a1), .val (.ref a2), .val (.int (Int32.ofNat mm))] [(.int (Int32.ofNat n)), (.ref a1)])
  refine Go.st (fun tT kT => XS.iloadN X6.here hx rfl (hb hby d7_38) rfl  kT) ?_
  show Go _ _ _ _ _ _ _  T6 (mkF m 39 #[.val (.ref a1), .val (.ref a2), .val (.int (Int32.ofNat mm))] [(.int (Int32.ofNat mm)), (.int (Int32.ofNat n)), (.ref a1)])
  refine Go.st (fun tT kT => XS.iadd X6.here hx rfl (hb hby d7_39) rfl kT) ?_
  show Go _ _ _ _ _ _ _  T6 (mkF m 40 #[.val (.ref a1), .val (.ref a2), .val (.int (Int32.ofNat mm))] [(.int ((Int32.ofNat n) + (Int32.ofNat mm))), (.ref a1)])
  rw [own_oadd]
  show Go _ _ _ _ _ _ _  T6 (mkF m 40 #[.val (.ref a1), .val (.ref a2), .val (.int (Int32.ofNat mm))] [(.int (Int32.ofNat (n + mm))), (.ref a1)])
  obtain ⟨T7, h7, X7, e7, W7, st7⟩ := putF X6 hx hZ hown (host := "") (Or.inl (hw _ (List.mem_of_getElem? (i := 60) rfl))) Via.refl e6 N_a1 E_a1 (Or.inl (hw _ (List.mem_of_getElem? (i := 61) rfl))) (hw _ (List.mem_of_getElem? (i := 17) rfl)) (ty := .int) (by decide) rfl rfl (g := (mkF m 40 #[.val (.ref a1), .val (.ref a2), .val (.int (Int32.ofNat mm))] [(.int (Int32.ofNat (n + mm))), (.ref a1)])) rfl rfl (hb hby d7_40)
  refine Go.st st7 ?_
  have N_a1 : Fld Z h7 a1 "java/lang/AbstractStringBuilder" "count" "I" (.int (Int32.ofNat (n + mm))) := N_a1.same W7
  have N7 := Fr.snoc X7 N5 g_a1
  have E_a1 := E_a1.wr W7
  have A_t := A_t.other W7 ne_t_a1
  have E_a2 := E_a2.wr W7
  have A_u := A_u.other W7 ne_u_a1
  have C_a2 := C_a2.other W7 (Or.inl ne_a2_a1)
  have V_a2 := V_a2.other W7 (Or.inl ne_a2_a1)
  have C_a1 := C_a1.other W7 (Or.inr (slot_ne (Or.inl (hw _ (List.mem_of_getElem? (i := 35) rfl))) (Or.inl (hw _ (List.mem_of_getElem? (i := 61) rfl))) (by decide) (t := .byte) (t' := .int) (by decide) (by decide)))
  have V_a1 := V_a1.other W7 (Or.inr (slot_ne (Or.inl (hw _ (List.mem_of_getElem? (i := 33) rfl))) (Or.inl (hw _ (List.mem_of_getElem? (i := 61) rfl))) (by decide) (t := (.array .byte)) (t' := .int) (by decide) (by decide)))
  have Pq5 := Pq5.other W7 (Ne.symm ne_a1_t3)
  have O := O.wr W7 g_a1
  have KK := KK.wr W7 (Or.inl (List.mem_of_getElem? (i := 0) rfl))
  show Go _ _ _ _ _ _ _  T7 (mkF m 43 #[.val (.ref a1), .val (.ref a2), .val (.int (Int32.ofNat mm))] [])
  refine Go.st (fun tT kT => XS.aloadN X7.here hx rfl (hb hby d7_43) rfl rfl  kT) ?_
  show Go _ _ _ _ _ _ _  T7 (mkF m 44 #[.val (.ref a1), .val (.ref a2), .val (.int (Int32.ofNat mm))] [(.ref a1)])
  refine Go.retR X7 hlk hx Bd.returns rfl rfl rfl (hb hby d7_44) (by decide) (by decide) ?_
  show Q_rmA1 Z _ _ _ _ _ _ _ _ _ _ _ _ h0 n0 _ T7.heap _
  rw [e7]
  exact ⟨rfl, N7, KK, E_a1, C_a1, N_a1, t3, _, sz_t3, V_a1, Pq5⟩
def Q_rmS1 (Z : State) (a1 : Addr) (a2 : Addr) (zc : Int32) (t : Addr) (kd : ClassId) (n : Nat) (cap : Nat) (bs : List Value) (u : Addr) (ku : ClassId) (mm : Nat) (vs : List Value) (h0 : Heap) (n0 : Nat) (v : Option Value) (h : Heap) (L : List Loc) : Prop := v = some (.ref a1) ∧ Fr n0 L ∧ Keep h0 h [a1] ∧ Exa Z h a1 "java/lang/StringBuilder" ∧ Fld Z h a1 "java/lang/AbstractStringBuilder" "coder" "B" (.int 0) ∧ Fld Z h a1 "java/lang/AbstractStringBuilder" "count" "I" (.int (Int32.ofNat (n + mm))) ∧ ∃ (b : Addr) (kb : ClassId), h0.size ≤ b ∧ Fld Z h a1 "java/lang/AbstractStringBuilder" "value" "[B" (.ref b) ∧ Arv Z h b kb .byte (Int32.ofNat (cap + max (n + mm - cap) (cap + 2))) (bs ++ vs) (.int 0)
set_option maxRecDepth 65536 in
set_option maxHeartbeats 40000000 in
theorem rmS1 (l : Launch) (Z : State) (a0 : Array Value) (hw : ∀ d ∈ tables_1, d.before a0 Z = true) (ws : List Jvm.Cond) (a1 : Addr) (a2 : Addr) (zc : Int32) (t : Addr) (kd : ClassId) (n : Nat) (cap : Nat) (bs : List Value) (u : Addr) (ku : ClassId) (mm : Nat) (vs : List Value) (h0 : Heap) (n0 : Nat) (O : Old Z n0 h0) (S_COMPACT : Sta Z Z.heap "java/lang/String" "COMPACT_STRINGS" "Z" (.int zc)) (hcs : ¬ zc = 0) (E_a1 : Exa Z h0 a1 "java/lang/StringBuilder") (C_a1 : Fld Z h0 a1 "java/lang/AbstractStringBuilder" "coder" "B" (.int 0)) (V_a1 : Fld Z h0 a1 "java/lang/AbstractStringBuilder" "value" "[B" (.ref t)) (N_a1 : Fld Z h0 a1 "java/lang/AbstractStringBuilder" "count" "I" (.int (Int32.ofNat n))) (A_t : Arv Z h0 t kd .byte (Int32.ofNat cap) bs (.int 0)) (L_a1 : bs.length = n) (K_a1 : n ≤ cap) (B_a1 : cap < 100000) (g_a1 : n0 ≤ a1) (g_t : n0 ≤ t) (E_a2 : Exa Z h0 a2 "java/lang/String") (C_a2 : Fld Z h0 a2 "java/lang/String" "coder" "B" (.int 0)) (V_a2 : Fld Z h0 a2 "java/lang/String" "value" "[B" (.ref u)) (A_u : Arv Z h0 u ku .byte (Int32.ofNat mm) vs (.int 0)) (L_a2 : vs.length = mm) (B_a2 : mm < 100000) (hcap : cap < n + mm) (hgc : (cap + max (n + mm - cap) (cap + 2)) ≤ 64) :
    MetFree l (⟨"java/lang/StringBuilder", "append", "(Ljava/lang/String;)Ljava/lang/StringBuilder;"⟩ : MethodName) (head1 (Jvm.Cond.code (⟨"java/lang/StringBuilder", "append", "(Ljava/lang/String;)Ljava/lang/StringBuilder;"⟩ : MethodName) jdk_67_method_7_code 2 (some (.object "java/lang/StringBuilder")) :: ws) ({ frames := 5, cells := 1, slots := 64, locals := 76 } : Room)) (fun a U => a = #[(.ref a1), (.ref a2)] ∧ Z.Warmed39 U.vm ∧ U.heap = h0) (fun _ _ _ _ _ => True) (fun _ U o U' => ∃ v L, o = .returned v ∧ Q_rmS1 Z a1 a2 zc t kd n cap bs u ku mm vs h0 n0 v U'.heap L ∧ FrameEnd U o U' L ({ frames := 5, cells := 1, slots := 64, locals := 76 } : Room).cells ({ frames := 5, cells := 1, slots := 64, locals := 76 } : Room).slots) := by
  refine MetFree.of_bodySF (plainFor_of_name pn_6) hisR ?_
  intro p e s m args below meth c s₁ Bd hml0 hP hK
  obtain ⟨rfl, hZ, hh⟩ := hP
  have hx := Bd.exec
  have hby := Bd.bytes
  have hml : c.maxLocals = 2 := hml0
  have hown : s.vm.findClass "java/lang/StringBuilder" = some m.cls := findClass_of_methodNamed Bd.named
  have hnm := (name_of_methodNamed Bd.named Bd.method).1
  have hlk : meth.locks = false := BodyLoose.notSynchronized Bd
  have X0 : Stand p l e ({ frames := 5, cells := 1, slots := 64, locals := 76 } : Room) s m #[(.ref a1), (.ref a2)] below meth c s₁ [] 0 0 := Stand.of_body Bd
  have e0 : s₁.heap = h0 := by rw [← hh, Bd.state]; rfl
  have N0 := Fr.nil n0
  have KK : Keep h0 h0 [a1] := Keep.refl h0 _
  show Go p e below s ({ frames := 5, cells := 1, slots := 64, locals := 76 } : Room).cells ({ frames := 5, cells := 1, slots := 64, locals := 76 } : Room).slots (Q_rmS1 Z a1 a2 zc t kd n cap bs u ku mm vs h0 n0) s₁ (entryFrame m #[(.ref a1), (.ref a2)] 2)
  refine Go.eq (ef_rmS1 m a1 a2) ?_
  show Go _ _ _ _ _ _ _  s₁ (mkF m 0 #[.val (.ref a1), .val (.ref a2)] [])
  refine Go.st (fun tT kT => XS.aloadN X0.here hx rfl (hb hby d6_0) rfl rfl  kT) ?_
  show Go _ _ _ _ _ _ _  s₁ (mkF m 1 #[.val (.ref a1), .val (.ref a2)] [(.ref a1)])
  refine Go.st (fun tT kT => XS.aloadN X0.here hx rfl (hb hby d6_1) rfl rfl  kT) ?_
  show Go _ _ _ _ _ _ _  s₁ (mkF m 2 #[.val (.ref a1), .val (.ref a2)] [(.ref a2), (.ref a1)])
  obtain ⟨_, _, ⟨T1, L1, k1, n1⟩, -, X1, ⟨Lc1, hQ1, l1, y1, z1⟩, st1⟩ := superBack X0 hx hZ (y := (⟨"java/lang/AbstractStringBuilder", "append", "(Ljava/lang/String;)Ljava/lang/AbstractStringBuilder;"⟩ : MethodName)) hown (hw _ (List.mem_of_getElem? (i := 42) rfl)) (own_same (hw _ (List.mem_of_getElem? (i := 45) rfl)) (hw _ (List.mem_of_getElem? (i := 65) rfl)) rfl (by decide)) (hw _ (List.mem_of_getElem? (i := 43) rfl)) (hw _ (List.mem_of_getElem? (i := 44) rfl)) (by decide) (backOf (W := 0) (rmA1 l Z a0 hw [] a1 a2 zc t kd n cap bs u ku mm vs h0 n0 O S_COMPACT hcs E_a1 C_a1 V_a1 N_a1 A_t L_a1 K_a1 B_a1 g_a1 g_t E_a2 C_a2 V_a2 A_u L_a2 B_a2 hcap hgc) hZ (hw _ (List.mem_of_getElem? (i := 46) rfl)) (hw _ (List.mem_of_getElem? (i := 26) rfl)) (by decide) (by decide)) e0 (Ins.self E_a1) (g := (mkF m 2 #[.val (.ref a1), .val (.ref a2)] [(.ref a2), (.ref a1)])) rfl (by rw [hml]; rfl) (hw _ (List.mem_of_getElem? (i := 46) rfl)) (argsL := [(.ref a2)]) (rest := []) (lenOf pd__Ljava_lang_String__Ljava_lang_AbstractStringBuilder_ rfl) rfl (by show 2 * 0 + _ ≤ _; exact Nat.le_of_eq rfl) (hb hby d6_2) (fun _ _ => ⟨rfl, e0, (by decide : 0 + 1 ≤ _), (by decide : 0 + 64 ≤ _)⟩)
  dsimp only [Pt.U, Pt.locs, Pt.cells, Pt.slots] at X1 l1 y1 z1 st1 hQ1
  subst l1 y1 z1
  have X1 : Stand p l e _ _ m _ below meth c T1 _ 1 64 := X1
  obtain ⟨rfl, N1q, K1q, Q1⟩ := hQ1
  have N1 := Fr.app N0 N1q
  refine Go.tr st1 ?_
  have ne_t_a1 : t ≠ a1 := (Ne.symm (Exa.neArv E_a1 A_t (hw _ (List.mem_of_getElem? (i := 17) rfl))))
  have ne_u_a1 : u ≠ a1 := (Ne.symm (Exa.neArv E_a1 A_u (hw _ (List.mem_of_getElem? (i := 17) rfl))))
  have ne_a2_a1 : a2 ≠ a1 := (ne_exa E_a2 E_a1 (by decide))
  have E_a1 := E_a1.keep K1q
  have A_t := A_t.keep K1q (ninS ne_t_a1 nin0)
  have E_a2 := E_a2.keep K1q
  have A_u := A_u.keep K1q (ninS ne_u_a1 nin0)
  have C_a2 := C_a2.keep K1q (ninS ne_a2_a1 nin0)
  have V_a2 := V_a2.keep K1q (ninS ne_a2_a1 nin0)
  have O := O.keep K1q (allS g_a1 all0)
  have KK := KK.trans K1q (allS (Or.inl (List.mem_of_getElem? (i := 0) rfl)) all0)
  show Go _ _ _ _ _ _ _  T1 (mkF m 5 #[.val (.ref a1), .val (.ref a2)] [(.ref a1)])
  refine Go.st (fun tT kT => XS.pop X1.here hx rfl (hb hby d6_5) rfl rfl kT) ?_
  show Go _ _ _ _ _ _ _  T1 (mkF m 6 #[.val (.ref a1), .val (.ref a2)] [])
  refine Go.st (fun tT kT => XS.aloadN X1.here hx rfl (hb hby d6_6) rfl rfl  kT) ?_
  show Go _ _ _ _ _ _ _  T1 (mkF m 7 #[.val (.ref a1), .val (.ref a2)] [(.ref a1)])
  refine Go.retR X1 hlk hx Bd.returns rfl rfl rfl (hb hby d6_7) (by decide) (by decide) ?_
  show Q_rmS1 Z _ _ _ _ _ _ _ _ _ _ _ _ h0 n0 _ T1.heap _
  exact ⟨rfl, N1, KK, Q1⟩
def Q_rmI1 (Z : State) (a1 : Addr) (zc : Int32) (h0 : Heap) (n0 : Nat) (v : Option Value) (h : Heap) (L : List Loc) : Prop := v = none ∧ Fr n0 L ∧ Keep h0 h [a1] ∧ Exa Z h a1 "java/lang/StringBuilder" ∧ Fld Z h a1 "java/lang/AbstractStringBuilder" "coder" "B" (.int 0) ∧ Fld Z h a1 "java/lang/AbstractStringBuilder" "count" "I" (.int (Int32.ofNat 0)) ∧ ∃ (b : Addr) (kb : ClassId), h0.size ≤ b ∧ Fld Z h a1 "java/lang/AbstractStringBuilder" "value" "[B" (.ref b) ∧ Arv Z h b kb .byte (Int32.ofNat 16) [] (.int 0)
set_option maxRecDepth 65536 in
set_option maxHeartbeats 40000000 in
theorem rmI1 (l : Launch) (Z : State) (a0 : Array Value) (hw : ∀ d ∈ tables_1, d.before a0 Z = true) (ws : List Jvm.Cond) (a1 : Addr) (zc : Int32) (h0 : Heap) (n0 : Nat) (O : Old Z n0 h0) (S_COMPACT : Sta Z Z.heap "java/lang/String" "COMPACT_STRINGS" "Z" (.int zc)) (hcs : ¬ zc = 0) (E_a1 : Exa Z h0 a1 "java/lang/StringBuilder") (F_value_a1 : Fld Z h0 a1 "java/lang/AbstractStringBuilder" "value" "[B" .null) (F_coder_a1 : Fld Z h0 a1 "java/lang/AbstractStringBuilder" "coder" "B" (.int (0 : Int32))) (F_count_a1 : Fld Z h0 a1 "java/lang/AbstractStringBuilder" "count" "I" (.int (0 : Int32))) (g_a1 : n0 ≤ a1) :
    MetFree l (⟨"java/lang/AbstractStringBuilder", "<init>", "(I)V"⟩ : MethodName) (head1 (Jvm.Cond.code (⟨"java/lang/AbstractStringBuilder", "<init>", "(I)V"⟩ : MethodName) jdk_68_method_2_code 2 none :: ws) ({ frames := 1, cells := 1, slots := 16, locals := 12 } : Room)) (fun a U => a = #[(.ref a1), (.int (16 : Int32))] ∧ Z.Warmed39 U.vm ∧ U.heap = h0) (fun _ _ _ _ _ => True) (fun _ U o U' => ∃ v L, o = .returned v ∧ Q_rmI1 Z a1 zc h0 n0 v U'.heap L ∧ FrameEnd U o U' L ({ frames := 1, cells := 1, slots := 16, locals := 12 } : Room).cells ({ frames := 1, cells := 1, slots := 16, locals := 12 } : Room).slots) := by
  refine MetFree.of_bodySF (plainFor_of_name pn_4) hisR ?_
  intro p e s m args below meth c s₁ Bd hml0 hP hK
  obtain ⟨rfl, hZ, hh⟩ := hP
  have hx := Bd.exec
  have hby := Bd.bytes
  have hml : c.maxLocals = 2 := hml0
  have hown : s.vm.findClass "java/lang/AbstractStringBuilder" = some m.cls := findClass_of_methodNamed Bd.named
  have hnm := (name_of_methodNamed Bd.named Bd.method).1
  have hlk : meth.locks = false := BodyLoose.notSynchronized Bd
  have X0 : Stand p l e ({ frames := 1, cells := 1, slots := 16, locals := 12 } : Room) s m #[(.ref a1), (.int (16 : Int32))] below meth c s₁ [] 0 0 := Stand.of_body Bd
  have e0 : s₁.heap = h0 := by rw [← hh, Bd.state]; rfl
  have N0 := Fr.nil n0
  have KK : Keep h0 h0 [a1] := Keep.refl h0 _
  show Go p e below s ({ frames := 1, cells := 1, slots := 16, locals := 12 } : Room).cells ({ frames := 1, cells := 1, slots := 16, locals := 12 } : Room).slots (Q_rmI1 Z a1 zc h0 n0) s₁ (entryFrame m #[(.ref a1), (.int (16 : Int32))] 2)
  refine Go.eq (ef_rmI1 m a1) ?_
  show Go _ _ _ _ _ _ _  s₁ (mkF m 0 #[.val (.ref a1), .val (.int (16 : Int32))] [])
  refine Go.st (fun tT kT => XS.aloadN X0.here hx rfl (hb hby d4_0) rfl rfl  kT) ?_
  show Go _ _ _ _ _ _ _  s₁ (mkF m 1 #[.val (.ref a1), .val (.int (16 : Int32))] [(.ref a1)])
  obtain ⟨T1, X1, e1, st1⟩ := initO X0 hx hZ hown (hw _ (List.mem_of_getElem? (i := 28) rfl)) (hw _ (List.mem_of_getElem? (i := 29) rfl)) (hw _ (List.mem_of_getElem? (i := 30) rfl)) e0 (g := (mkF m 1 #[.val (.ref a1), .val (.int (16 : Int32))] [(.ref a1)])) rfl (by rw [hml]; rfl) rfl (hb hby d4_1) (by decide) (W := 0) (by show 2 * 0 + _ ≤ _; exact Nat.le_of_eq rfl) (by decide)
  refine Go.st st1 ?_
  show Go _ _ _ _ _ _ _  T1 (mkF m 4 #[.val (.ref a1), .val (.int (16 : Int32))] [])
  obtain ⟨T2, X2, e2, st2⟩ := getS2 X1 hx hZ hown (host := "") (Or.inl (hw _ (List.mem_of_getElem? (i := 31) rfl))) Via.refl e1 (S_COMPACT.ext O.2) (g := (mkF m 4 #[.val (.ref a1), .val (.int (16 : Int32))] [])) rfl (hb hby d4_4)
  refine Go.st st2 ?_
  show Go _ _ _ _ _ _ _  T2 (mkF m 7 #[.val (.ref a1), .val (.int (16 : Int32))] [(.int zc)])
  refine Go.st (fun tT kT => XS.ifNo X2.here hx rfl (hb hby d4_7) rfl ((if0 _ _).trans (feq (hcs : ¬ (zc = (0 : Int32)))).1) kT) ?_
  show Go _ _ _ _ _ _ _  T2 (mkF m 10 #[.val (.ref a1), .val (.int (16 : Int32))] [])
  refine Go.st (fun tT kT => XS.aloadN X2.here hx rfl (hb hby d4_10) rfl rfl  kT) ?_
  show Go _ _ _ _ _ _ _  T2 (mkF m 11 #[.val (.ref a1), .val (.int (16 : Int32))] [(.ref a1)])
  refine Go.st (fun tT kT => XS.iloadN X2.here hx rfl (hb hby d4_11) rfl  kT) ?_
  show Go _ _ _ _ _ _ _  T2 (mkF m 12 #[.val (.ref a1), .val (.int (16 : Int32))] [(.int (16 : Int32)), (.ref a1)])
  obtain ⟨T3, h3, k3, X3, e3, E3, A3, st3⟩ := newP X2 hx hZ (hw _ (List.mem_of_getElem? (i := 7) rfl)) e2 (g := (mkF m 12 #[.val (.ref a1), .val (.int (16 : Int32))] [(.int (16 : Int32)), (.ref a1)])) rfl (hb hby d4_12) rfl (by decide) (cap := 16) (by decide) (by decide) (by decide) (by decide)
  obtain ⟨b3, g3⟩ : ∃ z, z = h0.size := ⟨_, rfl⟩
  rw [← g3] at A3 st3
  refine Go.st st3 ?_
  have g_b3 : n0 ≤ b3 := by rw [g3]; exact own_le O
  have sz_b3 : h0.size ≤ b3 := by rw [g3]; exact KK.1
  have ne_a1_b3 : a1 ≠ b3 := Nat.ne_of_lt (by rw [g3]; exact E_a1.lt)
  have E_a1 := E_a1.ext E3
  have F_value_a1 := F_value_a1.ext E3
  have F_coder_a1 := F_coder_a1.ext E3
  have F_count_a1 := F_count_a1.ext E3
  have O := O.ext E3
  have KK := KK.ext E3
  have V_b3 : Arv Z h3 b3 k3 .byte (16 : Int32) [(.int (0 : Int32)), (.int (0 : Int32)), (.int (0 : Int32)), (.int (0 : Int32)), (.int (0 : Int32)), (.int (0 : Int32)), (.int (0 : Int32)), (.int (0 : Int32)), (.int (0 : Int32)), (.int (0 : Int32)), (.int (0 : Int32)), (.int (0 : Int32)), (.int (0 : Int32)), (.int (0 : Int32)), (.int (0 : Int32)), (.int (0 : Int32))] (.int (0 : Int32)) := (Arv.new A3 (by decide)).pad (pad_rep [] (.int (0 : Int32)) 16)
  show Go _ _ _ _ _ _ _  T3 (mkF m 14 #[.val (.ref a1), .val (.int (16 : Int32))] [(.ref b3), (.ref a1)])
  obtain ⟨T4, h4, X4, e4, W4, st4⟩ := putF X3 hx hZ hown (host := "") (Or.inl (hw _ (List.mem_of_getElem? (i := 32) rfl))) Via.refl e3 F_value_a1 E_a1 (Or.inl (hw _ (List.mem_of_getElem? (i := 33) rfl))) (hw _ (List.mem_of_getElem? (i := 17) rfl)) (ty := (.array .byte)) (by decide) rfl rfl (g := (mkF m 14 #[.val (.ref a1), .val (.int (16 : Int32))] [(.ref b3), (.ref a1)])) rfl rfl (hb hby d4_14)
  refine Go.st st4 ?_
  have F_value_a1 : Fld Z h4 a1 "java/lang/AbstractStringBuilder" "value" "[B" (.ref b3) := F_value_a1.same W4
  have N4 := Fr.snoc X4 N0 g_a1
  have E_a1 := E_a1.wr W4
  have F_coder_a1 := F_coder_a1.other W4 (Or.inr (slot_ne (Or.inl (hw _ (List.mem_of_getElem? (i := 35) rfl))) (Or.inl (hw _ (List.mem_of_getElem? (i := 33) rfl))) (by decide) (t := .byte) (t' := (.array .byte)) (by decide) (by decide)))
  have F_count_a1 := F_count_a1.other W4 (Or.inr (slot_ne (Or.inl (hw _ (List.mem_of_getElem? (i := 61) rfl))) (Or.inl (hw _ (List.mem_of_getElem? (i := 33) rfl))) (by decide) (t := .int) (t' := (.array .byte)) (by decide) (by decide)))
  have V_b3 := V_b3.other W4 (Ne.symm ne_a1_b3)
  have O := O.wr W4 g_a1
  have KK := KK.wr W4 (Or.inl (List.mem_of_getElem? (i := 0) rfl))
  show Go _ _ _ _ _ _ _  T4 (mkF m 17 #[.val (.ref a1), .val (.int (16 : Int32))] [])
  refine Go.st (fun tT kT => XS.aloadN X4.here hx rfl (hb hby d4_17) rfl rfl  kT) ?_
  show Go _ _ _ _ _ _ _  T4 (mkF m 18 #[.val (.ref a1), .val (.int (16 : Int32))] [(.ref a1)])
  refine Go.st (fun tT kT => XS.iconst X4.here hx rfl (hb hby d4_18) kT) ?_
  show Go _ _ _ _ _ _ _  T4 (mkF m 19 #[.val (.ref a1), .val (.int (16 : Int32))] [(.int (0 : Int32)), (.ref a1)])
  obtain ⟨T5, h5, X5, e5, W5, st5⟩ := putFN X4 hx hZ hown (hw _ (List.mem_of_getElem? (i := 34) rfl)) Via.refl e4 F_coder_a1 E_a1 (Or.inl (hw _ (List.mem_of_getElem? (i := 35) rfl))) (hw _ (List.mem_of_getElem? (i := 17) rfl)) (ty := .byte) (v' := .int (0 : Int32)) (by decide) rfl rfl (g := (mkF m 19 #[.val (.ref a1), .val (.int (16 : Int32))] [(.int (0 : Int32)), (.ref a1)])) rfl rfl (hb hby d4_19)
  refine Go.st st5 ?_
  have F_coder_a1 : Fld Z h5 a1 "java/lang/AbstractStringBuilder" "coder" "B" (.int (0 : Int32)) := F_coder_a1.same W5
  have N5 := Fr.snoc X5 N4 g_a1
  have E_a1 := E_a1.wr W5
  have F_value_a1 := F_value_a1.other W5 (Or.inr (slot_ne (Or.inl (hw _ (List.mem_of_getElem? (i := 33) rfl))) (Or.inl (hw _ (List.mem_of_getElem? (i := 35) rfl))) (by decide) (t := (.array .byte)) (t' := .byte) (by decide) (by decide)))
  have F_count_a1 := F_count_a1.other W5 (Or.inr (slot_ne (Or.inl (hw _ (List.mem_of_getElem? (i := 61) rfl))) (Or.inl (hw _ (List.mem_of_getElem? (i := 35) rfl))) (by decide) (t := .int) (t' := .byte) (by decide) (by decide)))
  have V_b3 := V_b3.other W5 (Ne.symm ne_a1_b3)
  have O := O.wr W5 g_a1
  have KK := KK.wr W5 (Or.inl (List.mem_of_getElem? (i := 0) rfl))
  show Go _ _ _ _ _ _ _  T5 (mkF m 22 #[.val (.ref a1), .val (.int (16 : Int32))] [])
  refine Go.st (fun tT kT => XS.goto X5.here hx rfl (pc0 := 22) (pc' := 38) rfl (hb hby d4_22) (by decide) (by decide) kT) ?_
  show Go _ _ _ _ _ _ _  T5 (mkF m 38 #[.val (.ref a1), .val (.int (16 : Int32))] [])
  refine Go.ret0 X5 hlk hx Bd.returns (hb hby d4_38) (by decide) (by decide) ?_
  show Q_rmI1 Z _ _ h0 n0 _ T5.heap _
  rw [e5]
  exact ⟨rfl, N5, KK, E_a1, F_coder_a1, F_count_a1, b3, _, sz_b3, F_value_a1, V_b3.pad (fun i => (pad_rep [] (.int 0) 16 i).symm)⟩
def Q_rmI0 (Z : State) (a1 : Addr) (zc : Int32) (h0 : Heap) (n0 : Nat) (v : Option Value) (h : Heap) (L : List Loc) : Prop := v = none ∧ Fr n0 L ∧ Keep h0 h [a1] ∧ Exa Z h a1 "java/lang/StringBuilder" ∧ Fld Z h a1 "java/lang/AbstractStringBuilder" "coder" "B" (.int 0) ∧ Fld Z h a1 "java/lang/AbstractStringBuilder" "count" "I" (.int (Int32.ofNat 0)) ∧ ∃ (b : Addr) (kb : ClassId), h0.size ≤ b ∧ Fld Z h a1 "java/lang/AbstractStringBuilder" "value" "[B" (.ref b) ∧ Arv Z h b kb .byte (Int32.ofNat 16) [] (.int 0)
set_option maxRecDepth 65536 in
set_option maxHeartbeats 40000000 in
theorem rmI0 (l : Launch) (Z : State) (a0 : Array Value) (hw : ∀ d ∈ tables_1, d.before a0 Z = true) (ws : List Jvm.Cond) (a1 : Addr) (zc : Int32) (h0 : Heap) (n0 : Nat) (O : Old Z n0 h0) (S_COMPACT : Sta Z Z.heap "java/lang/String" "COMPACT_STRINGS" "Z" (.int zc)) (hcs : ¬ zc = 0) (E_a1 : Exa Z h0 a1 "java/lang/StringBuilder") (F_value_a1 : Fld Z h0 a1 "java/lang/AbstractStringBuilder" "value" "[B" .null) (F_coder_a1 : Fld Z h0 a1 "java/lang/AbstractStringBuilder" "coder" "B" (.int (0 : Int32))) (F_count_a1 : Fld Z h0 a1 "java/lang/AbstractStringBuilder" "count" "I" (.int (0 : Int32))) (g_a1 : n0 ≤ a1) :
    MetFree l (⟨"java/lang/StringBuilder", "<init>", "()V"⟩ : MethodName) (head1 (Jvm.Cond.code (⟨"java/lang/StringBuilder", "<init>", "()V"⟩ : MethodName) jdk_67_method_1_code 1 none :: ws) ({ frames := 2, cells := 1, slots := 16, locals := 25 } : Room)) (fun a U => a = #[(.ref a1)] ∧ Z.Warmed39 U.vm ∧ U.heap = h0) (fun _ _ _ _ _ => True) (fun _ U o U' => ∃ v L, o = .returned v ∧ Q_rmI0 Z a1 zc h0 n0 v U'.heap L ∧ FrameEnd U o U' L ({ frames := 2, cells := 1, slots := 16, locals := 25 } : Room).cells ({ frames := 2, cells := 1, slots := 16, locals := 25 } : Room).slots) := by
  refine MetFree.of_bodySF (plainFor_of_name pn_3) hisR ?_
  intro p e s m args below meth c s₁ Bd hml0 hP hK
  obtain ⟨rfl, hZ, hh⟩ := hP
  have hx := Bd.exec
  have hby := Bd.bytes
  have hml : c.maxLocals = 1 := hml0
  have hown : s.vm.findClass "java/lang/StringBuilder" = some m.cls := findClass_of_methodNamed Bd.named
  have hnm := (name_of_methodNamed Bd.named Bd.method).1
  have hlk : meth.locks = false := BodyLoose.notSynchronized Bd
  have X0 : Stand p l e ({ frames := 2, cells := 1, slots := 16, locals := 25 } : Room) s m #[(.ref a1)] below meth c s₁ [] 0 0 := Stand.of_body Bd
  have e0 : s₁.heap = h0 := by rw [← hh, Bd.state]; rfl
  have N0 := Fr.nil n0
  have KK : Keep h0 h0 [a1] := Keep.refl h0 _
  show Go p e below s ({ frames := 2, cells := 1, slots := 16, locals := 25 } : Room).cells ({ frames := 2, cells := 1, slots := 16, locals := 25 } : Room).slots (Q_rmI0 Z a1 zc h0 n0) s₁ (entryFrame m #[(.ref a1)] 1)
  refine Go.eq (ef_rmI0 m a1) ?_
  show Go _ _ _ _ _ _ _  s₁ (mkF m 0 #[.val (.ref a1)] [])
  refine Go.st (fun tT kT => XS.aloadN X0.here hx rfl (hb hby d3_0) rfl rfl  kT) ?_
  show Go _ _ _ _ _ _ _  s₁ (mkF m 1 #[.val (.ref a1)] [(.ref a1)])
  refine Go.st (fun tT kT => XS.bipush X0.here hx rfl (hb hby d3_1) kT) ?_
  show Go _ _ _ _ _ _ _  s₁ (mkF m 3 #[.val (.ref a1)] [(.int (16 : Int32)), (.ref a1)])
  obtain ⟨_, _, ⟨T1, L1, k1, n1⟩, -, X1, ⟨Lc1, hQ1, l1, y1, z1⟩, st1⟩ := X0.specialBack hx (y := (⟨"java/lang/AbstractStringBuilder", "<init>", "(I)V"⟩ : MethodName)) rfl hown (mvT hZ (hw _ (List.mem_of_getElem? (i := 22) rfl))) (mvT hZ (hw _ (List.mem_of_getElem? (i := 23) rfl))) (mvT hZ (hw _ (List.mem_of_getElem? (i := 27) rfl))) (by decide) (backOf (W := 0) (rmI1 l Z a0 hw [] a1 zc h0 n0 O S_COMPACT hcs E_a1 F_value_a1 F_coder_a1 F_count_a1 g_a1) hZ (hw _ (List.mem_of_getElem? (i := 27) rfl)) (hw _ (List.mem_of_getElem? (i := 26) rfl)) (by decide) (by decide)) (g := (mkF m 3 #[.val (.ref a1)] [(.int (16 : Int32)), (.ref a1)])) rfl (by rw [hml]; rfl) (Steps.refl _) (a := a1) (argsL := [(.int (16 : Int32))]) (rest := []) (lenOf pd__I_V rfl) rfl (by show 2 * 0 + _ ≤ _; exact Nat.le_of_eq rfl) (hb hby d3_3) (fun _ _ => ⟨rfl, e0, (by decide : 0 + 1 ≤ _), (by decide : 0 + 16 ≤ _)⟩)
  dsimp only [Pt.U, Pt.locs, Pt.cells, Pt.slots] at X1 l1 y1 z1 st1 hQ1
  subst l1 y1 z1
  have X1 : Stand p l e _ _ m _ below meth c T1 _ 1 16 := X1
  obtain ⟨rfl, N1q, K1q, Q1⟩ := hQ1
  have N1 := Fr.app N0 N1q
  refine Go.tr st1 ?_
  have E_a1 := E_a1.keep K1q
  have O := O.keep K1q (allS g_a1 all0)
  have KK := KK.trans K1q (allS (Or.inl (List.mem_of_getElem? (i := 0) rfl)) all0)
  show Go _ _ _ _ _ _ _  T1 (mkF m 6 #[.val (.ref a1)] [])
  refine Go.ret0 X1 hlk hx Bd.returns (hb hby d3_6) (by decide) (by decide) ?_
  show Q_rmI0 Z _ _ h0 n0 _ T1.heap _
  exact ⟨rfl, N1, KK, Q1⟩
def Q_rmGV (Z : State) (a1 : Addr) (t : Addr) (h0 : Heap) (n0 : Nat) (v : Option Value) (h : Heap) (L : List Loc) : Prop := v = some (.ref t) ∧ Fr n0 L ∧ h = h0
set_option maxRecDepth 65536 in
set_option maxHeartbeats 40000000 in
theorem rmGV (l : Launch) (Z : State) (a0 : Array Value) (hw : ∀ d ∈ tables_1, d.before a0 Z = true) (ws : List Jvm.Cond) (a1 : Addr) (t : Addr) (h0 : Heap) (n0 : Nat) (O : Old Z n0 h0) (V_a1 : Fld Z h0 a1 "java/lang/AbstractStringBuilder" "value" "[B" (.ref t)) :
    MetFree l (⟨"java/lang/AbstractStringBuilder", "getValue", "()[B"⟩ : MethodName) (head1 (Jvm.Cond.code (⟨"java/lang/AbstractStringBuilder", "getValue", "()[B"⟩ : MethodName) jdk_68_method_64_code 1 (some (.array .byte)) :: ws) ({ frames := 0, cells := 0, slots := 0, locals := 0 } : Room)) (fun a U => a = #[(.ref a1)] ∧ Z.Warmed39 U.vm ∧ U.heap = h0) (fun _ _ _ _ _ => True) (fun _ U o U' => ∃ v L, o = .returned v ∧ Q_rmGV Z a1 t h0 n0 v U'.heap L ∧ FrameEnd U o U' L ({ frames := 0, cells := 0, slots := 0, locals := 0 } : Room).cells ({ frames := 0, cells := 0, slots := 0, locals := 0 } : Room).slots) := by
  refine MetFree.of_bodySF (plainFor_of_name pn_17) hisR ?_
  intro p e s m args below meth c s₁ Bd hml0 hP hK
  obtain ⟨rfl, hZ, hh⟩ := hP
  have hx := Bd.exec
  have hby := Bd.bytes
  have hml : c.maxLocals = 1 := hml0
  have hown : s.vm.findClass "java/lang/AbstractStringBuilder" = some m.cls := findClass_of_methodNamed Bd.named
  have hnm := (name_of_methodNamed Bd.named Bd.method).1
  have hlk : meth.locks = false := BodyLoose.notSynchronized Bd
  have X0 : Stand p l e ({ frames := 0, cells := 0, slots := 0, locals := 0 } : Room) s m #[(.ref a1)] below meth c s₁ [] 0 0 := Stand.of_body Bd
  have e0 : s₁.heap = h0 := by rw [← hh, Bd.state]; rfl
  have N0 := Fr.nil n0
  show Go p e below s ({ frames := 0, cells := 0, slots := 0, locals := 0 } : Room).cells ({ frames := 0, cells := 0, slots := 0, locals := 0 } : Room).slots (Q_rmGV Z a1 t h0 n0) s₁ (entryFrame m #[(.ref a1)] 1)
  refine Go.eq (ef_rmGV m a1) ?_
  show Go _ _ _ _ _ _ _  s₁ (mkF m 0 #[.val (.ref a1)] [])
  refine Go.st (fun tT kT => XS.aloadN X0.here hx rfl (hb hby d17_0) rfl rfl  kT) ?_
  show Go _ _ _ _ _ _ _  s₁ (mkF m 1 #[.val (.ref a1)] [(.ref a1)])
  obtain ⟨T1, X1, e1, st1⟩ := getF X0 hx hZ hown (host := "") (Or.inl (hw _ (List.mem_of_getElem? (i := 32) rfl))) Via.refl e0 V_a1 (g := (mkF m 1 #[.val (.ref a1)] [(.ref a1)])) rfl rfl (hb hby d17_1)
  refine Go.st st1 ?_
  show Go _ _ _ _ _ _ _  T1 (mkF m 4 #[.val (.ref a1)] [(.ref t)])
  refine Go.retR X1 hlk hx Bd.returns rfl rfl rfl (hb hby d17_4) (by decide) (by decide) ?_
  show Q_rmGV Z _ _ h0 n0 _ T1.heap _
  rw [e1]
  exact ⟨rfl, N0, rfl⟩
def Q_rmAL (Z : State) (a1 : Addr) (z : Int32) (h0 : Heap) (n0 : Nat) (v : Option Value) (h : Heap) (L : List Loc) : Prop := v = some (.int z) ∧ Fr n0 L ∧ h = h0
set_option maxRecDepth 65536 in
set_option maxHeartbeats 40000000 in
theorem rmAL (l : Launch) (Z : State) (a0 : Array Value) (hw : ∀ d ∈ tables_1, d.before a0 Z = true) (ws : List Jvm.Cond) (a1 : Addr) (z : Int32) (h0 : Heap) (n0 : Nat) (O : Old Z n0 h0) (N_a1 : Fld Z h0 a1 "java/lang/AbstractStringBuilder" "count" "I" (.int z)) :
    MetFree l (⟨"java/lang/AbstractStringBuilder", "length", "()I"⟩ : MethodName) (head1 (Jvm.Cond.code (⟨"java/lang/AbstractStringBuilder", "length", "()I"⟩ : MethodName) jdk_68_method_6_code 1 (some .int) :: ws) ({ frames := 0, cells := 0, slots := 0, locals := 0 } : Room)) (fun a U => a = #[(.ref a1)] ∧ Z.Warmed39 U.vm ∧ U.heap = h0) (fun _ _ _ _ _ => True) (fun _ U o U' => ∃ v L, o = .returned v ∧ Q_rmAL Z a1 z h0 n0 v U'.heap L ∧ FrameEnd U o U' L ({ frames := 0, cells := 0, slots := 0, locals := 0 } : Room).cells ({ frames := 0, cells := 0, slots := 0, locals := 0 } : Room).slots) := by
  refine MetFree.of_bodySF (plainFor_of_name pn_19) hisR ?_
  intro p e s m args below meth c s₁ Bd hml0 hP hK
  obtain ⟨rfl, hZ, hh⟩ := hP
  have hx := Bd.exec
  have hby := Bd.bytes
  have hml : c.maxLocals = 1 := hml0
  have hown : s.vm.findClass "java/lang/AbstractStringBuilder" = some m.cls := findClass_of_methodNamed Bd.named
  have hnm := (name_of_methodNamed Bd.named Bd.method).1
  have hlk : meth.locks = false := BodyLoose.notSynchronized Bd
  have X0 : Stand p l e ({ frames := 0, cells := 0, slots := 0, locals := 0 } : Room) s m #[(.ref a1)] below meth c s₁ [] 0 0 := Stand.of_body Bd
  have e0 : s₁.heap = h0 := by rw [← hh, Bd.state]; rfl
  have N0 := Fr.nil n0
  show Go p e below s ({ frames := 0, cells := 0, slots := 0, locals := 0 } : Room).cells ({ frames := 0, cells := 0, slots := 0, locals := 0 } : Room).slots (Q_rmAL Z a1 z h0 n0) s₁ (entryFrame m #[(.ref a1)] 1)
  refine Go.eq (ef_rmAL m a1) ?_
  show Go _ _ _ _ _ _ _  s₁ (mkF m 0 #[.val (.ref a1)] [])
  refine Go.st (fun tT kT => XS.aloadN X0.here hx rfl (hb hby d19_0) rfl rfl  kT) ?_
  show Go _ _ _ _ _ _ _  s₁ (mkF m 1 #[.val (.ref a1)] [(.ref a1)])
  obtain ⟨T1, X1, e1, st1⟩ := getF X0 hx hZ hown (host := "") (Or.inl (hw _ (List.mem_of_getElem? (i := 60) rfl))) Via.refl e0 N_a1 (g := (mkF m 1 #[.val (.ref a1)] [(.ref a1)])) rfl rfl (hb hby d19_1)
  refine Go.st st1 ?_
  show Go _ _ _ _ _ _ _  T1 (mkF m 4 #[.val (.ref a1)] [(.int z)])
  refine Go.retI X1 hlk hx Bd.returns (hb hby d19_4) (by decide) (by decide) ?_
  show Q_rmAL Z _ _ h0 n0 _ T1.heap _
  rw [e1]
  exact ⟨rfl, N0, rfl⟩
def Q_rmSL (Z : State) (a1 : Addr) (z : Int32) (h0 : Heap) (n0 : Nat) (v : Option Value) (h : Heap) (L : List Loc) : Prop := v = some (.int z) ∧ Fr n0 L ∧ h = h0
set_option maxRecDepth 65536 in
set_option maxHeartbeats 40000000 in
theorem rmSL (l : Launch) (Z : State) (a0 : Array Value) (hw : ∀ d ∈ tables_1, d.before a0 Z = true) (ws : List Jvm.Cond) (a1 : Addr) (z : Int32) (h0 : Heap) (n0 : Nat) (O : Old Z n0 h0) (E_a1 : Exa Z h0 a1 "java/lang/StringBuilder") (N_a1 : Fld Z h0 a1 "java/lang/AbstractStringBuilder" "count" "I" (.int z)) :
    MetFree l (⟨"java/lang/StringBuilder", "length", "()I"⟩ : MethodName) (head1 (Jvm.Cond.code (⟨"java/lang/StringBuilder", "length", "()I"⟩ : MethodName) jdk_67_method_93_code 1 (some .int) :: ws) ({ frames := 1, cells := 0, slots := 0, locals := 12 } : Room)) (fun a U => a = #[(.ref a1)] ∧ Z.Warmed39 U.vm ∧ U.heap = h0) (fun _ _ _ _ _ => True) (fun _ U o U' => ∃ v L, o = .returned v ∧ Q_rmSL Z a1 z h0 n0 v U'.heap L ∧ FrameEnd U o U' L ({ frames := 1, cells := 0, slots := 0, locals := 12 } : Room).cells ({ frames := 1, cells := 0, slots := 0, locals := 12 } : Room).slots) := by
  refine MetFree.of_bodySF (plainFor_of_name pn_18) hisR ?_
  intro p e s m args below meth c s₁ Bd hml0 hP hK
  obtain ⟨rfl, hZ, hh⟩ := hP
  have hx := Bd.exec
  have hby := Bd.bytes
  have hml : c.maxLocals = 1 := hml0
  have hown : s.vm.findClass "java/lang/StringBuilder" = some m.cls := findClass_of_methodNamed Bd.named
  have hnm := (name_of_methodNamed Bd.named Bd.method).1
  have hlk : meth.locks = false := BodyLoose.notSynchronized Bd
  have X0 : Stand p l e ({ frames := 1, cells := 0, slots := 0, locals := 12 } : Room) s m #[(.ref a1)] below meth c s₁ [] 0 0 := Stand.of_body Bd
  have e0 : s₁.heap = h0 := by rw [← hh, Bd.state]; rfl
  have N0 := Fr.nil n0
  show Go p e below s ({ frames := 1, cells := 0, slots := 0, locals := 12 } : Room).cells ({ frames := 1, cells := 0, slots := 0, locals := 12 } : Room).slots (Q_rmSL Z a1 z h0 n0) s₁ (entryFrame m #[(.ref a1)] 1)
  refine Go.eq (ef_rmSL m a1) ?_
  show Go _ _ _ _ _ _ _  s₁ (mkF m 0 #[.val (.ref a1)] [])
  refine Go.st (fun tT kT => XS.aloadN X0.here hx rfl (hb hby d18_0) rfl rfl  kT) ?_
  show Go _ _ _ _ _ _ _  s₁ (mkF m 1 #[.val (.ref a1)] [(.ref a1)])
  refine Go.pure (w := (some (.int z))) (rest := []) (pc' := 4) (superBack X0 hx hZ (y := (⟨"java/lang/AbstractStringBuilder", "length", "()I"⟩ : MethodName)) hown (hw _ (List.mem_of_getElem? (i := 113) rfl)) (own_same (hw _ (List.mem_of_getElem? (i := 108) rfl)) (hw _ (List.mem_of_getElem? (i := 65) rfl)) rfl (by decide)) (hw _ (List.mem_of_getElem? (i := 109) rfl)) (hw _ (List.mem_of_getElem? (i := 44) rfl)) (by decide) (backOf (W := 0) (rmAL l Z a0 hw [] a1 z h0 n0 O N_a1) hZ (hw _ (List.mem_of_getElem? (i := 114) rfl)) (hw _ (List.mem_of_getElem? (i := 26) rfl)) (by decide) (by decide)) e0 (Ins.self E_a1) (g := (mkF m 1 #[.val (.ref a1)] [(.ref a1)])) rfl (by rw [hml]; rfl) (hw _ (List.mem_of_getElem? (i := 114) rfl)) (argsL := []) (rest := []) (lenOf pd___I rfl) rfl (by show 2 * 0 + _ ≤ _; exact Nat.le_of_eq rfl) (hb hby d18_1) (fun _ _ => ⟨rfl, e0, (by decide : 0 + 0 ≤ _), (by decide : 0 + 0 ≤ _)⟩)) (fun _ _ _ q => q) N0 (fun T1 L1 X1 e1q N1 => ?_)
  show Go _ _ _ _ _ _ _  T1 (mkF m 4 #[.val (.ref a1)] [(.int z)])
  refine Go.retI X1 hlk hx Bd.returns (hb hby d18_4) (by decide) (by decide) ?_
  show Q_rmSL Z _ _ h0 n0 _ T1.heap _
  rw [e1q]
  exact ⟨rfl, N1, rfl⟩
def Q_rmIL (Z : State) (a1 : Addr) (zc : Int32) (h0 : Heap) (n0 : Nat) (v : Option Value) (h : Heap) (L : List Loc) : Prop := v = some (.int 1) ∧ Fr n0 L ∧ h = h0
set_option maxRecDepth 65536 in
set_option maxHeartbeats 40000000 in
theorem rmIL (l : Launch) (Z : State) (a0 : Array Value) (hw : ∀ d ∈ tables_1, d.before a0 Z = true) (ws : List Jvm.Cond) (a1 : Addr) (zc : Int32) (h0 : Heap) (n0 : Nat) (O : Old Z n0 h0) (S_COMPACT : Sta Z Z.heap "java/lang/String" "COMPACT_STRINGS" "Z" (.int zc)) (hcs : ¬ zc = 0) (C_a1 : Fld Z h0 a1 "java/lang/AbstractStringBuilder" "coder" "B" (.int 0)) :
    MetFree l (⟨"java/lang/AbstractStringBuilder", "isLatin1", "()Z"⟩ : MethodName) (head1 (Jvm.Cond.code (⟨"java/lang/AbstractStringBuilder", "isLatin1", "()Z"⟩ : MethodName) jdk_68_method_68_code 1 (some .boolean) :: ws) ({ frames := 0, cells := 0, slots := 0, locals := 0 } : Room)) (fun a U => a = #[(.ref a1)] ∧ Z.Warmed39 U.vm ∧ U.heap = h0) (fun _ _ _ _ _ => True) (fun _ U o U' => ∃ v L, o = .returned v ∧ Q_rmIL Z a1 zc h0 n0 v U'.heap L ∧ FrameEnd U o U' L ({ frames := 0, cells := 0, slots := 0, locals := 0 } : Room).cells ({ frames := 0, cells := 0, slots := 0, locals := 0 } : Room).slots) := by
  refine MetFree.of_bodySF (plainFor_of_name pn_20) hisR ?_
  intro p e s m args below meth c s₁ Bd hml0 hP hK
  obtain ⟨rfl, hZ, hh⟩ := hP
  have hx := Bd.exec
  have hby := Bd.bytes
  have hml : c.maxLocals = 1 := hml0
  have hown : s.vm.findClass "java/lang/AbstractStringBuilder" = some m.cls := findClass_of_methodNamed Bd.named
  have hnm := (name_of_methodNamed Bd.named Bd.method).1
  have hlk : meth.locks = false := BodyLoose.notSynchronized Bd
  have X0 : Stand p l e ({ frames := 0, cells := 0, slots := 0, locals := 0 } : Room) s m #[(.ref a1)] below meth c s₁ [] 0 0 := Stand.of_body Bd
  have e0 : s₁.heap = h0 := by rw [← hh, Bd.state]; rfl
  have N0 := Fr.nil n0
  show Go p e below s ({ frames := 0, cells := 0, slots := 0, locals := 0 } : Room).cells ({ frames := 0, cells := 0, slots := 0, locals := 0 } : Room).slots (Q_rmIL Z a1 zc h0 n0) s₁ (entryFrame m #[(.ref a1)] 1)
  refine Go.eq (ef_rmIL m a1) ?_
  show Go _ _ _ _ _ _ _  s₁ (mkF m 0 #[.val (.ref a1)] [])
  obtain ⟨T1, X1, e1, st1⟩ := getS2 X0 hx hZ hown (host := "") (Or.inl (hw _ (List.mem_of_getElem? (i := 31) rfl))) Via.refl e0 (S_COMPACT.ext O.2) (g := (mkF m 0 #[.val (.ref a1)] [])) rfl (hb hby d20_0)
  refine Go.st st1 ?_
  show Go _ _ _ _ _ _ _  T1 (mkF m 3 #[.val (.ref a1)] [(.int zc)])
  refine Go.st (fun tT kT => XS.ifNo X1.here hx rfl (hb hby d20_3) rfl ((if0 _ _).trans (feq (hcs : ¬ (zc = (0 : Int32)))).1) kT) ?_
  show Go _ _ _ _ _ _ _  T1 (mkF m 6 #[.val (.ref a1)] [])
  refine Go.st (fun tT kT => XS.aloadN X1.here hx rfl (hb hby d20_6) rfl rfl  kT) ?_
  show Go _ _ _ _ _ _ _  T1 (mkF m 7 #[.val (.ref a1)] [(.ref a1)])
  obtain ⟨T2, X2, e2, st2⟩ := getF X1 hx hZ hown (host := "") (Or.inl (hw _ (List.mem_of_getElem? (i := 34) rfl))) Via.refl e1 C_a1 (g := (mkF m 7 #[.val (.ref a1)] [(.ref a1)])) rfl rfl (hb hby d20_7)
  refine Go.st st2 ?_
  show Go _ _ _ _ _ _ _  T2 (mkF m 10 #[.val (.ref a1)] [(.int (0 : Int32))])
  refine Go.st (fun tT kT => XS.ifNo X2.here hx rfl (hb hby d20_10) rfl ((if0 _ _).trans (teq (rfl : (0 : Int32) = (0 : Int32))).2) kT) ?_
  show Go _ _ _ _ _ _ _  T2 (mkF m 13 #[.val (.ref a1)] [])
  refine Go.st (fun tT kT => XS.iconst X2.here hx rfl (hb hby d20_13) kT) ?_
  show Go _ _ _ _ _ _ _  T2 (mkF m 14 #[.val (.ref a1)] [(.int (1 : Int32))])
  refine Go.st (fun tT kT => XS.goto X2.here hx rfl (pc0 := 14) (pc' := 18) rfl (hb hby d20_14) (by decide) (by decide) kT) ?_
  show Go _ _ _ _ _ _ _  T2 (mkF m 18 #[.val (.ref a1)] [(.int (1 : Int32))])
  refine Go.retN X2 hlk hx (t := .boolean) (z' := (1 : Int32)) Bd.returns (by simp) (hb hby d20_18) (by decide) (by decide) rfl ?_
  show Q_rmIL Z _ _ h0 n0 _ T2.heap _
  rw [e2]
  exact ⟨rfl, N0, rfl⟩
def Q_rmCL (Z : State) (n : Nat) (h0 : Heap) (n0 : Nat) (v : Option Value) (h : Heap) (L : List Loc) : Prop := v = none ∧ Fr n0 L ∧ h = h0
set_option maxRecDepth 65536 in
set_option maxHeartbeats 40000000 in
theorem rmCL (l : Launch) (Z : State) (a0 : Array Value) (hw : ∀ d ∈ tables_1, d.before a0 Z = true) (ws : List Jvm.Cond) (n : Nat) (h0 : Heap) (n0 : Nat) (O : Old Z n0 h0) (hn : n < 100000) :
    MetFree l (⟨"java/util/Arrays", "checkLength", "(II)V"⟩ : MethodName) (head1 (Jvm.Cond.code (⟨"java/util/Arrays", "checkLength", "(II)V"⟩ : MethodName) jdk_65_method_131_code 2 none :: ws) ({ frames := 0, cells := 0, slots := 0, locals := 0 } : Room)) (fun a U => a = #[(.int (0 : Int32)), (.int (Int32.ofNat n))] ∧ Z.Warmed39 U.vm ∧ U.heap = h0) (fun _ _ _ _ _ => True) (fun _ U o U' => ∃ v L, o = .returned v ∧ Q_rmCL Z n h0 n0 v U'.heap L ∧ FrameEnd U o U' L ({ frames := 0, cells := 0, slots := 0, locals := 0 } : Room).cells ({ frames := 0, cells := 0, slots := 0, locals := 0 } : Room).slots) := by
  refine MetFree.of_bodySF (plainFor_of_name pn_23) hisR ?_
  intro p e s m args below meth c s₁ Bd hml0 hP hK
  obtain ⟨rfl, hZ, hh⟩ := hP
  have hx := Bd.exec
  have hby := Bd.bytes
  have hml : c.maxLocals = 2 := hml0
  have hown : s.vm.findClass "java/util/Arrays" = some m.cls := findClass_of_methodNamed Bd.named
  have hnm := (name_of_methodNamed Bd.named Bd.method).1
  have hlk : meth.locks = false := BodyLoose.notSynchronized Bd
  have X0 : Stand p l e ({ frames := 0, cells := 0, slots := 0, locals := 0 } : Room) s m #[(.int (0 : Int32)), (.int (Int32.ofNat n))] below meth c s₁ [] 0 0 := Stand.of_body Bd
  have e0 : s₁.heap = h0 := by rw [← hh, Bd.state]; rfl
  have N0 := Fr.nil n0
  show Go p e below s ({ frames := 0, cells := 0, slots := 0, locals := 0 } : Room).cells ({ frames := 0, cells := 0, slots := 0, locals := 0 } : Room).slots (Q_rmCL Z n h0 n0) s₁ (entryFrame m #[(.int (0 : Int32)), (.int (Int32.ofNat n))] 2)
  refine Go.eq (ef_rmCL m (0 : Int32) (Int32.ofNat n)) ?_
  show Go _ _ _ _ _ _ _  s₁ (mkF m 0 #[.val (.int (0 : Int32)), .val (.int (Int32.ofNat n))] [])
  refine Go.st (fun tT kT => XS.iloadN X0.here hx rfl (hb hby d23_0) rfl  kT) ?_
  show Go _ _ _ _ _ _ _  s₁ (mkF m 1 #[.val (.int (0 : Int32)), .val (.int (Int32.ofNat n))] [(.int (Int32.ofNat n))])
  refine Go.st (fun tT kT => XS.iloadN X0.here hx rfl (hb hby d23_1) rfl  kT) ?_
  show Go _ _ _ _ _ _ _  s₁ (mkF m 2 #[.val (.int (0 : Int32)), .val (.int (Int32.ofNat n))] [(.int (0 : Int32)), (.int (Int32.ofNat n))])
  refine Go.st (fun tT kT => XS.icmpYes X0.here hx rfl (pc0 := 2) (pc' := 37) rfl (hb hby d23_2) rfl (flt (own_onn (by omega) : ¬ ((Int32.ofNat n) < (0 : Int32)))).2.1 (by decide) (by decide) kT) ?_
  show Go _ _ _ _ _ _ _  s₁ (mkF m 37 #[.val (.int (0 : Int32)), .val (.int (Int32.ofNat n))] [])
  refine Go.ret0 X0 hlk hx Bd.returns (hb hby d23_37) (by decide) (by decide) ?_
  show Q_rmCL Z _ h0 n0 _ s₁.heap _
  rw [e0]
  exact ⟨rfl, N0, rfl⟩
def Q_rmCRB (Z : State) (a1 : Addr) (n : Nat) (kd : ClassId) (cap : Nat) (bs : List Value) (h0 : Heap) (n0 : Nat) (v : Option Value) (h : Heap) (L : List Loc) : Prop := ∃ (b : Addr) (kb : ClassId), v = some (.ref b) ∧ Fr n0 L ∧ Ext h0 h ∧ h0.size ≤ b ∧ Arv Z h b kb .byte (Int32.ofNat n) bs (.int 0)
set_option maxRecDepth 65536 in
set_option maxHeartbeats 40000000 in
theorem rmCRB (l : Launch) (Z : State) (a0 : Array Value) (hw : ∀ d ∈ tables_1, d.before a0 Z = true) (ws : List Jvm.Cond) (a1 : Addr) (n : Nat) (kd : ClassId) (cap : Nat) (bs : List Value) (h0 : Heap) (n0 : Nat) (O : Old Z n0 h0) (A_a1 : Arv Z h0 a1 kd .byte (Int32.ofNat cap) bs (.int 0)) (hbs : bs.length = n) (hN1 : n < cap) (hN2 : cap < 100000) (hN3 : n ≤ 64) :
    MetFree l (⟨"java/util/Arrays", "copyOfRangeByte", "([BII)[B"⟩ : MethodName) (head1 (Jvm.Cond.code (⟨"java/util/Arrays", "copyOfRangeByte", "([BII)[B"⟩ : MethodName) jdk_65_method_133_code 5 (some (.array .byte)) :: ws) ({ frames := 1, cells := 1, slots := 64, locals := 18 } : Room)) (fun a U => a = #[(.ref a1), (.int (0 : Int32)), (.int (Int32.ofNat n))] ∧ Z.Warmed39 U.vm ∧ U.heap = h0) (fun _ _ _ _ _ => True) (fun _ U o U' => ∃ v L, o = .returned v ∧ Q_rmCRB Z a1 n kd cap bs h0 n0 v U'.heap L ∧ FrameEnd U o U' L ({ frames := 1, cells := 1, slots := 64, locals := 18 } : Room).cells ({ frames := 1, cells := 1, slots := 64, locals := 18 } : Room).slots) := by
  refine MetFree.of_bodySF (plainFor_of_name pn_22) hisR ?_
  intro p e s m args below meth c s₁ Bd hml0 hP hK
  obtain ⟨rfl, hZ, hh⟩ := hP
  have hx := Bd.exec
  have hby := Bd.bytes
  have hml : c.maxLocals = 5 := hml0
  have hown : s.vm.findClass "java/util/Arrays" = some m.cls := findClass_of_methodNamed Bd.named
  have hnm := (name_of_methodNamed Bd.named Bd.method).1
  have hlk : meth.locks = false := BodyLoose.notSynchronized Bd
  have X0 : Stand p l e ({ frames := 1, cells := 1, slots := 64, locals := 18 } : Room) s m #[(.ref a1), (.int (0 : Int32)), (.int (Int32.ofNat n))] below meth c s₁ [] 0 0 := Stand.of_body Bd
  have e0 : s₁.heap = h0 := by rw [← hh, Bd.state]; rfl
  have N0 := Fr.nil n0
  have KK : Keep h0 h0 [] := Keep.refl h0 _
  show Go p e below s ({ frames := 1, cells := 1, slots := 64, locals := 18 } : Room).cells ({ frames := 1, cells := 1, slots := 64, locals := 18 } : Room).slots (Q_rmCRB Z a1 n kd cap bs h0 n0) s₁ (entryFrame m #[(.ref a1), (.int (0 : Int32)), (.int (Int32.ofNat n))] 5)
  refine Go.eq (ef_rmCRB m a1 (0 : Int32) (Int32.ofNat n)) ?_
  show Go _ _ _ _ _ _ _  s₁ (mkF m 0 #[.val (.ref a1), .val (.int (0 : Int32)), .val (.int (Int32.ofNat n)), .unset, .unset] [])
  refine Go.st (fun tT kT => XS.iloadN X0.here hx rfl (hb hby d22_0) rfl  kT) ?_
  show Go _ _ _ _ _ _ _  s₁ (mkF m 1 #[.val (.ref a1), .val (.int (0 : Int32)), .val (.int (Int32.ofNat n)), .unset, .unset] [(.int (0 : Int32))])
  refine Go.st (fun tT kT => XS.iloadN X0.here hx rfl (hb hby d22_1) rfl  kT) ?_
  show Go _ _ _ _ _ _ _  s₁ (mkF m 2 #[.val (.ref a1), .val (.int (0 : Int32)), .val (.int (Int32.ofNat n)), .unset, .unset] [(.int (Int32.ofNat n)), (.int (0 : Int32))])
  refine Go.pureS (w := none) (rest := []) (pc' := 5) (Jvm.LawKit.callS X0 hx (y := (⟨"java/util/Arrays", "checkLength", "(II)V"⟩ : MethodName)) hown (mvT hZ (hw _ (List.mem_of_getElem? (i := 127) rfl))) (mvT hZ (hw _ (List.mem_of_getElem? (i := 128) rfl))) (mvT hZ (hw _ (List.mem_of_getElem? (i := 122) rfl))) (mvT hZ (hw _ (List.mem_of_getElem? (i := 129) rfl))) (by decide) (backOf (W := 0) (rmCL l Z a0 hw [] n h0 n0 O (by omega)) hZ (hw _ (List.mem_of_getElem? (i := 129) rfl)) (hw _ (List.mem_of_getElem? (i := 122) rfl)) (by decide) (by decide)) (g := (mkF m 2 #[.val (.ref a1), .val (.int (0 : Int32)), .val (.int (Int32.ofNat n)), .unset, .unset] [(.int (Int32.ofNat n)), (.int (0 : Int32))])) rfl (by rw [hml]; rfl) (argsL := [(.int (0 : Int32)), (.int (Int32.ofNat n))]) (rest := []) (lenOf pd__II_V rfl) rfl (by show 2 * 0 + _ ≤ _; exact Nat.le_of_eq rfl) (hb hby d22_2) (fun _ _ => ⟨rfl, e0, (by decide : 0 + 0 ≤ _), (by decide : 0 + 0 ≤ _)⟩)) (fun _ _ _ q => q) N0 (fun T1 L1 X1 e1q N1 => ?_)
  show Go _ _ _ _ _ _ _  T1 (mkF m 5 #[.val (.ref a1), .val (.int (0 : Int32)), .val (.int (Int32.ofNat n)), .unset, .unset] [])
  refine Go.st (fun tT kT => XS.iloadN X1.here hx rfl (hb hby d22_5) rfl  kT) ?_
  show Go _ _ _ _ _ _ _  T1 (mkF m 6 #[.val (.ref a1), .val (.int (0 : Int32)), .val (.int (Int32.ofNat n)), .unset, .unset] [(.int (Int32.ofNat n))])
  refine Go.st (fun tT kT => XS.iloadN X1.here hx rfl (hb hby d22_6) rfl  kT) ?_
  show Go _ _ _ _ _ _ _  T1 (mkF m 7 #[.val (.ref a1), .val (.int (0 : Int32)), .val (.int (Int32.ofNat n)), .unset, .unset] [(.int (0 : Int32)), (.int (Int32.ofNat n))])
  refine Go.st (fun tT kT => XS.isub X1.here hx rfl (hb hby d22_7) rfl kT) ?_
  show Go _ _ _ _ _ _ _  T1 (mkF m 8 #[.val (.ref a1), .val (.int (0 : Int32)), .val (.int (Int32.ofNat n)), .unset, .unset] [(.int ((Int32.ofNat n) - (0 : Int32)))])
  rw [Int32.sub_zero]
  show Go _ _ _ _ _ _ _  T1 (mkF m 8 #[.val (.ref a1), .val (.int (0 : Int32)), .val (.int (Int32.ofNat n)), .unset, .unset] [(.int (Int32.ofNat n))])
  refine Go.st (fun tT kT => XS.istoreN X1.here hx rfl (hb hby d22_8) rfl (l' := #[.val (.ref a1), .val (.int (0 : Int32)), .val (.int (Int32.ofNat n)), .val (.int (Int32.ofNat n)), .unset]) rfl kT) ?_
  show Go _ _ _ _ _ _ _  T1 (mkF m 9 #[.val (.ref a1), .val (.int (0 : Int32)), .val (.int (Int32.ofNat n)), .val (.int (Int32.ofNat n)), .unset] [])
  refine Go.st (fun tT kT => XS.iloadN X1.here hx rfl (hb hby d22_9) rfl  kT) ?_
  show Go _ _ _ _ _ _ _  T1 (mkF m 10 #[.val (.ref a1), .val (.int (0 : Int32)), .val (.int (Int32.ofNat n)), .val (.int (Int32.ofNat n)), .unset] [(.int (Int32.ofNat n))])
  obtain ⟨T2, h2, k2, X2, e2, E2, A2, st2⟩ := newP X1 hx hZ (hw _ (List.mem_of_getElem? (i := 7) rfl)) e1q (g := (mkF m 10 #[.val (.ref a1), .val (.int (0 : Int32)), .val (.int (Int32.ofNat n)), .val (.int (Int32.ofNat n)), .unset] [(.int (Int32.ofNat n))])) rfl (hb hby d22_10) rfl (own_onn (by omega)) (cap := 64) (by rw [own_ocl (by omega)]; omega) (by decide) (by decide) (by decide)
  obtain ⟨b2, g2⟩ : ∃ z, z = h0.size := ⟨_, rfl⟩
  rw [← g2] at A2 st2
  refine Go.st st2 ?_
  have g_b2 : n0 ≤ b2 := by rw [g2]; exact own_le O
  have sz_b2 : h0.size ≤ b2 := by rw [g2]; exact KK.1
  have ne_a1_b2 : a1 ≠ b2 := Nat.ne_of_lt (by rw [g2]; exact A_a1.lt)
  have A_a1 := A_a1.ext E2
  have O := O.ext E2
  have KK := KK.ext E2
  have V_b2 := Arv.new A2 (own_onn (by omega))
  show Go _ _ _ _ _ _ _  T2 (mkF m 12 #[.val (.ref a1), .val (.int (0 : Int32)), .val (.int (Int32.ofNat n)), .val (.int (Int32.ofNat n)), .unset] [(.ref b2)])
  refine Go.st (fun tT kT => XS.astore X2.here hx rfl (hb hby d22_12) rfl rfl (l' := #[.val (.ref a1), .val (.int (0 : Int32)), .val (.int (Int32.ofNat n)), .val (.int (Int32.ofNat n)), .val (.ref b2)]) rfl kT) ?_
  show Go _ _ _ _ _ _ _  T2 (mkF m 14 #[.val (.ref a1), .val (.int (0 : Int32)), .val (.int (Int32.ofNat n)), .val (.int (Int32.ofNat n)), .val (.ref b2)] [])
  refine Go.st (fun tT kT => XS.aloadN X2.here hx rfl (hb hby d22_14) rfl rfl  kT) ?_
  show Go _ _ _ _ _ _ _  T2 (mkF m 15 #[.val (.ref a1), .val (.int (0 : Int32)), .val (.int (Int32.ofNat n)), .val (.int (Int32.ofNat n)), .val (.ref b2)] [(.ref a1)])
  refine Go.st (fun tT kT => XS.iloadN X2.here hx rfl (hb hby d22_15) rfl  kT) ?_
  show Go _ _ _ _ _ _ _  T2 (mkF m 16 #[.val (.ref a1), .val (.int (0 : Int32)), .val (.int (Int32.ofNat n)), .val (.int (Int32.ofNat n)), .val (.ref b2)] [(.int (0 : Int32)), (.ref a1)])
  refine Go.st (fun tT kT => XS.aload X2.here hx rfl (hb hby d22_16) rfl rfl  kT) ?_
  show Go _ _ _ _ _ _ _  T2 (mkF m 18 #[.val (.ref a1), .val (.int (0 : Int32)), .val (.int (Int32.ofNat n)), .val (.int (Int32.ofNat n)), .val (.ref b2)] [(.ref b2), (.int (0 : Int32)), (.ref a1)])
  refine Go.st (fun tT kT => XS.iconst X2.here hx rfl (hb hby d22_18) kT) ?_
  show Go _ _ _ _ _ _ _  T2 (mkF m 19 #[.val (.ref a1), .val (.int (0 : Int32)), .val (.int (Int32.ofNat n)), .val (.int (Int32.ofNat n)), .val (.ref b2)] [(.int (0 : Int32)), (.ref b2), (.int (0 : Int32)), (.ref a1)])
  refine Go.st (fun tT kT => XS.aloadN X2.here hx rfl (hb hby d22_19) rfl rfl  kT) ?_
  show Go _ _ _ _ _ _ _  T2 (mkF m 20 #[.val (.ref a1), .val (.int (0 : Int32)), .val (.int (Int32.ofNat n)), .val (.int (Int32.ofNat n)), .val (.ref b2)] [(.ref a1), (.int (0 : Int32)), (.ref b2), (.int (0 : Int32)), (.ref a1)])
  obtain ⟨cl3, Ar3, q3, S3, M3, Hh3, G3⟩ := id A_a1
  refine Go.st (X2.arraylength hx (by rw [e2]; exact Ar3.1) (State.isArrayOf_alike hZ.alike Ar3.2.1) (g := (mkF m 20 #[.val (.ref a1), .val (.int (0 : Int32)), .val (.int (Int32.ofNat n)), .val (.int (Int32.ofNat n)), .val (.ref b2)] [(.ref a1), (.int (0 : Int32)), (.ref b2), (.int (0 : Int32)), (.ref a1)])) rfl rfl (hb hby d22_20)) ?_
  rw [len_of S3 M3]
  show Go _ _ _ _ _ _ _  T2 (mkF m 21 #[.val (.ref a1), .val (.int (0 : Int32)), .val (.int (Int32.ofNat n)), .val (.int (Int32.ofNat n)), .val (.ref b2)] [(.int (Int32.ofNat cap)), (.int (0 : Int32)), (.ref b2), (.int (0 : Int32)), (.ref a1)])
  refine Go.st (fun tT kT => XS.iloadN X2.here hx rfl (hb hby d22_21) rfl  kT) ?_
  show Go _ _ _ _ _ _ _  T2 (mkF m 22 #[.val (.ref a1), .val (.int (0 : Int32)), .val (.int (Int32.ofNat n)), .val (.int (Int32.ofNat n)), .val (.ref b2)] [(.int (0 : Int32)), (.int (Int32.ofNat cap)), (.int (0 : Int32)), (.ref b2), (.int (0 : Int32)), (.ref a1)])
  refine Go.st (fun tT kT => XS.isub X2.here hx rfl (hb hby d22_22) rfl kT) ?_
  show Go _ _ _ _ _ _ _  T2 (mkF m 23 #[.val (.ref a1), .val (.int (0 : Int32)), .val (.int (Int32.ofNat n)), .val (.int (Int32.ofNat n)), .val (.ref b2)] [(.int ((Int32.ofNat cap) - (0 : Int32))), (.int (0 : Int32)), (.ref b2), (.int (0 : Int32)), (.ref a1)])
  rw [Int32.sub_zero]
  show Go _ _ _ _ _ _ _  T2 (mkF m 23 #[.val (.ref a1), .val (.int (0 : Int32)), .val (.int (Int32.ofNat n)), .val (.int (Int32.ofNat n)), .val (.ref b2)] [(.int (Int32.ofNat cap)), (.int (0 : Int32)), (.ref b2), (.int (0 : Int32)), (.ref a1)])
  refine Go.st (fun tT kT => XS.iloadN X2.here hx rfl (hb hby d22_23) rfl  kT) ?_
  show Go _ _ _ _ _ _ _  T2 (mkF m 24 #[.val (.ref a1), .val (.int (0 : Int32)), .val (.int (Int32.ofNat n)), .val (.int (Int32.ofNat n)), .val (.ref b2)] [(.int (Int32.ofNat n)), (.int (Int32.ofNat cap)), (.int (0 : Int32)), (.ref b2), (.int (0 : Int32)), (.ref a1)])
  refine Go.pureS (w := (some (.int (Int32.ofNat (min cap n))))) (rest := [(.int (0 : Int32)), (.ref b2), (.int (0 : Int32)), (.ref a1)]) (pc' := 27) (Jvm.LawKit.callS X2 hx (y := (⟨"java/lang/Math", "min", "(II)I"⟩ : MethodName)) hown (mvT hZ (hw _ (List.mem_of_getElem? (i := 130) rfl))) (mvT hZ (hw _ (List.mem_of_getElem? (i := 131) rfl))) (mvT hZ (hw _ (List.mem_of_getElem? (i := 132) rfl))) (mvT hZ (hw _ (List.mem_of_getElem? (i := 133) rfl))) (by decide) (backOf (W := 4) (rmMin l Z a0 hw [] cap n h2 n0 O (by omega) (by omega)) hZ (hw _ (List.mem_of_getElem? (i := 133) rfl)) (hw _ (List.mem_of_getElem? (i := 132) rfl)) (by decide) (by decide)) (g := (mkF m 24 #[.val (.ref a1), .val (.int (0 : Int32)), .val (.int (Int32.ofNat n)), .val (.int (Int32.ofNat n)), .val (.ref b2)] [(.int (Int32.ofNat n)), (.int (Int32.ofNat cap)), (.int (0 : Int32)), (.ref b2), (.int (0 : Int32)), (.ref a1)])) rfl (by rw [hml]; rfl) (argsL := [(.int (Int32.ofNat cap)), (.int (Int32.ofNat n))]) (rest := [(.int (0 : Int32)), (.ref b2), (.int (0 : Int32)), (.ref a1)]) (lenOf pd__II_I rfl) rfl (by show 2 * 0 + _ ≤ _; exact Nat.le_of_eq rfl) (hb hby d22_24) (fun _ _ => ⟨rfl, e2, (by decide : 1 + 0 ≤ _), (by decide : 64 + 0 ≤ _)⟩)) (fun _ _ _ q => q) N1 (fun T4 L4 X4 e4q N4 => ?_)
  rw [Nat.min_eq_right (Nat.le_of_lt hN1)]
  show Go _ _ _ _ _ _ _  T4 (mkF m 27 #[.val (.ref a1), .val (.int (0 : Int32)), .val (.int (Int32.ofNat n)), .val (.int (Int32.ofNat n)), .val (.ref b2)] [(.int (Int32.ofNat n)), (.int (0 : Int32)), (.ref b2), (.int (0 : Int32)), (.ref a1)])
  obtain ⟨T5, h5, L5, X5, e5, N5, K5, V5, st5⟩ := cpA X4 hx hZ hown (hw _ (List.mem_of_getElem? (i := 134) rfl)) (hw _ (List.mem_of_getElem? (i := 86) rfl)) (hw _ (List.mem_of_getElem? (i := 84) rfl)) (hw _ (List.mem_of_getElem? (i := 85) rfl)) e4q A_a1 (V_b2.pad (pad_rep [] (.int 0) n)) (Or.inl ⟨rfl, rfl⟩) (by decide) (by decide) (own_onn (by omega)) (by rw [own_ocl (by omega), own_ocl (by omega)]; show 0 + n ≤ cap; omega) (by rw [own_ocl (by omega)]; exact Nat.le_of_eq (Nat.zero_add _)) (us := (List.range n).map fun i => bs.getD (0 + i) (.int 0)) (by rw [own_ocl (by omega)]; rfl) (by rw [own_ocl (by omega)]; simp) N4 g_b2 (g := (mkF m 27 #[.val (.ref a1), .val (.int (0 : Int32)), .val (.int (Int32.ofNat n)), .val (.int (Int32.ofNat n)), .val (.ref b2)] [(.int (Int32.ofNat n)), (.int (0 : Int32)), (.ref b2), (.int (0 : Int32)), (.ref a1)])) rfl (by rw [hml]; rfl) rfl (hb hby d22_27) (by decide) (W := 0) (by show 2 * 0 + _ ≤ _; exact Nat.le_of_eq rfl) (by decide)
  refine Go.st st5 ?_
  have V5 := V5.pad (by rw [own_ocl (by omega)]; exact own_cp (bs := []) (d := 0) rfl (Nat.le_of_eq hbs))
  have A_a1 := A_a1.keep K5 (ninS ne_a1_b2 nin0)
  have O := O.keep K5 (allS g_b2 all0)
  have KK := KK.trans K5 (allS (Or.inr sz_b2) all0)
  have V_b2 := V5
  show Go _ _ _ _ _ _ _  T5 (mkF m 30 #[.val (.ref a1), .val (.int (0 : Int32)), .val (.int (Int32.ofNat n)), .val (.int (Int32.ofNat n)), .val (.ref b2)] [])
  refine Go.st (fun tT kT => XS.aload X5.here hx rfl (hb hby d22_30) rfl rfl  kT) ?_
  show Go _ _ _ _ _ _ _  T5 (mkF m 32 #[.val (.ref a1), .val (.int (0 : Int32)), .val (.int (Int32.ofNat n)), .val (.int (Int32.ofNat n)), .val (.ref b2)] [(.ref b2)])
  refine Go.retR X5 hlk hx Bd.returns rfl rfl rfl (hb hby d22_32) (by decide) (by decide) ?_
  show Q_rmCRB Z _ _ _ _ _ h0 n0 _ T5.heap _
  rw [e5]
  exact ⟨_, _, rfl, N5, own_ext0 KK, sz_b2, V_b2⟩
def Q_rmCR (Z : State) (a1 : Addr) (n : Nat) (kd : ClassId) (cap : Nat) (bs : List Value) (h0 : Heap) (n0 : Nat) (v : Option Value) (h : Heap) (L : List Loc) : Prop := ∃ (b : Addr) (kb : ClassId), v = some (.ref b) ∧ Fr n0 L ∧ Ext h0 h ∧ h0.size ≤ b ∧ Arv Z h b kb .byte (Int32.ofNat n) bs (.int 0)
set_option maxRecDepth 65536 in
set_option maxHeartbeats 40000000 in
theorem rmCR (l : Launch) (Z : State) (a0 : Array Value) (hw : ∀ d ∈ tables_1, d.before a0 Z = true) (ws : List Jvm.Cond) (a1 : Addr) (n : Nat) (kd : ClassId) (cap : Nat) (bs : List Value) (h0 : Heap) (n0 : Nat) (O : Old Z n0 h0) (A_a1 : Arv Z h0 a1 kd .byte (Int32.ofNat cap) bs (.int 0)) (hbs : bs.length = n) (hN1 : n < cap) (hN2 : cap < 100000) (hN3 : n ≤ 64) :
    MetFree l (⟨"java/util/Arrays", "copyOfRange", "([BII)[B"⟩ : MethodName) (head1 (Jvm.Cond.code (⟨"java/util/Arrays", "copyOfRange", "([BII)[B"⟩ : MethodName) jdk_65_method_132_code 3 (some (.array .byte)) :: ws) ({ frames := 2, cells := 1, slots := 64, locals := 34 } : Room)) (fun a U => a = #[(.ref a1), (.int (0 : Int32)), (.int (Int32.ofNat n))] ∧ Z.Warmed39 U.vm ∧ U.heap = h0) (fun _ _ _ _ _ => True) (fun _ U o U' => ∃ v L, o = .returned v ∧ Q_rmCR Z a1 n kd cap bs h0 n0 v U'.heap L ∧ FrameEnd U o U' L ({ frames := 2, cells := 1, slots := 64, locals := 34 } : Room).cells ({ frames := 2, cells := 1, slots := 64, locals := 34 } : Room).slots) := by
  refine MetFree.of_bodySF (plainFor_of_name pn_21) hisR ?_
  intro p e s m args below meth c s₁ Bd hml0 hP hK
  obtain ⟨rfl, hZ, hh⟩ := hP
  have hx := Bd.exec
  have hby := Bd.bytes
  have hml : c.maxLocals = 3 := hml0
  have hown : s.vm.findClass "java/util/Arrays" = some m.cls := findClass_of_methodNamed Bd.named
  have hnm := (name_of_methodNamed Bd.named Bd.method).1
  have hlk : meth.locks = false := BodyLoose.notSynchronized Bd
  have X0 : Stand p l e ({ frames := 2, cells := 1, slots := 64, locals := 34 } : Room) s m #[(.ref a1), (.int (0 : Int32)), (.int (Int32.ofNat n))] below meth c s₁ [] 0 0 := Stand.of_body Bd
  have e0 : s₁.heap = h0 := by rw [← hh, Bd.state]; rfl
  have N0 := Fr.nil n0
  have KK : Keep h0 h0 [] := Keep.refl h0 _
  show Go p e below s ({ frames := 2, cells := 1, slots := 64, locals := 34 } : Room).cells ({ frames := 2, cells := 1, slots := 64, locals := 34 } : Room).slots (Q_rmCR Z a1 n kd cap bs h0 n0) s₁ (entryFrame m #[(.ref a1), (.int (0 : Int32)), (.int (Int32.ofNat n))] 3)
  refine Go.eq (ef_rmCR m a1 (0 : Int32) (Int32.ofNat n)) ?_
  show Go _ _ _ _ _ _ _  s₁ (mkF m 0 #[.val (.ref a1), .val (.int (0 : Int32)), .val (.int (Int32.ofNat n))] [])
  refine Go.st (fun tT kT => XS.iloadN X0.here hx rfl (hb hby d21_0) rfl  kT) ?_
  show Go _ _ _ _ _ _ _  s₁ (mkF m 1 #[.val (.ref a1), .val (.int (0 : Int32)), .val (.int (Int32.ofNat n))] [(.int (0 : Int32))])
  refine Go.st (fun tT kT => XS.ifNo X0.here hx rfl (hb hby d21_1) rfl ((if0 _ _).trans (teq (rfl : (0 : Int32) = (0 : Int32))).2) kT) ?_
  show Go _ _ _ _ _ _ _  s₁ (mkF m 4 #[.val (.ref a1), .val (.int (0 : Int32)), .val (.int (Int32.ofNat n))] [])
  refine Go.st (fun tT kT => XS.iloadN X0.here hx rfl (hb hby d21_4) rfl  kT) ?_
  show Go _ _ _ _ _ _ _  s₁ (mkF m 5 #[.val (.ref a1), .val (.int (0 : Int32)), .val (.int (Int32.ofNat n))] [(.int (Int32.ofNat n))])
  refine Go.st (fun tT kT => XS.aloadN X0.here hx rfl (hb hby d21_5) rfl rfl  kT) ?_
  show Go _ _ _ _ _ _ _  s₁ (mkF m 6 #[.val (.ref a1), .val (.int (0 : Int32)), .val (.int (Int32.ofNat n))] [(.ref a1), (.int (Int32.ofNat n))])
  obtain ⟨cl1, Ar1, q1, S1, M1, Hh1, G1⟩ := id A_a1
  refine Go.st (X0.arraylength hx (by rw [e0]; exact Ar1.1) (State.isArrayOf_alike hZ.alike Ar1.2.1) (g := (mkF m 6 #[.val (.ref a1), .val (.int (0 : Int32)), .val (.int (Int32.ofNat n))] [(.ref a1), (.int (Int32.ofNat n))])) rfl rfl (hb hby d21_6)) ?_
  rw [len_of S1 M1]
  show Go _ _ _ _ _ _ _  s₁ (mkF m 7 #[.val (.ref a1), .val (.int (0 : Int32)), .val (.int (Int32.ofNat n))] [(.int (Int32.ofNat cap)), (.int (Int32.ofNat n))])
  refine Go.st (fun tT kT => XS.icmpNo X0.here hx rfl (hb hby d21_7) rfl (feq (fun q => absurd ((own_oeq (by omega) (by omega)).mp q) (by omega) : ¬ ((Int32.ofNat n) = (Int32.ofNat cap)))).1 kT) ?_
  show Go _ _ _ _ _ _ _  s₁ (mkF m 10 #[.val (.ref a1), .val (.int (0 : Int32)), .val (.int (Int32.ofNat n))] [])
  refine Go.st (fun tT kT => XS.aloadN X0.here hx rfl (hb hby d21_10) rfl rfl  kT) ?_
  show Go _ _ _ _ _ _ _  s₁ (mkF m 11 #[.val (.ref a1), .val (.int (0 : Int32)), .val (.int (Int32.ofNat n))] [(.ref a1)])
  refine Go.st (fun tT kT => XS.iloadN X0.here hx rfl (hb hby d21_11) rfl  kT) ?_
  show Go _ _ _ _ _ _ _  s₁ (mkF m 12 #[.val (.ref a1), .val (.int (0 : Int32)), .val (.int (Int32.ofNat n))] [(.int (0 : Int32)), (.ref a1)])
  refine Go.st (fun tT kT => XS.iloadN X0.here hx rfl (hb hby d21_12) rfl  kT) ?_
  show Go _ _ _ _ _ _ _  s₁ (mkF m 13 #[.val (.ref a1), .val (.int (0 : Int32)), .val (.int (Int32.ofNat n))] [(.int (Int32.ofNat n)), (.int (0 : Int32)), (.ref a1)])
  obtain ⟨_, _, ⟨T2, L2, k2, n2⟩, -, X2, ⟨Lc2, hQ2, l2, y2, z2⟩, st2⟩ := Jvm.LawKit.callS X0 hx (y := (⟨"java/util/Arrays", "copyOfRangeByte", "([BII)[B"⟩ : MethodName)) hown (mvT hZ (hw _ (List.mem_of_getElem? (i := 124) rfl))) (mvT hZ (hw _ (List.mem_of_getElem? (i := 125) rfl))) (mvT hZ (hw _ (List.mem_of_getElem? (i := 122) rfl))) (mvT hZ (hw _ (List.mem_of_getElem? (i := 126) rfl))) (by decide) (backOf (W := 0) (rmCRB l Z a0 hw [] a1 n kd cap bs h0 n0 O A_a1 hbs hN1 hN2 hN3) hZ (hw _ (List.mem_of_getElem? (i := 126) rfl)) (hw _ (List.mem_of_getElem? (i := 122) rfl)) (by decide) (by decide)) (g := (mkF m 13 #[.val (.ref a1), .val (.int (0 : Int32)), .val (.int (Int32.ofNat n))] [(.int (Int32.ofNat n)), (.int (0 : Int32)), (.ref a1)])) rfl (by rw [hml]; rfl) (argsL := [(.ref a1), (.int (0 : Int32)), (.int (Int32.ofNat n))]) (rest := []) (lenOf pd___BII__B rfl) rfl (by show 2 * 0 + _ ≤ _; exact Nat.le_of_eq rfl) (hb hby d21_13) (fun _ _ => ⟨rfl, e0, (by decide : 0 + 1 ≤ _), (by decide : 0 + 64 ≤ _)⟩)
  dsimp only [Pt.U, Pt.locs, Pt.cells, Pt.slots] at X2 l2 y2 z2 st2 hQ2
  subst l2 y2 z2
  have X2 : Stand p l e _ _ m _ below meth c T2 _ 1 64 := X2
  obtain ⟨t2, kt2, rfl, N2q, E2q, lt2, Vq2⟩ := hQ2
  have N2 := Fr.app N0 N2q
  refine Go.st st2 ?_
  have g_t2 : n0 ≤ t2 := Nat.le_trans (own_le O) lt2
  have sz_t2 : h0.size ≤ t2 := Nat.le_trans KK.1 lt2
  have ne_a1_t2 : a1 ≠ t2 := Nat.ne_of_lt (Nat.lt_of_lt_of_le A_a1.lt lt2)
  have E2 := E2q
  have A_a1 := A_a1.ext E2
  have O := O.ext E2
  have KK := KK.ext E2
  show Go _ _ _ _ _ _ _  T2 (mkF m 16 #[.val (.ref a1), .val (.int (0 : Int32)), .val (.int (Int32.ofNat n))] [(.ref t2)])
  refine Go.retR X2 hlk hx Bd.returns rfl rfl rfl (hb hby d21_16) (by decide) (by decide) ?_
  show Q_rmCR Z _ _ _ _ _ h0 n0 _ T2.heap _
  exact ⟨_, _, rfl, N2, own_ext0 KK, sz_t2, Vq2⟩
def Q_rmT2 (Z : State) (a1 : Addr) (a2 : Addr) (u1 : Value) (u2 : Value) (zc : Int32) (t : Addr) (kd : ClassId) (n : Nat) (cap : Nat) (bs : List Value) (h0 : Heap) (n0 : Nat) (v : Option Value) (h : Heap) (L : List Loc) : Prop := v = none ∧ Fr n0 L ∧ Keep h0 h [a1] ∧ Exa Z h a1 "java/lang/String" ∧ Fld Z h a1 "java/lang/String" "coder" "B" (.int 0) ∧ ∃ (b : Addr) (kb : ClassId), h0.size ≤ b ∧ Fld Z h a1 "java/lang/String" "value" "[B" (.ref b) ∧ Arv Z h b kb .byte (Int32.ofNat n) bs (.int 0)
set_option maxRecDepth 65536 in
set_option maxHeartbeats 40000000 in
theorem rmT2 (l : Launch) (Z : State) (a0 : Array Value) (hw : ∀ d ∈ tables_1, d.before a0 Z = true) (ws : List Jvm.Cond) (a1 : Addr) (a2 : Addr) (u1 : Value) (u2 : Value) (zc : Int32) (t : Addr) (kd : ClassId) (n : Nat) (cap : Nat) (bs : List Value) (h0 : Heap) (n0 : Nat) (O : Old Z n0 h0) (E_a1 : Exa Z h0 a1 "java/lang/String") (F_value_a1 : Fld Z h0 a1 "java/lang/String" "value" "[B" u1) (F_coder_a1 : Fld Z h0 a1 "java/lang/String" "coder" "B" u2) (g_a1 : n0 ≤ a1) (hlt : n < cap) (hcr : n ≤ 64) (S_COMPACT : Sta Z Z.heap "java/lang/String" "COMPACT_STRINGS" "Z" (.int zc)) (hcs : ¬ zc = 0) (E_a2 : Exa Z h0 a2 "java/lang/StringBuilder") (C_a2 : Fld Z h0 a2 "java/lang/AbstractStringBuilder" "coder" "B" (.int 0)) (V_a2 : Fld Z h0 a2 "java/lang/AbstractStringBuilder" "value" "[B" (.ref t)) (N_a2 : Fld Z h0 a2 "java/lang/AbstractStringBuilder" "count" "I" (.int (Int32.ofNat n))) (A_t : Arv Z h0 t kd .byte (Int32.ofNat cap) bs (.int 0)) (L_a2 : bs.length = n) (K_a2 : n ≤ cap) (B_a2 : cap < 100000) :
    MetFree l (⟨"java/lang/String", "<init>", "(Ljava/lang/AbstractStringBuilder;Ljava/lang/Void;)V"⟩ : MethodName) (head1 (Jvm.Cond.code (⟨"java/lang/String", "<init>", "(Ljava/lang/AbstractStringBuilder;Ljava/lang/Void;)V"⟩ : MethodName) jdk_42_method_150_code 5 none :: ws) ({ frames := 3, cells := 1, slots := 64, locals := 49 } : Room)) (fun a U => a = #[(.ref a1), (.ref a2), .null] ∧ Z.Warmed39 U.vm ∧ U.heap = h0) (fun _ _ _ _ _ => True) (fun _ U o U' => ∃ v L, o = .returned v ∧ Q_rmT2 Z a1 a2 u1 u2 zc t kd n cap bs h0 n0 v U'.heap L ∧ FrameEnd U o U' L ({ frames := 3, cells := 1, slots := 64, locals := 49 } : Room).cells ({ frames := 3, cells := 1, slots := 64, locals := 49 } : Room).slots) := by
  refine MetFree.of_bodySF (plainFor_of_name pn_16) hisR ?_
  intro p e s m args below meth c s₁ Bd hml0 hP hK
  obtain ⟨rfl, hZ, hh⟩ := hP
  have hx := Bd.exec
  have hby := Bd.bytes
  have hml : c.maxLocals = 5 := hml0
  have hown : s.vm.findClass "java/lang/String" = some m.cls := findClass_of_methodNamed Bd.named
  have hnm := (name_of_methodNamed Bd.named Bd.method).1
  have hlk : meth.locks = false := BodyLoose.notSynchronized Bd
  have X0 : Stand p l e ({ frames := 3, cells := 1, slots := 64, locals := 49 } : Room) s m #[(.ref a1), (.ref a2), .null] below meth c s₁ [] 0 0 := Stand.of_body Bd
  have e0 : s₁.heap = h0 := by rw [← hh, Bd.state]; rfl
  have N0 := Fr.nil n0
  have KK : Keep h0 h0 [a1] := Keep.refl h0 _
  show Go p e below s ({ frames := 3, cells := 1, slots := 64, locals := 49 } : Room).cells ({ frames := 3, cells := 1, slots := 64, locals := 49 } : Room).slots (Q_rmT2 Z a1 a2 u1 u2 zc t kd n cap bs h0 n0) s₁ (entryFrame m #[(.ref a1), (.ref a2), .null] 5)
  refine Go.eq (ef_rmT2 m a1 a2) ?_
  show Go _ _ _ _ _ _ _  s₁ (mkF m 0 #[.val (.ref a1), .val (.ref a2), .val .null, .unset, .unset] [])
  refine Go.st (fun tT kT => XS.aloadN X0.here hx rfl (hb hby d16_0) rfl rfl  kT) ?_
  show Go _ _ _ _ _ _ _  s₁ (mkF m 1 #[.val (.ref a1), .val (.ref a2), .val .null, .unset, .unset] [(.ref a1)])
  obtain ⟨T1, X1, e1, st1⟩ := initO X0 hx hZ hown (hw _ (List.mem_of_getElem? (i := 101) rfl)) (hw _ (List.mem_of_getElem? (i := 29) rfl)) (hw _ (List.mem_of_getElem? (i := 30) rfl)) e0 (g := (mkF m 1 #[.val (.ref a1), .val (.ref a2), .val .null, .unset, .unset] [(.ref a1)])) rfl (by rw [hml]; rfl) rfl (hb hby d16_1) (by decide) (W := 0) (by show 2 * 0 + _ ≤ _; exact Nat.le_of_eq rfl) (by decide)
  refine Go.st st1 ?_
  show Go _ _ _ _ _ _ _  T1 (mkF m 4 #[.val (.ref a1), .val (.ref a2), .val .null, .unset, .unset] [])
  refine Go.st (fun tT kT => XS.aloadN X1.here hx rfl (hb hby d16_4) rfl rfl  kT) ?_
  show Go _ _ _ _ _ _ _  T1 (mkF m 5 #[.val (.ref a1), .val (.ref a2), .val .null, .unset, .unset] [(.ref a2)])
  obtain ⟨cq2, kq2, q2a, q2b, q2c⟩ := isOf hZ e1 E_a2
  refine Go.pure (w := (some (.ref t))) (rest := []) (pc' := 8) (X1.virtualBack hx (y := (⟨"java/lang/AbstractStringBuilder", "getValue", "()[B"⟩ : MethodName)) (z := (⟨"java/lang/AbstractStringBuilder", "getValue", "()[B"⟩ : MethodName)) hown (mvT hZ (hw _ (List.mem_of_getElem? (i := 102) rfl))) (mvT hZ (hw _ (List.mem_of_getElem? (i := 103) rfl))) (notFace_of_selects (args := #[]) (mvT hZ (hw _ (List.mem_of_getElem? (i := 105) rfl)))) (mvT hZ (hw _ (List.mem_of_getElem? (i := 105) rfl))) (mvT hZ (hw _ (List.mem_of_getElem? (i := 104) rfl))) (by decide) (backOf (W := 0) (rmGV l Z a0 hw [] a2 t h0 n0 O V_a2) hZ (hw _ (List.mem_of_getElem? (i := 106) rfl)) (hw _ (List.mem_of_getElem? (i := 26) rfl)) (by decide) (by decide)) q2a q2c (g := (mkF m 5 #[.val (.ref a1), .val (.ref a2), .val .null, .unset, .unset] [(.ref a2)])) rfl (by rw [hml]; rfl) (Steps.refl _) (argsL := []) (rest := []) (lenOf pd____B rfl) rfl (by show 2 * 0 + _ ≤ _; exact Nat.le_of_eq rfl) (hb hby d16_5) (fun _ _ => ⟨rfl, e1, (by decide : 0 + 0 ≤ _), (by decide : 0 + 0 ≤ _)⟩)) (fun _ _ _ q => q) N0 (fun T2 L2 X2 e2q N2 => ?_)
  show Go _ _ _ _ _ _ _  T2 (mkF m 8 #[.val (.ref a1), .val (.ref a2), .val .null, .unset, .unset] [(.ref t)])
  refine Go.st (fun tT kT => XS.astoreN X2.here hx rfl (hb hby d16_8) rfl rfl (l' := #[.val (.ref a1), .val (.ref a2), .val .null, .val (.ref t), .unset]) rfl kT) ?_
  show Go _ _ _ _ _ _ _  T2 (mkF m 9 #[.val (.ref a1), .val (.ref a2), .val .null, .val (.ref t), .unset] [])
  refine Go.st (fun tT kT => XS.aloadN X2.here hx rfl (hb hby d16_9) rfl rfl  kT) ?_
  show Go _ _ _ _ _ _ _  T2 (mkF m 10 #[.val (.ref a1), .val (.ref a2), .val .null, .val (.ref t), .unset] [(.ref a2)])
  obtain ⟨cq3, kq3, q3a, q3b, q3c⟩ := isOf hZ e2q E_a2
  refine Go.pure (w := (some (.int (Int32.ofNat n)))) (rest := []) (pc' := 13) (X2.virtualBack hx (y := (⟨"java/lang/AbstractStringBuilder", "length", "()I"⟩ : MethodName)) (z := (⟨"java/lang/StringBuilder", "length", "()I"⟩ : MethodName)) hown (mvT hZ (hw _ (List.mem_of_getElem? (i := 107) rfl))) (mvT hZ (hw _ (List.mem_of_getElem? (i := 108) rfl))) (own_nf (args := #[]) (mvT hZ (hw _ (List.mem_of_getElem? (i := 105) rfl))) rfl) (mvT hZ (hw _ (List.mem_of_getElem? (i := 110) rfl))) (mvT hZ (hw _ (List.mem_of_getElem? (i := 111) rfl))) (by decide) (backOf (W := 0) (rmSL l Z a0 hw [] a2 (Int32.ofNat n) h0 n0 O E_a2 N_a2) hZ (hw _ (List.mem_of_getElem? (i := 112) rfl)) (hw _ (List.mem_of_getElem? (i := 18) rfl)) (by decide) (by decide)) q3a q3c (g := (mkF m 10 #[.val (.ref a1), .val (.ref a2), .val .null, .val (.ref t), .unset] [(.ref a2)])) rfl (by rw [hml]; rfl) (Steps.refl _) (argsL := []) (rest := []) (lenOf pd___I rfl) rfl (by show 2 * 0 + _ ≤ _; exact Nat.le_of_eq rfl) (hb hby d16_10) (fun _ _ => ⟨rfl, e2q, (by decide : 0 + 0 ≤ _), (by decide : 0 + 0 ≤ _)⟩)) (fun _ _ _ q => q) N2 (fun T3 L3 X3 e3q N3 => ?_)
  show Go _ _ _ _ _ _ _  T3 (mkF m 13 #[.val (.ref a1), .val (.ref a2), .val .null, .val (.ref t), .unset] [(.int (Int32.ofNat n))])
  refine Go.st (fun tT kT => XS.istore X3.here hx rfl (hb hby d16_13) rfl (l' := #[.val (.ref a1), .val (.ref a2), .val .null, .val (.ref t), .val (.int (Int32.ofNat n))]) rfl kT) ?_
  show Go _ _ _ _ _ _ _  T3 (mkF m 15 #[.val (.ref a1), .val (.ref a2), .val .null, .val (.ref t), .val (.int (Int32.ofNat n))] [])
  refine Go.st (fun tT kT => XS.aloadN X3.here hx rfl (hb hby d16_15) rfl rfl  kT) ?_
  show Go _ _ _ _ _ _ _  T3 (mkF m 16 #[.val (.ref a1), .val (.ref a2), .val .null, .val (.ref t), .val (.int (Int32.ofNat n))] [(.ref a2)])
  obtain ⟨cq4, kq4, q4a, q4b, q4c⟩ := isOf hZ e3q E_a2
  refine Go.pure (w := (some (.int (1 : Int32)))) (rest := []) (pc' := 19) (X3.virtualBack hx (y := (⟨"java/lang/AbstractStringBuilder", "isLatin1", "()Z"⟩ : MethodName)) (z := (⟨"java/lang/AbstractStringBuilder", "isLatin1", "()Z"⟩ : MethodName)) hown (mvT hZ (hw _ (List.mem_of_getElem? (i := 115) rfl))) (mvT hZ (hw _ (List.mem_of_getElem? (i := 116) rfl))) (notFace_of_selects (args := #[]) (mvT hZ (hw _ (List.mem_of_getElem? (i := 118) rfl)))) (mvT hZ (hw _ (List.mem_of_getElem? (i := 118) rfl))) (mvT hZ (hw _ (List.mem_of_getElem? (i := 117) rfl))) (by decide) (backOf (W := 0) (rmIL l Z a0 hw [] a2 zc h0 n0 O S_COMPACT hcs C_a2) hZ (hw _ (List.mem_of_getElem? (i := 119) rfl)) (hw _ (List.mem_of_getElem? (i := 26) rfl)) (by decide) (by decide)) q4a q4c (g := (mkF m 16 #[.val (.ref a1), .val (.ref a2), .val .null, .val (.ref t), .val (.int (Int32.ofNat n))] [(.ref a2)])) rfl (by rw [hml]; rfl) (Steps.refl _) (argsL := []) (rest := []) (lenOf pd___Z rfl) rfl (by show 2 * 0 + _ ≤ _; exact Nat.le_of_eq rfl) (hb hby d16_16) (fun _ _ => ⟨rfl, e3q, (by decide : 0 + 0 ≤ _), (by decide : 0 + 0 ≤ _)⟩)) (fun _ _ _ q => q) N3 (fun T4 L4 X4 e4q N4 => ?_)
  show Go _ _ _ _ _ _ _  T4 (mkF m 19 #[.val (.ref a1), .val (.ref a2), .val .null, .val (.ref t), .val (.int (Int32.ofNat n))] [(.int (1 : Int32))])
  refine Go.st (fun tT kT => XS.ifNo X4.here hx rfl (hb hby d16_19) rfl ((if0 _ _).trans (feq (by decide : ¬ ((1 : Int32) = (0 : Int32)))).1) kT) ?_
  show Go _ _ _ _ _ _ _  T4 (mkF m 22 #[.val (.ref a1), .val (.ref a2), .val .null, .val (.ref t), .val (.int (Int32.ofNat n))] [])
  refine Go.st (fun tT kT => XS.aloadN X4.here hx rfl (hb hby d16_22) rfl rfl  kT) ?_
  show Go _ _ _ _ _ _ _  T4 (mkF m 23 #[.val (.ref a1), .val (.ref a2), .val .null, .val (.ref t), .val (.int (Int32.ofNat n))] [(.ref a1)])
  refine Go.st (fun tT kT => XS.iconst X4.here hx rfl (hb hby d16_23) kT) ?_
  show Go _ _ _ _ _ _ _  T4 (mkF m 24 #[.val (.ref a1), .val (.ref a2), .val .null, .val (.ref t), .val (.int (Int32.ofNat n))] [(.int (0 : Int32)), (.ref a1)])
  obtain ⟨T5, h5, X5, e5, W5, st5⟩ := putFN X4 hx hZ hown (hw _ (List.mem_of_getElem? (i := 59) rfl)) Via.refl e4q F_coder_a1 E_a1 (Or.inr ⟨(hw _ (List.mem_of_getElem? (i := 9) rfl)), rfl, hnm⟩) (hw _ (List.mem_of_getElem? (i := 6) rfl)) (ty := .byte) (v' := .int (0 : Int32)) (by decide) rfl rfl (g := (mkF m 24 #[.val (.ref a1), .val (.ref a2), .val .null, .val (.ref t), .val (.int (Int32.ofNat n))] [(.int (0 : Int32)), (.ref a1)])) rfl rfl (hb hby d16_24)
  refine Go.st st5 ?_
  have F_coder_a1 : Fld Z h5 a1 "java/lang/String" "coder" "B" (.int (0 : Int32)) := F_coder_a1.same W5
  have N5 := Fr.snoc X5 N4 g_a1
  have ne_t_a1 : t ≠ a1 := (Ne.symm (Exa.neArv E_a1 A_t (hw _ (List.mem_of_getElem? (i := 6) rfl))))
  have ne_a2_a1 : a2 ≠ a1 := (ne_exa E_a2 E_a1 (by decide))
  have E_a2 := E_a2.wr W5
  have A_t := A_t.other W5 ne_t_a1
  have C_a2 := C_a2.other W5 (Or.inl ne_a2_a1)
  have V_a2 := V_a2.other W5 (Or.inl ne_a2_a1)
  have N_a2 := N_a2.other W5 (Or.inl ne_a2_a1)
  have E_a1 := E_a1.wr W5
  have F_value_a1 := F_value_a1.other W5 (Or.inr (slot_ne (Or.inr (hw _ (List.mem_of_getElem? (i := 8) rfl))) (Or.inr (hw _ (List.mem_of_getElem? (i := 9) rfl))) (by decide) (t := (.array .byte)) (t' := .byte) (by decide) (by decide)))
  have O := O.wr W5 g_a1
  have KK := KK.wr W5 (Or.inl (List.mem_of_getElem? (i := 0) rfl))
  show Go _ _ _ _ _ _ _  T5 (mkF m 27 #[.val (.ref a1), .val (.ref a2), .val .null, .val (.ref t), .val (.int (Int32.ofNat n))] [])
  refine Go.st (fun tT kT => XS.aloadN X5.here hx rfl (hb hby d16_27) rfl rfl  kT) ?_
  show Go _ _ _ _ _ _ _  T5 (mkF m 28 #[.val (.ref a1), .val (.ref a2), .val .null, .val (.ref t), .val (.int (Int32.ofNat n))] [(.ref a1)])
  refine Go.st (fun tT kT => XS.aloadN X5.here hx rfl (hb hby d16_28) rfl rfl  kT) ?_
  show Go _ _ _ _ _ _ _  T5 (mkF m 29 #[.val (.ref a1), .val (.ref a2), .val .null, .val (.ref t), .val (.int (Int32.ofNat n))] [(.ref t), (.ref a1)])
  refine Go.st (fun tT kT => XS.iconst X5.here hx rfl (hb hby d16_29) kT) ?_
  show Go _ _ _ _ _ _ _  T5 (mkF m 30 #[.val (.ref a1), .val (.ref a2), .val .null, .val (.ref t), .val (.int (Int32.ofNat n))] [(.int (0 : Int32)), (.ref t), (.ref a1)])
  refine Go.st (fun tT kT => XS.iload X5.here hx rfl (hb hby d16_30) rfl  kT) ?_
  show Go _ _ _ _ _ _ _  T5 (mkF m 32 #[.val (.ref a1), .val (.ref a2), .val .null, .val (.ref t), .val (.int (Int32.ofNat n))] [(.int (Int32.ofNat n)), (.int (0 : Int32)), (.ref t), (.ref a1)])
  obtain ⟨_, _, ⟨T6, L6, k6, n6⟩, -, X6, ⟨Lc6, hQ6, l6, y6, z6⟩, st6⟩ := Jvm.LawKit.callS X5 hx (y := (⟨"java/util/Arrays", "copyOfRange", "([BII)[B"⟩ : MethodName)) hown (mvT hZ (hw _ (List.mem_of_getElem? (i := 120) rfl))) (mvT hZ (hw _ (List.mem_of_getElem? (i := 121) rfl))) (mvT hZ (hw _ (List.mem_of_getElem? (i := 122) rfl))) (mvT hZ (hw _ (List.mem_of_getElem? (i := 123) rfl))) (by decide) (backOf (W := 1) (rmCR l Z a0 hw [] t n kd cap bs h5 n0 O A_t L_a2 hlt B_a2 hcr) hZ (hw _ (List.mem_of_getElem? (i := 123) rfl)) (hw _ (List.mem_of_getElem? (i := 122) rfl)) (by decide) (by decide)) (g := (mkF m 32 #[.val (.ref a1), .val (.ref a2), .val .null, .val (.ref t), .val (.int (Int32.ofNat n))] [(.int (Int32.ofNat n)), (.int (0 : Int32)), (.ref t), (.ref a1)])) rfl (by rw [hml]; rfl) (argsL := [(.ref t), (.int (0 : Int32)), (.int (Int32.ofNat n))]) (rest := [(.ref a1)]) (lenOf pd___BII__B rfl) rfl (by show 2 * 0 + _ ≤ _; exact Nat.le_of_eq rfl) (hb hby d16_32) (fun _ _ => ⟨rfl, e5, (by decide : 0 + 1 ≤ _), (by decide : 0 + 64 ≤ _)⟩)
  dsimp only [Pt.U, Pt.locs, Pt.cells, Pt.slots] at X6 l6 y6 z6 st6 hQ6
  subst l6 y6 z6
  have X6 : Stand p l e _ _ m _ below meth c T6 _ 1 64 := X6
  obtain ⟨t6, kt6, rfl, N6q, E6q, lt6, Vq6⟩ := hQ6
  have N6 := Fr.app N5 N6q
  refine Go.st st6 ?_
  have g_t6 : n0 ≤ t6 := Nat.le_trans (own_le O) lt6
  have sz_t6 : h0.size ≤ t6 := Nat.le_trans KK.1 lt6
  have ne_a2_t6 : a2 ≠ t6 := Nat.ne_of_lt (Nat.lt_of_lt_of_le E_a2.lt lt6)
  have ne_t_t6 : t ≠ t6 := Nat.ne_of_lt (Nat.lt_of_lt_of_le A_t.lt lt6)
  have ne_a1_t6 : a1 ≠ t6 := Nat.ne_of_lt (Nat.lt_of_lt_of_le E_a1.lt lt6)
  have E6 := E6q
  have E_a2 := E_a2.ext E6
  have A_t := A_t.ext E6
  have C_a2 := C_a2.ext E6
  have V_a2 := V_a2.ext E6
  have N_a2 := N_a2.ext E6
  have E_a1 := E_a1.ext E6
  have F_value_a1 := F_value_a1.ext E6
  have F_coder_a1 := F_coder_a1.ext E6
  have O := O.ext E6
  have KK := KK.ext E6
  show Go _ _ _ _ _ _ _  T6 (mkF m 35 #[.val (.ref a1), .val (.ref a2), .val .null, .val (.ref t), .val (.int (Int32.ofNat n))] [(.ref t6), (.ref a1)])
  obtain ⟨T7, h7, X7, e7, W7, st7⟩ := putF X6 hx hZ hown (host := "") (Or.inl (hw _ (List.mem_of_getElem? (i := 52) rfl))) Via.refl rfl F_value_a1 E_a1 (Or.inr ⟨(hw _ (List.mem_of_getElem? (i := 8) rfl)), rfl, hnm⟩) (hw _ (List.mem_of_getElem? (i := 6) rfl)) (ty := (.array .byte)) (by decide) rfl rfl (g := (mkF m 35 #[.val (.ref a1), .val (.ref a2), .val .null, .val (.ref t), .val (.int (Int32.ofNat n))] [(.ref t6), (.ref a1)])) rfl rfl (hb hby d16_35)
  refine Go.st st7 ?_
  have F_value_a1 : Fld Z h7 a1 "java/lang/String" "value" "[B" (.ref t6) := F_value_a1.same W7
  have N7 := Fr.snoc X7 N6 g_a1
  have E_a2 := E_a2.wr W7
  have A_t := A_t.other W7 ne_t_a1
  have C_a2 := C_a2.other W7 (Or.inl ne_a2_a1)
  have V_a2 := V_a2.other W7 (Or.inl ne_a2_a1)
  have N_a2 := N_a2.other W7 (Or.inl ne_a2_a1)
  have E_a1 := E_a1.wr W7
  have F_coder_a1 := F_coder_a1.other W7 (Or.inr (slot_ne (Or.inr (hw _ (List.mem_of_getElem? (i := 9) rfl))) (Or.inr (hw _ (List.mem_of_getElem? (i := 8) rfl))) (by decide) (t := .byte) (t' := (.array .byte)) (by decide) (by decide)))
  have Vq6 := Vq6.other W7 (Ne.symm ne_a1_t6)
  have O := O.wr W7 g_a1
  have KK := KK.wr W7 (Or.inl (List.mem_of_getElem? (i := 0) rfl))
  show Go _ _ _ _ _ _ _  T7 (mkF m 38 #[.val (.ref a1), .val (.ref a2), .val .null, .val (.ref t), .val (.int (Int32.ofNat n))] [])
  refine Go.st (fun tT kT => XS.goto X7.here hx rfl (pc0 := 38) (pc' := 97) rfl (hb hby d16_38) (by decide) (by decide) kT) ?_
  show Go _ _ _ _ _ _ _  T7 (mkF m 97 #[.val (.ref a1), .val (.ref a2), .val .null, .val (.ref t), .val (.int (Int32.ofNat n))] [])
  refine Go.ret0 X7 hlk hx Bd.returns (hb hby d16_97) (by decide) (by decide) ?_
  show Q_rmT2 Z _ _ _ _ _ _ _ _ _ _ h0 n0 _ T7.heap _
  rw [e7]
  exact ⟨rfl, N7, KK, E_a1, F_coder_a1, t6, _, sz_t6, F_value_a1, Vq6⟩
def Q_rmT1 (Z : State) (a1 : Addr) (a2 : Addr) (u1 : Value) (u2 : Value) (zc : Int32) (t : Addr) (kd : ClassId) (n : Nat) (cap : Nat) (bs : List Value) (h0 : Heap) (n0 : Nat) (v : Option Value) (h : Heap) (L : List Loc) : Prop := v = none ∧ Fr n0 L ∧ Keep h0 h [a1] ∧ Exa Z h a1 "java/lang/String" ∧ Fld Z h a1 "java/lang/String" "coder" "B" (.int 0) ∧ ∃ (b : Addr) (kb : ClassId), h0.size ≤ b ∧ Fld Z h a1 "java/lang/String" "value" "[B" (.ref b) ∧ Arv Z h b kb .byte (Int32.ofNat n) bs (.int 0)
set_option maxRecDepth 65536 in
set_option maxHeartbeats 40000000 in
theorem rmT1 (l : Launch) (Z : State) (a0 : Array Value) (hw : ∀ d ∈ tables_1, d.before a0 Z = true) (ws : List Jvm.Cond) (a1 : Addr) (a2 : Addr) (u1 : Value) (u2 : Value) (zc : Int32) (t : Addr) (kd : ClassId) (n : Nat) (cap : Nat) (bs : List Value) (h0 : Heap) (n0 : Nat) (O : Old Z n0 h0) (E_a1 : Exa Z h0 a1 "java/lang/String") (F_value_a1 : Fld Z h0 a1 "java/lang/String" "value" "[B" u1) (F_coder_a1 : Fld Z h0 a1 "java/lang/String" "coder" "B" u2) (g_a1 : n0 ≤ a1) (hlt : n < cap) (hcr : n ≤ 64) (S_COMPACT : Sta Z Z.heap "java/lang/String" "COMPACT_STRINGS" "Z" (.int zc)) (hcs : ¬ zc = 0) (E_a2 : Exa Z h0 a2 "java/lang/StringBuilder") (C_a2 : Fld Z h0 a2 "java/lang/AbstractStringBuilder" "coder" "B" (.int 0)) (V_a2 : Fld Z h0 a2 "java/lang/AbstractStringBuilder" "value" "[B" (.ref t)) (N_a2 : Fld Z h0 a2 "java/lang/AbstractStringBuilder" "count" "I" (.int (Int32.ofNat n))) (A_t : Arv Z h0 t kd .byte (Int32.ofNat cap) bs (.int 0)) (L_a2 : bs.length = n) (K_a2 : n ≤ cap) (B_a2 : cap < 100000) :
    MetFree l (⟨"java/lang/String", "<init>", "(Ljava/lang/StringBuilder;)V"⟩ : MethodName) (head1 (Jvm.Cond.code (⟨"java/lang/String", "<init>", "(Ljava/lang/StringBuilder;)V"⟩ : MethodName) jdk_42_method_53_code 2 none :: ws) ({ frames := 4, cells := 1, slots := 64, locals := 65 } : Room)) (fun a U => a = #[(.ref a1), (.ref a2)] ∧ Z.Warmed39 U.vm ∧ U.heap = h0) (fun _ _ _ _ _ => True) (fun _ U o U' => ∃ v L, o = .returned v ∧ Q_rmT1 Z a1 a2 u1 u2 zc t kd n cap bs h0 n0 v U'.heap L ∧ FrameEnd U o U' L ({ frames := 4, cells := 1, slots := 64, locals := 65 } : Room).cells ({ frames := 4, cells := 1, slots := 64, locals := 65 } : Room).slots) := by
  refine MetFree.of_bodySF (plainFor_of_name pn_15) hisR ?_
  intro p e s m args below meth c s₁ Bd hml0 hP hK
  obtain ⟨rfl, hZ, hh⟩ := hP
  have hx := Bd.exec
  have hby := Bd.bytes
  have hml : c.maxLocals = 2 := hml0
  have hown : s.vm.findClass "java/lang/String" = some m.cls := findClass_of_methodNamed Bd.named
  have hnm := (name_of_methodNamed Bd.named Bd.method).1
  have hlk : meth.locks = false := BodyLoose.notSynchronized Bd
  have X0 : Stand p l e ({ frames := 4, cells := 1, slots := 64, locals := 65 } : Room) s m #[(.ref a1), (.ref a2)] below meth c s₁ [] 0 0 := Stand.of_body Bd
  have e0 : s₁.heap = h0 := by rw [← hh, Bd.state]; rfl
  have N0 := Fr.nil n0
  have KK : Keep h0 h0 [a1] := Keep.refl h0 _
  show Go p e below s ({ frames := 4, cells := 1, slots := 64, locals := 65 } : Room).cells ({ frames := 4, cells := 1, slots := 64, locals := 65 } : Room).slots (Q_rmT1 Z a1 a2 u1 u2 zc t kd n cap bs h0 n0) s₁ (entryFrame m #[(.ref a1), (.ref a2)] 2)
  refine Go.eq (ef_rmT1 m a1 a2) ?_
  show Go _ _ _ _ _ _ _  s₁ (mkF m 0 #[.val (.ref a1), .val (.ref a2)] [])
  refine Go.st (fun tT kT => XS.aloadN X0.here hx rfl (hb hby d15_0) rfl rfl  kT) ?_
  show Go _ _ _ _ _ _ _  s₁ (mkF m 1 #[.val (.ref a1), .val (.ref a2)] [(.ref a1)])
  refine Go.st (fun tT kT => XS.aloadN X0.here hx rfl (hb hby d15_1) rfl rfl  kT) ?_
  show Go _ _ _ _ _ _ _  s₁ (mkF m 2 #[.val (.ref a1), .val (.ref a2)] [(.ref a2), (.ref a1)])
  refine Go.st (fun tT kT => XS.aconstNull X0.here hx rfl (hb hby d15_2) kT) ?_
  show Go _ _ _ _ _ _ _  s₁ (mkF m 3 #[.val (.ref a1), .val (.ref a2)] [.null, (.ref a2), (.ref a1)])
  obtain ⟨_, _, ⟨T1, L1, k1, n1⟩, -, X1, ⟨Lc1, hQ1, l1, y1, z1⟩, st1⟩ := X0.specialBack hx (y := (⟨"java/lang/String", "<init>", "(Ljava/lang/AbstractStringBuilder;Ljava/lang/Void;)V"⟩ : MethodName)) rfl hown (mvT hZ (hw _ (List.mem_of_getElem? (i := 98) rfl))) (mvT hZ (hw _ (List.mem_of_getElem? (i := 99) rfl))) (mvT hZ (hw _ (List.mem_of_getElem? (i := 100) rfl))) (by decide) (backOf (W := 0) (rmT2 l Z a0 hw [] a1 a2 u1 u2 zc t kd n cap bs h0 n0 O E_a1 F_value_a1 F_coder_a1 g_a1 hlt hcr S_COMPACT hcs E_a2 C_a2 V_a2 N_a2 A_t L_a2 K_a2 B_a2) hZ (hw _ (List.mem_of_getElem? (i := 100) rfl)) (hw _ (List.mem_of_getElem? (i := 5) rfl)) (by decide) (by decide)) (g := (mkF m 3 #[.val (.ref a1), .val (.ref a2)] [.null, (.ref a2), (.ref a1)])) rfl (by rw [hml]; rfl) (Steps.refl _) (a := a1) (argsL := [(.ref a2), .null]) (rest := []) (lenOf pd__Ljava_lang_AbstractStringBuilder_Ljava_lang_Void__V rfl) rfl (by show 2 * 0 + _ ≤ _; exact Nat.le_of_eq rfl) (hb hby d15_3) (fun _ _ => ⟨rfl, e0, (by decide : 0 + 1 ≤ _), (by decide : 0 + 64 ≤ _)⟩)
  dsimp only [Pt.U, Pt.locs, Pt.cells, Pt.slots] at X1 l1 y1 z1 st1 hQ1
  subst l1 y1 z1
  have X1 : Stand p l e _ _ m _ below meth c T1 _ 1 64 := X1
  obtain ⟨rfl, N1q, K1q, Q1⟩ := hQ1
  have N1 := Fr.app N0 N1q
  refine Go.tr st1 ?_
  have ne_t_a1 : t ≠ a1 := (Ne.symm (Exa.neArv E_a1 A_t (hw _ (List.mem_of_getElem? (i := 6) rfl))))
  have ne_a2_a1 : a2 ≠ a1 := (ne_exa E_a2 E_a1 (by decide))
  have E_a2 := E_a2.keep K1q
  have A_t := A_t.keep K1q (ninS ne_t_a1 nin0)
  have C_a2 := C_a2.keep K1q (ninS ne_a2_a1 nin0)
  have V_a2 := V_a2.keep K1q (ninS ne_a2_a1 nin0)
  have N_a2 := N_a2.keep K1q (ninS ne_a2_a1 nin0)
  have E_a1 := E_a1.keep K1q
  have O := O.keep K1q (allS g_a1 all0)
  have KK := KK.trans K1q (allS (Or.inl (List.mem_of_getElem? (i := 0) rfl)) all0)
  show Go _ _ _ _ _ _ _  T1 (mkF m 6 #[.val (.ref a1), .val (.ref a2)] [])
  refine Go.ret0 X1 hlk hx Bd.returns (hb hby d15_6) (by decide) (by decide) ?_
  show Q_rmT1 Z _ _ _ _ _ _ _ _ _ _ h0 n0 _ T1.heap _
  exact ⟨rfl, N1, KK, Q1⟩
def Q_rmTS (Z : State) (a1 : Addr) (zc : Int32) (t : Addr) (kd : ClassId) (n : Nat) (cap : Nat) (bs : List Value) (h0 : Heap) (n0 : Nat) (v : Option Value) (h : Heap) (L : List Loc) : Prop := ∃ (x b : Addr) (kb : ClassId), v = some (.ref x) ∧ Fr n0 L ∧ Ext h0 h ∧ h0.size ≤ x ∧ h0.size ≤ b ∧ Exa Z h x "java/lang/String" ∧ Fld Z h x "java/lang/String" "coder" "B" (.int 0) ∧ Fld Z h x "java/lang/String" "value" "[B" (.ref b) ∧ Arv Z h b kb .byte (Int32.ofNat n) bs (.int 0)
set_option maxRecDepth 65536 in
set_option maxHeartbeats 40000000 in
theorem rmTS (l : Launch) (Z : State) (a0 : Array Value) (hw : ∀ d ∈ tables_1, d.before a0 Z = true) (ws : List Jvm.Cond) (a1 : Addr) (zc : Int32) (t : Addr) (kd : ClassId) (n : Nat) (cap : Nat) (bs : List Value) (h0 : Heap) (n0 : Nat) (O : Old Z n0 h0) (hlt : n < cap) (hcr : n ≤ 64) (S_COMPACT : Sta Z Z.heap "java/lang/String" "COMPACT_STRINGS" "Z" (.int zc)) (hcs : ¬ zc = 0) (E_a1 : Exa Z h0 a1 "java/lang/StringBuilder") (C_a1 : Fld Z h0 a1 "java/lang/AbstractStringBuilder" "coder" "B" (.int 0)) (V_a1 : Fld Z h0 a1 "java/lang/AbstractStringBuilder" "value" "[B" (.ref t)) (N_a1 : Fld Z h0 a1 "java/lang/AbstractStringBuilder" "count" "I" (.int (Int32.ofNat n))) (A_t : Arv Z h0 t kd .byte (Int32.ofNat cap) bs (.int 0)) (L_a1 : bs.length = n) (K_a1 : n ≤ cap) (B_a1 : cap < 100000) :
    MetFree l (⟨"java/lang/StringBuilder", "toString", "()Ljava/lang/String;"⟩ : MethodName) (head1 (Jvm.Cond.code (⟨"java/lang/StringBuilder", "toString", "()Ljava/lang/String;"⟩ : MethodName) jdk_67_method_42_code 1 (some (.object "java/lang/String")) :: ws) ({ frames := 5, cells := 2, slots := 68, locals := 79 } : Room)) (fun a U => a = #[(.ref a1)] ∧ Z.Warmed39 U.vm ∧ U.heap = h0) (fun _ _ _ _ _ => True) (fun _ U o U' => ∃ v L, o = .returned v ∧ Q_rmTS Z a1 zc t kd n cap bs h0 n0 v U'.heap L ∧ FrameEnd U o U' L ({ frames := 5, cells := 2, slots := 68, locals := 79 } : Room).cells ({ frames := 5, cells := 2, slots := 68, locals := 79 } : Room).slots) := by
  refine MetFree.of_bodySF (plainFor_of_name pn_14) hisR ?_
  intro p e s m args below meth c s₁ Bd hml0 hP hK
  obtain ⟨rfl, hZ, hh⟩ := hP
  have hx := Bd.exec
  have hby := Bd.bytes
  have hml : c.maxLocals = 1 := hml0
  have hown : s.vm.findClass "java/lang/StringBuilder" = some m.cls := findClass_of_methodNamed Bd.named
  have hnm := (name_of_methodNamed Bd.named Bd.method).1
  have hlk : meth.locks = false := BodyLoose.notSynchronized Bd
  have X0 : Stand p l e ({ frames := 5, cells := 2, slots := 68, locals := 79 } : Room) s m #[(.ref a1)] below meth c s₁ [] 0 0 := Stand.of_body Bd
  have e0 : s₁.heap = h0 := by rw [← hh, Bd.state]; rfl
  have N0 := Fr.nil n0
  have KK : Keep h0 h0 [] := Keep.refl h0 _
  show Go p e below s ({ frames := 5, cells := 2, slots := 68, locals := 79 } : Room).cells ({ frames := 5, cells := 2, slots := 68, locals := 79 } : Room).slots (Q_rmTS Z a1 zc t kd n cap bs h0 n0) s₁ (entryFrame m #[(.ref a1)] 1)
  refine Go.eq (ef_rmTS m a1) ?_
  show Go _ _ _ _ _ _ _  s₁ (mkF m 0 #[.val (.ref a1)] [])
  obtain ⟨T1, h1, X1, e1, E1, A1, D1, U1, st1⟩ := newO X0 hx hZ hown (hw _ (List.mem_of_getElem? (i := 93) rfl)) (hw _ (List.mem_of_getElem? (i := 6) rfl)) (hw _ (List.mem_of_getElem? (i := 5) rfl)) e0 (g := (mkF m 0 #[.val (.ref a1)] [])) rfl (hb hby d14_0) (by decide) (by decide)
  obtain ⟨b1, g1⟩ : ∃ z, z = h0.size := ⟨_, rfl⟩
  rw [← g1] at A1 D1 U1 st1
  refine Go.st st1 ?_
  have g_b1 : n0 ≤ b1 := by rw [g1]; exact own_le O
  have sz_b1 : h0.size ≤ b1 := by rw [g1]; exact KK.1
  have ne_a1_b1 : a1 ≠ b1 := Nat.ne_of_lt (by rw [g1]; exact E_a1.lt)
  have ne_t_b1 : t ≠ b1 := Nat.ne_of_lt (by rw [g1]; exact A_t.lt)
  have E_a1 := E_a1.ext E1
  have A_t := A_t.ext E1
  have C_a1 := C_a1.ext E1
  have V_a1 := V_a1.ext E1
  have N_a1 := N_a1.ext E1
  have O := O.ext E1
  have KK := KK.ext E1
  have E_b1 := A1
  have F_value_b1 : Fld Z h1 b1 "java/lang/String" "value" "[B" .null := D1 (Or.inr (hw _ (List.mem_of_getElem? (i := 8) rfl))) (ty := (.array .byte)) (by decide)
  have F_coder_b1 : Fld Z h1 b1 "java/lang/String" "coder" "B" (.int (0 : Int32)) := D1 (Or.inr (hw _ (List.mem_of_getElem? (i := 9) rfl))) (ty := .byte) (by decide)
  show Go _ _ _ _ _ _ _  T1 (mkF m 3 #[.val (.ref a1)] [(.ref b1)])
  refine Go.st (fun tT kT => XS.dup X1.here hx rfl (hb hby d14_3) rfl rfl kT) ?_
  show Go _ _ _ _ _ _ _  T1 (mkF m 4 #[.val (.ref a1)] [(.ref b1), (.ref b1)])
  refine Go.st (fun tT kT => XS.aloadN X1.here hx rfl (hb hby d14_4) rfl rfl  kT) ?_
  have KK0 := KK
  show Go _ _ _ _ _ _ _  T1 (mkF m 5 #[.val (.ref a1)] [(.ref a1), (.ref b1), (.ref b1)])
  obtain ⟨_, _, ⟨T2, L2, k2, n2⟩, -, X2, ⟨Lc2, hQ2, l2, y2, z2⟩, st2⟩ := X1.specialBack hx (y := (⟨"java/lang/String", "<init>", "(Ljava/lang/StringBuilder;)V"⟩ : MethodName)) rfl hown (mvT hZ (hw _ (List.mem_of_getElem? (i := 94) rfl))) (mvT hZ (hw _ (List.mem_of_getElem? (i := 95) rfl))) (mvT hZ (hw _ (List.mem_of_getElem? (i := 97) rfl))) (by decide) (backOf (W := 1) (rmT1 l Z a0 hw [] b1 a1 .null (.int (0 : Int32)) zc t kd n cap bs h1 n0 O E_b1 F_value_b1 F_coder_b1 g_b1 hlt hcr S_COMPACT hcs E_a1 C_a1 V_a1 N_a1 A_t L_a1 K_a1 B_a1) hZ (hw _ (List.mem_of_getElem? (i := 97) rfl)) (hw _ (List.mem_of_getElem? (i := 5) rfl)) (by decide) (by decide)) (g := (mkF m 5 #[.val (.ref a1)] [(.ref a1), (.ref b1), (.ref b1)])) rfl (by rw [hml]; rfl) (Steps.refl _) (a := b1) (argsL := [(.ref a1)]) (rest := [(.ref b1)]) (lenOf pd__Ljava_lang_StringBuilder__V rfl) rfl (by show 2 * 0 + _ ≤ _; exact Nat.le_of_eq rfl) (hb hby d14_5) (fun _ _ => ⟨rfl, e1, (by decide : 1 + 1 ≤ _), (by decide : 4 + 64 ≤ _)⟩)
  dsimp only [Pt.U, Pt.locs, Pt.cells, Pt.slots] at X2 l2 y2 z2 st2 hQ2
  subst l2 y2 z2
  have X2 : Stand p l e _ _ m _ below meth c T2 _ 2 68 := X2
  obtain ⟨rfl, N2q, K2q, Eq2, Cq2, t2, kt2, lt2, Vq2, Aq2⟩ := hQ2
  have N2 := Fr.app N0 N2q
  refine Go.tr st2 ?_
  have E_a1 := E_a1.keep K2q
  have A_t := A_t.keep K2q (ninS ne_t_b1 nin0)
  have C_a1 := C_a1.keep K2q (ninS ne_a1_b1 nin0)
  have V_a1 := V_a1.keep K2q (ninS ne_a1_b1 nin0)
  have N_a1 := N_a1.keep K2q (ninS ne_a1_b1 nin0)
  have E_b1 := E_b1.keep K2q
  have O := O.keep K2q (allS g_b1 all0)
  have KK := KK.trans K2q (allS (Or.inr sz_b1) all0)
  show Go _ _ _ _ _ _ _  T2 (mkF m 8 #[.val (.ref a1)] [(.ref b1)])
  refine Go.retR X2 hlk hx Bd.returns rfl rfl rfl (hb hby d14_8) (by decide) (by decide) ?_
  show Q_rmTS Z _ _ _ _ _ _ _ h0 n0 _ T2.heap _
  exact ⟨_, _, _, rfl, N2, own_ext0 KK, sz_b1, Nat.le_trans KK0.1 lt2, Eq2, Cq2, Vq2, Aq2⟩
def Q_rmPC (Z : State) (fm : Value) (i : Nat) (n : Nat) (h0 : Heap) (n0 : Nat) (v : Option Value) (h : Heap) (L : List Loc) : Prop := v = some (.int (Int32.ofNat i)) ∧ Fr n0 L ∧ h = h0
set_option maxRecDepth 65536 in
set_option maxHeartbeats 40000000 in
theorem rmPC (l : Launch) (Z : State) (a0 : Array Value) (hw : ∀ d ∈ tables_1, d.before a0 Z = true) (ws : List Jvm.Cond) (fm : Value) (i : Nat) (n : Nat) (h0 : Heap) (n0 : Nat) (O : Old Z n0 h0) (ref_fm : fm.isRef = true) (hi : i < n) (hn : n < 100000) :
    MetFree l (⟨"jdk/internal/util/Preconditions", "checkIndex", "(IILjava/util/function/BiFunction;)I"⟩ : MethodName) (head1 (Jvm.Cond.code (⟨"jdk/internal/util/Preconditions", "checkIndex", "(IILjava/util/function/BiFunction;)I"⟩ : MethodName) jdk_41_method_11_code 3 (some .int) :: ws) ({ frames := 0, cells := 0, slots := 0, locals := 0 } : Room)) (fun a U => a = #[(.int (Int32.ofNat i)), (.int (Int32.ofNat n)), fm] ∧ Z.Warmed39 U.vm ∧ U.heap = h0) (fun _ _ _ _ _ => True) (fun _ U o U' => ∃ v L, o = .returned v ∧ Q_rmPC Z fm i n h0 n0 v U'.heap L ∧ FrameEnd U o U' L ({ frames := 0, cells := 0, slots := 0, locals := 0 } : Room).cells ({ frames := 0, cells := 0, slots := 0, locals := 0 } : Room).slots) := by
  refine MetFree.of_bodySF (plainFor_of_name pn_41) hisR ?_
  intro p e s m args below meth c s₁ Bd hml0 hP hK
  obtain ⟨rfl, hZ, hh⟩ := hP
  have hx := Bd.exec
  have hby := Bd.bytes
  have hml : c.maxLocals = 3 := hml0
  have hown : s.vm.findClass "jdk/internal/util/Preconditions" = some m.cls := findClass_of_methodNamed Bd.named
  have hnm := (name_of_methodNamed Bd.named Bd.method).1
  have hlk : meth.locks = false := BodyLoose.notSynchronized Bd
  have X0 : Stand p l e ({ frames := 0, cells := 0, slots := 0, locals := 0 } : Room) s m #[(.int (Int32.ofNat i)), (.int (Int32.ofNat n)), fm] below meth c s₁ [] 0 0 := Stand.of_body Bd
  have e0 : s₁.heap = h0 := by rw [← hh, Bd.state]; rfl
  have N0 := Fr.nil n0
  show Go p e below s ({ frames := 0, cells := 0, slots := 0, locals := 0 } : Room).cells ({ frames := 0, cells := 0, slots := 0, locals := 0 } : Room).slots (Q_rmPC Z fm i n h0 n0) s₁ (entryFrame m #[(.int (Int32.ofNat i)), (.int (Int32.ofNat n)), fm] 3)
  refine Go.eq (ef_rmPC m (Int32.ofNat i) (Int32.ofNat n) fm ref_fm) ?_
  show Go _ _ _ _ _ _ _  s₁ (mkF m 0 #[.val (.int (Int32.ofNat i)), .val (.int (Int32.ofNat n)), .val fm] [])
  refine Go.st (fun tT kT => XS.iloadN X0.here hx rfl (hb hby d41_0) rfl  kT) ?_
  show Go _ _ _ _ _ _ _  s₁ (mkF m 1 #[.val (.int (Int32.ofNat i)), .val (.int (Int32.ofNat n)), .val fm] [(.int (Int32.ofNat i))])
  refine Go.st (fun tT kT => XS.ifNo X0.here hx rfl (hb hby d41_1) rfl ((if0 _ _).trans (flt (own_onn (by omega) : ¬ ((Int32.ofNat i) < (0 : Int32)))).1) kT) ?_
  show Go _ _ _ _ _ _ _  s₁ (mkF m 4 #[.val (.int (Int32.ofNat i)), .val (.int (Int32.ofNat n)), .val fm] [])
  refine Go.st (fun tT kT => XS.iloadN X0.here hx rfl (hb hby d41_4) rfl  kT) ?_
  show Go _ _ _ _ _ _ _  s₁ (mkF m 5 #[.val (.int (Int32.ofNat i)), .val (.int (Int32.ofNat n)), .val fm] [(.int (Int32.ofNat i))])
  refine Go.st (fun tT kT => XS.iloadN X0.here hx rfl (hb hby d41_5) rfl  kT) ?_
  show Go _ _ _ _ _ _ _  s₁ (mkF m 6 #[.val (.int (Int32.ofNat i)), .val (.int (Int32.ofNat n)), .val fm] [(.int (Int32.ofNat n)), (.int (Int32.ofNat i))])
  refine Go.st (fun tT kT => XS.icmpYes X0.here hx rfl (pc0 := 6) (pc' := 16) rfl (hb hby d41_6) rfl (tlt ((own_olt (by omega) (by omega)).mpr hi : (Int32.ofNat i) < (Int32.ofNat n))).1 (by decide) (by decide) kT) ?_
  show Go _ _ _ _ _ _ _  s₁ (mkF m 16 #[.val (.int (Int32.ofNat i)), .val (.int (Int32.ofNat n)), .val fm] [])
  refine Go.st (fun tT kT => XS.iloadN X0.here hx rfl (hb hby d41_16) rfl  kT) ?_
  show Go _ _ _ _ _ _ _  s₁ (mkF m 17 #[.val (.int (Int32.ofNat i)), .val (.int (Int32.ofNat n)), .val fm] [(.int (Int32.ofNat i))])
  refine Go.retI X0 hlk hx Bd.returns (hb hby d41_17) (by decide) (by decide) ?_
  show Q_rmPC Z _ _ _ h0 n0 _ s₁.heap _
  rw [e0]
  exact ⟨rfl, N0, rfl⟩
def Q_rmCI (Z : State) (fm : Value) (i : Nat) (n : Nat) (h0 : Heap) (n0 : Nat) (v : Option Value) (h : Heap) (L : List Loc) : Prop := v = none ∧ Fr n0 L ∧ h = h0
set_option maxRecDepth 65536 in
set_option maxHeartbeats 40000000 in
theorem rmCI (l : Launch) (Z : State) (a0 : Array Value) (hw : ∀ d ∈ tables_1, d.before a0 Z = true) (ws : List Jvm.Cond) (fm : Value) (i : Nat) (n : Nat) (h0 : Heap) (n0 : Nat) (O : Old Z n0 h0) (S_SIO : Sta Z Z.heap "jdk/internal/util/Preconditions" "SIOOBE_FORMATTER" "Ljava/util/function/BiFunction;" fm) (ref_fm : fm.isRef = true) (hi : i < n) (hn : n < 100000) :
    MetFree l (⟨"java/lang/String", "checkIndex", "(II)V"⟩ : MethodName) (head1 (Jvm.Cond.code (⟨"java/lang/String", "checkIndex", "(II)V"⟩ : MethodName) jdk_42_method_155_code 2 none :: ws) ({ frames := 1, cells := 0, slots := 0, locals := 14 } : Room)) (fun a U => a = #[(.int (Int32.ofNat i)), (.int (Int32.ofNat n))] ∧ Z.Warmed39 U.vm ∧ U.heap = h0) (fun _ _ _ _ _ => True) (fun _ U o U' => ∃ v L, o = .returned v ∧ Q_rmCI Z fm i n h0 n0 v U'.heap L ∧ FrameEnd U o U' L ({ frames := 1, cells := 0, slots := 0, locals := 14 } : Room).cells ({ frames := 1, cells := 0, slots := 0, locals := 14 } : Room).slots) := by
  refine MetFree.of_bodySF (plainFor_of_name pn_40) hisR ?_
  intro p e s m args below meth c s₁ Bd hml0 hP hK
  obtain ⟨rfl, hZ, hh⟩ := hP
  have hx := Bd.exec
  have hby := Bd.bytes
  have hml : c.maxLocals = 2 := hml0
  have hown : s.vm.findClass "java/lang/String" = some m.cls := findClass_of_methodNamed Bd.named
  have hnm := (name_of_methodNamed Bd.named Bd.method).1
  have hlk : meth.locks = false := BodyLoose.notSynchronized Bd
  have X0 : Stand p l e ({ frames := 1, cells := 0, slots := 0, locals := 14 } : Room) s m #[(.int (Int32.ofNat i)), (.int (Int32.ofNat n))] below meth c s₁ [] 0 0 := Stand.of_body Bd
  have e0 : s₁.heap = h0 := by rw [← hh, Bd.state]; rfl
  have N0 := Fr.nil n0
  show Go p e below s ({ frames := 1, cells := 0, slots := 0, locals := 14 } : Room).cells ({ frames := 1, cells := 0, slots := 0, locals := 14 } : Room).slots (Q_rmCI Z fm i n h0 n0) s₁ (entryFrame m #[(.int (Int32.ofNat i)), (.int (Int32.ofNat n))] 2)
  refine Go.eq (ef_rmCI m (Int32.ofNat i) (Int32.ofNat n)) ?_
  show Go _ _ _ _ _ _ _  s₁ (mkF m 0 #[.val (.int (Int32.ofNat i)), .val (.int (Int32.ofNat n))] [])
  refine Go.st (fun tT kT => XS.iloadN X0.here hx rfl (hb hby d40_0) rfl  kT) ?_
  show Go _ _ _ _ _ _ _  s₁ (mkF m 1 #[.val (.int (Int32.ofNat i)), .val (.int (Int32.ofNat n))] [(.int (Int32.ofNat i))])
  refine Go.st (fun tT kT => XS.iloadN X0.here hx rfl (hb hby d40_1) rfl  kT) ?_
  show Go _ _ _ _ _ _ _  s₁ (mkF m 2 #[.val (.int (Int32.ofNat i)), .val (.int (Int32.ofNat n))] [(.int (Int32.ofNat n)), (.int (Int32.ofNat i))])
  obtain ⟨T1, X1, e1, st1⟩ := getS2 X0 hx hZ hown (host := "") (Or.inl (hw _ (List.mem_of_getElem? (i := 239) rfl))) Via.refl e0 (S_SIO.ext O.2) (g := (mkF m 2 #[.val (.int (Int32.ofNat i)), .val (.int (Int32.ofNat n))] [(.int (Int32.ofNat n)), (.int (Int32.ofNat i))])) rfl (hb hby d40_2)
  refine Go.st st1 ?_
  show Go _ _ _ _ _ _ _  T1 (mkF m 5 #[.val (.int (Int32.ofNat i)), .val (.int (Int32.ofNat n))] [fm, (.int (Int32.ofNat n)), (.int (Int32.ofNat i))])
  refine Go.pureS (w := (some (.int (Int32.ofNat i)))) (rest := []) (pc' := 8) (Jvm.LawKit.callS X1 hx (y := (⟨"jdk/internal/util/Preconditions", "checkIndex", "(IILjava/util/function/BiFunction;)I"⟩ : MethodName)) hown (mvT hZ (hw _ (List.mem_of_getElem? (i := 241) rfl))) (mvT hZ (hw _ (List.mem_of_getElem? (i := 242) rfl))) (mvT hZ (hw _ (List.mem_of_getElem? (i := 240) rfl))) (mvT hZ (hw _ (List.mem_of_getElem? (i := 243) rfl))) (by decide) (backOf (W := 0) (rmPC l Z a0 hw [] fm i n h0 n0 O ref_fm hi hn) hZ (hw _ (List.mem_of_getElem? (i := 243) rfl)) (hw _ (List.mem_of_getElem? (i := 240) rfl)) (by decide) (by decide)) (g := (mkF m 5 #[.val (.int (Int32.ofNat i)), .val (.int (Int32.ofNat n))] [fm, (.int (Int32.ofNat n)), (.int (Int32.ofNat i))])) rfl (by rw [hml]; rfl) (argsL := [(.int (Int32.ofNat i)), (.int (Int32.ofNat n)), fm]) (rest := []) (lenOf pd__IILjava_util_function_BiFunction__I rfl) rfl (by show 2 * 0 + _ ≤ _; exact Nat.le_of_eq rfl) (hb hby d40_5) (fun _ _ => ⟨rfl, e1, (by decide : 0 + 0 ≤ _), (by decide : 0 + 0 ≤ _)⟩)) (fun _ _ _ q => q) N0 (fun T2 L2 X2 e2q N2 => ?_)
  show Go _ _ _ _ _ _ _  T2 (mkF m 8 #[.val (.int (Int32.ofNat i)), .val (.int (Int32.ofNat n))] [(.int (Int32.ofNat i))])
  refine Go.st (fun tT kT => XS.pop X2.here hx rfl (hb hby d40_8) rfl rfl kT) ?_
  show Go _ _ _ _ _ _ _  T2 (mkF m 9 #[.val (.int (Int32.ofNat i)), .val (.int (Int32.ofNat n))] [])
  refine Go.ret0 X2 hlk hx Bd.returns (hb hby d40_9) (by decide) (by decide) ?_
  show Q_rmCI Z _ _ _ h0 n0 _ T2.heap _
  rw [e2q]
  exact ⟨rfl, N2, rfl⟩
def Q_rmLC (Z : State) (a1 : Addr) (fm : Value) (kb : ClassId) (cs : List Int32) (i : Nat) (h0 : Heap) (n0 : Nat) (v : Option Value) (h : Heap) (L : List Loc) : Prop := v = some (.int (own_chr (cs.getD i 0))) ∧ Fr n0 L ∧ h = h0
set_option maxRecDepth 65536 in
set_option maxHeartbeats 40000000 in
theorem rmLC (l : Launch) (Z : State) (a0 : Array Value) (hw : ∀ d ∈ tables_1, d.before a0 Z = true) (ws : List Jvm.Cond) (a1 : Addr) (fm : Value) (kb : ClassId) (cs : List Int32) (i : Nat) (h0 : Heap) (n0 : Nat) (O : Old Z n0 h0) (S_SIO : Sta Z Z.heap "jdk/internal/util/Preconditions" "SIOOBE_FORMATTER" "Ljava/util/function/BiFunction;" fm) (ref_fm : fm.isRef = true) (A_a1 : Arv Z h0 a1 kb .byte (Int32.ofNat cs.length) (cs.map Value.int) (.int 0)) (hi : i < cs.length) (hn : cs.length < 100000) :
    MetFree l (⟨"java/lang/StringLatin1", "charAt", "([BI)C"⟩ : MethodName) (head1 (Jvm.Cond.code (⟨"java/lang/StringLatin1", "charAt", "([BI)C"⟩ : MethodName) jdk_43_method_2_code 2 (some .char) :: ws) ({ frames := 2, cells := 0, slots := 0, locals := 27 } : Room)) (fun a U => a = #[(.ref a1), (.int (Int32.ofNat i))] ∧ Z.Warmed39 U.vm ∧ U.heap = h0) (fun _ _ _ _ _ => True) (fun _ U o U' => ∃ v L, o = .returned v ∧ Q_rmLC Z a1 fm kb cs i h0 n0 v U'.heap L ∧ FrameEnd U o U' L ({ frames := 2, cells := 0, slots := 0, locals := 27 } : Room).cells ({ frames := 2, cells := 0, slots := 0, locals := 27 } : Room).slots) := by
  refine MetFree.of_bodySF (plainFor_of_name pn_39) hisR ?_
  intro p e s m args below meth c s₁ Bd hml0 hP hK
  obtain ⟨rfl, hZ, hh⟩ := hP
  have hx := Bd.exec
  have hby := Bd.bytes
  have hml : c.maxLocals = 2 := hml0
  have hown : s.vm.findClass "java/lang/StringLatin1" = some m.cls := findClass_of_methodNamed Bd.named
  have hnm := (name_of_methodNamed Bd.named Bd.method).1
  have hlk : meth.locks = false := BodyLoose.notSynchronized Bd
  have X0 : Stand p l e ({ frames := 2, cells := 0, slots := 0, locals := 27 } : Room) s m #[(.ref a1), (.int (Int32.ofNat i))] below meth c s₁ [] 0 0 := Stand.of_body Bd
  have e0 : s₁.heap = h0 := by rw [← hh, Bd.state]; rfl
  have N0 := Fr.nil n0
  show Go p e below s ({ frames := 2, cells := 0, slots := 0, locals := 27 } : Room).cells ({ frames := 2, cells := 0, slots := 0, locals := 27 } : Room).slots (Q_rmLC Z a1 fm kb cs i h0 n0) s₁ (entryFrame m #[(.ref a1), (.int (Int32.ofNat i))] 2)
  refine Go.eq (ef_rmLC m a1 (Int32.ofNat i)) ?_
  show Go _ _ _ _ _ _ _  s₁ (mkF m 0 #[.val (.ref a1), .val (.int (Int32.ofNat i))] [])
  refine Go.st (fun tT kT => XS.iloadN X0.here hx rfl (hb hby d39_0) rfl  kT) ?_
  show Go _ _ _ _ _ _ _  s₁ (mkF m 1 #[.val (.ref a1), .val (.int (Int32.ofNat i))] [(.int (Int32.ofNat i))])
  refine Go.st (fun tT kT => XS.aloadN X0.here hx rfl (hb hby d39_1) rfl rfl  kT) ?_
  show Go _ _ _ _ _ _ _  s₁ (mkF m 2 #[.val (.ref a1), .val (.int (Int32.ofNat i))] [(.ref a1), (.int (Int32.ofNat i))])
  obtain ⟨cl1, Ar1, q1, S1, M1, Hh1, G1⟩ := id A_a1
  refine Go.st (X0.arraylength hx (by rw [e0]; exact Ar1.1) (State.isArrayOf_alike hZ.alike Ar1.2.1) (g := (mkF m 2 #[.val (.ref a1), .val (.int (Int32.ofNat i))] [(.ref a1), (.int (Int32.ofNat i))])) rfl rfl (hb hby d39_2)) ?_
  rw [len_of S1 M1]
  show Go _ _ _ _ _ _ _  s₁ (mkF m 3 #[.val (.ref a1), .val (.int (Int32.ofNat i))] [(.int (Int32.ofNat cs.length)), (.int (Int32.ofNat i))])
  refine Go.pureS (w := none) (rest := []) (pc' := 6) (Jvm.LawKit.callS X0 hx (y := (⟨"java/lang/String", "checkIndex", "(II)V"⟩ : MethodName)) hown (mvT hZ (hw _ (List.mem_of_getElem? (i := 236) rfl))) (mvT hZ (hw _ (List.mem_of_getElem? (i := 237) rfl))) (mvT hZ (hw _ (List.mem_of_getElem? (i := 5) rfl))) (mvT hZ (hw _ (List.mem_of_getElem? (i := 238) rfl))) (by decide) (backOf (W := 0) (rmCI l Z a0 hw [] fm i cs.length h0 n0 O S_SIO ref_fm hi hn) hZ (hw _ (List.mem_of_getElem? (i := 238) rfl)) (hw _ (List.mem_of_getElem? (i := 5) rfl)) (by decide) (by decide)) (g := (mkF m 3 #[.val (.ref a1), .val (.int (Int32.ofNat i))] [(.int (Int32.ofNat cs.length)), (.int (Int32.ofNat i))])) rfl (by rw [hml]; rfl) (argsL := [(.int (Int32.ofNat i)), (.int (Int32.ofNat cs.length))]) (rest := []) (lenOf pd__II_V rfl) rfl (by show 2 * 0 + _ ≤ _; exact Nat.le_of_eq rfl) (hb hby d39_3) (fun _ _ => ⟨rfl, e0, (by decide : 0 + 0 ≤ _), (by decide : 0 + 0 ≤ _)⟩)) (fun _ _ _ q => q) N0 (fun T2 L2 X2 e2q N2 => ?_)
  show Go _ _ _ _ _ _ _  T2 (mkF m 6 #[.val (.ref a1), .val (.int (Int32.ofNat i))] [])
  refine Go.st (fun tT kT => XS.aloadN X2.here hx rfl (hb hby d39_6) rfl rfl  kT) ?_
  show Go _ _ _ _ _ _ _  T2 (mkF m 7 #[.val (.ref a1), .val (.int (Int32.ofNat i))] [(.ref a1)])
  refine Go.st (fun tT kT => XS.iloadN X2.here hx rfl (hb hby d39_7) rfl  kT) ?_
  show Go _ _ _ _ _ _ _  T2 (mkF m 8 #[.val (.ref a1), .val (.int (Int32.ofNat i))] [(.int (Int32.ofNat i)), (.ref a1)])
  obtain ⟨cl3, Ar3, q3, S3, M3, Hh3, G3⟩ := id A_a1
  refine Go.st (X2.baloadBytes hx (j := (Int32.ofNat i)) (v := (.int (cs.getD i 0))) (by rw [e2q]; exact Ar3.1) (State.isArrayOf_alike hZ.alike Ar3.2.1) Ar3.2.2 (inb_of S3 ⟨own_onn (by omega), (own_olt (by omega) (by omega)).mpr hi⟩) (Hh3.at (inb_of S3 ⟨own_onn (by omega), (own_olt (by omega) (by omega)).mpr hi⟩) (by rw [own_ocl (by omega)]; exact own_gm cs i)) (g := (mkF m 8 #[.val (.ref a1), .val (.int (Int32.ofNat i))] [(.int (Int32.ofNat i)), (.ref a1)])) rfl rfl (hb hby d39_8)) ?_
  show Go _ _ _ _ _ _ _  T2 (mkF m 9 #[.val (.ref a1), .val (.int (Int32.ofNat i))] [(.int (cs.getD i 0))])
  refine Go.st (fun tT kT => XS.sipush X2.here hx rfl (hb hby d39_9) kT) ?_
  show Go _ _ _ _ _ _ _  T2 (mkF m 12 #[.val (.ref a1), .val (.int (Int32.ofNat i))] [(.int (255 : Int32)), (.int (cs.getD i 0))])
  refine Go.st (fun tT kT => XS.iand X2.here hx rfl (hb hby d39_12) rfl kT) ?_
  show Go _ _ _ _ _ _ _  T2 (mkF m 13 #[.val (.ref a1), .val (.int (Int32.ofNat i))] [(.int ((cs.getD i 0) &&& (255 : Int32)))])
  refine Go.st (fun tT kT => XS.i2c X2.here hx rfl (hb hby d39_13) rfl kT) ?_
  show Go _ _ _ _ _ _ _  T2 (mkF m 14 #[.val (.ref a1), .val (.int (Int32.ofNat i))] [(.int (((cs.getD i 0) &&& (255 : Int32)).toUInt32.toUInt16.toUInt32.toInt32))])
  refine Go.retN X2 hlk hx (t := .char) (z' := (((cs.getD i 0) &&& (255 : Int32)).toUInt32.toUInt16.toUInt32.toInt32)) Bd.returns (by simp) (hb hby d39_14) (by decide) (by decide) (own_nch _) ?_
  show Q_rmLC Z _ _ _ _ _ h0 n0 _ T2.heap _
  rw [e2q]
  exact ⟨rfl, N2, rfl⟩
def Q_rmIsL (Z : State) (a1 : Addr) (zc : Int32) (h0 : Heap) (n0 : Nat) (v : Option Value) (h : Heap) (L : List Loc) : Prop := v = some (.int 1) ∧ Fr n0 L ∧ h = h0
set_option maxRecDepth 65536 in
set_option maxHeartbeats 40000000 in
theorem rmIsL (l : Launch) (Z : State) (a0 : Array Value) (hw : ∀ d ∈ tables_1, d.before a0 Z = true) (ws : List Jvm.Cond) (a1 : Addr) (zc : Int32) (h0 : Heap) (n0 : Nat) (O : Old Z n0 h0) (S_COMPACT : Sta Z Z.heap "java/lang/String" "COMPACT_STRINGS" "Z" (.int zc)) (hcs : ¬ zc = 0) (C_a1 : Fld Z h0 a1 "java/lang/String" "coder" "B" (.int 0)) :
    MetFree l (⟨"java/lang/String", "isLatin1", "()Z"⟩ : MethodName) (head1 (Jvm.Cond.code (⟨"java/lang/String", "isLatin1", "()Z"⟩ : MethodName) jdk_42_method_154_code 1 (some .boolean) :: ws) ({ frames := 0, cells := 0, slots := 0, locals := 0 } : Room)) (fun a U => a = #[(.ref a1)] ∧ Z.Warmed39 U.vm ∧ U.heap = h0) (fun _ _ _ _ _ => True) (fun _ U o U' => ∃ v L, o = .returned v ∧ Q_rmIsL Z a1 zc h0 n0 v U'.heap L ∧ FrameEnd U o U' L ({ frames := 0, cells := 0, slots := 0, locals := 0 } : Room).cells ({ frames := 0, cells := 0, slots := 0, locals := 0 } : Room).slots) := by
  refine MetFree.of_bodySF (plainFor_of_name pn_38) hisR ?_
  intro p e s m args below meth c s₁ Bd hml0 hP hK
  obtain ⟨rfl, hZ, hh⟩ := hP
  have hx := Bd.exec
  have hby := Bd.bytes
  have hml : c.maxLocals = 1 := hml0
  have hown : s.vm.findClass "java/lang/String" = some m.cls := findClass_of_methodNamed Bd.named
  have hnm := (name_of_methodNamed Bd.named Bd.method).1
  have hlk : meth.locks = false := BodyLoose.notSynchronized Bd
  have X0 : Stand p l e ({ frames := 0, cells := 0, slots := 0, locals := 0 } : Room) s m #[(.ref a1)] below meth c s₁ [] 0 0 := Stand.of_body Bd
  have e0 : s₁.heap = h0 := by rw [← hh, Bd.state]; rfl
  have N0 := Fr.nil n0
  show Go p e below s ({ frames := 0, cells := 0, slots := 0, locals := 0 } : Room).cells ({ frames := 0, cells := 0, slots := 0, locals := 0 } : Room).slots (Q_rmIsL Z a1 zc h0 n0) s₁ (entryFrame m #[(.ref a1)] 1)
  refine Go.eq (ef_rmIsL m a1) ?_
  show Go _ _ _ _ _ _ _  s₁ (mkF m 0 #[.val (.ref a1)] [])
  obtain ⟨T1, X1, e1, st1⟩ := getS2 X0 hx hZ hown (host := "") (Or.inl (hw _ (List.mem_of_getElem? (i := 58) rfl))) Via.refl e0 (S_COMPACT.ext O.2) (g := (mkF m 0 #[.val (.ref a1)] [])) rfl (hb hby d38_0)
  refine Go.st st1 ?_
  show Go _ _ _ _ _ _ _  T1 (mkF m 3 #[.val (.ref a1)] [(.int zc)])
  refine Go.st (fun tT kT => XS.ifNo X1.here hx rfl (hb hby d38_3) rfl ((if0 _ _).trans (feq (hcs : ¬ (zc = (0 : Int32)))).1) kT) ?_
  show Go _ _ _ _ _ _ _  T1 (mkF m 6 #[.val (.ref a1)] [])
  refine Go.st (fun tT kT => XS.aloadN X1.here hx rfl (hb hby d38_6) rfl rfl  kT) ?_
  show Go _ _ _ _ _ _ _  T1 (mkF m 7 #[.val (.ref a1)] [(.ref a1)])
  obtain ⟨T2, X2, e2, st2⟩ := getF X1 hx hZ hown (host := "") (Or.inl (hw _ (List.mem_of_getElem? (i := 59) rfl))) Via.refl e1 C_a1 (g := (mkF m 7 #[.val (.ref a1)] [(.ref a1)])) rfl rfl (hb hby d38_7)
  refine Go.st st2 ?_
  show Go _ _ _ _ _ _ _  T2 (mkF m 10 #[.val (.ref a1)] [(.int (0 : Int32))])
  refine Go.st (fun tT kT => XS.ifNo X2.here hx rfl (hb hby d38_10) rfl ((if0 _ _).trans (teq (rfl : (0 : Int32) = (0 : Int32))).2) kT) ?_
  show Go _ _ _ _ _ _ _  T2 (mkF m 13 #[.val (.ref a1)] [])
  refine Go.st (fun tT kT => XS.iconst X2.here hx rfl (hb hby d38_13) kT) ?_
  show Go _ _ _ _ _ _ _  T2 (mkF m 14 #[.val (.ref a1)] [(.int (1 : Int32))])
  refine Go.st (fun tT kT => XS.goto X2.here hx rfl (pc0 := 14) (pc' := 18) rfl (hb hby d38_14) (by decide) (by decide) kT) ?_
  show Go _ _ _ _ _ _ _  T2 (mkF m 18 #[.val (.ref a1)] [(.int (1 : Int32))])
  refine Go.retN X2 hlk hx (t := .boolean) (z' := (1 : Int32)) Bd.returns (by simp) (hb hby d38_18) (by decide) (by decide) rfl ?_
  show Q_rmIsL Z _ _ h0 n0 _ T2.heap _
  rw [e2]
  exact ⟨rfl, N0, rfl⟩
def Q_rmCA (Z : State) (a1 : Addr) (zc : Int32) (fm : Value) (t : Addr) (kb : ClassId) (cs : List Int32) (i : Nat) (h0 : Heap) (n0 : Nat) (v : Option Value) (h : Heap) (L : List Loc) : Prop := v = some (.int (own_chr (cs.getD i 0))) ∧ Fr n0 L ∧ h = h0
set_option maxRecDepth 65536 in
set_option maxHeartbeats 40000000 in
theorem rmCA (l : Launch) (Z : State) (a0 : Array Value) (hw : ∀ d ∈ tables_1, d.before a0 Z = true) (ws : List Jvm.Cond) (a1 : Addr) (zc : Int32) (fm : Value) (t : Addr) (kb : ClassId) (cs : List Int32) (i : Nat) (h0 : Heap) (n0 : Nat) (O : Old Z n0 h0) (S_COMPACT : Sta Z Z.heap "java/lang/String" "COMPACT_STRINGS" "Z" (.int zc)) (hcs : ¬ zc = 0) (S_SIO : Sta Z Z.heap "jdk/internal/util/Preconditions" "SIOOBE_FORMATTER" "Ljava/util/function/BiFunction;" fm) (ref_fm : fm.isRef = true) (E_a1 : Exa Z h0 a1 "java/lang/String") (C_a1 : Fld Z h0 a1 "java/lang/String" "coder" "B" (.int 0)) (V_a1 : Fld Z h0 a1 "java/lang/String" "value" "[B" (.ref t)) (A_t : Arv Z h0 t kb .byte (Int32.ofNat cs.length) (cs.map Value.int) (.int 0)) (hi : i < cs.length) (hn : cs.length < 100000) :
    MetFree l (⟨"java/lang/String", "charAt", "(I)C"⟩ : MethodName) (head1 (Jvm.Cond.code (⟨"java/lang/String", "charAt", "(I)C"⟩ : MethodName) jdk_42_method_56_code 2 (some .char) :: ws) ({ frames := 3, cells := 0, slots := 0, locals := 40 } : Room)) (fun a U => a = #[(.ref a1), (.int (Int32.ofNat i))] ∧ Z.Warmed39 U.vm ∧ U.heap = h0) (fun _ _ _ _ _ => True) (fun _ U o U' => ∃ v L, o = .returned v ∧ Q_rmCA Z a1 zc fm t kb cs i h0 n0 v U'.heap L ∧ FrameEnd U o U' L ({ frames := 3, cells := 0, slots := 0, locals := 40 } : Room).cells ({ frames := 3, cells := 0, slots := 0, locals := 40 } : Room).slots) := by
  refine MetFree.of_bodySF (plainFor_of_name pn_37) hisR ?_
  intro p e s m args below meth c s₁ Bd hml0 hP hK
  obtain ⟨rfl, hZ, hh⟩ := hP
  have hx := Bd.exec
  have hby := Bd.bytes
  have hml : c.maxLocals = 2 := hml0
  have hown : s.vm.findClass "java/lang/String" = some m.cls := findClass_of_methodNamed Bd.named
  have hnm := (name_of_methodNamed Bd.named Bd.method).1
  have hlk : meth.locks = false := BodyLoose.notSynchronized Bd
  have X0 : Stand p l e ({ frames := 3, cells := 0, slots := 0, locals := 40 } : Room) s m #[(.ref a1), (.int (Int32.ofNat i))] below meth c s₁ [] 0 0 := Stand.of_body Bd
  have e0 : s₁.heap = h0 := by rw [← hh, Bd.state]; rfl
  have N0 := Fr.nil n0
  show Go p e below s ({ frames := 3, cells := 0, slots := 0, locals := 40 } : Room).cells ({ frames := 3, cells := 0, slots := 0, locals := 40 } : Room).slots (Q_rmCA Z a1 zc fm t kb cs i h0 n0) s₁ (entryFrame m #[(.ref a1), (.int (Int32.ofNat i))] 2)
  refine Go.eq (ef_rmCA m a1 (Int32.ofNat i)) ?_
  show Go _ _ _ _ _ _ _  s₁ (mkF m 0 #[.val (.ref a1), .val (.int (Int32.ofNat i))] [])
  refine Go.st (fun tT kT => XS.aloadN X0.here hx rfl (hb hby d37_0) rfl rfl  kT) ?_
  show Go _ _ _ _ _ _ _  s₁ (mkF m 1 #[.val (.ref a1), .val (.int (Int32.ofNat i))] [(.ref a1)])
  obtain ⟨cq1, kq1, q1a, q1b, q1c⟩ := isOf hZ e0 E_a1
  refine Go.pure (w := (some (.int (1 : Int32)))) (rest := []) (pc' := 4) (X0.virtualBack hx (y := (⟨"java/lang/String", "isLatin1", "()Z"⟩ : MethodName)) (z := (⟨"java/lang/String", "isLatin1", "()Z"⟩ : MethodName)) hown (mvT hZ (hw _ (List.mem_of_getElem? (i := 227) rfl))) (mvT hZ (hw _ (List.mem_of_getElem? (i := 228) rfl))) (notFace_of_selects (args := #[]) (mvT hZ (hw _ (List.mem_of_getElem? (i := 230) rfl)))) (mvT hZ (hw _ (List.mem_of_getElem? (i := 230) rfl))) (mvT hZ (hw _ (List.mem_of_getElem? (i := 229) rfl))) (by decide) (backOf (W := 0) (rmIsL l Z a0 hw [] a1 zc h0 n0 O S_COMPACT hcs C_a1) hZ (hw _ (List.mem_of_getElem? (i := 231) rfl)) (hw _ (List.mem_of_getElem? (i := 5) rfl)) (by decide) (by decide)) q1a q1c (g := (mkF m 1 #[.val (.ref a1), .val (.int (Int32.ofNat i))] [(.ref a1)])) rfl (by rw [hml]; rfl) (Steps.refl _) (argsL := []) (rest := []) (lenOf pd___Z rfl) rfl (by show 2 * 0 + _ ≤ _; exact Nat.le_of_eq rfl) (hb hby d37_1) (fun _ _ => ⟨rfl, e0, (by decide : 0 + 0 ≤ _), (by decide : 0 + 0 ≤ _)⟩)) (fun _ _ _ q => q) N0 (fun T1 L1 X1 e1q N1 => ?_)
  show Go _ _ _ _ _ _ _  T1 (mkF m 4 #[.val (.ref a1), .val (.int (Int32.ofNat i))] [(.int (1 : Int32))])
  refine Go.st (fun tT kT => XS.ifNo X1.here hx rfl (hb hby d37_4) rfl ((if0 _ _).trans (feq (by decide : ¬ ((1 : Int32) = (0 : Int32)))).1) kT) ?_
  show Go _ _ _ _ _ _ _  T1 (mkF m 7 #[.val (.ref a1), .val (.int (Int32.ofNat i))] [])
  refine Go.st (fun tT kT => XS.aloadN X1.here hx rfl (hb hby d37_7) rfl rfl  kT) ?_
  show Go _ _ _ _ _ _ _  T1 (mkF m 8 #[.val (.ref a1), .val (.int (Int32.ofNat i))] [(.ref a1)])
  obtain ⟨T2, X2, e2, st2⟩ := getF X1 hx hZ hown (host := "") (Or.inl (hw _ (List.mem_of_getElem? (i := 52) rfl))) Via.refl e1q V_a1 (g := (mkF m 8 #[.val (.ref a1), .val (.int (Int32.ofNat i))] [(.ref a1)])) rfl rfl (hb hby d37_8)
  refine Go.st st2 ?_
  show Go _ _ _ _ _ _ _  T2 (mkF m 11 #[.val (.ref a1), .val (.int (Int32.ofNat i))] [(.ref t)])
  refine Go.st (fun tT kT => XS.iloadN X2.here hx rfl (hb hby d37_11) rfl  kT) ?_
  show Go _ _ _ _ _ _ _  T2 (mkF m 12 #[.val (.ref a1), .val (.int (Int32.ofNat i))] [(.int (Int32.ofNat i)), (.ref t)])
  refine Go.pureS (w := (some (.int (own_chr (cs.getD i 0))))) (rest := []) (pc' := 15) (Jvm.LawKit.callS X2 hx (y := (⟨"java/lang/StringLatin1", "charAt", "([BI)C"⟩ : MethodName)) hown (mvT hZ (hw _ (List.mem_of_getElem? (i := 232) rfl))) (mvT hZ (hw _ (List.mem_of_getElem? (i := 233) rfl))) (mvT hZ (hw _ (List.mem_of_getElem? (i := 234) rfl))) (mvT hZ (hw _ (List.mem_of_getElem? (i := 235) rfl))) (by decide) (backOf (W := 0) (rmLC l Z a0 hw [] t fm kb cs i h0 n0 O S_SIO ref_fm A_t hi hn) hZ (hw _ (List.mem_of_getElem? (i := 235) rfl)) (hw _ (List.mem_of_getElem? (i := 234) rfl)) (by decide) (by decide)) (g := (mkF m 12 #[.val (.ref a1), .val (.int (Int32.ofNat i))] [(.int (Int32.ofNat i)), (.ref t)])) rfl (by rw [hml]; rfl) (argsL := [(.ref t), (.int (Int32.ofNat i))]) (rest := []) (lenOf pd___BI_C rfl) rfl (by show 2 * 0 + _ ≤ _; exact Nat.le_of_eq rfl) (hb hby d37_12) (fun _ _ => ⟨rfl, e2, (by decide : 0 + 0 ≤ _), (by decide : 0 + 0 ≤ _)⟩)) (fun _ _ _ q => q) N1 (fun T3 L3 X3 e3q N3 => ?_)
  show Go _ _ _ _ _ _ _  T3 (mkF m 15 #[.val (.ref a1), .val (.int (Int32.ofNat i))] [(.int (own_chr (cs.getD i 0)))])
  refine Go.retN X3 hlk hx (t := .char) (z' := (own_chr (cs.getD i 0))) Bd.returns (by simp) (hb hby d37_15) (by decide) (by decide) (own_nchr _) ?_
  show Q_rmCA Z _ _ _ _ _ _ _ h0 n0 _ T3.heap _
  rw [e3q]
  exact ⟨rfl, N3, rfl⟩
theorem rmCAf (p2 : Int32) (l : Launch) (Z : State) (a0 : Array Value) (hw : ∀ d ∈ tables_1, d.before a0 Z = true) (ws : List Jvm.Cond) (a1 : Addr) (zc : Int32) (fm : Value) (t : Addr) (kb : ClassId) (cs : List Int32) (i : Nat) (h0 : Heap) (n0 : Nat) (O : Old Z n0 h0) (S_COMPACT : Sta Z Z.heap "java/lang/String" "COMPACT_STRINGS" "Z" (.int zc)) (hcs : ¬ zc = 0) (S_SIO : Sta Z Z.heap "jdk/internal/util/Preconditions" "SIOOBE_FORMATTER" "Ljava/util/function/BiFunction;" fm) (ref_fm : fm.isRef = true) (E_a1 : Exa Z h0 a1 "java/lang/String") (C_a1 : Fld Z h0 a1 "java/lang/String" "coder" "B" (.int 0)) (V_a1 : Fld Z h0 a1 "java/lang/String" "value" "[B" (.ref t)) (A_t : Arv Z h0 t kb .byte (Int32.ofNat cs.length) (cs.map Value.int) (.int 0)) (hi : i < cs.length) (hn : cs.length < 100000) (hp_p2 : p2 = (Int32.ofNat i)) :
    MetFree l (⟨"java/lang/String", "charAt", "(I)C"⟩ : MethodName) (head1 (Jvm.Cond.code (⟨"java/lang/String", "charAt", "(I)C"⟩ : MethodName) jdk_42_method_56_code 2 (some .char) :: ws) ({ frames := 3, cells := 0, slots := 0, locals := 40 } : Room)) (fun a U => a = #[(.ref a1), (.int p2)] ∧ Z.Warmed39 U.vm ∧ U.heap = h0) (fun _ _ _ _ _ => True) (fun _ U o U' => ∃ v L, o = .returned v ∧ Q_rmCA Z a1 zc fm t kb cs i h0 n0 v U'.heap L ∧ FrameEnd U o U' L ({ frames := 3, cells := 0, slots := 0, locals := 40 } : Room).cells ({ frames := 3, cells := 0, slots := 0, locals := 40 } : Room).slots) := by
  subst hp_p2
  exact rmCA l Z a0 hw ws a1 zc fm t kb cs i h0 n0 O S_COMPACT hcs S_SIO ref_fm E_a1 C_a1 V_a1 A_t hi hn
def Q_rmCE (Z : State) (p1 : Int32) (h0 : Heap) (n0 : Nat) (v : Option Value) (h : Heap) (L : List Loc) : Prop := v = some (.int 1) ∧ Fr n0 L ∧ h = h0
set_option maxRecDepth 65536 in
set_option maxHeartbeats 40000000 in
theorem rmCE (l : Launch) (Z : State) (a0 : Array Value) (hw : ∀ d ∈ tables_1, d.before a0 Z = true) (ws : List Jvm.Cond) (p1 : Int32) (h0 : Heap) (n0 : Nat) (O : Old Z n0 h0) (hc : ¬ (255 : Int32) < p1) :
    MetFree l (⟨"java/lang/StringLatin1", "canEncode", "(C)Z"⟩ : MethodName) (head1 (Jvm.Cond.code (⟨"java/lang/StringLatin1", "canEncode", "(C)Z"⟩ : MethodName) jdk_43_method_3_code 1 (some .boolean) :: ws) ({ frames := 0, cells := 0, slots := 0, locals := 0 } : Room)) (fun a U => a = #[(.int p1)] ∧ Z.Warmed39 U.vm ∧ U.heap = h0) (fun _ _ _ _ _ => True) (fun _ U o U' => ∃ v L, o = .returned v ∧ Q_rmCE Z p1 h0 n0 v U'.heap L ∧ FrameEnd U o U' L ({ frames := 0, cells := 0, slots := 0, locals := 0 } : Room).cells ({ frames := 0, cells := 0, slots := 0, locals := 0 } : Room).slots) := by
  refine MetFree.of_bodySF (plainFor_of_name pn_49) hisR ?_
  intro p e s m args below meth c s₁ Bd hml0 hP hK
  obtain ⟨rfl, hZ, hh⟩ := hP
  have hx := Bd.exec
  have hby := Bd.bytes
  have hml : c.maxLocals = 1 := hml0
  have hown : s.vm.findClass "java/lang/StringLatin1" = some m.cls := findClass_of_methodNamed Bd.named
  have hnm := (name_of_methodNamed Bd.named Bd.method).1
  have hlk : meth.locks = false := BodyLoose.notSynchronized Bd
  have X0 : Stand p l e ({ frames := 0, cells := 0, slots := 0, locals := 0 } : Room) s m #[(.int p1)] below meth c s₁ [] 0 0 := Stand.of_body Bd
  have e0 : s₁.heap = h0 := by rw [← hh, Bd.state]; rfl
  have N0 := Fr.nil n0
  show Go p e below s ({ frames := 0, cells := 0, slots := 0, locals := 0 } : Room).cells ({ frames := 0, cells := 0, slots := 0, locals := 0 } : Room).slots (Q_rmCE Z p1 h0 n0) s₁ (entryFrame m #[(.int p1)] 1)
  refine Go.eq (ef_rmCE m p1) ?_
  show Go _ _ _ _ _ _ _  s₁ (mkF m 0 #[.val (.int p1)] [])
  refine Go.st (fun tT kT => XS.iloadN X0.here hx rfl (hb hby d49_0) rfl  kT) ?_
  show Go _ _ _ _ _ _ _  s₁ (mkF m 1 #[.val (.int p1)] [(.int p1)])
  refine Go.st (fun tT kT => XS.sipush X0.here hx rfl (hb hby d49_1) kT) ?_
  show Go _ _ _ _ _ _ _  s₁ (mkF m 4 #[.val (.int p1)] [(.int (255 : Int32)), (.int p1)])
  refine Go.st (fun tT kT => XS.icmpNo X0.here hx rfl (hb hby d49_4) rfl (flt (hc : ¬ ((255 : Int32) < p1))).2.2.1 kT) ?_
  show Go _ _ _ _ _ _ _  s₁ (mkF m 7 #[.val (.int p1)] [])
  refine Go.st (fun tT kT => XS.iconst X0.here hx rfl (hb hby d49_7) kT) ?_
  show Go _ _ _ _ _ _ _  s₁ (mkF m 8 #[.val (.int p1)] [(.int (1 : Int32))])
  refine Go.st (fun tT kT => XS.goto X0.here hx rfl (pc0 := 8) (pc' := 12) rfl (hb hby d49_8) (by decide) (by decide) kT) ?_
  show Go _ _ _ _ _ _ _  s₁ (mkF m 12 #[.val (.int p1)] [(.int (1 : Int32))])
  refine Go.retN X0 hlk hx (t := .boolean) (z' := (1 : Int32)) Bd.returns (by simp) (hb hby d49_12) (by decide) (by decide) rfl ?_
  show Q_rmCE Z _ h0 n0 _ s₁.heap _
  rw [e0]
  exact ⟨rfl, N0, rfl⟩
def Q_rmTB (Z : State) (p1 : Int32) (h0 : Heap) (n0 : Nat) (v : Option Value) (h : Heap) (L : List Loc) : Prop := ∃ (b : Addr) (kb : ClassId), v = some (.ref b) ∧ Fr n0 L ∧ Ext h0 h ∧ h0.size ≤ b ∧ Arv Z h b kb .byte 1 [.int (nar .byte p1.toInt8.toInt32)] (.int 0)
set_option maxRecDepth 65536 in
set_option maxHeartbeats 40000000 in
theorem rmTB (l : Launch) (Z : State) (a0 : Array Value) (hw : ∀ d ∈ tables_1, d.before a0 Z = true) (ws : List Jvm.Cond) (p1 : Int32) (h0 : Heap) (n0 : Nat) (O : Old Z n0 h0) :
    MetFree l (⟨"java/lang/StringLatin1", "toBytes", "(C)[B"⟩ : MethodName) (head1 (Jvm.Cond.code (⟨"java/lang/StringLatin1", "toBytes", "(C)[B"⟩ : MethodName) jdk_43_method_46_code 1 (some (.array .byte)) :: ws) ({ frames := 0, cells := 1, slots := 1, locals := 0 } : Room)) (fun a U => a = #[(.int p1)] ∧ Z.Warmed39 U.vm ∧ U.heap = h0) (fun _ _ _ _ _ => True) (fun _ U o U' => ∃ v L, o = .returned v ∧ Q_rmTB Z p1 h0 n0 v U'.heap L ∧ FrameEnd U o U' L ({ frames := 0, cells := 1, slots := 1, locals := 0 } : Room).cells ({ frames := 0, cells := 1, slots := 1, locals := 0 } : Room).slots) := by
  refine MetFree.of_bodySF (plainFor_of_name pn_50) hisR ?_
  intro p e s m args below meth c s₁ Bd hml0 hP hK
  obtain ⟨rfl, hZ, hh⟩ := hP
  have hx := Bd.exec
  have hby := Bd.bytes
  have hml : c.maxLocals = 1 := hml0
  have hown : s.vm.findClass "java/lang/StringLatin1" = some m.cls := findClass_of_methodNamed Bd.named
  have hnm := (name_of_methodNamed Bd.named Bd.method).1
  have hlk : meth.locks = false := BodyLoose.notSynchronized Bd
  have X0 : Stand p l e ({ frames := 0, cells := 1, slots := 1, locals := 0 } : Room) s m #[(.int p1)] below meth c s₁ [] 0 0 := Stand.of_body Bd
  have e0 : s₁.heap = h0 := by rw [← hh, Bd.state]; rfl
  have N0 := Fr.nil n0
  have KK : Keep h0 h0 [] := Keep.refl h0 _
  show Go p e below s ({ frames := 0, cells := 1, slots := 1, locals := 0 } : Room).cells ({ frames := 0, cells := 1, slots := 1, locals := 0 } : Room).slots (Q_rmTB Z p1 h0 n0) s₁ (entryFrame m #[(.int p1)] 1)
  refine Go.eq (ef_rmTB m p1) ?_
  show Go _ _ _ _ _ _ _  s₁ (mkF m 0 #[.val (.int p1)] [])
  refine Go.st (fun tT kT => XS.iconst X0.here hx rfl (hb hby d50_0) kT) ?_
  show Go _ _ _ _ _ _ _  s₁ (mkF m 1 #[.val (.int p1)] [(.int (1 : Int32))])
  obtain ⟨T1, h1, k1, X1, e1, E1, A1, st1⟩ := newP X0 hx hZ (hw _ (List.mem_of_getElem? (i := 7) rfl)) e0 (g := (mkF m 1 #[.val (.int p1)] [(.int (1 : Int32))])) rfl (hb hby d50_1) rfl (by decide) (cap := 1) (by decide) (by decide) (by decide) (by decide)
  obtain ⟨b1, g1⟩ : ∃ z, z = h0.size := ⟨_, rfl⟩
  rw [← g1] at A1 st1
  refine Go.st st1 ?_
  have g_b1 : n0 ≤ b1 := by rw [g1]; exact own_le O
  have sz_b1 : h0.size ≤ b1 := by rw [g1]; exact KK.1
  have O := O.ext E1
  have KK := KK.ext E1
  have V_b1 : Arv Z h1 b1 k1 .byte (1 : Int32) [(.int (0 : Int32))] (.int (0 : Int32)) := (Arv.new A1 (by decide)).pad (pad_rep [] (.int (0 : Int32)) 1)
  show Go _ _ _ _ _ _ _  T1 (mkF m 3 #[.val (.int p1)] [(.ref b1)])
  refine Go.st (fun tT kT => XS.dup X1.here hx rfl (hb hby d50_3) rfl rfl kT) ?_
  show Go _ _ _ _ _ _ _  T1 (mkF m 4 #[.val (.int p1)] [(.ref b1), (.ref b1)])
  refine Go.st (fun tT kT => XS.iconst X1.here hx rfl (hb hby d50_4) kT) ?_
  show Go _ _ _ _ _ _ _  T1 (mkF m 5 #[.val (.int p1)] [(.int (0 : Int32)), (.ref b1), (.ref b1)])
  refine Go.st (fun tT kT => XS.iloadN X1.here hx rfl (hb hby d50_5) rfl  kT) ?_
  show Go _ _ _ _ _ _ _  T1 (mkF m 6 #[.val (.int p1)] [(.int p1), (.int (0 : Int32)), (.ref b1), (.ref b1)])
  refine Go.st (fun tT kT => XS.i2b X1.here hx rfl (hb hby d50_6) rfl kT) ?_
  show Go _ _ _ _ _ _ _  T1 (mkF m 7 #[.val (.int p1)] [(.int (p1.toInt8.toInt32)), (.int (0 : Int32)), (.ref b1), (.ref b1)])
  obtain ⟨cl2, Ar2, q2, S2, M2, Hh2, G2⟩ := V_b1
  obtain ⟨T3, h3, X3, e3, W3, st3⟩ := stB X1 hx hZ e1 Ar2 (j := (0 : Int32)) (inb_of S2 ⟨by decide, by decide⟩) (g := (mkF m 7 #[.val (.int p1)] [(.int (p1.toInt8.toInt32)), (.int (0 : Int32)), (.ref b1), (.ref b1)])) rfl rfl (hb hby d50_7)
  refine Go.st st3 ?_
  have V_b1 : Arv Z h3 b1 k1 .byte (1 : Int32) [(.int (nar .byte (p1.toInt8.toInt32)))] (.int (0 : Int32)) := Arv.set Ar2 q2 S2 M2 Hh2 G2 (fits_nar_byte _) W3 0 rfl (Nat.le_of_ble_eq_true rfl)
  have N3 := Fr.snoc X3 N0 g_b1
  have O := O.wr W3 g_b1
  have KK := KK.wr W3 (Or.inr sz_b1)
  show Go _ _ _ _ _ _ _  T3 (mkF m 8 #[.val (.int p1)] [(.ref b1)])
  refine Go.retR X3 hlk hx Bd.returns rfl rfl rfl (hb hby d50_8) (by decide) (by decide) ?_
  show Q_rmTB Z _ h0 n0 _ T3.heap _
  rw [e3]
  exact ⟨_, _, rfl, N3, own_ext0 KK, sz_b1, V_b1⟩
def Q_rmSI (Z : State) (a1 : Addr) (a2 : Addr) (u1 : Value) (u2 : Value) (h0 : Heap) (n0 : Nat) (v : Option Value) (h : Heap) (L : List Loc) : Prop := v = none ∧ Fr n0 L ∧ Keep h0 h [a1] ∧ Exa Z h a1 "java/lang/String" ∧ Fld Z h a1 "java/lang/String" "coder" "B" (.int 0) ∧ Fld Z h a1 "java/lang/String" "value" "[B" (.ref a2)
set_option maxRecDepth 65536 in
set_option maxHeartbeats 40000000 in
theorem rmSI (l : Launch) (Z : State) (a0 : Array Value) (hw : ∀ d ∈ tables_1, d.before a0 Z = true) (ws : List Jvm.Cond) (a1 : Addr) (a2 : Addr) (u1 : Value) (u2 : Value) (h0 : Heap) (n0 : Nat) (O : Old Z n0 h0) (E_a1 : Exa Z h0 a1 "java/lang/String") (F_value_a1 : Fld Z h0 a1 "java/lang/String" "value" "[B" u1) (F_coder_a1 : Fld Z h0 a1 "java/lang/String" "coder" "B" u2) (g_a1 : n0 ≤ a1) :
    MetFree l (⟨"java/lang/String", "<init>", "([BB)V"⟩ : MethodName) (head1 (Jvm.Cond.code (⟨"java/lang/String", "<init>", "([BB)V"⟩ : MethodName) jdk_42_method_151_code 3 none :: ws) ({ frames := 1, cells := 0, slots := 0, locals := 12 } : Room)) (fun a U => a = #[(.ref a1), (.ref a2), (.int (0 : Int32))] ∧ Z.Warmed39 U.vm ∧ U.heap = h0) (fun _ _ _ _ _ => True) (fun _ U o U' => ∃ v L, o = .returned v ∧ Q_rmSI Z a1 a2 u1 u2 h0 n0 v U'.heap L ∧ FrameEnd U o U' L ({ frames := 1, cells := 0, slots := 0, locals := 12 } : Room).cells ({ frames := 1, cells := 0, slots := 0, locals := 12 } : Room).slots) := by
  refine MetFree.of_bodySF (plainFor_of_name pn_51) hisR ?_
  intro p e s m args below meth c s₁ Bd hml0 hP hK
  obtain ⟨rfl, hZ, hh⟩ := hP
  have hx := Bd.exec
  have hby := Bd.bytes
  have hml : c.maxLocals = 3 := hml0
  have hown : s.vm.findClass "java/lang/String" = some m.cls := findClass_of_methodNamed Bd.named
  have hnm := (name_of_methodNamed Bd.named Bd.method).1
  have hlk : meth.locks = false := BodyLoose.notSynchronized Bd
  have X0 : Stand p l e ({ frames := 1, cells := 0, slots := 0, locals := 12 } : Room) s m #[(.ref a1), (.ref a2), (.int (0 : Int32))] below meth c s₁ [] 0 0 := Stand.of_body Bd
  have e0 : s₁.heap = h0 := by rw [← hh, Bd.state]; rfl
  have N0 := Fr.nil n0
  have KK : Keep h0 h0 [a1] := Keep.refl h0 _
  show Go p e below s ({ frames := 1, cells := 0, slots := 0, locals := 12 } : Room).cells ({ frames := 1, cells := 0, slots := 0, locals := 12 } : Room).slots (Q_rmSI Z a1 a2 u1 u2 h0 n0) s₁ (entryFrame m #[(.ref a1), (.ref a2), (.int (0 : Int32))] 3)
  refine Go.eq (ef_rmSI m a1 a2) ?_
  show Go _ _ _ _ _ _ _  s₁ (mkF m 0 #[.val (.ref a1), .val (.ref a2), .val (.int (0 : Int32))] [])
  refine Go.st (fun tT kT => XS.aloadN X0.here hx rfl (hb hby d51_0) rfl rfl  kT) ?_
  show Go _ _ _ _ _ _ _  s₁ (mkF m 1 #[.val (.ref a1), .val (.ref a2), .val (.int (0 : Int32))] [(.ref a1)])
  obtain ⟨T1, X1, e1, st1⟩ := initO X0 hx hZ hown (hw _ (List.mem_of_getElem? (i := 101) rfl)) (hw _ (List.mem_of_getElem? (i := 29) rfl)) (hw _ (List.mem_of_getElem? (i := 30) rfl)) e0 (g := (mkF m 1 #[.val (.ref a1), .val (.ref a2), .val (.int (0 : Int32))] [(.ref a1)])) rfl (by rw [hml]; rfl) rfl (hb hby d51_1) (by decide) (W := 0) (by show 2 * 0 + _ ≤ _; exact Nat.le_of_eq rfl) (by decide)
  refine Go.st st1 ?_
  show Go _ _ _ _ _ _ _  T1 (mkF m 4 #[.val (.ref a1), .val (.ref a2), .val (.int (0 : Int32))] [])
  refine Go.st (fun tT kT => XS.aloadN X1.here hx rfl (hb hby d51_4) rfl rfl  kT) ?_
  show Go _ _ _ _ _ _ _  T1 (mkF m 5 #[.val (.ref a1), .val (.ref a2), .val (.int (0 : Int32))] [(.ref a1)])
  refine Go.st (fun tT kT => XS.aloadN X1.here hx rfl (hb hby d51_5) rfl rfl  kT) ?_
  show Go _ _ _ _ _ _ _  T1 (mkF m 6 #[.val (.ref a1), .val (.ref a2), .val (.int (0 : Int32))] [(.ref a2), (.ref a1)])
  obtain ⟨T2, h2, X2, e2, W2, st2⟩ := putF X1 hx hZ hown (host := "") (Or.inl (hw _ (List.mem_of_getElem? (i := 52) rfl))) Via.refl e1 F_value_a1 E_a1 (Or.inr ⟨(hw _ (List.mem_of_getElem? (i := 8) rfl)), rfl, hnm⟩) (hw _ (List.mem_of_getElem? (i := 6) rfl)) (ty := (.array .byte)) (by decide) rfl rfl (g := (mkF m 6 #[.val (.ref a1), .val (.ref a2), .val (.int (0 : Int32))] [(.ref a2), (.ref a1)])) rfl rfl (hb hby d51_6)
  refine Go.st st2 ?_
  have F_value_a1 : Fld Z h2 a1 "java/lang/String" "value" "[B" (.ref a2) := F_value_a1.same W2
  have N2 := Fr.snoc X2 N0 g_a1
  have E_a1 := E_a1.wr W2
  have F_coder_a1 := F_coder_a1.other W2 (Or.inr (slot_ne (Or.inr (hw _ (List.mem_of_getElem? (i := 9) rfl))) (Or.inr (hw _ (List.mem_of_getElem? (i := 8) rfl))) (by decide) (t := .byte) (t' := (.array .byte)) (by decide) (by decide)))
  have O := O.wr W2 g_a1
  have KK := KK.wr W2 (Or.inl (List.mem_of_getElem? (i := 0) rfl))
  show Go _ _ _ _ _ _ _  T2 (mkF m 9 #[.val (.ref a1), .val (.ref a2), .val (.int (0 : Int32))] [])
  refine Go.st (fun tT kT => XS.aloadN X2.here hx rfl (hb hby d51_9) rfl rfl  kT) ?_
  show Go _ _ _ _ _ _ _  T2 (mkF m 10 #[.val (.ref a1), .val (.ref a2), .val (.int (0 : Int32))] [(.ref a1)])
  refine Go.st (fun tT kT => XS.iloadN X2.here hx rfl (hb hby d51_10) rfl  kT) ?_
  show Go _ _ _ _ _ _ _  T2 (mkF m 11 #[.val (.ref a1), .val (.ref a2), .val (.int (0 : Int32))] [(.int (0 : Int32)), (.ref a1)])
  obtain ⟨T3, h3, X3, e3, W3, st3⟩ := putFN X2 hx hZ hown (hw _ (List.mem_of_getElem? (i := 59) rfl)) Via.refl e2 F_coder_a1 E_a1 (Or.inr ⟨(hw _ (List.mem_of_getElem? (i := 9) rfl)), rfl, hnm⟩) (hw _ (List.mem_of_getElem? (i := 6) rfl)) (ty := .byte) (v' := .int (0 : Int32)) (by decide) rfl rfl (g := (mkF m 11 #[.val (.ref a1), .val (.ref a2), .val (.int (0 : Int32))] [(.int (0 : Int32)), (.ref a1)])) rfl rfl (hb hby d51_11)
  refine Go.st st3 ?_
  have F_coder_a1 : Fld Z h3 a1 "java/lang/String" "coder" "B" (.int (0 : Int32)) := F_coder_a1.same W3
  have N3 := Fr.snoc X3 N2 g_a1
  have E_a1 := E_a1.wr W3
  have F_value_a1 := F_value_a1.other W3 (Or.inr (slot_ne (Or.inr (hw _ (List.mem_of_getElem? (i := 8) rfl))) (Or.inr (hw _ (List.mem_of_getElem? (i := 9) rfl))) (by decide) (t := (.array .byte)) (t' := .byte) (by decide) (by decide)))
  have O := O.wr W3 g_a1
  have KK := KK.wr W3 (Or.inl (List.mem_of_getElem? (i := 0) rfl))
  show Go _ _ _ _ _ _ _  T3 (mkF m 14 #[.val (.ref a1), .val (.ref a2), .val (.int (0 : Int32))] [])
  refine Go.ret0 X3 hlk hx Bd.returns (hb hby d51_14) (by decide) (by decide) ?_
  show Q_rmSI Z _ _ _ _ h0 n0 _ T3.heap _
  rw [e3]
  exact ⟨rfl, N3, KK, E_a1, F_coder_a1, F_value_a1⟩
def Q_rmVO (Z : State) (p1 : Int32) (zc : Int32) (h0 : Heap) (n0 : Nat) (v : Option Value) (h : Heap) (L : List Loc) : Prop := ∃ (b t : Addr) (kb : ClassId), v = some (.ref b) ∧ Fr n0 L ∧ Ext h0 h ∧ h0.size ≤ b ∧ h0.size ≤ t ∧ Exa Z h b "java/lang/String" ∧ Fld Z h b "java/lang/String" "coder" "B" (.int 0) ∧ Fld Z h b "java/lang/String" "value" "[B" (.ref t) ∧ Arv Z h t kb .byte 1 [.int (nar .byte p1.toInt8.toInt32)] (.int 0)
set_option maxRecDepth 65536 in
set_option maxHeartbeats 40000000 in
theorem rmVO (l : Launch) (Z : State) (a0 : Array Value) (hw : ∀ d ∈ tables_1, d.before a0 Z = true) (ws : List Jvm.Cond) (p1 : Int32) (zc : Int32) (h0 : Heap) (n0 : Nat) (O : Old Z n0 h0) (S_COMPACT : Sta Z Z.heap "java/lang/String" "COMPACT_STRINGS" "Z" (.int zc)) (hcs : ¬ zc = 0) (hc : ¬ (255 : Int32) < p1) :
    MetFree l (⟨"java/lang/String", "valueOf", "(C)Ljava/lang/String;"⟩ : MethodName) (head1 (Jvm.Cond.code (⟨"java/lang/String", "valueOf", "(C)Ljava/lang/String;"⟩ : MethodName) jdk_42_method_139_code 1 (some (.object "java/lang/String")) :: ws) ({ frames := 2, cells := 2, slots := 5, locals := 28 } : Room)) (fun a U => a = #[(.int p1)] ∧ Z.Warmed39 U.vm ∧ U.heap = h0) (fun _ _ _ _ _ => True) (fun _ U o U' => ∃ v L, o = .returned v ∧ Q_rmVO Z p1 zc h0 n0 v U'.heap L ∧ FrameEnd U o U' L ({ frames := 2, cells := 2, slots := 5, locals := 28 } : Room).cells ({ frames := 2, cells := 2, slots := 5, locals := 28 } : Room).slots) := by
  refine MetFree.of_bodySF (plainFor_of_name pn_48) hisR ?_
  intro p e s m args below meth c s₁ Bd hml0 hP hK
  obtain ⟨rfl, hZ, hh⟩ := hP
  have hx := Bd.exec
  have hby := Bd.bytes
  have hml : c.maxLocals = 1 := hml0
  have hown : s.vm.findClass "java/lang/String" = some m.cls := findClass_of_methodNamed Bd.named
  have hnm := (name_of_methodNamed Bd.named Bd.method).1
  have hlk : meth.locks = false := BodyLoose.notSynchronized Bd
  have X0 : Stand p l e ({ frames := 2, cells := 2, slots := 5, locals := 28 } : Room) s m #[(.int p1)] below meth c s₁ [] 0 0 := Stand.of_body Bd
  have e0 : s₁.heap = h0 := by rw [← hh, Bd.state]; rfl
  have N0 := Fr.nil n0
  have KK : Keep h0 h0 [] := Keep.refl h0 _
  show Go p e below s ({ frames := 2, cells := 2, slots := 5, locals := 28 } : Room).cells ({ frames := 2, cells := 2, slots := 5, locals := 28 } : Room).slots (Q_rmVO Z p1 zc h0 n0) s₁ (entryFrame m #[(.int p1)] 1)
  refine Go.eq (ef_rmVO m p1) ?_
  show Go _ _ _ _ _ _ _  s₁ (mkF m 0 #[.val (.int p1)] [])
  obtain ⟨T1, X1, e1, st1⟩ := getS2 X0 hx hZ hown (host := "") (Or.inl (hw _ (List.mem_of_getElem? (i := 58) rfl))) Via.refl e0 (S_COMPACT.ext O.2) (g := (mkF m 0 #[.val (.int p1)] [])) rfl (hb hby d48_0)
  refine Go.st st1 ?_
  show Go _ _ _ _ _ _ _  T1 (mkF m 3 #[.val (.int p1)] [(.int zc)])
  refine Go.st (fun tT kT => XS.ifNo X1.here hx rfl (hb hby d48_3) rfl ((if0 _ _).trans (feq (hcs : ¬ (zc = (0 : Int32)))).1) kT) ?_
  show Go _ _ _ _ _ _ _  T1 (mkF m 6 #[.val (.int p1)] [])
  refine Go.st (fun tT kT => XS.iloadN X1.here hx rfl (hb hby d48_6) rfl  kT) ?_
  show Go _ _ _ _ _ _ _  T1 (mkF m 7 #[.val (.int p1)] [(.int p1)])
  refine Go.pureS (w := (some (.int (1 : Int32)))) (rest := []) (pc' := 10) (Jvm.LawKit.callS X1 hx (y := (⟨"java/lang/StringLatin1", "canEncode", "(C)Z"⟩ : MethodName)) hown (mvT hZ (hw _ (List.mem_of_getElem? (i := 268) rfl))) (mvT hZ (hw _ (List.mem_of_getElem? (i := 269) rfl))) (mvT hZ (hw _ (List.mem_of_getElem? (i := 234) rfl))) (mvT hZ (hw _ (List.mem_of_getElem? (i := 270) rfl))) (by decide) (backOf (W := 0) (rmCE l Z a0 hw [] p1 h0 n0 O hc) hZ (hw _ (List.mem_of_getElem? (i := 270) rfl)) (hw _ (List.mem_of_getElem? (i := 234) rfl)) (by decide) (by decide)) (g := (mkF m 7 #[.val (.int p1)] [(.int p1)])) rfl (by rw [hml]; rfl) (argsL := [(.int p1)]) (rest := []) (lenOf pd__C_Z rfl) rfl (by show 2 * 0 + _ ≤ _; exact Nat.le_of_eq rfl) (hb hby d48_7) (fun _ _ => ⟨rfl, e1, (by decide : 0 + 0 ≤ _), (by decide : 0 + 0 ≤ _)⟩)) (fun _ _ _ q => q) N0 (fun T2 L2 X2 e2q N2 => ?_)
  show Go _ _ _ _ _ _ _  T2 (mkF m 10 #[.val (.int p1)] [(.int (1 : Int32))])
  refine Go.st (fun tT kT => XS.ifNo X2.here hx rfl (hb hby d48_10) rfl ((if0 _ _).trans (feq (by decide : ¬ ((1 : Int32) = (0 : Int32)))).1) kT) ?_
  show Go _ _ _ _ _ _ _  T2 (mkF m 13 #[.val (.int p1)] [])
  obtain ⟨T3, h3, X3, e3, E3, A3, D3, U3, st3⟩ := newO X2 hx hZ hown (hw _ (List.mem_of_getElem? (i := 271) rfl)) (hw _ (List.mem_of_getElem? (i := 6) rfl)) (hw _ (List.mem_of_getElem? (i := 5) rfl)) e2q (g := (mkF m 13 #[.val (.int p1)] [])) rfl (hb hby d48_13) (by decide) (by decide)
  obtain ⟨b3, g3⟩ : ∃ z, z = h0.size := ⟨_, rfl⟩
  rw [← g3] at A3 D3 U3 st3
  refine Go.st st3 ?_
  have g_b3 : n0 ≤ b3 := by rw [g3]; exact own_le O
  have sz_b3 : h0.size ≤ b3 := by rw [g3]; exact KK.1
  have O := O.ext E3
  have KK := KK.ext E3
  have E_b3 := A3
  have F_value_b3 : Fld Z h3 b3 "java/lang/String" "value" "[B" .null := D3 (Or.inr (hw _ (List.mem_of_getElem? (i := 8) rfl))) (ty := (.array .byte)) (by decide)
  have F_coder_b3 : Fld Z h3 b3 "java/lang/String" "coder" "B" (.int (0 : Int32)) := D3 (Or.inr (hw _ (List.mem_of_getElem? (i := 9) rfl))) (ty := .byte) (by decide)
  show Go _ _ _ _ _ _ _  T3 (mkF m 16 #[.val (.int p1)] [(.ref b3)])
  refine Go.st (fun tT kT => XS.dup X3.here hx rfl (hb hby d48_16) rfl rfl kT) ?_
  show Go _ _ _ _ _ _ _  T3 (mkF m 17 #[.val (.int p1)] [(.ref b3), (.ref b3)])
  refine Go.st (fun tT kT => XS.iloadN X3.here hx rfl (hb hby d48_17) rfl  kT) ?_
  show Go _ _ _ _ _ _ _  T3 (mkF m 18 #[.val (.int p1)] [(.int p1), (.ref b3), (.ref b3)])
  obtain ⟨_, _, ⟨T4, L4, k4, n4⟩, -, X4, ⟨Lc4, hQ4, l4, y4, z4⟩, st4⟩ := Jvm.LawKit.callS X3 hx (y := (⟨"java/lang/StringLatin1", "toBytes", "(C)[B"⟩ : MethodName)) hown (mvT hZ (hw _ (List.mem_of_getElem? (i := 272) rfl))) (mvT hZ (hw _ (List.mem_of_getElem? (i := 273) rfl))) (mvT hZ (hw _ (List.mem_of_getElem? (i := 234) rfl))) (mvT hZ (hw _ (List.mem_of_getElem? (i := 274) rfl))) (by decide) (backOf (W := 2) (rmTB l Z a0 hw [] p1 h3 n0 O) hZ (hw _ (List.mem_of_getElem? (i := 274) rfl)) (hw _ (List.mem_of_getElem? (i := 234) rfl)) (by decide) (by decide)) (g := (mkF m 18 #[.val (.int p1)] [(.int p1), (.ref b3), (.ref b3)])) rfl (by rw [hml]; rfl) (argsL := [(.int p1)]) (rest := [(.ref b3), (.ref b3)]) (lenOf pd__C__B rfl) rfl (by show 2 * 0 + _ ≤ _; exact Nat.le_of_eq rfl) (hb hby d48_18) (fun _ _ => ⟨rfl, e3, (by decide : 1 + 1 ≤ _), (by decide : 4 + 1 ≤ _)⟩)
  dsimp only [Pt.U, Pt.locs, Pt.cells, Pt.slots] at X4 l4 y4 z4 st4 hQ4
  subst l4 y4 z4
  have X4 : Stand p l e _ _ m _ below meth c T4 _ 2 5 := X4
  obtain ⟨t4, kt4, rfl, N4q, E4q, lt4, Vt4⟩ := hQ4
  have N4 := Fr.app N2 N4q
  refine Go.st st4 ?_
  have g_t4 : n0 ≤ t4 := Nat.le_trans (own_le O) lt4
  have sz_t4 : h0.size ≤ t4 := Nat.le_trans KK.1 lt4
  have ne_b3_t4 : b3 ≠ t4 := Nat.ne_of_lt (Nat.lt_of_lt_of_le E_b3.lt lt4)
  have E4 := E4q
  have E_b3 := E_b3.ext E4
  have F_value_b3 := F_value_b3.ext E4
  have F_coder_b3 := F_coder_b3.ext E4
  have O := O.ext E4
  have KK := KK.ext E4
  show Go _ _ _ _ _ _ _  T4 (mkF m 21 #[.val (.int p1)] [(.ref t4), (.ref b3), (.ref b3)])
  refine Go.st (fun tT kT => XS.iconst X4.here hx rfl (hb hby d48_21) kT) ?_
  show Go _ _ _ _ _ _ _  T4 (mkF m 22 #[.val (.int p1)] [(.int (0 : Int32)), (.ref t4), (.ref b3), (.ref b3)])
  obtain ⟨_, _, ⟨T5, L5, k5, n5⟩, -, X5, ⟨Lc5, hQ5, l5, y5, z5⟩, st5⟩ := X4.specialBack hx (y := (⟨"java/lang/String", "<init>", "([BB)V"⟩ : MethodName)) rfl hown (mvT hZ (hw _ (List.mem_of_getElem? (i := 275) rfl))) (mvT hZ (hw _ (List.mem_of_getElem? (i := 276) rfl))) (mvT hZ (hw _ (List.mem_of_getElem? (i := 277) rfl))) (by decide) (backOf (W := 1) (rmSI l Z a0 hw [] b3 t4 .null (.int (0 : Int32)) T4.heap n0 O E_b3 F_value_b3 F_coder_b3 g_b3) hZ (hw _ (List.mem_of_getElem? (i := 277) rfl)) (hw _ (List.mem_of_getElem? (i := 5) rfl)) (by decide) (by decide)) (g := (mkF m 22 #[.val (.int p1)] [(.int (0 : Int32)), (.ref t4), (.ref b3), (.ref b3)])) rfl (by rw [hml]; rfl) (Steps.refl _) (a := b3) (argsL := [(.ref t4), (.int (0 : Int32))]) (rest := [(.ref b3)]) (lenOf pd___BB_V rfl) rfl (by show 2 * 0 + _ ≤ _; exact Nat.le_of_eq rfl) (hb hby d48_22) (fun _ _ => ⟨rfl, rfl, (by decide : 2 + 0 ≤ _), (by decide : 5 + 0 ≤ _)⟩)
  dsimp only [Pt.U, Pt.locs, Pt.cells, Pt.slots] at X5 l5 y5 z5 st5 hQ5
  subst l5 y5 z5
  have X5 : Stand p l e _ _ m _ below meth c T5 _ 2 5 := X5
  obtain ⟨rfl, N5q, K5q, Eq5, Cq5, Vq5⟩ := hQ5
  have N5 := Fr.app N4 N5q
  refine Go.tr st5 ?_
  have E_b3 := E_b3.keep K5q
  have Vt4 := Vt4.keep K5q (ninS (Ne.symm ne_b3_t4) nin0)
  have O := O.keep K5q (allS g_b3 all0)
  have KK := KK.trans K5q (allS (Or.inr sz_b3) all0)
  have E_b3 := Eq5
  show Go _ _ _ _ _ _ _  T5 (mkF m 25 #[.val (.int p1)] [(.ref b3)])
  refine Go.retR X5 hlk hx Bd.returns rfl rfl rfl (hb hby d48_25) (by decide) (by decide) ?_
  show Q_rmVO Z _ _ h0 n0 _ T5.heap _
  exact ⟨_, _, _, rfl, N5, own_ext0 KK, sz_b3, sz_t4, E_b3, Cq5, Vq5, Vt4⟩
def Q_rmMk (Z : State) (p1 : Int32) (zc : Int32) (h0 : Heap) (n0 : Nat) (v : Option Value) (h : Heap) (L : List Loc) : Prop := ∃ (x t : Addr) (kt : ClassId) (cs : List Int32), v = some (.ref x) ∧ Fr n0 L ∧ Ext h0 h ∧ Exa Z h x "java/lang/String" ∧ Fld Z h x "java/lang/String" "coder" "B" (.int 0) ∧ Fld Z h x "java/lang/String" "value" "[B" (.ref t) ∧ Arv Z h t kt .byte (Int32.ofNat cs.length) (cs.map Value.int) (.int 0) ∧ cs.length ≤ 2
set_option maxRecDepth 65536 in
set_option maxHeartbeats 40000000 in
theorem rmMk (l : Launch) (Z : State) (a0 : Array Value) (hw : ∀ d ∈ tables_1, d.before a0 Z = true) (ws : List Jvm.Cond) (p1 : Int32) (zc : Int32) (h0 : Heap) (n0 : Nat) (O : Old Z n0 h0) (hEL : EW Z a0 EL) (wS : ∀ a ∈ Bundle.stringAtoms, a.before a0 Z = true) (S_COMPACT : Sta Z Z.heap "java/lang/String" "COMPACT_STRINGS" "Z" (.int zc)) (hcs : ¬ zc = 0) :
    MetFree l (⟨"com/example/keyset/keyset/query/DeclarationExceptionForFieldPinLaw", "mk", "(I)Ljava/lang/String;"⟩ : MethodName) (head1 (Jvm.Cond.code (⟨"com/example/keyset/keyset/query/DeclarationExceptionForFieldPinLaw", "mk", "(I)Ljava/lang/String;"⟩ : MethodName) method_2_code 4 (some (.object "java/lang/String")) :: ws) ({ frames := 4, cells := 3, slots := 8, locals := 72 } : Room)) (fun a U => a = #[(.int p1)] ∧ Z.Warmed39 U.vm ∧ U.heap = h0 ∧ CHv Z EL U.vm h0 ∧ ∀ x ∈ ([] : List Addr), Safe Z EL U.vm h0 x) (fun _ _ _ _ _ => True) (fun _ U o U' => ∃ v L, o = .returned v ∧ Q_rmMk Z p1 zc h0 n0 v U'.heap L ∧ CHr Z EL U.vm U.heap U'.vm U'.heap ∧ ReturnedEndW U o U' L ({ frames := 4, cells := 3, slots := 8, locals := 72 } : Room).cells ({ frames := 4, cells := 3, slots := 8, locals := 72 } : Room).slots) := by
  refine MetFree.of_bodySF (plainFor_of_name pn_1) hisR ?_
  intro p e s m args below meth c s₁ Bd hml0 hP hK
  obtain ⟨rfl, hZ, hh, HH, hSF⟩ := hP
  have hx := Bd.exec
  have hby := Bd.bytes
  have hml : c.maxLocals = 4 := hml0
  have hown : s.vm.findClass "com/example/keyset/keyset/query/DeclarationExceptionForFieldPinLaw" = some m.cls := findClass_of_methodNamed Bd.named
  have hnm := (name_of_methodNamed Bd.named Bd.method).1
  have hlk : meth.locks = false := BodyLoose.notSynchronized Bd
  have X0 : Stand p l e ({ frames := 4, cells := 3, slots := 8, locals := 72 } : Room) (s.setVm s.vm) m #[(.int p1)] below meth c s₁ [] 0 0 := Stand.of_body Bd
  have e0 : s₁.heap = h0 := by rw [← hh, Bd.state]; rfl
  have N0 := Fr.nil n0
  have KK : Keep h0 h0 [] := Keep.refl h0 _
  have hS : s.Since s.vm h0.size := own_since s _
  have hk : h0.size ≤ h0.size := Nat.le_refl _
  have RR : CHr Z EL s.vm h0 s.vm h0 := CHr.refl HH
  suffices hgo : GoH p e below s ({ frames := 4, cells := 3, slots := 8, locals := 72 } : Room).cells ({ frames := 4, cells := 3, slots := 8, locals := 72 } : Room).slots Z h0 EL (Q_rmMk Z p1 zc h0 n0) s₁ (entryFrame m #[(.int p1)] 4) by
    obtain ⟨s₂, o, q1, q2, q3, v, L, q4, q5, q6, q7⟩ := hgo; exact ⟨s₂, o, q1, q2, q3, v, L, q4, q5, hh ▸ q6, q7⟩
  refine GoH.eq (ef_rmMk m p1) ?_
  have hws : ∀ d ∈ StrChars.Road.words, d.before a0 Z = true := fun d hd => hw d ((by decide +kernel : ∀ d ∈ StrChars.Road.words, d ∈ tables_1) d hd)
  show GoH _ _ _ _ _ _ _ _ _ _  s₁ (mkF m 0 #[.val (.int p1), .unset, .unset, .unset] [])
  refine GoH.st (fun tT kT => XS.iloadN X0.here hx rfl (hb hby d1_0) rfl  kT) ?_
  show GoH _ _ _ _ _ _ _ _ _ _  s₁ (mkF m 1 #[.val (.int p1), .unset, .unset, .unset] [(.int p1)])
  refine GoH.st (fun tT kT => XS.sipush X0.here hx rfl (hb hby d1_1) kT) ?_
  show GoH _ _ _ _ _ _ _ _ _ _  s₁ (mkF m 4 #[.val (.int p1), .unset, .unset, .unset] [(.int (255 : Int32)), (.int p1)])
  refine GoH.st (fun tT kT => XS.iand X0.here hx rfl (hb hby d1_4) rfl kT) ?_
  show GoH _ _ _ _ _ _ _ _ _ _  s₁ (mkF m 5 #[.val (.int p1), .unset, .unset, .unset] [(.int (p1 &&& (255 : Int32)))])
  refine GoH.st (fun tT kT => XS.i2c X0.here hx rfl (hb hby d1_5) rfl kT) ?_
  show GoH _ _ _ _ _ _ _ _ _ _  s₁ (mkF m 6 #[.val (.int p1), .unset, .unset, .unset] [(.int ((p1 &&& (255 : Int32)).toUInt32.toUInt16.toUInt32.toInt32))])
  refine GoH.st (fun tT kT => XS.istoreN X0.here hx rfl (hb hby d1_6) rfl (l' := #[.val (.int p1), .val (.int ((p1 &&& (255 : Int32)).toUInt32.toUInt16.toUInt32.toInt32)), .unset, .unset]) rfl kT) ?_
  show GoH _ _ _ _ _ _ _ _ _ _  s₁ (mkF m 7 #[.val (.int p1), .val (.int ((p1 &&& (255 : Int32)).toUInt32.toUInt16.toUInt32.toInt32)), .unset, .unset] [])
  refine GoH.st (fun tT kT => XS.iloadN X0.here hx rfl (hb hby d1_7) rfl  kT) ?_
  show GoH _ _ _ _ _ _ _ _ _ _  s₁ (mkF m 8 #[.val (.int p1), .val (.int ((p1 &&& (255 : Int32)).toUInt32.toUInt16.toUInt32.toInt32)), .unset, .unset] [(.int p1)])
  refine GoH.st (fun tT kT => XS.bipush X0.here hx rfl (hb hby d1_8) kT) ?_
  show GoH _ _ _ _ _ _ _ _ _ _  s₁ (mkF m 10 #[.val (.int p1), .val (.int ((p1 &&& (255 : Int32)).toUInt32.toUInt16.toUInt32.toInt32)), .unset, .unset] [(.int (8 : Int32)), (.int p1)])
  refine GoH.st (fun tT kT => XS.iushr X0.here hx rfl (hb hby d1_10) rfl kT) ?_
  show GoH _ _ _ _ _ _ _ _ _ _  s₁ (mkF m 11 #[.val (.int p1), .val (.int ((p1 &&& (255 : Int32)).toUInt32.toUInt16.toUInt32.toInt32)), .unset, .unset] [(.int ((p1.toUInt32 >>> ((8 : Int32) &&& 31).toUInt32).toInt32))])
  refine GoH.st (fun tT kT => XS.sipush X0.here hx rfl (hb hby d1_11) kT) ?_
  show GoH _ _ _ _ _ _ _ _ _ _  s₁ (mkF m 14 #[.val (.int p1), .val (.int ((p1 &&& (255 : Int32)).toUInt32.toUInt16.toUInt32.toInt32)), .unset, .unset] [(.int (255 : Int32)), (.int ((p1.toUInt32 >>> ((8 : Int32) &&& 31).toUInt32).toInt32))])
  refine GoH.st (fun tT kT => XS.iand X0.here hx rfl (hb hby d1_14) rfl kT) ?_
  show GoH _ _ _ _ _ _ _ _ _ _  s₁ (mkF m 15 #[.val (.int p1), .val (.int ((p1 &&& (255 : Int32)).toUInt32.toUInt16.toUInt32.toInt32)), .unset, .unset] [(.int (((p1.toUInt32 >>> ((8 : Int32) &&& 31).toUInt32).toInt32) &&& (255 : Int32)))])
  refine GoH.st (fun tT kT => XS.i2c X0.here hx rfl (hb hby d1_15) rfl kT) ?_
  show GoH _ _ _ _ _ _ _ _ _ _  s₁ (mkF m 16 #[.val (.int p1), .val (.int ((p1 &&& (255 : Int32)).toUInt32.toUInt16.toUInt32.toInt32)), .unset, .unset] [(.int ((((p1.toUInt32 >>> ((8 : Int32) &&& 31).toUInt32).toInt32) &&& (255 : Int32)).toUInt32.toUInt16.toUInt32.toInt32))])
  refine GoH.st (fun tT kT => XS.istoreN X0.here hx rfl (hb hby d1_16) rfl (l' := #[.val (.int p1), .val (.int ((p1 &&& (255 : Int32)).toUInt32.toUInt16.toUInt32.toInt32)), .val (.int ((((p1.toUInt32 >>> ((8 : Int32) &&& 31).toUInt32).toInt32) &&& (255 : Int32)).toUInt32.toUInt16.toUInt32.toInt32)), .unset]) rfl kT) ?_
  show GoH _ _ _ _ _ _ _ _ _ _  s₁ (mkF m 17 #[.val (.int p1), .val (.int ((p1 &&& (255 : Int32)).toUInt32.toUInt16.toUInt32.toInt32)), .val (.int ((((p1.toUInt32 >>> ((8 : Int32) &&& 31).toUInt32).toInt32) &&& (255 : Int32)).toUInt32.toUInt16.toUInt32.toInt32)), .unset] [])
  refine GoH.st (fun tT kT => XS.iloadN X0.here hx rfl (hb hby d1_17) rfl  kT) ?_
  show GoH _ _ _ _ _ _ _ _ _ _  s₁ (mkF m 18 #[.val (.int p1), .val (.int ((p1 &&& (255 : Int32)).toUInt32.toUInt16.toUInt32.toInt32)), .val (.int ((((p1.toUInt32 >>> ((8 : Int32) &&& 31).toUInt32).toInt32) &&& (255 : Int32)).toUInt32.toUInt16.toUInt32.toInt32)), .unset] [(.int p1)])
  refine GoH.st (fun tT kT => XS.bipush X0.here hx rfl (hb hby d1_18) kT) ?_
  show GoH _ _ _ _ _ _ _ _ _ _  s₁ (mkF m 20 #[.val (.int p1), .val (.int ((p1 &&& (255 : Int32)).toUInt32.toUInt16.toUInt32.toInt32)), .val (.int ((((p1.toUInt32 >>> ((8 : Int32) &&& 31).toUInt32).toInt32) &&& (255 : Int32)).toUInt32.toUInt16.toUInt32.toInt32)), .unset] [(.int (16 : Int32)), (.int p1)])
  refine GoH.st (fun tT kT => XS.iushr X0.here hx rfl (hb hby d1_20) rfl kT) ?_
  show GoH _ _ _ _ _ _ _ _ _ _  s₁ (mkF m 21 #[.val (.int p1), .val (.int ((p1 &&& (255 : Int32)).toUInt32.toUInt16.toUInt32.toInt32)), .val (.int ((((p1.toUInt32 >>> ((8 : Int32) &&& 31).toUInt32).toInt32) &&& (255 : Int32)).toUInt32.toUInt16.toUInt32.toInt32)), .unset] [(.int ((p1.toUInt32 >>> ((16 : Int32) &&& 31).toUInt32).toInt32))])
  refine GoH.st (fun tT kT => XS.sipush X0.here hx rfl (hb hby d1_21) kT) ?_
  show GoH _ _ _ _ _ _ _ _ _ _  s₁ (mkF m 24 #[.val (.int p1), .val (.int ((p1 &&& (255 : Int32)).toUInt32.toUInt16.toUInt32.toInt32)), .val (.int ((((p1.toUInt32 >>> ((8 : Int32) &&& 31).toUInt32).toInt32) &&& (255 : Int32)).toUInt32.toUInt16.toUInt32.toInt32)), .unset] [(.int (32767 : Int32)), (.int ((p1.toUInt32 >>> ((16 : Int32) &&& 31).toUInt32).toInt32))])
  refine GoH.st (fun tT kT => XS.iand X0.here hx rfl (hb hby d1_24) rfl kT) ?_
  show GoH _ _ _ _ _ _ _ _ _ _  s₁ (mkF m 25 #[.val (.int p1), .val (.int ((p1 &&& (255 : Int32)).toUInt32.toUInt16.toUInt32.toInt32)), .val (.int ((((p1.toUInt32 >>> ((8 : Int32) &&& 31).toUInt32).toInt32) &&& (255 : Int32)).toUInt32.toUInt16.toUInt32.toInt32)), .unset] [(.int (((p1.toUInt32 >>> ((16 : Int32) &&& 31).toUInt32).toInt32) &&& (32767 : Int32)))])
  refine GoH.st (fun tT kT => XS.iconst X0.here hx rfl (hb hby d1_25) kT) ?_
  show GoH _ _ _ _ _ _ _ _ _ _  s₁ (mkF m 26 #[.val (.int p1), .val (.int ((p1 &&& (255 : Int32)).toUInt32.toUInt16.toUInt32.toInt32)), .val (.int ((((p1.toUInt32 >>> ((8 : Int32) &&& 31).toUInt32).toInt32) &&& (255 : Int32)).toUInt32.toUInt16.toUInt32.toInt32)), .unset] [(.int (3 : Int32)), (.int (((p1.toUInt32 >>> ((16 : Int32) &&& 31).toUInt32).toInt32) &&& (32767 : Int32)))])
  refine GoH.st (fun tT kT => Jvm.RoadKit.iremM X0 hx rfl (hb hby d1_26) rfl (by decide) kT) ?_
  show GoH _ _ _ _ _ _ _ _ _ _  s₁ (mkF m 27 #[.val (.int p1), .val (.int ((p1 &&& (255 : Int32)).toUInt32.toUInt16.toUInt32.toInt32)), .val (.int ((((p1.toUInt32 >>> ((8 : Int32) &&& 31).toUInt32).toInt32) &&& (255 : Int32)).toUInt32.toUInt16.toUInt32.toInt32)), .unset] [(.int ((((p1.toUInt32 >>> ((16 : Int32) &&& 31).toUInt32).toInt32) &&& (32767 : Int32)) % (3 : Int32)))])
  refine GoH.st (fun tT kT => XS.istoreN X0.here hx rfl (hb hby d1_27) rfl (l' := #[.val (.int p1), .val (.int ((p1 &&& (255 : Int32)).toUInt32.toUInt16.toUInt32.toInt32)), .val (.int ((((p1.toUInt32 >>> ((8 : Int32) &&& 31).toUInt32).toInt32) &&& (255 : Int32)).toUInt32.toUInt16.toUInt32.toInt32)), .val (.int ((((p1.toUInt32 >>> ((16 : Int32) &&& 31).toUInt32).toInt32) &&& (32767 : Int32)) % (3 : Int32)))]) rfl kT) ?_
  show GoH _ _ _ _ _ _ _ _ _ _  s₁ (mkF m 28 #[.val (.int p1), .val (.int ((p1 &&& (255 : Int32)).toUInt32.toUInt16.toUInt32.toInt32)), .val (.int ((((p1.toUInt32 >>> ((8 : Int32) &&& 31).toUInt32).toInt32) &&& (255 : Int32)).toUInt32.toUInt16.toUInt32.toInt32)), .val (.int ((((p1.toUInt32 >>> ((16 : Int32) &&& 31).toUInt32).toInt32) &&& (32767 : Int32)) % (3 : Int32)))] [])
  refine GoH.st (fun tT kT => XS.iloadN X0.here hx rfl (hb hby d1_28) rfl  kT) ?_
  show GoH _ _ _ _ _ _ _ _ _ _  s₁ (mkF m 29 #[.val (.int p1), .val (.int ((p1 &&& (255 : Int32)).toUInt32.toUInt16.toUInt32.toInt32)), .val (.int ((((p1.toUInt32 >>> ((8 : Int32) &&& 31).toUInt32).toInt32) &&& (255 : Int32)).toUInt32.toUInt16.toUInt32.toInt32)), .val (.int ((((p1.toUInt32 >>> ((16 : Int32) &&& 31).toUInt32).toInt32) &&& (32767 : Int32)) % (3 : Int32)))] [(.int ((((p1.toUInt32 >>> ((16 : Int32) &&& 31).toUInt32).toInt32) &&& (32767 : Int32)) % (3 : Int32)))])
  by_cases c29_1 : ((((p1.toUInt32 >>> ((16 : Int32) &&& 31).toUInt32).toInt32) &&& (32767 : Int32)) % (3 : Int32)) = (0 : Int32)
  · refine GoH.st (fun tT kT => XS.ifNo X0.here hx rfl (hb hby d1_29) rfl ((if0 _ _).trans (teq c29_1).2) kT) ?_
    show GoH _ _ _ _ _ _ _ _ _ _  s₁ (mkF m 32 #[.val (.int p1), .val (.int ((p1 &&& (255 : Int32)).toUInt32.toUInt16.toUInt32.toInt32)), .val (.int ((((p1.toUInt32 >>> ((8 : Int32) &&& 31).toUInt32).toInt32) &&& (255 : Int32)).toUInt32.toUInt16.toUInt32.toInt32)), .val (.int ((((p1.toUInt32 >>> ((16 : Int32) &&& 31).toUInt32).toInt32) &&& (32767 : Int32)) % (3 : Int32)))] [])
    obtain ⟨sa2, T2, h2, kk2, sb2, kb2, X2, e2, E2, hS2, hk2, hZ2, ho2, E_sa2, F_coder_sa2, F_value_sa2, V_sb2, la2, lb2, CR2, Lt2, ns2, st2⟩ := ldcCH X0 hx hZ hown (hw _ (List.mem_of_getElem? (i := 4) rfl)) wS e0 hS hk hEL (List.mem_of_getElem? (i := 3) rfl) HH (vs := []) (z := 0) ⟨by decide, by decide⟩ (by decide) rfl (g := (mkF m 32 #[.val (.int p1), .val (.int ((p1 &&& (255 : Int32)).toUInt32.toUInt16.toUInt32.toInt32)), .val (.int ((((p1.toUInt32 >>> ((8 : Int32) &&& 31).toUInt32).toInt32) &&& (255 : Int32)).toUInt32.toUInt16.toUInt32.toInt32)), .val (.int ((((p1.toUInt32 >>> ((16 : Int32) &&& 31).toUInt32).toInt32) &&& (32767 : Int32)) % (3 : Int32)))] [])) rfl (hb hby d1_32) (n := 0) (by decide) (by decide) (by decide) (by decide)
    refine GoH.st st2 ?_
    have O := O.ext E2
    have KK := KK.ext E2
    have RR := RR.trans CR2
    have HH := CR2.1
    have hS := hS2
    have hk := hk2
    have hZ := hZ2
    have hown := ho2
    show GoH _ _ _ _ _ _ _ _ _ _  T2 (mkF m 34 #[.val (.int p1), .val (.int ((p1 &&& (255 : Int32)).toUInt32.toUInt16.toUInt32.toInt32)), .val (.int ((((p1.toUInt32 >>> ((8 : Int32) &&& 31).toUInt32).toInt32) &&& (255 : Int32)).toUInt32.toUInt16.toUInt32.toInt32)), .val (.int ((((p1.toUInt32 >>> ((16 : Int32) &&& 31).toUInt32).toInt32) &&& (32767 : Int32)) % (3 : Int32)))] [(.ref sa2)])
    refine GoH.retR X2 hS hk e2 hZ hEL HH RR hlk hx Bd.returns rfl rfl rfl (hb hby d1_34) (by decide) (by decide) ?_
    show Q_rmMk Z _ _ h0 n0 _ T2.heap _
    rw [e2]
    exact ⟨_, _, _, [], rfl, N0, own_ext0 KK, E_sa2, F_coder_sa2, F_value_sa2, V_sb2, (by simp)⟩
  · refine GoH.st (fun tT kT => XS.ifYes X0.here hx rfl (pc0 := 29) (pc' := 35) rfl (hb hby d1_29) rfl ((if0 _ _).trans (feq c29_1).2) (by decide) (by decide) kT) ?_
    show GoH _ _ _ _ _ _ _ _ _ _  s₁ (mkF m 35 #[.val (.int p1), .val (.int ((p1 &&& (255 : Int32)).toUInt32.toUInt16.toUInt32.toInt32)), .val (.int ((((p1.toUInt32 >>> ((8 : Int32) &&& 31).toUInt32).toInt32) &&& (255 : Int32)).toUInt32.toUInt16.toUInt32.toInt32)), .val (.int ((((p1.toUInt32 >>> ((16 : Int32) &&& 31).toUInt32).toInt32) &&& (32767 : Int32)) % (3 : Int32)))] [])
    refine GoH.st (fun tT kT => XS.iloadN X0.here hx rfl (hb hby d1_35) rfl  kT) ?_
    show GoH _ _ _ _ _ _ _ _ _ _  s₁ (mkF m 36 #[.val (.int p1), .val (.int ((p1 &&& (255 : Int32)).toUInt32.toUInt16.toUInt32.toInt32)), .val (.int ((((p1.toUInt32 >>> ((8 : Int32) &&& 31).toUInt32).toInt32) &&& (255 : Int32)).toUInt32.toUInt16.toUInt32.toInt32)), .val (.int ((((p1.toUInt32 >>> ((16 : Int32) &&& 31).toUInt32).toInt32) &&& (32767 : Int32)) % (3 : Int32)))] [(.int ((((p1.toUInt32 >>> ((16 : Int32) &&& 31).toUInt32).toInt32) &&& (32767 : Int32)) % (3 : Int32)))])
    refine GoH.st (fun tT kT => XS.iconst X0.here hx rfl (hb hby d1_36) kT) ?_
    show GoH _ _ _ _ _ _ _ _ _ _  s₁ (mkF m 37 #[.val (.int p1), .val (.int ((p1 &&& (255 : Int32)).toUInt32.toUInt16.toUInt32.toInt32)), .val (.int ((((p1.toUInt32 >>> ((8 : Int32) &&& 31).toUInt32).toInt32) &&& (255 : Int32)).toUInt32.toUInt16.toUInt32.toInt32)), .val (.int ((((p1.toUInt32 >>> ((16 : Int32) &&& 31).toUInt32).toInt32) &&& (32767 : Int32)) % (3 : Int32)))] [(.int (1 : Int32)), (.int ((((p1.toUInt32 >>> ((16 : Int32) &&& 31).toUInt32).toInt32) &&& (32767 : Int32)) % (3 : Int32)))])
    by_cases c37_3 : ((((p1.toUInt32 >>> ((16 : Int32) &&& 31).toUInt32).toInt32) &&& (32767 : Int32)) % (3 : Int32)) = (1 : Int32)
    · refine GoH.st (fun tT kT => XS.icmpNo X0.here hx rfl (hb hby d1_37) rfl (teq c37_3).2 kT) ?_
      show GoH _ _ _ _ _ _ _ _ _ _  s₁ (mkF m 40 #[.val (.int p1), .val (.int ((p1 &&& (255 : Int32)).toUInt32.toUInt16.toUInt32.toInt32)), .val (.int ((((p1.toUInt32 >>> ((8 : Int32) &&& 31).toUInt32).toInt32) &&& (255 : Int32)).toUInt32.toUInt16.toUInt32.toInt32)), .val (.int ((((p1.toUInt32 >>> ((16 : Int32) &&& 31).toUInt32).toInt32) &&& (32767 : Int32)) % (3 : Int32)))] [])
      refine GoH.st (fun tT kT => XS.iloadN X0.here hx rfl (hb hby d1_40) rfl  kT) ?_
      show GoH _ _ _ _ _ _ _ _ _ _  s₁ (mkF m 41 #[.val (.int p1), .val (.int ((p1 &&& (255 : Int32)).toUInt32.toUInt16.toUInt32.toInt32)), .val (.int ((((p1.toUInt32 >>> ((8 : Int32) &&& 31).toUInt32).toInt32) &&& (255 : Int32)).toUInt32.toUInt16.toUInt32.toInt32)), .val (.int ((((p1.toUInt32 >>> ((16 : Int32) &&& 31).toUInt32).toInt32) &&& (32767 : Int32)) % (3 : Int32)))] [(.int ((p1 &&& (255 : Int32)).toUInt32.toUInt16.toUInt32.toInt32))])
      obtain ⟨_, _, ⟨T4, L4, k4, n4⟩, -, X4, ⟨Lc4, hQ4, l4, y4, z4⟩, st4⟩ := Jvm.LawKit.callS X0 hx (y := (⟨"java/lang/String", "valueOf", "(C)Ljava/lang/String;"⟩ : MethodName)) hown (mvT hZ (hw _ (List.mem_of_getElem? (i := 265) rfl))) (mvT hZ (hw _ (List.mem_of_getElem? (i := 266) rfl))) (mvT hZ (hw _ (List.mem_of_getElem? (i := 5) rfl))) (mvT hZ (hw _ (List.mem_of_getElem? (i := 267) rfl))) (by decide) (backOf (W := 0) (rmVO l Z a0 hw [] ((p1 &&& (255 : Int32)).toUInt32.toUInt16.toUInt32.toInt32) zc h0 n0 O S_COMPACT hcs (own_m255' _)) hZ (hw _ (List.mem_of_getElem? (i := 267) rfl)) (hw _ (List.mem_of_getElem? (i := 5) rfl)) (by decide) (by decide)) (g := (mkF m 41 #[.val (.int p1), .val (.int ((p1 &&& (255 : Int32)).toUInt32.toUInt16.toUInt32.toInt32)), .val (.int ((((p1.toUInt32 >>> ((8 : Int32) &&& 31).toUInt32).toInt32) &&& (255 : Int32)).toUInt32.toUInt16.toUInt32.toInt32)), .val (.int ((((p1.toUInt32 >>> ((16 : Int32) &&& 31).toUInt32).toInt32) &&& (32767 : Int32)) % (3 : Int32)))] [(.int ((p1 &&& (255 : Int32)).toUInt32.toUInt16.toUInt32.toInt32))])) rfl (by rw [hml]; rfl) (argsL := [(.int ((p1 &&& (255 : Int32)).toUInt32.toUInt16.toUInt32.toInt32))]) (rest := []) (lenOf pd__C_Ljava_lang_String_ rfl) rfl (by show 2 * 0 + _ ≤ _; exact Nat.le_of_eq rfl) (hb hby d1_41) (fun _ _ => ⟨rfl, e0, (by decide : 0 + 2 ≤ _), (by decide : 0 + 5 ≤ _)⟩)
      dsimp only [Pt.U, Pt.locs, Pt.cells, Pt.slots] at X4 l4 y4 z4 st4 hQ4
      subst l4 y4 z4
      have X4 : Stand p l e _ _ m _ below meth c T4 _ 2 5 := X4
      obtain ⟨d4, t4, kt4, rfl, N4q, E4q, ld4, lt4, Ed4, Cd4, Vd4, Ad4⟩ := hQ4
      have N4 := Fr.app N0 N4q
      refine GoH.st st4 ?_
      have g_d4 : n0 ≤ d4 := Nat.le_trans (own_le O) ld4
      have Sf_d4 : Safe Z EL s.vm h0 d4 := Safe.new ld4
      have sz_d4 : h0.size ≤ d4 := Nat.le_trans KK.1 ld4
      have g_t4 : n0 ≤ t4 := Nat.le_trans (own_le O) lt4
      have Sf_t4 : Safe Z EL s.vm h0 t4 := Safe.new lt4
      have sz_t4 : h0.size ≤ t4 := Nat.le_trans KK.1 lt4
      have E4 := E4q
      have Sf_d4 := Safe.ext E4 HH Sf_d4
      have Sf_t4 := Safe.ext E4 HH Sf_t4
      have RR := RR.trans (CHr.ext E4 HH)
      have HH := HH.ext E4
      have hk := Nat.le_trans hk E4.1
      have O := O.ext E4
      have KK := KK.ext E4
      show GoH _ _ _ _ _ _ _ _ _ _  T4 (mkF m 44 #[.val (.int p1), .val (.int ((p1 &&& (255 : Int32)).toUInt32.toUInt16.toUInt32.toInt32)), .val (.int ((((p1.toUInt32 >>> ((8 : Int32) &&& 31).toUInt32).toInt32) &&& (255 : Int32)).toUInt32.toUInt16.toUInt32.toInt32)), .val (.int ((((p1.toUInt32 >>> ((16 : Int32) &&& 31).toUInt32).toInt32) &&& (32767 : Int32)) % (3 : Int32)))] [(.ref d4)])
      refine GoH.retR X4 hS hk rfl hZ hEL HH RR hlk hx Bd.returns rfl rfl rfl (hb hby d1_44) (by decide) (by decide) ?_
      show Q_rmMk Z _ _ h0 n0 _ T4.heap _
      exact ⟨_, _, _, [nar .byte ((p1 &&& (255 : Int32)).toUInt32.toUInt16.toUInt32.toInt32).toInt8.toInt32], rfl, N4, own_ext0 KK, Ed4, Cd4, Vd4, Ad4, (by simp)⟩
    · refine GoH.st (fun tT kT => XS.icmpYes X0.here hx rfl (pc0 := 37) (pc' := 45) rfl (hb hby d1_37) rfl (feq c37_3).2 (by decide) (by decide) kT) ?_
      show GoH _ _ _ _ _ _ _ _ _ _  s₁ (mkF m 45 #[.val (.int p1), .val (.int ((p1 &&& (255 : Int32)).toUInt32.toUInt16.toUInt32.toInt32)), .val (.int ((((p1.toUInt32 >>> ((8 : Int32) &&& 31).toUInt32).toInt32) &&& (255 : Int32)).toUInt32.toUInt16.toUInt32.toInt32)), .val (.int ((((p1.toUInt32 >>> ((16 : Int32) &&& 31).toUInt32).toInt32) &&& (32767 : Int32)) % (3 : Int32)))] [])
      obtain ⟨T5, h5, X5, e5, E5, A5, D5, U5, st5⟩ := newO X0 hx hZ hown (hw _ (List.mem_of_getElem? (i := 247) rfl)) (hw _ (List.mem_of_getElem? (i := 6) rfl)) (hw _ (List.mem_of_getElem? (i := 5) rfl)) e0 (g := (mkF m 45 #[.val (.int p1), .val (.int ((p1 &&& (255 : Int32)).toUInt32.toUInt16.toUInt32.toInt32)), .val (.int ((((p1.toUInt32 >>> ((8 : Int32) &&& 31).toUInt32).toInt32) &&& (255 : Int32)).toUInt32.toUInt16.toUInt32.toInt32)), .val (.int ((((p1.toUInt32 >>> ((16 : Int32) &&& 31).toUInt32).toInt32) &&& (32767 : Int32)) % (3 : Int32)))] [])) rfl (hb hby d1_45) (by decide) (by decide)
      obtain ⟨b5, g5⟩ : ∃ z, z = h0.size := ⟨_, rfl⟩
      rw [← g5] at A5 D5 U5 st5
      refine GoH.st st5 ?_
      have g_b5 : n0 ≤ b5 := by rw [g5]; exact own_le O
      have Sf_b5 : Safe Z EL s.vm h0 b5 := Safe.new (Nat.le_of_eq g5.symm)
      have sz_b5 : h0.size ≤ b5 := by rw [g5]; exact KK.1
      have Sf_b5 := Safe.ext E5 HH Sf_b5
      have RR := RR.trans (CHr.ext E5 HH)
      have HH := HH.ext E5
      have hk := Nat.le_trans hk E5.1
      have O := O.ext E5
      have KK := KK.ext E5
      have E_b5 := A5
      have F_value_b5 : Fld Z h5 b5 "java/lang/String" "value" "[B" .null := D5 (Or.inr (hw _ (List.mem_of_getElem? (i := 8) rfl))) (ty := (.array .byte)) (by decide)
      have F_coder_b5 : Fld Z h5 b5 "java/lang/String" "coder" "B" (.int (0 : Int32)) := D5 (Or.inr (hw _ (List.mem_of_getElem? (i := 9) rfl))) (ty := .byte) (by decide)
      show GoH _ _ _ _ _ _ _ _ _ _  T5 (mkF m 48 #[.val (.int p1), .val (.int ((p1 &&& (255 : Int32)).toUInt32.toUInt16.toUInt32.toInt32)), .val (.int ((((p1.toUInt32 >>> ((8 : Int32) &&& 31).toUInt32).toInt32) &&& (255 : Int32)).toUInt32.toUInt16.toUInt32.toInt32)), .val (.int ((((p1.toUInt32 >>> ((16 : Int32) &&& 31).toUInt32).toInt32) &&& (32767 : Int32)) % (3 : Int32)))] [(.ref b5)])
      refine GoH.st (fun tT kT => XS.dup X5.here hx rfl (hb hby d1_48) rfl rfl kT) ?_
      show GoH _ _ _ _ _ _ _ _ _ _  T5 (mkF m 49 #[.val (.int p1), .val (.int ((p1 &&& (255 : Int32)).toUInt32.toUInt16.toUInt32.toInt32)), .val (.int ((((p1.toUInt32 >>> ((8 : Int32) &&& 31).toUInt32).toInt32) &&& (255 : Int32)).toUInt32.toUInt16.toUInt32.toInt32)), .val (.int ((((p1.toUInt32 >>> ((16 : Int32) &&& 31).toUInt32).toInt32) &&& (32767 : Int32)) % (3 : Int32)))] [(.ref b5), (.ref b5)])
      refine GoH.st (fun tT kT => XS.iconst X5.here hx rfl (hb hby d1_49) kT) ?_
      show GoH _ _ _ _ _ _ _ _ _ _  T5 (mkF m 50 #[.val (.int p1), .val (.int ((p1 &&& (255 : Int32)).toUInt32.toUInt16.toUInt32.toInt32)), .val (.int ((((p1.toUInt32 >>> ((8 : Int32) &&& 31).toUInt32).toInt32) &&& (255 : Int32)).toUInt32.toUInt16.toUInt32.toInt32)), .val (.int ((((p1.toUInt32 >>> ((16 : Int32) &&& 31).toUInt32).toInt32) &&& (32767 : Int32)) % (3 : Int32)))] [(.int (2 : Int32)), (.ref b5), (.ref b5)])
      obtain ⟨T6, h6, k6, X6, e6, E6, A6, st6⟩ := newP X5 hx hZ (hw _ (List.mem_of_getElem? (i := 248) rfl)) e5 (g := (mkF m 50 #[.val (.int p1), .val (.int ((p1 &&& (255 : Int32)).toUInt32.toUInt16.toUInt32.toInt32)), .val (.int ((((p1.toUInt32 >>> ((8 : Int32) &&& 31).toUInt32).toInt32) &&& (255 : Int32)).toUInt32.toUInt16.toUInt32.toInt32)), .val (.int ((((p1.toUInt32 >>> ((16 : Int32) &&& 31).toUInt32).toInt32) &&& (32767 : Int32)) % (3 : Int32)))] [(.int (2 : Int32)), (.ref b5), (.ref b5)])) rfl (hb hby d1_50) rfl (by decide) (cap := 2) (by decide) (by decide) (by decide) (by decide)
      obtain ⟨b6, g6⟩ : ∃ z, z = h5.size := ⟨_, rfl⟩
      rw [← g6] at A6 st6
      refine GoH.st st6 ?_
      have g_b6 : n0 ≤ b6 := by rw [g6]; exact own_le O
      have Sf_b6 : Safe Z EL s.vm h5 b6 := Safe.new (Nat.le_of_eq g6.symm)
      have sz_b6 : h0.size ≤ b6 := by rw [g6]; exact KK.1
      have ne_b5_b6 : b5 ≠ b6 := Nat.ne_of_lt (by rw [g6]; exact E_b5.lt)
      have E_b5 := E_b5.ext E6
      have F_value_b5 := F_value_b5.ext E6
      have F_coder_b5 := F_coder_b5.ext E6
      have Sf_b5 := Safe.ext E6 HH Sf_b5
      have Sf_b6 := Safe.ext E6 HH Sf_b6
      have RR := RR.trans (CHr.ext E6 HH)
      have HH := HH.ext E6
      have hk := Nat.le_trans hk E6.1
      have O := O.ext E6
      have KK := KK.ext E6
      have V_b6 : Arv Z h6 b6 k6 .char (2 : Int32) [(.int (0 : Int32)), (.int (0 : Int32))] (.int (0 : Int32)) := (Arv.new A6 (by decide)).pad (pad_rep [] (.int (0 : Int32)) 2)
      show GoH _ _ _ _ _ _ _ _ _ _  T6 (mkF m 52 #[.val (.int p1), .val (.int ((p1 &&& (255 : Int32)).toUInt32.toUInt16.toUInt32.toInt32)), .val (.int ((((p1.toUInt32 >>> ((8 : Int32) &&& 31).toUInt32).toInt32) &&& (255 : Int32)).toUInt32.toUInt16.toUInt32.toInt32)), .val (.int ((((p1.toUInt32 >>> ((16 : Int32) &&& 31).toUInt32).toInt32) &&& (32767 : Int32)) % (3 : Int32)))] [(.ref b6), (.ref b5), (.ref b5)])
      refine GoH.st (fun tT kT => XS.dup X6.here hx rfl (hb hby d1_52) rfl rfl kT) ?_
      show GoH _ _ _ _ _ _ _ _ _ _  T6 (mkF m 53 #[.val (.int p1), .val (.int ((p1 &&& (255 : Int32)).toUInt32.toUInt16.toUInt32.toInt32)), .val (.int ((((p1.toUInt32 >>> ((8 : Int32) &&& 31).toUInt32).toInt32) &&& (255 : Int32)).toUInt32.toUInt16.toUInt32.toInt32)), .val (.int ((((p1.toUInt32 >>> ((16 : Int32) &&& 31).toUInt32).toInt32) &&& (32767 : Int32)) % (3 : Int32)))] [(.ref b6), (.ref b6), (.ref b5), (.ref b5)])
      refine GoH.st (fun tT kT => XS.iconst X6.here hx rfl (hb hby d1_53) kT) ?_
      show GoH _ _ _ _ _ _ _ _ _ _  T6 (mkF m 54 #[.val (.int p1), .val (.int ((p1 &&& (255 : Int32)).toUInt32.toUInt16.toUInt32.toInt32)), .val (.int ((((p1.toUInt32 >>> ((8 : Int32) &&& 31).toUInt32).toInt32) &&& (255 : Int32)).toUInt32.toUInt16.toUInt32.toInt32)), .val (.int ((((p1.toUInt32 >>> ((16 : Int32) &&& 31).toUInt32).toInt32) &&& (32767 : Int32)) % (3 : Int32)))] [(.int (0 : Int32)), (.ref b6), (.ref b6), (.ref b5), (.ref b5)])
      refine GoH.st (fun tT kT => XS.iloadN X6.here hx rfl (hb hby d1_54) rfl  kT) ?_
      show GoH _ _ _ _ _ _ _ _ _ _  T6 (mkF m 55 #[.val (.int p1), .val (.int ((p1 &&& (255 : Int32)).toUInt32.toUInt16.toUInt32.toInt32)), .val (.int ((((p1.toUInt32 >>> ((8 : Int32) &&& 31).toUInt32).toInt32) &&& (255 : Int32)).toUInt32.toUInt16.toUInt32.toInt32)), .val (.int ((((p1.toUInt32 >>> ((16 : Int32) &&& 31).toUInt32).toInt32) &&& (32767 : Int32)) % (3 : Int32)))] [(.int ((p1 &&& (255 : Int32)).toUInt32.toUInt16.toUInt32.toInt32)), (.int (0 : Int32)), (.ref b6), (.ref b6), (.ref b5), (.ref b5)])
      obtain ⟨cl7, Ar7, q7, S7, M7, Hh7, G7⟩ := V_b6
      obtain ⟨T8, h8, X8, e8, W8, st8⟩ := stC X6 hx hZ e6 Ar7 (j := (0 : Int32)) (inb_of S7 ⟨by decide, by decide⟩) (g := (mkF m 55 #[.val (.int p1), .val (.int ((p1 &&& (255 : Int32)).toUInt32.toUInt16.toUInt32.toInt32)), .val (.int ((((p1.toUInt32 >>> ((8 : Int32) &&& 31).toUInt32).toInt32) &&& (255 : Int32)).toUInt32.toUInt16.toUInt32.toInt32)), .val (.int ((((p1.toUInt32 >>> ((16 : Int32) &&& 31).toUInt32).toInt32) &&& (32767 : Int32)) % (3 : Int32)))] [(.int ((p1 &&& (255 : Int32)).toUInt32.toUInt16.toUInt32.toInt32)), (.int (0 : Int32)), (.ref b6), (.ref b6), (.ref b5), (.ref b5)])) rfl rfl (hb hby d1_55)
      refine GoH.st st8 ?_
      have V_b6 : Arv Z h8 b6 k6 .char (2 : Int32) [(.int (nar .char ((p1 &&& (255 : Int32)).toUInt32.toUInt16.toUInt32.toInt32))), (.int (0 : Int32))] (.int (0 : Int32)) := Arv.set Ar7 q7 S7 M7 Hh7 G7 (fits_nar_char _) W8 0 rfl (Nat.le_of_ble_eq_true rfl)
      have N8 := Fr.snoc X8 N0 g_b6
      have E_b5 := E_b5.wr W8
      have F_value_b5 := F_value_b5.other W8 (Or.inl ne_b5_b6)
      have F_coder_b5 := F_coder_b5.other W8 (Or.inl ne_b5_b6)
      have Sf_b5 := Safe.wr W8 Sf_b6 HH Sf_b5
      have Sf'_b6 := Safe.wr W8 Sf_b6 HH Sf_b6
      have RR := RR.trans (CHr.wr W8 Sf_b6 HH)
      have HH := HH.wr W8 Sf_b6
      have Sf_b6 := Sf'_b6
      have hk := Nat.le_trans hk (Nat.le_of_eq W8.size.symm)
      have O := O.wr W8 g_b6
      have KK := KK.wr W8 (Or.inr sz_b6)
      show GoH _ _ _ _ _ _ _ _ _ _  T8 (mkF m 56 #[.val (.int p1), .val (.int ((p1 &&& (255 : Int32)).toUInt32.toUInt16.toUInt32.toInt32)), .val (.int ((((p1.toUInt32 >>> ((8 : Int32) &&& 31).toUInt32).toInt32) &&& (255 : Int32)).toUInt32.toUInt16.toUInt32.toInt32)), .val (.int ((((p1.toUInt32 >>> ((16 : Int32) &&& 31).toUInt32).toInt32) &&& (32767 : Int32)) % (3 : Int32)))] [(.ref b6), (.ref b5), (.ref b5)])
      refine GoH.st (fun tT kT => XS.dup X8.here hx rfl (hb hby d1_56) rfl rfl kT) ?_
      show GoH _ _ _ _ _ _ _ _ _ _  T8 (mkF m 57 #[.val (.int p1), .val (.int ((p1 &&& (255 : Int32)).toUInt32.toUInt16.toUInt32.toInt32)), .val (.int ((((p1.toUInt32 >>> ((8 : Int32) &&& 31).toUInt32).toInt32) &&& (255 : Int32)).toUInt32.toUInt16.toUInt32.toInt32)), .val (.int ((((p1.toUInt32 >>> ((16 : Int32) &&& 31).toUInt32).toInt32) &&& (32767 : Int32)) % (3 : Int32)))] [(.ref b6), (.ref b6), (.ref b5), (.ref b5)])
      refine GoH.st (fun tT kT => XS.iconst X8.here hx rfl (hb hby d1_57) kT) ?_
      show GoH _ _ _ _ _ _ _ _ _ _  T8 (mkF m 58 #[.val (.int p1), .val (.int ((p1 &&& (255 : Int32)).toUInt32.toUInt16.toUInt32.toInt32)), .val (.int ((((p1.toUInt32 >>> ((8 : Int32) &&& 31).toUInt32).toInt32) &&& (255 : Int32)).toUInt32.toUInt16.toUInt32.toInt32)), .val (.int ((((p1.toUInt32 >>> ((16 : Int32) &&& 31).toUInt32).toInt32) &&& (32767 : Int32)) % (3 : Int32)))] [(.int (1 : Int32)), (.ref b6), (.ref b6), (.ref b5), (.ref b5)])
      refine GoH.st (fun tT kT => XS.iloadN X8.here hx rfl (hb hby d1_58) rfl  kT) ?_
      show GoH _ _ _ _ _ _ _ _ _ _  T8 (mkF m 59 #[.val (.int p1), .val (.int ((p1 &&& (255 : Int32)).toUInt32.toUInt16.toUInt32.toInt32)), .val (.int ((((p1.toUInt32 >>> ((8 : Int32) &&& 31).toUInt32).toInt32) &&& (255 : Int32)).toUInt32.toUInt16.toUInt32.toInt32)), .val (.int ((((p1.toUInt32 >>> ((16 : Int32) &&& 31).toUInt32).toInt32) &&& (32767 : Int32)) % (3 : Int32)))] [(.int ((((p1.toUInt32 >>> ((8 : Int32) &&& 31).toUInt32).toInt32) &&& (255 : Int32)).toUInt32.toUInt16.toUInt32.toInt32)), (.int (1 : Int32)), (.ref b6), (.ref b6), (.ref b5), (.ref b5)])
      obtain ⟨cl9, Ar9, q9, S9, M9, Hh9, G9⟩ := V_b6
      obtain ⟨T10, h10, X10, e10, W10, st10⟩ := stC X8 hx hZ e8 Ar9 (j := (1 : Int32)) (inb_of S9 ⟨by decide, by decide⟩) (g := (mkF m 59 #[.val (.int p1), .val (.int ((p1 &&& (255 : Int32)).toUInt32.toUInt16.toUInt32.toInt32)), .val (.int ((((p1.toUInt32 >>> ((8 : Int32) &&& 31).toUInt32).toInt32) &&& (255 : Int32)).toUInt32.toUInt16.toUInt32.toInt32)), .val (.int ((((p1.toUInt32 >>> ((16 : Int32) &&& 31).toUInt32).toInt32) &&& (32767 : Int32)) % (3 : Int32)))] [(.int ((((p1.toUInt32 >>> ((8 : Int32) &&& 31).toUInt32).toInt32) &&& (255 : Int32)).toUInt32.toUInt16.toUInt32.toInt32)), (.int (1 : Int32)), (.ref b6), (.ref b6), (.ref b5), (.ref b5)])) rfl rfl (hb hby d1_59)
      refine GoH.st st10 ?_
      have V_b6 : Arv Z h10 b6 k6 .char (2 : Int32) [(.int (nar .char ((p1 &&& (255 : Int32)).toUInt32.toUInt16.toUInt32.toInt32))), (.int (nar .char ((((p1.toUInt32 >>> ((8 : Int32) &&& 31).toUInt32).toInt32) &&& (255 : Int32)).toUInt32.toUInt16.toUInt32.toInt32)))] (.int (0 : Int32)) := Arv.set Ar9 q9 S9 M9 Hh9 G9 (fits_nar_char _) W10 1 rfl (Nat.le_of_ble_eq_true rfl)
      have N10 := Fr.snoc X10 N8 g_b6
      have E_b5 := E_b5.wr W10
      have F_value_b5 := F_value_b5.other W10 (Or.inl ne_b5_b6)
      have F_coder_b5 := F_coder_b5.other W10 (Or.inl ne_b5_b6)
      have Sf_b5 := Safe.wr W10 Sf_b6 HH Sf_b5
      have Sf'_b6 := Safe.wr W10 Sf_b6 HH Sf_b6
      have RR := RR.trans (CHr.wr W10 Sf_b6 HH)
      have HH := HH.wr W10 Sf_b6
      have Sf_b6 := Sf'_b6
      have hk := Nat.le_trans hk (Nat.le_of_eq W10.size.symm)
      have O := O.wr W10 g_b6
      have KK := KK.wr W10 (Or.inr sz_b6)
      show GoH _ _ _ _ _ _ _ _ _ _  T10 (mkF m 60 #[.val (.int p1), .val (.int ((p1 &&& (255 : Int32)).toUInt32.toUInt16.toUInt32.toInt32)), .val (.int ((((p1.toUInt32 >>> ((8 : Int32) &&& 31).toUInt32).toInt32) &&& (255 : Int32)).toUInt32.toUInt16.toUInt32.toInt32)), .val (.int ((((p1.toUInt32 >>> ((16 : Int32) &&& 31).toUInt32).toInt32) &&& (32767 : Int32)) % (3 : Int32)))] [(.ref b6), (.ref b5), (.ref b5)])
      have hp11 : ∀ c ∈ ([(nar .char ((p1 &&& (255 : Int32)).toUInt32.toUInt16.toUInt32.toInt32)), (nar .char ((((p1.toUInt32 >>> ((8 : Int32) &&& 31).toUInt32).toInt32) &&& (255 : Int32)).toUInt32.toUInt16.toUInt32.toInt32))] : List Int32), ¬ c < 0 ∧ ¬ (255 : Int32) < c := (own_cons (P := fun c => ¬ c < 0 ∧ ¬ (255 : Int32) < c) (own_m255 _) (own_cons (P := fun c => ¬ c < 0 ∧ ¬ (255 : Int32) < c) (own_m255 _) own_nil))
      obtain ⟨_, _, ⟨T12, L12, k12, n12⟩, -, X12, ⟨Lc12, hQ12, l12, y12, z12⟩, st12⟩ := X10.specialBack hx (y := (⟨"java/lang/String", "<init>", "([C)V"⟩ : MethodName)) rfl hown (mvT hZ (hw _ (List.mem_of_getElem? (i := 249) rfl))) (mvT hZ (hw _ (List.mem_of_getElem? (i := 250) rfl))) (mvT hZ (hw _ (List.mem_of_getElem? (i := 251) rfl))) (by decide) (StrChars.Road.backV (W := 1) hZ hws (kI := 4) (hw _ (List.mem_of_getElem? (i := 6) rfl)) (cs := ([(nar .char ((p1 &&& (255 : Int32)).toUInt32.toUInt16.toUInt32.toInt32)), (nar .char ((((p1.toUInt32 >>> ((8 : Int32) &&& 31).toUInt32).toInt32) &&& (255 : Int32)).toUInt32.toUInt16.toUInt32.toInt32))] : List Int32)) (bs := ([(nar .char ((p1 &&& (255 : Int32)).toUInt32.toUInt16.toUInt32.toInt32)), (nar .char ((((p1.toUInt32 >>> ((8 : Int32) &&& 31).toUInt32).toInt32) &&& (255 : Int32)).toUInt32.toUInt16.toUInt32.toInt32))] : List Int32).map (fun c => c.toInt8.toInt32)) (n := 2) g_b5 (own_le O) E_b5 F_value_b5 F_coder_b5 V_b6 (S_COMPACT.ext O.2) hcs rfl rfl (by decide) (by decide) hp11 rfl (by decide) (by decide)) (g := (mkF m 60 #[.val (.int p1), .val (.int ((p1 &&& (255 : Int32)).toUInt32.toUInt16.toUInt32.toInt32)), .val (.int ((((p1.toUInt32 >>> ((8 : Int32) &&& 31).toUInt32).toInt32) &&& (255 : Int32)).toUInt32.toUInt16.toUInt32.toInt32)), .val (.int ((((p1.toUInt32 >>> ((16 : Int32) &&& 31).toUInt32).toInt32) &&& (32767 : Int32)) % (3 : Int32)))] [(.ref b6), (.ref b5), (.ref b5)])) rfl (by rw [hml]; rfl) (Steps.refl _) (a := b5) (argsL := [(.ref b6)]) (rest := [(.ref b5)]) (lenOf pd___C_V rfl) rfl (by show 2 * 0 + _ ≤ _; exact Nat.le_of_eq rfl) (hb hby d1_60) (fun _ _ => ⟨rfl, e10, (by decide : 2 + 1 ≤ _), (by decide : 6 + 2 ≤ _)⟩)
      dsimp only [Pt.U, Pt.locs, Pt.cells, Pt.slots] at X12 l12 y12 z12 st12 hQ12
      subst l12 y12 z12
      have X12 : Stand p l e _ _ m _ below meth c T12 _ 3 8 := X12
      obtain ⟨rfl, N12q, K12q, Eq12, Cq12, t12, kt12, gt12, lt12, nt12, Vq12, Aq12⟩ := hQ12
      have N12 := Fr.app N10 N12q
      refine GoH.tr st12 ?_
      have g_t12 : n0 ≤ t12 := Nat.le_trans (own_le O) lt12
      have Sf_t12 : Safe Z EL s.vm h10 t12 := Safe.new lt12
      have sz_t12 : h0.size ≤ t12 := Nat.le_trans KK.1 lt12
      have ne_b5_t12 : b5 ≠ t12 := Nat.ne_of_lt (Nat.lt_of_lt_of_le E_b5.lt lt12)
      have ne_b6_t12 : b6 ≠ t12 := Nat.ne_of_lt (Nat.lt_of_lt_of_le V_b6.lt lt12)
      have E_b5 := E_b5.keep K12q
      have V_b6 := V_b6.keep K12q (ninS (Ne.symm ne_b5_b6) nin0)
      have sfw12 := (sfS Sf_b5 sf0)
      have Sf_b5 := Safe.keep K12q sfw12 HH Sf_b5
      have Sf_b6 := Safe.keep K12q sfw12 HH Sf_b6
      have Sf_t12 := Safe.keep K12q sfw12 HH Sf_t12
      have RR := RR.trans (CHr.keep K12q sfw12 HH)
      have HH := HH.keep K12q sfw12
      have hk := Nat.le_trans hk K12q.1
      have O := O.keep K12q (allS g_b5 all0)
      have KK := KK.trans K12q (allS (Or.inr sz_b5) all0)
      have E_b5 := Eq12
      have ne_t12_b5 : t12 ≠ b5 := nt12
      show GoH _ _ _ _ _ _ _ _ _ _  T12 (mkF m 63 #[.val (.int p1), .val (.int ((p1 &&& (255 : Int32)).toUInt32.toUInt16.toUInt32.toInt32)), .val (.int ((((p1.toUInt32 >>> ((8 : Int32) &&& 31).toUInt32).toInt32) &&& (255 : Int32)).toUInt32.toUInt16.toUInt32.toInt32)), .val (.int ((((p1.toUInt32 >>> ((16 : Int32) &&& 31).toUInt32).toInt32) &&& (32767 : Int32)) % (3 : Int32)))] [(.ref b5)])
      refine GoH.retR X12 hS hk rfl hZ hEL HH RR hlk hx Bd.returns rfl rfl rfl (hb hby d1_63) (by decide) (by decide) ?_
      show Q_rmMk Z _ _ h0 n0 _ T12.heap _
      exact ⟨_, _, _, (([(nar .char ((p1 &&& (255 : Int32)).toUInt32.toUInt16.toUInt32.toInt32)), (nar .char ((((p1.toUInt32 >>> ((8 : Int32) &&& 31).toUInt32).toInt32) &&& (255 : Int32)).toUInt32.toUInt16.toUInt32.toInt32))] : List Int32).map (fun c => c.toInt8.toInt32)), rfl, N12, own_ext0 KK, E_b5, Cq12, Vq12, Aq12, (by simp)⟩
def Q_rmTh (Z : State) (a1 : Addr) (msg : Value) (h0 : Heap) (n0 : Nat) (v : Option Value) (h : Heap) (L : List Loc) : Prop := v = none ∧ Fr n0 L ∧ Keep h0 h [a1] ∧ Exa Z h a1 "com/example/keyset/keyset/query/DeclarationException" ∧ Fld Z h a1 "java/lang/Throwable" "detailMessage" "Ljava/lang/String;" msg
set_option maxRecDepth 65536 in
set_option maxHeartbeats 40000000 in
theorem rmTh (l : Launch) (Z : State) (a0 : Array Value) (hw : ∀ d ∈ tables_1, d.before a0 Z = true) (ws : List Jvm.Cond) (a1 : Addr) (msg : Value) (h0 : Heap) (n0 : Nat) (O : Old Z n0 h0) (hl : l.stackTraces = true) (hr : ∀ d ∈ twoRefs, d.before a0 Z = true) (ref_msg : msg.isRef = true) (E_a1 : Exa Z h0 a1 "com/example/keyset/keyset/query/DeclarationException") (U_a1 : Unt h0 a1) (F_cause_a1 : Fld Z h0 a1 "java/lang/Throwable" "cause" "Ljava/lang/Throwable;" .null) (F_stackTrace_a1 : Fld Z h0 a1 "java/lang/Throwable" "stackTrace" "[Ljava/lang/StackTraceElement;" .null) (F_suppressedExceptions_a1 : Fld Z h0 a1 "java/lang/Throwable" "suppressedExceptions" "Ljava/util/List;" .null) (F_backtrace_a1 : Fld Z h0 a1 "java/lang/Throwable" "backtrace" "Ljava/lang/Object;" .null) (F_detailMessage_a1 : Fld Z h0 a1 "java/lang/Throwable" "detailMessage" "Ljava/lang/String;" .null) (g_a1 : n0 ≤ a1) :
    MetFree l (⟨"java/lang/Throwable", "<init>", "(Ljava/lang/String;)V"⟩ : MethodName) (head1 (Jvm.Cond.code (⟨"java/lang/Throwable", "<init>", "(Ljava/lang/String;)V"⟩ : MethodName) jdk_78_method_2_code 2 none :: ws) ({ frames := 3, cells := 1, slots := 2752, locals := 42 } : Room)) (fun a U => a = #[(.ref a1), msg] ∧ Z.Warmed39 U.vm ∧ U.heap = h0) (fun _ _ bl s _ => s.vm.MethodsKnown ∧ s.vm.FramesKnown bl) (fun _ U o U' => ∃ v L, o = .returned v ∧ Q_rmTh Z a1 msg h0 n0 v U'.heap L ∧ FrameEnd U o U' L ({ frames := 3, cells := 1, slots := 2752, locals := 42 } : Room).cells ({ frames := 3, cells := 1, slots := 2752, locals := 42 } : Room).slots) := by
  refine MetFree.of_bodySF (plainFor_of_name pn_33) hisR ?_
  intro p e s m args below meth c s₁ Bd hml0 hP hK
  obtain ⟨rfl, hZ, hh⟩ := hP
  have hx := Bd.exec
  have hby := Bd.bytes
  have hml : c.maxLocals = 2 := hml0
  have hown : s.vm.findClass "java/lang/Throwable" = some m.cls := findClass_of_methodNamed Bd.named
  have hnm := (name_of_methodNamed Bd.named Bd.method).1
  have hlk : meth.locks = false := BodyLoose.notSynchronized Bd
  have X0 : Stand p l e ({ frames := 3, cells := 1, slots := 2752, locals := 42 } : Room) s m #[(.ref a1), msg] below meth c s₁ [] 0 0 := Stand.of_body Bd
  have e0 : s₁.heap = h0 := by rw [← hh, Bd.state]; rfl
  have N0 := Fr.nil n0
  have KK : Keep h0 h0 [a1] := Keep.refl h0 _
  show Go p e below s ({ frames := 3, cells := 1, slots := 2752, locals := 42 } : Room).cells ({ frames := 3, cells := 1, slots := 2752, locals := 42 } : Room).slots (Q_rmTh Z a1 msg h0 n0) s₁ (entryFrame m #[(.ref a1), msg] 2)
  refine Go.eq (ef_rmTh m a1 msg ref_msg) ?_
  have O0 := O
  have TS0 : Jvm.RoadKit.ThS Z s.heap := by rw [hh]; exact Jvm.RoadKit.ThS.start.ext O.2
  obtain ⟨u, eu, ref_u⟩ := isR_v (Cond.before_iff.mp (hr _ (List.mem_of_getElem? (i := 0) rfl)))
  have S_u := Sta.start eu (Or.inr ⟨(hw _ (List.mem_of_getElem? (i := 176) rfl)), (hw _ (List.mem_of_getElem? (i := 207) rfl))⟩)
  have nar_u : narrow (.array (.object "java/lang/StackTraceElement")) u = u := by rcases ref_cases ref_u with rfl | ⟨_, rfl⟩ <;> rfl
  have fit_u : fits (.array (.object "java/lang/StackTraceElement")) u = true := by rcases ref_cases ref_u with rfl | ⟨_, rfl⟩ <;> rfl
  obtain ⟨u2, eu2, ref_u2⟩ := isR_v (Cond.before_iff.mp (hr _ (List.mem_of_getElem? (i := 1) rfl)))
  have S_u2 := Sta.start eu2 (Or.inr ⟨(hw _ (List.mem_of_getElem? (i := 176) rfl)), (hw _ (List.mem_of_getElem? (i := 208) rfl))⟩)
  have nar_u2 : narrow (.object "java/util/List") u2 = u2 := by rcases ref_cases ref_u2 with rfl | ⟨_, rfl⟩ <;> rfl
  have fit_u2 : fits (.object "java/util/List") u2 = true := by rcases ref_cases ref_u2 with rfl | ⟨_, rfl⟩ <;> rfl
  have nar_msg : narrow (.object "java/lang/String") msg = msg := by rcases ref_cases ref_msg with rfl | ⟨_, rfl⟩ <;> rfl
  have fit_msg : fits (.object "java/lang/String") msg = true := by rcases ref_cases ref_msg with rfl | ⟨_, rfl⟩ <;> rfl
  show Go _ _ _ _ _ _ _  s₁ (mkF m 0 #[.val (.ref a1), .val msg] [])
  refine Go.st (fun tT kT => XS.aloadN X0.here hx rfl (hb hby d33_0) rfl rfl  kT) ?_
  show Go _ _ _ _ _ _ _  s₁ (mkF m 1 #[.val (.ref a1), .val msg] [(.ref a1)])
  obtain ⟨T1, X1, e1, st1⟩ := initO X0 hx hZ hown (hw _ (List.mem_of_getElem? (i := 178) rfl)) (hw _ (List.mem_of_getElem? (i := 29) rfl)) (hw _ (List.mem_of_getElem? (i := 30) rfl)) e0 (g := (mkF m 1 #[.val (.ref a1), .val msg] [(.ref a1)])) rfl (by rw [hml]; rfl) rfl (hb hby d33_1) (by decide) (W := 0) (by show 2 * 0 + _ ≤ _; exact Nat.le_of_eq rfl) (by decide)
  refine Go.st st1 ?_
  show Go _ _ _ _ _ _ _  T1 (mkF m 4 #[.val (.ref a1), .val msg] [])
  refine Go.st (fun tT kT => XS.aloadN X1.here hx rfl (hb hby d33_4) rfl rfl  kT) ?_
  show Go _ _ _ _ _ _ _  T1 (mkF m 5 #[.val (.ref a1), .val msg] [(.ref a1)])
  refine Go.st (fun tT kT => XS.aloadN X1.here hx rfl (hb hby d33_5) rfl rfl  kT) ?_
  show Go _ _ _ _ _ _ _  T1 (mkF m 6 #[.val (.ref a1), .val msg] [(.ref a1), (.ref a1)])
  obtain ⟨T2, h2, X2, e2, W2, st2⟩ := putF X1 hx hZ hown (host := "") (Or.inl (hw _ (List.mem_of_getElem? (i := 179) rfl))) Via.refl e1 F_cause_a1 E_a1 (Or.inl (hw _ (List.mem_of_getElem? (i := 180) rfl))) (hw _ (List.mem_of_getElem? (i := 139) rfl)) (ty := (.object "java/lang/Throwable")) (by decide) rfl rfl (g := (mkF m 6 #[.val (.ref a1), .val msg] [(.ref a1), (.ref a1)])) rfl rfl (hb hby d33_6)
  refine Go.st st2 ?_
  have F_cause_a1 : Fld Z h2 a1 "java/lang/Throwable" "cause" "Ljava/lang/Throwable;" (.ref a1) := F_cause_a1.same W2
  have N2 := Fr.snoc X2 N0 g_a1
  have E_a1 := E_a1.wr W2
  have U_a1 := U_a1.wr W2
  have F_stackTrace_a1 := F_stackTrace_a1.other W2 (Or.inr (slot_ne (Or.inl (hw _ (List.mem_of_getElem? (i := 183) rfl))) (Or.inl (hw _ (List.mem_of_getElem? (i := 180) rfl))) (by decide) (t := (.array (.object "java/lang/StackTraceElement"))) (t' := (.object "java/lang/Throwable")) (by decide) (by decide)))
  have F_suppressedExceptions_a1 := F_suppressedExceptions_a1.other W2 (Or.inr (slot_ne (Or.inl (hw _ (List.mem_of_getElem? (i := 186) rfl))) (Or.inl (hw _ (List.mem_of_getElem? (i := 180) rfl))) (by decide) (t := (.object "java/util/List")) (t' := (.object "java/lang/Throwable")) (by decide) (by decide)))
  have F_backtrace_a1 := F_backtrace_a1.other W2 (Or.inr (slot_ne (Or.inl (hw _ (List.mem_of_getElem? (i := 211) rfl))) (Or.inl (hw _ (List.mem_of_getElem? (i := 180) rfl))) (by decide) (t := (.object "java/lang/Object")) (t' := (.object "java/lang/Throwable")) (by decide) (by decide)))
  have F_detailMessage_a1 := F_detailMessage_a1.other W2 (Or.inr (slot_ne (Or.inl (hw _ (List.mem_of_getElem? (i := 210) rfl))) (Or.inl (hw _ (List.mem_of_getElem? (i := 180) rfl))) (by decide) (t := (.object "java/lang/String")) (t' := (.object "java/lang/Throwable")) (by decide) (by decide)))
  have O := O.wr W2 g_a1
  have KK := KK.wr W2 (Or.inl (List.mem_of_getElem? (i := 0) rfl))
  show Go _ _ _ _ _ _ _  T2 (mkF m 9 #[.val (.ref a1), .val msg] [])
  refine Go.st (fun tT kT => XS.aloadN X2.here hx rfl (hb hby d33_9) rfl rfl  kT) ?_
  show Go _ _ _ _ _ _ _  T2 (mkF m 10 #[.val (.ref a1), .val msg] [(.ref a1)])
  obtain ⟨T3, X3, e3, st3⟩ := getS2 X2 hx hZ hown (host := "") (Or.inl (hw _ (List.mem_of_getElem? (i := 181) rfl))) Via.refl e2 (S_u.ext O.2) (g := (mkF m 10 #[.val (.ref a1), .val msg] [(.ref a1)])) rfl (hb hby d33_10)
  refine Go.st st3 ?_
  show Go _ _ _ _ _ _ _  T3 (mkF m 13 #[.val (.ref a1), .val msg] [u, (.ref a1)])
  obtain ⟨T4, h4, X4, e4, W4, st4⟩ := putF X3 hx hZ hown (host := "") (Or.inl (hw _ (List.mem_of_getElem? (i := 182) rfl))) Via.refl e3 F_stackTrace_a1 E_a1 (Or.inl (hw _ (List.mem_of_getElem? (i := 183) rfl))) (hw _ (List.mem_of_getElem? (i := 139) rfl)) (ty := (.array (.object "java/lang/StackTraceElement"))) (by decide) nar_u fit_u (g := (mkF m 13 #[.val (.ref a1), .val msg] [u, (.ref a1)])) rfl rfl (hb hby d33_13)
  refine Go.st st4 ?_
  have F_stackTrace_a1 : Fld Z h4 a1 "java/lang/Throwable" "stackTrace" "[Ljava/lang/StackTraceElement;" u := F_stackTrace_a1.same W4
  have N4 := Fr.snoc X4 N2 g_a1
  have E_a1 := E_a1.wr W4
  have U_a1 := U_a1.wr W4
  have F_cause_a1 := F_cause_a1.other W4 (Or.inr (slot_ne (Or.inl (hw _ (List.mem_of_getElem? (i := 180) rfl))) (Or.inl (hw _ (List.mem_of_getElem? (i := 183) rfl))) (by decide) (t := (.object "java/lang/Throwable")) (t' := (.array (.object "java/lang/StackTraceElement"))) (by decide) (by decide)))
  have F_suppressedExceptions_a1 := F_suppressedExceptions_a1.other W4 (Or.inr (slot_ne (Or.inl (hw _ (List.mem_of_getElem? (i := 186) rfl))) (Or.inl (hw _ (List.mem_of_getElem? (i := 183) rfl))) (by decide) (t := (.object "java/util/List")) (t' := (.array (.object "java/lang/StackTraceElement"))) (by decide) (by decide)))
  have F_backtrace_a1 := F_backtrace_a1.other W4 (Or.inr (slot_ne (Or.inl (hw _ (List.mem_of_getElem? (i := 211) rfl))) (Or.inl (hw _ (List.mem_of_getElem? (i := 183) rfl))) (by decide) (t := (.object "java/lang/Object")) (t' := (.array (.object "java/lang/StackTraceElement"))) (by decide) (by decide)))
  have F_detailMessage_a1 := F_detailMessage_a1.other W4 (Or.inr (slot_ne (Or.inl (hw _ (List.mem_of_getElem? (i := 210) rfl))) (Or.inl (hw _ (List.mem_of_getElem? (i := 183) rfl))) (by decide) (t := (.object "java/lang/String")) (t' := (.array (.object "java/lang/StackTraceElement"))) (by decide) (by decide)))
  have O := O.wr W4 g_a1
  have KK := KK.wr W4 (Or.inl (List.mem_of_getElem? (i := 0) rfl))
  show Go _ _ _ _ _ _ _  T4 (mkF m 16 #[.val (.ref a1), .val msg] [])
  refine Go.st (fun tT kT => XS.aloadN X4.here hx rfl (hb hby d33_16) rfl rfl  kT) ?_
  show Go _ _ _ _ _ _ _  T4 (mkF m 17 #[.val (.ref a1), .val msg] [(.ref a1)])
  obtain ⟨T5, X5, e5, st5⟩ := getS2 X4 hx hZ hown (host := "") (Or.inl (hw _ (List.mem_of_getElem? (i := 184) rfl))) Via.refl e4 (S_u2.ext O.2) (g := (mkF m 17 #[.val (.ref a1), .val msg] [(.ref a1)])) rfl (hb hby d33_17)
  refine Go.st st5 ?_
  show Go _ _ _ _ _ _ _  T5 (mkF m 20 #[.val (.ref a1), .val msg] [u2, (.ref a1)])
  obtain ⟨T6, h6, X6, e6, W6, st6⟩ := putF X5 hx hZ hown (host := "") (Or.inl (hw _ (List.mem_of_getElem? (i := 185) rfl))) Via.refl e5 F_suppressedExceptions_a1 E_a1 (Or.inl (hw _ (List.mem_of_getElem? (i := 186) rfl))) (hw _ (List.mem_of_getElem? (i := 139) rfl)) (ty := (.object "java/util/List")) (by decide) nar_u2 fit_u2 (g := (mkF m 20 #[.val (.ref a1), .val msg] [u2, (.ref a1)])) rfl rfl (hb hby d33_20)
  refine Go.st st6 ?_
  have F_suppressedExceptions_a1 : Fld Z h6 a1 "java/lang/Throwable" "suppressedExceptions" "Ljava/util/List;" u2 := F_suppressedExceptions_a1.same W6
  have N6 := Fr.snoc X6 N4 g_a1
  have E_a1 := E_a1.wr W6
  have U_a1 := U_a1.wr W6
  have F_cause_a1 := F_cause_a1.other W6 (Or.inr (slot_ne (Or.inl (hw _ (List.mem_of_getElem? (i := 180) rfl))) (Or.inl (hw _ (List.mem_of_getElem? (i := 186) rfl))) (by decide) (t := (.object "java/lang/Throwable")) (t' := (.object "java/util/List")) (by decide) (by decide)))
  have F_stackTrace_a1 := F_stackTrace_a1.other W6 (Or.inr (slot_ne (Or.inl (hw _ (List.mem_of_getElem? (i := 183) rfl))) (Or.inl (hw _ (List.mem_of_getElem? (i := 186) rfl))) (by decide) (t := (.array (.object "java/lang/StackTraceElement"))) (t' := (.object "java/util/List")) (by decide) (by decide)))
  have F_backtrace_a1 := F_backtrace_a1.other W6 (Or.inr (slot_ne (Or.inl (hw _ (List.mem_of_getElem? (i := 211) rfl))) (Or.inl (hw _ (List.mem_of_getElem? (i := 186) rfl))) (by decide) (t := (.object "java/lang/Object")) (t' := (.object "java/util/List")) (by decide) (by decide)))
  have F_detailMessage_a1 := F_detailMessage_a1.other W6 (Or.inr (slot_ne (Or.inl (hw _ (List.mem_of_getElem? (i := 210) rfl))) (Or.inl (hw _ (List.mem_of_getElem? (i := 186) rfl))) (by decide) (t := (.object "java/lang/String")) (t' := (.object "java/util/List")) (by decide) (by decide)))
  have O := O.wr W6 g_a1
  have KK := KK.wr W6 (Or.inl (List.mem_of_getElem? (i := 0) rfl))
  show Go _ _ _ _ _ _ _  T6 (mkF m 23 #[.val (.ref a1), .val msg] [])
  refine Go.st (fun tT kT => XS.aloadN X6.here hx rfl (hb hby d33_23) rfl rfl  kT) ?_
  show Go _ _ _ _ _ _ _  T6 (mkF m 24 #[.val (.ref a1), .val msg] [(.ref a1)])
  obtain ⟨T7, L7, X7, bs7, KP7, Ex7, Mx7, st7⟩ := own_fill X6 hx hl hZ hown (fun d hd => hw d ((by decide +kernel : ∀ d ∈ own_thrL "com/example/keyset/keyset/query/DeclarationException" ++ own_filL "com/example/keyset/keyset/query/DeclarationException", d ∈ tables_1) d hd)) (hw _ (List.mem_of_getElem? (i := 139) rfl)) TS0 hK.1 hK.2 e6 (by intro y hy; simp only [List.nil_append, List.mem_append, List.mem_cons, List.not_mem_nil, or_false] at hy; rcases hy with (rfl | rfl) | rfl <;> rfl) E_a1 U_a1 F_backtrace_a1 F_detailMessage_a1 ref_u F_stackTrace_a1 (S_u.ext O.2) (g := (mkF m 24 #[.val (.ref a1), .val msg] [(.ref a1)])) rfl (by rw [hml]; rfl) (rest := []) rfl (hb hby d33_24) (W := 0) (by show 2 * 0 + _ ≤ _; exact Nat.le_of_eq rfl) (by decide) (by decide) (by decide) (by decide)
  refine Go.tr st7 ?_
  rw [hh] at KP7
  have N7 : Fr n0 L7 := fun y hy => by rw [bs7 y hy]; exact g_a1
  have O := O0.keep KP7 (allS g_a1 all0)
  have KK := KP7
  have E_a1 := Ex7
  have F_detailMessage_a1 := Mx7
  show Go _ _ _ _ _ _ _  T7 (mkF m 27 #[.val (.ref a1), .val msg] [(.ref a1)])
  refine Go.st (fun tT kT => XS.pop X7.here hx rfl (hb hby d33_27) rfl rfl kT) ?_
  show Go _ _ _ _ _ _ _  T7 (mkF m 28 #[.val (.ref a1), .val msg] [])
  refine Go.st (fun tT kT => XS.aloadN X7.here hx rfl (hb hby d33_28) rfl rfl  kT) ?_
  show Go _ _ _ _ _ _ _  T7 (mkF m 29 #[.val (.ref a1), .val msg] [(.ref a1)])
  refine Go.st (fun tT kT => XS.aloadN X7.here hx rfl (hb hby d33_29) rfl ref_msg  kT) ?_
  show Go _ _ _ _ _ _ _  T7 (mkF m 30 #[.val (.ref a1), .val msg] [msg, (.ref a1)])
  obtain ⟨T8, h8, X8, e8, W8, st8⟩ := putF X7 hx hZ hown (host := "") (Or.inl (hw _ (List.mem_of_getElem? (i := 214) rfl))) Via.refl rfl F_detailMessage_a1 E_a1 (Or.inl (hw _ (List.mem_of_getElem? (i := 210) rfl))) (hw _ (List.mem_of_getElem? (i := 139) rfl)) (ty := (.object "java/lang/String")) (by decide) nar_msg fit_msg (g := (mkF m 30 #[.val (.ref a1), .val msg] [msg, (.ref a1)])) rfl rfl (hb hby d33_30)
  refine Go.st st8 ?_
  have F_detailMessage_a1 : Fld Z h8 a1 "java/lang/Throwable" "detailMessage" "Ljava/lang/String;" msg := F_detailMessage_a1.same W8
  have N8 := Fr.snoc X8 N7 g_a1
  have E_a1 := E_a1.wr W8
  have O := O.wr W8 g_a1
  have KK := KK.wr W8 (Or.inl (List.mem_of_getElem? (i := 0) rfl))
  show Go _ _ _ _ _ _ _  T8 (mkF m 33 #[.val (.ref a1), .val msg] [])
  refine Go.ret0 X8 hlk hx Bd.returns (hb hby d33_33) (by decide) (by decide) ?_
  show Q_rmTh Z _ _ h0 n0 _ T8.heap _
  rw [e8]
  exact ⟨rfl, N8, KK, E_a1, F_detailMessage_a1⟩
def Q_rmEx (Z : State) (a1 : Addr) (msg : Value) (h0 : Heap) (n0 : Nat) (v : Option Value) (h : Heap) (L : List Loc) : Prop := v = none ∧ Fr n0 L ∧ Keep h0 h [a1] ∧ Exa Z h a1 "com/example/keyset/keyset/query/DeclarationException" ∧ Fld Z h a1 "java/lang/Throwable" "detailMessage" "Ljava/lang/String;" msg
set_option maxRecDepth 65536 in
set_option maxHeartbeats 40000000 in
theorem rmEx (l : Launch) (Z : State) (a0 : Array Value) (hw : ∀ d ∈ tables_1, d.before a0 Z = true) (ws : List Jvm.Cond) (a1 : Addr) (msg : Value) (h0 : Heap) (n0 : Nat) (O : Old Z n0 h0) (hl : l.stackTraces = true) (hr : ∀ d ∈ twoRefs, d.before a0 Z = true) (ref_msg : msg.isRef = true) (E_a1 : Exa Z h0 a1 "com/example/keyset/keyset/query/DeclarationException") (U_a1 : Unt h0 a1) (F_cause_a1 : Fld Z h0 a1 "java/lang/Throwable" "cause" "Ljava/lang/Throwable;" .null) (F_stackTrace_a1 : Fld Z h0 a1 "java/lang/Throwable" "stackTrace" "[Ljava/lang/StackTraceElement;" .null) (F_suppressedExceptions_a1 : Fld Z h0 a1 "java/lang/Throwable" "suppressedExceptions" "Ljava/util/List;" .null) (F_backtrace_a1 : Fld Z h0 a1 "java/lang/Throwable" "backtrace" "Ljava/lang/Object;" .null) (F_detailMessage_a1 : Fld Z h0 a1 "java/lang/Throwable" "detailMessage" "Ljava/lang/String;" .null) (g_a1 : n0 ≤ a1) :
    MetFree l (⟨"java/lang/Exception", "<init>", "(Ljava/lang/String;)V"⟩ : MethodName) (head1 (Jvm.Cond.code (⟨"java/lang/Exception", "<init>", "(Ljava/lang/String;)V"⟩ : MethodName) jdk_59_method_2_code 2 none :: ws) ({ frames := 4, cells := 1, slots := 2752, locals := 55 } : Room)) (fun a U => a = #[(.ref a1), msg] ∧ Z.Warmed39 U.vm ∧ U.heap = h0) (fun _ _ bl s _ => s.vm.MethodsKnown ∧ s.vm.FramesKnown bl) (fun _ U o U' => ∃ v L, o = .returned v ∧ Q_rmEx Z a1 msg h0 n0 v U'.heap L ∧ FrameEnd U o U' L ({ frames := 4, cells := 1, slots := 2752, locals := 55 } : Room).cells ({ frames := 4, cells := 1, slots := 2752, locals := 55 } : Room).slots) := by
  refine MetFree.of_bodySF (plainFor_of_name pn_32) hisR ?_
  intro p e s m args below meth c s₁ Bd hml0 hP hK
  obtain ⟨rfl, hZ, hh⟩ := hP
  have hx := Bd.exec
  have hby := Bd.bytes
  have hml : c.maxLocals = 2 := hml0
  have hown : s.vm.findClass "java/lang/Exception" = some m.cls := findClass_of_methodNamed Bd.named
  have hnm := (name_of_methodNamed Bd.named Bd.method).1
  have hlk : meth.locks = false := BodyLoose.notSynchronized Bd
  have X0 : Stand p l e ({ frames := 4, cells := 1, slots := 2752, locals := 55 } : Room) s m #[(.ref a1), msg] below meth c s₁ [] 0 0 := Stand.of_body Bd
  have e0 : s₁.heap = h0 := by rw [← hh, Bd.state]; rfl
  have N0 := Fr.nil n0
  have KK : Keep h0 h0 [a1] := Keep.refl h0 _
  show Go p e below s ({ frames := 4, cells := 1, slots := 2752, locals := 55 } : Room).cells ({ frames := 4, cells := 1, slots := 2752, locals := 55 } : Room).slots (Q_rmEx Z a1 msg h0 n0) s₁ (entryFrame m #[(.ref a1), msg] 2)
  refine Go.eq (ef_rmEx m a1 msg ref_msg) ?_
  show Go _ _ _ _ _ _ _  s₁ (mkF m 0 #[.val (.ref a1), .val msg] [])
  refine Go.st (fun tT kT => XS.aloadN X0.here hx rfl (hb hby d32_0) rfl rfl  kT) ?_
  show Go _ _ _ _ _ _ _  s₁ (mkF m 1 #[.val (.ref a1), .val msg] [(.ref a1)])
  refine Go.st (fun tT kT => XS.aloadN X0.here hx rfl (hb hby d32_1) rfl ref_msg  kT) ?_
  show Go _ _ _ _ _ _ _  s₁ (mkF m 2 #[.val (.ref a1), .val msg] [msg, (.ref a1)])
  obtain ⟨_, _, ⟨T1, L1, k1, n1⟩, -, X1, ⟨Lc1, hQ1, l1, y1, z1⟩, st1⟩ := X0.specialBack hx (y := (⟨"java/lang/Throwable", "<init>", "(Ljava/lang/String;)V"⟩ : MethodName)) rfl hown (mvT hZ (hw _ (List.mem_of_getElem? (i := 172) rfl))) (mvT hZ (hw _ (List.mem_of_getElem? (i := 173) rfl))) (mvT hZ (hw _ (List.mem_of_getElem? (i := 177) rfl))) (by decide) (backOfKL (W := 0) (rmTh l Z a0 hw [] a1 msg h0 n0 O hl hr ref_msg E_a1 U_a1 F_cause_a1 F_stackTrace_a1 F_suppressedExceptions_a1 F_backtrace_a1 F_detailMessage_a1 g_a1) hZ (hw _ (List.mem_of_getElem? (i := 177) rfl)) (hw _ (List.mem_of_getElem? (i := 176) rfl)) (by decide) (by decide) hK.1 hK.2) (g := (mkF m 2 #[.val (.ref a1), .val msg] [msg, (.ref a1)])) rfl (by rw [hml]; rfl) (Steps.refl _) (a := a1) (argsL := [msg]) (rest := []) (lenOf pd__Ljava_lang_String__V rfl) rfl (by show 2 * 0 + _ ≤ _; exact Nat.le_of_eq rfl) (hb hby d32_2) (fun _ _ => ⟨rfl, e0, (by decide : 0 + 1 ≤ _), (by decide : 0 + 2752 ≤ _)⟩)
  dsimp only [Pt.U, Pt.locs, Pt.cells, Pt.slots] at X1 l1 y1 z1 st1 hQ1
  subst l1 y1 z1
  have X1 : Stand p l e _ _ m _ below meth c T1 _ 1 2752 := X1
  obtain ⟨rfl, N1q, K1q, Eq1, Mq1⟩ := hQ1
  have N1 := Fr.app N0 N1q
  refine Go.tr st1 ?_
  have E_a1 := E_a1.keep K1q
  have O := O.keep K1q (allS g_a1 all0)
  have KK := KK.trans K1q (allS (Or.inl (List.mem_of_getElem? (i := 0) rfl)) all0)
  have E_a1 := Eq1
  show Go _ _ _ _ _ _ _  T1 (mkF m 5 #[.val (.ref a1), .val msg] [])
  refine Go.ret0 X1 hlk hx Bd.returns (hb hby d32_5) (by decide) (by decide) ?_
  show Q_rmEx Z _ _ h0 n0 _ T1.heap _
  exact ⟨rfl, N1, KK, E_a1, Mq1⟩
def Q_rmRt (Z : State) (a1 : Addr) (msg : Value) (h0 : Heap) (n0 : Nat) (v : Option Value) (h : Heap) (L : List Loc) : Prop := v = none ∧ Fr n0 L ∧ Keep h0 h [a1] ∧ Exa Z h a1 "com/example/keyset/keyset/query/DeclarationException" ∧ Fld Z h a1 "java/lang/Throwable" "detailMessage" "Ljava/lang/String;" msg
set_option maxRecDepth 65536 in
set_option maxHeartbeats 40000000 in
theorem rmRt (l : Launch) (Z : State) (a0 : Array Value) (hw : ∀ d ∈ tables_1, d.before a0 Z = true) (ws : List Jvm.Cond) (a1 : Addr) (msg : Value) (h0 : Heap) (n0 : Nat) (O : Old Z n0 h0) (hl : l.stackTraces = true) (hr : ∀ d ∈ twoRefs, d.before a0 Z = true) (ref_msg : msg.isRef = true) (E_a1 : Exa Z h0 a1 "com/example/keyset/keyset/query/DeclarationException") (U_a1 : Unt h0 a1) (F_cause_a1 : Fld Z h0 a1 "java/lang/Throwable" "cause" "Ljava/lang/Throwable;" .null) (F_stackTrace_a1 : Fld Z h0 a1 "java/lang/Throwable" "stackTrace" "[Ljava/lang/StackTraceElement;" .null) (F_suppressedExceptions_a1 : Fld Z h0 a1 "java/lang/Throwable" "suppressedExceptions" "Ljava/util/List;" .null) (F_backtrace_a1 : Fld Z h0 a1 "java/lang/Throwable" "backtrace" "Ljava/lang/Object;" .null) (F_detailMessage_a1 : Fld Z h0 a1 "java/lang/Throwable" "detailMessage" "Ljava/lang/String;" .null) (g_a1 : n0 ≤ a1) :
    MetFree l (⟨"java/lang/RuntimeException", "<init>", "(Ljava/lang/String;)V"⟩ : MethodName) (head1 (Jvm.Cond.code (⟨"java/lang/RuntimeException", "<init>", "(Ljava/lang/String;)V"⟩ : MethodName) jdk_58_method_2_code 2 none :: ws) ({ frames := 5, cells := 1, slots := 2752, locals := 68 } : Room)) (fun a U => a = #[(.ref a1), msg] ∧ Z.Warmed39 U.vm ∧ U.heap = h0) (fun _ _ bl s _ => s.vm.MethodsKnown ∧ s.vm.FramesKnown bl) (fun _ U o U' => ∃ v L, o = .returned v ∧ Q_rmRt Z a1 msg h0 n0 v U'.heap L ∧ FrameEnd U o U' L ({ frames := 5, cells := 1, slots := 2752, locals := 68 } : Room).cells ({ frames := 5, cells := 1, slots := 2752, locals := 68 } : Room).slots) := by
  refine MetFree.of_bodySF (plainFor_of_name pn_31) hisR ?_
  intro p e s m args below meth c s₁ Bd hml0 hP hK
  obtain ⟨rfl, hZ, hh⟩ := hP
  have hx := Bd.exec
  have hby := Bd.bytes
  have hml : c.maxLocals = 2 := hml0
  have hown : s.vm.findClass "java/lang/RuntimeException" = some m.cls := findClass_of_methodNamed Bd.named
  have hnm := (name_of_methodNamed Bd.named Bd.method).1
  have hlk : meth.locks = false := BodyLoose.notSynchronized Bd
  have X0 : Stand p l e ({ frames := 5, cells := 1, slots := 2752, locals := 68 } : Room) s m #[(.ref a1), msg] below meth c s₁ [] 0 0 := Stand.of_body Bd
  have e0 : s₁.heap = h0 := by rw [← hh, Bd.state]; rfl
  have N0 := Fr.nil n0
  have KK : Keep h0 h0 [a1] := Keep.refl h0 _
  show Go p e below s ({ frames := 5, cells := 1, slots := 2752, locals := 68 } : Room).cells ({ frames := 5, cells := 1, slots := 2752, locals := 68 } : Room).slots (Q_rmRt Z a1 msg h0 n0) s₁ (entryFrame m #[(.ref a1), msg] 2)
  refine Go.eq (ef_rmRt m a1 msg ref_msg) ?_
  show Go _ _ _ _ _ _ _  s₁ (mkF m 0 #[.val (.ref a1), .val msg] [])
  refine Go.st (fun tT kT => XS.aloadN X0.here hx rfl (hb hby d31_0) rfl rfl  kT) ?_
  show Go _ _ _ _ _ _ _  s₁ (mkF m 1 #[.val (.ref a1), .val msg] [(.ref a1)])
  refine Go.st (fun tT kT => XS.aloadN X0.here hx rfl (hb hby d31_1) rfl ref_msg  kT) ?_
  show Go _ _ _ _ _ _ _  s₁ (mkF m 2 #[.val (.ref a1), .val msg] [msg, (.ref a1)])
  obtain ⟨_, _, ⟨T1, L1, k1, n1⟩, -, X1, ⟨Lc1, hQ1, l1, y1, z1⟩, st1⟩ := X0.specialBack hx (y := (⟨"java/lang/Exception", "<init>", "(Ljava/lang/String;)V"⟩ : MethodName)) rfl hown (mvT hZ (hw _ (List.mem_of_getElem? (i := 166) rfl))) (mvT hZ (hw _ (List.mem_of_getElem? (i := 167) rfl))) (mvT hZ (hw _ (List.mem_of_getElem? (i := 171) rfl))) (by decide) (backOfKL (W := 0) (rmEx l Z a0 hw [] a1 msg h0 n0 O hl hr ref_msg E_a1 U_a1 F_cause_a1 F_stackTrace_a1 F_suppressedExceptions_a1 F_backtrace_a1 F_detailMessage_a1 g_a1) hZ (hw _ (List.mem_of_getElem? (i := 171) rfl)) (hw _ (List.mem_of_getElem? (i := 170) rfl)) (by decide) (by decide) hK.1 hK.2) (g := (mkF m 2 #[.val (.ref a1), .val msg] [msg, (.ref a1)])) rfl (by rw [hml]; rfl) (Steps.refl _) (a := a1) (argsL := [msg]) (rest := []) (lenOf pd__Ljava_lang_String__V rfl) rfl (by show 2 * 0 + _ ≤ _; exact Nat.le_of_eq rfl) (hb hby d31_2) (fun _ _ => ⟨rfl, e0, (by decide : 0 + 1 ≤ _), (by decide : 0 + 2752 ≤ _)⟩)
  dsimp only [Pt.U, Pt.locs, Pt.cells, Pt.slots] at X1 l1 y1 z1 st1 hQ1
  subst l1 y1 z1
  have X1 : Stand p l e _ _ m _ below meth c T1 _ 1 2752 := X1
  obtain ⟨rfl, N1q, K1q, Eq1, Mq1⟩ := hQ1
  have N1 := Fr.app N0 N1q
  refine Go.tr st1 ?_
  have E_a1 := E_a1.keep K1q
  have O := O.keep K1q (allS g_a1 all0)
  have KK := KK.trans K1q (allS (Or.inl (List.mem_of_getElem? (i := 0) rfl)) all0)
  have E_a1 := Eq1
  show Go _ _ _ _ _ _ _  T1 (mkF m 5 #[.val (.ref a1), .val msg] [])
  refine Go.ret0 X1 hlk hx Bd.returns (hb hby d31_5) (by decide) (by decide) ?_
  show Q_rmRt Z _ _ h0 n0 _ T1.heap _
  exact ⟨rfl, N1, KK, E_a1, Mq1⟩
def Q_rmDc (Z : State) (a1 : Addr) (msg : Value) (h0 : Heap) (n0 : Nat) (v : Option Value) (h : Heap) (L : List Loc) : Prop := v = none ∧ Fr n0 L ∧ Keep h0 h [a1] ∧ Exa Z h a1 "com/example/keyset/keyset/query/DeclarationException" ∧ Fld Z h a1 "java/lang/Throwable" "detailMessage" "Ljava/lang/String;" msg
set_option maxRecDepth 65536 in
set_option maxHeartbeats 40000000 in
theorem rmDc (l : Launch) (Z : State) (a0 : Array Value) (hw : ∀ d ∈ tables_1, d.before a0 Z = true) (ws : List Jvm.Cond) (a1 : Addr) (msg : Value) (h0 : Heap) (n0 : Nat) (O : Old Z n0 h0) (hl : l.stackTraces = true) (hr : ∀ d ∈ twoRefs, d.before a0 Z = true) (ref_msg : msg.isRef = true) (E_a1 : Exa Z h0 a1 "com/example/keyset/keyset/query/DeclarationException") (U_a1 : Unt h0 a1) (F_cause_a1 : Fld Z h0 a1 "java/lang/Throwable" "cause" "Ljava/lang/Throwable;" .null) (F_stackTrace_a1 : Fld Z h0 a1 "java/lang/Throwable" "stackTrace" "[Ljava/lang/StackTraceElement;" .null) (F_suppressedExceptions_a1 : Fld Z h0 a1 "java/lang/Throwable" "suppressedExceptions" "Ljava/util/List;" .null) (F_backtrace_a1 : Fld Z h0 a1 "java/lang/Throwable" "backtrace" "Ljava/lang/Object;" .null) (F_detailMessage_a1 : Fld Z h0 a1 "java/lang/Throwable" "detailMessage" "Ljava/lang/String;" .null) (g_a1 : n0 ≤ a1) :
    MetFree l (⟨"com/example/keyset/keyset/query/DeclarationException", "<init>", "(Ljava/lang/String;)V"⟩ : MethodName) (head1 (Jvm.Cond.code (⟨"com/example/keyset/keyset/query/DeclarationException", "<init>", "(Ljava/lang/String;)V"⟩ : MethodName) prog_2_method_1_code 2 none :: ws) ({ frames := 6, cells := 1, slots := 2752, locals := 81 } : Room)) (fun a U => a = #[(.ref a1), msg] ∧ Z.Warmed39 U.vm ∧ U.heap = h0) (fun _ _ bl s _ => s.vm.MethodsKnown ∧ s.vm.FramesKnown bl) (fun _ U o U' => ∃ v L, o = .returned v ∧ Q_rmDc Z a1 msg h0 n0 v U'.heap L ∧ FrameEnd U o U' L ({ frames := 6, cells := 1, slots := 2752, locals := 81 } : Room).cells ({ frames := 6, cells := 1, slots := 2752, locals := 81 } : Room).slots) := by
  refine MetFree.of_bodySF (plainFor_of_name pn_30) hisR ?_
  intro p e s m args below meth c s₁ Bd hml0 hP hK
  obtain ⟨rfl, hZ, hh⟩ := hP
  have hx := Bd.exec
  have hby := Bd.bytes
  have hml : c.maxLocals = 2 := hml0
  have hown : s.vm.findClass "com/example/keyset/keyset/query/DeclarationException" = some m.cls := findClass_of_methodNamed Bd.named
  have hnm := (name_of_methodNamed Bd.named Bd.method).1
  have hlk : meth.locks = false := BodyLoose.notSynchronized Bd
  have X0 : Stand p l e ({ frames := 6, cells := 1, slots := 2752, locals := 81 } : Room) s m #[(.ref a1), msg] below meth c s₁ [] 0 0 := Stand.of_body Bd
  have e0 : s₁.heap = h0 := by rw [← hh, Bd.state]; rfl
  have N0 := Fr.nil n0
  have KK : Keep h0 h0 [a1] := Keep.refl h0 _
  show Go p e below s ({ frames := 6, cells := 1, slots := 2752, locals := 81 } : Room).cells ({ frames := 6, cells := 1, slots := 2752, locals := 81 } : Room).slots (Q_rmDc Z a1 msg h0 n0) s₁ (entryFrame m #[(.ref a1), msg] 2)
  refine Go.eq (ef_rmDc m a1 msg ref_msg) ?_
  show Go _ _ _ _ _ _ _  s₁ (mkF m 0 #[.val (.ref a1), .val msg] [])
  refine Go.st (fun tT kT => XS.aloadN X0.here hx rfl (hb hby d30_0) rfl rfl  kT) ?_
  show Go _ _ _ _ _ _ _  s₁ (mkF m 1 #[.val (.ref a1), .val msg] [(.ref a1)])
  refine Go.st (fun tT kT => XS.aloadN X0.here hx rfl (hb hby d30_1) rfl ref_msg  kT) ?_
  show Go _ _ _ _ _ _ _  s₁ (mkF m 2 #[.val (.ref a1), .val msg] [msg, (.ref a1)])
  obtain ⟨_, _, ⟨T1, L1, k1, n1⟩, -, X1, ⟨Lc1, hQ1, l1, y1, z1⟩, st1⟩ := X0.specialBack hx (y := (⟨"java/lang/RuntimeException", "<init>", "(Ljava/lang/String;)V"⟩ : MethodName)) rfl hown (mvT hZ (hw _ (List.mem_of_getElem? (i := 161) rfl))) (mvT hZ (hw _ (List.mem_of_getElem? (i := 162) rfl))) (mvT hZ (hw _ (List.mem_of_getElem? (i := 165) rfl))) (by decide) (backOfKL (W := 0) (rmRt l Z a0 hw [] a1 msg h0 n0 O hl hr ref_msg E_a1 U_a1 F_cause_a1 F_stackTrace_a1 F_suppressedExceptions_a1 F_backtrace_a1 F_detailMessage_a1 g_a1) hZ (hw _ (List.mem_of_getElem? (i := 165) rfl)) (hw _ (List.mem_of_getElem? (i := 164) rfl)) (by decide) (by decide) hK.1 hK.2) (g := (mkF m 2 #[.val (.ref a1), .val msg] [msg, (.ref a1)])) rfl (by rw [hml]; rfl) (Steps.refl _) (a := a1) (argsL := [msg]) (rest := []) (lenOf pd__Ljava_lang_String__V rfl) rfl (by show 2 * 0 + _ ≤ _; exact Nat.le_of_eq rfl) (hb hby d30_2) (fun _ _ => ⟨rfl, e0, (by decide : 0 + 1 ≤ _), (by decide : 0 + 2752 ≤ _)⟩)
  dsimp only [Pt.U, Pt.locs, Pt.cells, Pt.slots] at X1 l1 y1 z1 st1 hQ1
  subst l1 y1 z1
  have X1 : Stand p l e _ _ m _ below meth c T1 _ 1 2752 := X1
  obtain ⟨rfl, N1q, K1q, Eq1, Mq1⟩ := hQ1
  have N1 := Fr.app N0 N1q
  refine Go.tr st1 ?_
  have E_a1 := E_a1.keep K1q
  have O := O.keep K1q (allS g_a1 all0)
  have KK := KK.trans K1q (allS (Or.inl (List.mem_of_getElem? (i := 0) rfl)) all0)
  have E_a1 := Eq1
  show Go _ _ _ _ _ _ _  T1 (mkF m 5 #[.val (.ref a1), .val msg] [])
  refine Go.ret0 X1 hlk hx Bd.returns (hb hby d30_5) (by decide) (by decide) ?_
  show Q_rmDc Z _ _ h0 n0 _ T1.heap _
  exact ⟨rfl, N1, KK, E_a1, Mq1⟩
def Q_rmFR (Z : State) (a1 : Addr) (a2 : Addr) (zc : Int32) (z1 : Addr) (k1 : ClassId) (r1 : List Int32) (z2 : Addr) (k2 : ClassId) (r2 : List Int32) (h0 : Heap) (n0 : Nat) (v : Option Value) (h : Heap) (L : List Loc) : Prop := ∃ (x y t : Addr) (kt : ClassId), v = some (.ref x) ∧ Fr n0 L ∧ Ext h0 h ∧ Exa Z h x "com/example/keyset/keyset/query/DeclarationException" ∧ Fld Z h x "java/lang/Throwable" "detailMessage" "Ljava/lang/String;" (.ref y) ∧ Exa Z h y "java/lang/String" ∧ Fld Z h y "java/lang/String" "coder" "B" (.int 0) ∧ Fld Z h y "java/lang/String" "value" "[B" (.ref t) ∧ Arv Z h t kt .byte (Int32.ofNat (own_M r1 r2).length) ((own_M r1 r2).map Value.int) (.int 0)
set_option maxRecDepth 65536 in
set_option maxHeartbeats 40000000 in
theorem rmFR (l : Launch) (Z : State) (a0 : Array Value) (hw : ∀ d ∈ tables_1, d.before a0 Z = true) (ws : List Jvm.Cond) (a1 : Addr) (a2 : Addr) (zc : Int32) (z1 : Addr) (k1 : ClassId) (r1 : List Int32) (z2 : Addr) (k2 : ClassId) (r2 : List Int32) (h0 : Heap) (n0 : Nat) (O : Old Z n0 h0) (hEL : EW Z a0 EL) (wS : ∀ a ∈ Bundle.stringAtoms, a.before a0 Z = true) (S_COMPACT : Sta Z Z.heap "java/lang/String" "COMPACT_STRINGS" "Z" (.int zc)) (hcs : ¬ zc = 0) (hl : l.stackTraces = true) (hr : ∀ d ∈ twoRefs, d.before a0 Z = true) (E_a1 : Exa Z h0 a1 "java/lang/String") (C_a1 : Fld Z h0 a1 "java/lang/String" "coder" "B" (.int 0)) (V_a1 : Fld Z h0 a1 "java/lang/String" "value" "[B" (.ref z1)) (A_z1 : Arv Z h0 z1 k1 .byte (Int32.ofNat r1.length) (r1.map Value.int) (.int 0)) (E_a2 : Exa Z h0 a2 "java/lang/String") (C_a2 : Fld Z h0 a2 "java/lang/String" "coder" "B" (.int 0)) (V_a2 : Fld Z h0 a2 "java/lang/String" "value" "[B" (.ref z2)) (A_z2 : Arv Z h0 z2 k2 .byte (Int32.ofNat r2.length) (r2.map Value.int) (.int 0)) (hb1 : r1.length ≤ 2) (hb2 : 10 ≤ r2.length) (hb3 : r2.length ≤ 14) :
    MetFree l (⟨"com/example/keyset/keyset/query/DeclarationException", "forResource", "(Ljava/lang/String;Ljava/lang/String;)Lcom/example/keyset/keyset/query/DeclarationException;"⟩ : MethodName) (head1 (Jvm.Cond.code (⟨"com/example/keyset/keyset/query/DeclarationException", "forResource", "(Ljava/lang/String;Ljava/lang/String;)Lcom/example/keyset/keyset/query/DeclarationException;"⟩ : MethodName) prog_2_method_2_code 2 (some (.object "com/example/keyset/keyset/query/DeclarationException")) :: ws) ({ frames := 7, cells := 11, slots := 3100, locals := 99 } : Room)) (fun a U => a = #[(.ref a1), (.ref a2)] ∧ Z.Warmed39 U.vm ∧ U.heap = h0 ∧ CHv Z EL U.vm h0 ∧ ∀ x ∈ ([] : List Addr), Safe Z EL U.vm h0 x) (fun _ _ bl s _ => s.vm.MethodsKnown ∧ s.vm.FramesKnown bl) (fun _ U o U' => ∃ v L, o = .returned v ∧ Q_rmFR Z a1 a2 zc z1 k1 r1 z2 k2 r2 h0 n0 v U'.heap L ∧ CHr Z EL U.vm U.heap U'.vm U'.heap ∧ ReturnedEndW U o U' L ({ frames := 7, cells := 11, slots := 3100, locals := 99 } : Room).cells ({ frames := 7, cells := 11, slots := 3100, locals := 99 } : Room).slots) := by
  refine MetFree.of_bodySF (plainFor_of_name pn_25) hisR ?_
  intro p e s m args below meth c s₁ Bd hml0 hP hK
  obtain ⟨rfl, hZ, hh, HH, hSF⟩ := hP
  have hx := Bd.exec
  have hby := Bd.bytes
  have hml : c.maxLocals = 2 := hml0
  have hown : s.vm.findClass "com/example/keyset/keyset/query/DeclarationException" = some m.cls := findClass_of_methodNamed Bd.named
  have hnm := (name_of_methodNamed Bd.named Bd.method).1
  have hlk : meth.locks = false := BodyLoose.notSynchronized Bd
  have X0 : Stand p l e ({ frames := 7, cells := 11, slots := 3100, locals := 99 } : Room) (s.setVm s.vm) m #[(.ref a1), (.ref a2)] below meth c s₁ [] 0 0 := Stand.of_body Bd
  have e0 : s₁.heap = h0 := by rw [← hh, Bd.state]; rfl
  have N0 := Fr.nil n0
  have KK : Keep h0 h0 [] := Keep.refl h0 _
  have hS : s.Since s.vm h0.size := own_since s _
  have hk : h0.size ≤ h0.size := Nat.le_refl _
  have RR : CHr Z EL s.vm h0 s.vm h0 := CHr.refl HH
  suffices hgo : GoH p e below s ({ frames := 7, cells := 11, slots := 3100, locals := 99 } : Room).cells ({ frames := 7, cells := 11, slots := 3100, locals := 99 } : Room).slots Z h0 EL (Q_rmFR Z a1 a2 zc z1 k1 r1 z2 k2 r2 h0 n0) s₁ (entryFrame m #[(.ref a1), (.ref a2)] 2) by
    obtain ⟨s₂, o, q1, q2, q3, v, L, q4, q5, q6, q7⟩ := hgo; exact ⟨s₂, o, q1, q2, q3, v, L, q4, q5, hh ▸ q6, q7⟩
  refine GoH.eq (ef_rmFR m a1 a2) ?_
  show GoH _ _ _ _ _ _ _ _ _ _  s₁ (mkF m 0 #[.val (.ref a1), .val (.ref a2)] [])
  obtain ⟨T1, h1, X1, e1, E1, A1, D1, U1, st1⟩ := newO X0 hx hZ hown (hw _ (List.mem_of_getElem? (i := 138) rfl)) (hw _ (List.mem_of_getElem? (i := 139) rfl)) (hw _ (List.mem_of_getElem? (i := 14) rfl)) e0 (g := (mkF m 0 #[.val (.ref a1), .val (.ref a2)] [])) rfl (hb hby d25_0) (by decide) (by decide)
  obtain ⟨b1, g1⟩ : ∃ z, z = h0.size := ⟨_, rfl⟩
  rw [← g1] at A1 D1 U1 st1
  refine GoH.st st1 ?_
  have g_b1 : n0 ≤ b1 := by rw [g1]; exact own_le O
  have Sf_b1 : Safe Z EL s.vm h0 b1 := Safe.new (Nat.le_of_eq g1.symm)
  have sz_b1 : h0.size ≤ b1 := by rw [g1]; exact KK.1
  have ne_a1_b1 : a1 ≠ b1 := Nat.ne_of_lt (by rw [g1]; exact E_a1.lt)
  have ne_z1_b1 : z1 ≠ b1 := Nat.ne_of_lt (by rw [g1]; exact A_z1.lt)
  have ne_a2_b1 : a2 ≠ b1 := Nat.ne_of_lt (by rw [g1]; exact E_a2.lt)
  have ne_z2_b1 : z2 ≠ b1 := Nat.ne_of_lt (by rw [g1]; exact A_z2.lt)
  have E_a1 := E_a1.ext E1
  have A_z1 := A_z1.ext E1
  have C_a1 := C_a1.ext E1
  have V_a1 := V_a1.ext E1
  have E_a2 := E_a2.ext E1
  have A_z2 := A_z2.ext E1
  have C_a2 := C_a2.ext E1
  have V_a2 := V_a2.ext E1
  have Sf_b1 := Safe.ext E1 HH Sf_b1
  have RR := RR.trans (CHr.ext E1 HH)
  have HH := HH.ext E1
  have hk := Nat.le_trans hk E1.1
  have O := O.ext E1
  have KK := KK.ext E1
  have E_b1 := A1
  have U_b1 : Unt h1 b1 := U1
  have F_cause_b1 : Fld Z h1 b1 "java/lang/Throwable" "cause" "Ljava/lang/Throwable;" .null := D1 (Or.inl (hw _ (List.mem_of_getElem? (i := 180) rfl))) (ty := (.object "java/lang/Throwable")) (by decide)
  have F_stackTrace_b1 : Fld Z h1 b1 "java/lang/Throwable" "stackTrace" "[Ljava/lang/StackTraceElement;" .null := D1 (Or.inl (hw _ (List.mem_of_getElem? (i := 183) rfl))) (ty := (.array (.object "java/lang/StackTraceElement"))) (by decide)
  have F_suppressedExceptions_b1 : Fld Z h1 b1 "java/lang/Throwable" "suppressedExceptions" "Ljava/util/List;" .null := D1 (Or.inl (hw _ (List.mem_of_getElem? (i := 186) rfl))) (ty := (.object "java/util/List")) (by decide)
  have F_detailMessage_b1 : Fld Z h1 b1 "java/lang/Throwable" "detailMessage" "Ljava/lang/String;" .null := D1 (Or.inl (hw _ (List.mem_of_getElem? (i := 210) rfl))) (ty := (.object "java/lang/String")) (by decide)
  have F_backtrace_b1 : Fld Z h1 b1 "java/lang/Throwable" "backtrace" "Ljava/lang/Object;" .null := D1 (Or.inl (hw _ (List.mem_of_getElem? (i := 211) rfl))) (ty := (.object "java/lang/Object")) (by decide)
  have F_depth_b1 : Fld Z h1 b1 "java/lang/Throwable" "depth" "I" (.int (0 : Int32)) := D1 (Or.inl (hw _ (List.mem_of_getElem? (i := 212) rfl))) (ty := .int) (by decide)
  show GoH _ _ _ _ _ _ _ _ _ _  T1 (mkF m 3 #[.val (.ref a1), .val (.ref a2)] [(.ref b1)])
  refine GoH.st (fun tT kT => XS.dup X1.here hx rfl (hb hby d25_3) rfl rfl kT) ?_
  show GoH _ _ _ _ _ _ _ _ _ _  T1 (mkF m 4 #[.val (.ref a1), .val (.ref a2)] [(.ref b1), (.ref b1)])
  obtain ⟨T2, h2, X2, e2, E2, A2, D2, U2, st2⟩ := newO X1 hx hZ hown (hw _ (List.mem_of_getElem? (i := 16) rfl)) (hw _ (List.mem_of_getElem? (i := 17) rfl)) (hw _ (List.mem_of_getElem? (i := 18) rfl)) e1 (g := (mkF m 4 #[.val (.ref a1), .val (.ref a2)] [(.ref b1), (.ref b1)])) rfl (hb hby d25_4) (by decide) (by decide)
  obtain ⟨b2, g2⟩ : ∃ z, z = h1.size := ⟨_, rfl⟩
  rw [← g2] at A2 D2 U2 st2
  refine GoH.st st2 ?_
  have g_b2 : n0 ≤ b2 := by rw [g2]; exact own_le O
  have Sf_b2 : Safe Z EL s.vm h1 b2 := Safe.new (Nat.le_of_eq g2.symm)
  have sz_b2 : h0.size ≤ b2 := by rw [g2]; exact KK.1
  have ne_a1_b2 : a1 ≠ b2 := Nat.ne_of_lt (by rw [g2]; exact E_a1.lt)
  have ne_z1_b2 : z1 ≠ b2 := Nat.ne_of_lt (by rw [g2]; exact A_z1.lt)
  have ne_a2_b2 : a2 ≠ b2 := Nat.ne_of_lt (by rw [g2]; exact E_a2.lt)
  have ne_z2_b2 : z2 ≠ b2 := Nat.ne_of_lt (by rw [g2]; exact A_z2.lt)
  have ne_b1_b2 : b1 ≠ b2 := Nat.ne_of_lt (by rw [g2]; exact E_b1.lt)
  have E_a1 := E_a1.ext E2
  have A_z1 := A_z1.ext E2
  have C_a1 := C_a1.ext E2
  have V_a1 := V_a1.ext E2
  have E_a2 := E_a2.ext E2
  have A_z2 := A_z2.ext E2
  have C_a2 := C_a2.ext E2
  have V_a2 := V_a2.ext E2
  have E_b1 := E_b1.ext E2
  have U_b1 := U_b1.ext E2
  have F_cause_b1 := F_cause_b1.ext E2
  have F_stackTrace_b1 := F_stackTrace_b1.ext E2
  have F_suppressedExceptions_b1 := F_suppressedExceptions_b1.ext E2
  have F_detailMessage_b1 := F_detailMessage_b1.ext E2
  have F_backtrace_b1 := F_backtrace_b1.ext E2
  have Sf_b1 := Safe.ext E2 HH Sf_b1
  have Sf_b2 := Safe.ext E2 HH Sf_b2
  have RR := RR.trans (CHr.ext E2 HH)
  have HH := HH.ext E2
  have hk := Nat.le_trans hk E2.1
  have O := O.ext E2
  have KK := KK.ext E2
  have E_b2 := A2
  have F_value_b2 : Fld Z h2 b2 "java/lang/AbstractStringBuilder" "value" "[B" .null := D2 (Or.inl (hw _ (List.mem_of_getElem? (i := 33) rfl))) (ty := (.array .byte)) (by decide)
  have F_coder_b2 : Fld Z h2 b2 "java/lang/AbstractStringBuilder" "coder" "B" (.int (0 : Int32)) := D2 (Or.inl (hw _ (List.mem_of_getElem? (i := 35) rfl))) (ty := .byte) (by decide)
  have F_count_b2 : Fld Z h2 b2 "java/lang/AbstractStringBuilder" "count" "I" (.int (0 : Int32)) := D2 (Or.inl (hw _ (List.mem_of_getElem? (i := 61) rfl))) (ty := .int) (by decide)
  show GoH _ _ _ _ _ _ _ _ _ _  T2 (mkF m 7 #[.val (.ref a1), .val (.ref a2)] [(.ref b2), (.ref b1), (.ref b1)])
  refine GoH.st (fun tT kT => XS.dup X2.here hx rfl (hb hby d25_7) rfl rfl kT) ?_
  show GoH _ _ _ _ _ _ _ _ _ _  T2 (mkF m 8 #[.val (.ref a1), .val (.ref a2)] [(.ref b2), (.ref b2), (.ref b1), (.ref b1)])
  obtain ⟨_, _, ⟨T3, L3, k3, n3⟩, -, X3, ⟨Lc3, hQ3, l3, y3, z3⟩, st3⟩ := X2.specialBack hx (y := (⟨"java/lang/StringBuilder", "<init>", "()V"⟩ : MethodName)) rfl hown (mvT hZ (hw _ (List.mem_of_getElem? (i := 19) rfl))) (mvT hZ (hw _ (List.mem_of_getElem? (i := 20) rfl))) (mvT hZ (hw _ (List.mem_of_getElem? (i := 21) rfl))) (by decide) (backOf (W := 3) (rmI0 l Z a0 hw [] b2 zc h2 n0 O S_COMPACT hcs E_b2 F_value_b2 F_coder_b2 F_count_b2 g_b2) hZ (hw _ (List.mem_of_getElem? (i := 21) rfl)) (hw _ (List.mem_of_getElem? (i := 18) rfl)) (by decide) (by decide)) (g := (mkF m 8 #[.val (.ref a1), .val (.ref a2)] [(.ref b2), (.ref b2), (.ref b1), (.ref b1)])) rfl (by rw [hml]; rfl) (Steps.refl _) (a := b2) (argsL := []) (rest := [(.ref b2), (.ref b1), (.ref b1)]) (lenOf pd___V rfl) rfl (by show 2 * 0 + _ ≤ _; exact Nat.le_of_eq rfl) (hb hby d25_8) (fun _ _ => ⟨rfl, e2, (by decide : 2 + 1 ≤ _), (by decide : 10 + 16 ≤ _)⟩)
  dsimp only [Pt.U, Pt.locs, Pt.cells, Pt.slots] at X3 l3 y3 z3 st3 hQ3
  subst l3 y3 z3
  have X3 : Stand p l e _ _ m _ below meth c T3 _ 3 26 := X3
  obtain ⟨rfl, N3q, K3q, Eq3, Cq3, Nq3, t3, kt3, lt3, Vq3, Aq3⟩ := hQ3
  have N3 := Fr.app N0 N3q
  refine GoH.tr st3 ?_
  have g_t3 : n0 ≤ t3 := Nat.le_trans (own_le O) lt3
  have Sf_t3 : Safe Z EL s.vm h2 t3 := Safe.new lt3
  have sz_t3 : h0.size ≤ t3 := Nat.le_trans KK.1 lt3
  have ne_a1_t3 : a1 ≠ t3 := Nat.ne_of_lt (Nat.lt_of_lt_of_le E_a1.lt lt3)
  have ne_z1_t3 : z1 ≠ t3 := Nat.ne_of_lt (Nat.lt_of_lt_of_le A_z1.lt lt3)
  have ne_a2_t3 : a2 ≠ t3 := Nat.ne_of_lt (Nat.lt_of_lt_of_le E_a2.lt lt3)
  have ne_z2_t3 : z2 ≠ t3 := Nat.ne_of_lt (Nat.lt_of_lt_of_le A_z2.lt lt3)
  have ne_b1_t3 : b1 ≠ t3 := Nat.ne_of_lt (Nat.lt_of_lt_of_le E_b1.lt lt3)
  have ne_b2_t3 : b2 ≠ t3 := Nat.ne_of_lt (Nat.lt_of_lt_of_le E_b2.lt lt3)
  have E_a1 := E_a1.keep K3q
  have A_z1 := A_z1.keep K3q (ninS ne_z1_b2 nin0)
  have C_a1 := C_a1.keep K3q (ninS ne_a1_b2 nin0)
  have V_a1 := V_a1.keep K3q (ninS ne_a1_b2 nin0)
  have E_a2 := E_a2.keep K3q
  have A_z2 := A_z2.keep K3q (ninS ne_z2_b2 nin0)
  have C_a2 := C_a2.keep K3q (ninS ne_a2_b2 nin0)
  have V_a2 := V_a2.keep K3q (ninS ne_a2_b2 nin0)
  have E_b1 := E_b1.keep K3q
  have U_b1 := U_b1.keep K3q (ninS ne_b1_b2 nin0)
  have F_cause_b1 := F_cause_b1.keep K3q (ninS ne_b1_b2 nin0)
  have F_stackTrace_b1 := F_stackTrace_b1.keep K3q (ninS ne_b1_b2 nin0)
  have F_suppressedExceptions_b1 := F_suppressedExceptions_b1.keep K3q (ninS ne_b1_b2 nin0)
  have F_detailMessage_b1 := F_detailMessage_b1.keep K3q (ninS ne_b1_b2 nin0)
  have F_backtrace_b1 := F_backtrace_b1.keep K3q (ninS ne_b1_b2 nin0)
  have E_b2 := E_b2.keep K3q
  have sfw3 := (sfS Sf_b2 sf0)
  have Sf_b1 := Safe.keep K3q sfw3 HH Sf_b1
  have Sf_b2 := Safe.keep K3q sfw3 HH Sf_b2
  have Sf_t3 := Safe.keep K3q sfw3 HH Sf_t3
  have RR := RR.trans (CHr.keep K3q sfw3 HH)
  have HH := HH.keep K3q sfw3
  have hk := Nat.le_trans hk K3q.1
  have O := O.keep K3q (allS g_b2 all0)
  have KK := KK.trans K3q (allS (Or.inr sz_b2) all0)
  have E_b2 := Eq3
  show GoH _ _ _ _ _ _ _ _ _ _  T3 (mkF m 11 #[.val (.ref a1), .val (.ref a2)] [(.ref b2), (.ref b1), (.ref b1)])
  obtain ⟨sa4, T4, h4, kk4, sb4, kb4, X4, e4, E4, hS4, hk4, hZ4, ho4, E_sa4, F_coder_sa4, F_value_sa4, V_sb4, la4, lb4, CR4, Lt4, ns4, st4⟩ := ldcCH X3 hx hZ hown (hw _ (List.mem_of_getElem? (i := 140) rfl)) wS rfl hS hk hEL (List.mem_of_getElem? (i := 0) rfl) HH (vs := [(.int (114 : Int32)), (.int (101 : Int32)), (.int (115 : Int32)), (.int (111 : Int32)), (.int (117 : Int32)), (.int (114 : Int32)), (.int (99 : Int32)), (.int (101 : Int32)), (.int (32 : Int32)), (.int (34 : Int32))]) (z := 10) ⟨by decide, by decide⟩ (by decide) rfl (g := (mkF m 11 #[.val (.ref a1), .val (.ref a2)] [(.ref b2), (.ref b1), (.ref b1)])) rfl (hb hby d25_11) (n := 40) (by decide) (by decide) (by decide) (by decide)
  refine GoH.st st4 ?_
  have Sf_b1 := CHr.safe CR4 E_b1.lt Sf_b1
  have Sf_b2 := CHr.safe CR4 E_b2.lt Sf_b2
  have Sf_t3 := CHr.safe CR4 Aq3.lt Sf_t3
  have E_a1 := E_a1.ext E4
  have A_z1 := A_z1.ext E4
  have C_a1 := C_a1.ext E4
  have V_a1 := V_a1.ext E4
  have E_a2 := E_a2.ext E4
  have A_z2 := A_z2.ext E4
  have C_a2 := C_a2.ext E4
  have V_a2 := V_a2.ext E4
  have E_b1 := E_b1.ext E4
  have U_b1 := U_b1.ext E4
  have F_cause_b1 := F_cause_b1.ext E4
  have F_stackTrace_b1 := F_stackTrace_b1.ext E4
  have F_suppressedExceptions_b1 := F_suppressedExceptions_b1.ext E4
  have F_detailMessage_b1 := F_detailMessage_b1.ext E4
  have F_backtrace_b1 := F_backtrace_b1.ext E4
  have E_b2 := E_b2.ext E4
  have Cq3 := Cq3.ext E4
  have Vq3 := Vq3.ext E4
  have Nq3 := Nq3.ext E4
  have Aq3 := Aq3.ext E4
  have O := O.ext E4
  have KK := KK.ext E4
  have RR := RR.trans CR4
  have HH := CR4.1
  have hS := hS4
  have hk := hk4
  have hZ := hZ4
  have hown := ho4
  obtain ⟨ne_b1_sa4, ne_b1_sb4⟩ := ns4 _ Sf_b1
  obtain ⟨ne_b2_sa4, ne_b2_sb4⟩ := ns4 _ Sf_b2
  obtain ⟨ne_t3_sa4, ne_t3_sb4⟩ := ns4 _ Sf_t3
  show GoH _ _ _ _ _ _ _ _ _ _  T4 (mkF m 13 #[.val (.ref a1), .val (.ref a2)] [(.ref sa4), (.ref b2), (.ref b1), (.ref b1)])
  obtain ⟨cq5, kq5, q5a, q5b, q5c⟩ := isOf hZ e4 E_b2
  obtain ⟨_, _, ⟨T5, L5, k5, n5⟩, -, X5, ⟨Lc5, hQ5, l5, y5, z5⟩, st5⟩ := X4.virtualBack hx (y := (⟨"java/lang/StringBuilder", "append", "(Ljava/lang/String;)Ljava/lang/StringBuilder;"⟩ : MethodName)) (z := (⟨"java/lang/StringBuilder", "append", "(Ljava/lang/String;)Ljava/lang/StringBuilder;"⟩ : MethodName)) hown (mvT hZ (hw _ (List.mem_of_getElem? (i := 37) rfl))) (mvT hZ (hw _ (List.mem_of_getElem? (i := 38) rfl))) (notFace_of_selects (args := #[]) (mvT hZ (hw _ (List.mem_of_getElem? (i := 40) rfl)))) (mvT hZ (hw _ (List.mem_of_getElem? (i := 40) rfl))) (mvT hZ (hw _ (List.mem_of_getElem? (i := 39) rfl))) (by decide) (backOf (W := 2) (rmS0 l Z a0 hw [] b2 sa4 zc t3 kt3 0 16 [] sb4 kb4 10 [(.int (114 : Int32)), (.int (101 : Int32)), (.int (115 : Int32)), (.int (111 : Int32)), (.int (117 : Int32)), (.int (114 : Int32)), (.int (99 : Int32)), (.int (101 : Int32)), (.int (32 : Int32)), (.int (34 : Int32))] h4 n0 O S_COMPACT hcs E_b2 Cq3 Vq3 Nq3 Aq3 rfl (by omega) (by omega) g_b2 g_t3 E_sa4 F_coder_sa4 F_value_sa4 V_sb4 rfl (by decide) (by omega) (Ne.symm ne_t3_sb4)) hZ (hw _ (List.mem_of_getElem? (i := 41) rfl)) (hw _ (List.mem_of_getElem? (i := 18) rfl)) (by decide) (by decide)) q5a q5c (g := (mkF m 13 #[.val (.ref a1), .val (.ref a2)] [(.ref sa4), (.ref b2), (.ref b1), (.ref b1)])) rfl (by rw [hml]; rfl) (Steps.refl _) (argsL := [(.ref sa4)]) (rest := [(.ref b1), (.ref b1)]) (lenOf pd__Ljava_lang_String__Ljava_lang_StringBuilder_ rfl) rfl (by show 2 * 0 + _ ≤ _; exact Nat.le_of_eq rfl) (hb hby d25_13) (fun _ _ => ⟨rfl, e4, (by decide : 5 + 0 ≤ _), (by decide : 70 + 0 ≤ _)⟩)
  dsimp only [Pt.U, Pt.locs, Pt.cells, Pt.slots] at X5 l5 y5 z5 st5 hQ5
  subst l5 y5 z5
  have X5 : Stand p l e _ _ m _ below meth c T5 _ 5 70 := X5
  obtain ⟨rfl, N5q, K5q, Eq5, Cq5, Nq5, Vq5, Aq5⟩ := hQ5
  have N5 := Fr.app N3 N5q
  refine GoH.tr st5 ?_
  have E_a1 := E_a1.keep K5q
  have A_z1 := A_z1.keep K5q (ninS ne_z1_b2 (ninS ne_z1_t3 nin0))
  have C_a1 := C_a1.keep K5q (ninS ne_a1_b2 (ninS ne_a1_t3 nin0))
  have V_a1 := V_a1.keep K5q (ninS ne_a1_b2 (ninS ne_a1_t3 nin0))
  have E_a2 := E_a2.keep K5q
  have A_z2 := A_z2.keep K5q (ninS ne_z2_b2 (ninS ne_z2_t3 nin0))
  have C_a2 := C_a2.keep K5q (ninS ne_a2_b2 (ninS ne_a2_t3 nin0))
  have V_a2 := V_a2.keep K5q (ninS ne_a2_b2 (ninS ne_a2_t3 nin0))
  have E_b1 := E_b1.keep K5q
  have U_b1 := U_b1.keep K5q (ninS ne_b1_b2 (ninS ne_b1_t3 nin0))
  have F_cause_b1 := F_cause_b1.keep K5q (ninS ne_b1_b2 (ninS ne_b1_t3 nin0))
  have F_stackTrace_b1 := F_stackTrace_b1.keep K5q (ninS ne_b1_b2 (ninS ne_b1_t3 nin0))
  have F_suppressedExceptions_b1 := F_suppressedExceptions_b1.keep K5q (ninS ne_b1_b2 (ninS ne_b1_t3 nin0))
  have F_detailMessage_b1 := F_detailMessage_b1.keep K5q (ninS ne_b1_b2 (ninS ne_b1_t3 nin0))
  have F_backtrace_b1 := F_backtrace_b1.keep K5q (ninS ne_b1_b2 (ninS ne_b1_t3 nin0))
  have E_b2 := E_b2.keep K5q
  have E_sa4 := E_sa4.keep K5q
  have V_sb4 := V_sb4.keep K5q (ninS (Ne.symm ne_b2_sb4) (ninS (Ne.symm ne_t3_sb4) nin0))
  have F_coder_sa4 := F_coder_sa4.keep K5q (ninS (Ne.symm ne_b2_sa4) (ninS (Ne.symm ne_t3_sa4) nin0))
  have F_value_sa4 := F_value_sa4.keep K5q (ninS (Ne.symm ne_b2_sa4) (ninS (Ne.symm ne_t3_sa4) nin0))
  have sfw5 := (sfS Sf_b2 (sfS Sf_t3 sf0))
  have Sf_b1 := Safe.keep K5q sfw5 HH Sf_b1
  have Sf_b2 := Safe.keep K5q sfw5 HH Sf_b2
  have Sf_t3 := Safe.keep K5q sfw5 HH Sf_t3
  have RR := RR.trans (CHr.keep K5q sfw5 HH)
  have HH := HH.keep K5q sfw5
  have hk := Nat.le_trans hk K5q.1
  have O := O.keep K5q (allS g_b2 (allS g_t3 all0))
  have KK := KK.trans K5q (allS (Or.inr sz_b2) (allS (Or.inr sz_t3) all0))
  have E_b2 := Eq5
  show GoH _ _ _ _ _ _ _ _ _ _  T5 (mkF m 16 #[.val (.ref a1), .val (.ref a2)] [(.ref b2), (.ref b1), (.ref b1)])
  refine GoH.st (fun tT kT => XS.aloadN X5.here hx rfl (hb hby d25_16) rfl rfl  kT) ?_
  show GoH _ _ _ _ _ _ _ _ _ _  T5 (mkF m 17 #[.val (.ref a1), .val (.ref a2)] [(.ref a1), (.ref b2), (.ref b1), (.ref b1)])
  obtain ⟨cq6, kq6, q6a, q6b, q6c⟩ := isOf hZ rfl E_b2
  obtain ⟨_, _, ⟨T6, L6, k6, n6⟩, -, X6, ⟨Lc6, hQ6, l6, y6, z6⟩, st6⟩ := X5.virtualBack hx (y := (⟨"java/lang/StringBuilder", "append", "(Ljava/lang/String;)Ljava/lang/StringBuilder;"⟩ : MethodName)) (z := (⟨"java/lang/StringBuilder", "append", "(Ljava/lang/String;)Ljava/lang/StringBuilder;"⟩ : MethodName)) hown (mvT hZ (hw _ (List.mem_of_getElem? (i := 37) rfl))) (mvT hZ (hw _ (List.mem_of_getElem? (i := 38) rfl))) (notFace_of_selects (args := #[]) (mvT hZ (hw _ (List.mem_of_getElem? (i := 40) rfl)))) (mvT hZ (hw _ (List.mem_of_getElem? (i := 40) rfl))) (mvT hZ (hw _ (List.mem_of_getElem? (i := 39) rfl))) (by decide) (backOf (W := 2) (rmS0 l Z a0 hw [] b2 a1 zc t3 kt3 (0 + 10) 16 ([] ++ [(.int (114 : Int32)), (.int (101 : Int32)), (.int (115 : Int32)), (.int (111 : Int32)), (.int (117 : Int32)), (.int (114 : Int32)), (.int (99 : Int32)), (.int (101 : Int32)), (.int (32 : Int32)), (.int (34 : Int32))]) z1 k1 r1.length (r1.map Value.int) T5.heap n0 O S_COMPACT hcs E_b2 Cq5 Vq5 Nq5 Aq5 (own_lapp rfl rfl) (by omega) (by omega) g_b2 g_t3 E_a1 C_a1 V_a1 A_z1 (List.length_map _) (by omega) (by omega) ne_z1_t3) hZ (hw _ (List.mem_of_getElem? (i := 41) rfl)) (hw _ (List.mem_of_getElem? (i := 18) rfl)) (by decide) (by decide)) q6a q6c (g := (mkF m 17 #[.val (.ref a1), .val (.ref a2)] [(.ref a1), (.ref b2), (.ref b1), (.ref b1)])) rfl (by rw [hml]; rfl) (Steps.refl _) (argsL := [(.ref a1)]) (rest := [(.ref b1), (.ref b1)]) (lenOf pd__Ljava_lang_String__Ljava_lang_StringBuilder_ rfl) rfl (by show 2 * 0 + _ ≤ _; exact Nat.le_of_eq rfl) (hb hby d25_17) (fun _ _ => ⟨rfl, rfl, (by decide : 5 + 0 ≤ _), (by decide : 70 + 0 ≤ _)⟩)
  dsimp only [Pt.U, Pt.locs, Pt.cells, Pt.slots] at X6 l6 y6 z6 st6 hQ6
  subst l6 y6 z6
  have X6 : Stand p l e _ _ m _ below meth c T6 _ 5 70 := X6
  obtain ⟨rfl, N6q, K6q, Eq6, Cq6, Nq6, Vq6, Aq6⟩ := hQ6
  have N6 := Fr.app N5 N6q
  refine GoH.tr st6 ?_
  have E_a1 := E_a1.keep K6q
  have A_z1 := A_z1.keep K6q (ninS ne_z1_b2 (ninS ne_z1_t3 nin0))
  have C_a1 := C_a1.keep K6q (ninS ne_a1_b2 (ninS ne_a1_t3 nin0))
  have V_a1 := V_a1.keep K6q (ninS ne_a1_b2 (ninS ne_a1_t3 nin0))
  have E_a2 := E_a2.keep K6q
  have A_z2 := A_z2.keep K6q (ninS ne_z2_b2 (ninS ne_z2_t3 nin0))
  have C_a2 := C_a2.keep K6q (ninS ne_a2_b2 (ninS ne_a2_t3 nin0))
  have V_a2 := V_a2.keep K6q (ninS ne_a2_b2 (ninS ne_a2_t3 nin0))
  have E_b1 := E_b1.keep K6q
  have U_b1 := U_b1.keep K6q (ninS ne_b1_b2 (ninS ne_b1_t3 nin0))
  have F_cause_b1 := F_cause_b1.keep K6q (ninS ne_b1_b2 (ninS ne_b1_t3 nin0))
  have F_stackTrace_b1 := F_stackTrace_b1.keep K6q (ninS ne_b1_b2 (ninS ne_b1_t3 nin0))
  have F_suppressedExceptions_b1 := F_suppressedExceptions_b1.keep K6q (ninS ne_b1_b2 (ninS ne_b1_t3 nin0))
  have F_detailMessage_b1 := F_detailMessage_b1.keep K6q (ninS ne_b1_b2 (ninS ne_b1_t3 nin0))
  have F_backtrace_b1 := F_backtrace_b1.keep K6q (ninS ne_b1_b2 (ninS ne_b1_t3 nin0))
  have E_b2 := E_b2.keep K6q
  have E_sa4 := E_sa4.keep K6q
  have V_sb4 := V_sb4.keep K6q (ninS (Ne.symm ne_b2_sb4) (ninS (Ne.symm ne_t3_sb4) nin0))
  have F_coder_sa4 := F_coder_sa4.keep K6q (ninS (Ne.symm ne_b2_sa4) (ninS (Ne.symm ne_t3_sa4) nin0))
  have F_value_sa4 := F_value_sa4.keep K6q (ninS (Ne.symm ne_b2_sa4) (ninS (Ne.symm ne_t3_sa4) nin0))
  have sfw6 := (sfS Sf_b2 (sfS Sf_t3 sf0))
  have Sf_b1 := Safe.keep K6q sfw6 HH Sf_b1
  have Sf_b2 := Safe.keep K6q sfw6 HH Sf_b2
  have Sf_t3 := Safe.keep K6q sfw6 HH Sf_t3
  have RR := RR.trans (CHr.keep K6q sfw6 HH)
  have HH := HH.keep K6q sfw6
  have hk := Nat.le_trans hk K6q.1
  have O := O.keep K6q (allS g_b2 (allS g_t3 all0))
  have KK := KK.trans K6q (allS (Or.inr sz_b2) (allS (Or.inr sz_t3) all0))
  have E_b2 := Eq6
  show GoH _ _ _ _ _ _ _ _ _ _  T6 (mkF m 20 #[.val (.ref a1), .val (.ref a2)] [(.ref b2), (.ref b1), (.ref b1)])
  obtain ⟨sa7, T7, h7, kk7, sb7, kb7, X7, e7, E7, hS7, hk7, hZ7, ho7, E_sa7, F_coder_sa7, F_value_sa7, V_sb7, la7, lb7, CR7, Lt7, ns7, st7⟩ := ldcCH X6 hx hZ hown (hw _ (List.mem_of_getElem? (i := 87) rfl)) wS rfl hS hk hEL (List.mem_of_getElem? (i := 1) rfl) HH (vs := [(.int (34 : Int32)), (.int (58 : Int32)), (.int (32 : Int32))]) (z := 3) ⟨by decide, by decide⟩ (by decide) rfl (g := (mkF m 20 #[.val (.ref a1), .val (.ref a2)] [(.ref b2), (.ref b1), (.ref b1)])) rfl (hb hby d25_20) (n := 12) (by decide) (by decide) (by decide) (by decide)
  refine GoH.st st7 ?_
  have Sf_b1 := CHr.safe CR7 E_b1.lt Sf_b1
  have Sf_b2 := CHr.safe CR7 E_b2.lt Sf_b2
  have Sf_t3 := CHr.safe CR7 Aq6.lt Sf_t3
  have E_a1 := E_a1.ext E7
  have A_z1 := A_z1.ext E7
  have C_a1 := C_a1.ext E7
  have V_a1 := V_a1.ext E7
  have E_a2 := E_a2.ext E7
  have A_z2 := A_z2.ext E7
  have C_a2 := C_a2.ext E7
  have V_a2 := V_a2.ext E7
  have E_b1 := E_b1.ext E7
  have U_b1 := U_b1.ext E7
  have F_cause_b1 := F_cause_b1.ext E7
  have F_stackTrace_b1 := F_stackTrace_b1.ext E7
  have F_suppressedExceptions_b1 := F_suppressedExceptions_b1.ext E7
  have F_detailMessage_b1 := F_detailMessage_b1.ext E7
  have F_backtrace_b1 := F_backtrace_b1.ext E7
  have E_b2 := E_b2.ext E7
  have E_sa4 := E_sa4.ext E7
  have V_sb4 := V_sb4.ext E7
  have F_coder_sa4 := F_coder_sa4.ext E7
  have F_value_sa4 := F_value_sa4.ext E7
  have Cq6 := Cq6.ext E7
  have Vq6 := Vq6.ext E7
  have Nq6 := Nq6.ext E7
  have Aq6 := Aq6.ext E7
  have O := O.ext E7
  have KK := KK.ext E7
  have RR := RR.trans CR7
  have HH := CR7.1
  have hS := hS7
  have hk := hk7
  have hZ := hZ7
  have hown := ho7
  obtain ⟨ne_b1_sa7, ne_b1_sb7⟩ := ns7 _ Sf_b1
  obtain ⟨ne_b2_sa7, ne_b2_sb7⟩ := ns7 _ Sf_b2
  obtain ⟨ne_t3_sa7, ne_t3_sb7⟩ := ns7 _ Sf_t3
  show GoH _ _ _ _ _ _ _ _ _ _  T7 (mkF m 22 #[.val (.ref a1), .val (.ref a2)] [(.ref sa7), (.ref b2), (.ref b1), (.ref b1)])
  obtain ⟨cq8, kq8, q8a, q8b, q8c⟩ := isOf hZ e7 E_b2
  obtain ⟨_, _, ⟨T8, L8, k8, n8⟩, -, X8, ⟨Lc8, hQ8, l8, y8, z8⟩, st8⟩ := X7.virtualBack hx (y := (⟨"java/lang/StringBuilder", "append", "(Ljava/lang/String;)Ljava/lang/StringBuilder;"⟩ : MethodName)) (z := (⟨"java/lang/StringBuilder", "append", "(Ljava/lang/String;)Ljava/lang/StringBuilder;"⟩ : MethodName)) hown (mvT hZ (hw _ (List.mem_of_getElem? (i := 37) rfl))) (mvT hZ (hw _ (List.mem_of_getElem? (i := 38) rfl))) (notFace_of_selects (args := #[]) (mvT hZ (hw _ (List.mem_of_getElem? (i := 40) rfl)))) (mvT hZ (hw _ (List.mem_of_getElem? (i := 40) rfl))) (mvT hZ (hw _ (List.mem_of_getElem? (i := 39) rfl))) (by decide) (backOf (W := 2) (rmS0 l Z a0 hw [] b2 sa7 zc t3 kt3 ((0 + 10) + r1.length) 16 (([] ++ [(.int (114 : Int32)), (.int (101 : Int32)), (.int (115 : Int32)), (.int (111 : Int32)), (.int (117 : Int32)), (.int (114 : Int32)), (.int (99 : Int32)), (.int (101 : Int32)), (.int (32 : Int32)), (.int (34 : Int32))]) ++ (r1.map Value.int)) sb7 kb7 3 [(.int (34 : Int32)), (.int (58 : Int32)), (.int (32 : Int32))] h7 n0 O S_COMPACT hcs E_b2 Cq6 Vq6 Nq6 Aq6 (own_lapp (own_lapp rfl rfl) (List.length_map _)) (by omega) (by omega) g_b2 g_t3 E_sa7 F_coder_sa7 F_value_sa7 V_sb7 rfl (by decide) (by omega) (Ne.symm ne_t3_sb7)) hZ (hw _ (List.mem_of_getElem? (i := 41) rfl)) (hw _ (List.mem_of_getElem? (i := 18) rfl)) (by decide) (by decide)) q8a q8c (g := (mkF m 22 #[.val (.ref a1), .val (.ref a2)] [(.ref sa7), (.ref b2), (.ref b1), (.ref b1)])) rfl (by rw [hml]; rfl) (Steps.refl _) (argsL := [(.ref sa7)]) (rest := [(.ref b1), (.ref b1)]) (lenOf pd__Ljava_lang_String__Ljava_lang_StringBuilder_ rfl) rfl (by show 2 * 0 + _ ≤ _; exact Nat.le_of_eq rfl) (hb hby d25_22) (fun _ _ => ⟨rfl, e7, (by decide : 7 + 0 ≤ _), (by decide : 86 + 0 ≤ _)⟩)
  dsimp only [Pt.U, Pt.locs, Pt.cells, Pt.slots] at X8 l8 y8 z8 st8 hQ8
  subst l8 y8 z8
  have X8 : Stand p l e _ _ m _ below meth c T8 _ 7 86 := X8
  obtain ⟨rfl, N8q, K8q, Eq8, Cq8, Nq8, Vq8, Aq8⟩ := hQ8
  have N8 := Fr.app N6 N8q
  refine GoH.tr st8 ?_
  have E_a1 := E_a1.keep K8q
  have A_z1 := A_z1.keep K8q (ninS ne_z1_b2 (ninS ne_z1_t3 nin0))
  have C_a1 := C_a1.keep K8q (ninS ne_a1_b2 (ninS ne_a1_t3 nin0))
  have V_a1 := V_a1.keep K8q (ninS ne_a1_b2 (ninS ne_a1_t3 nin0))
  have E_a2 := E_a2.keep K8q
  have A_z2 := A_z2.keep K8q (ninS ne_z2_b2 (ninS ne_z2_t3 nin0))
  have C_a2 := C_a2.keep K8q (ninS ne_a2_b2 (ninS ne_a2_t3 nin0))
  have V_a2 := V_a2.keep K8q (ninS ne_a2_b2 (ninS ne_a2_t3 nin0))
  have E_b1 := E_b1.keep K8q
  have U_b1 := U_b1.keep K8q (ninS ne_b1_b2 (ninS ne_b1_t3 nin0))
  have F_cause_b1 := F_cause_b1.keep K8q (ninS ne_b1_b2 (ninS ne_b1_t3 nin0))
  have F_stackTrace_b1 := F_stackTrace_b1.keep K8q (ninS ne_b1_b2 (ninS ne_b1_t3 nin0))
  have F_suppressedExceptions_b1 := F_suppressedExceptions_b1.keep K8q (ninS ne_b1_b2 (ninS ne_b1_t3 nin0))
  have F_detailMessage_b1 := F_detailMessage_b1.keep K8q (ninS ne_b1_b2 (ninS ne_b1_t3 nin0))
  have F_backtrace_b1 := F_backtrace_b1.keep K8q (ninS ne_b1_b2 (ninS ne_b1_t3 nin0))
  have E_b2 := E_b2.keep K8q
  have E_sa4 := E_sa4.keep K8q
  have V_sb4 := V_sb4.keep K8q (ninS (Ne.symm ne_b2_sb4) (ninS (Ne.symm ne_t3_sb4) nin0))
  have F_coder_sa4 := F_coder_sa4.keep K8q (ninS (Ne.symm ne_b2_sa4) (ninS (Ne.symm ne_t3_sa4) nin0))
  have F_value_sa4 := F_value_sa4.keep K8q (ninS (Ne.symm ne_b2_sa4) (ninS (Ne.symm ne_t3_sa4) nin0))
  have E_sa7 := E_sa7.keep K8q
  have V_sb7 := V_sb7.keep K8q (ninS (Ne.symm ne_b2_sb7) (ninS (Ne.symm ne_t3_sb7) nin0))
  have F_coder_sa7 := F_coder_sa7.keep K8q (ninS (Ne.symm ne_b2_sa7) (ninS (Ne.symm ne_t3_sa7) nin0))
  have F_value_sa7 := F_value_sa7.keep K8q (ninS (Ne.symm ne_b2_sa7) (ninS (Ne.symm ne_t3_sa7) nin0))
  have sfw8 := (sfS Sf_b2 (sfS Sf_t3 sf0))
  have Sf_b1 := Safe.keep K8q sfw8 HH Sf_b1
  have Sf_b2 := Safe.keep K8q sfw8 HH Sf_b2
  have Sf_t3 := Safe.keep K8q sfw8 HH Sf_t3
  have RR := RR.trans (CHr.keep K8q sfw8 HH)
  have HH := HH.keep K8q sfw8
  have hk := Nat.le_trans hk K8q.1
  have O := O.keep K8q (allS g_b2 (allS g_t3 all0))
  have KK := KK.trans K8q (allS (Or.inr sz_b2) (allS (Or.inr sz_t3) all0))
  have E_b2 := Eq8
  show GoH _ _ _ _ _ _ _ _ _ _  T8 (mkF m 25 #[.val (.ref a1), .val (.ref a2)] [(.ref b2), (.ref b1), (.ref b1)])
  refine GoH.st (fun tT kT => XS.aloadN X8.here hx rfl (hb hby d25_25) rfl rfl  kT) ?_
  show GoH _ _ _ _ _ _ _ _ _ _  T8 (mkF m 26 #[.val (.ref a1), .val (.ref a2)] [(.ref a2), (.ref b2), (.ref b1), (.ref b1)])
  obtain ⟨cq9, kq9, q9a, q9b, q9c⟩ := isOf hZ rfl E_b2
  obtain ⟨_, _, ⟨T9, L9, k9, n9⟩, -, X9, ⟨Lc9, hQ9, l9, y9, z9⟩, st9⟩ := X8.virtualBack hx (y := (⟨"java/lang/StringBuilder", "append", "(Ljava/lang/String;)Ljava/lang/StringBuilder;"⟩ : MethodName)) (z := (⟨"java/lang/StringBuilder", "append", "(Ljava/lang/String;)Ljava/lang/StringBuilder;"⟩ : MethodName)) hown (mvT hZ (hw _ (List.mem_of_getElem? (i := 37) rfl))) (mvT hZ (hw _ (List.mem_of_getElem? (i := 38) rfl))) (notFace_of_selects (args := #[]) (mvT hZ (hw _ (List.mem_of_getElem? (i := 40) rfl)))) (mvT hZ (hw _ (List.mem_of_getElem? (i := 40) rfl))) (mvT hZ (hw _ (List.mem_of_getElem? (i := 39) rfl))) (by decide) (backOf (W := 2) (rmS1 l Z a0 hw [] b2 a2 zc t3 kt3 (((0 + 10) + r1.length) + 3) 16 ((([] ++ [(.int (114 : Int32)), (.int (101 : Int32)), (.int (115 : Int32)), (.int (111 : Int32)), (.int (117 : Int32)), (.int (114 : Int32)), (.int (99 : Int32)), (.int (101 : Int32)), (.int (32 : Int32)), (.int (34 : Int32))]) ++ (r1.map Value.int)) ++ [(.int (34 : Int32)), (.int (58 : Int32)), (.int (32 : Int32))]) z2 k2 r2.length (r2.map Value.int) T8.heap n0 O S_COMPACT hcs E_b2 Cq8 Vq8 Nq8 Aq8 (own_lapp (own_lapp (own_lapp rfl rfl) (List.length_map _)) rfl) (by omega) (by omega) g_b2 g_t3 E_a2 C_a2 V_a2 A_z2 (List.length_map _) (by omega) (by omega) (by omega)) hZ (hw _ (List.mem_of_getElem? (i := 41) rfl)) (hw _ (List.mem_of_getElem? (i := 18) rfl)) (by decide) (by decide)) q9a q9c (g := (mkF m 26 #[.val (.ref a1), .val (.ref a2)] [(.ref a2), (.ref b2), (.ref b1), (.ref b1)])) rfl (by rw [hml]; rfl) (Steps.refl _) (argsL := [(.ref a2)]) (rest := [(.ref b1), (.ref b1)]) (lenOf pd__Ljava_lang_String__Ljava_lang_StringBuilder_ rfl) rfl (by show 2 * 0 + _ ≤ _; exact Nat.le_of_eq rfl) (hb hby d25_26) (fun _ _ => ⟨rfl, rfl, (by decide : 7 + 1 ≤ _), (by decide : 86 + 64 ≤ _)⟩)
  dsimp only [Pt.U, Pt.locs, Pt.cells, Pt.slots] at X9 l9 y9 z9 st9 hQ9
  subst l9 y9 z9
  have X9 : Stand p l e _ _ m _ below meth c T9 _ 8 150 := X9
  obtain ⟨rfl, N9q, K9q, Eq9, Cq9, Nq9, t9, kt9, lt9, Vq9, Aq9⟩ := hQ9
  have N9 := Fr.app N8 N9q
  refine GoH.tr st9 ?_
  have g_t9 : n0 ≤ t9 := Nat.le_trans (own_le O) lt9
  have Sf_t9 : Safe Z EL T7.vm T8.heap t9 := Safe.new lt9
  have sz_t9 : h0.size ≤ t9 := Nat.le_trans KK.1 lt9
  have ne_a1_t9 : a1 ≠ t9 := Nat.ne_of_lt (Nat.lt_of_lt_of_le E_a1.lt lt9)
  have ne_z1_t9 : z1 ≠ t9 := Nat.ne_of_lt (Nat.lt_of_lt_of_le A_z1.lt lt9)
  have ne_a2_t9 : a2 ≠ t9 := Nat.ne_of_lt (Nat.lt_of_lt_of_le E_a2.lt lt9)
  have ne_z2_t9 : z2 ≠ t9 := Nat.ne_of_lt (Nat.lt_of_lt_of_le A_z2.lt lt9)
  have ne_b1_t9 : b1 ≠ t9 := Nat.ne_of_lt (Nat.lt_of_lt_of_le E_b1.lt lt9)
  have ne_b2_t9 : b2 ≠ t9 := Nat.ne_of_lt (Nat.lt_of_lt_of_le E_b2.lt lt9)
  have ne_sa4_t9 : sa4 ≠ t9 := Nat.ne_of_lt (Nat.lt_of_lt_of_le E_sa4.lt lt9)
  have ne_sb4_t9 : sb4 ≠ t9 := Nat.ne_of_lt (Nat.lt_of_lt_of_le V_sb4.lt lt9)
  have ne_sa7_t9 : sa7 ≠ t9 := Nat.ne_of_lt (Nat.lt_of_lt_of_le E_sa7.lt lt9)
  have ne_sb7_t9 : sb7 ≠ t9 := Nat.ne_of_lt (Nat.lt_of_lt_of_le V_sb7.lt lt9)
  have ne_t3_t9 : t3 ≠ t9 := Nat.ne_of_lt (Nat.lt_of_lt_of_le Aq8.lt lt9)
  have E_a1 := E_a1.keep K9q
  have A_z1 := A_z1.keep K9q (ninS ne_z1_b2 nin0)
  have C_a1 := C_a1.keep K9q (ninS ne_a1_b2 nin0)
  have V_a1 := V_a1.keep K9q (ninS ne_a1_b2 nin0)
  have E_a2 := E_a2.keep K9q
  have A_z2 := A_z2.keep K9q (ninS ne_z2_b2 nin0)
  have C_a2 := C_a2.keep K9q (ninS ne_a2_b2 nin0)
  have V_a2 := V_a2.keep K9q (ninS ne_a2_b2 nin0)
  have E_b1 := E_b1.keep K9q
  have U_b1 := U_b1.keep K9q (ninS ne_b1_b2 nin0)
  have F_cause_b1 := F_cause_b1.keep K9q (ninS ne_b1_b2 nin0)
  have F_stackTrace_b1 := F_stackTrace_b1.keep K9q (ninS ne_b1_b2 nin0)
  have F_suppressedExceptions_b1 := F_suppressedExceptions_b1.keep K9q (ninS ne_b1_b2 nin0)
  have F_detailMessage_b1 := F_detailMessage_b1.keep K9q (ninS ne_b1_b2 nin0)
  have F_backtrace_b1 := F_backtrace_b1.keep K9q (ninS ne_b1_b2 nin0)
  have E_b2 := E_b2.keep K9q
  have E_sa4 := E_sa4.keep K9q
  have V_sb4 := V_sb4.keep K9q (ninS (Ne.symm ne_b2_sb4) nin0)
  have F_coder_sa4 := F_coder_sa4.keep K9q (ninS (Ne.symm ne_b2_sa4) nin0)
  have F_value_sa4 := F_value_sa4.keep K9q (ninS (Ne.symm ne_b2_sa4) nin0)
  have E_sa7 := E_sa7.keep K9q
  have V_sb7 := V_sb7.keep K9q (ninS (Ne.symm ne_b2_sb7) nin0)
  have F_coder_sa7 := F_coder_sa7.keep K9q (ninS (Ne.symm ne_b2_sa7) nin0)
  have F_value_sa7 := F_value_sa7.keep K9q (ninS (Ne.symm ne_b2_sa7) nin0)
  have Aq8 := Aq8.keep K9q (ninS (Ne.symm ne_b2_t3) nin0)
  have sfw9 := (sfS Sf_b2 sf0)
  have Sf_b1 := Safe.keep K9q sfw9 HH Sf_b1
  have Sf_b2 := Safe.keep K9q sfw9 HH Sf_b2
  have Sf_t3 := Safe.keep K9q sfw9 HH Sf_t3
  have Sf_t9 := Safe.keep K9q sfw9 HH Sf_t9
  have RR := RR.trans (CHr.keep K9q sfw9 HH)
  have HH := HH.keep K9q sfw9
  have hk := Nat.le_trans hk K9q.1
  have O := O.keep K9q (allS g_b2 all0)
  have KK := KK.trans K9q (allS (Or.inr sz_b2) all0)
  have E_b2 := Eq9
  show GoH _ _ _ _ _ _ _ _ _ _  T9 (mkF m 29 #[.val (.ref a1), .val (.ref a2)] [(.ref b2), (.ref b1), (.ref b1)])
  obtain ⟨cq10, kq10, q10a, q10b, q10c⟩ := isOf hZ rfl E_b2
  obtain ⟨_, _, ⟨T10, L10, k10, n10⟩, -, X10, ⟨Lc10, hQ10, l10, y10, z10⟩, st10⟩ := X9.virtualBack hx (y := (⟨"java/lang/StringBuilder", "toString", "()Ljava/lang/String;"⟩ : MethodName)) (z := (⟨"java/lang/StringBuilder", "toString", "()Ljava/lang/String;"⟩ : MethodName)) hown (mvT hZ (hw _ (List.mem_of_getElem? (i := 88) rfl))) (mvT hZ (hw _ (List.mem_of_getElem? (i := 89) rfl))) (notFace_of_selects (args := #[]) (mvT hZ (hw _ (List.mem_of_getElem? (i := 91) rfl)))) (mvT hZ (hw _ (List.mem_of_getElem? (i := 91) rfl))) (mvT hZ (hw _ (List.mem_of_getElem? (i := 90) rfl))) (by decide) (backOf (W := 2) (rmTS l Z a0 hw [] b2 zc t9 kt9 ((((0 + 10) + r1.length) + 3) + r2.length) (16 + max ((((0 + 10) + r1.length) + 3) + r2.length - 16) (16 + 2)) (((([] ++ [(.int (114 : Int32)), (.int (101 : Int32)), (.int (115 : Int32)), (.int (111 : Int32)), (.int (117 : Int32)), (.int (114 : Int32)), (.int (99 : Int32)), (.int (101 : Int32)), (.int (32 : Int32)), (.int (34 : Int32))]) ++ (r1.map Value.int)) ++ [(.int (34 : Int32)), (.int (58 : Int32)), (.int (32 : Int32))]) ++ (r2.map Value.int)) T9.heap n0 O (by omega) (by omega) S_COMPACT hcs E_b2 Cq9 Vq9 Nq9 Aq9 (own_lapp (own_lapp (own_lapp (own_lapp rfl rfl) (List.length_map _)) rfl) (List.length_map _)) (by omega) (by omega)) hZ (hw _ (List.mem_of_getElem? (i := 92) rfl)) (hw _ (List.mem_of_getElem? (i := 18) rfl)) (by decide) (by decide)) q10a q10c (g := (mkF m 29 #[.val (.ref a1), .val (.ref a2)] [(.ref b2), (.ref b1), (.ref b1)])) rfl (by rw [hml]; rfl) (Steps.refl _) (argsL := []) (rest := [(.ref b1), (.ref b1)]) (lenOf pd___Ljava_lang_String_ rfl) rfl (by show 2 * 0 + _ ≤ _; exact Nat.le_of_eq rfl) (hb hby d25_29) (fun _ _ => ⟨rfl, rfl, (by decide : 8 + 2 ≤ _), (by decide : 150 + 68 ≤ _)⟩)
  dsimp only [Pt.U, Pt.locs, Pt.cells, Pt.slots] at X10 l10 y10 z10 st10 hQ10
  subst l10 y10 z10
  have X10 : Stand p l e _ _ m _ below meth c T10 _ 10 218 := X10
  obtain ⟨y10, t10, kt10, rfl, N10q, E10q, ly10, lt10, E_y10, C_y10, V_y10, A_t10⟩ := hQ10
  have N10 := Fr.app N9 N10q
  refine GoH.tr st10 ?_
  have g_y10 : n0 ≤ y10 := Nat.le_trans (own_le O) ly10
  have Sf_y10 : Safe Z EL T7.vm T9.heap y10 := Safe.new ly10
  have sz_y10 : h0.size ≤ y10 := Nat.le_trans KK.1 ly10
  have ne_a1_y10 : a1 ≠ y10 := Nat.ne_of_lt (Nat.lt_of_lt_of_le E_a1.lt ly10)
  have ne_z1_y10 : z1 ≠ y10 := Nat.ne_of_lt (Nat.lt_of_lt_of_le A_z1.lt ly10)
  have ne_a2_y10 : a2 ≠ y10 := Nat.ne_of_lt (Nat.lt_of_lt_of_le E_a2.lt ly10)
  have ne_z2_y10 : z2 ≠ y10 := Nat.ne_of_lt (Nat.lt_of_lt_of_le A_z2.lt ly10)
  have ne_b1_y10 : b1 ≠ y10 := Nat.ne_of_lt (Nat.lt_of_lt_of_le E_b1.lt ly10)
  have ne_b2_y10 : b2 ≠ y10 := Nat.ne_of_lt (Nat.lt_of_lt_of_le E_b2.lt ly10)
  have ne_sa4_y10 : sa4 ≠ y10 := Nat.ne_of_lt (Nat.lt_of_lt_of_le E_sa4.lt ly10)
  have ne_sb4_y10 : sb4 ≠ y10 := Nat.ne_of_lt (Nat.lt_of_lt_of_le V_sb4.lt ly10)
  have ne_sa7_y10 : sa7 ≠ y10 := Nat.ne_of_lt (Nat.lt_of_lt_of_le E_sa7.lt ly10)
  have ne_sb7_y10 : sb7 ≠ y10 := Nat.ne_of_lt (Nat.lt_of_lt_of_le V_sb7.lt ly10)
  have ne_t3_y10 : t3 ≠ y10 := Nat.ne_of_lt (Nat.lt_of_lt_of_le Aq8.lt ly10)
  have ne_t9_y10 : t9 ≠ y10 := Nat.ne_of_lt (Nat.lt_of_lt_of_le Aq9.lt ly10)
  have g_t10 : n0 ≤ t10 := Nat.le_trans (own_le O) lt10
  have Sf_t10 : Safe Z EL T7.vm T9.heap t10 := Safe.new lt10
  have sz_t10 : h0.size ≤ t10 := Nat.le_trans KK.1 lt10
  have ne_a1_t10 : a1 ≠ t10 := Nat.ne_of_lt (Nat.lt_of_lt_of_le E_a1.lt lt10)
  have ne_z1_t10 : z1 ≠ t10 := Nat.ne_of_lt (Nat.lt_of_lt_of_le A_z1.lt lt10)
  have ne_a2_t10 : a2 ≠ t10 := Nat.ne_of_lt (Nat.lt_of_lt_of_le E_a2.lt lt10)
  have ne_z2_t10 : z2 ≠ t10 := Nat.ne_of_lt (Nat.lt_of_lt_of_le A_z2.lt lt10)
  have ne_b1_t10 : b1 ≠ t10 := Nat.ne_of_lt (Nat.lt_of_lt_of_le E_b1.lt lt10)
  have ne_b2_t10 : b2 ≠ t10 := Nat.ne_of_lt (Nat.lt_of_lt_of_le E_b2.lt lt10)
  have ne_sa4_t10 : sa4 ≠ t10 := Nat.ne_of_lt (Nat.lt_of_lt_of_le E_sa4.lt lt10)
  have ne_sb4_t10 : sb4 ≠ t10 := Nat.ne_of_lt (Nat.lt_of_lt_of_le V_sb4.lt lt10)
  have ne_sa7_t10 : sa7 ≠ t10 := Nat.ne_of_lt (Nat.lt_of_lt_of_le E_sa7.lt lt10)
  have ne_sb7_t10 : sb7 ≠ t10 := Nat.ne_of_lt (Nat.lt_of_lt_of_le V_sb7.lt lt10)
  have ne_t3_t10 : t3 ≠ t10 := Nat.ne_of_lt (Nat.lt_of_lt_of_le Aq8.lt lt10)
  have ne_t9_t10 : t9 ≠ t10 := Nat.ne_of_lt (Nat.lt_of_lt_of_le Aq9.lt lt10)
  have E10 := E10q
  have E_a1 := E_a1.ext E10
  have A_z1 := A_z1.ext E10
  have C_a1 := C_a1.ext E10
  have V_a1 := V_a1.ext E10
  have E_a2 := E_a2.ext E10
  have A_z2 := A_z2.ext E10
  have C_a2 := C_a2.ext E10
  have V_a2 := V_a2.ext E10
  have E_b1 := E_b1.ext E10
  have U_b1 := U_b1.ext E10
  have F_cause_b1 := F_cause_b1.ext E10
  have F_stackTrace_b1 := F_stackTrace_b1.ext E10
  have F_suppressedExceptions_b1 := F_suppressedExceptions_b1.ext E10
  have F_detailMessage_b1 := F_detailMessage_b1.ext E10
  have F_backtrace_b1 := F_backtrace_b1.ext E10
  have E_b2 := E_b2.ext E10
  have E_sa4 := E_sa4.ext E10
  have V_sb4 := V_sb4.ext E10
  have F_coder_sa4 := F_coder_sa4.ext E10
  have F_value_sa4 := F_value_sa4.ext E10
  have E_sa7 := E_sa7.ext E10
  have V_sb7 := V_sb7.ext E10
  have F_coder_sa7 := F_coder_sa7.ext E10
  have F_value_sa7 := F_value_sa7.ext E10
  have Aq8 := Aq8.ext E10
  have Cq9 := Cq9.ext E10
  have Vq9 := Vq9.ext E10
  have Nq9 := Nq9.ext E10
  have Aq9 := Aq9.ext E10
  have Sf_b1 := Safe.ext E10 HH Sf_b1
  have Sf_b2 := Safe.ext E10 HH Sf_b2
  have Sf_t3 := Safe.ext E10 HH Sf_t3
  have Sf_t9 := Safe.ext E10 HH Sf_t9
  have Sf_y10 := Safe.ext E10 HH Sf_y10
  have Sf_t10 := Safe.ext E10 HH Sf_t10
  have RR := RR.trans (CHr.ext E10 HH)
  have HH := HH.ext E10
  have hk := Nat.le_trans hk E10.1
  have O := O.ext E10
  have KK := KK.ext E10
  have ee10 : ((((([] ++ [(.int (114 : Int32)), (.int (101 : Int32)), (.int (115 : Int32)), (.int (111 : Int32)), (.int (117 : Int32)), (.int (114 : Int32)), (.int (99 : Int32)), (.int (101 : Int32)), (.int (32 : Int32)), (.int (34 : Int32))]) ++ (r1.map Value.int)) ++ [(.int (34 : Int32)), (.int (58 : Int32)), (.int (32 : Int32))]) ++ (r2.map Value.int)) : List Value) = (own_M r1 r2).map Value.int := by simp [own_M, own_L1, own_L2]
  have el10 : ((((0 + 10) + r1.length) + 3) + r2.length) = (own_M r1 r2).length := Eq.trans (Eq.symm ((own_lapp (own_lapp (own_lapp (own_lapp rfl rfl) (List.length_map _)) rfl) (List.length_map _)) : ((((([] ++ [(.int (114 : Int32)), (.int (101 : Int32)), (.int (115 : Int32)), (.int (111 : Int32)), (.int (117 : Int32)), (.int (114 : Int32)), (.int (99 : Int32)), (.int (101 : Int32)), (.int (32 : Int32)), (.int (34 : Int32))]) ++ (r1.map Value.int)) ++ [(.int (34 : Int32)), (.int (58 : Int32)), (.int (32 : Int32))]) ++ (r2.map Value.int)) : List Value).length = ((((0 + 10) + r1.length) + 3) + r2.length))) ((congrArg List.length ee10).trans (List.length_map _))
  rw [ee10, el10] at A_t10
  have ne_y10_t10 : y10 ≠ t10 := Exa.neArv E_y10 A_t10 (hw _ (List.mem_of_getElem? (i := 6) rfl))
  show GoH _ _ _ _ _ _ _ _ _ _  T10 (mkF m 32 #[.val (.ref a1), .val (.ref a2)] [(.ref y10), (.ref b1), (.ref b1)])
  obtain ⟨_, _, ⟨T11, L11, k11, n11⟩, -, X11, ⟨Lc11, hQ11, l11, y11, z11⟩, st11⟩ := X10.specialBack hx (y := (⟨"com/example/keyset/keyset/query/DeclarationException", "<init>", "(Ljava/lang/String;)V"⟩ : MethodName)) rfl hown (mvT hZ (hw _ (List.mem_of_getElem? (i := 158) rfl))) (mvT hZ (hw _ (List.mem_of_getElem? (i := 159) rfl))) (mvT hZ (hw _ (List.mem_of_getElem? (i := 160) rfl))) (by decide) (backOfKL (W := 1) (rmDc l Z a0 hw [] b1 (.ref y10) T10.heap n0 O hl hr rfl E_b1 U_b1 F_cause_b1 F_stackTrace_b1 F_suppressedExceptions_b1 F_backtrace_b1 F_detailMessage_b1 g_b1) hZ (hw _ (List.mem_of_getElem? (i := 160) rfl)) (hw _ (List.mem_of_getElem? (i := 14) rfl)) (by decide) (by decide) (Vm.MethodsKnown.alikeC hS.1.alike hK.1) (Vm.FramesKnown.alikeC hS.1.alike hK.2)) (g := (mkF m 32 #[.val (.ref a1), .val (.ref a2)] [(.ref y10), (.ref b1), (.ref b1)])) rfl (by rw [hml]; rfl) (Steps.refl _) (a := b1) (argsL := [(.ref y10)]) (rest := [(.ref b1)]) (lenOf pd__Ljava_lang_String__V rfl) rfl (by show 2 * 0 + _ ≤ _; exact Nat.le_of_eq rfl) (hb hby d25_32) (fun _ _ => ⟨rfl, rfl, (by decide : 10 + 1 ≤ _), (by decide : 218 + 2752 ≤ _)⟩)
  dsimp only [Pt.U, Pt.locs, Pt.cells, Pt.slots] at X11 l11 y11 z11 st11 hQ11
  subst l11 y11 z11
  have X11 : Stand p l e _ _ m _ below meth c T11 _ 11 2970 := X11
  obtain ⟨rfl, N11q, K11q, Eq11, Mq11⟩ := hQ11
  have N11 := Fr.app N10 N11q
  refine GoH.tr st11 ?_
  have E_a1 := E_a1.keep K11q
  have A_z1 := A_z1.keep K11q (ninS ne_z1_b1 nin0)
  have C_a1 := C_a1.keep K11q (ninS ne_a1_b1 nin0)
  have V_a1 := V_a1.keep K11q (ninS ne_a1_b1 nin0)
  have E_a2 := E_a2.keep K11q
  have A_z2 := A_z2.keep K11q (ninS ne_z2_b1 nin0)
  have C_a2 := C_a2.keep K11q (ninS ne_a2_b1 nin0)
  have V_a2 := V_a2.keep K11q (ninS ne_a2_b1 nin0)
  have E_b1 := E_b1.keep K11q
  have E_b2 := E_b2.keep K11q
  have E_sa4 := E_sa4.keep K11q
  have V_sb4 := V_sb4.keep K11q (ninS (Ne.symm ne_b1_sb4) nin0)
  have F_coder_sa4 := F_coder_sa4.keep K11q (ninS (Ne.symm ne_b1_sa4) nin0)
  have F_value_sa4 := F_value_sa4.keep K11q (ninS (Ne.symm ne_b1_sa4) nin0)
  have E_sa7 := E_sa7.keep K11q
  have V_sb7 := V_sb7.keep K11q (ninS (Ne.symm ne_b1_sb7) nin0)
  have F_coder_sa7 := F_coder_sa7.keep K11q (ninS (Ne.symm ne_b1_sa7) nin0)
  have F_value_sa7 := F_value_sa7.keep K11q (ninS (Ne.symm ne_b1_sa7) nin0)
  have Aq8 := Aq8.keep K11q (ninS (Ne.symm ne_b1_t3) nin0)
  have Cq9 := Cq9.keep K11q (ninS (Ne.symm ne_b1_b2) nin0)
  have Vq9 := Vq9.keep K11q (ninS (Ne.symm ne_b1_b2) nin0)
  have Nq9 := Nq9.keep K11q (ninS (Ne.symm ne_b1_b2) nin0)
  have Aq9 := Aq9.keep K11q (ninS (Ne.symm ne_b1_t9) nin0)
  have E_y10 := E_y10.keep K11q
  have A_t10 := A_t10.keep K11q (ninS (Ne.symm ne_b1_t10) nin0)
  have C_y10 := C_y10.keep K11q (ninS (Ne.symm ne_b1_y10) nin0)
  have V_y10 := V_y10.keep K11q (ninS (Ne.symm ne_b1_y10) nin0)
  have sfw11 := (sfS Sf_b1 sf0)
  have Sf_b1 := Safe.keep K11q sfw11 HH Sf_b1
  have Sf_b2 := Safe.keep K11q sfw11 HH Sf_b2
  have Sf_t3 := Safe.keep K11q sfw11 HH Sf_t3
  have Sf_t9 := Safe.keep K11q sfw11 HH Sf_t9
  have Sf_y10 := Safe.keep K11q sfw11 HH Sf_y10
  have Sf_t10 := Safe.keep K11q sfw11 HH Sf_t10
  have RR := RR.trans (CHr.keep K11q sfw11 HH)
  have HH := HH.keep K11q sfw11
  have hk := Nat.le_trans hk K11q.1
  have O := O.keep K11q (allS g_b1 all0)
  have KK := KK.trans K11q (allS (Or.inr sz_b1) all0)
  have E_b1 := Eq11
  show GoH _ _ _ _ _ _ _ _ _ _  T11 (mkF m 35 #[.val (.ref a1), .val (.ref a2)] [(.ref b1)])
  refine GoH.retR X11 hS hk rfl hZ hEL HH RR hlk hx Bd.returns rfl rfl rfl (hb hby d25_35) (by decide) (by decide) ?_
  show Q_rmFR Z _ _ _ _ _ _ _ _ _ h0 n0 _ T11.heap _
  exact ⟨_, _, _, _, rfl, N11, own_ext0 KK, E_b1, Mq11, E_y10, C_y10, V_y10, A_t10⟩
def Q_rmFF (Z : State) (a1 : Addr) (a2 : Addr) (a3 : Addr) (zc : Int32) (z1 : Addr) (k1 : ClassId) (r1 : List Int32) (z2 : Addr) (k2 : ClassId) (r2 : List Int32) (z3 : Addr) (k3 : ClassId) (r3 : List Int32) (h0 : Heap) (n0 : Nat) (v : Option Value) (h : Heap) (L : List Loc) : Prop := ∃ (x y t : Addr) (kt : ClassId), v = some (.ref x) ∧ Fr n0 L ∧ Ext h0 h ∧ Exa Z h x "com/example/keyset/keyset/query/DeclarationException" ∧ Fld Z h x "java/lang/Throwable" "detailMessage" "Ljava/lang/String;" (.ref y) ∧ Exa Z h y "java/lang/String" ∧ Fld Z h y "java/lang/String" "coder" "B" (.int 0) ∧ Fld Z h y "java/lang/String" "value" "[B" (.ref t) ∧ Arv Z h t kt .byte (Int32.ofNat (own_M r1 (own_inner r2 r3)).length) ((own_M r1 (own_inner r2 r3)).map Value.int) (.int 0)
set_option maxRecDepth 65536 in
set_option maxHeartbeats 40000000 in
theorem rmFF (l : Launch) (Z : State) (a0 : Array Value) (hw : ∀ d ∈ tables_1, d.before a0 Z = true) (ws : List Jvm.Cond) (a1 : Addr) (a2 : Addr) (a3 : Addr) (zc : Int32) (z1 : Addr) (k1 : ClassId) (r1 : List Int32) (z2 : Addr) (k2 : ClassId) (r2 : List Int32) (z3 : Addr) (k3 : ClassId) (r3 : List Int32) (h0 : Heap) (n0 : Nat) (O : Old Z n0 h0) (hEL : EW Z a0 EL) (wS : ∀ a ∈ Bundle.stringAtoms, a.before a0 Z = true) (S_COMPACT : Sta Z Z.heap "java/lang/String" "COMPACT_STRINGS" "Z" (.int zc)) (hcs : ¬ zc = 0) (hl : l.stackTraces = true) (hr : ∀ d ∈ twoRefs, d.before a0 Z = true) (E_a1 : Exa Z h0 a1 "java/lang/String") (C_a1 : Fld Z h0 a1 "java/lang/String" "coder" "B" (.int 0)) (V_a1 : Fld Z h0 a1 "java/lang/String" "value" "[B" (.ref z1)) (A_z1 : Arv Z h0 z1 k1 .byte (Int32.ofNat r1.length) (r1.map Value.int) (.int 0)) (E_a2 : Exa Z h0 a2 "java/lang/String") (C_a2 : Fld Z h0 a2 "java/lang/String" "coder" "B" (.int 0)) (V_a2 : Fld Z h0 a2 "java/lang/String" "value" "[B" (.ref z2)) (A_z2 : Arv Z h0 z2 k2 .byte (Int32.ofNat r2.length) (r2.map Value.int) (.int 0)) (E_a3 : Exa Z h0 a3 "java/lang/String") (C_a3 : Fld Z h0 a3 "java/lang/String" "coder" "B" (.int 0)) (V_a3 : Fld Z h0 a3 "java/lang/String" "value" "[B" (.ref z3)) (A_z3 : Arv Z h0 z3 k3 .byte (Int32.ofNat r3.length) (r3.map Value.int) (.int 0)) (hb1 : r1.length ≤ 2) (hb2 : r2.length ≤ 2) (hb3 : r3.length ≤ 2) :
    MetFree l (⟨"com/example/keyset/keyset/query/DeclarationException", "forField", "(Ljava/lang/String;Ljava/lang/String;Ljava/lang/String;)Lcom/example/keyset/keyset/query/DeclarationException;"⟩ : MethodName) (head1 (Jvm.Cond.code (⟨"com/example/keyset/keyset/query/DeclarationException", "forField", "(Ljava/lang/String;Ljava/lang/String;Ljava/lang/String;)Lcom/example/keyset/keyset/query/DeclarationException;"⟩ : MethodName) prog_2_method_3_code 3 (some (.object "com/example/keyset/keyset/query/DeclarationException")) :: ws) ({ frames := 8, cells := 19, slots := 3300, locals := 112 } : Room)) (fun a U => a = #[(.ref a1), (.ref a2), (.ref a3)] ∧ Z.Warmed39 U.vm ∧ U.heap = h0 ∧ CHv Z EL U.vm h0 ∧ ∀ x ∈ ([] : List Addr), Safe Z EL U.vm h0 x) (fun _ _ bl s _ => s.vm.MethodsKnown ∧ s.vm.FramesKnown bl) (fun _ U o U' => ∃ v L, o = .returned v ∧ Q_rmFF Z a1 a2 a3 zc z1 k1 r1 z2 k2 r2 z3 k3 r3 h0 n0 v U'.heap L ∧ CHr Z EL U.vm U.heap U'.vm U'.heap ∧ ReturnedEndW U o U' L ({ frames := 8, cells := 19, slots := 3300, locals := 112 } : Room).cells ({ frames := 8, cells := 19, slots := 3300, locals := 112 } : Room).slots) := by
  refine MetFree.of_bodySF (plainFor_of_name pn_2) hisR ?_
  intro p e s m args below meth c s₁ Bd hml0 hP hK
  obtain ⟨rfl, hZ, hh, HH, hSF⟩ := hP
  have hx := Bd.exec
  have hby := Bd.bytes
  have hml : c.maxLocals = 3 := hml0
  have hown : s.vm.findClass "com/example/keyset/keyset/query/DeclarationException" = some m.cls := findClass_of_methodNamed Bd.named
  have hnm := (name_of_methodNamed Bd.named Bd.method).1
  have hlk : meth.locks = false := BodyLoose.notSynchronized Bd
  have X0 : Stand p l e ({ frames := 8, cells := 19, slots := 3300, locals := 112 } : Room) (s.setVm s.vm) m #[(.ref a1), (.ref a2), (.ref a3)] below meth c s₁ [] 0 0 := Stand.of_body Bd
  have e0 : s₁.heap = h0 := by rw [← hh, Bd.state]; rfl
  have N0 := Fr.nil n0
  have KK : Keep h0 h0 [] := Keep.refl h0 _
  have hS : s.Since s.vm h0.size := own_since s _
  have hk : h0.size ≤ h0.size := Nat.le_refl _
  have RR : CHr Z EL s.vm h0 s.vm h0 := CHr.refl HH
  suffices hgo : GoH p e below s ({ frames := 8, cells := 19, slots := 3300, locals := 112 } : Room).cells ({ frames := 8, cells := 19, slots := 3300, locals := 112 } : Room).slots Z h0 EL (Q_rmFF Z a1 a2 a3 zc z1 k1 r1 z2 k2 r2 z3 k3 r3 h0 n0) s₁ (entryFrame m #[(.ref a1), (.ref a2), (.ref a3)] 3) by
    obtain ⟨s₂, o, q1, q2, q3, v, L, q4, q5, q6, q7⟩ := hgo; exact ⟨s₂, o, q1, q2, q3, v, L, q4, q5, hh ▸ q6, q7⟩
  refine GoH.eq (ef_rmFF m a1 a2 a3) ?_
  show GoH _ _ _ _ _ _ _ _ _ _  s₁ (mkF m 0 #[.val (.ref a1), .val (.ref a2), .val (.ref a3)] [])
  refine GoH.st (fun tT kT => XS.aloadN X0.here hx rfl (hb hby d2_0) rfl rfl  kT) ?_
  show GoH _ _ _ _ _ _ _ _ _ _  s₁ (mkF m 1 #[.val (.ref a1), .val (.ref a2), .val (.ref a3)] [(.ref a1)])
  obtain ⟨T1, h1, X1, e1, E1, A1, D1, U1, st1⟩ := newO X0 hx hZ hown (hw _ (List.mem_of_getElem? (i := 16) rfl)) (hw _ (List.mem_of_getElem? (i := 17) rfl)) (hw _ (List.mem_of_getElem? (i := 18) rfl)) e0 (g := (mkF m 1 #[.val (.ref a1), .val (.ref a2), .val (.ref a3)] [(.ref a1)])) rfl (hb hby d2_1) (by decide) (by decide)
  obtain ⟨b1, g1⟩ : ∃ z, z = h0.size := ⟨_, rfl⟩
  rw [← g1] at A1 D1 U1 st1
  refine GoH.st st1 ?_
  have g_b1 : n0 ≤ b1 := by rw [g1]; exact own_le O
  have Sf_b1 : Safe Z EL s.vm h0 b1 := Safe.new (Nat.le_of_eq g1.symm)
  have sz_b1 : h0.size ≤ b1 := by rw [g1]; exact KK.1
  have ne_a1_b1 : a1 ≠ b1 := Nat.ne_of_lt (by rw [g1]; exact E_a1.lt)
  have ne_z1_b1 : z1 ≠ b1 := Nat.ne_of_lt (by rw [g1]; exact A_z1.lt)
  have ne_a2_b1 : a2 ≠ b1 := Nat.ne_of_lt (by rw [g1]; exact E_a2.lt)
  have ne_z2_b1 : z2 ≠ b1 := Nat.ne_of_lt (by rw [g1]; exact A_z2.lt)
  have ne_a3_b1 : a3 ≠ b1 := Nat.ne_of_lt (by rw [g1]; exact E_a3.lt)
  have ne_z3_b1 : z3 ≠ b1 := Nat.ne_of_lt (by rw [g1]; exact A_z3.lt)
  have E_a1 := E_a1.ext E1
  have A_z1 := A_z1.ext E1
  have C_a1 := C_a1.ext E1
  have V_a1 := V_a1.ext E1
  have E_a2 := E_a2.ext E1
  have A_z2 := A_z2.ext E1
  have C_a2 := C_a2.ext E1
  have V_a2 := V_a2.ext E1
  have E_a3 := E_a3.ext E1
  have A_z3 := A_z3.ext E1
  have C_a3 := C_a3.ext E1
  have V_a3 := V_a3.ext E1
  have Sf_b1 := Safe.ext E1 HH Sf_b1
  have RR := RR.trans (CHr.ext E1 HH)
  have HH := HH.ext E1
  have hk := Nat.le_trans hk E1.1
  have O := O.ext E1
  have KK := KK.ext E1
  have E_b1 := A1
  have F_value_b1 : Fld Z h1 b1 "java/lang/AbstractStringBuilder" "value" "[B" .null := D1 (Or.inl (hw _ (List.mem_of_getElem? (i := 33) rfl))) (ty := (.array .byte)) (by decide)
  have F_coder_b1 : Fld Z h1 b1 "java/lang/AbstractStringBuilder" "coder" "B" (.int (0 : Int32)) := D1 (Or.inl (hw _ (List.mem_of_getElem? (i := 35) rfl))) (ty := .byte) (by decide)
  have F_count_b1 : Fld Z h1 b1 "java/lang/AbstractStringBuilder" "count" "I" (.int (0 : Int32)) := D1 (Or.inl (hw _ (List.mem_of_getElem? (i := 61) rfl))) (ty := .int) (by decide)
  show GoH _ _ _ _ _ _ _ _ _ _  T1 (mkF m 4 #[.val (.ref a1), .val (.ref a2), .val (.ref a3)] [(.ref b1), (.ref a1)])
  refine GoH.st (fun tT kT => XS.dup X1.here hx rfl (hb hby d2_4) rfl rfl kT) ?_
  show GoH _ _ _ _ _ _ _ _ _ _  T1 (mkF m 5 #[.val (.ref a1), .val (.ref a2), .val (.ref a3)] [(.ref b1), (.ref b1), (.ref a1)])
  obtain ⟨_, _, ⟨T2, L2, k2, n2⟩, -, X2, ⟨Lc2, hQ2, l2, y2, z2⟩, st2⟩ := X1.specialBack hx (y := (⟨"java/lang/StringBuilder", "<init>", "()V"⟩ : MethodName)) rfl hown (mvT hZ (hw _ (List.mem_of_getElem? (i := 19) rfl))) (mvT hZ (hw _ (List.mem_of_getElem? (i := 20) rfl))) (mvT hZ (hw _ (List.mem_of_getElem? (i := 21) rfl))) (by decide) (backOf (W := 2) (rmI0 l Z a0 hw [] b1 zc h1 n0 O S_COMPACT hcs E_b1 F_value_b1 F_coder_b1 F_count_b1 g_b1) hZ (hw _ (List.mem_of_getElem? (i := 21) rfl)) (hw _ (List.mem_of_getElem? (i := 18) rfl)) (by decide) (by decide)) (g := (mkF m 5 #[.val (.ref a1), .val (.ref a2), .val (.ref a3)] [(.ref b1), (.ref b1), (.ref a1)])) rfl (by rw [hml]; rfl) (Steps.refl _) (a := b1) (argsL := []) (rest := [(.ref b1), (.ref a1)]) (lenOf pd___V rfl) rfl (by show 2 * 0 + _ ≤ _; exact Nat.le_of_eq rfl) (hb hby d2_5) (fun _ _ => ⟨rfl, e1, (by decide : 1 + 1 ≤ _), (by decide : 4 + 16 ≤ _)⟩)
  dsimp only [Pt.U, Pt.locs, Pt.cells, Pt.slots] at X2 l2 y2 z2 st2 hQ2
  subst l2 y2 z2
  have X2 : Stand p l e _ _ m _ below meth c T2 _ 2 20 := X2
  obtain ⟨rfl, N2q, K2q, Eq2, Cq2, Nq2, t2, kt2, lt2, Vq2, Aq2⟩ := hQ2
  have N2 := Fr.app N0 N2q
  refine GoH.tr st2 ?_
  have g_t2 : n0 ≤ t2 := Nat.le_trans (own_le O) lt2
  have Sf_t2 : Safe Z EL s.vm h1 t2 := Safe.new lt2
  have sz_t2 : h0.size ≤ t2 := Nat.le_trans KK.1 lt2
  have ne_a1_t2 : a1 ≠ t2 := Nat.ne_of_lt (Nat.lt_of_lt_of_le E_a1.lt lt2)
  have ne_z1_t2 : z1 ≠ t2 := Nat.ne_of_lt (Nat.lt_of_lt_of_le A_z1.lt lt2)
  have ne_a2_t2 : a2 ≠ t2 := Nat.ne_of_lt (Nat.lt_of_lt_of_le E_a2.lt lt2)
  have ne_z2_t2 : z2 ≠ t2 := Nat.ne_of_lt (Nat.lt_of_lt_of_le A_z2.lt lt2)
  have ne_a3_t2 : a3 ≠ t2 := Nat.ne_of_lt (Nat.lt_of_lt_of_le E_a3.lt lt2)
  have ne_z3_t2 : z3 ≠ t2 := Nat.ne_of_lt (Nat.lt_of_lt_of_le A_z3.lt lt2)
  have ne_b1_t2 : b1 ≠ t2 := Nat.ne_of_lt (Nat.lt_of_lt_of_le E_b1.lt lt2)
  have E_a1 := E_a1.keep K2q
  have A_z1 := A_z1.keep K2q (ninS ne_z1_b1 nin0)
  have C_a1 := C_a1.keep K2q (ninS ne_a1_b1 nin0)
  have V_a1 := V_a1.keep K2q (ninS ne_a1_b1 nin0)
  have E_a2 := E_a2.keep K2q
  have A_z2 := A_z2.keep K2q (ninS ne_z2_b1 nin0)
  have C_a2 := C_a2.keep K2q (ninS ne_a2_b1 nin0)
  have V_a2 := V_a2.keep K2q (ninS ne_a2_b1 nin0)
  have E_a3 := E_a3.keep K2q
  have A_z3 := A_z3.keep K2q (ninS ne_z3_b1 nin0)
  have C_a3 := C_a3.keep K2q (ninS ne_a3_b1 nin0)
  have V_a3 := V_a3.keep K2q (ninS ne_a3_b1 nin0)
  have E_b1 := E_b1.keep K2q
  have sfw2 := (sfS Sf_b1 sf0)
  have Sf_b1 := Safe.keep K2q sfw2 HH Sf_b1
  have Sf_t2 := Safe.keep K2q sfw2 HH Sf_t2
  have RR := RR.trans (CHr.keep K2q sfw2 HH)
  have HH := HH.keep K2q sfw2
  have hk := Nat.le_trans hk K2q.1
  have O := O.keep K2q (allS g_b1 all0)
  have KK := KK.trans K2q (allS (Or.inr sz_b1) all0)
  have E_b1 := Eq2
  show GoH _ _ _ _ _ _ _ _ _ _  T2 (mkF m 8 #[.val (.ref a1), .val (.ref a2), .val (.ref a3)] [(.ref b1), (.ref a1)])
  obtain ⟨sa3, T3, h3, kk3, sb3, kb3, X3, e3, E3, hS3, hk3, hZ3, ho3, E_sa3, F_coder_sa3, F_value_sa3, V_sb3, la3, lb3, CR3, Lt3, ns3, st3⟩ := ldcCH X2 hx hZ hown (hw _ (List.mem_of_getElem? (i := 36) rfl)) wS rfl hS hk hEL (List.mem_of_getElem? (i := 2) rfl) HH (vs := [(.int (102 : Int32)), (.int (105 : Int32)), (.int (101 : Int32)), (.int (108 : Int32)), (.int (100 : Int32)), (.int (32 : Int32)), (.int (34 : Int32))]) (z := 7) ⟨by decide, by decide⟩ (by decide) rfl (g := (mkF m 8 #[.val (.ref a1), .val (.ref a2), .val (.ref a3)] [(.ref b1), (.ref a1)])) rfl (hb hby d2_8) (n := 28) (by decide) (by decide) (by decide) (by decide)
  refine GoH.st st3 ?_
  have Sf_b1 := CHr.safe CR3 E_b1.lt Sf_b1
  have Sf_t2 := CHr.safe CR3 Aq2.lt Sf_t2
  have E_a1 := E_a1.ext E3
  have A_z1 := A_z1.ext E3
  have C_a1 := C_a1.ext E3
  have V_a1 := V_a1.ext E3
  have E_a2 := E_a2.ext E3
  have A_z2 := A_z2.ext E3
  have C_a2 := C_a2.ext E3
  have V_a2 := V_a2.ext E3
  have E_a3 := E_a3.ext E3
  have A_z3 := A_z3.ext E3
  have C_a3 := C_a3.ext E3
  have V_a3 := V_a3.ext E3
  have E_b1 := E_b1.ext E3
  have Cq2 := Cq2.ext E3
  have Vq2 := Vq2.ext E3
  have Nq2 := Nq2.ext E3
  have Aq2 := Aq2.ext E3
  have O := O.ext E3
  have KK := KK.ext E3
  have RR := RR.trans CR3
  have HH := CR3.1
  have hS := hS3
  have hk := hk3
  have hZ := hZ3
  have hown := ho3
  obtain ⟨ne_b1_sa3, ne_b1_sb3⟩ := ns3 _ Sf_b1
  obtain ⟨ne_t2_sa3, ne_t2_sb3⟩ := ns3 _ Sf_t2
  show GoH _ _ _ _ _ _ _ _ _ _  T3 (mkF m 10 #[.val (.ref a1), .val (.ref a2), .val (.ref a3)] [(.ref sa3), (.ref b1), (.ref a1)])
  obtain ⟨cq4, kq4, q4a, q4b, q4c⟩ := isOf hZ e3 E_b1
  obtain ⟨_, _, ⟨T4, L4, k4, n4⟩, -, X4, ⟨Lc4, hQ4, l4, y4, z4⟩, st4⟩ := X3.virtualBack hx (y := (⟨"java/lang/StringBuilder", "append", "(Ljava/lang/String;)Ljava/lang/StringBuilder;"⟩ : MethodName)) (z := (⟨"java/lang/StringBuilder", "append", "(Ljava/lang/String;)Ljava/lang/StringBuilder;"⟩ : MethodName)) hown (mvT hZ (hw _ (List.mem_of_getElem? (i := 37) rfl))) (mvT hZ (hw _ (List.mem_of_getElem? (i := 38) rfl))) (notFace_of_selects (args := #[]) (mvT hZ (hw _ (List.mem_of_getElem? (i := 40) rfl)))) (mvT hZ (hw _ (List.mem_of_getElem? (i := 40) rfl))) (mvT hZ (hw _ (List.mem_of_getElem? (i := 39) rfl))) (by decide) (backOf (W := 1) (rmS0 l Z a0 hw [] b1 sa3 zc t2 kt2 0 16 [] sb3 kb3 7 [(.int (102 : Int32)), (.int (105 : Int32)), (.int (101 : Int32)), (.int (108 : Int32)), (.int (100 : Int32)), (.int (32 : Int32)), (.int (34 : Int32))] h3 n0 O S_COMPACT hcs E_b1 Cq2 Vq2 Nq2 Aq2 rfl (by omega) (by omega) g_b1 g_t2 E_sa3 F_coder_sa3 F_value_sa3 V_sb3 rfl (by decide) (by omega) (Ne.symm ne_t2_sb3)) hZ (hw _ (List.mem_of_getElem? (i := 41) rfl)) (hw _ (List.mem_of_getElem? (i := 18) rfl)) (by decide) (by decide)) q4a q4c (g := (mkF m 10 #[.val (.ref a1), .val (.ref a2), .val (.ref a3)] [(.ref sa3), (.ref b1), (.ref a1)])) rfl (by rw [hml]; rfl) (Steps.refl _) (argsL := [(.ref sa3)]) (rest := [(.ref a1)]) (lenOf pd__Ljava_lang_String__Ljava_lang_StringBuilder_ rfl) rfl (by show 2 * 0 + _ ≤ _; exact Nat.le_of_eq rfl) (hb hby d2_10) (fun _ _ => ⟨rfl, e3, (by decide : 4 + 0 ≤ _), (by decide : 52 + 0 ≤ _)⟩)
  dsimp only [Pt.U, Pt.locs, Pt.cells, Pt.slots] at X4 l4 y4 z4 st4 hQ4
  subst l4 y4 z4
  have X4 : Stand p l e _ _ m _ below meth c T4 _ 4 52 := X4
  obtain ⟨rfl, N4q, K4q, Eq4, Cq4, Nq4, Vq4, Aq4⟩ := hQ4
  have N4 := Fr.app N2 N4q
  refine GoH.tr st4 ?_
  have E_a1 := E_a1.keep K4q
  have A_z1 := A_z1.keep K4q (ninS ne_z1_b1 (ninS ne_z1_t2 nin0))
  have C_a1 := C_a1.keep K4q (ninS ne_a1_b1 (ninS ne_a1_t2 nin0))
  have V_a1 := V_a1.keep K4q (ninS ne_a1_b1 (ninS ne_a1_t2 nin0))
  have E_a2 := E_a2.keep K4q
  have A_z2 := A_z2.keep K4q (ninS ne_z2_b1 (ninS ne_z2_t2 nin0))
  have C_a2 := C_a2.keep K4q (ninS ne_a2_b1 (ninS ne_a2_t2 nin0))
  have V_a2 := V_a2.keep K4q (ninS ne_a2_b1 (ninS ne_a2_t2 nin0))
  have E_a3 := E_a3.keep K4q
  have A_z3 := A_z3.keep K4q (ninS ne_z3_b1 (ninS ne_z3_t2 nin0))
  have C_a3 := C_a3.keep K4q (ninS ne_a3_b1 (ninS ne_a3_t2 nin0))
  have V_a3 := V_a3.keep K4q (ninS ne_a3_b1 (ninS ne_a3_t2 nin0))
  have E_b1 := E_b1.keep K4q
  have E_sa3 := E_sa3.keep K4q
  have V_sb3 := V_sb3.keep K4q (ninS (Ne.symm ne_b1_sb3) (ninS (Ne.symm ne_t2_sb3) nin0))
  have F_coder_sa3 := F_coder_sa3.keep K4q (ninS (Ne.symm ne_b1_sa3) (ninS (Ne.symm ne_t2_sa3) nin0))
  have F_value_sa3 := F_value_sa3.keep K4q (ninS (Ne.symm ne_b1_sa3) (ninS (Ne.symm ne_t2_sa3) nin0))
  have sfw4 := (sfS Sf_b1 (sfS Sf_t2 sf0))
  have Sf_b1 := Safe.keep K4q sfw4 HH Sf_b1
  have Sf_t2 := Safe.keep K4q sfw4 HH Sf_t2
  have RR := RR.trans (CHr.keep K4q sfw4 HH)
  have HH := HH.keep K4q sfw4
  have hk := Nat.le_trans hk K4q.1
  have O := O.keep K4q (allS g_b1 (allS g_t2 all0))
  have KK := KK.trans K4q (allS (Or.inr sz_b1) (allS (Or.inr sz_t2) all0))
  have E_b1 := Eq4
  show GoH _ _ _ _ _ _ _ _ _ _  T4 (mkF m 13 #[.val (.ref a1), .val (.ref a2), .val (.ref a3)] [(.ref b1), (.ref a1)])
  refine GoH.st (fun tT kT => XS.aloadN X4.here hx rfl (hb hby d2_13) rfl rfl  kT) ?_
  show GoH _ _ _ _ _ _ _ _ _ _  T4 (mkF m 14 #[.val (.ref a1), .val (.ref a2), .val (.ref a3)] [(.ref a2), (.ref b1), (.ref a1)])
  obtain ⟨cq5, kq5, q5a, q5b, q5c⟩ := isOf hZ rfl E_b1
  obtain ⟨_, _, ⟨T5, L5, k5, n5⟩, -, X5, ⟨Lc5, hQ5, l5, y5, z5⟩, st5⟩ := X4.virtualBack hx (y := (⟨"java/lang/StringBuilder", "append", "(Ljava/lang/String;)Ljava/lang/StringBuilder;"⟩ : MethodName)) (z := (⟨"java/lang/StringBuilder", "append", "(Ljava/lang/String;)Ljava/lang/StringBuilder;"⟩ : MethodName)) hown (mvT hZ (hw _ (List.mem_of_getElem? (i := 37) rfl))) (mvT hZ (hw _ (List.mem_of_getElem? (i := 38) rfl))) (notFace_of_selects (args := #[]) (mvT hZ (hw _ (List.mem_of_getElem? (i := 40) rfl)))) (mvT hZ (hw _ (List.mem_of_getElem? (i := 40) rfl))) (mvT hZ (hw _ (List.mem_of_getElem? (i := 39) rfl))) (by decide) (backOf (W := 1) (rmS0 l Z a0 hw [] b1 a2 zc t2 kt2 (0 + 7) 16 ([] ++ [(.int (102 : Int32)), (.int (105 : Int32)), (.int (101 : Int32)), (.int (108 : Int32)), (.int (100 : Int32)), (.int (32 : Int32)), (.int (34 : Int32))]) z2 k2 r2.length (r2.map Value.int) T4.heap n0 O S_COMPACT hcs E_b1 Cq4 Vq4 Nq4 Aq4 (own_lapp rfl rfl) (by omega) (by omega) g_b1 g_t2 E_a2 C_a2 V_a2 A_z2 (List.length_map _) (by omega) (by omega) ne_z2_t2) hZ (hw _ (List.mem_of_getElem? (i := 41) rfl)) (hw _ (List.mem_of_getElem? (i := 18) rfl)) (by decide) (by decide)) q5a q5c (g := (mkF m 14 #[.val (.ref a1), .val (.ref a2), .val (.ref a3)] [(.ref a2), (.ref b1), (.ref a1)])) rfl (by rw [hml]; rfl) (Steps.refl _) (argsL := [(.ref a2)]) (rest := [(.ref a1)]) (lenOf pd__Ljava_lang_String__Ljava_lang_StringBuilder_ rfl) rfl (by show 2 * 0 + _ ≤ _; exact Nat.le_of_eq rfl) (hb hby d2_14) (fun _ _ => ⟨rfl, rfl, (by decide : 4 + 0 ≤ _), (by decide : 52 + 0 ≤ _)⟩)
  dsimp only [Pt.U, Pt.locs, Pt.cells, Pt.slots] at X5 l5 y5 z5 st5 hQ5
  subst l5 y5 z5
  have X5 : Stand p l e _ _ m _ below meth c T5 _ 4 52 := X5
  obtain ⟨rfl, N5q, K5q, Eq5, Cq5, Nq5, Vq5, Aq5⟩ := hQ5
  have N5 := Fr.app N4 N5q
  refine GoH.tr st5 ?_
  have E_a1 := E_a1.keep K5q
  have A_z1 := A_z1.keep K5q (ninS ne_z1_b1 (ninS ne_z1_t2 nin0))
  have C_a1 := C_a1.keep K5q (ninS ne_a1_b1 (ninS ne_a1_t2 nin0))
  have V_a1 := V_a1.keep K5q (ninS ne_a1_b1 (ninS ne_a1_t2 nin0))
  have E_a2 := E_a2.keep K5q
  have A_z2 := A_z2.keep K5q (ninS ne_z2_b1 (ninS ne_z2_t2 nin0))
  have C_a2 := C_a2.keep K5q (ninS ne_a2_b1 (ninS ne_a2_t2 nin0))
  have V_a2 := V_a2.keep K5q (ninS ne_a2_b1 (ninS ne_a2_t2 nin0))
  have E_a3 := E_a3.keep K5q
  have A_z3 := A_z3.keep K5q (ninS ne_z3_b1 (ninS ne_z3_t2 nin0))
  have C_a3 := C_a3.keep K5q (ninS ne_a3_b1 (ninS ne_a3_t2 nin0))
  have V_a3 := V_a3.keep K5q (ninS ne_a3_b1 (ninS ne_a3_t2 nin0))
  have E_b1 := E_b1.keep K5q
  have E_sa3 := E_sa3.keep K5q
  have V_sb3 := V_sb3.keep K5q (ninS (Ne.symm ne_b1_sb3) (ninS (Ne.symm ne_t2_sb3) nin0))
  have F_coder_sa3 := F_coder_sa3.keep K5q (ninS (Ne.symm ne_b1_sa3) (ninS (Ne.symm ne_t2_sa3) nin0))
  have F_value_sa3 := F_value_sa3.keep K5q (ninS (Ne.symm ne_b1_sa3) (ninS (Ne.symm ne_t2_sa3) nin0))
  have sfw5 := (sfS Sf_b1 (sfS Sf_t2 sf0))
  have Sf_b1 := Safe.keep K5q sfw5 HH Sf_b1
  have Sf_t2 := Safe.keep K5q sfw5 HH Sf_t2
  have RR := RR.trans (CHr.keep K5q sfw5 HH)
  have HH := HH.keep K5q sfw5
  have hk := Nat.le_trans hk K5q.1
  have O := O.keep K5q (allS g_b1 (allS g_t2 all0))
  have KK := KK.trans K5q (allS (Or.inr sz_b1) (allS (Or.inr sz_t2) all0))
  have E_b1 := Eq5
  show GoH _ _ _ _ _ _ _ _ _ _  T5 (mkF m 17 #[.val (.ref a1), .val (.ref a2), .val (.ref a3)] [(.ref b1), (.ref a1)])
  obtain ⟨sa6, T6, h6, kk6, sb6, kb6, X6, e6, E6, hS6, hk6, hZ6, ho6, E_sa6, F_coder_sa6, F_value_sa6, V_sb6, la6, lb6, CR6, Lt6, ns6, st6⟩ := ldcCH X5 hx hZ hown (hw _ (List.mem_of_getElem? (i := 87) rfl)) wS rfl hS hk hEL (List.mem_of_getElem? (i := 1) rfl) HH (vs := [(.int (34 : Int32)), (.int (58 : Int32)), (.int (32 : Int32))]) (z := 3) ⟨by decide, by decide⟩ (by decide) rfl (g := (mkF m 17 #[.val (.ref a1), .val (.ref a2), .val (.ref a3)] [(.ref b1), (.ref a1)])) rfl (hb hby d2_17) (n := 12) (by decide) (by decide) (by decide) (by decide)
  refine GoH.st st6 ?_
  have Sf_b1 := CHr.safe CR6 E_b1.lt Sf_b1
  have Sf_t2 := CHr.safe CR6 Aq5.lt Sf_t2
  have E_a1 := E_a1.ext E6
  have A_z1 := A_z1.ext E6
  have C_a1 := C_a1.ext E6
  have V_a1 := V_a1.ext E6
  have E_a2 := E_a2.ext E6
  have A_z2 := A_z2.ext E6
  have C_a2 := C_a2.ext E6
  have V_a2 := V_a2.ext E6
  have E_a3 := E_a3.ext E6
  have A_z3 := A_z3.ext E6
  have C_a3 := C_a3.ext E6
  have V_a3 := V_a3.ext E6
  have E_b1 := E_b1.ext E6
  have E_sa3 := E_sa3.ext E6
  have V_sb3 := V_sb3.ext E6
  have F_coder_sa3 := F_coder_sa3.ext E6
  have F_value_sa3 := F_value_sa3.ext E6
  have Cq5 := Cq5.ext E6
  have Vq5 := Vq5.ext E6
  have Nq5 := Nq5.ext E6
  have Aq5 := Aq5.ext E6
  have O := O.ext E6
  have KK := KK.ext E6
  have RR := RR.trans CR6
  have HH := CR6.1
  have hS := hS6
  have hk := hk6
  have hZ := hZ6
  have hown := ho6
  obtain ⟨ne_b1_sa6, ne_b1_sb6⟩ := ns6 _ Sf_b1
  obtain ⟨ne_t2_sa6, ne_t2_sb6⟩ := ns6 _ Sf_t2
  show GoH _ _ _ _ _ _ _ _ _ _  T6 (mkF m 19 #[.val (.ref a1), .val (.ref a2), .val (.ref a3)] [(.ref sa6), (.ref b1), (.ref a1)])
  obtain ⟨cq7, kq7, q7a, q7b, q7c⟩ := isOf hZ e6 E_b1
  obtain ⟨_, _, ⟨T7, L7, k7, n7⟩, -, X7, ⟨Lc7, hQ7, l7, y7, z7⟩, st7⟩ := X6.virtualBack hx (y := (⟨"java/lang/StringBuilder", "append", "(Ljava/lang/String;)Ljava/lang/StringBuilder;"⟩ : MethodName)) (z := (⟨"java/lang/StringBuilder", "append", "(Ljava/lang/String;)Ljava/lang/StringBuilder;"⟩ : MethodName)) hown (mvT hZ (hw _ (List.mem_of_getElem? (i := 37) rfl))) (mvT hZ (hw _ (List.mem_of_getElem? (i := 38) rfl))) (notFace_of_selects (args := #[]) (mvT hZ (hw _ (List.mem_of_getElem? (i := 40) rfl)))) (mvT hZ (hw _ (List.mem_of_getElem? (i := 40) rfl))) (mvT hZ (hw _ (List.mem_of_getElem? (i := 39) rfl))) (by decide) (backOf (W := 1) (rmS0 l Z a0 hw [] b1 sa6 zc t2 kt2 ((0 + 7) + r2.length) 16 (([] ++ [(.int (102 : Int32)), (.int (105 : Int32)), (.int (101 : Int32)), (.int (108 : Int32)), (.int (100 : Int32)), (.int (32 : Int32)), (.int (34 : Int32))]) ++ (r2.map Value.int)) sb6 kb6 3 [(.int (34 : Int32)), (.int (58 : Int32)), (.int (32 : Int32))] h6 n0 O S_COMPACT hcs E_b1 Cq5 Vq5 Nq5 Aq5 (own_lapp (own_lapp rfl rfl) (List.length_map _)) (by omega) (by omega) g_b1 g_t2 E_sa6 F_coder_sa6 F_value_sa6 V_sb6 rfl (by decide) (by omega) (Ne.symm ne_t2_sb6)) hZ (hw _ (List.mem_of_getElem? (i := 41) rfl)) (hw _ (List.mem_of_getElem? (i := 18) rfl)) (by decide) (by decide)) q7a q7c (g := (mkF m 19 #[.val (.ref a1), .val (.ref a2), .val (.ref a3)] [(.ref sa6), (.ref b1), (.ref a1)])) rfl (by rw [hml]; rfl) (Steps.refl _) (argsL := [(.ref sa6)]) (rest := [(.ref a1)]) (lenOf pd__Ljava_lang_String__Ljava_lang_StringBuilder_ rfl) rfl (by show 2 * 0 + _ ≤ _; exact Nat.le_of_eq rfl) (hb hby d2_19) (fun _ _ => ⟨rfl, e6, (by decide : 6 + 0 ≤ _), (by decide : 68 + 0 ≤ _)⟩)
  dsimp only [Pt.U, Pt.locs, Pt.cells, Pt.slots] at X7 l7 y7 z7 st7 hQ7
  subst l7 y7 z7
  have X7 : Stand p l e _ _ m _ below meth c T7 _ 6 68 := X7
  obtain ⟨rfl, N7q, K7q, Eq7, Cq7, Nq7, Vq7, Aq7⟩ := hQ7
  have N7 := Fr.app N5 N7q
  refine GoH.tr st7 ?_
  have E_a1 := E_a1.keep K7q
  have A_z1 := A_z1.keep K7q (ninS ne_z1_b1 (ninS ne_z1_t2 nin0))
  have C_a1 := C_a1.keep K7q (ninS ne_a1_b1 (ninS ne_a1_t2 nin0))
  have V_a1 := V_a1.keep K7q (ninS ne_a1_b1 (ninS ne_a1_t2 nin0))
  have E_a2 := E_a2.keep K7q
  have A_z2 := A_z2.keep K7q (ninS ne_z2_b1 (ninS ne_z2_t2 nin0))
  have C_a2 := C_a2.keep K7q (ninS ne_a2_b1 (ninS ne_a2_t2 nin0))
  have V_a2 := V_a2.keep K7q (ninS ne_a2_b1 (ninS ne_a2_t2 nin0))
  have E_a3 := E_a3.keep K7q
  have A_z3 := A_z3.keep K7q (ninS ne_z3_b1 (ninS ne_z3_t2 nin0))
  have C_a3 := C_a3.keep K7q (ninS ne_a3_b1 (ninS ne_a3_t2 nin0))
  have V_a3 := V_a3.keep K7q (ninS ne_a3_b1 (ninS ne_a3_t2 nin0))
  have E_b1 := E_b1.keep K7q
  have E_sa3 := E_sa3.keep K7q
  have V_sb3 := V_sb3.keep K7q (ninS (Ne.symm ne_b1_sb3) (ninS (Ne.symm ne_t2_sb3) nin0))
  have F_coder_sa3 := F_coder_sa3.keep K7q (ninS (Ne.symm ne_b1_sa3) (ninS (Ne.symm ne_t2_sa3) nin0))
  have F_value_sa3 := F_value_sa3.keep K7q (ninS (Ne.symm ne_b1_sa3) (ninS (Ne.symm ne_t2_sa3) nin0))
  have E_sa6 := E_sa6.keep K7q
  have V_sb6 := V_sb6.keep K7q (ninS (Ne.symm ne_b1_sb6) (ninS (Ne.symm ne_t2_sb6) nin0))
  have F_coder_sa6 := F_coder_sa6.keep K7q (ninS (Ne.symm ne_b1_sa6) (ninS (Ne.symm ne_t2_sa6) nin0))
  have F_value_sa6 := F_value_sa6.keep K7q (ninS (Ne.symm ne_b1_sa6) (ninS (Ne.symm ne_t2_sa6) nin0))
  have sfw7 := (sfS Sf_b1 (sfS Sf_t2 sf0))
  have Sf_b1 := Safe.keep K7q sfw7 HH Sf_b1
  have Sf_t2 := Safe.keep K7q sfw7 HH Sf_t2
  have RR := RR.trans (CHr.keep K7q sfw7 HH)
  have HH := HH.keep K7q sfw7
  have hk := Nat.le_trans hk K7q.1
  have O := O.keep K7q (allS g_b1 (allS g_t2 all0))
  have KK := KK.trans K7q (allS (Or.inr sz_b1) (allS (Or.inr sz_t2) all0))
  have E_b1 := Eq7
  show GoH _ _ _ _ _ _ _ _ _ _  T7 (mkF m 22 #[.val (.ref a1), .val (.ref a2), .val (.ref a3)] [(.ref b1), (.ref a1)])
  refine GoH.st (fun tT kT => XS.aloadN X7.here hx rfl (hb hby d2_22) rfl rfl  kT) ?_
  show GoH _ _ _ _ _ _ _ _ _ _  T7 (mkF m 23 #[.val (.ref a1), .val (.ref a2), .val (.ref a3)] [(.ref a3), (.ref b1), (.ref a1)])
  obtain ⟨cq8, kq8, q8a, q8b, q8c⟩ := isOf hZ rfl E_b1
  obtain ⟨_, _, ⟨T8, L8, k8, n8⟩, -, X8, ⟨Lc8, hQ8, l8, y8, z8⟩, st8⟩ := X7.virtualBack hx (y := (⟨"java/lang/StringBuilder", "append", "(Ljava/lang/String;)Ljava/lang/StringBuilder;"⟩ : MethodName)) (z := (⟨"java/lang/StringBuilder", "append", "(Ljava/lang/String;)Ljava/lang/StringBuilder;"⟩ : MethodName)) hown (mvT hZ (hw _ (List.mem_of_getElem? (i := 37) rfl))) (mvT hZ (hw _ (List.mem_of_getElem? (i := 38) rfl))) (notFace_of_selects (args := #[]) (mvT hZ (hw _ (List.mem_of_getElem? (i := 40) rfl)))) (mvT hZ (hw _ (List.mem_of_getElem? (i := 40) rfl))) (mvT hZ (hw _ (List.mem_of_getElem? (i := 39) rfl))) (by decide) (backOf (W := 1) (rmS0 l Z a0 hw [] b1 a3 zc t2 kt2 (((0 + 7) + r2.length) + 3) 16 ((([] ++ [(.int (102 : Int32)), (.int (105 : Int32)), (.int (101 : Int32)), (.int (108 : Int32)), (.int (100 : Int32)), (.int (32 : Int32)), (.int (34 : Int32))]) ++ (r2.map Value.int)) ++ [(.int (34 : Int32)), (.int (58 : Int32)), (.int (32 : Int32))]) z3 k3 r3.length (r3.map Value.int) T7.heap n0 O S_COMPACT hcs E_b1 Cq7 Vq7 Nq7 Aq7 (own_lapp (own_lapp (own_lapp rfl rfl) (List.length_map _)) rfl) (by omega) (by omega) g_b1 g_t2 E_a3 C_a3 V_a3 A_z3 (List.length_map _) (by omega) (by omega) ne_z3_t2) hZ (hw _ (List.mem_of_getElem? (i := 41) rfl)) (hw _ (List.mem_of_getElem? (i := 18) rfl)) (by decide) (by decide)) q8a q8c (g := (mkF m 23 #[.val (.ref a1), .val (.ref a2), .val (.ref a3)] [(.ref a3), (.ref b1), (.ref a1)])) rfl (by rw [hml]; rfl) (Steps.refl _) (argsL := [(.ref a3)]) (rest := [(.ref a1)]) (lenOf pd__Ljava_lang_String__Ljava_lang_StringBuilder_ rfl) rfl (by show 2 * 0 + _ ≤ _; exact Nat.le_of_eq rfl) (hb hby d2_23) (fun _ _ => ⟨rfl, rfl, (by decide : 6 + 0 ≤ _), (by decide : 68 + 0 ≤ _)⟩)
  dsimp only [Pt.U, Pt.locs, Pt.cells, Pt.slots] at X8 l8 y8 z8 st8 hQ8
  subst l8 y8 z8
  have X8 : Stand p l e _ _ m _ below meth c T8 _ 6 68 := X8
  obtain ⟨rfl, N8q, K8q, Eq8, Cq8, Nq8, Vq8, Aq8⟩ := hQ8
  have N8 := Fr.app N7 N8q
  refine GoH.tr st8 ?_
  have E_a1 := E_a1.keep K8q
  have A_z1 := A_z1.keep K8q (ninS ne_z1_b1 (ninS ne_z1_t2 nin0))
  have C_a1 := C_a1.keep K8q (ninS ne_a1_b1 (ninS ne_a1_t2 nin0))
  have V_a1 := V_a1.keep K8q (ninS ne_a1_b1 (ninS ne_a1_t2 nin0))
  have E_a2 := E_a2.keep K8q
  have A_z2 := A_z2.keep K8q (ninS ne_z2_b1 (ninS ne_z2_t2 nin0))
  have C_a2 := C_a2.keep K8q (ninS ne_a2_b1 (ninS ne_a2_t2 nin0))
  have V_a2 := V_a2.keep K8q (ninS ne_a2_b1 (ninS ne_a2_t2 nin0))
  have E_a3 := E_a3.keep K8q
  have A_z3 := A_z3.keep K8q (ninS ne_z3_b1 (ninS ne_z3_t2 nin0))
  have C_a3 := C_a3.keep K8q (ninS ne_a3_b1 (ninS ne_a3_t2 nin0))
  have V_a3 := V_a3.keep K8q (ninS ne_a3_b1 (ninS ne_a3_t2 nin0))
  have E_b1 := E_b1.keep K8q
  have E_sa3 := E_sa3.keep K8q
  have V_sb3 := V_sb3.keep K8q (ninS (Ne.symm ne_b1_sb3) (ninS (Ne.symm ne_t2_sb3) nin0))
  have F_coder_sa3 := F_coder_sa3.keep K8q (ninS (Ne.symm ne_b1_sa3) (ninS (Ne.symm ne_t2_sa3) nin0))
  have F_value_sa3 := F_value_sa3.keep K8q (ninS (Ne.symm ne_b1_sa3) (ninS (Ne.symm ne_t2_sa3) nin0))
  have E_sa6 := E_sa6.keep K8q
  have V_sb6 := V_sb6.keep K8q (ninS (Ne.symm ne_b1_sb6) (ninS (Ne.symm ne_t2_sb6) nin0))
  have F_coder_sa6 := F_coder_sa6.keep K8q (ninS (Ne.symm ne_b1_sa6) (ninS (Ne.symm ne_t2_sa6) nin0))
  have F_value_sa6 := F_value_sa6.keep K8q (ninS (Ne.symm ne_b1_sa6) (ninS (Ne.symm ne_t2_sa6) nin0))
  have sfw8 := (sfS Sf_b1 (sfS Sf_t2 sf0))
  have Sf_b1 := Safe.keep K8q sfw8 HH Sf_b1
  have Sf_t2 := Safe.keep K8q sfw8 HH Sf_t2
  have RR := RR.trans (CHr.keep K8q sfw8 HH)
  have HH := HH.keep K8q sfw8
  have hk := Nat.le_trans hk K8q.1
  have O := O.keep K8q (allS g_b1 (allS g_t2 all0))
  have KK := KK.trans K8q (allS (Or.inr sz_b1) (allS (Or.inr sz_t2) all0))
  have E_b1 := Eq8
  show GoH _ _ _ _ _ _ _ _ _ _  T8 (mkF m 26 #[.val (.ref a1), .val (.ref a2), .val (.ref a3)] [(.ref b1), (.ref a1)])
  obtain ⟨cq9, kq9, q9a, q9b, q9c⟩ := isOf hZ rfl E_b1
  obtain ⟨_, _, ⟨T9, L9, k9, n9⟩, -, X9, ⟨Lc9, hQ9, l9, y9, z9⟩, st9⟩ := X8.virtualBack hx (y := (⟨"java/lang/StringBuilder", "toString", "()Ljava/lang/String;"⟩ : MethodName)) (z := (⟨"java/lang/StringBuilder", "toString", "()Ljava/lang/String;"⟩ : MethodName)) hown (mvT hZ (hw _ (List.mem_of_getElem? (i := 88) rfl))) (mvT hZ (hw _ (List.mem_of_getElem? (i := 89) rfl))) (notFace_of_selects (args := #[]) (mvT hZ (hw _ (List.mem_of_getElem? (i := 91) rfl)))) (mvT hZ (hw _ (List.mem_of_getElem? (i := 91) rfl))) (mvT hZ (hw _ (List.mem_of_getElem? (i := 90) rfl))) (by decide) (backOf (W := 1) (rmTS l Z a0 hw [] b1 zc t2 kt2 ((((0 + 7) + r2.length) + 3) + r3.length) 16 (((([] ++ [(.int (102 : Int32)), (.int (105 : Int32)), (.int (101 : Int32)), (.int (108 : Int32)), (.int (100 : Int32)), (.int (32 : Int32)), (.int (34 : Int32))]) ++ (r2.map Value.int)) ++ [(.int (34 : Int32)), (.int (58 : Int32)), (.int (32 : Int32))]) ++ (r3.map Value.int)) T8.heap n0 O (by omega) (by omega) S_COMPACT hcs E_b1 Cq8 Vq8 Nq8 Aq8 (own_lapp (own_lapp (own_lapp (own_lapp rfl rfl) (List.length_map _)) rfl) (List.length_map _)) (by omega) (by omega)) hZ (hw _ (List.mem_of_getElem? (i := 92) rfl)) (hw _ (List.mem_of_getElem? (i := 18) rfl)) (by decide) (by decide)) q9a q9c (g := (mkF m 26 #[.val (.ref a1), .val (.ref a2), .val (.ref a3)] [(.ref b1), (.ref a1)])) rfl (by rw [hml]; rfl) (Steps.refl _) (argsL := []) (rest := [(.ref a1)]) (lenOf pd___Ljava_lang_String_ rfl) rfl (by show 2 * 0 + _ ≤ _; exact Nat.le_of_eq rfl) (hb hby d2_26) (fun _ _ => ⟨rfl, rfl, (by decide : 6 + 2 ≤ _), (by decide : 68 + 68 ≤ _)⟩)
  dsimp only [Pt.U, Pt.locs, Pt.cells, Pt.slots] at X9 l9 y9 z9 st9 hQ9
  subst l9 y9 z9
  have X9 : Stand p l e _ _ m _ below meth c T9 _ 8 136 := X9
  obtain ⟨y9, t9, kt9, rfl, N9q, E9q, ly9, lt9, E_y9, C_y9, V_y9, A_t9⟩ := hQ9
  have N9 := Fr.app N8 N9q
  refine GoH.tr st9 ?_
  have g_y9 : n0 ≤ y9 := Nat.le_trans (own_le O) ly9
  have Sf_y9 : Safe Z EL T6.vm T8.heap y9 := Safe.new ly9
  have sz_y9 : h0.size ≤ y9 := Nat.le_trans KK.1 ly9
  have ne_a1_y9 : a1 ≠ y9 := Nat.ne_of_lt (Nat.lt_of_lt_of_le E_a1.lt ly9)
  have ne_z1_y9 : z1 ≠ y9 := Nat.ne_of_lt (Nat.lt_of_lt_of_le A_z1.lt ly9)
  have ne_a2_y9 : a2 ≠ y9 := Nat.ne_of_lt (Nat.lt_of_lt_of_le E_a2.lt ly9)
  have ne_z2_y9 : z2 ≠ y9 := Nat.ne_of_lt (Nat.lt_of_lt_of_le A_z2.lt ly9)
  have ne_a3_y9 : a3 ≠ y9 := Nat.ne_of_lt (Nat.lt_of_lt_of_le E_a3.lt ly9)
  have ne_z3_y9 : z3 ≠ y9 := Nat.ne_of_lt (Nat.lt_of_lt_of_le A_z3.lt ly9)
  have ne_b1_y9 : b1 ≠ y9 := Nat.ne_of_lt (Nat.lt_of_lt_of_le E_b1.lt ly9)
  have ne_sa3_y9 : sa3 ≠ y9 := Nat.ne_of_lt (Nat.lt_of_lt_of_le E_sa3.lt ly9)
  have ne_sb3_y9 : sb3 ≠ y9 := Nat.ne_of_lt (Nat.lt_of_lt_of_le V_sb3.lt ly9)
  have ne_sa6_y9 : sa6 ≠ y9 := Nat.ne_of_lt (Nat.lt_of_lt_of_le E_sa6.lt ly9)
  have ne_sb6_y9 : sb6 ≠ y9 := Nat.ne_of_lt (Nat.lt_of_lt_of_le V_sb6.lt ly9)
  have ne_t2_y9 : t2 ≠ y9 := Nat.ne_of_lt (Nat.lt_of_lt_of_le Aq8.lt ly9)
  have g_t9 : n0 ≤ t9 := Nat.le_trans (own_le O) lt9
  have Sf_t9 : Safe Z EL T6.vm T8.heap t9 := Safe.new lt9
  have sz_t9 : h0.size ≤ t9 := Nat.le_trans KK.1 lt9
  have ne_a1_t9 : a1 ≠ t9 := Nat.ne_of_lt (Nat.lt_of_lt_of_le E_a1.lt lt9)
  have ne_z1_t9 : z1 ≠ t9 := Nat.ne_of_lt (Nat.lt_of_lt_of_le A_z1.lt lt9)
  have ne_a2_t9 : a2 ≠ t9 := Nat.ne_of_lt (Nat.lt_of_lt_of_le E_a2.lt lt9)
  have ne_z2_t9 : z2 ≠ t9 := Nat.ne_of_lt (Nat.lt_of_lt_of_le A_z2.lt lt9)
  have ne_a3_t9 : a3 ≠ t9 := Nat.ne_of_lt (Nat.lt_of_lt_of_le E_a3.lt lt9)
  have ne_z3_t9 : z3 ≠ t9 := Nat.ne_of_lt (Nat.lt_of_lt_of_le A_z3.lt lt9)
  have ne_b1_t9 : b1 ≠ t9 := Nat.ne_of_lt (Nat.lt_of_lt_of_le E_b1.lt lt9)
  have ne_sa3_t9 : sa3 ≠ t9 := Nat.ne_of_lt (Nat.lt_of_lt_of_le E_sa3.lt lt9)
  have ne_sb3_t9 : sb3 ≠ t9 := Nat.ne_of_lt (Nat.lt_of_lt_of_le V_sb3.lt lt9)
  have ne_sa6_t9 : sa6 ≠ t9 := Nat.ne_of_lt (Nat.lt_of_lt_of_le E_sa6.lt lt9)
  have ne_sb6_t9 : sb6 ≠ t9 := Nat.ne_of_lt (Nat.lt_of_lt_of_le V_sb6.lt lt9)
  have ne_t2_t9 : t2 ≠ t9 := Nat.ne_of_lt (Nat.lt_of_lt_of_le Aq8.lt lt9)
  have E9 := E9q
  have E_a1 := E_a1.ext E9
  have A_z1 := A_z1.ext E9
  have C_a1 := C_a1.ext E9
  have V_a1 := V_a1.ext E9
  have E_a2 := E_a2.ext E9
  have A_z2 := A_z2.ext E9
  have C_a2 := C_a2.ext E9
  have V_a2 := V_a2.ext E9
  have E_a3 := E_a3.ext E9
  have A_z3 := A_z3.ext E9
  have C_a3 := C_a3.ext E9
  have V_a3 := V_a3.ext E9
  have E_b1 := E_b1.ext E9
  have E_sa3 := E_sa3.ext E9
  have V_sb3 := V_sb3.ext E9
  have F_coder_sa3 := F_coder_sa3.ext E9
  have F_value_sa3 := F_value_sa3.ext E9
  have E_sa6 := E_sa6.ext E9
  have V_sb6 := V_sb6.ext E9
  have F_coder_sa6 := F_coder_sa6.ext E9
  have F_value_sa6 := F_value_sa6.ext E9
  have Cq8 := Cq8.ext E9
  have Vq8 := Vq8.ext E9
  have Nq8 := Nq8.ext E9
  have Aq8 := Aq8.ext E9
  have Sf_b1 := Safe.ext E9 HH Sf_b1
  have Sf_t2 := Safe.ext E9 HH Sf_t2
  have Sf_y9 := Safe.ext E9 HH Sf_y9
  have Sf_t9 := Safe.ext E9 HH Sf_t9
  have RR := RR.trans (CHr.ext E9 HH)
  have HH := HH.ext E9
  have hk := Nat.le_trans hk E9.1
  have O := O.ext E9
  have KK := KK.ext E9
  have ee9 : ((((([] ++ [(.int (102 : Int32)), (.int (105 : Int32)), (.int (101 : Int32)), (.int (108 : Int32)), (.int (100 : Int32)), (.int (32 : Int32)), (.int (34 : Int32))]) ++ (r2.map Value.int)) ++ [(.int (34 : Int32)), (.int (58 : Int32)), (.int (32 : Int32))]) ++ (r3.map Value.int)) : List Value) = (own_inner r2 r3).map Value.int := by simp [own_inner, own_L3, own_L2]
  have el9 : ((((0 + 7) + r2.length) + 3) + r3.length) = (own_inner r2 r3).length := Eq.trans (Eq.symm ((own_lapp (own_lapp (own_lapp (own_lapp rfl rfl) (List.length_map _)) rfl) (List.length_map _)) : ((((([] ++ [(.int (102 : Int32)), (.int (105 : Int32)), (.int (101 : Int32)), (.int (108 : Int32)), (.int (100 : Int32)), (.int (32 : Int32)), (.int (34 : Int32))]) ++ (r2.map Value.int)) ++ [(.int (34 : Int32)), (.int (58 : Int32)), (.int (32 : Int32))]) ++ (r3.map Value.int)) : List Value).length = ((((0 + 7) + r2.length) + 3) + r3.length))) ((congrArg List.length ee9).trans (List.length_map _))
  rw [ee9, el9] at A_t9
  have ne_y9_t9 : y9 ≠ t9 := Exa.neArv E_y9 A_t9 (hw _ (List.mem_of_getElem? (i := 6) rfl))
  show GoH _ _ _ _ _ _ _ _ _ _  T9 (mkF m 29 #[.val (.ref a1), .val (.ref a2), .val (.ref a3)] [(.ref y9), (.ref a1)])
  obtain ⟨_, _, ⟨T10, L10, k10, n10⟩, -, X10, hSn10, hgn10, ⟨Lc10, hQ10, l10, y10, z10, CR10⟩, st10⟩ := callSS X9 hx (y := (⟨"com/example/keyset/keyset/query/DeclarationException", "forResource", "(Ljava/lang/String;Ljava/lang/String;)Lcom/example/keyset/keyset/query/DeclarationException;"⟩ : MethodName)) hown (mvT hZ (hw _ (List.mem_of_getElem? (i := 135) rfl))) (mvT hZ (hw _ (List.mem_of_getElem? (i := 136) rfl))) (mvT hZ (hw _ (List.mem_of_getElem? (i := 14) rfl))) (mvT hZ (hw _ (List.mem_of_getElem? (i := 137) rfl))) (by decide) (own_backSKH (sf := []) (W := 0) (rmFR l Z a0 hw [] a1 y9 zc z1 k1 r1 t9 kt9 (own_inner r2 r3) T9.heap n0 O hEL wS S_COMPACT hcs hl hr E_a1 C_a1 V_a1 A_z1 E_y9 C_y9 V_y9 A_t9 hb1 (by rw [own_innerl]; omega) (by rw [own_innerl]; omega)) hZ (hw _ (List.mem_of_getElem? (i := 137) rfl)) (hw _ (List.mem_of_getElem? (i := 14) rfl)) (by decide) (by decide) hEL HH all0 (Vm.MethodsKnown.alikeC hS.1.alike hK.1) (Vm.FramesKnown.alikeC hS.1.alike hK.2)) (g := (mkF m 29 #[.val (.ref a1), .val (.ref a2), .val (.ref a3)] [(.ref y9), (.ref a1)])) rfl (by rw [hml]; rfl) (argsL := [(.ref a1), (.ref y9)]) (rest := []) (lenOf pd__Ljava_lang_String_Ljava_lang_String__Lcom_example_keyset_keyset_query_DeclarationException_ rfl) rfl (by show 2 * 0 + _ ≤ _; exact Nat.le_of_eq rfl) (hb hby d2_29) (fun _ _ => ⟨rfl, rfl, (by decide : 8 + 11 ≤ _), (by decide : 136 + 3100 ≤ _)⟩)
  dsimp only [Pt.U, Pt.locs, Pt.cells, Pt.slots] at X10 l10 y10 z10 st10 hQ10 hSn10 hgn10 CR10
  subst l10 y10 z10
  have X10 : Stand p l e _ _ m _ below meth c T10 _ 19 3236 := X10
  obtain ⟨x10, y10, t10, kt10, rfl, N10q, E10q, Q10⟩ := hQ10
  have X10 : Stand p l e _ (s.setVm T10.vm) m _ below meth c T10 _ _ _ := X10
  have N10 := Fr.app N9 N10q
  refine GoH.tr st10 ?_
  have hS10 := Jvm.RoadKit.foldS hS hk hSn10 hgn10
  have hZ10 := State.Warmed39.trans (t := s.setVm T6.vm) hZ hSn10.1
  have hk10 := Nat.le_refl T10.heap.size
  have hown10 : T10.vm.findClass "com/example/keyset/keyset/query/DeclarationException" = some m.cls := by rw [hSn10.1.alike.findClass]; exact hown
  have E10 := E10q
  have Sf_b1 := CHr.safe CR10 E_b1.lt Sf_b1
  have Sf_t2 := CHr.safe CR10 Aq8.lt Sf_t2
  have Sf_y9 := CHr.safe CR10 E_y9.lt Sf_y9
  have Sf_t9 := CHr.safe CR10 A_t9.lt Sf_t9
  have E_a1 := E_a1.ext E10
  have A_z1 := A_z1.ext E10
  have C_a1 := C_a1.ext E10
  have V_a1 := V_a1.ext E10
  have E_a2 := E_a2.ext E10
  have A_z2 := A_z2.ext E10
  have C_a2 := C_a2.ext E10
  have V_a2 := V_a2.ext E10
  have E_a3 := E_a3.ext E10
  have A_z3 := A_z3.ext E10
  have C_a3 := C_a3.ext E10
  have V_a3 := V_a3.ext E10
  have E_b1 := E_b1.ext E10
  have E_sa3 := E_sa3.ext E10
  have V_sb3 := V_sb3.ext E10
  have F_coder_sa3 := F_coder_sa3.ext E10
  have F_value_sa3 := F_value_sa3.ext E10
  have E_sa6 := E_sa6.ext E10
  have V_sb6 := V_sb6.ext E10
  have F_coder_sa6 := F_coder_sa6.ext E10
  have F_value_sa6 := F_value_sa6.ext E10
  have Cq8 := Cq8.ext E10
  have Vq8 := Vq8.ext E10
  have Nq8 := Nq8.ext E10
  have Aq8 := Aq8.ext E10
  have E_y9 := E_y9.ext E10
  have A_t9 := A_t9.ext E10
  have C_y9 := C_y9.ext E10
  have V_y9 := V_y9.ext E10
  have O := O.ext E10
  have KK := KK.ext E10
  have RR := RR.trans CR10
  have HH := CR10.1
  have hS := hS10
  have hk := hk10
  have hZ := hZ10
  have hown := hown10
  show GoH _ _ _ _ _ _ _ _ _ _  T10 (mkF m 32 #[.val (.ref a1), .val (.ref a2), .val (.ref a3)] [(.ref x10)])
  refine GoH.retR X10 hS hk rfl hZ hEL HH RR hlk hx Bd.returns rfl rfl rfl (hb hby d2_32) (by decide) (by decide) ?_
  show Q_rmFF Z _ _ _ _ _ _ _ _ _ _ _ _ _ h0 n0 _ T10.heap _
  exact ⟨_, _, _, _, rfl, N10, own_ext0 KK, Q10⟩
def Q_rmGM (Z : State) (a1 : Addr) (y : Addr) (h0 : Heap) (n0 : Nat) (v : Option Value) (h : Heap) (L : List Loc) : Prop := v = some (.ref y) ∧ Fr n0 L ∧ h = h0
set_option maxRecDepth 65536 in
set_option maxHeartbeats 40000000 in
theorem rmGM (l : Launch) (Z : State) (a0 : Array Value) (hw : ∀ d ∈ tables_1, d.before a0 Z = true) (ws : List Jvm.Cond) (a1 : Addr) (y : Addr) (h0 : Heap) (n0 : Nat) (O : Old Z n0 h0) (F_a1 : Fld Z h0 a1 "java/lang/Throwable" "detailMessage" "Ljava/lang/String;" (.ref y)) :
    MetFree l (⟨"java/lang/Throwable", "getMessage", "()Ljava/lang/String;"⟩ : MethodName) (head1 (Jvm.Cond.code (⟨"java/lang/Throwable", "getMessage", "()Ljava/lang/String;"⟩ : MethodName) jdk_78_method_6_code 1 (some (.object "java/lang/String")) :: ws) ({ frames := 0, cells := 0, slots := 0, locals := 0 } : Room)) (fun a U => a = #[(.ref a1)] ∧ Z.Warmed39 U.vm ∧ U.heap = h0) (fun _ _ _ _ _ => True) (fun _ U o U' => ∃ v L, o = .returned v ∧ Q_rmGM Z a1 y h0 n0 v U'.heap L ∧ FrameEnd U o U' L ({ frames := 0, cells := 0, slots := 0, locals := 0 } : Room).cells ({ frames := 0, cells := 0, slots := 0, locals := 0 } : Room).slots) := by
  refine MetFree.of_bodySF (plainFor_of_name pn_36) hisR ?_
  intro p e s m args below meth c s₁ Bd hml0 hP hK
  obtain ⟨rfl, hZ, hh⟩ := hP
  have hx := Bd.exec
  have hby := Bd.bytes
  have hml : c.maxLocals = 1 := hml0
  have hown : s.vm.findClass "java/lang/Throwable" = some m.cls := findClass_of_methodNamed Bd.named
  have hnm := (name_of_methodNamed Bd.named Bd.method).1
  have hlk : meth.locks = false := BodyLoose.notSynchronized Bd
  have X0 : Stand p l e ({ frames := 0, cells := 0, slots := 0, locals := 0 } : Room) s m #[(.ref a1)] below meth c s₁ [] 0 0 := Stand.of_body Bd
  have e0 : s₁.heap = h0 := by rw [← hh, Bd.state]; rfl
  have N0 := Fr.nil n0
  show Go p e below s ({ frames := 0, cells := 0, slots := 0, locals := 0 } : Room).cells ({ frames := 0, cells := 0, slots := 0, locals := 0 } : Room).slots (Q_rmGM Z a1 y h0 n0) s₁ (entryFrame m #[(.ref a1)] 1)
  refine Go.eq (ef_rmGM m a1) ?_
  show Go _ _ _ _ _ _ _  s₁ (mkF m 0 #[.val (.ref a1)] [])
  refine Go.st (fun tT kT => XS.aloadN X0.here hx rfl (hb hby d36_0) rfl rfl  kT) ?_
  show Go _ _ _ _ _ _ _  s₁ (mkF m 1 #[.val (.ref a1)] [(.ref a1)])
  obtain ⟨T1, X1, e1, st1⟩ := getF X0 hx hZ hown (host := "") (Or.inl (hw _ (List.mem_of_getElem? (i := 214) rfl))) Via.refl e0 F_a1 (g := (mkF m 1 #[.val (.ref a1)] [(.ref a1)])) rfl rfl (hb hby d36_1)
  refine Go.st st1 ?_
  show Go _ _ _ _ _ _ _  T1 (mkF m 4 #[.val (.ref a1)] [(.ref y)])
  refine Go.retR X1 hlk hx Bd.returns rfl rfl rfl (hb hby d36_4) (by decide) (by decide) ?_
  show Q_rmGM Z _ _ h0 n0 _ T1.heap _
  rw [e1]
  exact ⟨rfl, N0, rfl⟩
def Q_rmPt (Z : State) (a1 : Addr) (a3 : Addr) (zc : Int32) (fm : Value) (t1 : Addr) (k1 : ClassId) (M : List Int32) (t3 : Addr) (k3 : ClassId) (S : List Int32) (oo : Nat) (h0 : Heap) (n0 : Nat) (v : Option Value) (h : Heap) (L : List Loc) : Prop := v = some (.int 1) ∧ Fr n0 L ∧ h = h0
set_option maxRecDepth 65536 in
set_option maxHeartbeats 40000000 in
theorem rmPt (l : Launch) (Z : State) (a0 : Array Value) (hw : ∀ d ∈ tables_1, d.before a0 Z = true) (ws : List Jvm.Cond) (a1 : Addr) (a3 : Addr) (zc : Int32) (fm : Value) (t1 : Addr) (k1 : ClassId) (M : List Int32) (t3 : Addr) (k3 : ClassId) (S : List Int32) (oo : Nat) (h0 : Heap) (n0 : Nat) (O : Old Z n0 h0) (S_COMPACT : Sta Z Z.heap "java/lang/String" "COMPACT_STRINGS" "Z" (.int zc)) (hcs : ¬ zc = 0) (S_SIO : Sta Z Z.heap "jdk/internal/util/Preconditions" "SIOOBE_FORMATTER" "Ljava/util/function/BiFunction;" fm) (ref_fm : fm.isRef = true) (E_a1 : Exa Z h0 a1 "java/lang/String") (C_a1 : Fld Z h0 a1 "java/lang/String" "coder" "B" (.int 0)) (V_a1 : Fld Z h0 a1 "java/lang/String" "value" "[B" (.ref t1)) (A_t1 : Arv Z h0 t1 k1 .byte (Int32.ofNat M.length) (M.map Value.int) (.int 0)) (E_a3 : Exa Z h0 a3 "java/lang/String") (C_a3 : Fld Z h0 a3 "java/lang/String" "coder" "B" (.int 0)) (V_a3 : Fld Z h0 a3 "java/lang/String" "value" "[B" (.ref t3)) (A_t3 : Arv Z h0 t3 k3 .byte (Int32.ofNat S.length) (S.map Value.int) (.int 0)) (hS2 : S.length ≤ 2) (hM : oo + S.length ≤ M.length) (hMb : M.length < 100000) (heq : ∀ i, i < S.length → M.getD (oo + i) 0 = S.getD i 0) :
    MetFree l (⟨"com/example/keyset/keyset/query/DeclarationExceptionForFieldPinLaw", "part", "(Ljava/lang/String;ILjava/lang/String;)Z"⟩ : MethodName) (head1 (Jvm.Cond.code (⟨"com/example/keyset/keyset/query/DeclarationExceptionForFieldPinLaw", "part", "(Ljava/lang/String;ILjava/lang/String;)Z"⟩ : MethodName) method_3_code 4 (some .boolean) :: ws) ({ frames := 4, cells := 0, slots := 0, locals := 60 } : Room)) (fun a U => a = #[(.ref a1), (.int (Int32.ofNat oo)), (.ref a3)] ∧ Z.Warmed39 U.vm ∧ U.heap = h0) (fun _ _ _ _ _ => True) (fun _ U o U' => ∃ v L, o = .returned v ∧ Q_rmPt Z a1 a3 zc fm t1 k1 M t3 k3 S oo h0 n0 v U'.heap L ∧ FrameEnd U o U' L ({ frames := 4, cells := 0, slots := 0, locals := 60 } : Room).cells ({ frames := 4, cells := 0, slots := 0, locals := 60 } : Room).slots) := by
  refine MetFree.of_bodySF (plainFor_of_name pn_42) hisR ?_
  intro p e s m args below meth c s₁ Bd hml0 hP hK
  obtain ⟨rfl, hZ, hh⟩ := hP
  have hx := Bd.exec
  have hby := Bd.bytes
  have hml : c.maxLocals = 4 := hml0
  have hown : s.vm.findClass "com/example/keyset/keyset/query/DeclarationExceptionForFieldPinLaw" = some m.cls := findClass_of_methodNamed Bd.named
  have hnm := (name_of_methodNamed Bd.named Bd.method).1
  have hlk : meth.locks = false := BodyLoose.notSynchronized Bd
  have X0 : Stand p l e ({ frames := 4, cells := 0, slots := 0, locals := 60 } : Room) s m #[(.ref a1), (.int (Int32.ofNat oo)), (.ref a3)] below meth c s₁ [] 0 0 := Stand.of_body Bd
  have e0 : s₁.heap = h0 := by rw [← hh, Bd.state]; rfl
  have N0 := Fr.nil n0
  show Go p e below s ({ frames := 4, cells := 0, slots := 0, locals := 60 } : Room).cells ({ frames := 4, cells := 0, slots := 0, locals := 60 } : Room).slots (Q_rmPt Z a1 a3 zc fm t1 k1 M t3 k3 S oo h0 n0) s₁ (entryFrame m #[(.ref a1), (.int (Int32.ofNat oo)), (.ref a3)] 4)
  refine Go.eq (ef_rmPt m a1 (Int32.ofNat oo) a3) ?_
  show Go _ _ _ _ _ _ _  s₁ (mkF m 0 #[.val (.ref a1), .val (.int (Int32.ofNat oo)), .val (.ref a3), .unset] [])
  refine Go.st (fun tT kT => XS.iconst X0.here hx rfl (hb hby d42_0) kT) ?_
  show Go _ _ _ _ _ _ _  s₁ (mkF m 1 #[.val (.ref a1), .val (.int (Int32.ofNat oo)), .val (.ref a3), .unset] [(.int (1 : Int32))])
  refine Go.st (fun tT kT => XS.istoreN X0.here hx rfl (hb hby d42_1) rfl (l' := #[.val (.ref a1), .val (.int (Int32.ofNat oo)), .val (.ref a3), .val (.int (1 : Int32))]) rfl kT) ?_
  show Go _ _ _ _ _ _ _  s₁ (mkF m 2 #[.val (.ref a1), .val (.int (Int32.ofNat oo)), .val (.ref a3), .val (.int (1 : Int32))] [])
  refine Go.st (fun tT kT => XS.aloadN X0.here hx rfl (hb hby d42_2) rfl rfl  kT) ?_
  show Go _ _ _ _ _ _ _  s₁ (mkF m 3 #[.val (.ref a1), .val (.int (Int32.ofNat oo)), .val (.ref a3), .val (.int (1 : Int32))] [(.ref a3)])
  obtain ⟨cq1, kq1, q1a, q1b, q1c⟩ := isOf hZ e0 E_a3
  refine Go.pure (w := (some (.int (Int32.ofNat S.length)))) (rest := []) (pc' := 6) (X0.virtualBack hx (y := (⟨"java/lang/String", "length", "()I"⟩ : MethodName)) (z := (⟨"java/lang/String", "length", "()I"⟩ : MethodName)) hown (mvT hZ (hw _ (List.mem_of_getElem? (i := 221) rfl))) (mvT hZ (hw _ (List.mem_of_getElem? (i := 48) rfl))) (notFace_of_selects (args := #[]) (mvT hZ (hw _ (List.mem_of_getElem? (i := 50) rfl)))) (mvT hZ (hw _ (List.mem_of_getElem? (i := 50) rfl))) (mvT hZ (hw _ (List.mem_of_getElem? (i := 49) rfl))) (by decide) (backOf (W := 0) (rmLen l Z a0 hw [] a3 zc t3 k3 S.length (S.map Value.int) h0 n0 O S_COMPACT hcs E_a3 C_a3 V_a3 A_t3 (List.length_map _) (by omega)) hZ (hw _ (List.mem_of_getElem? (i := 51) rfl)) (hw _ (List.mem_of_getElem? (i := 5) rfl)) (by decide) (by decide)) q1a q1c (g := (mkF m 3 #[.val (.ref a1), .val (.int (Int32.ofNat oo)), .val (.ref a3), .val (.int (1 : Int32))] [(.ref a3)])) rfl (by rw [hml]; rfl) (Steps.refl _) (argsL := []) (rest := []) (lenOf pd___I rfl) rfl (by show 2 * 0 + _ ≤ _; exact Nat.le_of_eq rfl) (hb hby d42_3) (fun _ _ => ⟨rfl, e0, (by decide : 0 + 0 ≤ _), (by decide : 0 + 0 ≤ _)⟩)) (fun _ _ _ q => q) N0 (fun T1 L1 X1 e1q N1 => ?_)
  show Go _ _ _ _ _ _ _  T1 (mkF m 6 #[.val (.ref a1), .val (.int (Int32.ofNat oo)), .val (.ref a3), .val (.int (1 : Int32))] [(.int (Int32.ofNat S.length))])
  by_cases c6_2 : (0 : Int32) < (Int32.ofNat S.length)
  · refine Go.st (fun tT kT => XS.ifNo X1.here hx rfl (hb hby d42_6) rfl ((if0 _ _).trans (tlt c6_2).2.2.2) kT) ?_
    show Go _ _ _ _ _ _ _  T1 (mkF m 9 #[.val (.ref a1), .val (.int (Int32.ofNat oo)), .val (.ref a3), .val (.int (1 : Int32))] [])
    refine Go.st (fun tT kT => XS.iloadN X1.here hx rfl (hb hby d42_9) rfl  kT) ?_
    show Go _ _ _ _ _ _ _  T1 (mkF m 10 #[.val (.ref a1), .val (.int (Int32.ofNat oo)), .val (.ref a3), .val (.int (1 : Int32))] [(.int (1 : Int32))])
    refine Go.st (fun tT kT => XS.ifNo X1.here hx rfl (hb hby d42_10) rfl ((if0 _ _).trans (feq (by decide : ¬ ((1 : Int32) = (0 : Int32)))).1) kT) ?_
    show Go _ _ _ _ _ _ _  T1 (mkF m 13 #[.val (.ref a1), .val (.int (Int32.ofNat oo)), .val (.ref a3), .val (.int (1 : Int32))] [])
    refine Go.st (fun tT kT => XS.aloadN X1.here hx rfl (hb hby d42_13) rfl rfl  kT) ?_
    show Go _ _ _ _ _ _ _  T1 (mkF m 14 #[.val (.ref a1), .val (.int (Int32.ofNat oo)), .val (.ref a3), .val (.int (1 : Int32))] [(.ref a1)])
    refine Go.st (fun tT kT => XS.iloadN X1.here hx rfl (hb hby d42_14) rfl  kT) ?_
    show Go _ _ _ _ _ _ _  T1 (mkF m 15 #[.val (.ref a1), .val (.int (Int32.ofNat oo)), .val (.ref a3), .val (.int (1 : Int32))] [(.int (Int32.ofNat oo)), (.ref a1)])
    obtain ⟨cq3, kq3, q3a, q3b, q3c⟩ := isOf hZ e1q E_a1
    refine Go.pure (w := (some (.int (own_chr (M.getD oo 0))))) (rest := []) (pc' := 18) (X1.virtualBack hx (y := (⟨"java/lang/String", "charAt", "(I)C"⟩ : MethodName)) (z := (⟨"java/lang/String", "charAt", "(I)C"⟩ : MethodName)) hown (mvT hZ (hw _ (List.mem_of_getElem? (i := 222) rfl))) (mvT hZ (hw _ (List.mem_of_getElem? (i := 223) rfl))) (notFace_of_selects (args := #[]) (mvT hZ (hw _ (List.mem_of_getElem? (i := 225) rfl)))) (mvT hZ (hw _ (List.mem_of_getElem? (i := 225) rfl))) (mvT hZ (hw _ (List.mem_of_getElem? (i := 224) rfl))) (by decide) (backOf (W := 0) (rmCA l Z a0 hw [] a1 zc fm t1 k1 M oo h0 n0 O S_COMPACT hcs S_SIO ref_fm E_a1 C_a1 V_a1 A_t1 (by have := own_posk 0 c6_2 (by omega); omega) (by omega)) hZ (hw _ (List.mem_of_getElem? (i := 226) rfl)) (hw _ (List.mem_of_getElem? (i := 5) rfl)) (by decide) (by decide)) q3a q3c (g := (mkF m 15 #[.val (.ref a1), .val (.int (Int32.ofNat oo)), .val (.ref a3), .val (.int (1 : Int32))] [(.int (Int32.ofNat oo)), (.ref a1)])) rfl (by rw [hml]; rfl) (Steps.refl _) (argsL := [(.int (Int32.ofNat oo))]) (rest := []) (lenOf pd__I_C rfl) rfl (by show 2 * 0 + _ ≤ _; exact Nat.le_of_eq rfl) (hb hby d42_15) (fun _ _ => ⟨rfl, e1q, (by decide : 0 + 0 ≤ _), (by decide : 0 + 0 ≤ _)⟩)) (fun _ _ _ q => q) N1 (fun T3 L3 X3 e3q N3 => ?_)
    show Go _ _ _ _ _ _ _  T3 (mkF m 18 #[.val (.ref a1), .val (.int (Int32.ofNat oo)), .val (.ref a3), .val (.int (1 : Int32))] [(.int (own_chr (M.getD oo 0)))])
    refine Go.st (fun tT kT => XS.aloadN X3.here hx rfl (hb hby d42_18) rfl rfl  kT) ?_
    show Go _ _ _ _ _ _ _  T3 (mkF m 19 #[.val (.ref a1), .val (.int (Int32.ofNat oo)), .val (.ref a3), .val (.int (1 : Int32))] [(.ref a3), (.int (own_chr (M.getD oo 0)))])
    refine Go.st (fun tT kT => XS.iconst X3.here hx rfl (hb hby d42_19) kT) ?_
    show Go _ _ _ _ _ _ _  T3 (mkF m 20 #[.val (.ref a1), .val (.int (Int32.ofNat oo)), .val (.ref a3), .val (.int (1 : Int32))] [(.int (0 : Int32)), (.ref a3), (.int (own_chr (M.getD oo 0)))])
    obtain ⟨cq4, kq4, q4a, q4b, q4c⟩ := isOf hZ e3q E_a3
    refine Go.pure (w := (some (.int (own_chr (S.getD 0 0))))) (rest := [(.int (own_chr (M.getD oo 0)))]) (pc' := 23) (X3.virtualBack hx (y := (⟨"java/lang/String", "charAt", "(I)C"⟩ : MethodName)) (z := (⟨"java/lang/String", "charAt", "(I)C"⟩ : MethodName)) hown (mvT hZ (hw _ (List.mem_of_getElem? (i := 222) rfl))) (mvT hZ (hw _ (List.mem_of_getElem? (i := 223) rfl))) (notFace_of_selects (args := #[]) (mvT hZ (hw _ (List.mem_of_getElem? (i := 225) rfl)))) (mvT hZ (hw _ (List.mem_of_getElem? (i := 225) rfl))) (mvT hZ (hw _ (List.mem_of_getElem? (i := 224) rfl))) (by decide) (backOf (W := 1) (rmCA l Z a0 hw [] a3 zc fm t3 k3 S 0 h0 n0 O S_COMPACT hcs S_SIO ref_fm E_a3 C_a3 V_a3 A_t3 (own_posk 0 c6_2 (by omega)) (by omega)) hZ (hw _ (List.mem_of_getElem? (i := 226) rfl)) (hw _ (List.mem_of_getElem? (i := 5) rfl)) (by decide) (by decide)) q4a q4c (g := (mkF m 20 #[.val (.ref a1), .val (.int (Int32.ofNat oo)), .val (.ref a3), .val (.int (1 : Int32))] [(.int (0 : Int32)), (.ref a3), (.int (own_chr (M.getD oo 0)))])) rfl (by rw [hml]; rfl) (Steps.refl _) (argsL := [(.int (0 : Int32))]) (rest := [(.int (own_chr (M.getD oo 0)))]) (lenOf pd__I_C rfl) rfl (by show 2 * 0 + _ ≤ _; exact Nat.le_of_eq rfl) (hb hby d42_20) (fun _ _ => ⟨rfl, e3q, (by decide : 0 + 0 ≤ _), (by decide : 0 + 0 ≤ _)⟩)) (fun _ _ _ q => q) N3 (fun T4 L4 X4 e4q N4 => ?_)
    show Go _ _ _ _ _ _ _  T4 (mkF m 23 #[.val (.ref a1), .val (.int (Int32.ofNat oo)), .val (.ref a3), .val (.int (1 : Int32))] [(.int (own_chr (S.getD 0 0))), (.int (own_chr (M.getD oo 0)))])
    refine Go.st (fun tT kT => XS.icmpNo X4.here hx rfl (hb hby d42_23) rfl (teq (congrArg own_chr (heq 0 (own_posk 0 c6_2 (by omega))) : (own_chr (M.getD oo 0)) = (own_chr (S.getD 0 0)))).2 kT) ?_
    show Go _ _ _ _ _ _ _  T4 (mkF m 26 #[.val (.ref a1), .val (.int (Int32.ofNat oo)), .val (.ref a3), .val (.int (1 : Int32))] [])
    refine Go.st (fun tT kT => XS.iconst X4.here hx rfl (hb hby d42_26) kT) ?_
    show Go _ _ _ _ _ _ _  T4 (mkF m 27 #[.val (.ref a1), .val (.int (Int32.ofNat oo)), .val (.ref a3), .val (.int (1 : Int32))] [(.int (1 : Int32))])
    refine Go.st (fun tT kT => XS.goto X4.here hx rfl (pc0 := 27) (pc' := 31) rfl (hb hby d42_27) (by decide) (by decide) kT) ?_
    show Go _ _ _ _ _ _ _  T4 (mkF m 31 #[.val (.ref a1), .val (.int (Int32.ofNat oo)), .val (.ref a3), .val (.int (1 : Int32))] [(.int (1 : Int32))])
    refine Go.st (fun tT kT => XS.istoreN X4.here hx rfl (hb hby d42_31) rfl (l' := #[.val (.ref a1), .val (.int (Int32.ofNat oo)), .val (.ref a3), .val (.int (1 : Int32))]) rfl kT) ?_
    show Go _ _ _ _ _ _ _  T4 (mkF m 32 #[.val (.ref a1), .val (.int (Int32.ofNat oo)), .val (.ref a3), .val (.int (1 : Int32))] [])
    refine Go.st (fun tT kT => XS.aloadN X4.here hx rfl (hb hby d42_32) rfl rfl  kT) ?_
    show Go _ _ _ _ _ _ _  T4 (mkF m 33 #[.val (.ref a1), .val (.int (Int32.ofNat oo)), .val (.ref a3), .val (.int (1 : Int32))] [(.ref a3)])
    obtain ⟨cq5, kq5, q5a, q5b, q5c⟩ := isOf hZ e4q E_a3
    refine Go.pure (w := (some (.int (Int32.ofNat S.length)))) (rest := []) (pc' := 36) (X4.virtualBack hx (y := (⟨"java/lang/String", "length", "()I"⟩ : MethodName)) (z := (⟨"java/lang/String", "length", "()I"⟩ : MethodName)) hown (mvT hZ (hw _ (List.mem_of_getElem? (i := 221) rfl))) (mvT hZ (hw _ (List.mem_of_getElem? (i := 48) rfl))) (notFace_of_selects (args := #[]) (mvT hZ (hw _ (List.mem_of_getElem? (i := 50) rfl)))) (mvT hZ (hw _ (List.mem_of_getElem? (i := 50) rfl))) (mvT hZ (hw _ (List.mem_of_getElem? (i := 49) rfl))) (by decide) (backOf (W := 0) (rmLen l Z a0 hw [] a3 zc t3 k3 S.length (S.map Value.int) h0 n0 O S_COMPACT hcs E_a3 C_a3 V_a3 A_t3 (List.length_map _) (by omega)) hZ (hw _ (List.mem_of_getElem? (i := 51) rfl)) (hw _ (List.mem_of_getElem? (i := 5) rfl)) (by decide) (by decide)) q5a q5c (g := (mkF m 33 #[.val (.ref a1), .val (.int (Int32.ofNat oo)), .val (.ref a3), .val (.int (1 : Int32))] [(.ref a3)])) rfl (by rw [hml]; rfl) (Steps.refl _) (argsL := []) (rest := []) (lenOf pd___I rfl) rfl (by show 2 * 0 + _ ≤ _; exact Nat.le_of_eq rfl) (hb hby d42_33) (fun _ _ => ⟨rfl, e4q, (by decide : 0 + 0 ≤ _), (by decide : 0 + 0 ≤ _)⟩)) (fun _ _ _ q => q) N4 (fun T5 L5 X5 e5q N5 => ?_)
    show Go _ _ _ _ _ _ _  T5 (mkF m 36 #[.val (.ref a1), .val (.int (Int32.ofNat oo)), .val (.ref a3), .val (.int (1 : Int32))] [(.int (Int32.ofNat S.length))])
    refine Go.st (fun tT kT => XS.iconst X5.here hx rfl (hb hby d42_36) kT) ?_
    show Go _ _ _ _ _ _ _  T5 (mkF m 37 #[.val (.ref a1), .val (.int (Int32.ofNat oo)), .val (.ref a3), .val (.int (1 : Int32))] [(.int (1 : Int32)), (.int (Int32.ofNat S.length))])
    by_cases c37_6 : (1 : Int32) < (Int32.ofNat S.length)
    · refine Go.st (fun tT kT => XS.icmpNo X5.here hx rfl (hb hby d42_37) rfl (tlt c37_6).2.2.2 kT) ?_
      show Go _ _ _ _ _ _ _  T5 (mkF m 40 #[.val (.ref a1), .val (.int (Int32.ofNat oo)), .val (.ref a3), .val (.int (1 : Int32))] [])
      refine Go.st (fun tT kT => XS.iloadN X5.here hx rfl (hb hby d42_40) rfl  kT) ?_
      show Go _ _ _ _ _ _ _  T5 (mkF m 41 #[.val (.ref a1), .val (.int (Int32.ofNat oo)), .val (.ref a3), .val (.int (1 : Int32))] [(.int (1 : Int32))])
      refine Go.st (fun tT kT => XS.ifNo X5.here hx rfl (hb hby d42_41) rfl ((if0 _ _).trans (feq (by decide : ¬ ((1 : Int32) = (0 : Int32)))).1) kT) ?_
      show Go _ _ _ _ _ _ _  T5 (mkF m 44 #[.val (.ref a1), .val (.int (Int32.ofNat oo)), .val (.ref a3), .val (.int (1 : Int32))] [])
      refine Go.st (fun tT kT => XS.aloadN X5.here hx rfl (hb hby d42_44) rfl rfl  kT) ?_
      show Go _ _ _ _ _ _ _  T5 (mkF m 45 #[.val (.ref a1), .val (.int (Int32.ofNat oo)), .val (.ref a3), .val (.int (1 : Int32))] [(.ref a1)])
      refine Go.st (fun tT kT => XS.iloadN X5.here hx rfl (hb hby d42_45) rfl  kT) ?_
      show Go _ _ _ _ _ _ _  T5 (mkF m 46 #[.val (.ref a1), .val (.int (Int32.ofNat oo)), .val (.ref a3), .val (.int (1 : Int32))] [(.int (Int32.ofNat oo)), (.ref a1)])
      refine Go.st (fun tT kT => XS.iconst X5.here hx rfl (hb hby d42_46) kT) ?_
      show Go _ _ _ _ _ _ _  T5 (mkF m 47 #[.val (.ref a1), .val (.int (Int32.ofNat oo)), .val (.ref a3), .val (.int (1 : Int32))] [(.int (1 : Int32)), (.int (Int32.ofNat oo)), (.ref a1)])
      refine Go.st (fun tT kT => XS.iadd X5.here hx rfl (hb hby d42_47) rfl kT) ?_
      show Go _ _ _ _ _ _ _  T5 (mkF m 48 #[.val (.ref a1), .val (.int (Int32.ofNat oo)), .val (.ref a3), .val (.int (1 : Int32))] [(.int ((Int32.ofNat oo) + (1 : Int32))), (.ref a1)])
      rw [show ((Int32.ofNat oo) + (1 : Int32)) = Int32.ofNat (oo + 1) from (Int32.ofNat_add oo 1).symm]
      show Go _ _ _ _ _ _ _  T5 (mkF m 48 #[.val (.ref a1), .val (.int (Int32.ofNat oo)), .val (.ref a3), .val (.int (1 : Int32))] [(.int (Int32.ofNat (oo + 1))), (.ref a1)])
      obtain ⟨cq7, kq7, q7a, q7b, q7c⟩ := isOf hZ e5q E_a1
      refine Go.pure (w := (some (.int (own_chr (M.getD (oo + 1) 0))))) (rest := []) (pc' := 51) (X5.virtualBack hx (y := (⟨"java/lang/String", "charAt", "(I)C"⟩ : MethodName)) (z := (⟨"java/lang/String", "charAt", "(I)C"⟩ : MethodName)) hown (mvT hZ (hw _ (List.mem_of_getElem? (i := 222) rfl))) (mvT hZ (hw _ (List.mem_of_getElem? (i := 223) rfl))) (notFace_of_selects (args := #[]) (mvT hZ (hw _ (List.mem_of_getElem? (i := 225) rfl)))) (mvT hZ (hw _ (List.mem_of_getElem? (i := 225) rfl))) (mvT hZ (hw _ (List.mem_of_getElem? (i := 224) rfl))) (by decide) (backOf (W := 0) (rmCA l Z a0 hw [] a1 zc fm t1 k1 M (oo + 1) h0 n0 O S_COMPACT hcs S_SIO ref_fm E_a1 C_a1 V_a1 A_t1 (by have := own_posk 1 c37_6 (by omega); omega) (by omega)) hZ (hw _ (List.mem_of_getElem? (i := 226) rfl)) (hw _ (List.mem_of_getElem? (i := 5) rfl)) (by decide) (by decide)) q7a q7c (g := (mkF m 48 #[.val (.ref a1), .val (.int (Int32.ofNat oo)), .val (.ref a3), .val (.int (1 : Int32))] [(.int (Int32.ofNat (oo + 1))), (.ref a1)])) rfl (by rw [hml]; rfl) (Steps.refl _) (argsL := [(.int (Int32.ofNat (oo + 1)))]) (rest := []) (lenOf pd__I_C rfl) rfl (by show 2 * 0 + _ ≤ _; exact Nat.le_of_eq rfl) (hb hby d42_48) (fun _ _ => ⟨rfl, e5q, (by decide : 0 + 0 ≤ _), (by decide : 0 + 0 ≤ _)⟩)) (fun _ _ _ q => q) N5 (fun T7 L7 X7 e7q N7 => ?_)
      show Go _ _ _ _ _ _ _  T7 (mkF m 51 #[.val (.ref a1), .val (.int (Int32.ofNat oo)), .val (.ref a3), .val (.int (1 : Int32))] [(.int (own_chr (M.getD (oo + 1) 0)))])
      refine Go.st (fun tT kT => XS.aloadN X7.here hx rfl (hb hby d42_51) rfl rfl  kT) ?_
      show Go _ _ _ _ _ _ _  T7 (mkF m 52 #[.val (.ref a1), .val (.int (Int32.ofNat oo)), .val (.ref a3), .val (.int (1 : Int32))] [(.ref a3), (.int (own_chr (M.getD (oo + 1) 0)))])
      refine Go.st (fun tT kT => XS.iconst X7.here hx rfl (hb hby d42_52) kT) ?_
      show Go _ _ _ _ _ _ _  T7 (mkF m 53 #[.val (.ref a1), .val (.int (Int32.ofNat oo)), .val (.ref a3), .val (.int (1 : Int32))] [(.int (1 : Int32)), (.ref a3), (.int (own_chr (M.getD (oo + 1) 0)))])
      obtain ⟨cq8, kq8, q8a, q8b, q8c⟩ := isOf hZ e7q E_a3
      refine Go.pure (w := (some (.int (own_chr (S.getD 1 0))))) (rest := [(.int (own_chr (M.getD (oo + 1) 0)))]) (pc' := 56) (X7.virtualBack hx (y := (⟨"java/lang/String", "charAt", "(I)C"⟩ : MethodName)) (z := (⟨"java/lang/String", "charAt", "(I)C"⟩ : MethodName)) hown (mvT hZ (hw _ (List.mem_of_getElem? (i := 222) rfl))) (mvT hZ (hw _ (List.mem_of_getElem? (i := 223) rfl))) (notFace_of_selects (args := #[]) (mvT hZ (hw _ (List.mem_of_getElem? (i := 225) rfl)))) (mvT hZ (hw _ (List.mem_of_getElem? (i := 225) rfl))) (mvT hZ (hw _ (List.mem_of_getElem? (i := 224) rfl))) (by decide) (backOf (W := 1) (rmCA l Z a0 hw [] a3 zc fm t3 k3 S 1 h0 n0 O S_COMPACT hcs S_SIO ref_fm E_a3 C_a3 V_a3 A_t3 (own_posk 1 c37_6 (by omega)) (by omega)) hZ (hw _ (List.mem_of_getElem? (i := 226) rfl)) (hw _ (List.mem_of_getElem? (i := 5) rfl)) (by decide) (by decide)) q8a q8c (g := (mkF m 53 #[.val (.ref a1), .val (.int (Int32.ofNat oo)), .val (.ref a3), .val (.int (1 : Int32))] [(.int (1 : Int32)), (.ref a3), (.int (own_chr (M.getD (oo + 1) 0)))])) rfl (by rw [hml]; rfl) (Steps.refl _) (argsL := [(.int (1 : Int32))]) (rest := [(.int (own_chr (M.getD (oo + 1) 0)))]) (lenOf pd__I_C rfl) rfl (by show 2 * 0 + _ ≤ _; exact Nat.le_of_eq rfl) (hb hby d42_53) (fun _ _ => ⟨rfl, e7q, (by decide : 0 + 0 ≤ _), (by decide : 0 + 0 ≤ _)⟩)) (fun _ _ _ q => q) N7 (fun T8 L8 X8 e8q N8 => ?_)
      show Go _ _ _ _ _ _ _  T8 (mkF m 56 #[.val (.ref a1), .val (.int (Int32.ofNat oo)), .val (.ref a3), .val (.int (1 : Int32))] [(.int (own_chr (S.getD 1 0))), (.int (own_chr (M.getD (oo + 1) 0)))])
      refine Go.st (fun tT kT => XS.icmpNo X8.here hx rfl (hb hby d42_56) rfl (teq (congrArg own_chr (heq 1 (own_posk 1 c37_6 (by omega))) : (own_chr (M.getD (oo + 1) 0)) = (own_chr (S.getD 1 0)))).2 kT) ?_
      show Go _ _ _ _ _ _ _  T8 (mkF m 59 #[.val (.ref a1), .val (.int (Int32.ofNat oo)), .val (.ref a3), .val (.int (1 : Int32))] [])
      refine Go.st (fun tT kT => XS.iconst X8.here hx rfl (hb hby d42_59) kT) ?_
      show Go _ _ _ _ _ _ _  T8 (mkF m 60 #[.val (.ref a1), .val (.int (Int32.ofNat oo)), .val (.ref a3), .val (.int (1 : Int32))] [(.int (1 : Int32))])
      refine Go.st (fun tT kT => XS.goto X8.here hx rfl (pc0 := 60) (pc' := 64) rfl (hb hby d42_60) (by decide) (by decide) kT) ?_
      show Go _ _ _ _ _ _ _  T8 (mkF m 64 #[.val (.ref a1), .val (.int (Int32.ofNat oo)), .val (.ref a3), .val (.int (1 : Int32))] [(.int (1 : Int32))])
      refine Go.st (fun tT kT => XS.istoreN X8.here hx rfl (hb hby d42_64) rfl (l' := #[.val (.ref a1), .val (.int (Int32.ofNat oo)), .val (.ref a3), .val (.int (1 : Int32))]) rfl kT) ?_
      show Go _ _ _ _ _ _ _  T8 (mkF m 65 #[.val (.ref a1), .val (.int (Int32.ofNat oo)), .val (.ref a3), .val (.int (1 : Int32))] [])
      refine Go.st (fun tT kT => XS.iloadN X8.here hx rfl (hb hby d42_65) rfl  kT) ?_
      show Go _ _ _ _ _ _ _  T8 (mkF m 66 #[.val (.ref a1), .val (.int (Int32.ofNat oo)), .val (.ref a3), .val (.int (1 : Int32))] [(.int (1 : Int32))])
      refine Go.retN X8 hlk hx (t := .boolean) (z' := (1 : Int32)) Bd.returns (by simp) (hb hby d42_66) (by decide) (by decide) rfl ?_
      show Q_rmPt Z _ _ _ _ _ _ _ _ _ _ _ h0 n0 _ T8.heap _
      rw [e8q]
      exact ⟨rfl, N8, rfl⟩
    · refine Go.st (fun tT kT => XS.icmpYes X5.here hx rfl (pc0 := 37) (pc' := 65) rfl (hb hby d42_37) rfl (flt c37_6).2.2.2 (by decide) (by decide) kT) ?_
      show Go _ _ _ _ _ _ _  T5 (mkF m 65 #[.val (.ref a1), .val (.int (Int32.ofNat oo)), .val (.ref a3), .val (.int (1 : Int32))] [])
      refine Go.st (fun tT kT => XS.iloadN X5.here hx rfl (hb hby d42_65) rfl  kT) ?_
      show Go _ _ _ _ _ _ _  T5 (mkF m 66 #[.val (.ref a1), .val (.int (Int32.ofNat oo)), .val (.ref a3), .val (.int (1 : Int32))] [(.int (1 : Int32))])
      refine Go.retN X5 hlk hx (t := .boolean) (z' := (1 : Int32)) Bd.returns (by simp) (hb hby d42_66) (by decide) (by decide) rfl ?_
      show Q_rmPt Z _ _ _ _ _ _ _ _ _ _ _ h0 n0 _ T5.heap _
      rw [e5q]
      exact ⟨rfl, N5, rfl⟩
  · refine Go.st (fun tT kT => XS.ifYes X1.here hx rfl (pc0 := 6) (pc' := 32) rfl (hb hby d42_6) rfl ((if0 _ _).trans (flt c6_2).2.2.2) (by decide) (by decide) kT) ?_
    show Go _ _ _ _ _ _ _  T1 (mkF m 32 #[.val (.ref a1), .val (.int (Int32.ofNat oo)), .val (.ref a3), .val (.int (1 : Int32))] [])
    refine Go.st (fun tT kT => XS.aloadN X1.here hx rfl (hb hby d42_32) rfl rfl  kT) ?_
    show Go _ _ _ _ _ _ _  T1 (mkF m 33 #[.val (.ref a1), .val (.int (Int32.ofNat oo)), .val (.ref a3), .val (.int (1 : Int32))] [(.ref a3)])
    obtain ⟨cq9, kq9, q9a, q9b, q9c⟩ := isOf hZ e1q E_a3
    refine Go.pure (w := (some (.int (Int32.ofNat S.length)))) (rest := []) (pc' := 36) (X1.virtualBack hx (y := (⟨"java/lang/String", "length", "()I"⟩ : MethodName)) (z := (⟨"java/lang/String", "length", "()I"⟩ : MethodName)) hown (mvT hZ (hw _ (List.mem_of_getElem? (i := 221) rfl))) (mvT hZ (hw _ (List.mem_of_getElem? (i := 48) rfl))) (notFace_of_selects (args := #[]) (mvT hZ (hw _ (List.mem_of_getElem? (i := 50) rfl)))) (mvT hZ (hw _ (List.mem_of_getElem? (i := 50) rfl))) (mvT hZ (hw _ (List.mem_of_getElem? (i := 49) rfl))) (by decide) (backOf (W := 0) (rmLen l Z a0 hw [] a3 zc t3 k3 S.length (S.map Value.int) h0 n0 O S_COMPACT hcs E_a3 C_a3 V_a3 A_t3 (List.length_map _) (by omega)) hZ (hw _ (List.mem_of_getElem? (i := 51) rfl)) (hw _ (List.mem_of_getElem? (i := 5) rfl)) (by decide) (by decide)) q9a q9c (g := (mkF m 33 #[.val (.ref a1), .val (.int (Int32.ofNat oo)), .val (.ref a3), .val (.int (1 : Int32))] [(.ref a3)])) rfl (by rw [hml]; rfl) (Steps.refl _) (argsL := []) (rest := []) (lenOf pd___I rfl) rfl (by show 2 * 0 + _ ≤ _; exact Nat.le_of_eq rfl) (hb hby d42_33) (fun _ _ => ⟨rfl, e1q, (by decide : 0 + 0 ≤ _), (by decide : 0 + 0 ≤ _)⟩)) (fun _ _ _ q => q) N1 (fun T9 L9 X9 e9q N9 => ?_)
    show Go _ _ _ _ _ _ _  T9 (mkF m 36 #[.val (.ref a1), .val (.int (Int32.ofNat oo)), .val (.ref a3), .val (.int (1 : Int32))] [(.int (Int32.ofNat S.length))])
    refine Go.st (fun tT kT => XS.iconst X9.here hx rfl (hb hby d42_36) kT) ?_
    show Go _ _ _ _ _ _ _  T9 (mkF m 37 #[.val (.ref a1), .val (.int (Int32.ofNat oo)), .val (.ref a3), .val (.int (1 : Int32))] [(.int (1 : Int32)), (.int (Int32.ofNat S.length))])
    by_cases c37_10 : (1 : Int32) < (Int32.ofNat S.length)
    · refine Go.st (fun tT kT => XS.icmpNo X9.here hx rfl (hb hby d42_37) rfl (tlt c37_10).2.2.2 kT) ?_
      show Go _ _ _ _ _ _ _  T9 (mkF m 40 #[.val (.ref a1), .val (.int (Int32.ofNat oo)), .val (.ref a3), .val (.int (1 : Int32))] [])
      refine Go.st (fun tT kT => XS.iloadN X9.here hx rfl (hb hby d42_40) rfl  kT) ?_
      show Go _ _ _ _ _ _ _  T9 (mkF m 41 #[.val (.ref a1), .val (.int (Int32.ofNat oo)), .val (.ref a3), .val (.int (1 : Int32))] [(.int (1 : Int32))])
      refine Go.st (fun tT kT => XS.ifNo X9.here hx rfl (hb hby d42_41) rfl ((if0 _ _).trans (feq (by decide : ¬ ((1 : Int32) = (0 : Int32)))).1) kT) ?_
      show Go _ _ _ _ _ _ _  T9 (mkF m 44 #[.val (.ref a1), .val (.int (Int32.ofNat oo)), .val (.ref a3), .val (.int (1 : Int32))] [])
      refine Go.st (fun tT kT => XS.aloadN X9.here hx rfl (hb hby d42_44) rfl rfl  kT) ?_
      show Go _ _ _ _ _ _ _  T9 (mkF m 45 #[.val (.ref a1), .val (.int (Int32.ofNat oo)), .val (.ref a3), .val (.int (1 : Int32))] [(.ref a1)])
      refine Go.st (fun tT kT => XS.iloadN X9.here hx rfl (hb hby d42_45) rfl  kT) ?_
      show Go _ _ _ _ _ _ _  T9 (mkF m 46 #[.val (.ref a1), .val (.int (Int32.ofNat oo)), .val (.ref a3), .val (.int (1 : Int32))] [(.int (Int32.ofNat oo)), (.ref a1)])
      refine Go.st (fun tT kT => XS.iconst X9.here hx rfl (hb hby d42_46) kT) ?_
      show Go _ _ _ _ _ _ _  T9 (mkF m 47 #[.val (.ref a1), .val (.int (Int32.ofNat oo)), .val (.ref a3), .val (.int (1 : Int32))] [(.int (1 : Int32)), (.int (Int32.ofNat oo)), (.ref a1)])
      refine Go.st (fun tT kT => XS.iadd X9.here hx rfl (hb hby d42_47) rfl kT) ?_
      show Go _ _ _ _ _ _ _  T9 (mkF m 48 #[.val (.ref a1), .val (.int (Int32.ofNat oo)), .val (.ref a3), .val (.int (1 : Int32))] [(.int ((Int32.ofNat oo) + (1 : Int32))), (.ref a1)])
      rw [show ((Int32.ofNat oo) + (1 : Int32)) = Int32.ofNat (oo + 1) from (Int32.ofNat_add oo 1).symm]
      show Go _ _ _ _ _ _ _  T9 (mkF m 48 #[.val (.ref a1), .val (.int (Int32.ofNat oo)), .val (.ref a3), .val (.int (1 : Int32))] [(.int (Int32.ofNat (oo + 1))), (.ref a1)])
      obtain ⟨cq11, kq11, q11a, q11b, q11c⟩ := isOf hZ e9q E_a1
      refine Go.pure (w := (some (.int (own_chr (M.getD (oo + 1) 0))))) (rest := []) (pc' := 51) (X9.virtualBack hx (y := (⟨"java/lang/String", "charAt", "(I)C"⟩ : MethodName)) (z := (⟨"java/lang/String", "charAt", "(I)C"⟩ : MethodName)) hown (mvT hZ (hw _ (List.mem_of_getElem? (i := 222) rfl))) (mvT hZ (hw _ (List.mem_of_getElem? (i := 223) rfl))) (notFace_of_selects (args := #[]) (mvT hZ (hw _ (List.mem_of_getElem? (i := 225) rfl)))) (mvT hZ (hw _ (List.mem_of_getElem? (i := 225) rfl))) (mvT hZ (hw _ (List.mem_of_getElem? (i := 224) rfl))) (by decide) (backOf (W := 0) (rmCA l Z a0 hw [] a1 zc fm t1 k1 M (oo + 1) h0 n0 O S_COMPACT hcs S_SIO ref_fm E_a1 C_a1 V_a1 A_t1 (by have := own_posk 1 c37_10 (by omega); omega) (by omega)) hZ (hw _ (List.mem_of_getElem? (i := 226) rfl)) (hw _ (List.mem_of_getElem? (i := 5) rfl)) (by decide) (by decide)) q11a q11c (g := (mkF m 48 #[.val (.ref a1), .val (.int (Int32.ofNat oo)), .val (.ref a3), .val (.int (1 : Int32))] [(.int (Int32.ofNat (oo + 1))), (.ref a1)])) rfl (by rw [hml]; rfl) (Steps.refl _) (argsL := [(.int (Int32.ofNat (oo + 1)))]) (rest := []) (lenOf pd__I_C rfl) rfl (by show 2 * 0 + _ ≤ _; exact Nat.le_of_eq rfl) (hb hby d42_48) (fun _ _ => ⟨rfl, e9q, (by decide : 0 + 0 ≤ _), (by decide : 0 + 0 ≤ _)⟩)) (fun _ _ _ q => q) N9 (fun T11 L11 X11 e11q N11 => ?_)
      show Go _ _ _ _ _ _ _  T11 (mkF m 51 #[.val (.ref a1), .val (.int (Int32.ofNat oo)), .val (.ref a3), .val (.int (1 : Int32))] [(.int (own_chr (M.getD (oo + 1) 0)))])
      refine Go.st (fun tT kT => XS.aloadN X11.here hx rfl (hb hby d42_51) rfl rfl  kT) ?_
      show Go _ _ _ _ _ _ _  T11 (mkF m 52 #[.val (.ref a1), .val (.int (Int32.ofNat oo)), .val (.ref a3), .val (.int (1 : Int32))] [(.ref a3), (.int (own_chr (M.getD (oo + 1) 0)))])
      refine Go.st (fun tT kT => XS.iconst X11.here hx rfl (hb hby d42_52) kT) ?_
      show Go _ _ _ _ _ _ _  T11 (mkF m 53 #[.val (.ref a1), .val (.int (Int32.ofNat oo)), .val (.ref a3), .val (.int (1 : Int32))] [(.int (1 : Int32)), (.ref a3), (.int (own_chr (M.getD (oo + 1) 0)))])
      obtain ⟨cq12, kq12, q12a, q12b, q12c⟩ := isOf hZ e11q E_a3
      refine Go.pure (w := (some (.int (own_chr (S.getD 1 0))))) (rest := [(.int (own_chr (M.getD (oo + 1) 0)))]) (pc' := 56) (X11.virtualBack hx (y := (⟨"java/lang/String", "charAt", "(I)C"⟩ : MethodName)) (z := (⟨"java/lang/String", "charAt", "(I)C"⟩ : MethodName)) hown (mvT hZ (hw _ (List.mem_of_getElem? (i := 222) rfl))) (mvT hZ (hw _ (List.mem_of_getElem? (i := 223) rfl))) (notFace_of_selects (args := #[]) (mvT hZ (hw _ (List.mem_of_getElem? (i := 225) rfl)))) (mvT hZ (hw _ (List.mem_of_getElem? (i := 225) rfl))) (mvT hZ (hw _ (List.mem_of_getElem? (i := 224) rfl))) (by decide) (backOf (W := 1) (rmCA l Z a0 hw [] a3 zc fm t3 k3 S 1 h0 n0 O S_COMPACT hcs S_SIO ref_fm E_a3 C_a3 V_a3 A_t3 (own_posk 1 c37_10 (by omega)) (by omega)) hZ (hw _ (List.mem_of_getElem? (i := 226) rfl)) (hw _ (List.mem_of_getElem? (i := 5) rfl)) (by decide) (by decide)) q12a q12c (g := (mkF m 53 #[.val (.ref a1), .val (.int (Int32.ofNat oo)), .val (.ref a3), .val (.int (1 : Int32))] [(.int (1 : Int32)), (.ref a3), (.int (own_chr (M.getD (oo + 1) 0)))])) rfl (by rw [hml]; rfl) (Steps.refl _) (argsL := [(.int (1 : Int32))]) (rest := [(.int (own_chr (M.getD (oo + 1) 0)))]) (lenOf pd__I_C rfl) rfl (by show 2 * 0 + _ ≤ _; exact Nat.le_of_eq rfl) (hb hby d42_53) (fun _ _ => ⟨rfl, e11q, (by decide : 0 + 0 ≤ _), (by decide : 0 + 0 ≤ _)⟩)) (fun _ _ _ q => q) N11 (fun T12 L12 X12 e12q N12 => ?_)
      show Go _ _ _ _ _ _ _  T12 (mkF m 56 #[.val (.ref a1), .val (.int (Int32.ofNat oo)), .val (.ref a3), .val (.int (1 : Int32))] [(.int (own_chr (S.getD 1 0))), (.int (own_chr (M.getD (oo + 1) 0)))])
      refine Go.st (fun tT kT => XS.icmpNo X12.here hx rfl (hb hby d42_56) rfl (teq (congrArg own_chr (heq 1 (own_posk 1 c37_10 (by omega))) : (own_chr (M.getD (oo + 1) 0)) = (own_chr (S.getD 1 0)))).2 kT) ?_
      show Go _ _ _ _ _ _ _  T12 (mkF m 59 #[.val (.ref a1), .val (.int (Int32.ofNat oo)), .val (.ref a3), .val (.int (1 : Int32))] [])
      refine Go.st (fun tT kT => XS.iconst X12.here hx rfl (hb hby d42_59) kT) ?_
      show Go _ _ _ _ _ _ _  T12 (mkF m 60 #[.val (.ref a1), .val (.int (Int32.ofNat oo)), .val (.ref a3), .val (.int (1 : Int32))] [(.int (1 : Int32))])
      refine Go.st (fun tT kT => XS.goto X12.here hx rfl (pc0 := 60) (pc' := 64) rfl (hb hby d42_60) (by decide) (by decide) kT) ?_
      show Go _ _ _ _ _ _ _  T12 (mkF m 64 #[.val (.ref a1), .val (.int (Int32.ofNat oo)), .val (.ref a3), .val (.int (1 : Int32))] [(.int (1 : Int32))])
      refine Go.st (fun tT kT => XS.istoreN X12.here hx rfl (hb hby d42_64) rfl (l' := #[.val (.ref a1), .val (.int (Int32.ofNat oo)), .val (.ref a3), .val (.int (1 : Int32))]) rfl kT) ?_
      show Go _ _ _ _ _ _ _  T12 (mkF m 65 #[.val (.ref a1), .val (.int (Int32.ofNat oo)), .val (.ref a3), .val (.int (1 : Int32))] [])
      refine Go.st (fun tT kT => XS.iloadN X12.here hx rfl (hb hby d42_65) rfl  kT) ?_
      show Go _ _ _ _ _ _ _  T12 (mkF m 66 #[.val (.ref a1), .val (.int (Int32.ofNat oo)), .val (.ref a3), .val (.int (1 : Int32))] [(.int (1 : Int32))])
      refine Go.retN X12 hlk hx (t := .boolean) (z' := (1 : Int32)) Bd.returns (by simp) (hb hby d42_66) (by decide) (by decide) rfl ?_
      show Q_rmPt Z _ _ _ _ _ _ _ _ _ _ _ h0 n0 _ T12.heap _
      rw [e12q]
      exact ⟨rfl, N12, rfl⟩
    · refine Go.st (fun tT kT => XS.icmpYes X9.here hx rfl (pc0 := 37) (pc' := 65) rfl (hb hby d42_37) rfl (flt c37_10).2.2.2 (by decide) (by decide) kT) ?_
      show Go _ _ _ _ _ _ _  T9 (mkF m 65 #[.val (.ref a1), .val (.int (Int32.ofNat oo)), .val (.ref a3), .val (.int (1 : Int32))] [])
      refine Go.st (fun tT kT => XS.iloadN X9.here hx rfl (hb hby d42_65) rfl  kT) ?_
      show Go _ _ _ _ _ _ _  T9 (mkF m 66 #[.val (.ref a1), .val (.int (Int32.ofNat oo)), .val (.ref a3), .val (.int (1 : Int32))] [(.int (1 : Int32))])
      refine Go.retN X9 hlk hx (t := .boolean) (z' := (1 : Int32)) Bd.returns (by simp) (hb hby d42_66) (by decide) (by decide) rfl ?_
      show Q_rmPt Z _ _ _ _ _ _ _ _ _ _ _ h0 n0 _ T9.heap _
      rw [e9q]
      exact ⟨rfl, N9, rfl⟩
theorem rmPtf (p2 : Int32) (l : Launch) (Z : State) (a0 : Array Value) (hw : ∀ d ∈ tables_1, d.before a0 Z = true) (ws : List Jvm.Cond) (a1 : Addr) (a3 : Addr) (zc : Int32) (fm : Value) (t1 : Addr) (k1 : ClassId) (M : List Int32) (t3 : Addr) (k3 : ClassId) (S : List Int32) (oo : Nat) (h0 : Heap) (n0 : Nat) (O : Old Z n0 h0) (S_COMPACT : Sta Z Z.heap "java/lang/String" "COMPACT_STRINGS" "Z" (.int zc)) (hcs : ¬ zc = 0) (S_SIO : Sta Z Z.heap "jdk/internal/util/Preconditions" "SIOOBE_FORMATTER" "Ljava/util/function/BiFunction;" fm) (ref_fm : fm.isRef = true) (E_a1 : Exa Z h0 a1 "java/lang/String") (C_a1 : Fld Z h0 a1 "java/lang/String" "coder" "B" (.int 0)) (V_a1 : Fld Z h0 a1 "java/lang/String" "value" "[B" (.ref t1)) (A_t1 : Arv Z h0 t1 k1 .byte (Int32.ofNat M.length) (M.map Value.int) (.int 0)) (E_a3 : Exa Z h0 a3 "java/lang/String") (C_a3 : Fld Z h0 a3 "java/lang/String" "coder" "B" (.int 0)) (V_a3 : Fld Z h0 a3 "java/lang/String" "value" "[B" (.ref t3)) (A_t3 : Arv Z h0 t3 k3 .byte (Int32.ofNat S.length) (S.map Value.int) (.int 0)) (hS2 : S.length ≤ 2) (hM : oo + S.length ≤ M.length) (hMb : M.length < 100000) (heq : ∀ i, i < S.length → M.getD (oo + i) 0 = S.getD i 0) (hp_p2 : p2 = (Int32.ofNat oo)) :
    MetFree l (⟨"com/example/keyset/keyset/query/DeclarationExceptionForFieldPinLaw", "part", "(Ljava/lang/String;ILjava/lang/String;)Z"⟩ : MethodName) (head1 (Jvm.Cond.code (⟨"com/example/keyset/keyset/query/DeclarationExceptionForFieldPinLaw", "part", "(Ljava/lang/String;ILjava/lang/String;)Z"⟩ : MethodName) method_3_code 4 (some .boolean) :: ws) ({ frames := 4, cells := 0, slots := 0, locals := 60 } : Room)) (fun a U => a = #[(.ref a1), (.int p2), (.ref a3)] ∧ Z.Warmed39 U.vm ∧ U.heap = h0) (fun _ _ _ _ _ => True) (fun _ U o U' => ∃ v L, o = .returned v ∧ Q_rmPt Z a1 a3 zc fm t1 k1 M t3 k3 S oo h0 n0 v U'.heap L ∧ FrameEnd U o U' L ({ frames := 4, cells := 0, slots := 0, locals := 60 } : Room).cells ({ frames := 4, cells := 0, slots := 0, locals := 60 } : Room).slots) := by
  subst hp_p2
  exact rmPt l Z a0 hw ws a1 a3 zc fm t1 k1 M t3 k3 S oo h0 n0 O S_COMPACT hcs S_SIO ref_fm E_a1 C_a1 V_a1 A_t1 E_a3 C_a3 V_a3 A_t3 hS2 hM hMb heq
def Q_rm0 (Z : State) (p1 : Int32) (p2 : Int32) (p3 : Int32) (zc : Int32) (fm : Value) (h0 : Heap) (n0 : Nat) (v : Option Value) (h : Heap) (L : List Loc) : Prop := v = some (.int (1 : Int32)) ∧ Fr n0 L
set_option maxRecDepth 65536 in
set_option maxHeartbeats 40000000 in
theorem rm0 (l : Launch) (Z : State) (a0 : Array Value) (hw : ∀ d ∈ tables_1, d.before a0 Z = true) (ws : List Jvm.Cond) (p1 : Int32) (p2 : Int32) (p3 : Int32) (zc : Int32) (fm : Value) (h0 : Heap) (n0 : Nat) (O : Old Z n0 h0) (hEL : EW Z a0 EL) (wS : ∀ a ∈ Bundle.stringAtoms, a.before a0 Z = true) (S_COMPACT : Sta Z Z.heap "java/lang/String" "COMPACT_STRINGS" "Z" (.int zc)) (hcs : ¬ zc = 0) (S_SIO : Sta Z Z.heap "jdk/internal/util/Preconditions" "SIOOBE_FORMATTER" "Ljava/util/function/BiFunction;" fm) (ref_fm : fm.isRef = true) (hl : l.stackTraces = true) (hr : ∀ d ∈ twoRefs, d.before a0 Z = true) :
    MetFree l x (head1 (Jvm.Cond.code x code maxLocals ret :: ws) room_1) (fun a U => a = #[(.int p1), (.int p2), (.int p3)] ∧ Z.Warmed39 U.vm ∧ U.heap = h0 ∧ CHv Z EL U.vm h0 ∧ ∀ x ∈ ([] : List Addr), Safe Z EL U.vm h0 x) (fun _ _ bl s _ => s.vm.MethodsKnown ∧ s.vm.FramesKnown bl) (fun _ U o U' => ∃ v L, o = .returned v ∧ Q_rm0 Z p1 p2 p3 zc fm h0 n0 v U'.heap L ∧ CHr Z EL U.vm U.heap U'.vm U'.heap ∧ ReturnedEndW U o U' L room_1.cells room_1.slots) := by
  refine MetFree.of_bodySF (plainFor_of_name pn_0) hisR ?_
  intro p e s m args below meth c s₁ Bd hml0 hP hK
  obtain ⟨rfl, hZ, hh, HH, hSF⟩ := hP
  have hx := Bd.exec
  have hby := Bd.bytes
  have hml : c.maxLocals = 14 := hml0
  have hown : s.vm.findClass "com/example/keyset/keyset/query/DeclarationExceptionForFieldPinLaw" = some m.cls := findClass_of_methodNamed Bd.named
  have hnm := (name_of_methodNamed Bd.named Bd.method).1
  have hlk : meth.locks = false := BodyLoose.notSynchronized Bd
  have X0 : Stand p l e room_1 (s.setVm s.vm) m #[(.int p1), (.int p2), (.int p3)] below meth c s₁ [] 0 0 := Stand.of_body Bd
  have e0 : s₁.heap = h0 := by rw [← hh, Bd.state]; rfl
  have N0 := Fr.nil n0
  have KK : Keep h0 h0 [] := Keep.refl h0 _
  have hS : s.Since s.vm h0.size := own_since s _
  have hk : h0.size ≤ h0.size := Nat.le_refl _
  have RR : CHr Z EL s.vm h0 s.vm h0 := CHr.refl HH
  suffices hgo : GoH p e below s room_1.cells room_1.slots Z h0 EL (Q_rm0 Z p1 p2 p3 zc fm h0 n0) s₁ (entryFrame m #[(.int p1), (.int p2), (.int p3)] maxLocals) by
    obtain ⟨s₂, o, q1, q2, q3, v, L, q4, q5, q6, q7⟩ := hgo; exact ⟨s₂, o, q1, q2, q3, v, L, q4, q5, hh ▸ q6, q7⟩
  refine GoH.eq (ef_rm0 m p1 p2 p3) ?_
  show GoH _ _ _ _ _ _ _ _ _ _  s₁ (mkF m 0 #[.val (.int p1), .val (.int p2), .val (.int p3), .unset, .unset, .unset, .unset, .unset, .unset, .unset, .unset, .unset, .unset, .unset] [])
  refine GoH.st (fun tT kT => XS.iloadN X0.here hx rfl (hb hby at_0) rfl  kT) ?_
  show GoH _ _ _ _ _ _ _ _ _ _  s₁ (mkF m 1 #[.val (.int p1), .val (.int p2), .val (.int p3), .unset, .unset, .unset, .unset, .unset, .unset, .unset, .unset, .unset, .unset, .unset] [(.int p1)])
  obtain ⟨_, _, ⟨T1, L1, k1, n1⟩, -, X1, hSn1, hgn1, ⟨Lc1, hQ1, l1, y1, z1, CR1⟩, st1⟩ := callSS X0 hx (y := (⟨"com/example/keyset/keyset/query/DeclarationExceptionForFieldPinLaw", "mk", "(I)Ljava/lang/String;"⟩ : MethodName)) hown (mvT hZ (hw _ (List.mem_of_getElem? (i := 0) rfl))) (mvT hZ (hw _ (List.mem_of_getElem? (i := 1) rfl))) (mvT hZ (hw _ (List.mem_of_getElem? (i := 2) rfl))) (mvT hZ (hw _ (List.mem_of_getElem? (i := 3) rfl))) (by decide) (own_backSH (sf := []) (W := 0) (rmMk l Z a0 hw [] p1 zc h0 n0 O hEL wS S_COMPACT hcs) hZ (hw _ (List.mem_of_getElem? (i := 3) rfl)) (hw _ (List.mem_of_getElem? (i := 2) rfl)) (by decide) (by decide) hEL HH all0) (g := (mkF m 1 #[.val (.int p1), .val (.int p2), .val (.int p3), .unset, .unset, .unset, .unset, .unset, .unset, .unset, .unset, .unset, .unset, .unset] [(.int p1)])) rfl (by rw [hml]; rfl) (argsL := [(.int p1)]) (rest := []) (lenOf pd__I_Ljava_lang_String_ rfl) rfl (by show 2 * 0 + _ ≤ _; exact Nat.le_of_eq rfl) (hb hby at_1) (fun _ _ => ⟨rfl, e0, (by decide : 0 + 3 ≤ _), (by decide : 0 + 8 ≤ _)⟩)
  dsimp only [Pt.U, Pt.locs, Pt.cells, Pt.slots] at X1 l1 y1 z1 st1 hQ1 hSn1 hgn1 CR1
  subst l1 y1 z1
  have X1 : Stand p l e _ _ m _ below meth c T1 _ 3 8 := X1
  obtain ⟨x1, t1, kt1, cs1, rfl, N1q, E1q, E_x1, C_x1, V_x1, A_t1, B_x1⟩ := hQ1
  have X1 : Stand p l e _ (s.setVm T1.vm) m _ below meth c T1 _ _ _ := X1
  have N1 := Fr.app N0 N1q
  refine GoH.tr st1 ?_
  have hS1 := Jvm.RoadKit.foldS hS (by rw [e0]; exact hk) hSn1 hgn1
  have hZ1 := State.Warmed39.trans (t := s.setVm s.vm) hZ hSn1.1
  have hk1 := Nat.le_refl T1.heap.size
  have hown1 : T1.vm.findClass "com/example/keyset/keyset/query/DeclarationExceptionForFieldPinLaw" = some m.cls := by rw [hSn1.1.alike.findClass]; exact hown
  have E1 := E1q
  have O := O.ext E1
  have KK := KK.ext E1
  have RR := RR.trans CR1
  have HH := CR1.1
  have hS := hS1
  have hk := hk1
  have hZ := hZ1
  have hown := hown1
  show GoH _ _ _ _ _ _ _ _ _ _  T1 (mkF m 4 #[.val (.int p1), .val (.int p2), .val (.int p3), .unset, .unset, .unset, .unset, .unset, .unset, .unset, .unset, .unset, .unset, .unset] [(.ref x1)])
  refine GoH.st (fun tT kT => XS.astoreN X1.here hx rfl (hb hby at_4) rfl rfl (l' := #[.val (.int p1), .val (.int p2), .val (.int p3), .val (.ref x1), .unset, .unset, .unset, .unset, .unset, .unset, .unset, .unset, .unset, .unset]) rfl kT) ?_
  show GoH _ _ _ _ _ _ _ _ _ _  T1 (mkF m 5 #[.val (.int p1), .val (.int p2), .val (.int p3), .val (.ref x1), .unset, .unset, .unset, .unset, .unset, .unset, .unset, .unset, .unset, .unset] [])
  refine GoH.st (fun tT kT => XS.iloadN X1.here hx rfl (hb hby at_5) rfl  kT) ?_
  show GoH _ _ _ _ _ _ _ _ _ _  T1 (mkF m 6 #[.val (.int p1), .val (.int p2), .val (.int p3), .val (.ref x1), .unset, .unset, .unset, .unset, .unset, .unset, .unset, .unset, .unset, .unset] [(.int p2)])
  obtain ⟨_, _, ⟨T2, L2, k2, n2⟩, -, X2, hSn2, hgn2, ⟨Lc2, hQ2, l2, y2, z2, CR2⟩, st2⟩ := callSS X1 hx (y := (⟨"com/example/keyset/keyset/query/DeclarationExceptionForFieldPinLaw", "mk", "(I)Ljava/lang/String;"⟩ : MethodName)) hown (mvT hZ (hw _ (List.mem_of_getElem? (i := 0) rfl))) (mvT hZ (hw _ (List.mem_of_getElem? (i := 1) rfl))) (mvT hZ (hw _ (List.mem_of_getElem? (i := 2) rfl))) (mvT hZ (hw _ (List.mem_of_getElem? (i := 3) rfl))) (by decide) (own_backSH (sf := []) (W := 0) (rmMk l Z a0 hw [] p2 zc T1.heap n0 O hEL wS S_COMPACT hcs) hZ (hw _ (List.mem_of_getElem? (i := 3) rfl)) (hw _ (List.mem_of_getElem? (i := 2) rfl)) (by decide) (by decide) hEL HH all0) (g := (mkF m 6 #[.val (.int p1), .val (.int p2), .val (.int p3), .val (.ref x1), .unset, .unset, .unset, .unset, .unset, .unset, .unset, .unset, .unset, .unset] [(.int p2)])) rfl (by rw [hml]; rfl) (argsL := [(.int p2)]) (rest := []) (lenOf pd__I_Ljava_lang_String_ rfl) rfl (by show 2 * 0 + _ ≤ _; exact Nat.le_of_eq rfl) (hb hby at_6) (fun _ _ => ⟨rfl, rfl, (by decide : 3 + 3 ≤ _), (by decide : 8 + 8 ≤ _)⟩)
  dsimp only [Pt.U, Pt.locs, Pt.cells, Pt.slots] at X2 l2 y2 z2 st2 hQ2 hSn2 hgn2 CR2
  subst l2 y2 z2
  have X2 : Stand p l e _ _ m _ below meth c T2 _ 6 16 := X2
  obtain ⟨x2, t2, kt2, cs2, rfl, N2q, E2q, E_x2, C_x2, V_x2, A_t2, B_x2⟩ := hQ2
  have X2 : Stand p l e _ (s.setVm T2.vm) m _ below meth c T2 _ _ _ := X2
  have N2 := Fr.app N1 N2q
  refine GoH.tr st2 ?_
  have hS2 := Jvm.RoadKit.foldS hS hk hSn2 hgn2
  have hZ2 := State.Warmed39.trans (t := s.setVm T1.vm) hZ hSn2.1
  have hk2 := Nat.le_refl T2.heap.size
  have hown2 : T2.vm.findClass "com/example/keyset/keyset/query/DeclarationExceptionForFieldPinLaw" = some m.cls := by rw [hSn2.1.alike.findClass]; exact hown
  have E2 := E2q
  have E_x1 := E_x1.ext E2
  have A_t1 := A_t1.ext E2
  have C_x1 := C_x1.ext E2
  have V_x1 := V_x1.ext E2
  have O := O.ext E2
  have KK := KK.ext E2
  have RR := RR.trans CR2
  have HH := CR2.1
  have hS := hS2
  have hk := hk2
  have hZ := hZ2
  have hown := hown2
  show GoH _ _ _ _ _ _ _ _ _ _  T2 (mkF m 9 #[.val (.int p1), .val (.int p2), .val (.int p3), .val (.ref x1), .unset, .unset, .unset, .unset, .unset, .unset, .unset, .unset, .unset, .unset] [(.ref x2)])
  refine GoH.st (fun tT kT => XS.astore X2.here hx rfl (hb hby at_9) rfl rfl (l' := #[.val (.int p1), .val (.int p2), .val (.int p3), .val (.ref x1), .val (.ref x2), .unset, .unset, .unset, .unset, .unset, .unset, .unset, .unset, .unset]) rfl kT) ?_
  show GoH _ _ _ _ _ _ _ _ _ _  T2 (mkF m 11 #[.val (.int p1), .val (.int p2), .val (.int p3), .val (.ref x1), .val (.ref x2), .unset, .unset, .unset, .unset, .unset, .unset, .unset, .unset, .unset] [])
  refine GoH.st (fun tT kT => XS.iloadN X2.here hx rfl (hb hby at_11) rfl  kT) ?_
  show GoH _ _ _ _ _ _ _ _ _ _  T2 (mkF m 12 #[.val (.int p1), .val (.int p2), .val (.int p3), .val (.ref x1), .val (.ref x2), .unset, .unset, .unset, .unset, .unset, .unset, .unset, .unset, .unset] [(.int p3)])
  obtain ⟨_, _, ⟨T3, L3, k3, n3⟩, -, X3, hSn3, hgn3, ⟨Lc3, hQ3, l3, y3, z3, CR3⟩, st3⟩ := callSS X2 hx (y := (⟨"com/example/keyset/keyset/query/DeclarationExceptionForFieldPinLaw", "mk", "(I)Ljava/lang/String;"⟩ : MethodName)) hown (mvT hZ (hw _ (List.mem_of_getElem? (i := 0) rfl))) (mvT hZ (hw _ (List.mem_of_getElem? (i := 1) rfl))) (mvT hZ (hw _ (List.mem_of_getElem? (i := 2) rfl))) (mvT hZ (hw _ (List.mem_of_getElem? (i := 3) rfl))) (by decide) (own_backSH (sf := []) (W := 0) (rmMk l Z a0 hw [] p3 zc T2.heap n0 O hEL wS S_COMPACT hcs) hZ (hw _ (List.mem_of_getElem? (i := 3) rfl)) (hw _ (List.mem_of_getElem? (i := 2) rfl)) (by decide) (by decide) hEL HH all0) (g := (mkF m 12 #[.val (.int p1), .val (.int p2), .val (.int p3), .val (.ref x1), .val (.ref x2), .unset, .unset, .unset, .unset, .unset, .unset, .unset, .unset, .unset] [(.int p3)])) rfl (by rw [hml]; rfl) (argsL := [(.int p3)]) (rest := []) (lenOf pd__I_Ljava_lang_String_ rfl) rfl (by show 2 * 0 + _ ≤ _; exact Nat.le_of_eq rfl) (hb hby at_12) (fun _ _ => ⟨rfl, rfl, (by decide : 6 + 3 ≤ _), (by decide : 16 + 8 ≤ _)⟩)
  dsimp only [Pt.U, Pt.locs, Pt.cells, Pt.slots] at X3 l3 y3 z3 st3 hQ3 hSn3 hgn3 CR3
  subst l3 y3 z3
  have X3 : Stand p l e _ _ m _ below meth c T3 _ 9 24 := X3
  obtain ⟨x3, t3, kt3, cs3, rfl, N3q, E3q, E_x3, C_x3, V_x3, A_t3, B_x3⟩ := hQ3
  have X3 : Stand p l e _ (s.setVm T3.vm) m _ below meth c T3 _ _ _ := X3
  have N3 := Fr.app N2 N3q
  refine GoH.tr st3 ?_
  have hS3 := Jvm.RoadKit.foldS hS hk hSn3 hgn3
  have hZ3 := State.Warmed39.trans (t := s.setVm T2.vm) hZ hSn3.1
  have hk3 := Nat.le_refl T3.heap.size
  have hown3 : T3.vm.findClass "com/example/keyset/keyset/query/DeclarationExceptionForFieldPinLaw" = some m.cls := by rw [hSn3.1.alike.findClass]; exact hown
  have E3 := E3q
  have E_x1 := E_x1.ext E3
  have A_t1 := A_t1.ext E3
  have C_x1 := C_x1.ext E3
  have V_x1 := V_x1.ext E3
  have E_x2 := E_x2.ext E3
  have A_t2 := A_t2.ext E3
  have C_x2 := C_x2.ext E3
  have V_x2 := V_x2.ext E3
  have O := O.ext E3
  have KK := KK.ext E3
  have RR := RR.trans CR3
  have HH := CR3.1
  have hS := hS3
  have hk := hk3
  have hZ := hZ3
  have hown := hown3
  show GoH _ _ _ _ _ _ _ _ _ _  T3 (mkF m 15 #[.val (.int p1), .val (.int p2), .val (.int p3), .val (.ref x1), .val (.ref x2), .unset, .unset, .unset, .unset, .unset, .unset, .unset, .unset, .unset] [(.ref x3)])
  refine GoH.st (fun tT kT => XS.astore X3.here hx rfl (hb hby at_15) rfl rfl (l' := #[.val (.int p1), .val (.int p2), .val (.int p3), .val (.ref x1), .val (.ref x2), .val (.ref x3), .unset, .unset, .unset, .unset, .unset, .unset, .unset, .unset]) rfl kT) ?_
  show GoH _ _ _ _ _ _ _ _ _ _  T3 (mkF m 17 #[.val (.int p1), .val (.int p2), .val (.int p3), .val (.ref x1), .val (.ref x2), .val (.ref x3), .unset, .unset, .unset, .unset, .unset, .unset, .unset, .unset] [])
  refine GoH.st (fun tT kT => XS.aloadN X3.here hx rfl (hb hby at_17) rfl rfl  kT) ?_
  show GoH _ _ _ _ _ _ _ _ _ _  T3 (mkF m 18 #[.val (.int p1), .val (.int p2), .val (.int p3), .val (.ref x1), .val (.ref x2), .val (.ref x3), .unset, .unset, .unset, .unset, .unset, .unset, .unset, .unset] [(.ref x1)])
  refine GoH.st (fun tT kT => XS.aload X3.here hx rfl (hb hby at_18) rfl rfl  kT) ?_
  show GoH _ _ _ _ _ _ _ _ _ _  T3 (mkF m 20 #[.val (.int p1), .val (.int p2), .val (.int p3), .val (.ref x1), .val (.ref x2), .val (.ref x3), .unset, .unset, .unset, .unset, .unset, .unset, .unset, .unset] [(.ref x2), (.ref x1)])
  refine GoH.st (fun tT kT => XS.aload X3.here hx rfl (hb hby at_20) rfl rfl  kT) ?_
  show GoH _ _ _ _ _ _ _ _ _ _  T3 (mkF m 22 #[.val (.int p1), .val (.int p2), .val (.int p3), .val (.ref x1), .val (.ref x2), .val (.ref x3), .unset, .unset, .unset, .unset, .unset, .unset, .unset, .unset] [(.ref x3), (.ref x2), (.ref x1)])
  obtain ⟨_, _, ⟨T4, L4, k4, n4⟩, -, X4, hSn4, hgn4, ⟨Lc4, hQ4, l4, y4, z4, CR4⟩, st4⟩ := callSS X3 hx (y := (⟨"com/example/keyset/keyset/query/DeclarationException", "forField", "(Ljava/lang/String;Ljava/lang/String;Ljava/lang/String;)Lcom/example/keyset/keyset/query/DeclarationException;"⟩ : MethodName)) hown (mvT hZ (hw _ (List.mem_of_getElem? (i := 12) rfl))) (mvT hZ (hw _ (List.mem_of_getElem? (i := 13) rfl))) (mvT hZ (hw _ (List.mem_of_getElem? (i := 14) rfl))) (mvT hZ (hw _ (List.mem_of_getElem? (i := 15) rfl))) (by decide) (own_backSKH (sf := []) (W := 0) (rmFF l Z a0 hw [] x1 x2 x3 zc t1 kt1 cs1 t2 kt2 cs2 t3 kt3 cs3 T3.heap n0 O hEL wS S_COMPACT hcs hl hr E_x1 C_x1 V_x1 A_t1 E_x2 C_x2 V_x2 A_t2 E_x3 C_x3 V_x3 A_t3 B_x1 B_x2 B_x3) hZ (hw _ (List.mem_of_getElem? (i := 15) rfl)) (hw _ (List.mem_of_getElem? (i := 14) rfl)) (by decide) (by decide) hEL HH all0 (Vm.MethodsKnown.alikeC hS.1.alike hK.1) (Vm.FramesKnown.alikeC hS.1.alike hK.2)) (g := (mkF m 22 #[.val (.int p1), .val (.int p2), .val (.int p3), .val (.ref x1), .val (.ref x2), .val (.ref x3), .unset, .unset, .unset, .unset, .unset, .unset, .unset, .unset] [(.ref x3), (.ref x2), (.ref x1)])) rfl (by rw [hml]; rfl) (argsL := [(.ref x1), (.ref x2), (.ref x3)]) (rest := []) (lenOf pd__Ljava_lang_String_Ljava_lang_String_Ljava_lang_String__Lcom_example_keyset_keyset_query_DeclarationException_ rfl) rfl (by show 2 * 0 + _ ≤ _; exact Nat.le_of_eq rfl) (hb hby at_22) (fun _ _ => ⟨rfl, rfl, (by decide : 9 + 19 ≤ _), (by decide : 24 + 3300 ≤ _)⟩)
  dsimp only [Pt.U, Pt.locs, Pt.cells, Pt.slots] at X4 l4 y4 z4 st4 hQ4 hSn4 hgn4 CR4
  subst l4 y4 z4
  have X4 : Stand p l e _ _ m _ below meth c T4 _ 28 3324 := X4
  obtain ⟨d4, y4, t4, kt4, rfl, N4q, E4q, E_d4, F_d4, E_y4, C_y4, V_y4, A_t4⟩ := hQ4
  have X4 : Stand p l e _ (s.setVm T4.vm) m _ below meth c T4 _ _ _ := X4
  have N4 := Fr.app N3 N4q
  refine GoH.tr st4 ?_
  have hS4 := Jvm.RoadKit.foldS hS hk hSn4 hgn4
  have hZ4 := State.Warmed39.trans (t := s.setVm T3.vm) hZ hSn4.1
  have hk4 := Nat.le_refl T4.heap.size
  have hown4 : T4.vm.findClass "com/example/keyset/keyset/query/DeclarationExceptionForFieldPinLaw" = some m.cls := by rw [hSn4.1.alike.findClass]; exact hown
  have E4 := E4q
  have E_x1 := E_x1.ext E4
  have A_t1 := A_t1.ext E4
  have C_x1 := C_x1.ext E4
  have V_x1 := V_x1.ext E4
  have E_x2 := E_x2.ext E4
  have A_t2 := A_t2.ext E4
  have C_x2 := C_x2.ext E4
  have V_x2 := V_x2.ext E4
  have E_x3 := E_x3.ext E4
  have A_t3 := A_t3.ext E4
  have C_x3 := C_x3.ext E4
  have V_x3 := V_x3.ext E4
  have O := O.ext E4
  have KK := KK.ext E4
  have RR := RR.trans CR4
  have HH := CR4.1
  have hS := hS4
  have hk := hk4
  have hZ := hZ4
  have hown := hown4
  obtain ⟨M, eM⟩ : ∃ z, z = own_M cs1 (own_inner cs2 cs3) := ⟨_, rfl⟩
  rw [← eM] at A_t4
  have lM : M.length = 23 + cs1.length + cs2.length + cs3.length := own_lM eM
  have hM5 : M.length < 100000 := own_M5 lM B_x1 B_x2 B_x3
  have qe1 : M = [] ++ (own_L1 ++ (cs1 ++ (own_L2 ++ (own_L3 ++ (cs2 ++ (own_L2 ++ cs3)))))) := by rw [eM]; simp only [own_M, own_inner, List.append_assoc, List.nil_append, List.append_nil]
  have qe2 : M = (own_L1 ++ cs1) ++ ((own_L2 ++ own_L3) ++ (cs2 ++ (own_L2 ++ cs3))) := by rw [eM]; simp only [own_M, own_inner, List.append_assoc, List.nil_append, List.append_nil]
  have qe3 : M = (own_L1 ++ cs1 ++ own_L2 ++ own_L3 ++ cs2) ++ (own_L2 ++ cs3) := by rw [eM]; simp only [own_M, own_inner, List.append_assoc, List.nil_append, List.append_nil]
  have qp1 : M = own_L1 ++ (cs1 ++ (own_L2 ++ (own_L3 ++ (cs2 ++ (own_L2 ++ cs3))))) := by rw [eM]; simp only [own_M, own_inner, List.append_assoc, List.nil_append, List.append_nil]
  have qp2 : M = (own_L1 ++ cs1 ++ own_L2 ++ own_L3) ++ (cs2 ++ (own_L2 ++ cs3)) := by rw [eM]; simp only [own_M, own_inner, List.append_assoc, List.nil_append, List.append_nil]
  have qp3 : M = (own_L1 ++ cs1 ++ own_L2 ++ own_L3 ++ cs2 ++ own_L2) ++ (cs3 ++ []) := by rw [eM]; simp only [own_M, own_inner, List.append_assoc, List.nil_append, List.append_nil]
  show GoH _ _ _ _ _ _ _ _ _ _  T4 (mkF m 25 #[.val (.int p1), .val (.int p2), .val (.int p3), .val (.ref x1), .val (.ref x2), .val (.ref x3), .unset, .unset, .unset, .unset, .unset, .unset, .unset, .unset] [(.ref d4)])
  refine GoH.st (fun tT kT => XS.astore X4.here hx rfl (hb hby at_25) rfl rfl (l' := #[.val (.int p1), .val (.int p2), .val (.int p3), .val (.ref x1), .val (.ref x2), .val (.ref x3), .val (.ref d4), .unset, .unset, .unset, .unset, .unset, .unset, .unset]) rfl kT) ?_
  show GoH _ _ _ _ _ _ _ _ _ _  T4 (mkF m 27 #[.val (.int p1), .val (.int p2), .val (.int p3), .val (.ref x1), .val (.ref x2), .val (.ref x3), .val (.ref d4), .unset, .unset, .unset, .unset, .unset, .unset, .unset] [])
  refine GoH.st (fun tT kT => XS.aload X4.here hx rfl (hb hby at_27) rfl rfl  kT) ?_
  show GoH _ _ _ _ _ _ _ _ _ _  T4 (mkF m 29 #[.val (.int p1), .val (.int p2), .val (.int p3), .val (.ref x1), .val (.ref x2), .val (.ref x3), .val (.ref d4), .unset, .unset, .unset, .unset, .unset, .unset, .unset] [(.ref d4)])
  refine GoH.st (fun tT kT => XS.ifnonnullYes X4.here hx rfl (pc0 := 29) (pc' := 34) rfl (hb hby at_29) rfl (by decide) (by decide) kT) ?_
  show GoH _ _ _ _ _ _ _ _ _ _  T4 (mkF m 34 #[.val (.int p1), .val (.int p2), .val (.int p3), .val (.ref x1), .val (.ref x2), .val (.ref x3), .val (.ref d4), .unset, .unset, .unset, .unset, .unset, .unset, .unset] [])
  refine GoH.st (fun tT kT => XS.aload X4.here hx rfl (hb hby at_34) rfl rfl  kT) ?_
  show GoH _ _ _ _ _ _ _ _ _ _  T4 (mkF m 36 #[.val (.int p1), .val (.int p2), .val (.int p3), .val (.ref x1), .val (.ref x2), .val (.ref x3), .val (.ref d4), .unset, .unset, .unset, .unset, .unset, .unset, .unset] [(.ref d4)])
  obtain ⟨cq5, kq5, q5a, q5b, q5c⟩ := isOf hZ rfl E_d4
  refine GoH.pure (w := (some (.ref y4))) (rest := []) (pc' := 39) (X4.virtualBackUp hx (x := (⟨"com/example/keyset/keyset/query/DeclarationException", "getMessage", "()Ljava/lang/String;"⟩ : MethodName)) (y := (⟨"java/lang/Throwable", "getMessage", "()Ljava/lang/String;"⟩ : MethodName)) (owner := "java/lang/Throwable") hown (mvT hZ (hw _ (List.mem_of_getElem? (i := 215) rfl))) (mvT hZ (hw _ (List.mem_of_getElem? (i := 216) rfl))) (mvT hZ (hw _ (List.mem_of_getElem? (i := 217) rfl))) (by decide) (mvT hZ (hw _ (List.mem_of_getElem? (i := 219) rfl))) (mvT hZ (hw _ (List.mem_of_getElem? (i := 218) rfl))) (backOf (W := 0) (rmGM l Z a0 hw [] d4 y4 T4.heap n0 O F_d4) hZ (hw _ (List.mem_of_getElem? (i := 220) rfl)) (hw _ (List.mem_of_getElem? (i := 176) rfl)) (by decide) (by decide)) q5a q5c (g := (mkF m 36 #[.val (.int p1), .val (.int p2), .val (.int p3), .val (.ref x1), .val (.ref x2), .val (.ref x3), .val (.ref d4), .unset, .unset, .unset, .unset, .unset, .unset, .unset] [(.ref d4)])) rfl (by rw [hml]; rfl) (Steps.refl _) (argsL := []) (rest := []) (lenOf pd___Ljava_lang_String_ rfl) rfl (by show 2 * 0 + _ ≤ _; exact Nat.le_of_eq rfl) (hb hby at_36) (fun _ _ => ⟨rfl, rfl, (by decide : 28 + 0 ≤ _), (by decide : 3324 + 0 ≤ _)⟩)) (fun _ _ _ q => q) N4 (fun T5 L5 X5 e5q N5 => ?_)
  show GoH _ _ _ _ _ _ _ _ _ _  T5 (mkF m 39 #[.val (.int p1), .val (.int p2), .val (.int p3), .val (.ref x1), .val (.ref x2), .val (.ref x3), .val (.ref d4), .unset, .unset, .unset, .unset, .unset, .unset, .unset] [(.ref y4)])
  refine GoH.st (fun tT kT => XS.astore X5.here hx rfl (hb hby at_39) rfl rfl (l' := #[.val (.int p1), .val (.int p2), .val (.int p3), .val (.ref x1), .val (.ref x2), .val (.ref x3), .val (.ref d4), .val (.ref y4), .unset, .unset, .unset, .unset, .unset, .unset]) rfl kT) ?_
  show GoH _ _ _ _ _ _ _ _ _ _  T5 (mkF m 41 #[.val (.int p1), .val (.int p2), .val (.int p3), .val (.ref x1), .val (.ref x2), .val (.ref x3), .val (.ref d4), .val (.ref y4), .unset, .unset, .unset, .unset, .unset, .unset] [])
  refine GoH.st (fun tT kT => XS.aload X5.here hx rfl (hb hby at_41) rfl rfl  kT) ?_
  show GoH _ _ _ _ _ _ _ _ _ _  T5 (mkF m 43 #[.val (.int p1), .val (.int p2), .val (.int p3), .val (.ref x1), .val (.ref x2), .val (.ref x3), .val (.ref d4), .val (.ref y4), .unset, .unset, .unset, .unset, .unset, .unset] [(.ref y4)])
  refine GoH.st (fun tT kT => XS.ifnonnullYes X5.here hx rfl (pc0 := 43) (pc' := 48) rfl (hb hby at_43) rfl (by decide) (by decide) kT) ?_
  show GoH _ _ _ _ _ _ _ _ _ _  T5 (mkF m 48 #[.val (.int p1), .val (.int p2), .val (.int p3), .val (.ref x1), .val (.ref x2), .val (.ref x3), .val (.ref d4), .val (.ref y4), .unset, .unset, .unset, .unset, .unset, .unset] [])
  refine GoH.st (fun tT kT => XS.aloadN X5.here hx rfl (hb hby at_48) rfl rfl  kT) ?_
  show GoH _ _ _ _ _ _ _ _ _ _  T5 (mkF m 49 #[.val (.int p1), .val (.int p2), .val (.int p3), .val (.ref x1), .val (.ref x2), .val (.ref x3), .val (.ref d4), .val (.ref y4), .unset, .unset, .unset, .unset, .unset, .unset] [(.ref x1)])
  obtain ⟨cq6, kq6, q6a, q6b, q6c⟩ := isOf hZ e5q E_x1
  refine GoH.pure (w := (some (.int (Int32.ofNat cs1.length)))) (rest := []) (pc' := 52) (X5.virtualBack hx (y := (⟨"java/lang/String", "length", "()I"⟩ : MethodName)) (z := (⟨"java/lang/String", "length", "()I"⟩ : MethodName)) hown (mvT hZ (hw _ (List.mem_of_getElem? (i := 221) rfl))) (mvT hZ (hw _ (List.mem_of_getElem? (i := 48) rfl))) (notFace_of_selects (args := #[]) (mvT hZ (hw _ (List.mem_of_getElem? (i := 50) rfl)))) (mvT hZ (hw _ (List.mem_of_getElem? (i := 50) rfl))) (mvT hZ (hw _ (List.mem_of_getElem? (i := 49) rfl))) (by decide) (backOf (W := 0) (rmLen l Z a0 hw [] x1 zc t1 kt1 cs1.length (cs1.map Value.int) T4.heap n0 O S_COMPACT hcs E_x1 C_x1 V_x1 A_t1 (List.length_map _) (own_b2 B_x1)) hZ (hw _ (List.mem_of_getElem? (i := 51) rfl)) (hw _ (List.mem_of_getElem? (i := 5) rfl)) (by decide) (by decide)) q6a q6c (g := (mkF m 49 #[.val (.int p1), .val (.int p2), .val (.int p3), .val (.ref x1), .val (.ref x2), .val (.ref x3), .val (.ref d4), .val (.ref y4), .unset, .unset, .unset, .unset, .unset, .unset] [(.ref x1)])) rfl (by rw [hml]; rfl) (Steps.refl _) (argsL := []) (rest := []) (lenOf pd___I rfl) rfl (by show 2 * 0 + _ ≤ _; exact Nat.le_of_eq rfl) (hb hby at_49) (fun _ _ => ⟨rfl, e5q, (by decide : 28 + 0 ≤ _), (by decide : 3324 + 0 ≤ _)⟩)) (fun _ _ _ q => q) N5 (fun T6 L6 X6 e6q N6 => ?_)
  show GoH _ _ _ _ _ _ _ _ _ _  T6 (mkF m 52 #[.val (.int p1), .val (.int p2), .val (.int p3), .val (.ref x1), .val (.ref x2), .val (.ref x3), .val (.ref d4), .val (.ref y4), .unset, .unset, .unset, .unset, .unset, .unset] [(.int (Int32.ofNat cs1.length))])
  refine GoH.st (fun tT kT => XS.istore X6.here hx rfl (hb hby at_52) rfl (l' := #[.val (.int p1), .val (.int p2), .val (.int p3), .val (.ref x1), .val (.ref x2), .val (.ref x3), .val (.ref d4), .val (.ref y4), .val (.int (Int32.ofNat cs1.length)), .unset, .unset, .unset, .unset, .unset]) rfl kT) ?_
  show GoH _ _ _ _ _ _ _ _ _ _  T6 (mkF m 54 #[.val (.int p1), .val (.int p2), .val (.int p3), .val (.ref x1), .val (.ref x2), .val (.ref x3), .val (.ref d4), .val (.ref y4), .val (.int (Int32.ofNat cs1.length)), .unset, .unset, .unset, .unset, .unset] [])
  obtain ⟨j1, eq_j1⟩ : ∃ z, z = (Int32.ofNat cs1.length) := ⟨_, rfl⟩
  rw [← eq_j1]
  show GoH _ _ _ _ _ _ _ _ _ _  T6 (mkF m 54 #[.val (.int p1), .val (.int p2), .val (.int p3), .val (.ref x1), .val (.ref x2), .val (.ref x3), .val (.ref d4), .val (.ref y4), .val (.int j1), .unset, .unset, .unset, .unset, .unset] [])
  refine GoH.st (fun tT kT => XS.aload X6.here hx rfl (hb hby at_54) rfl rfl  kT) ?_
  show GoH _ _ _ _ _ _ _ _ _ _  T6 (mkF m 56 #[.val (.int p1), .val (.int p2), .val (.int p3), .val (.ref x1), .val (.ref x2), .val (.ref x3), .val (.ref d4), .val (.ref y4), .val (.int j1), .unset, .unset, .unset, .unset, .unset] [(.ref x2)])
  obtain ⟨cq7, kq7, q7a, q7b, q7c⟩ := isOf hZ e6q E_x2
  refine GoH.pure (w := (some (.int (Int32.ofNat cs2.length)))) (rest := []) (pc' := 59) (X6.virtualBack hx (y := (⟨"java/lang/String", "length", "()I"⟩ : MethodName)) (z := (⟨"java/lang/String", "length", "()I"⟩ : MethodName)) hown (mvT hZ (hw _ (List.mem_of_getElem? (i := 221) rfl))) (mvT hZ (hw _ (List.mem_of_getElem? (i := 48) rfl))) (notFace_of_selects (args := #[]) (mvT hZ (hw _ (List.mem_of_getElem? (i := 50) rfl)))) (mvT hZ (hw _ (List.mem_of_getElem? (i := 50) rfl))) (mvT hZ (hw _ (List.mem_of_getElem? (i := 49) rfl))) (by decide) (backOf (W := 0) (rmLen l Z a0 hw [] x2 zc t2 kt2 cs2.length (cs2.map Value.int) T4.heap n0 O S_COMPACT hcs E_x2 C_x2 V_x2 A_t2 (List.length_map _) (own_b2 B_x2)) hZ (hw _ (List.mem_of_getElem? (i := 51) rfl)) (hw _ (List.mem_of_getElem? (i := 5) rfl)) (by decide) (by decide)) q7a q7c (g := (mkF m 56 #[.val (.int p1), .val (.int p2), .val (.int p3), .val (.ref x1), .val (.ref x2), .val (.ref x3), .val (.ref d4), .val (.ref y4), .val (.int j1), .unset, .unset, .unset, .unset, .unset] [(.ref x2)])) rfl (by rw [hml]; rfl) (Steps.refl _) (argsL := []) (rest := []) (lenOf pd___I rfl) rfl (by show 2 * 0 + _ ≤ _; exact Nat.le_of_eq rfl) (hb hby at_56) (fun _ _ => ⟨rfl, e6q, (by decide : 28 + 0 ≤ _), (by decide : 3324 + 0 ≤ _)⟩)) (fun _ _ _ q => q) N6 (fun T7 L7 X7 e7q N7 => ?_)
  show GoH _ _ _ _ _ _ _ _ _ _  T7 (mkF m 59 #[.val (.int p1), .val (.int p2), .val (.int p3), .val (.ref x1), .val (.ref x2), .val (.ref x3), .val (.ref d4), .val (.ref y4), .val (.int j1), .unset, .unset, .unset, .unset, .unset] [(.int (Int32.ofNat cs2.length))])
  refine GoH.st (fun tT kT => XS.istore X7.here hx rfl (hb hby at_59) rfl (l' := #[.val (.int p1), .val (.int p2), .val (.int p3), .val (.ref x1), .val (.ref x2), .val (.ref x3), .val (.ref d4), .val (.ref y4), .val (.int j1), .val (.int (Int32.ofNat cs2.length)), .unset, .unset, .unset, .unset]) rfl kT) ?_
  show GoH _ _ _ _ _ _ _ _ _ _  T7 (mkF m 61 #[.val (.int p1), .val (.int p2), .val (.int p3), .val (.ref x1), .val (.ref x2), .val (.ref x3), .val (.ref d4), .val (.ref y4), .val (.int j1), .val (.int (Int32.ofNat cs2.length)), .unset, .unset, .unset, .unset] [])
  obtain ⟨j2, eq_j2⟩ : ∃ z, z = (Int32.ofNat cs2.length) := ⟨_, rfl⟩
  rw [← eq_j2]
  show GoH _ _ _ _ _ _ _ _ _ _  T7 (mkF m 61 #[.val (.int p1), .val (.int p2), .val (.int p3), .val (.ref x1), .val (.ref x2), .val (.ref x3), .val (.ref d4), .val (.ref y4), .val (.int j1), .val (.int j2), .unset, .unset, .unset, .unset] [])
  refine GoH.st (fun tT kT => XS.aload X7.here hx rfl (hb hby at_61) rfl rfl  kT) ?_
  show GoH _ _ _ _ _ _ _ _ _ _  T7 (mkF m 63 #[.val (.int p1), .val (.int p2), .val (.int p3), .val (.ref x1), .val (.ref x2), .val (.ref x3), .val (.ref d4), .val (.ref y4), .val (.int j1), .val (.int j2), .unset, .unset, .unset, .unset] [(.ref x3)])
  obtain ⟨cq8, kq8, q8a, q8b, q8c⟩ := isOf hZ e7q E_x3
  refine GoH.pure (w := (some (.int (Int32.ofNat cs3.length)))) (rest := []) (pc' := 66) (X7.virtualBack hx (y := (⟨"java/lang/String", "length", "()I"⟩ : MethodName)) (z := (⟨"java/lang/String", "length", "()I"⟩ : MethodName)) hown (mvT hZ (hw _ (List.mem_of_getElem? (i := 221) rfl))) (mvT hZ (hw _ (List.mem_of_getElem? (i := 48) rfl))) (notFace_of_selects (args := #[]) (mvT hZ (hw _ (List.mem_of_getElem? (i := 50) rfl)))) (mvT hZ (hw _ (List.mem_of_getElem? (i := 50) rfl))) (mvT hZ (hw _ (List.mem_of_getElem? (i := 49) rfl))) (by decide) (backOf (W := 0) (rmLen l Z a0 hw [] x3 zc t3 kt3 cs3.length (cs3.map Value.int) T4.heap n0 O S_COMPACT hcs E_x3 C_x3 V_x3 A_t3 (List.length_map _) (own_b2 B_x3)) hZ (hw _ (List.mem_of_getElem? (i := 51) rfl)) (hw _ (List.mem_of_getElem? (i := 5) rfl)) (by decide) (by decide)) q8a q8c (g := (mkF m 63 #[.val (.int p1), .val (.int p2), .val (.int p3), .val (.ref x1), .val (.ref x2), .val (.ref x3), .val (.ref d4), .val (.ref y4), .val (.int j1), .val (.int j2), .unset, .unset, .unset, .unset] [(.ref x3)])) rfl (by rw [hml]; rfl) (Steps.refl _) (argsL := []) (rest := []) (lenOf pd___I rfl) rfl (by show 2 * 0 + _ ≤ _; exact Nat.le_of_eq rfl) (hb hby at_63) (fun _ _ => ⟨rfl, e7q, (by decide : 28 + 0 ≤ _), (by decide : 3324 + 0 ≤ _)⟩)) (fun _ _ _ q => q) N7 (fun T8 L8 X8 e8q N8 => ?_)
  show GoH _ _ _ _ _ _ _ _ _ _  T8 (mkF m 66 #[.val (.int p1), .val (.int p2), .val (.int p3), .val (.ref x1), .val (.ref x2), .val (.ref x3), .val (.ref d4), .val (.ref y4), .val (.int j1), .val (.int j2), .unset, .unset, .unset, .unset] [(.int (Int32.ofNat cs3.length))])
  refine GoH.st (fun tT kT => XS.istore X8.here hx rfl (hb hby at_66) rfl (l' := #[.val (.int p1), .val (.int p2), .val (.int p3), .val (.ref x1), .val (.ref x2), .val (.ref x3), .val (.ref d4), .val (.ref y4), .val (.int j1), .val (.int j2), .val (.int (Int32.ofNat cs3.length)), .unset, .unset, .unset]) rfl kT) ?_
  show GoH _ _ _ _ _ _ _ _ _ _  T8 (mkF m 68 #[.val (.int p1), .val (.int p2), .val (.int p3), .val (.ref x1), .val (.ref x2), .val (.ref x3), .val (.ref d4), .val (.ref y4), .val (.int j1), .val (.int j2), .val (.int (Int32.ofNat cs3.length)), .unset, .unset, .unset] [])
  obtain ⟨j3, eq_j3⟩ : ∃ z, z = (Int32.ofNat cs3.length) := ⟨_, rfl⟩
  rw [← eq_j3]
  show GoH _ _ _ _ _ _ _ _ _ _  T8 (mkF m 68 #[.val (.int p1), .val (.int p2), .val (.int p3), .val (.ref x1), .val (.ref x2), .val (.ref x3), .val (.ref d4), .val (.ref y4), .val (.int j1), .val (.int j2), .val (.int j3), .unset, .unset, .unset] [])
  refine GoH.st (fun tT kT => XS.aload X8.here hx rfl (hb hby at_68) rfl rfl  kT) ?_
  show GoH _ _ _ _ _ _ _ _ _ _  T8 (mkF m 70 #[.val (.int p1), .val (.int p2), .val (.int p3), .val (.ref x1), .val (.ref x2), .val (.ref x3), .val (.ref d4), .val (.ref y4), .val (.int j1), .val (.int j2), .val (.int j3), .unset, .unset, .unset] [(.ref y4)])
  obtain ⟨cq9, kq9, q9a, q9b, q9c⟩ := isOf hZ e8q E_y4
  refine GoH.pure (w := (some (.int (Int32.ofNat M.length)))) (rest := []) (pc' := 73) (X8.virtualBack hx (y := (⟨"java/lang/String", "length", "()I"⟩ : MethodName)) (z := (⟨"java/lang/String", "length", "()I"⟩ : MethodName)) hown (mvT hZ (hw _ (List.mem_of_getElem? (i := 221) rfl))) (mvT hZ (hw _ (List.mem_of_getElem? (i := 48) rfl))) (notFace_of_selects (args := #[]) (mvT hZ (hw _ (List.mem_of_getElem? (i := 50) rfl)))) (mvT hZ (hw _ (List.mem_of_getElem? (i := 50) rfl))) (mvT hZ (hw _ (List.mem_of_getElem? (i := 49) rfl))) (by decide) (backOf (W := 0) (rmLen l Z a0 hw [] y4 zc t4 kt4 M.length (M.map Value.int) T4.heap n0 O S_COMPACT hcs E_y4 C_y4 V_y4 A_t4 (List.length_map _) hM5) hZ (hw _ (List.mem_of_getElem? (i := 51) rfl)) (hw _ (List.mem_of_getElem? (i := 5) rfl)) (by decide) (by decide)) q9a q9c (g := (mkF m 70 #[.val (.int p1), .val (.int p2), .val (.int p3), .val (.ref x1), .val (.ref x2), .val (.ref x3), .val (.ref d4), .val (.ref y4), .val (.int j1), .val (.int j2), .val (.int j3), .unset, .unset, .unset] [(.ref y4)])) rfl (by rw [hml]; rfl) (Steps.refl _) (argsL := []) (rest := []) (lenOf pd___I rfl) rfl (by show 2 * 0 + _ ≤ _; exact Nat.le_of_eq rfl) (hb hby at_70) (fun _ _ => ⟨rfl, e8q, (by decide : 28 + 0 ≤ _), (by decide : 3324 + 0 ≤ _)⟩)) (fun _ _ _ q => q) N8 (fun T9 L9 X9 e9q N9 => ?_)
  show GoH _ _ _ _ _ _ _ _ _ _  T9 (mkF m 73 #[.val (.int p1), .val (.int p2), .val (.int p3), .val (.ref x1), .val (.ref x2), .val (.ref x3), .val (.ref d4), .val (.ref y4), .val (.int j1), .val (.int j2), .val (.int j3), .unset, .unset, .unset] [(.int (Int32.ofNat M.length))])
  refine GoH.st (fun tT kT => XS.bipush X9.here hx rfl (hb hby at_73) kT) ?_
  show GoH _ _ _ _ _ _ _ _ _ _  T9 (mkF m 75 #[.val (.int p1), .val (.int p2), .val (.int p3), .val (.ref x1), .val (.ref x2), .val (.ref x3), .val (.ref d4), .val (.ref y4), .val (.int j1), .val (.int j2), .val (.int j3), .unset, .unset, .unset] [(.int (23 : Int32)), (.int (Int32.ofNat M.length))])
  refine GoH.st (fun tT kT => XS.iload X9.here hx rfl (hb hby at_75) rfl  kT) ?_
  show GoH _ _ _ _ _ _ _ _ _ _  T9 (mkF m 77 #[.val (.int p1), .val (.int p2), .val (.int p3), .val (.ref x1), .val (.ref x2), .val (.ref x3), .val (.ref d4), .val (.ref y4), .val (.int j1), .val (.int j2), .val (.int j3), .unset, .unset, .unset] [(.int j1), (.int (23 : Int32)), (.int (Int32.ofNat M.length))])
  refine GoH.st (fun tT kT => XS.iadd X9.here hx rfl (hb hby at_77) rfl kT) ?_
  show GoH _ _ _ _ _ _ _ _ _ _  T9 (mkF m 78 #[.val (.int p1), .val (.int p2), .val (.int p3), .val (.ref x1), .val (.ref x2), .val (.ref x3), .val (.ref d4), .val (.ref y4), .val (.int j1), .val (.int j2), .val (.int j3), .unset, .unset, .unset] [(.int ((23 : Int32) + j1)), (.int (Int32.ofNat M.length))])
  refine GoH.st (fun tT kT => XS.iload X9.here hx rfl (hb hby at_78) rfl  kT) ?_
  show GoH _ _ _ _ _ _ _ _ _ _  T9 (mkF m 80 #[.val (.int p1), .val (.int p2), .val (.int p3), .val (.ref x1), .val (.ref x2), .val (.ref x3), .val (.ref d4), .val (.ref y4), .val (.int j1), .val (.int j2), .val (.int j3), .unset, .unset, .unset] [(.int j2), (.int ((23 : Int32) + j1)), (.int (Int32.ofNat M.length))])
  refine GoH.st (fun tT kT => XS.iadd X9.here hx rfl (hb hby at_80) rfl kT) ?_
  show GoH _ _ _ _ _ _ _ _ _ _  T9 (mkF m 81 #[.val (.int p1), .val (.int p2), .val (.int p3), .val (.ref x1), .val (.ref x2), .val (.ref x3), .val (.ref d4), .val (.ref y4), .val (.int j1), .val (.int j2), .val (.int j3), .unset, .unset, .unset] [(.int (((23 : Int32) + j1) + j2)), (.int (Int32.ofNat M.length))])
  refine GoH.st (fun tT kT => XS.iload X9.here hx rfl (hb hby at_81) rfl  kT) ?_
  show GoH _ _ _ _ _ _ _ _ _ _  T9 (mkF m 83 #[.val (.int p1), .val (.int p2), .val (.int p3), .val (.ref x1), .val (.ref x2), .val (.ref x3), .val (.ref d4), .val (.ref y4), .val (.int j1), .val (.int j2), .val (.int j3), .unset, .unset, .unset] [(.int j3), (.int (((23 : Int32) + j1) + j2)), (.int (Int32.ofNat M.length))])
  refine GoH.st (fun tT kT => XS.iadd X9.here hx rfl (hb hby at_83) rfl kT) ?_
  show GoH _ _ _ _ _ _ _ _ _ _  T9 (mkF m 84 #[.val (.int p1), .val (.int p2), .val (.int p3), .val (.ref x1), .val (.ref x2), .val (.ref x3), .val (.ref d4), .val (.ref y4), .val (.int j1), .val (.int j2), .val (.int j3), .unset, .unset, .unset] [(.int ((((23 : Int32) + j1) + j2) + j3)), (.int (Int32.ofNat M.length))])
  refine GoH.st (fun tT kT => XS.icmpYes X9.here hx rfl (pc0 := 84) (pc' := 89) rfl (hb hby at_84) rfl (teq (own_84 lM eq_j1 eq_j2 eq_j3 : (Int32.ofNat M.length) = ((((23 : Int32) + j1) + j2) + j3))).1 (by decide) (by decide) kT) ?_
  show GoH _ _ _ _ _ _ _ _ _ _  T9 (mkF m 89 #[.val (.int p1), .val (.int p2), .val (.int p3), .val (.ref x1), .val (.ref x2), .val (.ref x3), .val (.ref d4), .val (.ref y4), .val (.int j1), .val (.int j2), .val (.int j3), .unset, .unset, .unset] [])
  refine GoH.st (fun tT kT => XS.aload X9.here hx rfl (hb hby at_89) rfl rfl  kT) ?_
  show GoH _ _ _ _ _ _ _ _ _ _  T9 (mkF m 91 #[.val (.int p1), .val (.int p2), .val (.int p3), .val (.ref x1), .val (.ref x2), .val (.ref x3), .val (.ref d4), .val (.ref y4), .val (.int j1), .val (.int j2), .val (.int j3), .unset, .unset, .unset] [(.ref y4)])
  refine GoH.st (fun tT kT => XS.iconst X9.here hx rfl (hb hby at_91) kT) ?_
  show GoH _ _ _ _ _ _ _ _ _ _  T9 (mkF m 92 #[.val (.int p1), .val (.int p2), .val (.int p3), .val (.ref x1), .val (.ref x2), .val (.ref x3), .val (.ref d4), .val (.ref y4), .val (.int j1), .val (.int j2), .val (.int j3), .unset, .unset, .unset] [(.int (0 : Int32)), (.ref y4)])
  obtain ⟨cq10, kq10, q10a, q10b, q10c⟩ := isOf hZ e9q E_y4
  refine GoH.pure (w := (some (.int (own_chr (M.getD (0 + 0) 0))))) (rest := []) (pc' := 95) (X9.virtualBack hx (y := (⟨"java/lang/String", "charAt", "(I)C"⟩ : MethodName)) (z := (⟨"java/lang/String", "charAt", "(I)C"⟩ : MethodName)) hown (mvT hZ (hw _ (List.mem_of_getElem? (i := 222) rfl))) (mvT hZ (hw _ (List.mem_of_getElem? (i := 223) rfl))) (notFace_of_selects (args := #[]) (mvT hZ (hw _ (List.mem_of_getElem? (i := 225) rfl)))) (mvT hZ (hw _ (List.mem_of_getElem? (i := 225) rfl))) (mvT hZ (hw _ (List.mem_of_getElem? (i := 224) rfl))) (by decide) (backOf (W := 0) (rmCA l Z a0 hw [] y4 zc fm t4 kt4 M (0 + 0) T4.heap n0 O S_COMPACT hcs S_SIO ref_fm E_y4 C_y4 V_y4 A_t4 (own_i1 lM 0 (by decide)) hM5) hZ (hw _ (List.mem_of_getElem? (i := 226) rfl)) (hw _ (List.mem_of_getElem? (i := 5) rfl)) (by decide) (by decide)) q10a q10c (g := (mkF m 92 #[.val (.int p1), .val (.int p2), .val (.int p3), .val (.ref x1), .val (.ref x2), .val (.ref x3), .val (.ref d4), .val (.ref y4), .val (.int j1), .val (.int j2), .val (.int j3), .unset, .unset, .unset] [(.int (0 : Int32)), (.ref y4)])) rfl (by rw [hml]; rfl) (Steps.refl _) (argsL := [(.int (0 : Int32))]) (rest := []) (lenOf pd__I_C rfl) rfl (by show 2 * 0 + _ ≤ _; exact Nat.le_of_eq rfl) (hb hby at_92) (fun _ _ => ⟨rfl, e9q, (by decide : 28 + 0 ≤ _), (by decide : 3324 + 0 ≤ _)⟩)) (fun _ _ _ q => q) N9 (fun T10 L10 X10 e10q N10 => ?_)
  show GoH _ _ _ _ _ _ _ _ _ _  T10 (mkF m 95 #[.val (.int p1), .val (.int p2), .val (.int p3), .val (.ref x1), .val (.ref x2), .val (.ref x3), .val (.ref d4), .val (.ref y4), .val (.int j1), .val (.int j2), .val (.int j3), .unset, .unset, .unset] [(.int (own_chr (M.getD (0 + 0) 0)))])
  refine GoH.st (fun tT kT => XS.bipush X10.here hx rfl (hb hby at_95) kT) ?_
  show GoH _ _ _ _ _ _ _ _ _ _  T10 (mkF m 97 #[.val (.int p1), .val (.int p2), .val (.int p3), .val (.ref x1), .val (.ref x2), .val (.ref x3), .val (.ref d4), .val (.ref y4), .val (.int j1), .val (.int j2), .val (.int j3), .unset, .unset, .unset] [(.int (114 : Int32)), (.int (own_chr (M.getD (0 + 0) 0)))])
  refine GoH.st (fun tT kT => XS.icmpNo X10.here hx rfl (hb hby at_97) rfl (teq (own_lit qe1 (own_ae1 (k := 0)) (by decide +kernel) (by decide +kernel) : (own_chr (M.getD (0 + 0) 0)) = (114 : Int32))).2 kT) ?_
  show GoH _ _ _ _ _ _ _ _ _ _  T10 (mkF m 100 #[.val (.int p1), .val (.int p2), .val (.int p3), .val (.ref x1), .val (.ref x2), .val (.ref x3), .val (.ref d4), .val (.ref y4), .val (.int j1), .val (.int j2), .val (.int j3), .unset, .unset, .unset] [])
  refine GoH.st (fun tT kT => XS.aload X10.here hx rfl (hb hby at_100) rfl rfl  kT) ?_
  show GoH _ _ _ _ _ _ _ _ _ _  T10 (mkF m 102 #[.val (.int p1), .val (.int p2), .val (.int p3), .val (.ref x1), .val (.ref x2), .val (.ref x3), .val (.ref d4), .val (.ref y4), .val (.int j1), .val (.int j2), .val (.int j3), .unset, .unset, .unset] [(.ref y4)])
  refine GoH.st (fun tT kT => XS.iconst X10.here hx rfl (hb hby at_102) kT) ?_
  show GoH _ _ _ _ _ _ _ _ _ _  T10 (mkF m 103 #[.val (.int p1), .val (.int p2), .val (.int p3), .val (.ref x1), .val (.ref x2), .val (.ref x3), .val (.ref d4), .val (.ref y4), .val (.int j1), .val (.int j2), .val (.int j3), .unset, .unset, .unset] [(.int (1 : Int32)), (.ref y4)])
  obtain ⟨cq11, kq11, q11a, q11b, q11c⟩ := isOf hZ e10q E_y4
  refine GoH.pure (w := (some (.int (own_chr (M.getD (0 + 1) 0))))) (rest := []) (pc' := 106) (X10.virtualBack hx (y := (⟨"java/lang/String", "charAt", "(I)C"⟩ : MethodName)) (z := (⟨"java/lang/String", "charAt", "(I)C"⟩ : MethodName)) hown (mvT hZ (hw _ (List.mem_of_getElem? (i := 222) rfl))) (mvT hZ (hw _ (List.mem_of_getElem? (i := 223) rfl))) (notFace_of_selects (args := #[]) (mvT hZ (hw _ (List.mem_of_getElem? (i := 225) rfl)))) (mvT hZ (hw _ (List.mem_of_getElem? (i := 225) rfl))) (mvT hZ (hw _ (List.mem_of_getElem? (i := 224) rfl))) (by decide) (backOf (W := 0) (rmCA l Z a0 hw [] y4 zc fm t4 kt4 M (0 + 1) T4.heap n0 O S_COMPACT hcs S_SIO ref_fm E_y4 C_y4 V_y4 A_t4 (own_i1 lM 1 (by decide)) hM5) hZ (hw _ (List.mem_of_getElem? (i := 226) rfl)) (hw _ (List.mem_of_getElem? (i := 5) rfl)) (by decide) (by decide)) q11a q11c (g := (mkF m 103 #[.val (.int p1), .val (.int p2), .val (.int p3), .val (.ref x1), .val (.ref x2), .val (.ref x3), .val (.ref d4), .val (.ref y4), .val (.int j1), .val (.int j2), .val (.int j3), .unset, .unset, .unset] [(.int (1 : Int32)), (.ref y4)])) rfl (by rw [hml]; rfl) (Steps.refl _) (argsL := [(.int (1 : Int32))]) (rest := []) (lenOf pd__I_C rfl) rfl (by show 2 * 0 + _ ≤ _; exact Nat.le_of_eq rfl) (hb hby at_103) (fun _ _ => ⟨rfl, e10q, (by decide : 28 + 0 ≤ _), (by decide : 3324 + 0 ≤ _)⟩)) (fun _ _ _ q => q) N10 (fun T11 L11 X11 e11q N11 => ?_)
  show GoH _ _ _ _ _ _ _ _ _ _  T11 (mkF m 106 #[.val (.int p1), .val (.int p2), .val (.int p3), .val (.ref x1), .val (.ref x2), .val (.ref x3), .val (.ref d4), .val (.ref y4), .val (.int j1), .val (.int j2), .val (.int j3), .unset, .unset, .unset] [(.int (own_chr (M.getD (0 + 1) 0)))])
  refine GoH.st (fun tT kT => XS.bipush X11.here hx rfl (hb hby at_106) kT) ?_
  show GoH _ _ _ _ _ _ _ _ _ _  T11 (mkF m 108 #[.val (.int p1), .val (.int p2), .val (.int p3), .val (.ref x1), .val (.ref x2), .val (.ref x3), .val (.ref d4), .val (.ref y4), .val (.int j1), .val (.int j2), .val (.int j3), .unset, .unset, .unset] [(.int (101 : Int32)), (.int (own_chr (M.getD (0 + 1) 0)))])
  refine GoH.st (fun tT kT => XS.icmpNo X11.here hx rfl (hb hby at_108) rfl (teq (own_lit qe1 (own_ae1 (k := 1)) (by decide +kernel) (by decide +kernel) : (own_chr (M.getD (0 + 1) 0)) = (101 : Int32))).2 kT) ?_
  show GoH _ _ _ _ _ _ _ _ _ _  T11 (mkF m 111 #[.val (.int p1), .val (.int p2), .val (.int p3), .val (.ref x1), .val (.ref x2), .val (.ref x3), .val (.ref d4), .val (.ref y4), .val (.int j1), .val (.int j2), .val (.int j3), .unset, .unset, .unset] [])
  refine GoH.st (fun tT kT => XS.aload X11.here hx rfl (hb hby at_111) rfl rfl  kT) ?_
  show GoH _ _ _ _ _ _ _ _ _ _  T11 (mkF m 113 #[.val (.int p1), .val (.int p2), .val (.int p3), .val (.ref x1), .val (.ref x2), .val (.ref x3), .val (.ref d4), .val (.ref y4), .val (.int j1), .val (.int j2), .val (.int j3), .unset, .unset, .unset] [(.ref y4)])
  refine GoH.st (fun tT kT => XS.iconst X11.here hx rfl (hb hby at_113) kT) ?_
  show GoH _ _ _ _ _ _ _ _ _ _  T11 (mkF m 114 #[.val (.int p1), .val (.int p2), .val (.int p3), .val (.ref x1), .val (.ref x2), .val (.ref x3), .val (.ref d4), .val (.ref y4), .val (.int j1), .val (.int j2), .val (.int j3), .unset, .unset, .unset] [(.int (2 : Int32)), (.ref y4)])
  obtain ⟨cq12, kq12, q12a, q12b, q12c⟩ := isOf hZ e11q E_y4
  refine GoH.pure (w := (some (.int (own_chr (M.getD (0 + 2) 0))))) (rest := []) (pc' := 117) (X11.virtualBack hx (y := (⟨"java/lang/String", "charAt", "(I)C"⟩ : MethodName)) (z := (⟨"java/lang/String", "charAt", "(I)C"⟩ : MethodName)) hown (mvT hZ (hw _ (List.mem_of_getElem? (i := 222) rfl))) (mvT hZ (hw _ (List.mem_of_getElem? (i := 223) rfl))) (notFace_of_selects (args := #[]) (mvT hZ (hw _ (List.mem_of_getElem? (i := 225) rfl)))) (mvT hZ (hw _ (List.mem_of_getElem? (i := 225) rfl))) (mvT hZ (hw _ (List.mem_of_getElem? (i := 224) rfl))) (by decide) (backOf (W := 0) (rmCA l Z a0 hw [] y4 zc fm t4 kt4 M (0 + 2) T4.heap n0 O S_COMPACT hcs S_SIO ref_fm E_y4 C_y4 V_y4 A_t4 (own_i1 lM 2 (by decide)) hM5) hZ (hw _ (List.mem_of_getElem? (i := 226) rfl)) (hw _ (List.mem_of_getElem? (i := 5) rfl)) (by decide) (by decide)) q12a q12c (g := (mkF m 114 #[.val (.int p1), .val (.int p2), .val (.int p3), .val (.ref x1), .val (.ref x2), .val (.ref x3), .val (.ref d4), .val (.ref y4), .val (.int j1), .val (.int j2), .val (.int j3), .unset, .unset, .unset] [(.int (2 : Int32)), (.ref y4)])) rfl (by rw [hml]; rfl) (Steps.refl _) (argsL := [(.int (2 : Int32))]) (rest := []) (lenOf pd__I_C rfl) rfl (by show 2 * 0 + _ ≤ _; exact Nat.le_of_eq rfl) (hb hby at_114) (fun _ _ => ⟨rfl, e11q, (by decide : 28 + 0 ≤ _), (by decide : 3324 + 0 ≤ _)⟩)) (fun _ _ _ q => q) N11 (fun T12 L12 X12 e12q N12 => ?_)
  show GoH _ _ _ _ _ _ _ _ _ _  T12 (mkF m 117 #[.val (.int p1), .val (.int p2), .val (.int p3), .val (.ref x1), .val (.ref x2), .val (.ref x3), .val (.ref d4), .val (.ref y4), .val (.int j1), .val (.int j2), .val (.int j3), .unset, .unset, .unset] [(.int (own_chr (M.getD (0 + 2) 0)))])
  refine GoH.st (fun tT kT => XS.bipush X12.here hx rfl (hb hby at_117) kT) ?_
  show GoH _ _ _ _ _ _ _ _ _ _  T12 (mkF m 119 #[.val (.int p1), .val (.int p2), .val (.int p3), .val (.ref x1), .val (.ref x2), .val (.ref x3), .val (.ref d4), .val (.ref y4), .val (.int j1), .val (.int j2), .val (.int j3), .unset, .unset, .unset] [(.int (115 : Int32)), (.int (own_chr (M.getD (0 + 2) 0)))])
  refine GoH.st (fun tT kT => XS.icmpNo X12.here hx rfl (hb hby at_119) rfl (teq (own_lit qe1 (own_ae1 (k := 2)) (by decide +kernel) (by decide +kernel) : (own_chr (M.getD (0 + 2) 0)) = (115 : Int32))).2 kT) ?_
  show GoH _ _ _ _ _ _ _ _ _ _  T12 (mkF m 122 #[.val (.int p1), .val (.int p2), .val (.int p3), .val (.ref x1), .val (.ref x2), .val (.ref x3), .val (.ref d4), .val (.ref y4), .val (.int j1), .val (.int j2), .val (.int j3), .unset, .unset, .unset] [])
  refine GoH.st (fun tT kT => XS.aload X12.here hx rfl (hb hby at_122) rfl rfl  kT) ?_
  show GoH _ _ _ _ _ _ _ _ _ _  T12 (mkF m 124 #[.val (.int p1), .val (.int p2), .val (.int p3), .val (.ref x1), .val (.ref x2), .val (.ref x3), .val (.ref d4), .val (.ref y4), .val (.int j1), .val (.int j2), .val (.int j3), .unset, .unset, .unset] [(.ref y4)])
  refine GoH.st (fun tT kT => XS.iconst X12.here hx rfl (hb hby at_124) kT) ?_
  show GoH _ _ _ _ _ _ _ _ _ _  T12 (mkF m 125 #[.val (.int p1), .val (.int p2), .val (.int p3), .val (.ref x1), .val (.ref x2), .val (.ref x3), .val (.ref d4), .val (.ref y4), .val (.int j1), .val (.int j2), .val (.int j3), .unset, .unset, .unset] [(.int (3 : Int32)), (.ref y4)])
  obtain ⟨cq13, kq13, q13a, q13b, q13c⟩ := isOf hZ e12q E_y4
  refine GoH.pure (w := (some (.int (own_chr (M.getD (0 + 3) 0))))) (rest := []) (pc' := 128) (X12.virtualBack hx (y := (⟨"java/lang/String", "charAt", "(I)C"⟩ : MethodName)) (z := (⟨"java/lang/String", "charAt", "(I)C"⟩ : MethodName)) hown (mvT hZ (hw _ (List.mem_of_getElem? (i := 222) rfl))) (mvT hZ (hw _ (List.mem_of_getElem? (i := 223) rfl))) (notFace_of_selects (args := #[]) (mvT hZ (hw _ (List.mem_of_getElem? (i := 225) rfl)))) (mvT hZ (hw _ (List.mem_of_getElem? (i := 225) rfl))) (mvT hZ (hw _ (List.mem_of_getElem? (i := 224) rfl))) (by decide) (backOf (W := 0) (rmCA l Z a0 hw [] y4 zc fm t4 kt4 M (0 + 3) T4.heap n0 O S_COMPACT hcs S_SIO ref_fm E_y4 C_y4 V_y4 A_t4 (own_i1 lM 3 (by decide)) hM5) hZ (hw _ (List.mem_of_getElem? (i := 226) rfl)) (hw _ (List.mem_of_getElem? (i := 5) rfl)) (by decide) (by decide)) q13a q13c (g := (mkF m 125 #[.val (.int p1), .val (.int p2), .val (.int p3), .val (.ref x1), .val (.ref x2), .val (.ref x3), .val (.ref d4), .val (.ref y4), .val (.int j1), .val (.int j2), .val (.int j3), .unset, .unset, .unset] [(.int (3 : Int32)), (.ref y4)])) rfl (by rw [hml]; rfl) (Steps.refl _) (argsL := [(.int (3 : Int32))]) (rest := []) (lenOf pd__I_C rfl) rfl (by show 2 * 0 + _ ≤ _; exact Nat.le_of_eq rfl) (hb hby at_125) (fun _ _ => ⟨rfl, e12q, (by decide : 28 + 0 ≤ _), (by decide : 3324 + 0 ≤ _)⟩)) (fun _ _ _ q => q) N12 (fun T13 L13 X13 e13q N13 => ?_)
  show GoH _ _ _ _ _ _ _ _ _ _  T13 (mkF m 128 #[.val (.int p1), .val (.int p2), .val (.int p3), .val (.ref x1), .val (.ref x2), .val (.ref x3), .val (.ref d4), .val (.ref y4), .val (.int j1), .val (.int j2), .val (.int j3), .unset, .unset, .unset] [(.int (own_chr (M.getD (0 + 3) 0)))])
  refine GoH.st (fun tT kT => XS.bipush X13.here hx rfl (hb hby at_128) kT) ?_
  show GoH _ _ _ _ _ _ _ _ _ _  T13 (mkF m 130 #[.val (.int p1), .val (.int p2), .val (.int p3), .val (.ref x1), .val (.ref x2), .val (.ref x3), .val (.ref d4), .val (.ref y4), .val (.int j1), .val (.int j2), .val (.int j3), .unset, .unset, .unset] [(.int (111 : Int32)), (.int (own_chr (M.getD (0 + 3) 0)))])
  refine GoH.st (fun tT kT => XS.icmpNo X13.here hx rfl (hb hby at_130) rfl (teq (own_lit qe1 (own_ae1 (k := 3)) (by decide +kernel) (by decide +kernel) : (own_chr (M.getD (0 + 3) 0)) = (111 : Int32))).2 kT) ?_
  show GoH _ _ _ _ _ _ _ _ _ _  T13 (mkF m 133 #[.val (.int p1), .val (.int p2), .val (.int p3), .val (.ref x1), .val (.ref x2), .val (.ref x3), .val (.ref d4), .val (.ref y4), .val (.int j1), .val (.int j2), .val (.int j3), .unset, .unset, .unset] [])
  refine GoH.st (fun tT kT => XS.aload X13.here hx rfl (hb hby at_133) rfl rfl  kT) ?_
  show GoH _ _ _ _ _ _ _ _ _ _  T13 (mkF m 135 #[.val (.int p1), .val (.int p2), .val (.int p3), .val (.ref x1), .val (.ref x2), .val (.ref x3), .val (.ref d4), .val (.ref y4), .val (.int j1), .val (.int j2), .val (.int j3), .unset, .unset, .unset] [(.ref y4)])
  refine GoH.st (fun tT kT => XS.iconst X13.here hx rfl (hb hby at_135) kT) ?_
  show GoH _ _ _ _ _ _ _ _ _ _  T13 (mkF m 136 #[.val (.int p1), .val (.int p2), .val (.int p3), .val (.ref x1), .val (.ref x2), .val (.ref x3), .val (.ref d4), .val (.ref y4), .val (.int j1), .val (.int j2), .val (.int j3), .unset, .unset, .unset] [(.int (4 : Int32)), (.ref y4)])
  obtain ⟨cq14, kq14, q14a, q14b, q14c⟩ := isOf hZ e13q E_y4
  refine GoH.pure (w := (some (.int (own_chr (M.getD (0 + 4) 0))))) (rest := []) (pc' := 139) (X13.virtualBack hx (y := (⟨"java/lang/String", "charAt", "(I)C"⟩ : MethodName)) (z := (⟨"java/lang/String", "charAt", "(I)C"⟩ : MethodName)) hown (mvT hZ (hw _ (List.mem_of_getElem? (i := 222) rfl))) (mvT hZ (hw _ (List.mem_of_getElem? (i := 223) rfl))) (notFace_of_selects (args := #[]) (mvT hZ (hw _ (List.mem_of_getElem? (i := 225) rfl)))) (mvT hZ (hw _ (List.mem_of_getElem? (i := 225) rfl))) (mvT hZ (hw _ (List.mem_of_getElem? (i := 224) rfl))) (by decide) (backOf (W := 0) (rmCA l Z a0 hw [] y4 zc fm t4 kt4 M (0 + 4) T4.heap n0 O S_COMPACT hcs S_SIO ref_fm E_y4 C_y4 V_y4 A_t4 (own_i1 lM 4 (by decide)) hM5) hZ (hw _ (List.mem_of_getElem? (i := 226) rfl)) (hw _ (List.mem_of_getElem? (i := 5) rfl)) (by decide) (by decide)) q14a q14c (g := (mkF m 136 #[.val (.int p1), .val (.int p2), .val (.int p3), .val (.ref x1), .val (.ref x2), .val (.ref x3), .val (.ref d4), .val (.ref y4), .val (.int j1), .val (.int j2), .val (.int j3), .unset, .unset, .unset] [(.int (4 : Int32)), (.ref y4)])) rfl (by rw [hml]; rfl) (Steps.refl _) (argsL := [(.int (4 : Int32))]) (rest := []) (lenOf pd__I_C rfl) rfl (by show 2 * 0 + _ ≤ _; exact Nat.le_of_eq rfl) (hb hby at_136) (fun _ _ => ⟨rfl, e13q, (by decide : 28 + 0 ≤ _), (by decide : 3324 + 0 ≤ _)⟩)) (fun _ _ _ q => q) N13 (fun T14 L14 X14 e14q N14 => ?_)
  show GoH _ _ _ _ _ _ _ _ _ _  T14 (mkF m 139 #[.val (.int p1), .val (.int p2), .val (.int p3), .val (.ref x1), .val (.ref x2), .val (.ref x3), .val (.ref d4), .val (.ref y4), .val (.int j1), .val (.int j2), .val (.int j3), .unset, .unset, .unset] [(.int (own_chr (M.getD (0 + 4) 0)))])
  refine GoH.st (fun tT kT => XS.bipush X14.here hx rfl (hb hby at_139) kT) ?_
  show GoH _ _ _ _ _ _ _ _ _ _  T14 (mkF m 141 #[.val (.int p1), .val (.int p2), .val (.int p3), .val (.ref x1), .val (.ref x2), .val (.ref x3), .val (.ref d4), .val (.ref y4), .val (.int j1), .val (.int j2), .val (.int j3), .unset, .unset, .unset] [(.int (117 : Int32)), (.int (own_chr (M.getD (0 + 4) 0)))])
  refine GoH.st (fun tT kT => XS.icmpNo X14.here hx rfl (hb hby at_141) rfl (teq (own_lit qe1 (own_ae1 (k := 4)) (by decide +kernel) (by decide +kernel) : (own_chr (M.getD (0 + 4) 0)) = (117 : Int32))).2 kT) ?_
  show GoH _ _ _ _ _ _ _ _ _ _  T14 (mkF m 144 #[.val (.int p1), .val (.int p2), .val (.int p3), .val (.ref x1), .val (.ref x2), .val (.ref x3), .val (.ref d4), .val (.ref y4), .val (.int j1), .val (.int j2), .val (.int j3), .unset, .unset, .unset] [])
  refine GoH.st (fun tT kT => XS.aload X14.here hx rfl (hb hby at_144) rfl rfl  kT) ?_
  show GoH _ _ _ _ _ _ _ _ _ _  T14 (mkF m 146 #[.val (.int p1), .val (.int p2), .val (.int p3), .val (.ref x1), .val (.ref x2), .val (.ref x3), .val (.ref d4), .val (.ref y4), .val (.int j1), .val (.int j2), .val (.int j3), .unset, .unset, .unset] [(.ref y4)])
  refine GoH.st (fun tT kT => XS.iconst X14.here hx rfl (hb hby at_146) kT) ?_
  show GoH _ _ _ _ _ _ _ _ _ _  T14 (mkF m 147 #[.val (.int p1), .val (.int p2), .val (.int p3), .val (.ref x1), .val (.ref x2), .val (.ref x3), .val (.ref d4), .val (.ref y4), .val (.int j1), .val (.int j2), .val (.int j3), .unset, .unset, .unset] [(.int (5 : Int32)), (.ref y4)])
  obtain ⟨cq15, kq15, q15a, q15b, q15c⟩ := isOf hZ e14q E_y4
  refine GoH.pure (w := (some (.int (own_chr (M.getD (0 + 5) 0))))) (rest := []) (pc' := 150) (X14.virtualBack hx (y := (⟨"java/lang/String", "charAt", "(I)C"⟩ : MethodName)) (z := (⟨"java/lang/String", "charAt", "(I)C"⟩ : MethodName)) hown (mvT hZ (hw _ (List.mem_of_getElem? (i := 222) rfl))) (mvT hZ (hw _ (List.mem_of_getElem? (i := 223) rfl))) (notFace_of_selects (args := #[]) (mvT hZ (hw _ (List.mem_of_getElem? (i := 225) rfl)))) (mvT hZ (hw _ (List.mem_of_getElem? (i := 225) rfl))) (mvT hZ (hw _ (List.mem_of_getElem? (i := 224) rfl))) (by decide) (backOf (W := 0) (rmCA l Z a0 hw [] y4 zc fm t4 kt4 M (0 + 5) T4.heap n0 O S_COMPACT hcs S_SIO ref_fm E_y4 C_y4 V_y4 A_t4 (own_i1 lM 5 (by decide)) hM5) hZ (hw _ (List.mem_of_getElem? (i := 226) rfl)) (hw _ (List.mem_of_getElem? (i := 5) rfl)) (by decide) (by decide)) q15a q15c (g := (mkF m 147 #[.val (.int p1), .val (.int p2), .val (.int p3), .val (.ref x1), .val (.ref x2), .val (.ref x3), .val (.ref d4), .val (.ref y4), .val (.int j1), .val (.int j2), .val (.int j3), .unset, .unset, .unset] [(.int (5 : Int32)), (.ref y4)])) rfl (by rw [hml]; rfl) (Steps.refl _) (argsL := [(.int (5 : Int32))]) (rest := []) (lenOf pd__I_C rfl) rfl (by show 2 * 0 + _ ≤ _; exact Nat.le_of_eq rfl) (hb hby at_147) (fun _ _ => ⟨rfl, e14q, (by decide : 28 + 0 ≤ _), (by decide : 3324 + 0 ≤ _)⟩)) (fun _ _ _ q => q) N14 (fun T15 L15 X15 e15q N15 => ?_)
  show GoH _ _ _ _ _ _ _ _ _ _  T15 (mkF m 150 #[.val (.int p1), .val (.int p2), .val (.int p3), .val (.ref x1), .val (.ref x2), .val (.ref x3), .val (.ref d4), .val (.ref y4), .val (.int j1), .val (.int j2), .val (.int j3), .unset, .unset, .unset] [(.int (own_chr (M.getD (0 + 5) 0)))])
  refine GoH.st (fun tT kT => XS.bipush X15.here hx rfl (hb hby at_150) kT) ?_
  show GoH _ _ _ _ _ _ _ _ _ _  T15 (mkF m 152 #[.val (.int p1), .val (.int p2), .val (.int p3), .val (.ref x1), .val (.ref x2), .val (.ref x3), .val (.ref d4), .val (.ref y4), .val (.int j1), .val (.int j2), .val (.int j3), .unset, .unset, .unset] [(.int (114 : Int32)), (.int (own_chr (M.getD (0 + 5) 0)))])
  refine GoH.st (fun tT kT => XS.icmpNo X15.here hx rfl (hb hby at_152) rfl (teq (own_lit qe1 (own_ae1 (k := 5)) (by decide +kernel) (by decide +kernel) : (own_chr (M.getD (0 + 5) 0)) = (114 : Int32))).2 kT) ?_
  show GoH _ _ _ _ _ _ _ _ _ _  T15 (mkF m 155 #[.val (.int p1), .val (.int p2), .val (.int p3), .val (.ref x1), .val (.ref x2), .val (.ref x3), .val (.ref d4), .val (.ref y4), .val (.int j1), .val (.int j2), .val (.int j3), .unset, .unset, .unset] [])
  refine GoH.st (fun tT kT => XS.aload X15.here hx rfl (hb hby at_155) rfl rfl  kT) ?_
  show GoH _ _ _ _ _ _ _ _ _ _  T15 (mkF m 157 #[.val (.int p1), .val (.int p2), .val (.int p3), .val (.ref x1), .val (.ref x2), .val (.ref x3), .val (.ref d4), .val (.ref y4), .val (.int j1), .val (.int j2), .val (.int j3), .unset, .unset, .unset] [(.ref y4)])
  refine GoH.st (fun tT kT => XS.bipush X15.here hx rfl (hb hby at_157) kT) ?_
  show GoH _ _ _ _ _ _ _ _ _ _  T15 (mkF m 159 #[.val (.int p1), .val (.int p2), .val (.int p3), .val (.ref x1), .val (.ref x2), .val (.ref x3), .val (.ref d4), .val (.ref y4), .val (.int j1), .val (.int j2), .val (.int j3), .unset, .unset, .unset] [(.int (6 : Int32)), (.ref y4)])
  obtain ⟨cq16, kq16, q16a, q16b, q16c⟩ := isOf hZ e15q E_y4
  refine GoH.pure (w := (some (.int (own_chr (M.getD (0 + 6) 0))))) (rest := []) (pc' := 162) (X15.virtualBack hx (y := (⟨"java/lang/String", "charAt", "(I)C"⟩ : MethodName)) (z := (⟨"java/lang/String", "charAt", "(I)C"⟩ : MethodName)) hown (mvT hZ (hw _ (List.mem_of_getElem? (i := 222) rfl))) (mvT hZ (hw _ (List.mem_of_getElem? (i := 223) rfl))) (notFace_of_selects (args := #[]) (mvT hZ (hw _ (List.mem_of_getElem? (i := 225) rfl)))) (mvT hZ (hw _ (List.mem_of_getElem? (i := 225) rfl))) (mvT hZ (hw _ (List.mem_of_getElem? (i := 224) rfl))) (by decide) (backOf (W := 0) (rmCA l Z a0 hw [] y4 zc fm t4 kt4 M (0 + 6) T4.heap n0 O S_COMPACT hcs S_SIO ref_fm E_y4 C_y4 V_y4 A_t4 (own_i1 lM 6 (by decide)) hM5) hZ (hw _ (List.mem_of_getElem? (i := 226) rfl)) (hw _ (List.mem_of_getElem? (i := 5) rfl)) (by decide) (by decide)) q16a q16c (g := (mkF m 159 #[.val (.int p1), .val (.int p2), .val (.int p3), .val (.ref x1), .val (.ref x2), .val (.ref x3), .val (.ref d4), .val (.ref y4), .val (.int j1), .val (.int j2), .val (.int j3), .unset, .unset, .unset] [(.int (6 : Int32)), (.ref y4)])) rfl (by rw [hml]; rfl) (Steps.refl _) (argsL := [(.int (6 : Int32))]) (rest := []) (lenOf pd__I_C rfl) rfl (by show 2 * 0 + _ ≤ _; exact Nat.le_of_eq rfl) (hb hby at_159) (fun _ _ => ⟨rfl, e15q, (by decide : 28 + 0 ≤ _), (by decide : 3324 + 0 ≤ _)⟩)) (fun _ _ _ q => q) N15 (fun T16 L16 X16 e16q N16 => ?_)
  show GoH _ _ _ _ _ _ _ _ _ _  T16 (mkF m 162 #[.val (.int p1), .val (.int p2), .val (.int p3), .val (.ref x1), .val (.ref x2), .val (.ref x3), .val (.ref d4), .val (.ref y4), .val (.int j1), .val (.int j2), .val (.int j3), .unset, .unset, .unset] [(.int (own_chr (M.getD (0 + 6) 0)))])
  refine GoH.st (fun tT kT => XS.bipush X16.here hx rfl (hb hby at_162) kT) ?_
  show GoH _ _ _ _ _ _ _ _ _ _  T16 (mkF m 164 #[.val (.int p1), .val (.int p2), .val (.int p3), .val (.ref x1), .val (.ref x2), .val (.ref x3), .val (.ref d4), .val (.ref y4), .val (.int j1), .val (.int j2), .val (.int j3), .unset, .unset, .unset] [(.int (99 : Int32)), (.int (own_chr (M.getD (0 + 6) 0)))])
  refine GoH.st (fun tT kT => XS.icmpNo X16.here hx rfl (hb hby at_164) rfl (teq (own_lit qe1 (own_ae1 (k := 6)) (by decide +kernel) (by decide +kernel) : (own_chr (M.getD (0 + 6) 0)) = (99 : Int32))).2 kT) ?_
  show GoH _ _ _ _ _ _ _ _ _ _  T16 (mkF m 167 #[.val (.int p1), .val (.int p2), .val (.int p3), .val (.ref x1), .val (.ref x2), .val (.ref x3), .val (.ref d4), .val (.ref y4), .val (.int j1), .val (.int j2), .val (.int j3), .unset, .unset, .unset] [])
  refine GoH.st (fun tT kT => XS.aload X16.here hx rfl (hb hby at_167) rfl rfl  kT) ?_
  show GoH _ _ _ _ _ _ _ _ _ _  T16 (mkF m 169 #[.val (.int p1), .val (.int p2), .val (.int p3), .val (.ref x1), .val (.ref x2), .val (.ref x3), .val (.ref d4), .val (.ref y4), .val (.int j1), .val (.int j2), .val (.int j3), .unset, .unset, .unset] [(.ref y4)])
  refine GoH.st (fun tT kT => XS.bipush X16.here hx rfl (hb hby at_169) kT) ?_
  show GoH _ _ _ _ _ _ _ _ _ _  T16 (mkF m 171 #[.val (.int p1), .val (.int p2), .val (.int p3), .val (.ref x1), .val (.ref x2), .val (.ref x3), .val (.ref d4), .val (.ref y4), .val (.int j1), .val (.int j2), .val (.int j3), .unset, .unset, .unset] [(.int (7 : Int32)), (.ref y4)])
  obtain ⟨cq17, kq17, q17a, q17b, q17c⟩ := isOf hZ e16q E_y4
  refine GoH.pure (w := (some (.int (own_chr (M.getD (0 + 7) 0))))) (rest := []) (pc' := 174) (X16.virtualBack hx (y := (⟨"java/lang/String", "charAt", "(I)C"⟩ : MethodName)) (z := (⟨"java/lang/String", "charAt", "(I)C"⟩ : MethodName)) hown (mvT hZ (hw _ (List.mem_of_getElem? (i := 222) rfl))) (mvT hZ (hw _ (List.mem_of_getElem? (i := 223) rfl))) (notFace_of_selects (args := #[]) (mvT hZ (hw _ (List.mem_of_getElem? (i := 225) rfl)))) (mvT hZ (hw _ (List.mem_of_getElem? (i := 225) rfl))) (mvT hZ (hw _ (List.mem_of_getElem? (i := 224) rfl))) (by decide) (backOf (W := 0) (rmCA l Z a0 hw [] y4 zc fm t4 kt4 M (0 + 7) T4.heap n0 O S_COMPACT hcs S_SIO ref_fm E_y4 C_y4 V_y4 A_t4 (own_i1 lM 7 (by decide)) hM5) hZ (hw _ (List.mem_of_getElem? (i := 226) rfl)) (hw _ (List.mem_of_getElem? (i := 5) rfl)) (by decide) (by decide)) q17a q17c (g := (mkF m 171 #[.val (.int p1), .val (.int p2), .val (.int p3), .val (.ref x1), .val (.ref x2), .val (.ref x3), .val (.ref d4), .val (.ref y4), .val (.int j1), .val (.int j2), .val (.int j3), .unset, .unset, .unset] [(.int (7 : Int32)), (.ref y4)])) rfl (by rw [hml]; rfl) (Steps.refl _) (argsL := [(.int (7 : Int32))]) (rest := []) (lenOf pd__I_C rfl) rfl (by show 2 * 0 + _ ≤ _; exact Nat.le_of_eq rfl) (hb hby at_171) (fun _ _ => ⟨rfl, e16q, (by decide : 28 + 0 ≤ _), (by decide : 3324 + 0 ≤ _)⟩)) (fun _ _ _ q => q) N16 (fun T17 L17 X17 e17q N17 => ?_)
  show GoH _ _ _ _ _ _ _ _ _ _  T17 (mkF m 174 #[.val (.int p1), .val (.int p2), .val (.int p3), .val (.ref x1), .val (.ref x2), .val (.ref x3), .val (.ref d4), .val (.ref y4), .val (.int j1), .val (.int j2), .val (.int j3), .unset, .unset, .unset] [(.int (own_chr (M.getD (0 + 7) 0)))])
  refine GoH.st (fun tT kT => XS.bipush X17.here hx rfl (hb hby at_174) kT) ?_
  show GoH _ _ _ _ _ _ _ _ _ _  T17 (mkF m 176 #[.val (.int p1), .val (.int p2), .val (.int p3), .val (.ref x1), .val (.ref x2), .val (.ref x3), .val (.ref d4), .val (.ref y4), .val (.int j1), .val (.int j2), .val (.int j3), .unset, .unset, .unset] [(.int (101 : Int32)), (.int (own_chr (M.getD (0 + 7) 0)))])
  refine GoH.st (fun tT kT => XS.icmpNo X17.here hx rfl (hb hby at_176) rfl (teq (own_lit qe1 (own_ae1 (k := 7)) (by decide +kernel) (by decide +kernel) : (own_chr (M.getD (0 + 7) 0)) = (101 : Int32))).2 kT) ?_
  show GoH _ _ _ _ _ _ _ _ _ _  T17 (mkF m 179 #[.val (.int p1), .val (.int p2), .val (.int p3), .val (.ref x1), .val (.ref x2), .val (.ref x3), .val (.ref d4), .val (.ref y4), .val (.int j1), .val (.int j2), .val (.int j3), .unset, .unset, .unset] [])
  refine GoH.st (fun tT kT => XS.aload X17.here hx rfl (hb hby at_179) rfl rfl  kT) ?_
  show GoH _ _ _ _ _ _ _ _ _ _  T17 (mkF m 181 #[.val (.int p1), .val (.int p2), .val (.int p3), .val (.ref x1), .val (.ref x2), .val (.ref x3), .val (.ref d4), .val (.ref y4), .val (.int j1), .val (.int j2), .val (.int j3), .unset, .unset, .unset] [(.ref y4)])
  refine GoH.st (fun tT kT => XS.bipush X17.here hx rfl (hb hby at_181) kT) ?_
  show GoH _ _ _ _ _ _ _ _ _ _  T17 (mkF m 183 #[.val (.int p1), .val (.int p2), .val (.int p3), .val (.ref x1), .val (.ref x2), .val (.ref x3), .val (.ref d4), .val (.ref y4), .val (.int j1), .val (.int j2), .val (.int j3), .unset, .unset, .unset] [(.int (8 : Int32)), (.ref y4)])
  obtain ⟨cq18, kq18, q18a, q18b, q18c⟩ := isOf hZ e17q E_y4
  refine GoH.pure (w := (some (.int (own_chr (M.getD (0 + 8) 0))))) (rest := []) (pc' := 186) (X17.virtualBack hx (y := (⟨"java/lang/String", "charAt", "(I)C"⟩ : MethodName)) (z := (⟨"java/lang/String", "charAt", "(I)C"⟩ : MethodName)) hown (mvT hZ (hw _ (List.mem_of_getElem? (i := 222) rfl))) (mvT hZ (hw _ (List.mem_of_getElem? (i := 223) rfl))) (notFace_of_selects (args := #[]) (mvT hZ (hw _ (List.mem_of_getElem? (i := 225) rfl)))) (mvT hZ (hw _ (List.mem_of_getElem? (i := 225) rfl))) (mvT hZ (hw _ (List.mem_of_getElem? (i := 224) rfl))) (by decide) (backOf (W := 0) (rmCA l Z a0 hw [] y4 zc fm t4 kt4 M (0 + 8) T4.heap n0 O S_COMPACT hcs S_SIO ref_fm E_y4 C_y4 V_y4 A_t4 (own_i1 lM 8 (by decide)) hM5) hZ (hw _ (List.mem_of_getElem? (i := 226) rfl)) (hw _ (List.mem_of_getElem? (i := 5) rfl)) (by decide) (by decide)) q18a q18c (g := (mkF m 183 #[.val (.int p1), .val (.int p2), .val (.int p3), .val (.ref x1), .val (.ref x2), .val (.ref x3), .val (.ref d4), .val (.ref y4), .val (.int j1), .val (.int j2), .val (.int j3), .unset, .unset, .unset] [(.int (8 : Int32)), (.ref y4)])) rfl (by rw [hml]; rfl) (Steps.refl _) (argsL := [(.int (8 : Int32))]) (rest := []) (lenOf pd__I_C rfl) rfl (by show 2 * 0 + _ ≤ _; exact Nat.le_of_eq rfl) (hb hby at_183) (fun _ _ => ⟨rfl, e17q, (by decide : 28 + 0 ≤ _), (by decide : 3324 + 0 ≤ _)⟩)) (fun _ _ _ q => q) N17 (fun T18 L18 X18 e18q N18 => ?_)
  show GoH _ _ _ _ _ _ _ _ _ _  T18 (mkF m 186 #[.val (.int p1), .val (.int p2), .val (.int p3), .val (.ref x1), .val (.ref x2), .val (.ref x3), .val (.ref d4), .val (.ref y4), .val (.int j1), .val (.int j2), .val (.int j3), .unset, .unset, .unset] [(.int (own_chr (M.getD (0 + 8) 0)))])
  refine GoH.st (fun tT kT => XS.bipush X18.here hx rfl (hb hby at_186) kT) ?_
  show GoH _ _ _ _ _ _ _ _ _ _  T18 (mkF m 188 #[.val (.int p1), .val (.int p2), .val (.int p3), .val (.ref x1), .val (.ref x2), .val (.ref x3), .val (.ref d4), .val (.ref y4), .val (.int j1), .val (.int j2), .val (.int j3), .unset, .unset, .unset] [(.int (32 : Int32)), (.int (own_chr (M.getD (0 + 8) 0)))])
  refine GoH.st (fun tT kT => XS.icmpNo X18.here hx rfl (hb hby at_188) rfl (teq (own_lit qe1 (own_ae1 (k := 8)) (by decide +kernel) (by decide +kernel) : (own_chr (M.getD (0 + 8) 0)) = (32 : Int32))).2 kT) ?_
  show GoH _ _ _ _ _ _ _ _ _ _  T18 (mkF m 191 #[.val (.int p1), .val (.int p2), .val (.int p3), .val (.ref x1), .val (.ref x2), .val (.ref x3), .val (.ref d4), .val (.ref y4), .val (.int j1), .val (.int j2), .val (.int j3), .unset, .unset, .unset] [])
  refine GoH.st (fun tT kT => XS.aload X18.here hx rfl (hb hby at_191) rfl rfl  kT) ?_
  show GoH _ _ _ _ _ _ _ _ _ _  T18 (mkF m 193 #[.val (.int p1), .val (.int p2), .val (.int p3), .val (.ref x1), .val (.ref x2), .val (.ref x3), .val (.ref d4), .val (.ref y4), .val (.int j1), .val (.int j2), .val (.int j3), .unset, .unset, .unset] [(.ref y4)])
  refine GoH.st (fun tT kT => XS.bipush X18.here hx rfl (hb hby at_193) kT) ?_
  show GoH _ _ _ _ _ _ _ _ _ _  T18 (mkF m 195 #[.val (.int p1), .val (.int p2), .val (.int p3), .val (.ref x1), .val (.ref x2), .val (.ref x3), .val (.ref d4), .val (.ref y4), .val (.int j1), .val (.int j2), .val (.int j3), .unset, .unset, .unset] [(.int (9 : Int32)), (.ref y4)])
  obtain ⟨cq19, kq19, q19a, q19b, q19c⟩ := isOf hZ e18q E_y4
  refine GoH.pure (w := (some (.int (own_chr (M.getD (0 + 9) 0))))) (rest := []) (pc' := 198) (X18.virtualBack hx (y := (⟨"java/lang/String", "charAt", "(I)C"⟩ : MethodName)) (z := (⟨"java/lang/String", "charAt", "(I)C"⟩ : MethodName)) hown (mvT hZ (hw _ (List.mem_of_getElem? (i := 222) rfl))) (mvT hZ (hw _ (List.mem_of_getElem? (i := 223) rfl))) (notFace_of_selects (args := #[]) (mvT hZ (hw _ (List.mem_of_getElem? (i := 225) rfl)))) (mvT hZ (hw _ (List.mem_of_getElem? (i := 225) rfl))) (mvT hZ (hw _ (List.mem_of_getElem? (i := 224) rfl))) (by decide) (backOf (W := 0) (rmCA l Z a0 hw [] y4 zc fm t4 kt4 M (0 + 9) T4.heap n0 O S_COMPACT hcs S_SIO ref_fm E_y4 C_y4 V_y4 A_t4 (own_i1 lM 9 (by decide)) hM5) hZ (hw _ (List.mem_of_getElem? (i := 226) rfl)) (hw _ (List.mem_of_getElem? (i := 5) rfl)) (by decide) (by decide)) q19a q19c (g := (mkF m 195 #[.val (.int p1), .val (.int p2), .val (.int p3), .val (.ref x1), .val (.ref x2), .val (.ref x3), .val (.ref d4), .val (.ref y4), .val (.int j1), .val (.int j2), .val (.int j3), .unset, .unset, .unset] [(.int (9 : Int32)), (.ref y4)])) rfl (by rw [hml]; rfl) (Steps.refl _) (argsL := [(.int (9 : Int32))]) (rest := []) (lenOf pd__I_C rfl) rfl (by show 2 * 0 + _ ≤ _; exact Nat.le_of_eq rfl) (hb hby at_195) (fun _ _ => ⟨rfl, e18q, (by decide : 28 + 0 ≤ _), (by decide : 3324 + 0 ≤ _)⟩)) (fun _ _ _ q => q) N18 (fun T19 L19 X19 e19q N19 => ?_)
  show GoH _ _ _ _ _ _ _ _ _ _  T19 (mkF m 198 #[.val (.int p1), .val (.int p2), .val (.int p3), .val (.ref x1), .val (.ref x2), .val (.ref x3), .val (.ref d4), .val (.ref y4), .val (.int j1), .val (.int j2), .val (.int j3), .unset, .unset, .unset] [(.int (own_chr (M.getD (0 + 9) 0)))])
  refine GoH.st (fun tT kT => XS.bipush X19.here hx rfl (hb hby at_198) kT) ?_
  show GoH _ _ _ _ _ _ _ _ _ _  T19 (mkF m 200 #[.val (.int p1), .val (.int p2), .val (.int p3), .val (.ref x1), .val (.ref x2), .val (.ref x3), .val (.ref d4), .val (.ref y4), .val (.int j1), .val (.int j2), .val (.int j3), .unset, .unset, .unset] [(.int (34 : Int32)), (.int (own_chr (M.getD (0 + 9) 0)))])
  refine GoH.st (fun tT kT => XS.icmpNo X19.here hx rfl (hb hby at_200) rfl (teq (own_lit qe1 (own_ae1 (k := 9)) (by decide +kernel) (by decide +kernel) : (own_chr (M.getD (0 + 9) 0)) = (34 : Int32))).2 kT) ?_
  show GoH _ _ _ _ _ _ _ _ _ _  T19 (mkF m 203 #[.val (.int p1), .val (.int p2), .val (.int p3), .val (.ref x1), .val (.ref x2), .val (.ref x3), .val (.ref d4), .val (.ref y4), .val (.int j1), .val (.int j2), .val (.int j3), .unset, .unset, .unset] [])
  refine GoH.st (fun tT kT => XS.iconst X19.here hx rfl (hb hby at_203) kT) ?_
  show GoH _ _ _ _ _ _ _ _ _ _  T19 (mkF m 204 #[.val (.int p1), .val (.int p2), .val (.int p3), .val (.ref x1), .val (.ref x2), .val (.ref x3), .val (.ref d4), .val (.ref y4), .val (.int j1), .val (.int j2), .val (.int j3), .unset, .unset, .unset] [(.int (1 : Int32))])
  refine GoH.st (fun tT kT => XS.goto X19.here hx rfl (pc0 := 204) (pc' := 208) rfl (hb hby at_204) (by decide) (by decide) kT) ?_
  show GoH _ _ _ _ _ _ _ _ _ _  T19 (mkF m 208 #[.val (.int p1), .val (.int p2), .val (.int p3), .val (.ref x1), .val (.ref x2), .val (.ref x3), .val (.ref d4), .val (.ref y4), .val (.int j1), .val (.int j2), .val (.int j3), .unset, .unset, .unset] [(.int (1 : Int32))])
  refine GoH.st (fun tT kT => XS.istore X19.here hx rfl (hb hby at_208) rfl (l' := #[.val (.int p1), .val (.int p2), .val (.int p3), .val (.ref x1), .val (.ref x2), .val (.ref x3), .val (.ref d4), .val (.ref y4), .val (.int j1), .val (.int j2), .val (.int j3), .val (.int (1 : Int32)), .unset, .unset]) rfl kT) ?_
  show GoH _ _ _ _ _ _ _ _ _ _  T19 (mkF m 210 #[.val (.int p1), .val (.int p2), .val (.int p3), .val (.ref x1), .val (.ref x2), .val (.ref x3), .val (.ref d4), .val (.ref y4), .val (.int j1), .val (.int j2), .val (.int j3), .val (.int (1 : Int32)), .unset, .unset] [])
  refine GoH.st (fun tT kT => XS.iload X19.here hx rfl (hb hby at_210) rfl  kT) ?_
  show GoH _ _ _ _ _ _ _ _ _ _  T19 (mkF m 212 #[.val (.int p1), .val (.int p2), .val (.int p3), .val (.ref x1), .val (.ref x2), .val (.ref x3), .val (.ref d4), .val (.ref y4), .val (.int j1), .val (.int j2), .val (.int j3), .val (.int (1 : Int32)), .unset, .unset] [(.int (1 : Int32))])
  refine GoH.st (fun tT kT => XS.ifNo X19.here hx rfl (hb hby at_212) rfl ((if0 _ _).trans (feq (by decide : ¬ ((1 : Int32) = (0 : Int32)))).1) kT) ?_
  show GoH _ _ _ _ _ _ _ _ _ _  T19 (mkF m 215 #[.val (.int p1), .val (.int p2), .val (.int p3), .val (.ref x1), .val (.ref x2), .val (.ref x3), .val (.ref d4), .val (.ref y4), .val (.int j1), .val (.int j2), .val (.int j3), .val (.int (1 : Int32)), .unset, .unset] [])
  refine GoH.st (fun tT kT => XS.aload X19.here hx rfl (hb hby at_215) rfl rfl  kT) ?_
  show GoH _ _ _ _ _ _ _ _ _ _  T19 (mkF m 217 #[.val (.int p1), .val (.int p2), .val (.int p3), .val (.ref x1), .val (.ref x2), .val (.ref x3), .val (.ref d4), .val (.ref y4), .val (.int j1), .val (.int j2), .val (.int j3), .val (.int (1 : Int32)), .unset, .unset] [(.ref y4)])
  refine GoH.st (fun tT kT => XS.bipush X19.here hx rfl (hb hby at_217) kT) ?_
  show GoH _ _ _ _ _ _ _ _ _ _  T19 (mkF m 219 #[.val (.int p1), .val (.int p2), .val (.int p3), .val (.ref x1), .val (.ref x2), .val (.ref x3), .val (.ref d4), .val (.ref y4), .val (.int j1), .val (.int j2), .val (.int j3), .val (.int (1 : Int32)), .unset, .unset] [(.int (10 : Int32)), (.ref y4)])
  refine GoH.st (fun tT kT => XS.aloadN X19.here hx rfl (hb hby at_219) rfl rfl  kT) ?_
  show GoH _ _ _ _ _ _ _ _ _ _  T19 (mkF m 220 #[.val (.int p1), .val (.int p2), .val (.int p3), .val (.ref x1), .val (.ref x2), .val (.ref x3), .val (.ref d4), .val (.ref y4), .val (.int j1), .val (.int j2), .val (.int j3), .val (.int (1 : Int32)), .unset, .unset] [(.ref x1), (.int (10 : Int32)), (.ref y4)])
  refine GoH.pureS (w := (some (.int (1 : Int32)))) (rest := []) (pc' := 223) (Jvm.LawKit.callS X19 hx (y := (⟨"com/example/keyset/keyset/query/DeclarationExceptionForFieldPinLaw", "part", "(Ljava/lang/String;ILjava/lang/String;)Z"⟩ : MethodName)) hown (mvT hZ (hw _ (List.mem_of_getElem? (i := 244) rfl))) (mvT hZ (hw _ (List.mem_of_getElem? (i := 245) rfl))) (mvT hZ (hw _ (List.mem_of_getElem? (i := 2) rfl))) (mvT hZ (hw _ (List.mem_of_getElem? (i := 246) rfl))) (by decide) (backOf (W := 0) (rmPtf (10 : Int32) l Z a0 hw [] y4 x1 zc fm t4 kt4 M t1 kt1 cs1 10 T4.heap n0 O S_COMPACT hcs S_SIO ref_fm E_y4 C_y4 V_y4 A_t4 E_x1 C_x1 V_x1 A_t1 B_x1 (own_p1 lM) hM5 (fun i hi => own_mid qp1 (own_al1 i) hi) rfl) hZ (hw _ (List.mem_of_getElem? (i := 246) rfl)) (hw _ (List.mem_of_getElem? (i := 2) rfl)) (by decide) (by decide)) (g := (mkF m 220 #[.val (.int p1), .val (.int p2), .val (.int p3), .val (.ref x1), .val (.ref x2), .val (.ref x3), .val (.ref d4), .val (.ref y4), .val (.int j1), .val (.int j2), .val (.int j3), .val (.int (1 : Int32)), .unset, .unset] [(.ref x1), (.int (10 : Int32)), (.ref y4)])) rfl (by rw [hml]; rfl) (argsL := [(.ref y4), (.int (10 : Int32)), (.ref x1)]) (rest := []) (lenOf pd__Ljava_lang_String_ILjava_lang_String__Z rfl) rfl (by show 2 * 0 + _ ≤ _; exact Nat.le_of_eq rfl) (hb hby at_220) (fun _ _ => ⟨rfl, e19q, (by decide : 28 + 0 ≤ _), (by decide : 3324 + 0 ≤ _)⟩)) (fun _ _ _ q => q) N19 (fun T20 L20 X20 e20q N20 => ?_)
  show GoH _ _ _ _ _ _ _ _ _ _  T20 (mkF m 223 #[.val (.int p1), .val (.int p2), .val (.int p3), .val (.ref x1), .val (.ref x2), .val (.ref x3), .val (.ref d4), .val (.ref y4), .val (.int j1), .val (.int j2), .val (.int j3), .val (.int (1 : Int32)), .unset, .unset] [(.int (1 : Int32))])
  refine GoH.st (fun tT kT => XS.ifNo X20.here hx rfl (hb hby at_223) rfl ((if0 _ _).trans (feq (by decide : ¬ ((1 : Int32) = (0 : Int32)))).1) kT) ?_
  show GoH _ _ _ _ _ _ _ _ _ _  T20 (mkF m 226 #[.val (.int p1), .val (.int p2), .val (.int p3), .val (.ref x1), .val (.ref x2), .val (.ref x3), .val (.ref d4), .val (.ref y4), .val (.int j1), .val (.int j2), .val (.int j3), .val (.int (1 : Int32)), .unset, .unset] [])
  refine GoH.st (fun tT kT => XS.iconst X20.here hx rfl (hb hby at_226) kT) ?_
  show GoH _ _ _ _ _ _ _ _ _ _  T20 (mkF m 227 #[.val (.int p1), .val (.int p2), .val (.int p3), .val (.ref x1), .val (.ref x2), .val (.ref x3), .val (.ref d4), .val (.ref y4), .val (.int j1), .val (.int j2), .val (.int j3), .val (.int (1 : Int32)), .unset, .unset] [(.int (1 : Int32))])
  refine GoH.st (fun tT kT => XS.goto X20.here hx rfl (pc0 := 227) (pc' := 231) rfl (hb hby at_227) (by decide) (by decide) kT) ?_
  show GoH _ _ _ _ _ _ _ _ _ _  T20 (mkF m 231 #[.val (.int p1), .val (.int p2), .val (.int p3), .val (.ref x1), .val (.ref x2), .val (.ref x3), .val (.ref d4), .val (.ref y4), .val (.int j1), .val (.int j2), .val (.int j3), .val (.int (1 : Int32)), .unset, .unset] [(.int (1 : Int32))])
  refine GoH.st (fun tT kT => XS.istore X20.here hx rfl (hb hby at_231) rfl (l' := #[.val (.int p1), .val (.int p2), .val (.int p3), .val (.ref x1), .val (.ref x2), .val (.ref x3), .val (.ref d4), .val (.ref y4), .val (.int j1), .val (.int j2), .val (.int j3), .val (.int (1 : Int32)), .unset, .unset]) rfl kT) ?_
  show GoH _ _ _ _ _ _ _ _ _ _  T20 (mkF m 233 #[.val (.int p1), .val (.int p2), .val (.int p3), .val (.ref x1), .val (.ref x2), .val (.ref x3), .val (.ref d4), .val (.ref y4), .val (.int j1), .val (.int j2), .val (.int j3), .val (.int (1 : Int32)), .unset, .unset] [])
  refine GoH.st (fun tT kT => XS.bipush X20.here hx rfl (hb hby at_233) kT) ?_
  show GoH _ _ _ _ _ _ _ _ _ _  T20 (mkF m 235 #[.val (.int p1), .val (.int p2), .val (.int p3), .val (.ref x1), .val (.ref x2), .val (.ref x3), .val (.ref d4), .val (.ref y4), .val (.int j1), .val (.int j2), .val (.int j3), .val (.int (1 : Int32)), .unset, .unset] [(.int (10 : Int32))])
  refine GoH.st (fun tT kT => XS.iload X20.here hx rfl (hb hby at_235) rfl  kT) ?_
  show GoH _ _ _ _ _ _ _ _ _ _  T20 (mkF m 237 #[.val (.int p1), .val (.int p2), .val (.int p3), .val (.ref x1), .val (.ref x2), .val (.ref x3), .val (.ref d4), .val (.ref y4), .val (.int j1), .val (.int j2), .val (.int j3), .val (.int (1 : Int32)), .unset, .unset] [(.int j1), (.int (10 : Int32))])
  refine GoH.st (fun tT kT => XS.iadd X20.here hx rfl (hb hby at_237) rfl kT) ?_
  show GoH _ _ _ _ _ _ _ _ _ _  T20 (mkF m 238 #[.val (.int p1), .val (.int p2), .val (.int p3), .val (.ref x1), .val (.ref x2), .val (.ref x3), .val (.ref d4), .val (.ref y4), .val (.int j1), .val (.int j2), .val (.int j3), .val (.int (1 : Int32)), .unset, .unset] [(.int ((10 : Int32) + j1))])
  refine GoH.st (fun tT kT => XS.istore X20.here hx rfl (hb hby at_238) rfl (l' := #[.val (.int p1), .val (.int p2), .val (.int p3), .val (.ref x1), .val (.ref x2), .val (.ref x3), .val (.ref d4), .val (.ref y4), .val (.int j1), .val (.int j2), .val (.int j3), .val (.int (1 : Int32)), .val (.int ((10 : Int32) + j1)), .unset]) rfl kT) ?_
  show GoH _ _ _ _ _ _ _ _ _ _  T20 (mkF m 240 #[.val (.int p1), .val (.int p2), .val (.int p3), .val (.ref x1), .val (.ref x2), .val (.ref x3), .val (.ref d4), .val (.ref y4), .val (.int j1), .val (.int j2), .val (.int j3), .val (.int (1 : Int32)), .val (.int ((10 : Int32) + j1)), .unset] [])
  obtain ⟨oI, eq_oI⟩ : ∃ z, z = ((10 : Int32) + j1) := ⟨_, rfl⟩
  rw [← eq_oI]
  have io : oI = Int32.ofNat (10 + cs1.length) := by rw [eq_oI, eq_j1]; exact (Int32.ofNat_add 10 _).symm
  show GoH _ _ _ _ _ _ _ _ _ _  T20 (mkF m 240 #[.val (.int p1), .val (.int p2), .val (.int p3), .val (.ref x1), .val (.ref x2), .val (.ref x3), .val (.ref d4), .val (.ref y4), .val (.int j1), .val (.int j2), .val (.int j3), .val (.int (1 : Int32)), .val (.int oI), .unset] [])
  refine GoH.st (fun tT kT => XS.iload X20.here hx rfl (hb hby at_240) rfl  kT) ?_
  show GoH _ _ _ _ _ _ _ _ _ _  T20 (mkF m 242 #[.val (.int p1), .val (.int p2), .val (.int p3), .val (.ref x1), .val (.ref x2), .val (.ref x3), .val (.ref d4), .val (.ref y4), .val (.int j1), .val (.int j2), .val (.int j3), .val (.int (1 : Int32)), .val (.int oI), .unset] [(.int (1 : Int32))])
  refine GoH.st (fun tT kT => XS.ifNo X20.here hx rfl (hb hby at_242) rfl ((if0 _ _).trans (feq (by decide : ¬ ((1 : Int32) = (0 : Int32)))).1) kT) ?_
  show GoH _ _ _ _ _ _ _ _ _ _  T20 (mkF m 245 #[.val (.int p1), .val (.int p2), .val (.int p3), .val (.ref x1), .val (.ref x2), .val (.ref x3), .val (.ref d4), .val (.ref y4), .val (.int j1), .val (.int j2), .val (.int j3), .val (.int (1 : Int32)), .val (.int oI), .unset] [])
  refine GoH.st (fun tT kT => XS.aload X20.here hx rfl (hb hby at_245) rfl rfl  kT) ?_
  show GoH _ _ _ _ _ _ _ _ _ _  T20 (mkF m 247 #[.val (.int p1), .val (.int p2), .val (.int p3), .val (.ref x1), .val (.ref x2), .val (.ref x3), .val (.ref d4), .val (.ref y4), .val (.int j1), .val (.int j2), .val (.int j3), .val (.int (1 : Int32)), .val (.int oI), .unset] [(.ref y4)])
  refine GoH.st (fun tT kT => XS.iload X20.here hx rfl (hb hby at_247) rfl  kT) ?_
  show GoH _ _ _ _ _ _ _ _ _ _  T20 (mkF m 249 #[.val (.int p1), .val (.int p2), .val (.int p3), .val (.ref x1), .val (.ref x2), .val (.ref x3), .val (.ref d4), .val (.ref y4), .val (.int j1), .val (.int j2), .val (.int j3), .val (.int (1 : Int32)), .val (.int oI), .unset] [(.int oI), (.ref y4)])
  obtain ⟨cq21, kq21, q21a, q21b, q21c⟩ := isOf hZ e20q E_y4
  refine GoH.pure (w := (some (.int (own_chr (M.getD ((10 + cs1.length) + 0) 0))))) (rest := []) (pc' := 252) (X20.virtualBack hx (y := (⟨"java/lang/String", "charAt", "(I)C"⟩ : MethodName)) (z := (⟨"java/lang/String", "charAt", "(I)C"⟩ : MethodName)) hown (mvT hZ (hw _ (List.mem_of_getElem? (i := 222) rfl))) (mvT hZ (hw _ (List.mem_of_getElem? (i := 223) rfl))) (notFace_of_selects (args := #[]) (mvT hZ (hw _ (List.mem_of_getElem? (i := 225) rfl)))) (mvT hZ (hw _ (List.mem_of_getElem? (i := 225) rfl))) (mvT hZ (hw _ (List.mem_of_getElem? (i := 224) rfl))) (by decide) (backOf (W := 0) (rmCAf oI l Z a0 hw [] y4 zc fm t4 kt4 M ((10 + cs1.length) + 0) T4.heap n0 O S_COMPACT hcs S_SIO ref_fm E_y4 C_y4 V_y4 A_t4 (own_i2 lM 0 (by decide)) hM5 io) hZ (hw _ (List.mem_of_getElem? (i := 226) rfl)) (hw _ (List.mem_of_getElem? (i := 5) rfl)) (by decide) (by decide)) q21a q21c (g := (mkF m 249 #[.val (.int p1), .val (.int p2), .val (.int p3), .val (.ref x1), .val (.ref x2), .val (.ref x3), .val (.ref d4), .val (.ref y4), .val (.int j1), .val (.int j2), .val (.int j3), .val (.int (1 : Int32)), .val (.int oI), .unset] [(.int oI), (.ref y4)])) rfl (by rw [hml]; rfl) (Steps.refl _) (argsL := [(.int oI)]) (rest := []) (lenOf pd__I_C rfl) rfl (by show 2 * 0 + _ ≤ _; exact Nat.le_of_eq rfl) (hb hby at_249) (fun _ _ => ⟨rfl, e20q, (by decide : 28 + 0 ≤ _), (by decide : 3324 + 0 ≤ _)⟩)) (fun _ _ _ q => q) N20 (fun T21 L21 X21 e21q N21 => ?_)
  show GoH _ _ _ _ _ _ _ _ _ _  T21 (mkF m 252 #[.val (.int p1), .val (.int p2), .val (.int p3), .val (.ref x1), .val (.ref x2), .val (.ref x3), .val (.ref d4), .val (.ref y4), .val (.int j1), .val (.int j2), .val (.int j3), .val (.int (1 : Int32)), .val (.int oI), .unset] [(.int (own_chr (M.getD ((10 + cs1.length) + 0) 0)))])
  refine GoH.st (fun tT kT => XS.bipush X21.here hx rfl (hb hby at_252) kT) ?_
  show GoH _ _ _ _ _ _ _ _ _ _  T21 (mkF m 254 #[.val (.int p1), .val (.int p2), .val (.int p3), .val (.ref x1), .val (.ref x2), .val (.ref x3), .val (.ref d4), .val (.ref y4), .val (.int j1), .val (.int j2), .val (.int j3), .val (.int (1 : Int32)), .val (.int oI), .unset] [(.int (34 : Int32)), (.int (own_chr (M.getD ((10 + cs1.length) + 0) 0)))])
  refine GoH.st (fun tT kT => XS.icmpNo X21.here hx rfl (hb hby at_254) rfl (teq (own_lit qe2 (own_ae2 (k := 0)) (by decide +kernel) (by decide +kernel) : (own_chr (M.getD ((10 + cs1.length) + 0) 0)) = (34 : Int32))).2 kT) ?_
  show GoH _ _ _ _ _ _ _ _ _ _  T21 (mkF m 257 #[.val (.int p1), .val (.int p2), .val (.int p3), .val (.ref x1), .val (.ref x2), .val (.ref x3), .val (.ref d4), .val (.ref y4), .val (.int j1), .val (.int j2), .val (.int j3), .val (.int (1 : Int32)), .val (.int oI), .unset] [])
  refine GoH.st (fun tT kT => XS.aload X21.here hx rfl (hb hby at_257) rfl rfl  kT) ?_
  show GoH _ _ _ _ _ _ _ _ _ _  T21 (mkF m 259 #[.val (.int p1), .val (.int p2), .val (.int p3), .val (.ref x1), .val (.ref x2), .val (.ref x3), .val (.ref d4), .val (.ref y4), .val (.int j1), .val (.int j2), .val (.int j3), .val (.int (1 : Int32)), .val (.int oI), .unset] [(.ref y4)])
  refine GoH.st (fun tT kT => XS.iload X21.here hx rfl (hb hby at_259) rfl  kT) ?_
  show GoH _ _ _ _ _ _ _ _ _ _  T21 (mkF m 261 #[.val (.int p1), .val (.int p2), .val (.int p3), .val (.ref x1), .val (.ref x2), .val (.ref x3), .val (.ref d4), .val (.ref y4), .val (.int j1), .val (.int j2), .val (.int j3), .val (.int (1 : Int32)), .val (.int oI), .unset] [(.int oI), (.ref y4)])
  refine GoH.st (fun tT kT => XS.iconst X21.here hx rfl (hb hby at_261) kT) ?_
  show GoH _ _ _ _ _ _ _ _ _ _  T21 (mkF m 262 #[.val (.int p1), .val (.int p2), .val (.int p3), .val (.ref x1), .val (.ref x2), .val (.ref x3), .val (.ref d4), .val (.ref y4), .val (.int j1), .val (.int j2), .val (.int j3), .val (.int (1 : Int32)), .val (.int oI), .unset] [(.int (1 : Int32)), (.int oI), (.ref y4)])
  refine GoH.st (fun tT kT => XS.iadd X21.here hx rfl (hb hby at_262) rfl kT) ?_
  show GoH _ _ _ _ _ _ _ _ _ _  T21 (mkF m 263 #[.val (.int p1), .val (.int p2), .val (.int p3), .val (.ref x1), .val (.ref x2), .val (.ref x3), .val (.ref d4), .val (.ref y4), .val (.int j1), .val (.int j2), .val (.int j3), .val (.int (1 : Int32)), .val (.int oI), .unset] [(.int (oI + (1 : Int32))), (.ref y4)])
  obtain ⟨cq22, kq22, q22a, q22b, q22c⟩ := isOf hZ e21q E_y4
  refine GoH.pure (w := (some (.int (own_chr (M.getD ((10 + cs1.length) + 1) 0))))) (rest := []) (pc' := 266) (X21.virtualBack hx (y := (⟨"java/lang/String", "charAt", "(I)C"⟩ : MethodName)) (z := (⟨"java/lang/String", "charAt", "(I)C"⟩ : MethodName)) hown (mvT hZ (hw _ (List.mem_of_getElem? (i := 222) rfl))) (mvT hZ (hw _ (List.mem_of_getElem? (i := 223) rfl))) (notFace_of_selects (args := #[]) (mvT hZ (hw _ (List.mem_of_getElem? (i := 225) rfl)))) (mvT hZ (hw _ (List.mem_of_getElem? (i := 225) rfl))) (mvT hZ (hw _ (List.mem_of_getElem? (i := 224) rfl))) (by decide) (backOf (W := 0) (rmCAf (oI + (1 : Int32)) l Z a0 hw [] y4 zc fm t4 kt4 M ((10 + cs1.length) + 1) T4.heap n0 O S_COMPACT hcs S_SIO ref_fm E_y4 C_y4 V_y4 A_t4 (own_i2 lM 1 (by decide)) hM5 (own_ok io 1)) hZ (hw _ (List.mem_of_getElem? (i := 226) rfl)) (hw _ (List.mem_of_getElem? (i := 5) rfl)) (by decide) (by decide)) q22a q22c (g := (mkF m 263 #[.val (.int p1), .val (.int p2), .val (.int p3), .val (.ref x1), .val (.ref x2), .val (.ref x3), .val (.ref d4), .val (.ref y4), .val (.int j1), .val (.int j2), .val (.int j3), .val (.int (1 : Int32)), .val (.int oI), .unset] [(.int (oI + (1 : Int32))), (.ref y4)])) rfl (by rw [hml]; rfl) (Steps.refl _) (argsL := [(.int (oI + (1 : Int32)))]) (rest := []) (lenOf pd__I_C rfl) rfl (by show 2 * 0 + _ ≤ _; exact Nat.le_of_eq rfl) (hb hby at_263) (fun _ _ => ⟨rfl, e21q, (by decide : 28 + 0 ≤ _), (by decide : 3324 + 0 ≤ _)⟩)) (fun _ _ _ q => q) N21 (fun T22 L22 X22 e22q N22 => ?_)
  show GoH _ _ _ _ _ _ _ _ _ _  T22 (mkF m 266 #[.val (.int p1), .val (.int p2), .val (.int p3), .val (.ref x1), .val (.ref x2), .val (.ref x3), .val (.ref d4), .val (.ref y4), .val (.int j1), .val (.int j2), .val (.int j3), .val (.int (1 : Int32)), .val (.int oI), .unset] [(.int (own_chr (M.getD ((10 + cs1.length) + 1) 0)))])
  refine GoH.st (fun tT kT => XS.bipush X22.here hx rfl (hb hby at_266) kT) ?_
  show GoH _ _ _ _ _ _ _ _ _ _  T22 (mkF m 268 #[.val (.int p1), .val (.int p2), .val (.int p3), .val (.ref x1), .val (.ref x2), .val (.ref x3), .val (.ref d4), .val (.ref y4), .val (.int j1), .val (.int j2), .val (.int j3), .val (.int (1 : Int32)), .val (.int oI), .unset] [(.int (58 : Int32)), (.int (own_chr (M.getD ((10 + cs1.length) + 1) 0)))])
  refine GoH.st (fun tT kT => XS.icmpNo X22.here hx rfl (hb hby at_268) rfl (teq (own_lit qe2 (own_ae2 (k := 1)) (by decide +kernel) (by decide +kernel) : (own_chr (M.getD ((10 + cs1.length) + 1) 0)) = (58 : Int32))).2 kT) ?_
  show GoH _ _ _ _ _ _ _ _ _ _  T22 (mkF m 271 #[.val (.int p1), .val (.int p2), .val (.int p3), .val (.ref x1), .val (.ref x2), .val (.ref x3), .val (.ref d4), .val (.ref y4), .val (.int j1), .val (.int j2), .val (.int j3), .val (.int (1 : Int32)), .val (.int oI), .unset] [])
  refine GoH.st (fun tT kT => XS.aload X22.here hx rfl (hb hby at_271) rfl rfl  kT) ?_
  show GoH _ _ _ _ _ _ _ _ _ _  T22 (mkF m 273 #[.val (.int p1), .val (.int p2), .val (.int p3), .val (.ref x1), .val (.ref x2), .val (.ref x3), .val (.ref d4), .val (.ref y4), .val (.int j1), .val (.int j2), .val (.int j3), .val (.int (1 : Int32)), .val (.int oI), .unset] [(.ref y4)])
  refine GoH.st (fun tT kT => XS.iload X22.here hx rfl (hb hby at_273) rfl  kT) ?_
  show GoH _ _ _ _ _ _ _ _ _ _  T22 (mkF m 275 #[.val (.int p1), .val (.int p2), .val (.int p3), .val (.ref x1), .val (.ref x2), .val (.ref x3), .val (.ref d4), .val (.ref y4), .val (.int j1), .val (.int j2), .val (.int j3), .val (.int (1 : Int32)), .val (.int oI), .unset] [(.int oI), (.ref y4)])
  refine GoH.st (fun tT kT => XS.iconst X22.here hx rfl (hb hby at_275) kT) ?_
  show GoH _ _ _ _ _ _ _ _ _ _  T22 (mkF m 276 #[.val (.int p1), .val (.int p2), .val (.int p3), .val (.ref x1), .val (.ref x2), .val (.ref x3), .val (.ref d4), .val (.ref y4), .val (.int j1), .val (.int j2), .val (.int j3), .val (.int (1 : Int32)), .val (.int oI), .unset] [(.int (2 : Int32)), (.int oI), (.ref y4)])
  refine GoH.st (fun tT kT => XS.iadd X22.here hx rfl (hb hby at_276) rfl kT) ?_
  show GoH _ _ _ _ _ _ _ _ _ _  T22 (mkF m 277 #[.val (.int p1), .val (.int p2), .val (.int p3), .val (.ref x1), .val (.ref x2), .val (.ref x3), .val (.ref d4), .val (.ref y4), .val (.int j1), .val (.int j2), .val (.int j3), .val (.int (1 : Int32)), .val (.int oI), .unset] [(.int (oI + (2 : Int32))), (.ref y4)])
  obtain ⟨cq23, kq23, q23a, q23b, q23c⟩ := isOf hZ e22q E_y4
  refine GoH.pure (w := (some (.int (own_chr (M.getD ((10 + cs1.length) + 2) 0))))) (rest := []) (pc' := 280) (X22.virtualBack hx (y := (⟨"java/lang/String", "charAt", "(I)C"⟩ : MethodName)) (z := (⟨"java/lang/String", "charAt", "(I)C"⟩ : MethodName)) hown (mvT hZ (hw _ (List.mem_of_getElem? (i := 222) rfl))) (mvT hZ (hw _ (List.mem_of_getElem? (i := 223) rfl))) (notFace_of_selects (args := #[]) (mvT hZ (hw _ (List.mem_of_getElem? (i := 225) rfl)))) (mvT hZ (hw _ (List.mem_of_getElem? (i := 225) rfl))) (mvT hZ (hw _ (List.mem_of_getElem? (i := 224) rfl))) (by decide) (backOf (W := 0) (rmCAf (oI + (2 : Int32)) l Z a0 hw [] y4 zc fm t4 kt4 M ((10 + cs1.length) + 2) T4.heap n0 O S_COMPACT hcs S_SIO ref_fm E_y4 C_y4 V_y4 A_t4 (own_i2 lM 2 (by decide)) hM5 (own_ok io 2)) hZ (hw _ (List.mem_of_getElem? (i := 226) rfl)) (hw _ (List.mem_of_getElem? (i := 5) rfl)) (by decide) (by decide)) q23a q23c (g := (mkF m 277 #[.val (.int p1), .val (.int p2), .val (.int p3), .val (.ref x1), .val (.ref x2), .val (.ref x3), .val (.ref d4), .val (.ref y4), .val (.int j1), .val (.int j2), .val (.int j3), .val (.int (1 : Int32)), .val (.int oI), .unset] [(.int (oI + (2 : Int32))), (.ref y4)])) rfl (by rw [hml]; rfl) (Steps.refl _) (argsL := [(.int (oI + (2 : Int32)))]) (rest := []) (lenOf pd__I_C rfl) rfl (by show 2 * 0 + _ ≤ _; exact Nat.le_of_eq rfl) (hb hby at_277) (fun _ _ => ⟨rfl, e22q, (by decide : 28 + 0 ≤ _), (by decide : 3324 + 0 ≤ _)⟩)) (fun _ _ _ q => q) N22 (fun T23 L23 X23 e23q N23 => ?_)
  show GoH _ _ _ _ _ _ _ _ _ _  T23 (mkF m 280 #[.val (.int p1), .val (.int p2), .val (.int p3), .val (.ref x1), .val (.ref x2), .val (.ref x3), .val (.ref d4), .val (.ref y4), .val (.int j1), .val (.int j2), .val (.int j3), .val (.int (1 : Int32)), .val (.int oI), .unset] [(.int (own_chr (M.getD ((10 + cs1.length) + 2) 0)))])
  refine GoH.st (fun tT kT => XS.bipush X23.here hx rfl (hb hby at_280) kT) ?_
  show GoH _ _ _ _ _ _ _ _ _ _  T23 (mkF m 282 #[.val (.int p1), .val (.int p2), .val (.int p3), .val (.ref x1), .val (.ref x2), .val (.ref x3), .val (.ref d4), .val (.ref y4), .val (.int j1), .val (.int j2), .val (.int j3), .val (.int (1 : Int32)), .val (.int oI), .unset] [(.int (32 : Int32)), (.int (own_chr (M.getD ((10 + cs1.length) + 2) 0)))])
  refine GoH.st (fun tT kT => XS.icmpNo X23.here hx rfl (hb hby at_282) rfl (teq (own_lit qe2 (own_ae2 (k := 2)) (by decide +kernel) (by decide +kernel) : (own_chr (M.getD ((10 + cs1.length) + 2) 0)) = (32 : Int32))).2 kT) ?_
  show GoH _ _ _ _ _ _ _ _ _ _  T23 (mkF m 285 #[.val (.int p1), .val (.int p2), .val (.int p3), .val (.ref x1), .val (.ref x2), .val (.ref x3), .val (.ref d4), .val (.ref y4), .val (.int j1), .val (.int j2), .val (.int j3), .val (.int (1 : Int32)), .val (.int oI), .unset] [])
  refine GoH.st (fun tT kT => XS.aload X23.here hx rfl (hb hby at_285) rfl rfl  kT) ?_
  show GoH _ _ _ _ _ _ _ _ _ _  T23 (mkF m 287 #[.val (.int p1), .val (.int p2), .val (.int p3), .val (.ref x1), .val (.ref x2), .val (.ref x3), .val (.ref d4), .val (.ref y4), .val (.int j1), .val (.int j2), .val (.int j3), .val (.int (1 : Int32)), .val (.int oI), .unset] [(.ref y4)])
  refine GoH.st (fun tT kT => XS.iload X23.here hx rfl (hb hby at_287) rfl  kT) ?_
  show GoH _ _ _ _ _ _ _ _ _ _  T23 (mkF m 289 #[.val (.int p1), .val (.int p2), .val (.int p3), .val (.ref x1), .val (.ref x2), .val (.ref x3), .val (.ref d4), .val (.ref y4), .val (.int j1), .val (.int j2), .val (.int j3), .val (.int (1 : Int32)), .val (.int oI), .unset] [(.int oI), (.ref y4)])
  refine GoH.st (fun tT kT => XS.iconst X23.here hx rfl (hb hby at_289) kT) ?_
  show GoH _ _ _ _ _ _ _ _ _ _  T23 (mkF m 290 #[.val (.int p1), .val (.int p2), .val (.int p3), .val (.ref x1), .val (.ref x2), .val (.ref x3), .val (.ref d4), .val (.ref y4), .val (.int j1), .val (.int j2), .val (.int j3), .val (.int (1 : Int32)), .val (.int oI), .unset] [(.int (3 : Int32)), (.int oI), (.ref y4)])
  refine GoH.st (fun tT kT => XS.iadd X23.here hx rfl (hb hby at_290) rfl kT) ?_
  show GoH _ _ _ _ _ _ _ _ _ _  T23 (mkF m 291 #[.val (.int p1), .val (.int p2), .val (.int p3), .val (.ref x1), .val (.ref x2), .val (.ref x3), .val (.ref d4), .val (.ref y4), .val (.int j1), .val (.int j2), .val (.int j3), .val (.int (1 : Int32)), .val (.int oI), .unset] [(.int (oI + (3 : Int32))), (.ref y4)])
  obtain ⟨cq24, kq24, q24a, q24b, q24c⟩ := isOf hZ e23q E_y4
  refine GoH.pure (w := (some (.int (own_chr (M.getD ((10 + cs1.length) + 3) 0))))) (rest := []) (pc' := 294) (X23.virtualBack hx (y := (⟨"java/lang/String", "charAt", "(I)C"⟩ : MethodName)) (z := (⟨"java/lang/String", "charAt", "(I)C"⟩ : MethodName)) hown (mvT hZ (hw _ (List.mem_of_getElem? (i := 222) rfl))) (mvT hZ (hw _ (List.mem_of_getElem? (i := 223) rfl))) (notFace_of_selects (args := #[]) (mvT hZ (hw _ (List.mem_of_getElem? (i := 225) rfl)))) (mvT hZ (hw _ (List.mem_of_getElem? (i := 225) rfl))) (mvT hZ (hw _ (List.mem_of_getElem? (i := 224) rfl))) (by decide) (backOf (W := 0) (rmCAf (oI + (3 : Int32)) l Z a0 hw [] y4 zc fm t4 kt4 M ((10 + cs1.length) + 3) T4.heap n0 O S_COMPACT hcs S_SIO ref_fm E_y4 C_y4 V_y4 A_t4 (own_i2 lM 3 (by decide)) hM5 (own_ok io 3)) hZ (hw _ (List.mem_of_getElem? (i := 226) rfl)) (hw _ (List.mem_of_getElem? (i := 5) rfl)) (by decide) (by decide)) q24a q24c (g := (mkF m 291 #[.val (.int p1), .val (.int p2), .val (.int p3), .val (.ref x1), .val (.ref x2), .val (.ref x3), .val (.ref d4), .val (.ref y4), .val (.int j1), .val (.int j2), .val (.int j3), .val (.int (1 : Int32)), .val (.int oI), .unset] [(.int (oI + (3 : Int32))), (.ref y4)])) rfl (by rw [hml]; rfl) (Steps.refl _) (argsL := [(.int (oI + (3 : Int32)))]) (rest := []) (lenOf pd__I_C rfl) rfl (by show 2 * 0 + _ ≤ _; exact Nat.le_of_eq rfl) (hb hby at_291) (fun _ _ => ⟨rfl, e23q, (by decide : 28 + 0 ≤ _), (by decide : 3324 + 0 ≤ _)⟩)) (fun _ _ _ q => q) N23 (fun T24 L24 X24 e24q N24 => ?_)
  show GoH _ _ _ _ _ _ _ _ _ _  T24 (mkF m 294 #[.val (.int p1), .val (.int p2), .val (.int p3), .val (.ref x1), .val (.ref x2), .val (.ref x3), .val (.ref d4), .val (.ref y4), .val (.int j1), .val (.int j2), .val (.int j3), .val (.int (1 : Int32)), .val (.int oI), .unset] [(.int (own_chr (M.getD ((10 + cs1.length) + 3) 0)))])
  refine GoH.st (fun tT kT => XS.bipush X24.here hx rfl (hb hby at_294) kT) ?_
  show GoH _ _ _ _ _ _ _ _ _ _  T24 (mkF m 296 #[.val (.int p1), .val (.int p2), .val (.int p3), .val (.ref x1), .val (.ref x2), .val (.ref x3), .val (.ref d4), .val (.ref y4), .val (.int j1), .val (.int j2), .val (.int j3), .val (.int (1 : Int32)), .val (.int oI), .unset] [(.int (102 : Int32)), (.int (own_chr (M.getD ((10 + cs1.length) + 3) 0)))])
  refine GoH.st (fun tT kT => XS.icmpNo X24.here hx rfl (hb hby at_296) rfl (teq (own_lit qe2 (own_ae2 (k := 3)) (by decide +kernel) (by decide +kernel) : (own_chr (M.getD ((10 + cs1.length) + 3) 0)) = (102 : Int32))).2 kT) ?_
  show GoH _ _ _ _ _ _ _ _ _ _  T24 (mkF m 299 #[.val (.int p1), .val (.int p2), .val (.int p3), .val (.ref x1), .val (.ref x2), .val (.ref x3), .val (.ref d4), .val (.ref y4), .val (.int j1), .val (.int j2), .val (.int j3), .val (.int (1 : Int32)), .val (.int oI), .unset] [])
  refine GoH.st (fun tT kT => XS.aload X24.here hx rfl (hb hby at_299) rfl rfl  kT) ?_
  show GoH _ _ _ _ _ _ _ _ _ _  T24 (mkF m 301 #[.val (.int p1), .val (.int p2), .val (.int p3), .val (.ref x1), .val (.ref x2), .val (.ref x3), .val (.ref d4), .val (.ref y4), .val (.int j1), .val (.int j2), .val (.int j3), .val (.int (1 : Int32)), .val (.int oI), .unset] [(.ref y4)])
  refine GoH.st (fun tT kT => XS.iload X24.here hx rfl (hb hby at_301) rfl  kT) ?_
  show GoH _ _ _ _ _ _ _ _ _ _  T24 (mkF m 303 #[.val (.int p1), .val (.int p2), .val (.int p3), .val (.ref x1), .val (.ref x2), .val (.ref x3), .val (.ref d4), .val (.ref y4), .val (.int j1), .val (.int j2), .val (.int j3), .val (.int (1 : Int32)), .val (.int oI), .unset] [(.int oI), (.ref y4)])
  refine GoH.st (fun tT kT => XS.iconst X24.here hx rfl (hb hby at_303) kT) ?_
  show GoH _ _ _ _ _ _ _ _ _ _  T24 (mkF m 304 #[.val (.int p1), .val (.int p2), .val (.int p3), .val (.ref x1), .val (.ref x2), .val (.ref x3), .val (.ref d4), .val (.ref y4), .val (.int j1), .val (.int j2), .val (.int j3), .val (.int (1 : Int32)), .val (.int oI), .unset] [(.int (4 : Int32)), (.int oI), (.ref y4)])
  refine GoH.st (fun tT kT => XS.iadd X24.here hx rfl (hb hby at_304) rfl kT) ?_
  show GoH _ _ _ _ _ _ _ _ _ _  T24 (mkF m 305 #[.val (.int p1), .val (.int p2), .val (.int p3), .val (.ref x1), .val (.ref x2), .val (.ref x3), .val (.ref d4), .val (.ref y4), .val (.int j1), .val (.int j2), .val (.int j3), .val (.int (1 : Int32)), .val (.int oI), .unset] [(.int (oI + (4 : Int32))), (.ref y4)])
  obtain ⟨cq25, kq25, q25a, q25b, q25c⟩ := isOf hZ e24q E_y4
  refine GoH.pure (w := (some (.int (own_chr (M.getD ((10 + cs1.length) + 4) 0))))) (rest := []) (pc' := 308) (X24.virtualBack hx (y := (⟨"java/lang/String", "charAt", "(I)C"⟩ : MethodName)) (z := (⟨"java/lang/String", "charAt", "(I)C"⟩ : MethodName)) hown (mvT hZ (hw _ (List.mem_of_getElem? (i := 222) rfl))) (mvT hZ (hw _ (List.mem_of_getElem? (i := 223) rfl))) (notFace_of_selects (args := #[]) (mvT hZ (hw _ (List.mem_of_getElem? (i := 225) rfl)))) (mvT hZ (hw _ (List.mem_of_getElem? (i := 225) rfl))) (mvT hZ (hw _ (List.mem_of_getElem? (i := 224) rfl))) (by decide) (backOf (W := 0) (rmCAf (oI + (4 : Int32)) l Z a0 hw [] y4 zc fm t4 kt4 M ((10 + cs1.length) + 4) T4.heap n0 O S_COMPACT hcs S_SIO ref_fm E_y4 C_y4 V_y4 A_t4 (own_i2 lM 4 (by decide)) hM5 (own_ok io 4)) hZ (hw _ (List.mem_of_getElem? (i := 226) rfl)) (hw _ (List.mem_of_getElem? (i := 5) rfl)) (by decide) (by decide)) q25a q25c (g := (mkF m 305 #[.val (.int p1), .val (.int p2), .val (.int p3), .val (.ref x1), .val (.ref x2), .val (.ref x3), .val (.ref d4), .val (.ref y4), .val (.int j1), .val (.int j2), .val (.int j3), .val (.int (1 : Int32)), .val (.int oI), .unset] [(.int (oI + (4 : Int32))), (.ref y4)])) rfl (by rw [hml]; rfl) (Steps.refl _) (argsL := [(.int (oI + (4 : Int32)))]) (rest := []) (lenOf pd__I_C rfl) rfl (by show 2 * 0 + _ ≤ _; exact Nat.le_of_eq rfl) (hb hby at_305) (fun _ _ => ⟨rfl, e24q, (by decide : 28 + 0 ≤ _), (by decide : 3324 + 0 ≤ _)⟩)) (fun _ _ _ q => q) N24 (fun T25 L25 X25 e25q N25 => ?_)
  show GoH _ _ _ _ _ _ _ _ _ _  T25 (mkF m 308 #[.val (.int p1), .val (.int p2), .val (.int p3), .val (.ref x1), .val (.ref x2), .val (.ref x3), .val (.ref d4), .val (.ref y4), .val (.int j1), .val (.int j2), .val (.int j3), .val (.int (1 : Int32)), .val (.int oI), .unset] [(.int (own_chr (M.getD ((10 + cs1.length) + 4) 0)))])
  refine GoH.st (fun tT kT => XS.bipush X25.here hx rfl (hb hby at_308) kT) ?_
  show GoH _ _ _ _ _ _ _ _ _ _  T25 (mkF m 310 #[.val (.int p1), .val (.int p2), .val (.int p3), .val (.ref x1), .val (.ref x2), .val (.ref x3), .val (.ref d4), .val (.ref y4), .val (.int j1), .val (.int j2), .val (.int j3), .val (.int (1 : Int32)), .val (.int oI), .unset] [(.int (105 : Int32)), (.int (own_chr (M.getD ((10 + cs1.length) + 4) 0)))])
  refine GoH.st (fun tT kT => XS.icmpNo X25.here hx rfl (hb hby at_310) rfl (teq (own_lit qe2 (own_ae2 (k := 4)) (by decide +kernel) (by decide +kernel) : (own_chr (M.getD ((10 + cs1.length) + 4) 0)) = (105 : Int32))).2 kT) ?_
  show GoH _ _ _ _ _ _ _ _ _ _  T25 (mkF m 313 #[.val (.int p1), .val (.int p2), .val (.int p3), .val (.ref x1), .val (.ref x2), .val (.ref x3), .val (.ref d4), .val (.ref y4), .val (.int j1), .val (.int j2), .val (.int j3), .val (.int (1 : Int32)), .val (.int oI), .unset] [])
  refine GoH.st (fun tT kT => XS.aload X25.here hx rfl (hb hby at_313) rfl rfl  kT) ?_
  show GoH _ _ _ _ _ _ _ _ _ _  T25 (mkF m 315 #[.val (.int p1), .val (.int p2), .val (.int p3), .val (.ref x1), .val (.ref x2), .val (.ref x3), .val (.ref d4), .val (.ref y4), .val (.int j1), .val (.int j2), .val (.int j3), .val (.int (1 : Int32)), .val (.int oI), .unset] [(.ref y4)])
  refine GoH.st (fun tT kT => XS.iload X25.here hx rfl (hb hby at_315) rfl  kT) ?_
  show GoH _ _ _ _ _ _ _ _ _ _  T25 (mkF m 317 #[.val (.int p1), .val (.int p2), .val (.int p3), .val (.ref x1), .val (.ref x2), .val (.ref x3), .val (.ref d4), .val (.ref y4), .val (.int j1), .val (.int j2), .val (.int j3), .val (.int (1 : Int32)), .val (.int oI), .unset] [(.int oI), (.ref y4)])
  refine GoH.st (fun tT kT => XS.iconst X25.here hx rfl (hb hby at_317) kT) ?_
  show GoH _ _ _ _ _ _ _ _ _ _  T25 (mkF m 318 #[.val (.int p1), .val (.int p2), .val (.int p3), .val (.ref x1), .val (.ref x2), .val (.ref x3), .val (.ref d4), .val (.ref y4), .val (.int j1), .val (.int j2), .val (.int j3), .val (.int (1 : Int32)), .val (.int oI), .unset] [(.int (5 : Int32)), (.int oI), (.ref y4)])
  refine GoH.st (fun tT kT => XS.iadd X25.here hx rfl (hb hby at_318) rfl kT) ?_
  show GoH _ _ _ _ _ _ _ _ _ _  T25 (mkF m 319 #[.val (.int p1), .val (.int p2), .val (.int p3), .val (.ref x1), .val (.ref x2), .val (.ref x3), .val (.ref d4), .val (.ref y4), .val (.int j1), .val (.int j2), .val (.int j3), .val (.int (1 : Int32)), .val (.int oI), .unset] [(.int (oI + (5 : Int32))), (.ref y4)])
  obtain ⟨cq26, kq26, q26a, q26b, q26c⟩ := isOf hZ e25q E_y4
  refine GoH.pure (w := (some (.int (own_chr (M.getD ((10 + cs1.length) + 5) 0))))) (rest := []) (pc' := 322) (X25.virtualBack hx (y := (⟨"java/lang/String", "charAt", "(I)C"⟩ : MethodName)) (z := (⟨"java/lang/String", "charAt", "(I)C"⟩ : MethodName)) hown (mvT hZ (hw _ (List.mem_of_getElem? (i := 222) rfl))) (mvT hZ (hw _ (List.mem_of_getElem? (i := 223) rfl))) (notFace_of_selects (args := #[]) (mvT hZ (hw _ (List.mem_of_getElem? (i := 225) rfl)))) (mvT hZ (hw _ (List.mem_of_getElem? (i := 225) rfl))) (mvT hZ (hw _ (List.mem_of_getElem? (i := 224) rfl))) (by decide) (backOf (W := 0) (rmCAf (oI + (5 : Int32)) l Z a0 hw [] y4 zc fm t4 kt4 M ((10 + cs1.length) + 5) T4.heap n0 O S_COMPACT hcs S_SIO ref_fm E_y4 C_y4 V_y4 A_t4 (own_i2 lM 5 (by decide)) hM5 (own_ok io 5)) hZ (hw _ (List.mem_of_getElem? (i := 226) rfl)) (hw _ (List.mem_of_getElem? (i := 5) rfl)) (by decide) (by decide)) q26a q26c (g := (mkF m 319 #[.val (.int p1), .val (.int p2), .val (.int p3), .val (.ref x1), .val (.ref x2), .val (.ref x3), .val (.ref d4), .val (.ref y4), .val (.int j1), .val (.int j2), .val (.int j3), .val (.int (1 : Int32)), .val (.int oI), .unset] [(.int (oI + (5 : Int32))), (.ref y4)])) rfl (by rw [hml]; rfl) (Steps.refl _) (argsL := [(.int (oI + (5 : Int32)))]) (rest := []) (lenOf pd__I_C rfl) rfl (by show 2 * 0 + _ ≤ _; exact Nat.le_of_eq rfl) (hb hby at_319) (fun _ _ => ⟨rfl, e25q, (by decide : 28 + 0 ≤ _), (by decide : 3324 + 0 ≤ _)⟩)) (fun _ _ _ q => q) N25 (fun T26 L26 X26 e26q N26 => ?_)
  show GoH _ _ _ _ _ _ _ _ _ _  T26 (mkF m 322 #[.val (.int p1), .val (.int p2), .val (.int p3), .val (.ref x1), .val (.ref x2), .val (.ref x3), .val (.ref d4), .val (.ref y4), .val (.int j1), .val (.int j2), .val (.int j3), .val (.int (1 : Int32)), .val (.int oI), .unset] [(.int (own_chr (M.getD ((10 + cs1.length) + 5) 0)))])
  refine GoH.st (fun tT kT => XS.bipush X26.here hx rfl (hb hby at_322) kT) ?_
  show GoH _ _ _ _ _ _ _ _ _ _  T26 (mkF m 324 #[.val (.int p1), .val (.int p2), .val (.int p3), .val (.ref x1), .val (.ref x2), .val (.ref x3), .val (.ref d4), .val (.ref y4), .val (.int j1), .val (.int j2), .val (.int j3), .val (.int (1 : Int32)), .val (.int oI), .unset] [(.int (101 : Int32)), (.int (own_chr (M.getD ((10 + cs1.length) + 5) 0)))])
  refine GoH.st (fun tT kT => XS.icmpNo X26.here hx rfl (hb hby at_324) rfl (teq (own_lit qe2 (own_ae2 (k := 5)) (by decide +kernel) (by decide +kernel) : (own_chr (M.getD ((10 + cs1.length) + 5) 0)) = (101 : Int32))).2 kT) ?_
  show GoH _ _ _ _ _ _ _ _ _ _  T26 (mkF m 327 #[.val (.int p1), .val (.int p2), .val (.int p3), .val (.ref x1), .val (.ref x2), .val (.ref x3), .val (.ref d4), .val (.ref y4), .val (.int j1), .val (.int j2), .val (.int j3), .val (.int (1 : Int32)), .val (.int oI), .unset] [])
  refine GoH.st (fun tT kT => XS.aload X26.here hx rfl (hb hby at_327) rfl rfl  kT) ?_
  show GoH _ _ _ _ _ _ _ _ _ _  T26 (mkF m 329 #[.val (.int p1), .val (.int p2), .val (.int p3), .val (.ref x1), .val (.ref x2), .val (.ref x3), .val (.ref d4), .val (.ref y4), .val (.int j1), .val (.int j2), .val (.int j3), .val (.int (1 : Int32)), .val (.int oI), .unset] [(.ref y4)])
  refine GoH.st (fun tT kT => XS.iload X26.here hx rfl (hb hby at_329) rfl  kT) ?_
  show GoH _ _ _ _ _ _ _ _ _ _  T26 (mkF m 331 #[.val (.int p1), .val (.int p2), .val (.int p3), .val (.ref x1), .val (.ref x2), .val (.ref x3), .val (.ref d4), .val (.ref y4), .val (.int j1), .val (.int j2), .val (.int j3), .val (.int (1 : Int32)), .val (.int oI), .unset] [(.int oI), (.ref y4)])
  refine GoH.st (fun tT kT => XS.bipush X26.here hx rfl (hb hby at_331) kT) ?_
  show GoH _ _ _ _ _ _ _ _ _ _  T26 (mkF m 333 #[.val (.int p1), .val (.int p2), .val (.int p3), .val (.ref x1), .val (.ref x2), .val (.ref x3), .val (.ref d4), .val (.ref y4), .val (.int j1), .val (.int j2), .val (.int j3), .val (.int (1 : Int32)), .val (.int oI), .unset] [(.int (6 : Int32)), (.int oI), (.ref y4)])
  refine GoH.st (fun tT kT => XS.iadd X26.here hx rfl (hb hby at_333) rfl kT) ?_
  show GoH _ _ _ _ _ _ _ _ _ _  T26 (mkF m 334 #[.val (.int p1), .val (.int p2), .val (.int p3), .val (.ref x1), .val (.ref x2), .val (.ref x3), .val (.ref d4), .val (.ref y4), .val (.int j1), .val (.int j2), .val (.int j3), .val (.int (1 : Int32)), .val (.int oI), .unset] [(.int (oI + (6 : Int32))), (.ref y4)])
  obtain ⟨cq27, kq27, q27a, q27b, q27c⟩ := isOf hZ e26q E_y4
  refine GoH.pure (w := (some (.int (own_chr (M.getD ((10 + cs1.length) + 6) 0))))) (rest := []) (pc' := 337) (X26.virtualBack hx (y := (⟨"java/lang/String", "charAt", "(I)C"⟩ : MethodName)) (z := (⟨"java/lang/String", "charAt", "(I)C"⟩ : MethodName)) hown (mvT hZ (hw _ (List.mem_of_getElem? (i := 222) rfl))) (mvT hZ (hw _ (List.mem_of_getElem? (i := 223) rfl))) (notFace_of_selects (args := #[]) (mvT hZ (hw _ (List.mem_of_getElem? (i := 225) rfl)))) (mvT hZ (hw _ (List.mem_of_getElem? (i := 225) rfl))) (mvT hZ (hw _ (List.mem_of_getElem? (i := 224) rfl))) (by decide) (backOf (W := 0) (rmCAf (oI + (6 : Int32)) l Z a0 hw [] y4 zc fm t4 kt4 M ((10 + cs1.length) + 6) T4.heap n0 O S_COMPACT hcs S_SIO ref_fm E_y4 C_y4 V_y4 A_t4 (own_i2 lM 6 (by decide)) hM5 (own_ok io 6)) hZ (hw _ (List.mem_of_getElem? (i := 226) rfl)) (hw _ (List.mem_of_getElem? (i := 5) rfl)) (by decide) (by decide)) q27a q27c (g := (mkF m 334 #[.val (.int p1), .val (.int p2), .val (.int p3), .val (.ref x1), .val (.ref x2), .val (.ref x3), .val (.ref d4), .val (.ref y4), .val (.int j1), .val (.int j2), .val (.int j3), .val (.int (1 : Int32)), .val (.int oI), .unset] [(.int (oI + (6 : Int32))), (.ref y4)])) rfl (by rw [hml]; rfl) (Steps.refl _) (argsL := [(.int (oI + (6 : Int32)))]) (rest := []) (lenOf pd__I_C rfl) rfl (by show 2 * 0 + _ ≤ _; exact Nat.le_of_eq rfl) (hb hby at_334) (fun _ _ => ⟨rfl, e26q, (by decide : 28 + 0 ≤ _), (by decide : 3324 + 0 ≤ _)⟩)) (fun _ _ _ q => q) N26 (fun T27 L27 X27 e27q N27 => ?_)
  show GoH _ _ _ _ _ _ _ _ _ _  T27 (mkF m 337 #[.val (.int p1), .val (.int p2), .val (.int p3), .val (.ref x1), .val (.ref x2), .val (.ref x3), .val (.ref d4), .val (.ref y4), .val (.int j1), .val (.int j2), .val (.int j3), .val (.int (1 : Int32)), .val (.int oI), .unset] [(.int (own_chr (M.getD ((10 + cs1.length) + 6) 0)))])
  refine GoH.st (fun tT kT => XS.bipush X27.here hx rfl (hb hby at_337) kT) ?_
  show GoH _ _ _ _ _ _ _ _ _ _  T27 (mkF m 339 #[.val (.int p1), .val (.int p2), .val (.int p3), .val (.ref x1), .val (.ref x2), .val (.ref x3), .val (.ref d4), .val (.ref y4), .val (.int j1), .val (.int j2), .val (.int j3), .val (.int (1 : Int32)), .val (.int oI), .unset] [(.int (108 : Int32)), (.int (own_chr (M.getD ((10 + cs1.length) + 6) 0)))])
  refine GoH.st (fun tT kT => XS.icmpNo X27.here hx rfl (hb hby at_339) rfl (teq (own_lit qe2 (own_ae2 (k := 6)) (by decide +kernel) (by decide +kernel) : (own_chr (M.getD ((10 + cs1.length) + 6) 0)) = (108 : Int32))).2 kT) ?_
  show GoH _ _ _ _ _ _ _ _ _ _  T27 (mkF m 342 #[.val (.int p1), .val (.int p2), .val (.int p3), .val (.ref x1), .val (.ref x2), .val (.ref x3), .val (.ref d4), .val (.ref y4), .val (.int j1), .val (.int j2), .val (.int j3), .val (.int (1 : Int32)), .val (.int oI), .unset] [])
  refine GoH.st (fun tT kT => XS.aload X27.here hx rfl (hb hby at_342) rfl rfl  kT) ?_
  show GoH _ _ _ _ _ _ _ _ _ _  T27 (mkF m 344 #[.val (.int p1), .val (.int p2), .val (.int p3), .val (.ref x1), .val (.ref x2), .val (.ref x3), .val (.ref d4), .val (.ref y4), .val (.int j1), .val (.int j2), .val (.int j3), .val (.int (1 : Int32)), .val (.int oI), .unset] [(.ref y4)])
  refine GoH.st (fun tT kT => XS.iload X27.here hx rfl (hb hby at_344) rfl  kT) ?_
  show GoH _ _ _ _ _ _ _ _ _ _  T27 (mkF m 346 #[.val (.int p1), .val (.int p2), .val (.int p3), .val (.ref x1), .val (.ref x2), .val (.ref x3), .val (.ref d4), .val (.ref y4), .val (.int j1), .val (.int j2), .val (.int j3), .val (.int (1 : Int32)), .val (.int oI), .unset] [(.int oI), (.ref y4)])
  refine GoH.st (fun tT kT => XS.bipush X27.here hx rfl (hb hby at_346) kT) ?_
  show GoH _ _ _ _ _ _ _ _ _ _  T27 (mkF m 348 #[.val (.int p1), .val (.int p2), .val (.int p3), .val (.ref x1), .val (.ref x2), .val (.ref x3), .val (.ref d4), .val (.ref y4), .val (.int j1), .val (.int j2), .val (.int j3), .val (.int (1 : Int32)), .val (.int oI), .unset] [(.int (7 : Int32)), (.int oI), (.ref y4)])
  refine GoH.st (fun tT kT => XS.iadd X27.here hx rfl (hb hby at_348) rfl kT) ?_
  show GoH _ _ _ _ _ _ _ _ _ _  T27 (mkF m 349 #[.val (.int p1), .val (.int p2), .val (.int p3), .val (.ref x1), .val (.ref x2), .val (.ref x3), .val (.ref d4), .val (.ref y4), .val (.int j1), .val (.int j2), .val (.int j3), .val (.int (1 : Int32)), .val (.int oI), .unset] [(.int (oI + (7 : Int32))), (.ref y4)])
  obtain ⟨cq28, kq28, q28a, q28b, q28c⟩ := isOf hZ e27q E_y4
  refine GoH.pure (w := (some (.int (own_chr (M.getD ((10 + cs1.length) + 7) 0))))) (rest := []) (pc' := 352) (X27.virtualBack hx (y := (⟨"java/lang/String", "charAt", "(I)C"⟩ : MethodName)) (z := (⟨"java/lang/String", "charAt", "(I)C"⟩ : MethodName)) hown (mvT hZ (hw _ (List.mem_of_getElem? (i := 222) rfl))) (mvT hZ (hw _ (List.mem_of_getElem? (i := 223) rfl))) (notFace_of_selects (args := #[]) (mvT hZ (hw _ (List.mem_of_getElem? (i := 225) rfl)))) (mvT hZ (hw _ (List.mem_of_getElem? (i := 225) rfl))) (mvT hZ (hw _ (List.mem_of_getElem? (i := 224) rfl))) (by decide) (backOf (W := 0) (rmCAf (oI + (7 : Int32)) l Z a0 hw [] y4 zc fm t4 kt4 M ((10 + cs1.length) + 7) T4.heap n0 O S_COMPACT hcs S_SIO ref_fm E_y4 C_y4 V_y4 A_t4 (own_i2 lM 7 (by decide)) hM5 (own_ok io 7)) hZ (hw _ (List.mem_of_getElem? (i := 226) rfl)) (hw _ (List.mem_of_getElem? (i := 5) rfl)) (by decide) (by decide)) q28a q28c (g := (mkF m 349 #[.val (.int p1), .val (.int p2), .val (.int p3), .val (.ref x1), .val (.ref x2), .val (.ref x3), .val (.ref d4), .val (.ref y4), .val (.int j1), .val (.int j2), .val (.int j3), .val (.int (1 : Int32)), .val (.int oI), .unset] [(.int (oI + (7 : Int32))), (.ref y4)])) rfl (by rw [hml]; rfl) (Steps.refl _) (argsL := [(.int (oI + (7 : Int32)))]) (rest := []) (lenOf pd__I_C rfl) rfl (by show 2 * 0 + _ ≤ _; exact Nat.le_of_eq rfl) (hb hby at_349) (fun _ _ => ⟨rfl, e27q, (by decide : 28 + 0 ≤ _), (by decide : 3324 + 0 ≤ _)⟩)) (fun _ _ _ q => q) N27 (fun T28 L28 X28 e28q N28 => ?_)
  show GoH _ _ _ _ _ _ _ _ _ _  T28 (mkF m 352 #[.val (.int p1), .val (.int p2), .val (.int p3), .val (.ref x1), .val (.ref x2), .val (.ref x3), .val (.ref d4), .val (.ref y4), .val (.int j1), .val (.int j2), .val (.int j3), .val (.int (1 : Int32)), .val (.int oI), .unset] [(.int (own_chr (M.getD ((10 + cs1.length) + 7) 0)))])
  refine GoH.st (fun tT kT => XS.bipush X28.here hx rfl (hb hby at_352) kT) ?_
  show GoH _ _ _ _ _ _ _ _ _ _  T28 (mkF m 354 #[.val (.int p1), .val (.int p2), .val (.int p3), .val (.ref x1), .val (.ref x2), .val (.ref x3), .val (.ref d4), .val (.ref y4), .val (.int j1), .val (.int j2), .val (.int j3), .val (.int (1 : Int32)), .val (.int oI), .unset] [(.int (100 : Int32)), (.int (own_chr (M.getD ((10 + cs1.length) + 7) 0)))])
  refine GoH.st (fun tT kT => XS.icmpNo X28.here hx rfl (hb hby at_354) rfl (teq (own_lit qe2 (own_ae2 (k := 7)) (by decide +kernel) (by decide +kernel) : (own_chr (M.getD ((10 + cs1.length) + 7) 0)) = (100 : Int32))).2 kT) ?_
  show GoH _ _ _ _ _ _ _ _ _ _  T28 (mkF m 357 #[.val (.int p1), .val (.int p2), .val (.int p3), .val (.ref x1), .val (.ref x2), .val (.ref x3), .val (.ref d4), .val (.ref y4), .val (.int j1), .val (.int j2), .val (.int j3), .val (.int (1 : Int32)), .val (.int oI), .unset] [])
  refine GoH.st (fun tT kT => XS.aload X28.here hx rfl (hb hby at_357) rfl rfl  kT) ?_
  show GoH _ _ _ _ _ _ _ _ _ _  T28 (mkF m 359 #[.val (.int p1), .val (.int p2), .val (.int p3), .val (.ref x1), .val (.ref x2), .val (.ref x3), .val (.ref d4), .val (.ref y4), .val (.int j1), .val (.int j2), .val (.int j3), .val (.int (1 : Int32)), .val (.int oI), .unset] [(.ref y4)])
  refine GoH.st (fun tT kT => XS.iload X28.here hx rfl (hb hby at_359) rfl  kT) ?_
  show GoH _ _ _ _ _ _ _ _ _ _  T28 (mkF m 361 #[.val (.int p1), .val (.int p2), .val (.int p3), .val (.ref x1), .val (.ref x2), .val (.ref x3), .val (.ref d4), .val (.ref y4), .val (.int j1), .val (.int j2), .val (.int j3), .val (.int (1 : Int32)), .val (.int oI), .unset] [(.int oI), (.ref y4)])
  refine GoH.st (fun tT kT => XS.bipush X28.here hx rfl (hb hby at_361) kT) ?_
  show GoH _ _ _ _ _ _ _ _ _ _  T28 (mkF m 363 #[.val (.int p1), .val (.int p2), .val (.int p3), .val (.ref x1), .val (.ref x2), .val (.ref x3), .val (.ref d4), .val (.ref y4), .val (.int j1), .val (.int j2), .val (.int j3), .val (.int (1 : Int32)), .val (.int oI), .unset] [(.int (8 : Int32)), (.int oI), (.ref y4)])
  refine GoH.st (fun tT kT => XS.iadd X28.here hx rfl (hb hby at_363) rfl kT) ?_
  show GoH _ _ _ _ _ _ _ _ _ _  T28 (mkF m 364 #[.val (.int p1), .val (.int p2), .val (.int p3), .val (.ref x1), .val (.ref x2), .val (.ref x3), .val (.ref d4), .val (.ref y4), .val (.int j1), .val (.int j2), .val (.int j3), .val (.int (1 : Int32)), .val (.int oI), .unset] [(.int (oI + (8 : Int32))), (.ref y4)])
  obtain ⟨cq29, kq29, q29a, q29b, q29c⟩ := isOf hZ e28q E_y4
  refine GoH.pure (w := (some (.int (own_chr (M.getD ((10 + cs1.length) + 8) 0))))) (rest := []) (pc' := 367) (X28.virtualBack hx (y := (⟨"java/lang/String", "charAt", "(I)C"⟩ : MethodName)) (z := (⟨"java/lang/String", "charAt", "(I)C"⟩ : MethodName)) hown (mvT hZ (hw _ (List.mem_of_getElem? (i := 222) rfl))) (mvT hZ (hw _ (List.mem_of_getElem? (i := 223) rfl))) (notFace_of_selects (args := #[]) (mvT hZ (hw _ (List.mem_of_getElem? (i := 225) rfl)))) (mvT hZ (hw _ (List.mem_of_getElem? (i := 225) rfl))) (mvT hZ (hw _ (List.mem_of_getElem? (i := 224) rfl))) (by decide) (backOf (W := 0) (rmCAf (oI + (8 : Int32)) l Z a0 hw [] y4 zc fm t4 kt4 M ((10 + cs1.length) + 8) T4.heap n0 O S_COMPACT hcs S_SIO ref_fm E_y4 C_y4 V_y4 A_t4 (own_i2 lM 8 (by decide)) hM5 (own_ok io 8)) hZ (hw _ (List.mem_of_getElem? (i := 226) rfl)) (hw _ (List.mem_of_getElem? (i := 5) rfl)) (by decide) (by decide)) q29a q29c (g := (mkF m 364 #[.val (.int p1), .val (.int p2), .val (.int p3), .val (.ref x1), .val (.ref x2), .val (.ref x3), .val (.ref d4), .val (.ref y4), .val (.int j1), .val (.int j2), .val (.int j3), .val (.int (1 : Int32)), .val (.int oI), .unset] [(.int (oI + (8 : Int32))), (.ref y4)])) rfl (by rw [hml]; rfl) (Steps.refl _) (argsL := [(.int (oI + (8 : Int32)))]) (rest := []) (lenOf pd__I_C rfl) rfl (by show 2 * 0 + _ ≤ _; exact Nat.le_of_eq rfl) (hb hby at_364) (fun _ _ => ⟨rfl, e28q, (by decide : 28 + 0 ≤ _), (by decide : 3324 + 0 ≤ _)⟩)) (fun _ _ _ q => q) N28 (fun T29 L29 X29 e29q N29 => ?_)
  show GoH _ _ _ _ _ _ _ _ _ _  T29 (mkF m 367 #[.val (.int p1), .val (.int p2), .val (.int p3), .val (.ref x1), .val (.ref x2), .val (.ref x3), .val (.ref d4), .val (.ref y4), .val (.int j1), .val (.int j2), .val (.int j3), .val (.int (1 : Int32)), .val (.int oI), .unset] [(.int (own_chr (M.getD ((10 + cs1.length) + 8) 0)))])
  refine GoH.st (fun tT kT => XS.bipush X29.here hx rfl (hb hby at_367) kT) ?_
  show GoH _ _ _ _ _ _ _ _ _ _  T29 (mkF m 369 #[.val (.int p1), .val (.int p2), .val (.int p3), .val (.ref x1), .val (.ref x2), .val (.ref x3), .val (.ref d4), .val (.ref y4), .val (.int j1), .val (.int j2), .val (.int j3), .val (.int (1 : Int32)), .val (.int oI), .unset] [(.int (32 : Int32)), (.int (own_chr (M.getD ((10 + cs1.length) + 8) 0)))])
  refine GoH.st (fun tT kT => XS.icmpNo X29.here hx rfl (hb hby at_369) rfl (teq (own_lit qe2 (own_ae2 (k := 8)) (by decide +kernel) (by decide +kernel) : (own_chr (M.getD ((10 + cs1.length) + 8) 0)) = (32 : Int32))).2 kT) ?_
  show GoH _ _ _ _ _ _ _ _ _ _  T29 (mkF m 372 #[.val (.int p1), .val (.int p2), .val (.int p3), .val (.ref x1), .val (.ref x2), .val (.ref x3), .val (.ref d4), .val (.ref y4), .val (.int j1), .val (.int j2), .val (.int j3), .val (.int (1 : Int32)), .val (.int oI), .unset] [])
  refine GoH.st (fun tT kT => XS.aload X29.here hx rfl (hb hby at_372) rfl rfl  kT) ?_
  show GoH _ _ _ _ _ _ _ _ _ _  T29 (mkF m 374 #[.val (.int p1), .val (.int p2), .val (.int p3), .val (.ref x1), .val (.ref x2), .val (.ref x3), .val (.ref d4), .val (.ref y4), .val (.int j1), .val (.int j2), .val (.int j3), .val (.int (1 : Int32)), .val (.int oI), .unset] [(.ref y4)])
  refine GoH.st (fun tT kT => XS.iload X29.here hx rfl (hb hby at_374) rfl  kT) ?_
  show GoH _ _ _ _ _ _ _ _ _ _  T29 (mkF m 376 #[.val (.int p1), .val (.int p2), .val (.int p3), .val (.ref x1), .val (.ref x2), .val (.ref x3), .val (.ref d4), .val (.ref y4), .val (.int j1), .val (.int j2), .val (.int j3), .val (.int (1 : Int32)), .val (.int oI), .unset] [(.int oI), (.ref y4)])
  refine GoH.st (fun tT kT => XS.bipush X29.here hx rfl (hb hby at_376) kT) ?_
  show GoH _ _ _ _ _ _ _ _ _ _  T29 (mkF m 378 #[.val (.int p1), .val (.int p2), .val (.int p3), .val (.ref x1), .val (.ref x2), .val (.ref x3), .val (.ref d4), .val (.ref y4), .val (.int j1), .val (.int j2), .val (.int j3), .val (.int (1 : Int32)), .val (.int oI), .unset] [(.int (9 : Int32)), (.int oI), (.ref y4)])
  refine GoH.st (fun tT kT => XS.iadd X29.here hx rfl (hb hby at_378) rfl kT) ?_
  show GoH _ _ _ _ _ _ _ _ _ _  T29 (mkF m 379 #[.val (.int p1), .val (.int p2), .val (.int p3), .val (.ref x1), .val (.ref x2), .val (.ref x3), .val (.ref d4), .val (.ref y4), .val (.int j1), .val (.int j2), .val (.int j3), .val (.int (1 : Int32)), .val (.int oI), .unset] [(.int (oI + (9 : Int32))), (.ref y4)])
  obtain ⟨cq30, kq30, q30a, q30b, q30c⟩ := isOf hZ e29q E_y4
  refine GoH.pure (w := (some (.int (own_chr (M.getD ((10 + cs1.length) + 9) 0))))) (rest := []) (pc' := 382) (X29.virtualBack hx (y := (⟨"java/lang/String", "charAt", "(I)C"⟩ : MethodName)) (z := (⟨"java/lang/String", "charAt", "(I)C"⟩ : MethodName)) hown (mvT hZ (hw _ (List.mem_of_getElem? (i := 222) rfl))) (mvT hZ (hw _ (List.mem_of_getElem? (i := 223) rfl))) (notFace_of_selects (args := #[]) (mvT hZ (hw _ (List.mem_of_getElem? (i := 225) rfl)))) (mvT hZ (hw _ (List.mem_of_getElem? (i := 225) rfl))) (mvT hZ (hw _ (List.mem_of_getElem? (i := 224) rfl))) (by decide) (backOf (W := 0) (rmCAf (oI + (9 : Int32)) l Z a0 hw [] y4 zc fm t4 kt4 M ((10 + cs1.length) + 9) T4.heap n0 O S_COMPACT hcs S_SIO ref_fm E_y4 C_y4 V_y4 A_t4 (own_i2 lM 9 (by decide)) hM5 (own_ok io 9)) hZ (hw _ (List.mem_of_getElem? (i := 226) rfl)) (hw _ (List.mem_of_getElem? (i := 5) rfl)) (by decide) (by decide)) q30a q30c (g := (mkF m 379 #[.val (.int p1), .val (.int p2), .val (.int p3), .val (.ref x1), .val (.ref x2), .val (.ref x3), .val (.ref d4), .val (.ref y4), .val (.int j1), .val (.int j2), .val (.int j3), .val (.int (1 : Int32)), .val (.int oI), .unset] [(.int (oI + (9 : Int32))), (.ref y4)])) rfl (by rw [hml]; rfl) (Steps.refl _) (argsL := [(.int (oI + (9 : Int32)))]) (rest := []) (lenOf pd__I_C rfl) rfl (by show 2 * 0 + _ ≤ _; exact Nat.le_of_eq rfl) (hb hby at_379) (fun _ _ => ⟨rfl, e29q, (by decide : 28 + 0 ≤ _), (by decide : 3324 + 0 ≤ _)⟩)) (fun _ _ _ q => q) N29 (fun T30 L30 X30 e30q N30 => ?_)
  show GoH _ _ _ _ _ _ _ _ _ _  T30 (mkF m 382 #[.val (.int p1), .val (.int p2), .val (.int p3), .val (.ref x1), .val (.ref x2), .val (.ref x3), .val (.ref d4), .val (.ref y4), .val (.int j1), .val (.int j2), .val (.int j3), .val (.int (1 : Int32)), .val (.int oI), .unset] [(.int (own_chr (M.getD ((10 + cs1.length) + 9) 0)))])
  refine GoH.st (fun tT kT => XS.bipush X30.here hx rfl (hb hby at_382) kT) ?_
  show GoH _ _ _ _ _ _ _ _ _ _  T30 (mkF m 384 #[.val (.int p1), .val (.int p2), .val (.int p3), .val (.ref x1), .val (.ref x2), .val (.ref x3), .val (.ref d4), .val (.ref y4), .val (.int j1), .val (.int j2), .val (.int j3), .val (.int (1 : Int32)), .val (.int oI), .unset] [(.int (34 : Int32)), (.int (own_chr (M.getD ((10 + cs1.length) + 9) 0)))])
  refine GoH.st (fun tT kT => XS.icmpNo X30.here hx rfl (hb hby at_384) rfl (teq (own_lit qe2 (own_ae2 (k := 9)) (by decide +kernel) (by decide +kernel) : (own_chr (M.getD ((10 + cs1.length) + 9) 0)) = (34 : Int32))).2 kT) ?_
  show GoH _ _ _ _ _ _ _ _ _ _  T30 (mkF m 387 #[.val (.int p1), .val (.int p2), .val (.int p3), .val (.ref x1), .val (.ref x2), .val (.ref x3), .val (.ref d4), .val (.ref y4), .val (.int j1), .val (.int j2), .val (.int j3), .val (.int (1 : Int32)), .val (.int oI), .unset] [])
  refine GoH.st (fun tT kT => XS.iconst X30.here hx rfl (hb hby at_387) kT) ?_
  show GoH _ _ _ _ _ _ _ _ _ _  T30 (mkF m 388 #[.val (.int p1), .val (.int p2), .val (.int p3), .val (.ref x1), .val (.ref x2), .val (.ref x3), .val (.ref d4), .val (.ref y4), .val (.int j1), .val (.int j2), .val (.int j3), .val (.int (1 : Int32)), .val (.int oI), .unset] [(.int (1 : Int32))])
  refine GoH.st (fun tT kT => XS.goto X30.here hx rfl (pc0 := 388) (pc' := 392) rfl (hb hby at_388) (by decide) (by decide) kT) ?_
  show GoH _ _ _ _ _ _ _ _ _ _  T30 (mkF m 392 #[.val (.int p1), .val (.int p2), .val (.int p3), .val (.ref x1), .val (.ref x2), .val (.ref x3), .val (.ref d4), .val (.ref y4), .val (.int j1), .val (.int j2), .val (.int j3), .val (.int (1 : Int32)), .val (.int oI), .unset] [(.int (1 : Int32))])
  refine GoH.st (fun tT kT => XS.istore X30.here hx rfl (hb hby at_392) rfl (l' := #[.val (.int p1), .val (.int p2), .val (.int p3), .val (.ref x1), .val (.ref x2), .val (.ref x3), .val (.ref d4), .val (.ref y4), .val (.int j1), .val (.int j2), .val (.int j3), .val (.int (1 : Int32)), .val (.int oI), .unset]) rfl kT) ?_
  show GoH _ _ _ _ _ _ _ _ _ _  T30 (mkF m 394 #[.val (.int p1), .val (.int p2), .val (.int p3), .val (.ref x1), .val (.ref x2), .val (.ref x3), .val (.ref d4), .val (.ref y4), .val (.int j1), .val (.int j2), .val (.int j3), .val (.int (1 : Int32)), .val (.int oI), .unset] [])
  refine GoH.st (fun tT kT => XS.iload X30.here hx rfl (hb hby at_394) rfl  kT) ?_
  show GoH _ _ _ _ _ _ _ _ _ _  T30 (mkF m 396 #[.val (.int p1), .val (.int p2), .val (.int p3), .val (.ref x1), .val (.ref x2), .val (.ref x3), .val (.ref d4), .val (.ref y4), .val (.int j1), .val (.int j2), .val (.int j3), .val (.int (1 : Int32)), .val (.int oI), .unset] [(.int (1 : Int32))])
  refine GoH.st (fun tT kT => XS.ifNo X30.here hx rfl (hb hby at_396) rfl ((if0 _ _).trans (feq (by decide : ¬ ((1 : Int32) = (0 : Int32)))).1) kT) ?_
  show GoH _ _ _ _ _ _ _ _ _ _  T30 (mkF m 399 #[.val (.int p1), .val (.int p2), .val (.int p3), .val (.ref x1), .val (.ref x2), .val (.ref x3), .val (.ref d4), .val (.ref y4), .val (.int j1), .val (.int j2), .val (.int j3), .val (.int (1 : Int32)), .val (.int oI), .unset] [])
  refine GoH.st (fun tT kT => XS.aload X30.here hx rfl (hb hby at_399) rfl rfl  kT) ?_
  show GoH _ _ _ _ _ _ _ _ _ _  T30 (mkF m 401 #[.val (.int p1), .val (.int p2), .val (.int p3), .val (.ref x1), .val (.ref x2), .val (.ref x3), .val (.ref d4), .val (.ref y4), .val (.int j1), .val (.int j2), .val (.int j3), .val (.int (1 : Int32)), .val (.int oI), .unset] [(.ref y4)])
  refine GoH.st (fun tT kT => XS.iload X30.here hx rfl (hb hby at_401) rfl  kT) ?_
  show GoH _ _ _ _ _ _ _ _ _ _  T30 (mkF m 403 #[.val (.int p1), .val (.int p2), .val (.int p3), .val (.ref x1), .val (.ref x2), .val (.ref x3), .val (.ref d4), .val (.ref y4), .val (.int j1), .val (.int j2), .val (.int j3), .val (.int (1 : Int32)), .val (.int oI), .unset] [(.int oI), (.ref y4)])
  refine GoH.st (fun tT kT => XS.bipush X30.here hx rfl (hb hby at_403) kT) ?_
  show GoH _ _ _ _ _ _ _ _ _ _  T30 (mkF m 405 #[.val (.int p1), .val (.int p2), .val (.int p3), .val (.ref x1), .val (.ref x2), .val (.ref x3), .val (.ref d4), .val (.ref y4), .val (.int j1), .val (.int j2), .val (.int j3), .val (.int (1 : Int32)), .val (.int oI), .unset] [(.int (10 : Int32)), (.int oI), (.ref y4)])
  refine GoH.st (fun tT kT => XS.iadd X30.here hx rfl (hb hby at_405) rfl kT) ?_
  show GoH _ _ _ _ _ _ _ _ _ _  T30 (mkF m 406 #[.val (.int p1), .val (.int p2), .val (.int p3), .val (.ref x1), .val (.ref x2), .val (.ref x3), .val (.ref d4), .val (.ref y4), .val (.int j1), .val (.int j2), .val (.int j3), .val (.int (1 : Int32)), .val (.int oI), .unset] [(.int (oI + (10 : Int32))), (.ref y4)])
  refine GoH.st (fun tT kT => XS.aload X30.here hx rfl (hb hby at_406) rfl rfl  kT) ?_
  show GoH _ _ _ _ _ _ _ _ _ _  T30 (mkF m 408 #[.val (.int p1), .val (.int p2), .val (.int p3), .val (.ref x1), .val (.ref x2), .val (.ref x3), .val (.ref d4), .val (.ref y4), .val (.int j1), .val (.int j2), .val (.int j3), .val (.int (1 : Int32)), .val (.int oI), .unset] [(.ref x2), (.int (oI + (10 : Int32))), (.ref y4)])
  refine GoH.pureS (w := (some (.int (1 : Int32)))) (rest := []) (pc' := 411) (Jvm.LawKit.callS X30 hx (y := (⟨"com/example/keyset/keyset/query/DeclarationExceptionForFieldPinLaw", "part", "(Ljava/lang/String;ILjava/lang/String;)Z"⟩ : MethodName)) hown (mvT hZ (hw _ (List.mem_of_getElem? (i := 244) rfl))) (mvT hZ (hw _ (List.mem_of_getElem? (i := 245) rfl))) (mvT hZ (hw _ (List.mem_of_getElem? (i := 2) rfl))) (mvT hZ (hw _ (List.mem_of_getElem? (i := 246) rfl))) (by decide) (backOf (W := 0) (rmPtf (oI + (10 : Int32)) l Z a0 hw [] y4 x2 zc fm t4 kt4 M t2 kt2 cs2 ((10 + cs1.length) + 10) T4.heap n0 O S_COMPACT hcs S_SIO ref_fm E_y4 C_y4 V_y4 A_t4 E_x2 C_x2 V_x2 A_t2 B_x2 (own_p2 lM) hM5 (fun i hi => own_mid qp2 (own_al2 i) hi) (own_ok io 10)) hZ (hw _ (List.mem_of_getElem? (i := 246) rfl)) (hw _ (List.mem_of_getElem? (i := 2) rfl)) (by decide) (by decide)) (g := (mkF m 408 #[.val (.int p1), .val (.int p2), .val (.int p3), .val (.ref x1), .val (.ref x2), .val (.ref x3), .val (.ref d4), .val (.ref y4), .val (.int j1), .val (.int j2), .val (.int j3), .val (.int (1 : Int32)), .val (.int oI), .unset] [(.ref x2), (.int (oI + (10 : Int32))), (.ref y4)])) rfl (by rw [hml]; rfl) (argsL := [(.ref y4), (.int (oI + (10 : Int32))), (.ref x2)]) (rest := []) (lenOf pd__Ljava_lang_String_ILjava_lang_String__Z rfl) rfl (by show 2 * 0 + _ ≤ _; exact Nat.le_of_eq rfl) (hb hby at_408) (fun _ _ => ⟨rfl, e30q, (by decide : 28 + 0 ≤ _), (by decide : 3324 + 0 ≤ _)⟩)) (fun _ _ _ q => q) N30 (fun T31 L31 X31 e31q N31 => ?_)
  show GoH _ _ _ _ _ _ _ _ _ _  T31 (mkF m 411 #[.val (.int p1), .val (.int p2), .val (.int p3), .val (.ref x1), .val (.ref x2), .val (.ref x3), .val (.ref d4), .val (.ref y4), .val (.int j1), .val (.int j2), .val (.int j3), .val (.int (1 : Int32)), .val (.int oI), .unset] [(.int (1 : Int32))])
  refine GoH.st (fun tT kT => XS.ifNo X31.here hx rfl (hb hby at_411) rfl ((if0 _ _).trans (feq (by decide : ¬ ((1 : Int32) = (0 : Int32)))).1) kT) ?_
  show GoH _ _ _ _ _ _ _ _ _ _  T31 (mkF m 414 #[.val (.int p1), .val (.int p2), .val (.int p3), .val (.ref x1), .val (.ref x2), .val (.ref x3), .val (.ref d4), .val (.ref y4), .val (.int j1), .val (.int j2), .val (.int j3), .val (.int (1 : Int32)), .val (.int oI), .unset] [])
  refine GoH.st (fun tT kT => XS.iconst X31.here hx rfl (hb hby at_414) kT) ?_
  show GoH _ _ _ _ _ _ _ _ _ _  T31 (mkF m 415 #[.val (.int p1), .val (.int p2), .val (.int p3), .val (.ref x1), .val (.ref x2), .val (.ref x3), .val (.ref d4), .val (.ref y4), .val (.int j1), .val (.int j2), .val (.int j3), .val (.int (1 : Int32)), .val (.int oI), .unset] [(.int (1 : Int32))])
  refine GoH.st (fun tT kT => XS.goto X31.here hx rfl (pc0 := 415) (pc' := 419) rfl (hb hby at_415) (by decide) (by decide) kT) ?_
  show GoH _ _ _ _ _ _ _ _ _ _  T31 (mkF m 419 #[.val (.int p1), .val (.int p2), .val (.int p3), .val (.ref x1), .val (.ref x2), .val (.ref x3), .val (.ref d4), .val (.ref y4), .val (.int j1), .val (.int j2), .val (.int j3), .val (.int (1 : Int32)), .val (.int oI), .unset] [(.int (1 : Int32))])
  refine GoH.st (fun tT kT => XS.istore X31.here hx rfl (hb hby at_419) rfl (l' := #[.val (.int p1), .val (.int p2), .val (.int p3), .val (.ref x1), .val (.ref x2), .val (.ref x3), .val (.ref d4), .val (.ref y4), .val (.int j1), .val (.int j2), .val (.int j3), .val (.int (1 : Int32)), .val (.int oI), .unset]) rfl kT) ?_
  show GoH _ _ _ _ _ _ _ _ _ _  T31 (mkF m 421 #[.val (.int p1), .val (.int p2), .val (.int p3), .val (.ref x1), .val (.ref x2), .val (.ref x3), .val (.ref d4), .val (.ref y4), .val (.int j1), .val (.int j2), .val (.int j3), .val (.int (1 : Int32)), .val (.int oI), .unset] [])
  refine GoH.st (fun tT kT => XS.iload X31.here hx rfl (hb hby at_421) rfl  kT) ?_
  show GoH _ _ _ _ _ _ _ _ _ _  T31 (mkF m 423 #[.val (.int p1), .val (.int p2), .val (.int p3), .val (.ref x1), .val (.ref x2), .val (.ref x3), .val (.ref d4), .val (.ref y4), .val (.int j1), .val (.int j2), .val (.int j3), .val (.int (1 : Int32)), .val (.int oI), .unset] [(.int oI)])
  refine GoH.st (fun tT kT => XS.bipush X31.here hx rfl (hb hby at_423) kT) ?_
  show GoH _ _ _ _ _ _ _ _ _ _  T31 (mkF m 425 #[.val (.int p1), .val (.int p2), .val (.int p3), .val (.ref x1), .val (.ref x2), .val (.ref x3), .val (.ref d4), .val (.ref y4), .val (.int j1), .val (.int j2), .val (.int j3), .val (.int (1 : Int32)), .val (.int oI), .unset] [(.int (10 : Int32)), (.int oI)])
  refine GoH.st (fun tT kT => XS.iadd X31.here hx rfl (hb hby at_425) rfl kT) ?_
  show GoH _ _ _ _ _ _ _ _ _ _  T31 (mkF m 426 #[.val (.int p1), .val (.int p2), .val (.int p3), .val (.ref x1), .val (.ref x2), .val (.ref x3), .val (.ref d4), .val (.ref y4), .val (.int j1), .val (.int j2), .val (.int j3), .val (.int (1 : Int32)), .val (.int oI), .unset] [(.int (oI + (10 : Int32)))])
  refine GoH.st (fun tT kT => XS.iload X31.here hx rfl (hb hby at_426) rfl  kT) ?_
  show GoH _ _ _ _ _ _ _ _ _ _  T31 (mkF m 428 #[.val (.int p1), .val (.int p2), .val (.int p3), .val (.ref x1), .val (.ref x2), .val (.ref x3), .val (.ref d4), .val (.ref y4), .val (.int j1), .val (.int j2), .val (.int j3), .val (.int (1 : Int32)), .val (.int oI), .unset] [(.int j2), (.int (oI + (10 : Int32)))])
  refine GoH.st (fun tT kT => XS.iadd X31.here hx rfl (hb hby at_428) rfl kT) ?_
  show GoH _ _ _ _ _ _ _ _ _ _  T31 (mkF m 429 #[.val (.int p1), .val (.int p2), .val (.int p3), .val (.ref x1), .val (.ref x2), .val (.ref x3), .val (.ref d4), .val (.ref y4), .val (.int j1), .val (.int j2), .val (.int j3), .val (.int (1 : Int32)), .val (.int oI), .unset] [(.int ((oI + (10 : Int32)) + j2))])
  refine GoH.st (fun tT kT => XS.istore X31.here hx rfl (hb hby at_429) rfl (l' := #[.val (.int p1), .val (.int p2), .val (.int p3), .val (.ref x1), .val (.ref x2), .val (.ref x3), .val (.ref d4), .val (.ref y4), .val (.int j1), .val (.int j2), .val (.int j3), .val (.int (1 : Int32)), .val (.int oI), .val (.int ((oI + (10 : Int32)) + j2))]) rfl kT) ?_
  show GoH _ _ _ _ _ _ _ _ _ _  T31 (mkF m 431 #[.val (.int p1), .val (.int p2), .val (.int p3), .val (.ref x1), .val (.ref x2), .val (.ref x3), .val (.ref d4), .val (.ref y4), .val (.int j1), .val (.int j2), .val (.int j3), .val (.int (1 : Int32)), .val (.int oI), .val (.int ((oI + (10 : Int32)) + j2))] [])
  obtain ⟨qI, eq_qI⟩ : ∃ z, z = ((oI + (10 : Int32)) + j2) := ⟨_, rfl⟩
  rw [← eq_qI]
  have iq : qI = Int32.ofNat ((10 + cs1.length) + 10 + cs2.length) := by rw [eq_qI, io, eq_j2, Int32.ofNat_add _ cs2.length, Int32.ofNat_add _ 10]; rfl
  show GoH _ _ _ _ _ _ _ _ _ _  T31 (mkF m 431 #[.val (.int p1), .val (.int p2), .val (.int p3), .val (.ref x1), .val (.ref x2), .val (.ref x3), .val (.ref d4), .val (.ref y4), .val (.int j1), .val (.int j2), .val (.int j3), .val (.int (1 : Int32)), .val (.int oI), .val (.int qI)] [])
  refine GoH.st (fun tT kT => XS.iload X31.here hx rfl (hb hby at_431) rfl  kT) ?_
  show GoH _ _ _ _ _ _ _ _ _ _  T31 (mkF m 433 #[.val (.int p1), .val (.int p2), .val (.int p3), .val (.ref x1), .val (.ref x2), .val (.ref x3), .val (.ref d4), .val (.ref y4), .val (.int j1), .val (.int j2), .val (.int j3), .val (.int (1 : Int32)), .val (.int oI), .val (.int qI)] [(.int (1 : Int32))])
  refine GoH.st (fun tT kT => XS.ifNo X31.here hx rfl (hb hby at_433) rfl ((if0 _ _).trans (feq (by decide : ¬ ((1 : Int32) = (0 : Int32)))).1) kT) ?_
  show GoH _ _ _ _ _ _ _ _ _ _  T31 (mkF m 436 #[.val (.int p1), .val (.int p2), .val (.int p3), .val (.ref x1), .val (.ref x2), .val (.ref x3), .val (.ref d4), .val (.ref y4), .val (.int j1), .val (.int j2), .val (.int j3), .val (.int (1 : Int32)), .val (.int oI), .val (.int qI)] [])
  refine GoH.st (fun tT kT => XS.aload X31.here hx rfl (hb hby at_436) rfl rfl  kT) ?_
  show GoH _ _ _ _ _ _ _ _ _ _  T31 (mkF m 438 #[.val (.int p1), .val (.int p2), .val (.int p3), .val (.ref x1), .val (.ref x2), .val (.ref x3), .val (.ref d4), .val (.ref y4), .val (.int j1), .val (.int j2), .val (.int j3), .val (.int (1 : Int32)), .val (.int oI), .val (.int qI)] [(.ref y4)])
  refine GoH.st (fun tT kT => XS.iload X31.here hx rfl (hb hby at_438) rfl  kT) ?_
  show GoH _ _ _ _ _ _ _ _ _ _  T31 (mkF m 440 #[.val (.int p1), .val (.int p2), .val (.int p3), .val (.ref x1), .val (.ref x2), .val (.ref x3), .val (.ref d4), .val (.ref y4), .val (.int j1), .val (.int j2), .val (.int j3), .val (.int (1 : Int32)), .val (.int oI), .val (.int qI)] [(.int qI), (.ref y4)])
  obtain ⟨cq32, kq32, q32a, q32b, q32c⟩ := isOf hZ e31q E_y4
  refine GoH.pure (w := (some (.int (own_chr (M.getD (((10 + cs1.length) + 10 + cs2.length) + 0) 0))))) (rest := []) (pc' := 443) (X31.virtualBack hx (y := (⟨"java/lang/String", "charAt", "(I)C"⟩ : MethodName)) (z := (⟨"java/lang/String", "charAt", "(I)C"⟩ : MethodName)) hown (mvT hZ (hw _ (List.mem_of_getElem? (i := 222) rfl))) (mvT hZ (hw _ (List.mem_of_getElem? (i := 223) rfl))) (notFace_of_selects (args := #[]) (mvT hZ (hw _ (List.mem_of_getElem? (i := 225) rfl)))) (mvT hZ (hw _ (List.mem_of_getElem? (i := 225) rfl))) (mvT hZ (hw _ (List.mem_of_getElem? (i := 224) rfl))) (by decide) (backOf (W := 0) (rmCAf qI l Z a0 hw [] y4 zc fm t4 kt4 M (((10 + cs1.length) + 10 + cs2.length) + 0) T4.heap n0 O S_COMPACT hcs S_SIO ref_fm E_y4 C_y4 V_y4 A_t4 (own_i3 lM 0 (by decide)) hM5 iq) hZ (hw _ (List.mem_of_getElem? (i := 226) rfl)) (hw _ (List.mem_of_getElem? (i := 5) rfl)) (by decide) (by decide)) q32a q32c (g := (mkF m 440 #[.val (.int p1), .val (.int p2), .val (.int p3), .val (.ref x1), .val (.ref x2), .val (.ref x3), .val (.ref d4), .val (.ref y4), .val (.int j1), .val (.int j2), .val (.int j3), .val (.int (1 : Int32)), .val (.int oI), .val (.int qI)] [(.int qI), (.ref y4)])) rfl (by rw [hml]; rfl) (Steps.refl _) (argsL := [(.int qI)]) (rest := []) (lenOf pd__I_C rfl) rfl (by show 2 * 0 + _ ≤ _; exact Nat.le_of_eq rfl) (hb hby at_440) (fun _ _ => ⟨rfl, e31q, (by decide : 28 + 0 ≤ _), (by decide : 3324 + 0 ≤ _)⟩)) (fun _ _ _ q => q) N31 (fun T32 L32 X32 e32q N32 => ?_)
  show GoH _ _ _ _ _ _ _ _ _ _  T32 (mkF m 443 #[.val (.int p1), .val (.int p2), .val (.int p3), .val (.ref x1), .val (.ref x2), .val (.ref x3), .val (.ref d4), .val (.ref y4), .val (.int j1), .val (.int j2), .val (.int j3), .val (.int (1 : Int32)), .val (.int oI), .val (.int qI)] [(.int (own_chr (M.getD (((10 + cs1.length) + 10 + cs2.length) + 0) 0)))])
  refine GoH.st (fun tT kT => XS.bipush X32.here hx rfl (hb hby at_443) kT) ?_
  show GoH _ _ _ _ _ _ _ _ _ _  T32 (mkF m 445 #[.val (.int p1), .val (.int p2), .val (.int p3), .val (.ref x1), .val (.ref x2), .val (.ref x3), .val (.ref d4), .val (.ref y4), .val (.int j1), .val (.int j2), .val (.int j3), .val (.int (1 : Int32)), .val (.int oI), .val (.int qI)] [(.int (34 : Int32)), (.int (own_chr (M.getD (((10 + cs1.length) + 10 + cs2.length) + 0) 0)))])
  refine GoH.st (fun tT kT => XS.icmpNo X32.here hx rfl (hb hby at_445) rfl (teq (own_lit qe3 (own_ae3 (k := 0)) (by decide +kernel) (by decide +kernel) : (own_chr (M.getD (((10 + cs1.length) + 10 + cs2.length) + 0) 0)) = (34 : Int32))).2 kT) ?_
  show GoH _ _ _ _ _ _ _ _ _ _  T32 (mkF m 448 #[.val (.int p1), .val (.int p2), .val (.int p3), .val (.ref x1), .val (.ref x2), .val (.ref x3), .val (.ref d4), .val (.ref y4), .val (.int j1), .val (.int j2), .val (.int j3), .val (.int (1 : Int32)), .val (.int oI), .val (.int qI)] [])
  refine GoH.st (fun tT kT => XS.aload X32.here hx rfl (hb hby at_448) rfl rfl  kT) ?_
  show GoH _ _ _ _ _ _ _ _ _ _  T32 (mkF m 450 #[.val (.int p1), .val (.int p2), .val (.int p3), .val (.ref x1), .val (.ref x2), .val (.ref x3), .val (.ref d4), .val (.ref y4), .val (.int j1), .val (.int j2), .val (.int j3), .val (.int (1 : Int32)), .val (.int oI), .val (.int qI)] [(.ref y4)])
  refine GoH.st (fun tT kT => XS.iload X32.here hx rfl (hb hby at_450) rfl  kT) ?_
  show GoH _ _ _ _ _ _ _ _ _ _  T32 (mkF m 452 #[.val (.int p1), .val (.int p2), .val (.int p3), .val (.ref x1), .val (.ref x2), .val (.ref x3), .val (.ref d4), .val (.ref y4), .val (.int j1), .val (.int j2), .val (.int j3), .val (.int (1 : Int32)), .val (.int oI), .val (.int qI)] [(.int qI), (.ref y4)])
  refine GoH.st (fun tT kT => XS.iconst X32.here hx rfl (hb hby at_452) kT) ?_
  show GoH _ _ _ _ _ _ _ _ _ _  T32 (mkF m 453 #[.val (.int p1), .val (.int p2), .val (.int p3), .val (.ref x1), .val (.ref x2), .val (.ref x3), .val (.ref d4), .val (.ref y4), .val (.int j1), .val (.int j2), .val (.int j3), .val (.int (1 : Int32)), .val (.int oI), .val (.int qI)] [(.int (1 : Int32)), (.int qI), (.ref y4)])
  refine GoH.st (fun tT kT => XS.iadd X32.here hx rfl (hb hby at_453) rfl kT) ?_
  show GoH _ _ _ _ _ _ _ _ _ _  T32 (mkF m 454 #[.val (.int p1), .val (.int p2), .val (.int p3), .val (.ref x1), .val (.ref x2), .val (.ref x3), .val (.ref d4), .val (.ref y4), .val (.int j1), .val (.int j2), .val (.int j3), .val (.int (1 : Int32)), .val (.int oI), .val (.int qI)] [(.int (qI + (1 : Int32))), (.ref y4)])
  obtain ⟨cq33, kq33, q33a, q33b, q33c⟩ := isOf hZ e32q E_y4
  refine GoH.pure (w := (some (.int (own_chr (M.getD (((10 + cs1.length) + 10 + cs2.length) + 1) 0))))) (rest := []) (pc' := 457) (X32.virtualBack hx (y := (⟨"java/lang/String", "charAt", "(I)C"⟩ : MethodName)) (z := (⟨"java/lang/String", "charAt", "(I)C"⟩ : MethodName)) hown (mvT hZ (hw _ (List.mem_of_getElem? (i := 222) rfl))) (mvT hZ (hw _ (List.mem_of_getElem? (i := 223) rfl))) (notFace_of_selects (args := #[]) (mvT hZ (hw _ (List.mem_of_getElem? (i := 225) rfl)))) (mvT hZ (hw _ (List.mem_of_getElem? (i := 225) rfl))) (mvT hZ (hw _ (List.mem_of_getElem? (i := 224) rfl))) (by decide) (backOf (W := 0) (rmCAf (qI + (1 : Int32)) l Z a0 hw [] y4 zc fm t4 kt4 M (((10 + cs1.length) + 10 + cs2.length) + 1) T4.heap n0 O S_COMPACT hcs S_SIO ref_fm E_y4 C_y4 V_y4 A_t4 (own_i3 lM 1 (by decide)) hM5 (own_ok iq 1)) hZ (hw _ (List.mem_of_getElem? (i := 226) rfl)) (hw _ (List.mem_of_getElem? (i := 5) rfl)) (by decide) (by decide)) q33a q33c (g := (mkF m 454 #[.val (.int p1), .val (.int p2), .val (.int p3), .val (.ref x1), .val (.ref x2), .val (.ref x3), .val (.ref d4), .val (.ref y4), .val (.int j1), .val (.int j2), .val (.int j3), .val (.int (1 : Int32)), .val (.int oI), .val (.int qI)] [(.int (qI + (1 : Int32))), (.ref y4)])) rfl (by rw [hml]; rfl) (Steps.refl _) (argsL := [(.int (qI + (1 : Int32)))]) (rest := []) (lenOf pd__I_C rfl) rfl (by show 2 * 0 + _ ≤ _; exact Nat.le_of_eq rfl) (hb hby at_454) (fun _ _ => ⟨rfl, e32q, (by decide : 28 + 0 ≤ _), (by decide : 3324 + 0 ≤ _)⟩)) (fun _ _ _ q => q) N32 (fun T33 L33 X33 e33q N33 => ?_)
  show GoH _ _ _ _ _ _ _ _ _ _  T33 (mkF m 457 #[.val (.int p1), .val (.int p2), .val (.int p3), .val (.ref x1), .val (.ref x2), .val (.ref x3), .val (.ref d4), .val (.ref y4), .val (.int j1), .val (.int j2), .val (.int j3), .val (.int (1 : Int32)), .val (.int oI), .val (.int qI)] [(.int (own_chr (M.getD (((10 + cs1.length) + 10 + cs2.length) + 1) 0)))])
  refine GoH.st (fun tT kT => XS.bipush X33.here hx rfl (hb hby at_457) kT) ?_
  show GoH _ _ _ _ _ _ _ _ _ _  T33 (mkF m 459 #[.val (.int p1), .val (.int p2), .val (.int p3), .val (.ref x1), .val (.ref x2), .val (.ref x3), .val (.ref d4), .val (.ref y4), .val (.int j1), .val (.int j2), .val (.int j3), .val (.int (1 : Int32)), .val (.int oI), .val (.int qI)] [(.int (58 : Int32)), (.int (own_chr (M.getD (((10 + cs1.length) + 10 + cs2.length) + 1) 0)))])
  refine GoH.st (fun tT kT => XS.icmpNo X33.here hx rfl (hb hby at_459) rfl (teq (own_lit qe3 (own_ae3 (k := 1)) (by decide +kernel) (by decide +kernel) : (own_chr (M.getD (((10 + cs1.length) + 10 + cs2.length) + 1) 0)) = (58 : Int32))).2 kT) ?_
  show GoH _ _ _ _ _ _ _ _ _ _  T33 (mkF m 462 #[.val (.int p1), .val (.int p2), .val (.int p3), .val (.ref x1), .val (.ref x2), .val (.ref x3), .val (.ref d4), .val (.ref y4), .val (.int j1), .val (.int j2), .val (.int j3), .val (.int (1 : Int32)), .val (.int oI), .val (.int qI)] [])
  refine GoH.st (fun tT kT => XS.aload X33.here hx rfl (hb hby at_462) rfl rfl  kT) ?_
  show GoH _ _ _ _ _ _ _ _ _ _  T33 (mkF m 464 #[.val (.int p1), .val (.int p2), .val (.int p3), .val (.ref x1), .val (.ref x2), .val (.ref x3), .val (.ref d4), .val (.ref y4), .val (.int j1), .val (.int j2), .val (.int j3), .val (.int (1 : Int32)), .val (.int oI), .val (.int qI)] [(.ref y4)])
  refine GoH.st (fun tT kT => XS.iload X33.here hx rfl (hb hby at_464) rfl  kT) ?_
  show GoH _ _ _ _ _ _ _ _ _ _  T33 (mkF m 466 #[.val (.int p1), .val (.int p2), .val (.int p3), .val (.ref x1), .val (.ref x2), .val (.ref x3), .val (.ref d4), .val (.ref y4), .val (.int j1), .val (.int j2), .val (.int j3), .val (.int (1 : Int32)), .val (.int oI), .val (.int qI)] [(.int qI), (.ref y4)])
  refine GoH.st (fun tT kT => XS.iconst X33.here hx rfl (hb hby at_466) kT) ?_
  show GoH _ _ _ _ _ _ _ _ _ _  T33 (mkF m 467 #[.val (.int p1), .val (.int p2), .val (.int p3), .val (.ref x1), .val (.ref x2), .val (.ref x3), .val (.ref d4), .val (.ref y4), .val (.int j1), .val (.int j2), .val (.int j3), .val (.int (1 : Int32)), .val (.int oI), .val (.int qI)] [(.int (2 : Int32)), (.int qI), (.ref y4)])
  refine GoH.st (fun tT kT => XS.iadd X33.here hx rfl (hb hby at_467) rfl kT) ?_
  show GoH _ _ _ _ _ _ _ _ _ _  T33 (mkF m 468 #[.val (.int p1), .val (.int p2), .val (.int p3), .val (.ref x1), .val (.ref x2), .val (.ref x3), .val (.ref d4), .val (.ref y4), .val (.int j1), .val (.int j2), .val (.int j3), .val (.int (1 : Int32)), .val (.int oI), .val (.int qI)] [(.int (qI + (2 : Int32))), (.ref y4)])
  obtain ⟨cq34, kq34, q34a, q34b, q34c⟩ := isOf hZ e33q E_y4
  refine GoH.pure (w := (some (.int (own_chr (M.getD (((10 + cs1.length) + 10 + cs2.length) + 2) 0))))) (rest := []) (pc' := 471) (X33.virtualBack hx (y := (⟨"java/lang/String", "charAt", "(I)C"⟩ : MethodName)) (z := (⟨"java/lang/String", "charAt", "(I)C"⟩ : MethodName)) hown (mvT hZ (hw _ (List.mem_of_getElem? (i := 222) rfl))) (mvT hZ (hw _ (List.mem_of_getElem? (i := 223) rfl))) (notFace_of_selects (args := #[]) (mvT hZ (hw _ (List.mem_of_getElem? (i := 225) rfl)))) (mvT hZ (hw _ (List.mem_of_getElem? (i := 225) rfl))) (mvT hZ (hw _ (List.mem_of_getElem? (i := 224) rfl))) (by decide) (backOf (W := 0) (rmCAf (qI + (2 : Int32)) l Z a0 hw [] y4 zc fm t4 kt4 M (((10 + cs1.length) + 10 + cs2.length) + 2) T4.heap n0 O S_COMPACT hcs S_SIO ref_fm E_y4 C_y4 V_y4 A_t4 (own_i3 lM 2 (by decide)) hM5 (own_ok iq 2)) hZ (hw _ (List.mem_of_getElem? (i := 226) rfl)) (hw _ (List.mem_of_getElem? (i := 5) rfl)) (by decide) (by decide)) q34a q34c (g := (mkF m 468 #[.val (.int p1), .val (.int p2), .val (.int p3), .val (.ref x1), .val (.ref x2), .val (.ref x3), .val (.ref d4), .val (.ref y4), .val (.int j1), .val (.int j2), .val (.int j3), .val (.int (1 : Int32)), .val (.int oI), .val (.int qI)] [(.int (qI + (2 : Int32))), (.ref y4)])) rfl (by rw [hml]; rfl) (Steps.refl _) (argsL := [(.int (qI + (2 : Int32)))]) (rest := []) (lenOf pd__I_C rfl) rfl (by show 2 * 0 + _ ≤ _; exact Nat.le_of_eq rfl) (hb hby at_468) (fun _ _ => ⟨rfl, e33q, (by decide : 28 + 0 ≤ _), (by decide : 3324 + 0 ≤ _)⟩)) (fun _ _ _ q => q) N33 (fun T34 L34 X34 e34q N34 => ?_)
  show GoH _ _ _ _ _ _ _ _ _ _  T34 (mkF m 471 #[.val (.int p1), .val (.int p2), .val (.int p3), .val (.ref x1), .val (.ref x2), .val (.ref x3), .val (.ref d4), .val (.ref y4), .val (.int j1), .val (.int j2), .val (.int j3), .val (.int (1 : Int32)), .val (.int oI), .val (.int qI)] [(.int (own_chr (M.getD (((10 + cs1.length) + 10 + cs2.length) + 2) 0)))])
  refine GoH.st (fun tT kT => XS.bipush X34.here hx rfl (hb hby at_471) kT) ?_
  show GoH _ _ _ _ _ _ _ _ _ _  T34 (mkF m 473 #[.val (.int p1), .val (.int p2), .val (.int p3), .val (.ref x1), .val (.ref x2), .val (.ref x3), .val (.ref d4), .val (.ref y4), .val (.int j1), .val (.int j2), .val (.int j3), .val (.int (1 : Int32)), .val (.int oI), .val (.int qI)] [(.int (32 : Int32)), (.int (own_chr (M.getD (((10 + cs1.length) + 10 + cs2.length) + 2) 0)))])
  refine GoH.st (fun tT kT => XS.icmpNo X34.here hx rfl (hb hby at_473) rfl (teq (own_lit qe3 (own_ae3 (k := 2)) (by decide +kernel) (by decide +kernel) : (own_chr (M.getD (((10 + cs1.length) + 10 + cs2.length) + 2) 0)) = (32 : Int32))).2 kT) ?_
  show GoH _ _ _ _ _ _ _ _ _ _  T34 (mkF m 476 #[.val (.int p1), .val (.int p2), .val (.int p3), .val (.ref x1), .val (.ref x2), .val (.ref x3), .val (.ref d4), .val (.ref y4), .val (.int j1), .val (.int j2), .val (.int j3), .val (.int (1 : Int32)), .val (.int oI), .val (.int qI)] [])
  refine GoH.st (fun tT kT => XS.iconst X34.here hx rfl (hb hby at_476) kT) ?_
  show GoH _ _ _ _ _ _ _ _ _ _  T34 (mkF m 477 #[.val (.int p1), .val (.int p2), .val (.int p3), .val (.ref x1), .val (.ref x2), .val (.ref x3), .val (.ref d4), .val (.ref y4), .val (.int j1), .val (.int j2), .val (.int j3), .val (.int (1 : Int32)), .val (.int oI), .val (.int qI)] [(.int (1 : Int32))])
  refine GoH.st (fun tT kT => XS.goto X34.here hx rfl (pc0 := 477) (pc' := 481) rfl (hb hby at_477) (by decide) (by decide) kT) ?_
  show GoH _ _ _ _ _ _ _ _ _ _  T34 (mkF m 481 #[.val (.int p1), .val (.int p2), .val (.int p3), .val (.ref x1), .val (.ref x2), .val (.ref x3), .val (.ref d4), .val (.ref y4), .val (.int j1), .val (.int j2), .val (.int j3), .val (.int (1 : Int32)), .val (.int oI), .val (.int qI)] [(.int (1 : Int32))])
  refine GoH.st (fun tT kT => XS.istore X34.here hx rfl (hb hby at_481) rfl (l' := #[.val (.int p1), .val (.int p2), .val (.int p3), .val (.ref x1), .val (.ref x2), .val (.ref x3), .val (.ref d4), .val (.ref y4), .val (.int j1), .val (.int j2), .val (.int j3), .val (.int (1 : Int32)), .val (.int oI), .val (.int qI)]) rfl kT) ?_
  show GoH _ _ _ _ _ _ _ _ _ _  T34 (mkF m 483 #[.val (.int p1), .val (.int p2), .val (.int p3), .val (.ref x1), .val (.ref x2), .val (.ref x3), .val (.ref d4), .val (.ref y4), .val (.int j1), .val (.int j2), .val (.int j3), .val (.int (1 : Int32)), .val (.int oI), .val (.int qI)] [])
  refine GoH.st (fun tT kT => XS.iload X34.here hx rfl (hb hby at_483) rfl  kT) ?_
  show GoH _ _ _ _ _ _ _ _ _ _  T34 (mkF m 485 #[.val (.int p1), .val (.int p2), .val (.int p3), .val (.ref x1), .val (.ref x2), .val (.ref x3), .val (.ref d4), .val (.ref y4), .val (.int j1), .val (.int j2), .val (.int j3), .val (.int (1 : Int32)), .val (.int oI), .val (.int qI)] [(.int (1 : Int32))])
  refine GoH.st (fun tT kT => XS.ifNo X34.here hx rfl (hb hby at_485) rfl ((if0 _ _).trans (feq (by decide : ¬ ((1 : Int32) = (0 : Int32)))).1) kT) ?_
  show GoH _ _ _ _ _ _ _ _ _ _  T34 (mkF m 488 #[.val (.int p1), .val (.int p2), .val (.int p3), .val (.ref x1), .val (.ref x2), .val (.ref x3), .val (.ref d4), .val (.ref y4), .val (.int j1), .val (.int j2), .val (.int j3), .val (.int (1 : Int32)), .val (.int oI), .val (.int qI)] [])
  refine GoH.st (fun tT kT => XS.aload X34.here hx rfl (hb hby at_488) rfl rfl  kT) ?_
  show GoH _ _ _ _ _ _ _ _ _ _  T34 (mkF m 490 #[.val (.int p1), .val (.int p2), .val (.int p3), .val (.ref x1), .val (.ref x2), .val (.ref x3), .val (.ref d4), .val (.ref y4), .val (.int j1), .val (.int j2), .val (.int j3), .val (.int (1 : Int32)), .val (.int oI), .val (.int qI)] [(.ref y4)])
  refine GoH.st (fun tT kT => XS.iload X34.here hx rfl (hb hby at_490) rfl  kT) ?_
  show GoH _ _ _ _ _ _ _ _ _ _  T34 (mkF m 492 #[.val (.int p1), .val (.int p2), .val (.int p3), .val (.ref x1), .val (.ref x2), .val (.ref x3), .val (.ref d4), .val (.ref y4), .val (.int j1), .val (.int j2), .val (.int j3), .val (.int (1 : Int32)), .val (.int oI), .val (.int qI)] [(.int qI), (.ref y4)])
  refine GoH.st (fun tT kT => XS.iconst X34.here hx rfl (hb hby at_492) kT) ?_
  show GoH _ _ _ _ _ _ _ _ _ _  T34 (mkF m 493 #[.val (.int p1), .val (.int p2), .val (.int p3), .val (.ref x1), .val (.ref x2), .val (.ref x3), .val (.ref d4), .val (.ref y4), .val (.int j1), .val (.int j2), .val (.int j3), .val (.int (1 : Int32)), .val (.int oI), .val (.int qI)] [(.int (3 : Int32)), (.int qI), (.ref y4)])
  refine GoH.st (fun tT kT => XS.iadd X34.here hx rfl (hb hby at_493) rfl kT) ?_
  show GoH _ _ _ _ _ _ _ _ _ _  T34 (mkF m 494 #[.val (.int p1), .val (.int p2), .val (.int p3), .val (.ref x1), .val (.ref x2), .val (.ref x3), .val (.ref d4), .val (.ref y4), .val (.int j1), .val (.int j2), .val (.int j3), .val (.int (1 : Int32)), .val (.int oI), .val (.int qI)] [(.int (qI + (3 : Int32))), (.ref y4)])
  refine GoH.st (fun tT kT => XS.aload X34.here hx rfl (hb hby at_494) rfl rfl  kT) ?_
  show GoH _ _ _ _ _ _ _ _ _ _  T34 (mkF m 496 #[.val (.int p1), .val (.int p2), .val (.int p3), .val (.ref x1), .val (.ref x2), .val (.ref x3), .val (.ref d4), .val (.ref y4), .val (.int j1), .val (.int j2), .val (.int j3), .val (.int (1 : Int32)), .val (.int oI), .val (.int qI)] [(.ref x3), (.int (qI + (3 : Int32))), (.ref y4)])
  refine GoH.pureS (w := (some (.int (1 : Int32)))) (rest := []) (pc' := 499) (Jvm.LawKit.callS X34 hx (y := (⟨"com/example/keyset/keyset/query/DeclarationExceptionForFieldPinLaw", "part", "(Ljava/lang/String;ILjava/lang/String;)Z"⟩ : MethodName)) hown (mvT hZ (hw _ (List.mem_of_getElem? (i := 244) rfl))) (mvT hZ (hw _ (List.mem_of_getElem? (i := 245) rfl))) (mvT hZ (hw _ (List.mem_of_getElem? (i := 2) rfl))) (mvT hZ (hw _ (List.mem_of_getElem? (i := 246) rfl))) (by decide) (backOf (W := 0) (rmPtf (qI + (3 : Int32)) l Z a0 hw [] y4 x3 zc fm t4 kt4 M t3 kt3 cs3 (((10 + cs1.length) + 10 + cs2.length) + 3) T4.heap n0 O S_COMPACT hcs S_SIO ref_fm E_y4 C_y4 V_y4 A_t4 E_x3 C_x3 V_x3 A_t3 B_x3 (own_p3 lM) hM5 (fun i hi => own_mid qp3 (own_al3 i) hi) (own_ok iq 3)) hZ (hw _ (List.mem_of_getElem? (i := 246) rfl)) (hw _ (List.mem_of_getElem? (i := 2) rfl)) (by decide) (by decide)) (g := (mkF m 496 #[.val (.int p1), .val (.int p2), .val (.int p3), .val (.ref x1), .val (.ref x2), .val (.ref x3), .val (.ref d4), .val (.ref y4), .val (.int j1), .val (.int j2), .val (.int j3), .val (.int (1 : Int32)), .val (.int oI), .val (.int qI)] [(.ref x3), (.int (qI + (3 : Int32))), (.ref y4)])) rfl (by rw [hml]; rfl) (argsL := [(.ref y4), (.int (qI + (3 : Int32))), (.ref x3)]) (rest := []) (lenOf pd__Ljava_lang_String_ILjava_lang_String__Z rfl) rfl (by show 2 * 0 + _ ≤ _; exact Nat.le_of_eq rfl) (hb hby at_496) (fun _ _ => ⟨rfl, e34q, (by decide : 28 + 0 ≤ _), (by decide : 3324 + 0 ≤ _)⟩)) (fun _ _ _ q => q) N34 (fun T35 L35 X35 e35q N35 => ?_)
  show GoH _ _ _ _ _ _ _ _ _ _  T35 (mkF m 499 #[.val (.int p1), .val (.int p2), .val (.int p3), .val (.ref x1), .val (.ref x2), .val (.ref x3), .val (.ref d4), .val (.ref y4), .val (.int j1), .val (.int j2), .val (.int j3), .val (.int (1 : Int32)), .val (.int oI), .val (.int qI)] [(.int (1 : Int32))])
  refine GoH.st (fun tT kT => XS.ifNo X35.here hx rfl (hb hby at_499) rfl ((if0 _ _).trans (feq (by decide : ¬ ((1 : Int32) = (0 : Int32)))).1) kT) ?_
  show GoH _ _ _ _ _ _ _ _ _ _  T35 (mkF m 502 #[.val (.int p1), .val (.int p2), .val (.int p3), .val (.ref x1), .val (.ref x2), .val (.ref x3), .val (.ref d4), .val (.ref y4), .val (.int j1), .val (.int j2), .val (.int j3), .val (.int (1 : Int32)), .val (.int oI), .val (.int qI)] [])
  refine GoH.st (fun tT kT => XS.iconst X35.here hx rfl (hb hby at_502) kT) ?_
  show GoH _ _ _ _ _ _ _ _ _ _  T35 (mkF m 503 #[.val (.int p1), .val (.int p2), .val (.int p3), .val (.ref x1), .val (.ref x2), .val (.ref x3), .val (.ref d4), .val (.ref y4), .val (.int j1), .val (.int j2), .val (.int j3), .val (.int (1 : Int32)), .val (.int oI), .val (.int qI)] [(.int (1 : Int32))])
  refine GoH.st (fun tT kT => XS.goto X35.here hx rfl (pc0 := 503) (pc' := 507) rfl (hb hby at_503) (by decide) (by decide) kT) ?_
  show GoH _ _ _ _ _ _ _ _ _ _  T35 (mkF m 507 #[.val (.int p1), .val (.int p2), .val (.int p3), .val (.ref x1), .val (.ref x2), .val (.ref x3), .val (.ref d4), .val (.ref y4), .val (.int j1), .val (.int j2), .val (.int j3), .val (.int (1 : Int32)), .val (.int oI), .val (.int qI)] [(.int (1 : Int32))])
  refine GoH.st (fun tT kT => XS.istore X35.here hx rfl (hb hby at_507) rfl (l' := #[.val (.int p1), .val (.int p2), .val (.int p3), .val (.ref x1), .val (.ref x2), .val (.ref x3), .val (.ref d4), .val (.ref y4), .val (.int j1), .val (.int j2), .val (.int j3), .val (.int (1 : Int32)), .val (.int oI), .val (.int qI)]) rfl kT) ?_
  show GoH _ _ _ _ _ _ _ _ _ _  T35 (mkF m 509 #[.val (.int p1), .val (.int p2), .val (.int p3), .val (.ref x1), .val (.ref x2), .val (.ref x3), .val (.ref d4), .val (.ref y4), .val (.int j1), .val (.int j2), .val (.int j3), .val (.int (1 : Int32)), .val (.int oI), .val (.int qI)] [])
  refine GoH.st (fun tT kT => XS.iload X35.here hx rfl (hb hby at_509) rfl  kT) ?_
  show GoH _ _ _ _ _ _ _ _ _ _  T35 (mkF m 511 #[.val (.int p1), .val (.int p2), .val (.int p3), .val (.ref x1), .val (.ref x2), .val (.ref x3), .val (.ref d4), .val (.ref y4), .val (.int j1), .val (.int j2), .val (.int j3), .val (.int (1 : Int32)), .val (.int oI), .val (.int qI)] [(.int (1 : Int32))])
  refine GoH.retN X35 hS hk e35q hZ hEL HH RR hlk hx (t := .boolean) (z' := (1 : Int32)) Bd.returns (by simp) (hb hby at_511) (by decide) (by decide) rfl ?_
  show Q_rm0 Z _ _ _ _ _ h0 n0 _ T35.heap _
  rw [e35q]
  exact ⟨rfl, N35⟩
set_option maxRecDepth 65536 in
set_option maxHeartbeats 40000000 in
theorem comes_1 {Post : Tables → Env → Array Value → State → Outcome → State → Prop} (hpost : ∀ tb e args s v u, (limb_1_1.after args s (.returned v) u = true ∧ limb_1_2.after args s (.returned v) u = true ∧ True) → ReturnedEndW s (.returned v) u (Jvm.fieldLocs frame_1_writes args s ++ Jvm.arrayLocs frame_1_arrays args s ++ Jvm.staticLocs frame_1_statics s) 56 10048 → Post tb e args s (.returned v) u) :
    ArmFor flags0 classFile x code maxLocals ret World_1 tables_1 room_1 Calls_1 rest_1 Pre_1 Post := by
  intro l hfl _ _ p e ha hc hk s m args below hf hA hF happ hP
  obtain ⟨hcalls, hrest, hpre⟩ := hP
  obtain ⟨-, -, -, hnamed, -, -, -, hat⟩ := (Spec.applies_iff hf).mp happ
  obtain ⟨hg, hn⟩ := and_e (Cond.before_iff.mp (show (Jvm.Cond.and given_1 narrow_1).before args s = true from hpre))
  obtain ⟨g1, g2⟩ := and_e hg
  obtain ⟨g3, g4⟩ := and_e g2
  obtain ⟨g5, g6⟩ := and_e g4
  obtain ⟨w0, w1, w2, rfl⟩ : ∃ w0 w1 w2 : Value, args = #[w0, w1, w2] := by
    have hs : args.size = 3 := by simpa [Cond.value, given_1] using g1
    obtain ⟨L⟩ := args
    match L, hs with
    | [w0, w1, w2], _ => exact ⟨w0, w1, w2, rfl⟩
  have hw := fun d (hd : d ∈ tables_1) => atoms_spec (ws := Jvm.Cond.code x code maxLocals ret :: tables_1) hat d (List.mem_cons_of_mem _ hd)
  have hfit : Fit s := fun {y c} hc i hi => by
    obtain ⟨ha, rfl⟩ := Array.getElem?_eq_some_iff.mp hc
    have q := List.all_eq_true.mp ((Array.all_eq_true_iff_forall_mem.mp hF) _ (Array.getElem_mem ha)) i (List.mem_range.mpr hi)
    simpa [Array.getElem?_eq_getElem hi] using q
  obtain ⟨hsets, hown0⟩ := atoms_of _ (rest_1_c_eq ▸ (show rest_1_c.before _ s = true from hrest))
  obtain ⟨i0, ei0⟩ := is_v g3
  obtain rfl : w0 = (.int i0) := Option.some.inj ei0
  obtain ⟨i1, ei1⟩ := is_v g5
  obtain rfl : w1 = (.int i1) := Option.some.inj ei1
  obtain ⟨i2, ei2⟩ := is_v g6
  obtain rfl : w2 = (.int i2) := Option.some.inj ei2
  obtain ⟨zc, ezc⟩ := is_v (Cond.before_iff.mp (hsets _ (List.mem_of_getElem? (i := 1) rfl)))
  have S_COMPACT : Sta s s.heap "java/lang/String" "COMPACT_STRINGS" "Z" (.int zc) := Sta.start ezc (Or.inl (hsets _ (List.mem_of_getElem? (i := 0) rfl)))
  have hcs : ¬ (zc = (0 : Int32)) := gotF (Cond.eq_ints ezc (Term.int_eval (0))) (not_v (Cond.before_iff.mp (hsets _ (List.mem_of_getElem? (i := 2) rfl))))
  obtain ⟨fm, efm, ref_fm⟩ := isR_v (Cond.before_iff.mp (hsets _ (List.mem_of_getElem? (i := 8) rfl)))
  have S_SIO : Sta s s.heap "jdk/internal/util/Preconditions" "SIOOBE_FORMATTER" "Ljava/util/function/BiFunction;" fm := Sta.start efm (Or.inl (hsets _ (List.mem_of_getElem? (i := 7) rfl)))
  have hl : l.stackTraces = true := by unfold Launch.stackTraces; rw [hfl]; decide
  have hr := two_refs hfit (hw _ (List.mem_of_getElem? (i := 207) rfl)) (hw _ (List.mem_of_getElem? (i := 208) rfl))
  have hEL : EW s _ EL := (EW.cons (hw _ (List.mem_of_getElem? (i := 140) rfl)) (by decide) (EW.cons (hw _ (List.mem_of_getElem? (i := 87) rfl)) (by decide) (EW.cons (hw _ (List.mem_of_getElem? (i := 36) rfl)) (by decide) (EW.cons (hw _ (List.mem_of_getElem? (i := 4) rfl)) (by decide) EW.nil))))
  have wS : ∀ a ∈ Bundle.stringAtoms, a.before _ s = true := fun d hd => hw d ((by decide +kernel : ∀ d ∈ Bundle.stringAtoms, d ∈ tables_1) d hd)
  have HH : CHv s EL s.vm s.heap := CHv.start hEL (fun q hq => hcalls.2.2.1 q hq) (hsets _ (List.mem_of_getElem? (i := 2) rfl)) (hw _ (List.mem_of_getElem? (i := 7) rfl)) (hw _ (List.mem_of_getElem? (i := 6) rfl))
  obtain ⟨n, o, h1, h2, h3, _, L, rfl, ⟨rfl, N⟩, hcr, hq⟩ := rm0 l s _ hw tables_1 i0 i1 i2 zc fm s.heap s.heap.size (Old.start s) hEL wS S_COMPACT hcs S_SIO ref_fm hl hr p e ha hc hk s m _ below hf ((Spec.applies_iff_loose hf).mp happ).1 ⟨rfl, State.Warmed39.refl s, rfl, HH, fun _ q => nomatch q⟩ ⟨own_tk hcalls.2.1, own_fk hcalls.1 hf⟩
  refine ⟨n, _, h1, h2, h3, hpost _ _ _ _ _ _ ⟨Cond.after_iff.mpr rfl, Cond.after_iff.mpr (eq_i res_at (Term.int_eval (1)) rfl), trivial⟩ ⟨hq.1, hq.2.1, hq.2.2.1, (hq.2.2.2.sift fun y hy => Or.inr (N y hy)).mono (by decide) (by decide)⟩⟩
theorem main_1_1 : Claimed_1_1 := comes_1 fun _ _ _ _ _ _ h hF => ⟨h.1, hF⟩
theorem main_1_2 : Claimed_1_2 := comes_1 fun _ _ _ _ _ _ h hF => ⟨h.2.1, hF⟩
end Jvm.Pilot.@@N@@
namespace Jvm.Pilot.@@N@@
open Jvm Jvm.ClassFile Sem Op Lib Jvm.Free Jvm.Stand Jvm.Pilot.@@N@@.Jvm.D
/-! MADE BY PROGRAM (witnessworld.py) out of the Statement's table words and the real class files: 42 classes; the members and pool entries that the words name. The judged class is class 1, her method 3. -/
namespace start1
open Jvm.ClassFile
def u (s : String) : CpInfo := .utf8 (stringToUtf16 s)
/-- a pool by its gaps: so many unusable entries, then the entry; so many at the end -/
def gap : Nat → List CpInfo → List CpInfo
  | 0, r => r
  | n + 1, r => .unusable :: gap n r
def poolList (es : List (Nat × CpInfo)) (last : Nat) : List CpInfo := es.foldr (fun e r => gap e.1 (e.2 :: r)) (gap last [])
def pool (es : List (Nat × CpInfo)) (last : Nat) : Array CpInfo := ⟨poolList es last⟩
def fileOf (pool : Array CpInfo) (this : Nat) (attrs : Array Attribute := #[]) (ms : Array MethodInfo := #[]) (fl : Nat := 33) (sup : Nat := 0) (ifs : Array Nat := #[]) (fds : Array FieldInfo := #[]) : ClassFile where
  minorVersion := 0
  majorVersion := 65
  constantPool := pool
  accessFlags := fl
  thisClass := this
  superClass := sup
  interfaces := ifs
  fields := fds
  methods := ms
  attributes := attrs
def plain (name : String) (sup : Option ClassId) : Class where
  name := name
  kind := .ordinary
  loader := none
  accessFlags := 33
  super := sup
  interfaces := #[]
  cf := none
  fields := #[]
  methods := #[]
  instanceTypes := #[]
  staticTypes := #[]
  resolved := #[]
  callSites := []
  init := .initialized
  statics := none
  mirror := none

def pool0 : Array CpInfo := pool [(5, u "<init>"), (0, u "()V"), (1, .class_ 10), (1, u "java/lang/Object")] 113

def k0c0 : Code := { maxStack := 0, maxLocals := 1, code := object_method_1_code, exceptionTable := #[], attributes := #[] }
def k0m0 : Method := { name := "<init>", desc := "()V", sig := { parameters := [], returnType := none }, accessFlags := 1, code := some k0c0 }
/-- java/lang/Object -/
def k0 : Class := { plain "java/lang/Object" none with
  accessFlags := 33
  interfaces := #[]
  cf := some (fileOf pool0 8 #[] #[{ accessFlags := 1, nameIndex := 5, descriptorIndex := 6, attributes := #[] }] 33 0 #[] #[])
  fields := #[]
  methods := #[k0m0]
  instanceTypes := #[]
  staticTypes := #[]
  resolved := Array.replicate 124 none
  statics := none }

def pool1 : Array CpInfo := pool [(2, .class_ 4), (1, u "java/lang/Object"), (0, u "<init>"), (0, u "()V"), (0, .string 8), (0, u ""), (0, .methodref 10 11), (0, .class_ 12), (0, .nameAndType 13 14), (0, u "java/lang/String"), (0, u "valueOf"), (0, u "(C)Ljava/lang/String;"), (0, .methodref 10 16), (0, .nameAndType 5 17), (0, u "([C)V"), (0, .methodref 10 19), (0, .nameAndType 20 21), (0, u "length"), (0, u "()I"), (0, .methodref 10 23), (0, .nameAndType 24 25), (0, u "charAt"), (0, u "(I)C"), (0, .methodref 27 28), (0, .class_ 29), (0, .nameAndType 30 31), (0, u "com/example/keyset/keyset/query/DeclarationExceptionForFieldPinLaw"), (0, u "mk"), (0, u "(I)Ljava/lang/String;"), (0, .methodref 33 34), (0, .class_ 35), (0, .nameAndType 36 37), (0, u "com/example/keyset/keyset/query/DeclarationException"), (0, u "forField"), (0, u "(Ljava/lang/String;Ljava/lang/String;Ljava/lang/String;)Lcom/example/keyset/keyset/query/DeclarationException;"), (0, .methodref 33 39), (0, .nameAndType 40 41), (0, u "getMessage"), (0, u "()Ljava/lang/String;"), (0, .methodref 27 43), (0, .nameAndType 44 45), (0, u "part"), (0, u "(Ljava/lang/String;ILjava/lang/String;)Z"), (3, u "law"), (0, u "(III)Z")] 2

def k1m0 : Method := { name := "<init>", desc := "()V", sig := { parameters := [], returnType := none }, accessFlags := 1, code := none }
def k1c1 : Code := { maxStack := 6, maxLocals := 4, code := method_2_code, exceptionTable := #[], attributes := #[] }
def k1m1 : Method := { name := "mk", desc := "(I)Ljava/lang/String;", sig := { parameters := [.int], returnType := some (.object "java/lang/String") }, accessFlags := 10, code := some k1c1 }
def k1c2 : Code := { maxStack := 3, maxLocals := 4, code := method_3_code, exceptionTable := #[], attributes := #[] }
def k1m2 : Method := { name := "part", desc := "(Ljava/lang/String;ILjava/lang/String;)Z", sig := { parameters := [(.object "java/lang/String"), .int, (.object "java/lang/String")], returnType := some .boolean }, accessFlags := 10, code := some k1c2 }
def k1c3 : Code := { maxStack := 3, maxLocals := 14, code := code, exceptionTable := #[], attributes := #[] }
def k1m3 : Method := { name := "law", desc := "(III)Z", sig := { parameters := [.int, .int, .int], returnType := some .boolean }, accessFlags := 9, code := some k1c3 }
/-- com/example/keyset/keyset/query/DeclarationExceptionForFieldPinLaw -/
def k1 : Class := { plain "com/example/keyset/keyset/query/DeclarationExceptionForFieldPinLaw" (some 0) with
  accessFlags := 49
  interfaces := #[]
  cf := some (fileOf pool1 27 #[] #[{ accessFlags := 1, nameIndex := 5, descriptorIndex := 6, attributes := #[] }, { accessFlags := 10, nameIndex := 30, descriptorIndex := 31, attributes := #[] }, { accessFlags := 10, nameIndex := 44, descriptorIndex := 45, attributes := #[] }, { accessFlags := 9, nameIndex := 49, descriptorIndex := 50, attributes := #[] }] 49 2 #[] #[])
  fields := #[]
  methods := #[k1m0, k1m1, k1m2, k1m3]
  instanceTypes := #[]
  staticTypes := #[]
  resolved := Array.replicate 53 none
  statics := none }

def pool2 : Array CpInfo := pool [(1, .class_ 2), (0, u "java/io/Serializable"), (0, .class_ 4), (0, u "java/lang/Object")] 2

/-- java/io/Serializable -/
def k2 : Class := { plain "java/io/Serializable" (some 0) with
  accessFlags := 1537
  interfaces := #[]
  cf := some (fileOf pool2 1 #[] #[] 1537 3 #[] #[])
  fields := #[]
  methods := #[]
  instanceTypes := #[]
  staticTypes := #[]
  resolved := Array.replicate 7 none
  statics := none }

def pool3 : Array CpInfo := pool [(1, .class_ 2), (0, u "java/lang/Comparable"), (0, .class_ 4), (0, u "java/lang/Object")] 7

/-- java/lang/Comparable -/
def k3 : Class := { plain "java/lang/Comparable" (some 0) with
  accessFlags := 1537
  interfaces := #[]
  cf := some (fileOf pool3 1 #[] #[] 1537 3 #[] #[])
  fields := #[]
  methods := #[]
  instanceTypes := #[]
  staticTypes := #[]
  resolved := Array.replicate 12 none
  statics := none }

def pool4 : Array CpInfo := pool [(2, .class_ 4), (1, u "java/lang/CharSequence"), (42, .class_ 48), (0, u "java/lang/CharSequence$1CodePointIterator"), (10, .class_ 60), (0, u "java/lang/CharSequence$1CharIterator"), (5, .class_ 67), (0, u "java/lang/Object")] 63

/-- java/lang/CharSequence -/
def k4 : Class := { plain "java/lang/CharSequence" (some 0) with
  accessFlags := 1537
  interfaces := #[]
  cf := some (fileOf pool4 2 #[.nestMembers #[47, 59]] #[] 1537 66 #[] #[])
  fields := #[]
  methods := #[]
  instanceTypes := #[]
  staticTypes := #[]
  resolved := Array.replicate 131 none
  statics := none }

def pool5 : Array CpInfo := pool [(1, .class_ 2), (0, u "java/lang/constant/Constable"), (0, .class_ 4), (0, u "java/lang/Object")] 6

/-- java/lang/constant/Constable -/
def k5 : Class := { plain "java/lang/constant/Constable" (some 0) with
  accessFlags := 1537
  interfaces := #[]
  cf := some (fileOf pool5 1 #[] #[] 1537 3 #[] #[])
  fields := #[]
  methods := #[]
  instanceTypes := #[]
  staticTypes := #[]
  resolved := Array.replicate 11 none
  statics := none }

def pool6 : Array CpInfo := pool [(1, .class_ 2), (0, u "java/lang/constant/ConstantDesc"), (0, .class_ 4), (0, u "java/lang/Object")] 32

/-- java/lang/constant/ConstantDesc -/
def k6 : Class := { plain "java/lang/constant/ConstantDesc" (some 0) with
  accessFlags := 1537
  interfaces := #[]
  cf := some (fileOf pool6 1 #[] #[] 1537 3 #[] #[])
  fields := #[]
  methods := #[]
  instanceTypes := #[]
  staticTypes := #[]
  resolved := Array.replicate 37 none
  statics := none }

def pool7 : Array CpInfo := pool [(1, .methodref 2 3), (0, .class_ 4), (0, .nameAndType 5 6), (0, u "java/lang/Object"), (0, u "<init>"), (0, u "()V"), (2, .fieldref 10 11), (0, .class_ 12), (0, .nameAndType 13 14), (0, u "java/lang/String"), (0, u "value"), (0, u "[B"), (0, .fieldref 10 16), (0, .nameAndType 17 18), (0, u "coder"), (0, u "B"), (2, u "hash"), (0, u "I"), (2, u "hashIsZero"), (0, u "Z"), (0, .methodref 10 28), (0, .nameAndType 5 29), (0, u "([CIILjava/lang/Void;)V"), (8, .fieldref 10 39), (0, .nameAndType 40 26), (0, u "COMPACT_STRINGS"), (1, .class_ 44), (1, u "java/lang/StringUTF16"), (0, u "compress"), (1, .methodref 42 48), (0, .nameAndType 49 50), (0, u "coderFromArrayLen"), (0, u "([BI)B"), (2, u "toBytes"), (0, .methodref 55 56), (0, .class_ 57), (0, .nameAndType 58 59), (0, u "java/util/Arrays"), (0, u "copyOfRange"), (0, u "([BII)[B"), (47, .class_ 109), (1, u "java/lang/StringLatin1"), (32, u "()Z"), (34, .methodref 42 178), (0, .nameAndType 45 179), (0, u "([CII)[B"), (13, .class_ 195), (1, u "java/lang/System"), (13, .methodref 10 210), (0, .nameAndType 5 211), (0, u "([BB)V"), (0, .methodref 193 213), (0, .nameAndType 214 215), (0, u "arraycopy"), (0, u "(Ljava/lang/Object;ILjava/lang/Object;II)V"), (118, u "()I"), (0, .methodref 10 336), (0, .nameAndType 17 337), (0, u "()B"), (2, u "()[B"), (22, u "([BI)C"), (5, u "(C)Z"), (21, u "(II)V"), (35, u "(I)C"), (61, .methodref 10 490), (0, .nameAndType 5 491), (0, u "(Ljava/lang/AbstractStringBuilder;Ljava/lang/Void;)V"), (0, .methodref 10 493), (0, .nameAndType 494 142), (0, u "isLatin1"), (0, .methodref 107 496), (0, .nameAndType 497 363), (0, u "charAt"), (3, u "checkIndex"), (4, .nameAndType 507 334), (0, u "length"), (24, u "getBytes"), (16, .methodref 550 506), (0, .class_ 551), (0, u "java/lang/AbstractStringBuilder"), (0, .methodref 550 553), (0, .nameAndType 554 340), (0, u "getValue"), (20, .class_ 576), (0, u "java/lang/CharSequence"), (22, u "CASE_INSENSITIVE_ORDER"), (0, u "Ljava/util/Comparator;"), (181, u "valueOf"), (0, u "(C)Ljava/lang/String;"), (37, u "([BIB)V"), (188, u "([C)V"), (4, .methodref 107 1016), (0, .nameAndType 1017 369), (0, u "canEncode"), (0, .methodref 107 1019), (0, .nameAndType 53 1020), (0, u "(C)[B"), (26, .methodref 550 493), (5, .fieldref 1054 1055), (0, .class_ 1056), (0, .nameAndType 1057 1058), (0, u "jdk/internal/util/Preconditions"), (0, u "SIOOBE_FORMATTER"), (0, u "Ljava/util/function/BiFunction;"), (0, .methodref 1054 1060), (0, .nameAndType 501 1061), (0, u "(IILjava/util/function/BiFunction;)I"), (39, u "serialPersistentFields"), (0, u "[Ljava/io/ObjectStreamField;"), (0, .class_ 1104), (0, u "java/lang/String$CaseInsensitiveComparator"), (1, .class_ 1107), (0, u "java/io/Serializable"), (0, .class_ 1109), (0, u "java/lang/Comparable"), (0, .class_ 1111), (0, u "java/lang/constant/Constable"), (0, .class_ 1113), (0, u "java/lang/constant/ConstantDesc"), (2, u "serialVersionUID"), (0, u "J"), (3, u "REPL"), (0, u "C"), (2, u "LATIN1"), (1, u "UTF16"), (105, u "(Ljava/lang/StringBuilder;)V")] 217

def k7m0 : Method := { name := "<init>", desc := "()V", sig := { parameters := [], returnType := none }, accessFlags := 1, code := none }
def k7c1 : Code := { maxStack := 5, maxLocals := 2, code := jdk_42_method_3_code, exceptionTable := #[], attributes := #[] }
def k7m1 : Method := { name := "<init>", desc := "([C)V", sig := { parameters := [(.array .char)], returnType := none }, accessFlags := 1, code := some k7c1 }
def k7c2 : Code := { maxStack := 3, maxLocals := 2, code := jdk_42_method_53_code, exceptionTable := #[], attributes := #[] }
def k7m2 : Method := { name := "<init>", desc := "(Ljava/lang/StringBuilder;)V", sig := { parameters := [(.object "java/lang/StringBuilder")], returnType := none }, accessFlags := 1, code := some k7c2 }
def k7c3 : Code := { maxStack := 2, maxLocals := 1, code := jdk_42_method_54_code, exceptionTable := #[], attributes := #[] }
def k7m3 : Method := { name := "length", desc := "()I", sig := { parameters := [], returnType := some .int }, accessFlags := 1, code := some k7c3 }
def k7c4 : Code := { maxStack := 2, maxLocals := 2, code := jdk_42_method_56_code, exceptionTable := #[], attributes := #[] }
def k7m4 : Method := { name := "charAt", desc := "(I)C", sig := { parameters := [.int], returnType := some .char }, accessFlags := 1, code := some k7c4 }
def k7c5 : Code := { maxStack := 4, maxLocals := 1, code := jdk_42_method_139_code, exceptionTable := #[], attributes := #[] }
def k7m5 : Method := { name := "valueOf", desc := "(C)Ljava/lang/String;", sig := { parameters := [.char], returnType := some (.object "java/lang/String") }, accessFlags := 9, code := some k7c5 }
def k7c6 : Code := { maxStack := 5, maxLocals := 4, code := jdk_42_method_147_code, exceptionTable := #[], attributes := #[] }
def k7m6 : Method := { name := "getBytes", desc := "([BIB)V", sig := { parameters := [(.array .byte), .int, .byte], returnType := none }, accessFlags := 0, code := some k7c6 }
def k7c7 : Code := { maxStack := 4, maxLocals := 6, code := jdk_42_method_149_code, exceptionTable := #[], attributes := #[] }
def k7m7 : Method := { name := "<init>", desc := "([CIILjava/lang/Void;)V", sig := { parameters := [(.array .char), .int, .int, (.object "java/lang/Void")], returnType := none }, accessFlags := 2, code := some k7c7 }
def k7c8 : Code := { maxStack := 5, maxLocals := 5, code := jdk_42_method_150_code, exceptionTable := #[], attributes := #[] }
def k7m8 : Method := { name := "<init>", desc := "(Ljava/lang/AbstractStringBuilder;Ljava/lang/Void;)V", sig := { parameters := [(.object "java/lang/AbstractStringBuilder"), (.object "java/lang/Void")], returnType := none }, accessFlags := 0, code := some k7c8 }
def k7c9 : Code := { maxStack := 2, maxLocals := 3, code := jdk_42_method_151_code, exceptionTable := #[], attributes := #[] }
def k7m9 : Method := { name := "<init>", desc := "([BB)V", sig := { parameters := [(.array .byte), .byte], returnType := none }, accessFlags := 0, code := some k7c9 }
def k7c10 : Code := { maxStack := 1, maxLocals := 1, code := jdk_42_method_152_code, exceptionTable := #[], attributes := #[] }
def k7m10 : Method := { name := "coder", desc := "()B", sig := { parameters := [], returnType := some .byte }, accessFlags := 0, code := some k7c10 }
def k7c11 : Code := { maxStack := 1, maxLocals := 1, code := jdk_42_method_154_code, exceptionTable := #[], attributes := #[] }
def k7m11 : Method := { name := "isLatin1", desc := "()Z", sig := { parameters := [], returnType := some .boolean }, accessFlags := 0, code := some k7c11 }
def k7c12 : Code := { maxStack := 3, maxLocals := 2, code := jdk_42_method_155_code, exceptionTable := #[], attributes := #[] }
def k7m12 : Method := { name := "checkIndex", desc := "(II)V", sig := { parameters := [.int, .int], returnType := none }, accessFlags := 8, code := some k7c12 }
/-- java/lang/String -/
def k7 : Class := { plain "java/lang/String" (some 0) with
  accessFlags := 49
  interfaces := #[2, 3, 4, 5, 6]
  cf := some (fileOf pool7 10 #[.nestMembers #[1103]] #[{ accessFlags := 1, nameIndex := 5, descriptorIndex := 6, attributes := #[] }, { accessFlags := 1, nameIndex := 5, descriptorIndex := 1010, attributes := #[] }, { accessFlags := 1, nameIndex := 5, descriptorIndex := 1233, attributes := #[] }, { accessFlags := 1, nameIndex := 507, descriptorIndex := 334, attributes := #[] }, { accessFlags := 1, nameIndex := 497, descriptorIndex := 427, attributes := #[] }, { accessFlags := 9, nameIndex := 782, descriptorIndex := 783, attributes := #[] }, { accessFlags := 0, nameIndex := 532, descriptorIndex := 821, attributes := #[] }, { accessFlags := 2, nameIndex := 5, descriptorIndex := 29, attributes := #[] }, { accessFlags := 0, nameIndex := 5, descriptorIndex := 491, attributes := #[] }, { accessFlags := 0, nameIndex := 5, descriptorIndex := 211, attributes := #[] }, { accessFlags := 0, nameIndex := 17, descriptorIndex := 337, attributes := #[] }, { accessFlags := 0, nameIndex := 494, descriptorIndex := 142, attributes := #[] }, { accessFlags := 8, nameIndex := 501, descriptorIndex := 391, attributes := #[] }] 49 2 #[1106, 1108, 575, 1110, 1112] #[{ accessFlags := 18, nameIndex := 13, descriptorIndex := 14, attributes := #[] }, { accessFlags := 18, nameIndex := 17, descriptorIndex := 18, attributes := #[] }, { accessFlags := 2, nameIndex := 21, descriptorIndex := 22, attributes := #[] }, { accessFlags := 2, nameIndex := 25, descriptorIndex := 26, attributes := #[] }, { accessFlags := 26, nameIndex := 1116, descriptorIndex := 1117, attributes := #[] }, { accessFlags := 24, nameIndex := 40, descriptorIndex := 26, attributes := #[] }, { accessFlags := 26, nameIndex := 1101, descriptorIndex := 1102, attributes := #[] }, { accessFlags := 26, nameIndex := 1121, descriptorIndex := 1122, attributes := #[] }, { accessFlags := 25, nameIndex := 599, descriptorIndex := 600, attributes := #[] }, { accessFlags := 24, nameIndex := 1125, descriptorIndex := 18, attributes := #[] }, { accessFlags := 24, nameIndex := 1127, descriptorIndex := 18, attributes := #[] }])
  fields := #[{ name := "value", type := (.array .byte), accessFlags := 18, slot := 0, constantValue := 0 }, { name := "coder", type := .byte, accessFlags := 18, slot := 1, constantValue := 0 }, { name := "hash", type := .int, accessFlags := 2, slot := 2, constantValue := 0 }, { name := "hashIsZero", type := .boolean, accessFlags := 2, slot := 3, constantValue := 0 }, { name := "serialVersionUID", type := .long, accessFlags := 26, slot := 0, constantValue := 0 }, { name := "COMPACT_STRINGS", type := .boolean, accessFlags := 24, slot := 1, constantValue := 0 }, { name := "serialPersistentFields", type := (.array (.object "java/io/ObjectStreamField")), accessFlags := 26, slot := 2, constantValue := 0 }, { name := "REPL", type := .char, accessFlags := 26, slot := 3, constantValue := 0 }, { name := "CASE_INSENSITIVE_ORDER", type := (.object "java/util/Comparator"), accessFlags := 25, slot := 4, constantValue := 0 }, { name := "LATIN1", type := .byte, accessFlags := 24, slot := 5, constantValue := 0 }, { name := "UTF16", type := .byte, accessFlags := 24, slot := 6, constantValue := 0 }]
  methods := #[k7m0, k7m1, k7m2, k7m3, k7m4, k7m5, k7m6, k7m7, k7m8, k7m9, k7m10, k7m11, k7m12]
  instanceTypes := #[(.array .byte), .byte, .int, .boolean]
  staticTypes := #[.long, .boolean, (.array (.object "java/io/ObjectStreamField")), .char, (.object "java/util/Comparator"), .byte, .byte]
  resolved := Array.replicate 1451 none
  statics := some 0 }

def pool8 : Array CpInfo := pool [(1, .methodref 2 3), (0, .class_ 4), (0, .nameAndType 5 6), (0, u "java/lang/Object"), (0, u "<init>"), (0, u "()V"), (0, .fieldref 8 9), (0, .class_ 10), (0, .nameAndType 11 12), (0, u "java/lang/Throwable"), (0, u "cause"), (0, u "Ljava/lang/Throwable;"), (0, .fieldref 8 14), (0, .nameAndType 15 16), (0, u "UNASSIGNED_STACK"), (0, u "[Ljava/lang/StackTraceElement;"), (0, .fieldref 8 18), (0, .nameAndType 19 16), (0, u "stackTrace"), (0, .fieldref 8 21), (0, .nameAndType 22 23), (0, u "SUPPRESSED_SENTINEL"), (0, u "Ljava/util/List;"), (0, .fieldref 8 25), (0, .nameAndType 26 23), (0, u "suppressedExceptions"), (0, .methodref 8 28), (0, .nameAndType 29 30), (0, u "fillInStackTrace"), (0, u "()Ljava/lang/Throwable;"), (0, .fieldref 8 32), (0, .nameAndType 33 34), (0, u "detailMessage"), (0, u "Ljava/lang/String;"), (3, u "()Ljava/lang/String;"), (2, u "getMessage"), (51, .class_ 94), (0, u "java/lang/Throwable$WrappedPrintStream"), (6, .class_ 103), (1, u "java/lang/Throwable$PrintStreamOrWriter"), (61, u "$assertionsDisabled"), (0, u "Z"), (26, .class_ 194), (0, u "java/lang/Throwable$WrappedPrintWriter"), (3, .fieldref 8 199), (0, .nameAndType 200 201), (0, u "backtrace"), (0, u "Ljava/lang/Object;"), (0, .methodref 8 203), (0, .nameAndType 29 204), (0, u "(I)Ljava/lang/Throwable;"), (6, u "depth"), (0, u "I"), (10, u "(Ljava/lang/String;)V"), (45, .class_ 271), (1, u "java/lang/Throwable$SentinelHolder"), (32, u "EMPTY_THROWABLE_ARRAY"), (0, u "[Ljava/lang/Throwable;"), (12, .class_ 319), (0, u "java/io/Serializable"), (0, u "serialVersionUID"), (0, u "J"), (5, u "NULL_CAUSE_MESSAGE"), (0, u "SELF_SUPPRESSION_MESSAGE"), (0, u "CAUSE_CAPTION"), (0, u "SUPPRESSED_CAPTION")] 73

def k8c0 : Code := { maxStack := 2, maxLocals := 1, code := jdk_78_method_1_code, exceptionTable := #[], attributes := #[] }
def k8m0 : Method := { name := "<init>", desc := "()V", sig := { parameters := [], returnType := none }, accessFlags := 1, code := some k8c0 }
def k8c1 : Code := { maxStack := 2, maxLocals := 2, code := jdk_78_method_2_code, exceptionTable := #[], attributes := #[] }
def k8m1 : Method := { name := "<init>", desc := "(Ljava/lang/String;)V", sig := { parameters := [(.object "java/lang/String")], returnType := none }, accessFlags := 1, code := some k8c1 }
def k8c2 : Code := { maxStack := 1, maxLocals := 1, code := jdk_78_method_6_code, exceptionTable := #[], attributes := #[] }
def k8m2 : Method := { name := "getMessage", desc := "()Ljava/lang/String;", sig := { parameters := [], returnType := some (.object "java/lang/String") }, accessFlags := 1, code := some k8c2 }
def k8c3 : Code := { maxStack := 2, maxLocals := 1, code := ⟨#[0x2a, 0xb4, 0x00, 0x11, 0xc7, 0x00, 0x0a, 0x2a, 0xb4, 0x00, 0xc6, 0xc6, 0x00, 0x10, 0x2a, 0x03, 0xb6, 0x00, 0xca, 0x57, 0x2a, 0xb2, 0x00, 0x0d, 0xb5, 0x00, 0x11, 0x2a, 0xb0]⟩, exceptionTable := #[], attributes := #[] }
def k8m3 : Method := { name := "fillInStackTrace", desc := "()Ljava/lang/Throwable;", sig := { parameters := [], returnType := some (.object "java/lang/Throwable") }, accessFlags := 33, code := some k8c3 }
def k8m4 : Method := { name := "fillInStackTrace", desc := "(I)Ljava/lang/Throwable;", sig := { parameters := [.int], returnType := some (.object "java/lang/Throwable") }, accessFlags := 258, code := none }
/-- java/lang/Throwable -/
def k8 : Class := { plain "java/lang/Throwable" (some 0) with
  accessFlags := 33
  interfaces := #[2]
  cf := some (fileOf pool8 8 #[.nestMembers #[193, 93, 101, 269]] #[{ accessFlags := 1, nameIndex := 5, descriptorIndex := 6, attributes := #[] }, { accessFlags := 1, nameIndex := 5, descriptorIndex := 223, attributes := #[] }, { accessFlags := 1, nameIndex := 41, descriptorIndex := 38, attributes := #[] }, { accessFlags := 33, nameIndex := 29, descriptorIndex := 30, attributes := #[] }, { accessFlags := 258, nameIndex := 29, descriptorIndex := 204, attributes := #[] }] 33 2 #[318] #[{ accessFlags := 26, nameIndex := 320, descriptorIndex := 321, attributes := #[] }, { accessFlags := 130, nameIndex := 200, descriptorIndex := 201, attributes := #[] }, { accessFlags := 2, nameIndex := 33, descriptorIndex := 34, attributes := #[] }, { accessFlags := 26, nameIndex := 15, descriptorIndex := 16, attributes := #[] }, { accessFlags := 2, nameIndex := 11, descriptorIndex := 12, attributes := #[] }, { accessFlags := 2, nameIndex := 19, descriptorIndex := 16, attributes := #[] }, { accessFlags := 130, nameIndex := 211, descriptorIndex := 212, attributes := #[] }, { accessFlags := 26, nameIndex := 22, descriptorIndex := 23, attributes := #[] }, { accessFlags := 2, nameIndex := 26, descriptorIndex := 23, attributes := #[] }, { accessFlags := 26, nameIndex := 327, descriptorIndex := 34, attributes := #[] }, { accessFlags := 26, nameIndex := 328, descriptorIndex := 34, attributes := #[] }, { accessFlags := 26, nameIndex := 329, descriptorIndex := 34, attributes := #[] }, { accessFlags := 26, nameIndex := 330, descriptorIndex := 34, attributes := #[] }, { accessFlags := 26, nameIndex := 304, descriptorIndex := 305, attributes := #[] }, { accessFlags := 4120, nameIndex := 165, descriptorIndex := 166, attributes := #[] }])
  fields := #[{ name := "serialVersionUID", type := .long, accessFlags := 26, slot := 0, constantValue := 0 }, { name := "backtrace", type := (.object "java/lang/Object"), accessFlags := 130, slot := 0, constantValue := 0 }, { name := "detailMessage", type := (.object "java/lang/String"), accessFlags := 2, slot := 1, constantValue := 0 }, { name := "UNASSIGNED_STACK", type := (.array (.object "java/lang/StackTraceElement")), accessFlags := 26, slot := 1, constantValue := 0 }, { name := "cause", type := (.object "java/lang/Throwable"), accessFlags := 2, slot := 2, constantValue := 0 }, { name := "stackTrace", type := (.array (.object "java/lang/StackTraceElement")), accessFlags := 2, slot := 3, constantValue := 0 }, { name := "depth", type := .int, accessFlags := 130, slot := 4, constantValue := 0 }, { name := "SUPPRESSED_SENTINEL", type := (.object "java/util/List"), accessFlags := 26, slot := 2, constantValue := 0 }, { name := "suppressedExceptions", type := (.object "java/util/List"), accessFlags := 2, slot := 5, constantValue := 0 }, { name := "NULL_CAUSE_MESSAGE", type := (.object "java/lang/String"), accessFlags := 26, slot := 3, constantValue := 0 }, { name := "SELF_SUPPRESSION_MESSAGE", type := (.object "java/lang/String"), accessFlags := 26, slot := 4, constantValue := 0 }, { name := "CAUSE_CAPTION", type := (.object "java/lang/String"), accessFlags := 26, slot := 5, constantValue := 0 }, { name := "SUPPRESSED_CAPTION", type := (.object "java/lang/String"), accessFlags := 26, slot := 6, constantValue := 0 }, { name := "EMPTY_THROWABLE_ARRAY", type := (.array (.object "java/lang/Throwable")), accessFlags := 26, slot := 7, constantValue := 0 }, { name := "$assertionsDisabled", type := .boolean, accessFlags := 4120, slot := 8, constantValue := 0 }]
  methods := #[k8m0, k8m1, k8m2, k8m3, k8m4]
  instanceTypes := #[(.object "java/lang/Object"), (.object "java/lang/String"), (.object "java/lang/Throwable"), (.array (.object "java/lang/StackTraceElement")), .int, (.object "java/util/List")]
  staticTypes := #[.long, (.array (.object "java/lang/StackTraceElement")), (.object "java/util/List"), (.object "java/lang/String"), (.object "java/lang/String"), (.object "java/lang/String"), (.object "java/lang/String"), (.array (.object "java/lang/Throwable")), .boolean]
  resolved := Array.replicate 404 none
  statics := some 1 }

def pool9 : Array CpInfo := pool [(2, .class_ 4), (1, u "java/lang/Throwable"), (0, u "<init>"), (0, u "()V"), (0, .methodref 2 8), (0, .nameAndType 5 9), (0, u "(Ljava/lang/String;)V"), (9, .class_ 20), (0, u "java/lang/Exception"), (0, u "serialVersionUID"), (0, u "J")] 17

def k9m0 : Method := { name := "<init>", desc := "()V", sig := { parameters := [], returnType := none }, accessFlags := 1, code := none }
def k9c1 : Code := { maxStack := 2, maxLocals := 2, code := jdk_59_method_2_code, exceptionTable := #[], attributes := #[] }
def k9m1 : Method := { name := "<init>", desc := "(Ljava/lang/String;)V", sig := { parameters := [(.object "java/lang/String")], returnType := none }, accessFlags := 1, code := some k9c1 }
/-- java/lang/Exception -/
def k9 : Class := { plain "java/lang/Exception" (some 8) with
  accessFlags := 33
  interfaces := #[]
  cf := some (fileOf pool9 19 #[] #[{ accessFlags := 1, nameIndex := 5, descriptorIndex := 6, attributes := #[] }, { accessFlags := 1, nameIndex := 5, descriptorIndex := 9, attributes := #[] }] 33 2 #[] #[{ accessFlags := 24, nameIndex := 21, descriptorIndex := 22, attributes := #[] }])
  fields := #[{ name := "serialVersionUID", type := .long, accessFlags := 24, slot := 0, constantValue := 0 }]
  methods := #[k9m0, k9m1]
  instanceTypes := #[(.object "java/lang/Object"), (.object "java/lang/String"), (.object "java/lang/Throwable"), (.array (.object "java/lang/StackTraceElement")), .int, (.object "java/util/List")]
  staticTypes := #[.long]
  resolved := Array.replicate 40 none
  statics := none }

def pool10 : Array CpInfo := pool [(2, .class_ 4), (1, u "java/lang/Exception"), (0, u "<init>"), (0, u "()V"), (0, .methodref 2 8), (0, .nameAndType 5 9), (0, u "(Ljava/lang/String;)V"), (9, .class_ 20), (0, u "java/lang/RuntimeException"), (0, u "serialVersionUID"), (0, u "J")] 17

def k10m0 : Method := { name := "<init>", desc := "()V", sig := { parameters := [], returnType := none }, accessFlags := 1, code := none }
def k10c1 : Code := { maxStack := 2, maxLocals := 2, code := jdk_58_method_2_code, exceptionTable := #[], attributes := #[] }
def k10m1 : Method := { name := "<init>", desc := "(Ljava/lang/String;)V", sig := { parameters := [(.object "java/lang/String")], returnType := none }, accessFlags := 1, code := some k10c1 }
/-- java/lang/RuntimeException -/
def k10 : Class := { plain "java/lang/RuntimeException" (some 9) with
  accessFlags := 33
  interfaces := #[]
  cf := some (fileOf pool10 19 #[] #[{ accessFlags := 1, nameIndex := 5, descriptorIndex := 6, attributes := #[] }, { accessFlags := 1, nameIndex := 5, descriptorIndex := 9, attributes := #[] }] 33 2 #[] #[{ accessFlags := 24, nameIndex := 21, descriptorIndex := 22, attributes := #[] }])
  fields := #[{ name := "serialVersionUID", type := .long, accessFlags := 24, slot := 0, constantValue := 0 }]
  methods := #[k10m0, k10m1]
  instanceTypes := #[(.object "java/lang/Object"), (.object "java/lang/String"), (.object "java/lang/Throwable"), (.array (.object "java/lang/StackTraceElement")), .int, (.object "java/util/List")]
  staticTypes := #[.long]
  resolved := Array.replicate 40 none
  statics := none }

def pool11 : Array CpInfo := pool [(1, .methodref 2 3), (0, .class_ 4), (0, .nameAndType 5 6), (0, u "java/lang/RuntimeException"), (0, u "<init>"), (0, u "(Ljava/lang/String;)V"), (0, .class_ 8), (0, u "com/example/keyset/keyset/query/DeclarationException"), (0, .class_ 10), (0, u "java/lang/StringBuilder"), (0, .methodref 9 12), (0, .nameAndType 5 13), (0, u "()V"), (0, .string 15), (0, u "resource \""), (0, .methodref 9 17), (0, .nameAndType 18 19), (0, u "append"), (0, u "(Ljava/lang/String;)Ljava/lang/StringBuilder;"), (0, .string 21), (0, u "\": "), (0, .methodref 9 23), (0, .nameAndType 24 25), (0, u "toString"), (0, u "()Ljava/lang/String;"), (0, .methodref 7 3), (0, .string 28), (0, u "field \""), (0, .methodref 7 30), (0, .nameAndType 31 32), (0, u "forResource"), (0, u "(Ljava/lang/String;Ljava/lang/String;)Lcom/example/keyset/keyset/query/DeclarationException;"), (0, u "serialVersionUID"), (0, u "J"), (5, u "forField"), (0, u "(Ljava/lang/String;Ljava/lang/String;Ljava/lang/String;)Lcom/example/keyset/keyset/query/DeclarationException;")] 2

def k11c0 : Code := { maxStack := 2, maxLocals := 2, code := prog_2_method_1_code, exceptionTable := #[], attributes := #[] }
def k11m0 : Method := { name := "<init>", desc := "(Ljava/lang/String;)V", sig := { parameters := [(.object "java/lang/String")], returnType := none }, accessFlags := 1, code := some k11c0 }
def k11c1 : Code := { maxStack := 4, maxLocals := 2, code := prog_2_method_2_code, exceptionTable := #[], attributes := #[] }
def k11m1 : Method := { name := "forResource", desc := "(Ljava/lang/String;Ljava/lang/String;)Lcom/example/keyset/keyset/query/DeclarationException;", sig := { parameters := [(.object "java/lang/String"), (.object "java/lang/String")], returnType := some (.object "com/example/keyset/keyset/query/DeclarationException") }, accessFlags := 9, code := some k11c1 }
def k11c2 : Code := { maxStack := 3, maxLocals := 3, code := prog_2_method_3_code, exceptionTable := #[], attributes := #[] }
def k11m2 : Method := { name := "forField", desc := "(Ljava/lang/String;Ljava/lang/String;Ljava/lang/String;)Lcom/example/keyset/keyset/query/DeclarationException;", sig := { parameters := [(.object "java/lang/String"), (.object "java/lang/String"), (.object "java/lang/String")], returnType := some (.object "com/example/keyset/keyset/query/DeclarationException") }, accessFlags := 9, code := some k11c2 }
/-- com/example/keyset/keyset/query/DeclarationException -/
def k11 : Class := { plain "com/example/keyset/keyset/query/DeclarationException" (some 10) with
  accessFlags := 33
  interfaces := #[]
  cf := some (fileOf pool11 7 #[] #[{ accessFlags := 1, nameIndex := 5, descriptorIndex := 6, attributes := #[] }, { accessFlags := 9, nameIndex := 31, descriptorIndex := 32, attributes := #[] }, { accessFlags := 9, nameIndex := 40, descriptorIndex := 41, attributes := #[] }] 33 2 #[] #[{ accessFlags := 26, nameIndex := 33, descriptorIndex := 34, attributes := #[] }])
  fields := #[{ name := "serialVersionUID", type := .long, accessFlags := 26, slot := 0, constantValue := 0 }]
  methods := #[k11m0, k11m1, k11m2]
  instanceTypes := #[(.object "java/lang/Object"), (.object "java/lang/String"), (.object "java/lang/Throwable"), (.array (.object "java/lang/StackTraceElement")), .int, (.object "java/util/List")]
  staticTypes := #[.long]
  resolved := Array.replicate 44 none
  statics := none }

def pool12 : Array CpInfo := pool [(1, .class_ 2), (0, u "java/lang/Appendable"), (0, .class_ 4), (0, u "java/lang/Object")] 9

/-- java/lang/Appendable -/
def k12 : Class := { plain "java/lang/Appendable" (some 0) with
  accessFlags := 1537
  interfaces := #[]
  cf := some (fileOf pool12 1 #[] #[] 1537 3 #[] #[])
  fields := #[]
  methods := #[]
  instanceTypes := #[]
  staticTypes := #[]
  resolved := Array.replicate 14 none
  statics := none }

def pool13 : Array CpInfo := pool [(1, .class_ 2), (0, u "java/lang/String"), (0, .methodref 4 5), (0, .class_ 6), (0, .nameAndType 7 8), (0, u "java/lang/Object"), (0, u "<init>"), (0, u "()V"), (1, .class_ 12), (1, u "java/lang/AbstractStringBuilder"), (0, u "EMPTYVALUE"), (0, u "[B"), (0, .fieldref 10 16), (0, .nameAndType 17 14), (0, u "value"), (0, .fieldref 1 19), (0, .nameAndType 20 21), (0, u "COMPACT_STRINGS"), (0, u "Z"), (0, .fieldref 10 23), (0, .nameAndType 24 25), (0, u "coder"), (0, u "B"), (6, .methodref 1 33), (0, .nameAndType 34 35), (0, u "length"), (0, u "()I"), (3, .integer 2147483647), (0, .methodref 1 41), (0, .nameAndType 24 42), (0, u "()B"), (2, u "append"), (0, u "(Ljava/lang/String;)Ljava/lang/AbstractStringBuilder;"), (1, .class_ 49), (0, u "java/lang/CharSequence"), (19, u "(Ljava/lang/String;)V"), (5, u "maybeLatin1"), (3, .fieldref 10 80), (0, .nameAndType 81 82), (0, u "count"), (0, u "I"), (2, u "isLatin1"), (0, u "()Z"), (13, .methodref 10 101), (0, .nameAndType 102 103), (0, u "ensureCapacityInternal"), (0, u "(I)V"), (0, .methodref 10 105), (0, .nameAndType 106 107), (0, u "newCapacity"), (0, u "(I)I"), (0, .methodref 109 110), (0, .class_ 111), (0, .nameAndType 112 113), (0, u "java/util/Arrays"), (0, u "copyOf"), (0, u "([BI)[B"), (0, .methodref 115 116), (0, .class_ 117), (0, .nameAndType 118 119), (0, u "jdk/internal/util/ArraysSupport"), (0, u "newLength"), (0, u "(III)I"), (88, .methodref 10 209), (0, .nameAndType 210 211), (0, u "putStringAt"), (0, u "(ILjava/lang/String;)V"), (5, u "inflateIfNeededFor"), (2, .nameAndType 221 222), (0, u "getBytes"), (0, u "([BIB)V"), (174, .methodref 10 398), (0, .nameAndType 217 69), (0, .methodref 1 220), (3, u "()[B"), (40, .class_ 445), (0, u "java/lang/Appendable"), (106, u "getValue")] 56

def k13m0 : Method := { name := "<init>", desc := "()V", sig := { parameters := [], returnType := none }, accessFlags := 0, code := none }
def k13c1 : Code := { maxStack := 2, maxLocals := 2, code := jdk_68_method_2_code, exceptionTable := #[], attributes := #[] }
def k13m1 : Method := { name := "<init>", desc := "(I)V", sig := { parameters := [.int], returnType := none }, accessFlags := 0, code := some k13c1 }
def k13c2 : Code := { maxStack := 1, maxLocals := 1, code := jdk_68_method_6_code, exceptionTable := #[], attributes := #[] }
def k13m2 : Method := { name := "length", desc := "()I", sig := { parameters := [], returnType := some .int }, accessFlags := 1, code := some k13c2 }
def k13c3 : Code := { maxStack := 4, maxLocals := 3, code := jdk_68_method_9_code, exceptionTable := #[], attributes := #[] }
def k13m3 : Method := { name := "ensureCapacityInternal", desc := "(I)V", sig := { parameters := [.int], returnType := none }, accessFlags := 2, code := some k13c3 }
def k13c4 : Code := { maxStack := 5, maxLocals := 6, code := jdk_68_method_10_code, exceptionTable := #[], attributes := #[] }
def k13m4 : Method := { name := "newCapacity", desc := "(I)I", sig := { parameters := [.int], returnType := some .int }, accessFlags := 2, code := some k13c4 }
def k13c5 : Code := { maxStack := 3, maxLocals := 3, code := jdk_68_method_22_code, exceptionTable := #[], attributes := #[] }
def k13m5 : Method := { name := "append", desc := "(Ljava/lang/String;)Ljava/lang/AbstractStringBuilder;", sig := { parameters := [(.object "java/lang/String")], returnType := some (.object "java/lang/AbstractStringBuilder") }, accessFlags := 1, code := some k13c5 }
def k13c6 : Code := { maxStack := 1, maxLocals := 1, code := jdk_68_method_64_code, exceptionTable := #[], attributes := #[] }
def k13m6 : Method := { name := "getValue", desc := "()[B", sig := { parameters := [], returnType := some (.array .byte) }, accessFlags := 16, code := some k13c6 }
def k13c7 : Code := { maxStack := 1, maxLocals := 1, code := jdk_68_method_68_code, exceptionTable := #[], attributes := #[] }
def k13m7 : Method := { name := "isLatin1", desc := "()Z", sig := { parameters := [], returnType := some .boolean }, accessFlags := 16, code := some k13c7 }
def k13c8 : Code := { maxStack := 2, maxLocals := 2, code := jdk_68_method_71_code, exceptionTable := #[], attributes := #[] }
def k13m8 : Method := { name := "inflateIfNeededFor", desc := "(Ljava/lang/String;)V", sig := { parameters := [(.object "java/lang/String")], returnType := none }, accessFlags := 2, code := some k13c8 }
def k13c9 : Code := { maxStack := 4, maxLocals := 3, code := jdk_68_method_73_code, exceptionTable := #[], attributes := #[] }
def k13m9 : Method := { name := "putStringAt", desc := "(ILjava/lang/String;)V", sig := { parameters := [.int, (.object "java/lang/String")], returnType := none }, accessFlags := 2, code := some k13c9 }
/-- java/lang/AbstractStringBuilder -/
def k13 : Class := { plain "java/lang/AbstractStringBuilder" (some 0) with
  accessFlags := 1056
  interfaces := #[12, 4]
  cf := some (fileOf pool13 10 #[] #[{ accessFlags := 0, nameIndex := 7, descriptorIndex := 8, attributes := #[] }, { accessFlags := 0, nameIndex := 7, descriptorIndex := 103, attributes := #[] }, { accessFlags := 1, nameIndex := 34, descriptorIndex := 35, attributes := #[] }, { accessFlags := 2, nameIndex := 102, descriptorIndex := 103, attributes := #[] }, { accessFlags := 2, nameIndex := 106, descriptorIndex := 107, attributes := #[] }, { accessFlags := 1, nameIndex := 45, descriptorIndex := 46, attributes := #[] }, { accessFlags := 16, nameIndex := 552, descriptorIndex := 403, attributes := #[] }, { accessFlags := 16, nameIndex := 85, descriptorIndex := 86, attributes := #[] }, { accessFlags := 2, nameIndex := 217, descriptorIndex := 69, attributes := #[] }, { accessFlags := 2, nameIndex := 210, descriptorIndex := 211, attributes := #[] }] 1056 4 #[444, 48] #[{ accessFlags := 0, nameIndex := 17, descriptorIndex := 14, attributes := #[] }, { accessFlags := 0, nameIndex := 24, descriptorIndex := 25, attributes := #[] }, { accessFlags := 0, nameIndex := 75, descriptorIndex := 21, attributes := #[] }, { accessFlags := 0, nameIndex := 81, descriptorIndex := 82, attributes := #[] }, { accessFlags := 26, nameIndex := 13, descriptorIndex := 14, attributes := #[] }])
  fields := #[{ name := "value", type := (.array .byte), accessFlags := 0, slot := 0, constantValue := 0 }, { name := "coder", type := .byte, accessFlags := 0, slot := 1, constantValue := 0 }, { name := "maybeLatin1", type := .boolean, accessFlags := 0, slot := 2, constantValue := 0 }, { name := "count", type := .int, accessFlags := 0, slot := 3, constantValue := 0 }, { name := "EMPTYVALUE", type := (.array .byte), accessFlags := 26, slot := 0, constantValue := 0 }]
  methods := #[k13m0, k13m1, k13m2, k13m3, k13m4, k13m5, k13m6, k13m7, k13m8, k13m9]
  instanceTypes := #[(.array .byte), .byte, .boolean, .int]
  staticTypes := #[(.array .byte)]
  resolved := Array.replicate 609 none
  statics := none }

def pool14 : Array CpInfo := pool [(1, .methodref 2 3), (0, .class_ 4), (0, .nameAndType 5 6), (0, u "java/lang/AbstractStringBuilder"), (0, u "<init>"), (0, u "(I)V"), (11, .class_ 20), (1, u "java/lang/String"), (3, .class_ 26), (1, u "java/lang/StringBuilder"), (0, u "append"), (0, u "(Ljava/lang/String;)Ljava/lang/StringBuilder;"), (0, .methodref 2 30), (0, .nameAndType 27 31), (0, u "(Ljava/lang/String;)Ljava/lang/AbstractStringBuilder;"), (105, .methodref 18 138), (0, .nameAndType 5 139), (0, u "(Ljava/lang/StringBuilder;)V"), (5, u "()V"), (10, u "()I"), (186, .methodref 2 344), (0, .nameAndType 345 156), (0, u "length"), (3, .class_ 350), (0, u "java/lang/Appendable"), (0, .class_ 352), (0, u "java/io/Serializable"), (0, .class_ 354), (0, u "java/lang/Comparable"), (0, .class_ 356), (0, u "java/lang/CharSequence"), (0, u "serialVersionUID"), (0, u "J"), (40, u "toString"), (0, u "()Ljava/lang/String;")] 21

def k14c0 : Code := { maxStack := 2, maxLocals := 1, code := jdk_67_method_1_code, exceptionTable := #[], attributes := #[] }
def k14m0 : Method := { name := "<init>", desc := "()V", sig := { parameters := [], returnType := none }, accessFlags := 1, code := some k14c0 }
def k14c1 : Code := { maxStack := 2, maxLocals := 2, code := jdk_67_method_7_code, exceptionTable := #[], attributes := #[] }
def k14m1 : Method := { name := "append", desc := "(Ljava/lang/String;)Ljava/lang/StringBuilder;", sig := { parameters := [(.object "java/lang/String")], returnType := some (.object "java/lang/StringBuilder") }, accessFlags := 1, code := some k14c1 }
def k14c2 : Code := { maxStack := 3, maxLocals := 1, code := jdk_67_method_42_code, exceptionTable := #[], attributes := #[] }
def k14m2 : Method := { name := "toString", desc := "()Ljava/lang/String;", sig := { parameters := [], returnType := some (.object "java/lang/String") }, accessFlags := 1, code := some k14c2 }
def k14c3 : Code := { maxStack := 1, maxLocals := 1, code := jdk_67_method_93_code, exceptionTable := #[], attributes := #[] }
def k14m3 : Method := { name := "length", desc := "()I", sig := { parameters := [], returnType := some .int }, accessFlags := 4161, code := some k14c3 }
/-- java/lang/StringBuilder -/
def k14 : Class := { plain "java/lang/StringBuilder" (some 13) with
  accessFlags := 49
  interfaces := #[12, 2, 3, 4]
  cf := some (fileOf pool14 24 #[] #[{ accessFlags := 1, nameIndex := 5, descriptorIndex := 145, attributes := #[] }, { accessFlags := 1, nameIndex := 27, descriptorIndex := 28, attributes := #[] }, { accessFlags := 1, nameIndex := 399, descriptorIndex := 400, attributes := #[] }, { accessFlags := 4161, nameIndex := 345, descriptorIndex := 156, attributes := #[] }] 49 2 #[349, 351, 353, 355] #[{ accessFlags := 24, nameIndex := 357, descriptorIndex := 358, attributes := #[] }])
  fields := #[{ name := "serialVersionUID", type := .long, accessFlags := 24, slot := 0, constantValue := 0 }]
  methods := #[k14m0, k14m1, k14m2, k14m3]
  instanceTypes := #[(.array .byte), .byte, .boolean, .int]
  staticTypes := #[.long]
  resolved := Array.replicate 422 none
  statics := none }

def pool15 : Array CpInfo := pool [(2, .class_ 4), (1, u "java/lang/Object"), (0, u "<init>"), (0, u "()V"), (1, .class_ 10), (1, u "java/lang/System"), (0, u "allowSecurityManager"), (0, u "I"), (16, u "cons"), (0, u "Ljava/io/Console;"), (77, .class_ 110), (1, u "java/lang/System$CallersHolder"), (43, u "initialErrStream"), (0, u "Ljava/io/PrintStream;"), (19, u "security"), (0, u "Ljava/lang/SecurityManager;"), (31, .class_ 209), (0, u "java/lang/System$1"), (7, u "props"), (0, u "Ljava/util/Properties;"), (2, u "lineSeparator"), (0, u "Ljava/lang/String;"), (96, .class_ 321), (1, u "java/lang/System$LoggerFinder"), (5, .class_ 328), (0, u "java/lang/System$Logger"), (67, u "err"), (2, u "out"), (91, u "notSupportedJnuEncoding"), (15, u "in"), (17, u "initialIn"), (0, u "Ljava/io/InputStream;"), (35, u "bootLayer"), (0, u "Ljava/lang/ModuleLayer;"), (99, .class_ 664), (0, u "java/lang/System$2"), (9, u "NEVER"), (2, u "MAYBE"), (49, u "arraycopy"), (0, u "(Ljava/lang/Object;ILjava/lang/Object;II)V"), (72, .class_ 802), (0, u "java/lang/System$Logger$Level")] 31

def k15m0 : Method := { name := "<init>", desc := "()V", sig := { parameters := [], returnType := none }, accessFlags := 2, code := none }
def k15m1 : Method := { name := "arraycopy", desc := "(Ljava/lang/Object;ILjava/lang/Object;II)V", sig := { parameters := [(.object "java/lang/Object"), .int, (.object "java/lang/Object"), .int, .int], returnType := none }, accessFlags := 265, code := none }
/-- java/lang/System -/
def k15 : Class := { plain "java/lang/System" (some 0) with
  accessFlags := 49
  interfaces := #[]
  cf := some (fileOf pool15 8 #[.nestMembers #[319, 327, 801, 108, 663, 208]] #[{ accessFlags := 2, nameIndex := 5, descriptorIndex := 6, attributes := #[] }, { accessFlags := 265, nameIndex := 727, descriptorIndex := 728, attributes := #[] }] 49 2 #[] #[{ accessFlags := 25, nameIndex := 507, descriptorIndex := 526, attributes := #[] }, { accessFlags := 25, nameIndex := 399, descriptorIndex := 155, attributes := #[] }, { accessFlags := 25, nameIndex := 396, descriptorIndex := 155, attributes := #[] }, { accessFlags := 10, nameIndex := 525, descriptorIndex := 526, attributes := #[] }, { accessFlags := 26, nameIndex := 674, descriptorIndex := 12, attributes := #[] }, { accessFlags := 26, nameIndex := 677, descriptorIndex := 12, attributes := #[] }, { accessFlags := 10, nameIndex := 11, descriptorIndex := 12, attributes := #[] }, { accessFlags := 74, nameIndex := 175, descriptorIndex := 176, attributes := #[] }, { accessFlags := 10, nameIndex := 491, descriptorIndex := 222, attributes := #[] }, { accessFlags := 74, nameIndex := 29, descriptorIndex := 30, attributes := #[] }, { accessFlags := 74, nameIndex := 154, descriptorIndex := 155, attributes := #[] }, { accessFlags := 10, nameIndex := 217, descriptorIndex := 218, attributes := #[] }, { accessFlags := 10, nameIndex := 221, descriptorIndex := 222, attributes := #[] }, { accessFlags := 8, nameIndex := 562, descriptorIndex := 563, attributes := #[] }])
  fields := #[{ name := "in", type := (.object "java/io/InputStream"), accessFlags := 25, slot := 0, constantValue := 0 }, { name := "out", type := (.object "java/io/PrintStream"), accessFlags := 25, slot := 1, constantValue := 0 }, { name := "err", type := (.object "java/io/PrintStream"), accessFlags := 25, slot := 2, constantValue := 0 }, { name := "initialIn", type := (.object "java/io/InputStream"), accessFlags := 10, slot := 3, constantValue := 0 }, { name := "NEVER", type := .int, accessFlags := 26, slot := 4, constantValue := 0 }, { name := "MAYBE", type := .int, accessFlags := 26, slot := 5, constantValue := 0 }, { name := "allowSecurityManager", type := .int, accessFlags := 10, slot := 6, constantValue := 0 }, { name := "security", type := (.object "java/lang/SecurityManager"), accessFlags := 74, slot := 7, constantValue := 0 }, { name := "notSupportedJnuEncoding", type := (.object "java/lang/String"), accessFlags := 10, slot := 8, constantValue := 0 }, { name := "cons", type := (.object "java/io/Console"), accessFlags := 74, slot := 9, constantValue := 0 }, { name := "initialErrStream", type := (.object "java/io/PrintStream"), accessFlags := 74, slot := 10, constantValue := 0 }, { name := "props", type := (.object "java/util/Properties"), accessFlags := 10, slot := 11, constantValue := 0 }, { name := "lineSeparator", type := (.object "java/lang/String"), accessFlags := 10, slot := 12, constantValue := 0 }, { name := "bootLayer", type := (.object "java/lang/ModuleLayer"), accessFlags := 8, slot := 13, constantValue := 0 }]
  methods := #[k15m0, k15m1]
  instanceTypes := #[]
  staticTypes := #[(.object "java/io/InputStream"), (.object "java/io/PrintStream"), (.object "java/io/PrintStream"), (.object "java/io/InputStream"), .int, .int, .int, (.object "java/lang/SecurityManager"), (.object "java/lang/String"), (.object "java/io/Console"), (.object "java/io/PrintStream"), (.object "java/util/Properties"), (.object "java/lang/String"), (.object "java/lang/ModuleLayer")]
  resolved := Array.replicate 834 none
  statics := none }

def pool16 : Array CpInfo := pool [(2, .class_ 4), (1, u "java/lang/Object"), (0, u "<init>"), (0, u "()V"), (7, .class_ 16), (1, u "java/util/Arrays"), (57, .class_ 76), (1, u "java/util/Arrays$NaturalOrder"), (36, .class_ 115), (1, u "java/util/Arrays$LegacyMergeSort"), (1, u "Z"), (21, u "copyOfRange"), (10, .methodref 151 152), (0, .class_ 153), (0, .nameAndType 154 155), (0, u "java/lang/System"), (0, u "arraycopy"), (0, u "(Ljava/lang/Object;ILjava/lang/Object;II)V"), (146, u "copyOf"), (1, .methodref 305 306), (0, .class_ 307), (0, .nameAndType 308 309), (0, u "java/lang/Math"), (0, u "min"), (0, u "(II)I"), (29, .methodref 14 340), (0, .nameAndType 341 342), (0, u "copyOfRangeByte"), (0, u "([BII)[B"), (0, .methodref 14 344), (0, .nameAndType 345 346), (0, u "checkLength"), (0, u "(II)V"), (28, .class_ 376), (0, u "java/util/Arrays$ArrayList"), (68, u "$assertionsDisabled"), (269, u "MIN_ARRAY_SORT_GRAN"), (0, u "I"), (2, u "INSERTIONSORT_THRESHOLD"), (149, u "([BI)[B"), (105, .class_ 976), (0, u "java/util/Arrays$ArrayItr")] 52

def k16m0 : Method := { name := "<init>", desc := "()V", sig := { parameters := [], returnType := none }, accessFlags := 2, code := none }
def k16c1 : Code := { maxStack := 6, maxLocals := 3, code := jdk_65_method_121_code, exceptionTable := #[], attributes := #[] }
def k16m1 : Method := { name := "copyOf", desc := "([BI)[B", sig := { parameters := [(.array .byte), .int], returnType := some (.array .byte) }, accessFlags := 9, code := some k16c1 }
def k16c2 : Code := { maxStack := 4, maxLocals := 2, code := jdk_65_method_131_code, exceptionTable := #[], attributes := #[] }
def k16m2 : Method := { name := "checkLength", desc := "(II)V", sig := { parameters := [.int, .int], returnType := none }, accessFlags := 10, code := some k16c2 }
def k16c3 : Code := { maxStack := 3, maxLocals := 3, code := jdk_65_method_132_code, exceptionTable := #[], attributes := #[] }
def k16m3 : Method := { name := "copyOfRange", desc := "([BII)[B", sig := { parameters := [(.array .byte), .int, .int], returnType := some (.array .byte) }, accessFlags := 9, code := some k16c3 }
def k16c4 : Code := { maxStack := 6, maxLocals := 5, code := jdk_65_method_133_code, exceptionTable := #[], attributes := #[] }
def k16m4 : Method := { name := "copyOfRangeByte", desc := "([BII)[B", sig := { parameters := [(.array .byte), .int, .int], returnType := some (.array .byte) }, accessFlags := 10, code := some k16c4 }
/-- java/util/Arrays -/
def k16 : Class := { plain "java/util/Arrays" (some 0) with
  accessFlags := 49
  interfaces := #[]
  cf := some (fileOf pool16 14 #[.nestMembers #[975, 375, 113, 74]] #[{ accessFlags := 2, nameIndex := 5, descriptorIndex := 6, attributes := #[] }, { accessFlags := 9, nameIndex := 302, descriptorIndex := 869, attributes := #[] }, { accessFlags := 10, nameIndex := 345, descriptorIndex := 346, attributes := #[] }, { accessFlags := 9, nameIndex := 139, descriptorIndex := 342, attributes := #[] }, { accessFlags := 10, nameIndex := 341, descriptorIndex := 342, attributes := #[] }] 49 2 #[] #[{ accessFlags := 26, nameIndex := 715, descriptorIndex := 716, attributes := #[] }, { accessFlags := 26, nameIndex := 719, descriptorIndex := 716, attributes := #[] }, { accessFlags := 4120, nameIndex := 445, descriptorIndex := 117, attributes := #[] }])
  fields := #[{ name := "MIN_ARRAY_SORT_GRAN", type := .int, accessFlags := 26, slot := 0, constantValue := 0 }, { name := "INSERTIONSORT_THRESHOLD", type := .int, accessFlags := 26, slot := 1, constantValue := 0 }, { name := "$assertionsDisabled", type := .boolean, accessFlags := 4120, slot := 2, constantValue := 0 }]
  methods := #[k16m0, k16m1, k16m2, k16m3, k16m4]
  instanceTypes := #[]
  staticTypes := #[.int, .int, .boolean]
  resolved := Array.replicate 1029 none
  statics := none }

def pool17 : Array CpInfo := pool [(1, .class_ 2), (0, u "java/lang/Math"), (1, .class_ 6), (1, u "java/lang/Object"), (0, u "<init>"), (0, u "()V"), (89, .class_ 100), (1, u "java/lang/Math$RandomNumberGeneratorHolder"), (71, u "negativeZeroFloatBits"), (0, u "J"), (2, u "negativeZeroDoubleBits"), (21, u "max"), (2, u "min"), (43, u "$assertionsDisabled"), (0, u "Z"), (88, u "(II)I"), (2, u "twoToTheDoubleScaleDown"), (0, u "D"), (4, u "twoToTheDoubleScaleUp"), (9, u "E"), (3, u "PI"), (2, u "TAU"), (2, u "DEGREES_TO_RADIANS"), (0, u "RADIANS_TO_DEGREES")] 94

def k17m0 : Method := { name := "<init>", desc := "()V", sig := { parameters := [], returnType := none }, accessFlags := 2, code := none }
def k17c1 : Code := { maxStack := 2, maxLocals := 2, code := jdk_29_method_65_code, exceptionTable := #[], attributes := #[] }
def k17m1 : Method := { name := "max", desc := "(II)I", sig := { parameters := [.int, .int], returnType := some .int }, accessFlags := 9, code := some k17c1 }
def k17c2 : Code := { maxStack := 2, maxLocals := 2, code := jdk_29_method_69_code, exceptionTable := #[], attributes := #[] }
def k17m2 : Method := { name := "min", desc := "(II)I", sig := { parameters := [.int, .int], returnType := some .int }, accessFlags := 9, code := some k17c2 }
/-- java/lang/Math -/
def k17 : Class := { plain "java/lang/Math" (some 0) with
  accessFlags := 49
  interfaces := #[]
  cf := some (fileOf pool17 1 #[.nestMembers #[98]] #[{ accessFlags := 2, nameIndex := 7, descriptorIndex := 8, attributes := #[] }, { accessFlags := 9, nameIndex := 198, descriptorIndex := 335, attributes := #[] }, { accessFlags := 9, nameIndex := 201, descriptorIndex := 335, attributes := #[] }] 49 4 #[] #[{ accessFlags := 25, nameIndex := 354, descriptorIndex := 339, attributes := #[] }, { accessFlags := 25, nameIndex := 358, descriptorIndex := 339, attributes := #[] }, { accessFlags := 25, nameIndex := 361, descriptorIndex := 339, attributes := #[] }, { accessFlags := 26, nameIndex := 364, descriptorIndex := 339, attributes := #[] }, { accessFlags := 26, nameIndex := 365, descriptorIndex := 339, attributes := #[] }, { accessFlags := 26, nameIndex := 172, descriptorIndex := 173, attributes := #[] }, { accessFlags := 26, nameIndex := 176, descriptorIndex := 173, attributes := #[] }, { accessFlags := 8, nameIndex := 344, descriptorIndex := 339, attributes := #[] }, { accessFlags := 8, nameIndex := 338, descriptorIndex := 339, attributes := #[] }, { accessFlags := 4120, nameIndex := 245, descriptorIndex := 246, attributes := #[] }])
  fields := #[{ name := "E", type := .double, accessFlags := 25, slot := 0, constantValue := 0 }, { name := "PI", type := .double, accessFlags := 25, slot := 1, constantValue := 0 }, { name := "TAU", type := .double, accessFlags := 25, slot := 2, constantValue := 0 }, { name := "DEGREES_TO_RADIANS", type := .double, accessFlags := 26, slot := 3, constantValue := 0 }, { name := "RADIANS_TO_DEGREES", type := .double, accessFlags := 26, slot := 4, constantValue := 0 }, { name := "negativeZeroFloatBits", type := .long, accessFlags := 26, slot := 5, constantValue := 0 }, { name := "negativeZeroDoubleBits", type := .long, accessFlags := 26, slot := 6, constantValue := 0 }, { name := "twoToTheDoubleScaleUp", type := .double, accessFlags := 8, slot := 7, constantValue := 0 }, { name := "twoToTheDoubleScaleDown", type := .double, accessFlags := 8, slot := 8, constantValue := 0 }, { name := "$assertionsDisabled", type := .boolean, accessFlags := 4120, slot := 9, constantValue := 0 }]
  methods := #[k17m0, k17m1, k17m2]
  instanceTypes := #[]
  staticTypes := #[.double, .double, .double, .double, .double, .long, .long, .double, .double, .boolean]
  resolved := Array.replicate 460 none
  statics := none }

def pool18 : Array CpInfo := pool [(9, u "<init>"), (6, .class_ 18), (1, u "java/lang/Object"), (0, u "()V"), (1, .class_ 23), (1, u "jdk/internal/util/ArraysSupport"), (0, u "LOG2_ARRAY_LONG_INDEX_SCALE"), (0, u "I"), (2, u "U"), (0, u "Ljdk/internal/misc/Unsafe;"), (8, u "BIG_ENDIAN"), (0, u "Z"), (8, u "LOG2_BYTE_BIT_SIZE"), (4, u "LOG2_ARRAY_INT_INDEX_SCALE"), (54, u "JLA"), (0, u "Ljdk/internal/access/JavaLangAccess;"), (11, u "LOG2_ARRAY_BOOLEAN_INDEX_SCALE"), (9, u "LOG2_ARRAY_BYTE_INDEX_SCALE"), (5, u "LOG2_ARRAY_CHAR_INDEX_SCALE"), (5, u "LOG2_ARRAY_SHORT_INDEX_SCALE"), (18, u "LOG2_ARRAY_FLOAT_INDEX_SCALE"), (24, u "LOG2_ARRAY_DOUBLE_INDEX_SCALE"), (6, .methodref 195 196), (0, .class_ 197), (0, .nameAndType 198 199), (0, u "java/lang/Math"), (0, u "max"), (0, u "(II)I"), (0, .integer 2147483639), (76, u "T_BOOLEAN"), (2, u "T_CHAR"), (1, u "T_FLOAT"), (1, u "T_DOUBLE"), (1, u "T_BYTE"), (1, u "T_SHORT"), (1, u "T_INT"), (1, u "T_LONG"), (1, u "SOFT_MAX_ARRAY_LENGTH"), (56, u "newLength"), (0, u "(III)I")] 25

def k18m0 : Method := { name := "<init>", desc := "()V", sig := { parameters := [], returnType := none }, accessFlags := 2, code := none }
def k18c1 : Code := { maxStack := 3, maxLocals := 4, code := jdk_48_method_27_code, exceptionTable := #[], attributes := #[] }
def k18m1 : Method := { name := "newLength", desc := "(III)I", sig := { parameters := [.int, .int, .int], returnType := some .int }, accessFlags := 9, code := some k18c1 }
/-- jdk/internal/util/ArraysSupport -/
def k18 : Class := { plain "jdk/internal/util/ArraysSupport" (some 0) with
  accessFlags := 33
  interfaces := #[]
  cf := some (fileOf pool18 21 #[] #[{ accessFlags := 2, nameIndex := 9, descriptorIndex := 19, attributes := #[] }, { accessFlags := 9, nameIndex := 351, descriptorIndex := 352, attributes := #[] }] 33 16 #[] #[{ accessFlags := 24, nameIndex := 28, descriptorIndex := 29, attributes := #[] }, { accessFlags := 26, nameIndex := 38, descriptorIndex := 39, attributes := #[] }, { accessFlags := 25, nameIndex := 121, descriptorIndex := 25, attributes := #[] }, { accessFlags := 25, nameIndex := 131, descriptorIndex := 25, attributes := #[] }, { accessFlags := 25, nameIndex := 137, descriptorIndex := 25, attributes := #[] }, { accessFlags := 25, nameIndex := 143, descriptorIndex := 25, attributes := #[] }, { accessFlags := 25, nameIndex := 53, descriptorIndex := 25, attributes := #[] }, { accessFlags := 25, nameIndex := 24, descriptorIndex := 25, attributes := #[] }, { accessFlags := 25, nameIndex := 162, descriptorIndex := 25, attributes := #[] }, { accessFlags := 25, nameIndex := 187, descriptorIndex := 25, attributes := #[] }, { accessFlags := 26, nameIndex := 48, descriptorIndex := 25, attributes := #[] }, { accessFlags := 25, nameIndex := 277, descriptorIndex := 25, attributes := #[] }, { accessFlags := 25, nameIndex := 280, descriptorIndex := 25, attributes := #[] }, { accessFlags := 25, nameIndex := 282, descriptorIndex := 25, attributes := #[] }, { accessFlags := 25, nameIndex := 284, descriptorIndex := 25, attributes := #[] }, { accessFlags := 25, nameIndex := 286, descriptorIndex := 25, attributes := #[] }, { accessFlags := 25, nameIndex := 288, descriptorIndex := 25, attributes := #[] }, { accessFlags := 25, nameIndex := 290, descriptorIndex := 25, attributes := #[] }, { accessFlags := 25, nameIndex := 292, descriptorIndex := 25, attributes := #[] }, { accessFlags := 26, nameIndex := 108, descriptorIndex := 109, attributes := #[] }, { accessFlags := 25, nameIndex := 294, descriptorIndex := 25, attributes := #[] }])
  fields := #[{ name := "U", type := (.object "jdk/internal/misc/Unsafe"), accessFlags := 24, slot := 0, constantValue := 0 }, { name := "BIG_ENDIAN", type := .boolean, accessFlags := 26, slot := 1, constantValue := 0 }, { name := "LOG2_ARRAY_BOOLEAN_INDEX_SCALE", type := .int, accessFlags := 25, slot := 2, constantValue := 0 }, { name := "LOG2_ARRAY_BYTE_INDEX_SCALE", type := .int, accessFlags := 25, slot := 3, constantValue := 0 }, { name := "LOG2_ARRAY_CHAR_INDEX_SCALE", type := .int, accessFlags := 25, slot := 4, constantValue := 0 }, { name := "LOG2_ARRAY_SHORT_INDEX_SCALE", type := .int, accessFlags := 25, slot := 5, constantValue := 0 }, { name := "LOG2_ARRAY_INT_INDEX_SCALE", type := .int, accessFlags := 25, slot := 6, constantValue := 0 }, { name := "LOG2_ARRAY_LONG_INDEX_SCALE", type := .int, accessFlags := 25, slot := 7, constantValue := 0 }, { name := "LOG2_ARRAY_FLOAT_INDEX_SCALE", type := .int, accessFlags := 25, slot := 8, constantValue := 0 }, { name := "LOG2_ARRAY_DOUBLE_INDEX_SCALE", type := .int, accessFlags := 25, slot := 9, constantValue := 0 }, { name := "LOG2_BYTE_BIT_SIZE", type := .int, accessFlags := 26, slot := 10, constantValue := 0 }, { name := "T_BOOLEAN", type := .int, accessFlags := 25, slot := 11, constantValue := 0 }, { name := "T_CHAR", type := .int, accessFlags := 25, slot := 12, constantValue := 0 }, { name := "T_FLOAT", type := .int, accessFlags := 25, slot := 13, constantValue := 0 }, { name := "T_DOUBLE", type := .int, accessFlags := 25, slot := 14, constantValue := 0 }, { name := "T_BYTE", type := .int, accessFlags := 25, slot := 15, constantValue := 0 }, { name := "T_SHORT", type := .int, accessFlags := 25, slot := 16, constantValue := 0 }, { name := "T_INT", type := .int, accessFlags := 25, slot := 17, constantValue := 0 }, { name := "T_LONG", type := .int, accessFlags := 25, slot := 18, constantValue := 0 }, { name := "JLA", type := (.object "jdk/internal/access/JavaLangAccess"), accessFlags := 26, slot := 19, constantValue := 0 }, { name := "SOFT_MAX_ARRAY_LENGTH", type := .int, accessFlags := 25, slot := 20, constantValue := 0 }]
  methods := #[k18m0, k18m1]
  instanceTypes := #[]
  staticTypes := #[(.object "jdk/internal/misc/Unsafe"), .boolean, .int, .int, .int, .int, .int, .int, .int, .int, .int, .int, .int, .int, .int, .int, .int, .int, .int, (.object "jdk/internal/access/JavaLangAccess"), .int]
  resolved := Array.replicate 378 none
  statics := none }

def pool19 : Array CpInfo := pool [(1, .class_ 2), (0, u "java/lang/String"), (1, .class_ 6), (1, u "java/lang/Object"), (0, u "<init>"), (0, u "()V"), (0, .methodref 1 10), (0, .nameAndType 11 12), (0, u "checkIndex"), (0, u "(II)V"), (1, .class_ 16), (1, u "java/lang/StringLatin1"), (36, u "([BI)C"), (36, u "canEncode"), (14, u "(C)Z"), (15, u "$assertionsDisabled"), (0, u "Z"), (98, .class_ 223), (1, u "java/lang/StringLatin1$LinesSpliterator"), (28, u "charAt"), (127, u "toBytes"), (1, u "(C)[B"), (7, .class_ 391), (0, u "java/lang/StringLatin1$CharsSpliterator")] 3

def k19m0 : Method := { name := "<init>", desc := "()V", sig := { parameters := [], returnType := none }, accessFlags := 0, code := none }
def k19c1 : Code := { maxStack := 2, maxLocals := 2, code := jdk_43_method_2_code, exceptionTable := #[], attributes := #[] }
def k19m1 : Method := { name := "charAt", desc := "([BI)C", sig := { parameters := [(.array .byte), .int], returnType := some .char }, accessFlags := 9, code := some k19c1 }
def k19c2 : Code := { maxStack := 2, maxLocals := 1, code := jdk_43_method_3_code, exceptionTable := #[], attributes := #[] }
def k19m2 : Method := { name := "canEncode", desc := "(C)Z", sig := { parameters := [.char], returnType := some .boolean }, accessFlags := 9, code := some k19c2 }
def k19c3 : Code := { maxStack := 4, maxLocals := 1, code := jdk_43_method_46_code, exceptionTable := #[], attributes := #[] }
def k19m3 : Method := { name := "toBytes", desc := "(C)[B", sig := { parameters := [.char], returnType := some (.array .byte) }, accessFlags := 9, code := some k19c3 }
/-- java/lang/StringLatin1 -/
def k19 : Class := { plain "java/lang/StringLatin1" (some 0) with
  accessFlags := 48
  interfaces := #[]
  cf := some (fileOf pool19 14 #[.nestMembers #[390, 221]] #[{ accessFlags := 0, nameIndex := 7, descriptorIndex := 8, attributes := #[] }, { accessFlags := 9, nameIndex := 252, descriptorIndex := 53, attributes := #[] }, { accessFlags := 9, nameIndex := 90, descriptorIndex := 105, attributes := #[] }, { accessFlags := 9, nameIndex := 380, descriptorIndex := 382, attributes := #[] }] 48 4 #[] #[{ accessFlags := 4120, nameIndex := 121, descriptorIndex := 122, attributes := #[] }])
  fields := #[{ name := "$assertionsDisabled", type := .boolean, accessFlags := 4120, slot := 0, constantValue := 0 }]
  methods := #[k19m0, k19m1, k19m2, k19m3]
  instanceTypes := #[]
  staticTypes := #[.boolean]
  resolved := Array.replicate 395 none
  statics := none }

def pool20 : Array CpInfo := pool [(2, .class_ 4), (1, u "java/lang/Object"), (0, u "<init>"), (0, u "()V"), (17, .class_ 26), (1, u "jdk/internal/util/Preconditions"), (6, u "checkIndex"), (21, .class_ 56), (0, u "jdk/internal/util/Preconditions$4"), (57, .class_ 115), (0, u "jdk/internal/util/Preconditions$1"), (7, u "SIOOBE_FORMATTER"), (0, u "Ljava/util/function/BiFunction;"), (0, .class_ 126), (0, u "jdk/internal/util/Preconditions$2"), (3, u "AIOOBE_FORMATTER"), (0, .class_ 132), (0, u "jdk/internal/util/Preconditions$3"), (3, u "IOOBE_FORMATTER"), (41, u "(IILjava/util/function/BiFunction;)I")] 15

def k20m0 : Method := { name := "<init>", desc := "()V", sig := { parameters := [], returnType := none }, accessFlags := 1, code := none }
def k20c1 : Code := { maxStack := 3, maxLocals := 3, code := jdk_41_method_11_code, exceptionTable := #[], attributes := #[] }
def k20m1 : Method := { name := "checkIndex", desc := "(IILjava/util/function/BiFunction;)I", sig := { parameters := [.int, .int, (.object "java/util/function/BiFunction")], returnType := some .int }, accessFlags := 9, code := some k20c1 }
/-- jdk/internal/util/Preconditions -/
def k20 : Class := { plain "jdk/internal/util/Preconditions" (some 0) with
  accessFlags := 33
  interfaces := #[]
  cf := some (fileOf pool20 24 #[.nestMembers #[55, 131, 125, 114]] #[{ accessFlags := 1, nameIndex := 5, descriptorIndex := 6, attributes := #[] }, { accessFlags := 9, nameIndex := 33, descriptorIndex := 178, attributes := #[] }] 33 2 #[] #[{ accessFlags := 25, nameIndex := 123, descriptorIndex := 124, attributes := #[] }, { accessFlags := 25, nameIndex := 130, descriptorIndex := 124, attributes := #[] }, { accessFlags := 25, nameIndex := 136, descriptorIndex := 124, attributes := #[] }])
  fields := #[{ name := "SIOOBE_FORMATTER", type := (.object "java/util/function/BiFunction"), accessFlags := 25, slot := 0, constantValue := 0 }, { name := "AIOOBE_FORMATTER", type := (.object "java/util/function/BiFunction"), accessFlags := 25, slot := 1, constantValue := 0 }, { name := "IOOBE_FORMATTER", type := (.object "java/util/function/BiFunction"), accessFlags := 25, slot := 2, constantValue := 0 }]
  methods := #[k20m0, k20m1]
  instanceTypes := #[]
  staticTypes := #[(.object "java/util/function/BiFunction"), (.object "java/util/function/BiFunction"), (.object "java/util/function/BiFunction")]
  resolved := Array.replicate 194 none
  statics := some 2 }

def pool21 : Array CpInfo := pool [(6, .class_ 8), (1, u "java/lang/Object"), (0, u "<init>"), (0, u "()V"), (1, .class_ 14), (1, u "java/lang/StringUTF16"), (31, u "$assertionsDisabled"), (0, u "Z"), (13, u "HI_BYTE_SHIFT"), (0, u "I"), (2, u "LO_BYTE_SHIFT"), (49, .methodref 12 116), (0, .nameAndType 117 118), (0, u "compress"), (0, u "([CI[BII)I"), (3, u "([CII)[B"), (138, u "coderFromArrayLen"), (0, u "([BI)B"), (106, .class_ 371), (1, u "java/lang/StringUTF16$LinesSpliterator"), (58, u "MAX_LENGTH"), (196, .class_ 628), (0, u "java/lang/StringUTF16$CodePointsSpliterator"), (0, .class_ 630), (0, u "java/lang/StringUTF16$CharsSpliterator")] 4

def k21m0 : Method := { name := "<init>", desc := "()V", sig := { parameters := [], returnType := none }, accessFlags := 0, code := none }
def k21c1 : Code := { maxStack := 2, maxLocals := 2, code := jdk_52_method_15_code, exceptionTable := #[], attributes := #[] }
def k21m1 : Method := { name := "coderFromArrayLen", desc := "([BI)B", sig := { parameters := [(.array .byte), .int], returnType := some .byte }, accessFlags := 8, code := some k21c1 }
def k21c2 : Code := { maxStack := 5, maxLocals := 6, code := jdk_52_method_16_code, exceptionTable := #[], attributes := #[] }
def k21m2 : Method := { name := "compress", desc := "([CII)[B", sig := { parameters := [(.array .char), .int, .int], returnType := some (.array .byte) }, accessFlags := 9, code := some k21c2 }
def k21c3 : Code := { maxStack := 3, maxLocals := 7, code := jdk_52_method_21_code, exceptionTable := #[], attributes := #[] }
def k21m3 : Method := { name := "compress", desc := "([CI[BII)I", sig := { parameters := [(.array .char), .int, (.array .byte), .int, .int], returnType := some .int }, accessFlags := 9, code := some k21c3 }
/-- java/lang/StringUTF16 -/
def k21 : Class := { plain "java/lang/StringUTF16" (some 0) with
  accessFlags := 48
  interfaces := #[]
  cf := some (fileOf pool21 12 #[.nestMembers #[627, 629, 369]] #[{ accessFlags := 0, nameIndex := 9, descriptorIndex := 10, attributes := #[] }, { accessFlags := 8, nameIndex := 261, descriptorIndex := 262, attributes := #[] }, { accessFlags := 9, nameIndex := 117, descriptorIndex := 122, attributes := #[] }, { accessFlags := 9, nameIndex := 117, descriptorIndex := 118, attributes := #[] }] 48 6 #[] #[{ accessFlags := 26, nameIndex := 61, descriptorIndex := 62, attributes := #[] }, { accessFlags := 26, nameIndex := 65, descriptorIndex := 62, attributes := #[] }, { accessFlags := 24, nameIndex := 430, descriptorIndex := 62, attributes := #[] }, { accessFlags := 4120, nameIndex := 46, descriptorIndex := 47, attributes := #[] }])
  fields := #[{ name := "HI_BYTE_SHIFT", type := .int, accessFlags := 26, slot := 0, constantValue := 0 }, { name := "LO_BYTE_SHIFT", type := .int, accessFlags := 26, slot := 1, constantValue := 0 }, { name := "MAX_LENGTH", type := .int, accessFlags := 24, slot := 2, constantValue := 0 }, { name := "$assertionsDisabled", type := .boolean, accessFlags := 4120, slot := 3, constantValue := 0 }]
  methods := #[k21m0, k21m1, k21m2, k21m3]
  instanceTypes := #[]
  staticTypes := #[.int, .int, .int, .boolean]
  resolved := Array.replicate 635 none
  statics := none }

def pool22 : Array CpInfo := pool [(2, .class_ 4), (1, u "java/lang/Object"), (0, u "<init>"), (0, u "()V"), (12, .class_ 20), (0, u "java/util/Collections"), (63, u "r"), (0, u "Ljava/util/Random;"), (80, .class_ 167), (0, u "java/util/Collections$UnmodifiableCollection"), (6, .class_ 175), (0, u "java/util/Collections$UnmodifiableSequencedCollection"), (6, .class_ 183), (0, u "java/util/Collections$UnmodifiableSet"), (6, .class_ 191), (0, u "java/util/Collections$UnmodifiableSequencedSet"), (6, .class_ 199), (0, u "java/util/Collections$UnmodifiableSortedSet"), (6, .class_ 207), (0, u "java/util/Collections$UnmodifiableNavigableSet"), (4, .class_ 213), (0, u "java/util/Collections$UnmodifiableList"), (1, .class_ 216), (0, u "java/util/Collections$UnmodifiableRandomAccessList"), (6, .class_ 224), (0, u "java/util/Collections$UnmodifiableMap"), (6, .class_ 232), (0, u "java/util/Collections$UnmodifiableSequencedMap"), (4, .class_ 238), (0, u "java/util/Collections$UnmodifiableSortedMap"), (6, .class_ 246), (0, u "java/util/Collections$UnmodifiableNavigableMap"), (3, .class_ 251), (0, u "java/util/Collections$SynchronizedCollection"), (4, .class_ 257), (0, u "java/util/Collections$SynchronizedSet"), (4, .class_ 263), (0, u "java/util/Collections$SynchronizedSortedSet"), (1, .class_ 266), (0, u "java/util/Collections$SynchronizedNavigableSet"), (1, .class_ 269), (0, u "java/util/Collections$SynchronizedRandomAccessList"), (1, .class_ 272), (0, u "java/util/Collections$SynchronizedList"), (5, .class_ 279), (0, u "java/util/Collections$SynchronizedMap"), (1, .class_ 282), (0, u "java/util/Collections$SynchronizedSortedMap"), (1, .class_ 285), (0, u "java/util/Collections$SynchronizedNavigableMap"), (1, .class_ 288), (0, u "java/util/Collections$CheckedCollection"), (11, .class_ 301), (0, u "java/util/Collections$CheckedQueue"), (3, .class_ 306), (0, u "java/util/Collections$CheckedSet"), (3, .class_ 311), (0, u "java/util/Collections$CheckedSortedSet"), (3, .class_ 316), (0, u "java/util/Collections$CheckedNavigableSet"), (3, .class_ 321), (0, u "java/util/Collections$CheckedRandomAccessList"), (3, .class_ 326), (0, u "java/util/Collections$CheckedList"), (1, .class_ 329), (0, u "java/util/Collections$CheckedMap"), (3, .class_ 334), (0, u "java/util/Collections$CheckedSortedMap"), (3, .class_ 339), (0, u "java/util/Collections$CheckedNavigableMap"), (4, .class_ 346), (1, u "java/util/Collections$EmptyIterator"), (3, .class_ 352), (1, u "java/util/Collections$EmptyListIterator"), (2, .class_ 357), (1, u "java/util/Collections$EmptyEnumeration"), (4, u "EMPTY_SET"), (0, u "Ljava/util/Set;"), (6, u "EMPTY_LIST"), (0, u "Ljava/util/List;"), (2, u "EMPTY_MAP"), (0, u "Ljava/util/Map;"), (4, .class_ 381), (0, u "java/util/Collections$SingletonSet"), (2, .class_ 385), (0, u "java/util/Collections$1"), (1, .class_ 388), (0, u "java/util/Collections$2"), (1, .class_ 391), (0, u "java/util/Collections$SingletonList"), (1, .class_ 394), (0, u "java/util/Collections$SingletonMap"), (22, .class_ 418), (0, u "java/util/Collections$CopiesList"), (4, .class_ 425), (1, u "java/util/Collections$ReverseComparator"), (8, .class_ 435), (0, u "java/util/Collections$ReverseComparator2"), (6, .class_ 443), (0, u "java/util/Collections$3"), (25, .class_ 470), (0, u "java/util/Collections$SetFromMap"), (2, .class_ 474), (0, u "java/util/Collections$SequencedSetFromMap"), (3, .class_ 479), (0, u "java/util/Collections$AsLIFOQueue"), (11, .class_ 492), (0, u "java/util/Collections$EmptySet"), (1, .class_ 495), (0, u "java/util/Collections$EmptyList"), (1, .class_ 498), (0, u "java/util/Collections$EmptyMap"), (1, u "BINARYSEARCH_THRESHOLD"), (0, u "I"), (2, u "REVERSE_THRESHOLD"), (1, u "SHUFFLE_THRESHOLD"), (1, u "FILL_THRESHOLD"), (1, u "ROTATE_THRESHOLD"), (1, u "COPY_THRESHOLD"), (1, u "REPLACEALL_THRESHOLD"), (1, u "INDEXOFSUBLIST_THRESHOLD"), (333, .class_ 851), (0, u "java/util/Collections$CheckedMap$CheckedEntrySet"), (0, .class_ 853), (0, u "java/util/Collections$CheckedMap$CheckedEntrySet$CheckedEntry"), (0, .class_ 855), (0, u "java/util/Collections$CheckedMap$CheckedEntrySet$1"), (0, .class_ 857), (0, u "java/util/Collections$CheckedList$1"), (0, .class_ 859), (0, u "java/util/Collections$CheckedCollection$1"), (0, .class_ 861), (0, u "java/util/Collections$UnmodifiableNavigableMap$EmptyNavigableMap"), (0, .class_ 863), (0, u "java/util/Collections$UnmodifiableMap$UnmodifiableEntrySet"), (0, .class_ 865), (0, u "java/util/Collections$UnmodifiableMap$UnmodifiableEntrySet$UnmodifiableEntry"), (0, .class_ 867), (0, u "java/util/Collections$UnmodifiableMap$UnmodifiableEntrySet$UnmodifiableEntrySetSpliterator"), (0, .class_ 869), (0, u "java/util/Collections$UnmodifiableMap$UnmodifiableEntrySet$1"), (0, .class_ 871), (0, u "java/util/Collections$UnmodifiableList$1"), (0, .class_ 873), (0, u "java/util/Collections$UnmodifiableNavigableSet$EmptyNavigableSet"), (0, .class_ 875), (0, u "java/util/Collections$UnmodifiableCollection$1")] 57

def k22m0 : Method := { name := "<init>", desc := "()V", sig := { parameters := [], returnType := none }, accessFlags := 2, code := none }
/-- java/util/Collections -/
def k22 : Class := { plain "java/util/Collections" (some 0) with
  accessFlags := 33
  interfaces := #[]
  cf := some (fileOf pool22 19 #[.nestMembers #[478, 473, 469, 434, 423, 417, 393, 390, 380, 497, 494, 491, 355, 350, 344, 338, 333, 328, 850, 852, 854, 320, 325, 856, 315, 310, 305, 300, 287, 858, 284, 281, 278, 268, 271, 265, 262, 256, 250, 245, 860, 237, 231, 223, 862, 864, 866, 868, 215, 212, 870, 206, 872, 198, 190, 182, 174, 166, 874, 442, 387, 384]] #[{ accessFlags := 2, nameIndex := 5, descriptorIndex := 6, attributes := #[] }] 33 2 #[] #[{ accessFlags := 26, nameIndex := 500, descriptorIndex := 501, attributes := #[] }, { accessFlags := 26, nameIndex := 504, descriptorIndex := 501, attributes := #[] }, { accessFlags := 26, nameIndex := 506, descriptorIndex := 501, attributes := #[] }, { accessFlags := 26, nameIndex := 508, descriptorIndex := 501, attributes := #[] }, { accessFlags := 26, nameIndex := 510, descriptorIndex := 501, attributes := #[] }, { accessFlags := 26, nameIndex := 512, descriptorIndex := 501, attributes := #[] }, { accessFlags := 26, nameIndex := 514, descriptorIndex := 501, attributes := #[] }, { accessFlags := 26, nameIndex := 516, descriptorIndex := 501, attributes := #[] }, { accessFlags := 10, nameIndex := 84, descriptorIndex := 85, attributes := #[] }, { accessFlags := 25, nameIndex := 362, descriptorIndex := 363, attributes := #[] }, { accessFlags := 25, nameIndex := 370, descriptorIndex := 371, attributes := #[] }, { accessFlags := 25, nameIndex := 374, descriptorIndex := 375, attributes := #[] }])
  fields := #[{ name := "BINARYSEARCH_THRESHOLD", type := .int, accessFlags := 26, slot := 0, constantValue := 0 }, { name := "REVERSE_THRESHOLD", type := .int, accessFlags := 26, slot := 1, constantValue := 0 }, { name := "SHUFFLE_THRESHOLD", type := .int, accessFlags := 26, slot := 2, constantValue := 0 }, { name := "FILL_THRESHOLD", type := .int, accessFlags := 26, slot := 3, constantValue := 0 }, { name := "ROTATE_THRESHOLD", type := .int, accessFlags := 26, slot := 4, constantValue := 0 }, { name := "COPY_THRESHOLD", type := .int, accessFlags := 26, slot := 5, constantValue := 0 }, { name := "REPLACEALL_THRESHOLD", type := .int, accessFlags := 26, slot := 6, constantValue := 0 }, { name := "INDEXOFSUBLIST_THRESHOLD", type := .int, accessFlags := 26, slot := 7, constantValue := 0 }, { name := "r", type := (.object "java/util/Random"), accessFlags := 10, slot := 8, constantValue := 0 }, { name := "EMPTY_SET", type := (.object "java/util/Set"), accessFlags := 25, slot := 9, constantValue := 0 }, { name := "EMPTY_LIST", type := (.object "java/util/List"), accessFlags := 25, slot := 10, constantValue := 0 }, { name := "EMPTY_MAP", type := (.object "java/util/Map"), accessFlags := 25, slot := 11, constantValue := 0 }]
  methods := #[k22m0]
  instanceTypes := #[]
  staticTypes := #[.int, .int, .int, .int, .int, .int, .int, .int, (.object "java/util/Random"), (.object "java/util/Set"), (.object "java/util/List"), (.object "java/util/Map")]
  resolved := Array.replicate 933 none
  statics := some 3 }

def pool23 : Array CpInfo := pool [(8, .class_ 10), (1, u "java/lang/Iterable"), (24, .class_ 36), (0, u "java/lang/Object")] 25

/-- java/lang/Iterable -/
def k23 : Class := { plain "java/lang/Iterable" (some 0) with
  accessFlags := 1537
  interfaces := #[]
  cf := some (fileOf pool23 8 #[] #[] 1537 35 #[] #[])
  fields := #[]
  methods := #[]
  instanceTypes := #[]
  staticTypes := #[]
  resolved := Array.replicate 62 none
  statics := none }

def pool24 : Array CpInfo := pool [(10, .class_ 12), (1, u "java/util/Collection"), (47, .class_ 61), (0, u "java/lang/Object"), (0, .class_ 63), (0, u "java/lang/Iterable")] 51

/-- java/util/Collection -/
def k24 : Class := { plain "java/util/Collection" (some 0) with
  accessFlags := 1537
  interfaces := #[23]
  cf := some (fileOf pool24 10 #[] #[] 1537 60 #[62] #[])
  fields := #[]
  methods := #[]
  instanceTypes := #[]
  staticTypes := #[]
  resolved := Array.replicate 115 none
  statics := none }

def pool25 : Array CpInfo := pool [(2, .class_ 4), (1, u "java/lang/Object"), (0, u "<init>"), (0, u "()V"), (1, .class_ 10), (1, u "java/util/AbstractCollection"), (66, .class_ 78), (0, u "java/util/Collection")] 81

def k25m0 : Method := { name := "<init>", desc := "()V", sig := { parameters := [], returnType := none }, accessFlags := 4, code := none }
/-- java/util/AbstractCollection -/
def k25 : Class := { plain "java/util/AbstractCollection" (some 0) with
  accessFlags := 1057
  interfaces := #[24]
  cf := some (fileOf pool25 8 #[] #[{ accessFlags := 4, nameIndex := 5, descriptorIndex := 6, attributes := #[] }] 1057 2 #[77] #[])
  fields := #[]
  methods := #[k25m0]
  instanceTypes := #[]
  staticTypes := #[]
  resolved := Array.replicate 160 none
  statics := none }

def pool26 : Array CpInfo := pool [(8, .class_ 10), (1, u "java/util/SequencedCollection"), (15, .class_ 27), (0, u "java/lang/Object"), (0, .class_ 29), (0, u "java/util/Collection")] 27

/-- java/util/SequencedCollection -/
def k26 : Class := { plain "java/util/SequencedCollection" (some 0) with
  accessFlags := 1537
  interfaces := #[24]
  cf := some (fileOf pool26 8 #[] #[] 1537 26 #[28] #[])
  fields := #[]
  methods := #[]
  instanceTypes := #[]
  staticTypes := #[]
  resolved := Array.replicate 57 none
  statics := none }

def pool27 : Array CpInfo := pool [(8, .class_ 10), (1, u "java/util/List"), (92, .class_ 104), (0, u "java/lang/Object"), (15, .class_ 121), (0, u "java/util/SequencedCollection")] 129

/-- java/util/List -/
def k27 : Class := { plain "java/util/List" (some 0) with
  accessFlags := 1537
  interfaces := #[26]
  cf := some (fileOf pool27 8 #[] #[] 1537 103 #[120] #[])
  fields := #[]
  methods := #[]
  instanceTypes := #[]
  staticTypes := #[]
  resolved := Array.replicate 251 none
  statics := none }

def pool28 : Array CpInfo := pool [(2, .class_ 4), (1, u "java/util/AbstractCollection"), (0, u "<init>"), (0, u "()V"), (1, .class_ 10), (1, u "java/util/AbstractList"), (0, u "modCount"), (0, u "I"), (64, .class_ 78), (0, u "java/util/AbstractList$Itr"), (3, .class_ 83), (0, u "java/util/AbstractList$ListItr"), (9, .class_ 94), (0, u "java/util/AbstractList$RandomAccessSubList"), (3, .class_ 99), (0, u "java/util/AbstractList$SubList"), (33, .class_ 134), (0, u "java/util/List"), (73, .class_ 209), (0, u "java/util/AbstractList$SubList$1"), (0, .class_ 211), (0, u "java/util/AbstractList$RandomAccessSpliterator")] 6

def k28m0 : Method := { name := "<init>", desc := "()V", sig := { parameters := [], returnType := none }, accessFlags := 4, code := none }
/-- java/util/AbstractList -/
def k28 : Class := { plain "java/util/AbstractList" (some 25) with
  accessFlags := 1057
  interfaces := #[27]
  cf := some (fileOf pool28 8 #[.nestMembers #[93, 98, 208, 210, 82, 77]] #[{ accessFlags := 4, nameIndex := 5, descriptorIndex := 6, attributes := #[] }] 1057 2 #[133] #[{ accessFlags := 132, nameIndex := 11, descriptorIndex := 12, attributes := #[] }])
  fields := #[{ name := "modCount", type := .int, accessFlags := 132, slot := 0, constantValue := 0 }]
  methods := #[k28m0]
  instanceTypes := #[.int]
  staticTypes := #[]
  resolved := Array.replicate 218 none
  statics := none }

def pool29 : Array CpInfo := pool [(1, .class_ 2), (0, u "java/util/RandomAccess"), (0, .class_ 4), (0, u "java/lang/Object")] 2

/-- java/util/RandomAccess -/
def k29 : Class := { plain "java/util/RandomAccess" (some 0) with
  accessFlags := 1537
  interfaces := #[]
  cf := some (fileOf pool29 1 #[] #[] 1537 3 #[] #[])
  fields := #[]
  methods := #[]
  instanceTypes := #[]
  staticTypes := #[]
  resolved := Array.replicate 7 none
  statics := none }

def pool30 : Array CpInfo := pool [(2, .class_ 4), (1, u "java/util/AbstractList"), (0, u "<init>"), (0, u "()V"), (1, .class_ 10), (1, u "java/util/Collections"), (54, .class_ 66), (0, u "java/util/Collections$EmptyList"), (0, .class_ 68), (0, u "java/util/RandomAccess"), (0, .class_ 70), (0, u "java/io/Serializable"), (0, u "serialVersionUID"), (0, u "J")] 77

def k30m0 : Method := { name := "<init>", desc := "()V", sig := { parameters := [], returnType := none }, accessFlags := 2, code := none }
/-- java/util/Collections$EmptyList -/
def k30 : Class := { plain "java/util/Collections$EmptyList" (some 28) with
  accessFlags := 32
  interfaces := #[29, 2]
  cf := some (fileOf pool30 65 #[.nestHost 8] #[{ accessFlags := 2, nameIndex := 5, descriptorIndex := 6, attributes := #[] }] 32 2 #[67, 69] #[{ accessFlags := 26, nameIndex := 71, descriptorIndex := 72, attributes := #[] }])
  fields := #[{ name := "serialVersionUID", type := .long, accessFlags := 26, slot := 0, constantValue := 0 }]
  methods := #[k30m0]
  instanceTypes := #[.int]
  staticTypes := #[.long]
  resolved := Array.replicate 150 none
  statics := none }

def pool31 : Array CpInfo := pool [(2, .class_ 4), (1, u "java/lang/StackTraceElement"), (0, u "<init>"), (2, .class_ 10), (1, u "java/lang/Object"), (0, u "()V"), (2, u "format"), (0, u "B"), (2, u "classLoaderName"), (0, u "Ljava/lang/String;"), (2, u "moduleName"), (2, u "moduleVersion"), (12, u "declaringClass"), (4, u "methodName"), (2, u "fileName"), (2, u "lineNumber"), (0, u "I"), (65, u "declaringClassObject"), (0, u "Ljava/lang/Class;"), (33, .class_ 153), (1, u "java/lang/StackTraceElement$HashedModules"), (17, .class_ 172), (0, u "java/io/Serializable"), (0, u "NATIVE_METHOD"), (1, u "UNKNOWN_SOURCE"), (2, u "BUILTIN_CLASS_LOADER"), (1, u "JDK_NON_UPGRADEABLE_MODULE"), (1, u "serialVersionUID"), (0, u "J")] 51

def k31m0 : Method := { name := "<init>", desc := "()V", sig := { parameters := [], returnType := none }, accessFlags := 2, code := none }
/-- java/lang/StackTraceElement -/
def k31 : Class := { plain "java/lang/StackTraceElement" (some 0) with
  accessFlags := 49
  interfaces := #[2]
  cf := some (fileOf pool31 2 #[.nestMembers #[151]] #[{ accessFlags := 2, nameIndex := 5, descriptorIndex := 11, attributes := #[] }] 49 8 #[171] #[{ accessFlags := 26, nameIndex := 173, descriptorIndex := 19, attributes := #[] }, { accessFlags := 26, nameIndex := 175, descriptorIndex := 19, attributes := #[] }, { accessFlags := 130, nameIndex := 116, descriptorIndex := 117, attributes := #[] }, { accessFlags := 2, nameIndex := 18, descriptorIndex := 19, attributes := #[] }, { accessFlags := 2, nameIndex := 22, descriptorIndex := 19, attributes := #[] }, { accessFlags := 2, nameIndex := 25, descriptorIndex := 19, attributes := #[] }, { accessFlags := 2, nameIndex := 38, descriptorIndex := 19, attributes := #[] }, { accessFlags := 2, nameIndex := 43, descriptorIndex := 19, attributes := #[] }, { accessFlags := 2, nameIndex := 46, descriptorIndex := 19, attributes := #[] }, { accessFlags := 2, nameIndex := 49, descriptorIndex := 50, attributes := #[] }, { accessFlags := 2, nameIndex := 14, descriptorIndex := 15, attributes := #[] }, { accessFlags := 26, nameIndex := 178, descriptorIndex := 15, attributes := #[] }, { accessFlags := 26, nameIndex := 180, descriptorIndex := 15, attributes := #[] }, { accessFlags := 26, nameIndex := 182, descriptorIndex := 183, attributes := #[] }])
  fields := #[{ name := "NATIVE_METHOD", type := (.object "java/lang/String"), accessFlags := 26, slot := 0, constantValue := 0 }, { name := "UNKNOWN_SOURCE", type := (.object "java/lang/String"), accessFlags := 26, slot := 1, constantValue := 0 }, { name := "declaringClassObject", type := (.object "java/lang/Class"), accessFlags := 130, slot := 0, constantValue := 0 }, { name := "classLoaderName", type := (.object "java/lang/String"), accessFlags := 2, slot := 1, constantValue := 0 }, { name := "moduleName", type := (.object "java/lang/String"), accessFlags := 2, slot := 2, constantValue := 0 }, { name := "moduleVersion", type := (.object "java/lang/String"), accessFlags := 2, slot := 3, constantValue := 0 }, { name := "declaringClass", type := (.object "java/lang/String"), accessFlags := 2, slot := 4, constantValue := 0 }, { name := "methodName", type := (.object "java/lang/String"), accessFlags := 2, slot := 5, constantValue := 0 }, { name := "fileName", type := (.object "java/lang/String"), accessFlags := 2, slot := 6, constantValue := 0 }, { name := "lineNumber", type := .int, accessFlags := 2, slot := 7, constantValue := 0 }, { name := "format", type := .byte, accessFlags := 2, slot := 8, constantValue := 0 }, { name := "BUILTIN_CLASS_LOADER", type := .byte, accessFlags := 26, slot := 2, constantValue := 0 }, { name := "JDK_NON_UPGRADEABLE_MODULE", type := .byte, accessFlags := 26, slot := 3, constantValue := 0 }, { name := "serialVersionUID", type := .long, accessFlags := 26, slot := 4, constantValue := 0 }]
  methods := #[k31m0]
  instanceTypes := #[(.object "java/lang/Class"), (.object "java/lang/String"), (.object "java/lang/String"), (.object "java/lang/String"), (.object "java/lang/String"), (.object "java/lang/String"), (.object "java/lang/String"), .int, .byte]
  staticTypes := #[(.object "java/lang/String"), (.object "java/lang/String"), .byte, .byte, .long]
  resolved := Array.replicate 235 none
  statics := none }

def pool32 : Array CpInfo := pool [(1, u "java/lang/Cloneable"), (0, .class_ 1), (0, u "java/lang/Object"), (0, .class_ 3)] 3

/-- java/lang/Cloneable -/
def k32 : Class := { plain "java/lang/Cloneable" (some 0) with
  accessFlags := 1537
  interfaces := #[]
  cf := some (fileOf pool32 2 #[] #[] 1537 4 #[] #[])
  fields := #[]
  methods := #[]
  instanceTypes := #[]
  staticTypes := #[]
  resolved := Array.replicate 8 none
  statics := none }

/-- the primitive byte -/
def k33 : Class := { plain "byte" none with kind := .primitive 'B', accessFlags := 0x411 }
/-- [B -/
def k34 : Class := { plain "[B" (some 0) with kind := .array 33 .byte, interfaces := #[32, 2], accessFlags := 1041 }

/-- the primitive char -/
def k35 : Class := { plain "char" none with kind := .primitive 'C', accessFlags := 0x411 }
/-- [C -/
def k36 : Class := { plain "[C" (some 0) with kind := .array 35 .char, interfaces := #[32, 2], accessFlags := 1041 }

/-- the primitive int -/
def k37 : Class := { plain "int" none with kind := .primitive 'I', accessFlags := 0x411 }
/-- [I -/
def k38 : Class := { plain "[I" (some 0) with kind := .array 37 .int, interfaces := #[32, 2], accessFlags := 1041 }

/-- [Ljava/lang/Object; -/
def k39 : Class := { plain "[Ljava/lang/Object;" (some 0) with kind := .array 0 (.object "java/lang/Object"), interfaces := #[32, 2], accessFlags := 1041 }

/-- [Ljava/lang/StackTraceElement; -/
def k40 : Class := { plain "[Ljava/lang/StackTraceElement;" (some 0) with kind := .array 31 (.object "java/lang/StackTraceElement"), interfaces := #[32, 2], accessFlags := 1041 }

/-- [Ljava/lang/Throwable; -/
def k41 : Class := { plain "[Ljava/lang/Throwable;" (some 0) with kind := .array 8 (.object "java/lang/Throwable"), interfaces := #[32, 2], accessFlags := 1041 }

def heap : Heap := #[{ cls := 7, slots := #[.long 0, .int 1, .null, .int 0, .null, .int 0, .int 0], vm := .statics 7 },
  { cls := 8, slots := #[.long 0, .ref 4, .ref 5, .null, .null, .null, .null, .ref 6, .int 1], vm := .statics 8 },
  { cls := 20, slots := #[.null, .null, .null], vm := .statics 20 },
  { cls := 22, slots := #[.int 0, .int 0, .int 0, .int 0, .int 0, .int 0, .int 0, .int 0, .null, .null, .ref 5, .null], vm := .statics 22 },
  { cls := 40, slots := #[], vm := .none },
  { cls := 30, slots := #[.int 0], vm := .none },
  { cls := 41, slots := #[], vm := .none }]
def classes : Array Class := #[k0, k1, k2, k3, k4, k5, k6, k7, k8, k9, k10, k11, k12, k13, k14, k15, k16, k17, k18, k19, k20, k21, k22, k23, k24, k25, k26, k27, k28, k29, k30, k31, k32, k33, k34, k35, k36, k37, k38, k39, k40, k41]
def interned : List (Array UInt16 × Addr) := []
def slotsUsed : Nat := 32
def theMethod : MethodId := ⟨1, 3⟩
def args0 : Array Value := #[.int 7, .int 300, .int 66000]
def aboutOver (below : List Frame) : State where
  vm := { classes := classes, interned := interned.toArray }
  heap := heap
  slotsUsed := slotsUsed
  threads := #[{ frames := .invoking theMethod args0 :: below }]
def below0 : List Frame := [.native { method := ⟨0, 0⟩, args := #[] }]
def about1 : State := aboutOver below0
def p0 : Program := .bare "" "" ""
def e0 : Env := launch0.env 0 0 0
theorem w_frames : about1.frames = Frame.invoking theMethod args0 :: below0 := rfl
set_option maxRecDepth 65536 in
theorem w_args : argsFit about1.vm theMethod args0 = true := by decide +kernel
set_option maxRecDepth 65536 in
theorem w_heap : heapFits about1 = true := by decide +kernel
set_option maxRecDepth 65536 in
theorem w_runnable : about1.curStatus? = some .runnable := by decide +kernel
set_option maxRecDepth 65536 in
theorem w_alone : about1.alone = true := by decide +kernel
set_option maxRecDepth 65536 in
theorem w_named : about1.methodNamed? x = some theMethod := by decide +kernel
set_option maxRecDepth 65536 in
theorem w_hears : about1.hears theMethod below0 = true := by decide +kernel
set_option maxRecDepth 65536 in
theorem w_ripe : about1.ripe theMethod args0 below0 = true := by decide +kernel
theorem w_running : about1.status = .running := rfl
set_option maxRecDepth 65536 in
theorem w_room : about1.hasRoom e0.platform room_1 = true :=
  launch0.hasRoom_least _ room_1 (by decide +kernel) (by decide +kernel) (by decide +kernel) (by decide +kernel) (by decide +kernel) (by decide +kernel)
theorem allAtoms_all (ts : List Jvm.Cond) (a : Array Jvm.Value) (st : Jvm.State) : (allAtoms ts).before a st = ts.all (fun c => c.before a st) := by
  induction ts with
  | nil => rfl
  | cons c t ih =>
    show (Jvm.Cond.and c (allAtoms t)).before a st = _
    rw [Jvm.Cond.before_and, ih, List.all_cons]
def words1 : List Jvm.Cond := Jvm.Cond.code x code maxLocals ret :: tables_1
/-- a 'code' word, met by the world's own term for the bytes: nothing is compared byte by byte -/
theorem code_word {y : MethodName} {bytes : ByteArray} {mx : Nat} {rt : Option FieldType} {a : Array Value} {s : State} {m : MethodId} {meth : Method} {c : Code} (h1 : s.methodNamed? y = some m) (h2 : s.vm.method? m = some meth) (h3 : meth.code = some c) (h4 : c.code = bytes)
    (h5 : (c.maxLocals == mx && c.exceptionTable.isEmpty && decide (c.maxStack ≤ mostOperands) && decide (meth.sig.returnType = rt) && !meth.locks && decide (parseMethodDescriptor y.desc = some meth.sig)) = true) : (Jvm.Cond.code y bytes mx rt).before a s = true := by
  simp only [Bool.and_eq_true, beq_iff_eq, Bool.not_eq_true', decide_eq_true_eq] at h5
  obtain ⟨⟨⟨⟨⟨g1, g2⟩, g3⟩, g4⟩, g5⟩, g6⟩ := h5
  simp [Cond.before, Cond.holds, Cond.value, h1, h2, h3, h4, g1, g2, g3, g4, g5, g6]
def isCode : Jvm.Cond → Bool
  | .code _ _ _ _ => true
  | _ => false
theorem all_split {L : List Jvm.Cond} {P : Jvm.Cond → Bool} (h1 : L.all (fun c => isCode c || P c) = true) (h2 : ∀ c ∈ L.filter isCode, P c = true) : L.all P = true := by
  refine List.all_eq_true.mpr fun c hc => ?_
  have h := List.all_eq_true.mp h1 c hc
  rcases Bool.eq_false_or_eq_true (isCode c) with hi | hi
  · exact h2 c (List.mem_filter.mpr ⟨hc, hi⟩)
  · simpa [hi] using h
set_option maxRecDepth 65536 in
theorem w_c0 : (Jvm.Cond.code x code maxLocals ret).before args0 about1 = true := code_word (m := ⟨1, 3⟩) (meth := k1m3) (c := k1c3) (by decide +kernel) rfl rfl rfl (by decide +kernel)
set_option maxRecDepth 65536 in
theorem w_c1 : (Jvm.Cond.code ({ cls := "com/example/keyset/keyset/query/DeclarationExceptionForFieldPinLaw", name := "mk", desc := "(I)Ljava/lang/String;" } : Jvm.MethodName) method_2_code (4 : Nat) (Option.some (Jvm.ClassFile.FieldType.object "java/lang/String"))).before args0 about1 = true := code_word (m := ⟨1, 1⟩) (meth := k1m1) (c := k1c1) (by decide +kernel) rfl rfl rfl (by decide +kernel)
set_option maxRecDepth 65536 in
theorem w_c2 : (Jvm.Cond.code ({ cls := "com/example/keyset/keyset/query/DeclarationException", name := "forField", desc := "(Ljava/lang/String;Ljava/lang/String;Ljava/lang/String;)Lcom/example/keyset/keyset/query/DeclarationException;" } : Jvm.MethodName) prog_2_method_3_code (3 : Nat) (Option.some (Jvm.ClassFile.FieldType.object "com/example/keyset/keyset/query/DeclarationException"))).before args0 about1 = true := code_word (m := ⟨11, 2⟩) (meth := k11m2) (c := k11c2) (by decide +kernel) rfl rfl rfl (by decide +kernel)
set_option maxRecDepth 65536 in
theorem w_c3 : (Jvm.Cond.code ({ cls := "java/lang/StringBuilder", name := "<init>", desc := "()V" } : Jvm.MethodName) jdk_67_method_1_code (1 : Nat) (Option.none : Option Jvm.ClassFile.FieldType)).before args0 about1 = true := code_word (m := ⟨14, 0⟩) (meth := k14m0) (c := k14c0) (by decide +kernel) rfl rfl rfl (by decide +kernel)
set_option maxRecDepth 65536 in
theorem w_c4 : (Jvm.Cond.code ({ cls := "java/lang/AbstractStringBuilder", name := "<init>", desc := "(I)V" } : Jvm.MethodName) jdk_68_method_2_code (2 : Nat) (Option.none : Option Jvm.ClassFile.FieldType)).before args0 about1 = true := code_word (m := ⟨13, 1⟩) (meth := k13m1) (c := k13c1) (by decide +kernel) rfl rfl rfl (by decide +kernel)
set_option maxRecDepth 65536 in
theorem w_c5 : (Jvm.Cond.code ({ cls := "java/lang/Object", name := "<init>", desc := "()V" } : Jvm.MethodName) object_method_1_code (1 : Nat) (Option.none : Option Jvm.ClassFile.FieldType)).before args0 about1 = true := code_word (m := ⟨0, 0⟩) (meth := k0m0) (c := k0c0) (by decide +kernel) rfl rfl rfl (by decide +kernel)
set_option maxRecDepth 65536 in
theorem w_c6 : (Jvm.Cond.code ({ cls := "java/lang/StringBuilder", name := "append", desc := "(Ljava/lang/String;)Ljava/lang/StringBuilder;" } : Jvm.MethodName) jdk_67_method_7_code (2 : Nat) (Option.some (Jvm.ClassFile.FieldType.object "java/lang/StringBuilder"))).before args0 about1 = true := code_word (m := ⟨14, 1⟩) (meth := k14m1) (c := k14c1) (by decide +kernel) rfl rfl rfl (by decide +kernel)
set_option maxRecDepth 65536 in
theorem w_c7 : (Jvm.Cond.code ({ cls := "java/lang/AbstractStringBuilder", name := "append", desc := "(Ljava/lang/String;)Ljava/lang/AbstractStringBuilder;" } : Jvm.MethodName) jdk_68_method_22_code (3 : Nat) (Option.some (Jvm.ClassFile.FieldType.object "java/lang/AbstractStringBuilder"))).before args0 about1 = true := code_word (m := ⟨13, 5⟩) (meth := k13m5) (c := k13c5) (by decide +kernel) rfl rfl rfl (by decide +kernel)
set_option maxRecDepth 65536 in
theorem w_c8 : (Jvm.Cond.code ({ cls := "java/lang/String", name := "length", desc := "()I" } : Jvm.MethodName) jdk_42_method_54_code (1 : Nat) (Option.some Jvm.ClassFile.FieldType.int)).before args0 about1 = true := code_word (m := ⟨7, 3⟩) (meth := k7m3) (c := k7c3) (by decide +kernel) rfl rfl rfl (by decide +kernel)
set_option maxRecDepth 65536 in
theorem w_c9 : (Jvm.Cond.code ({ cls := "java/lang/String", name := "coder", desc := "()B" } : Jvm.MethodName) jdk_42_method_152_code (1 : Nat) (Option.some Jvm.ClassFile.FieldType.byte)).before args0 about1 = true := code_word (m := ⟨7, 10⟩) (meth := k7m10) (c := k7c10) (by decide +kernel) rfl rfl rfl (by decide +kernel)
set_option maxRecDepth 65536 in
theorem w_c10 : (Jvm.Cond.code ({ cls := "java/lang/AbstractStringBuilder", name := "ensureCapacityInternal", desc := "(I)V" } : Jvm.MethodName) jdk_68_method_9_code (3 : Nat) (Option.none : Option Jvm.ClassFile.FieldType)).before args0 about1 = true := code_word (m := ⟨13, 3⟩) (meth := k13m3) (c := k13c3) (by decide +kernel) rfl rfl rfl (by decide +kernel)
set_option maxRecDepth 65536 in
theorem w_c11 : (Jvm.Cond.code ({ cls := "java/lang/AbstractStringBuilder", name := "putStringAt", desc := "(ILjava/lang/String;)V" } : Jvm.MethodName) jdk_68_method_73_code (3 : Nat) (Option.none : Option Jvm.ClassFile.FieldType)).before args0 about1 = true := code_word (m := ⟨13, 9⟩) (meth := k13m9) (c := k13c9) (by decide +kernel) rfl rfl rfl (by decide +kernel)
set_option maxRecDepth 65536 in
theorem w_c12 : (Jvm.Cond.code ({ cls := "java/lang/AbstractStringBuilder", name := "inflateIfNeededFor", desc := "(Ljava/lang/String;)V" } : Jvm.MethodName) jdk_68_method_71_code (2 : Nat) (Option.none : Option Jvm.ClassFile.FieldType)).before args0 about1 = true := code_word (m := ⟨13, 8⟩) (meth := k13m8) (c := k13c8) (by decide +kernel) rfl rfl rfl (by decide +kernel)
set_option maxRecDepth 65536 in
theorem w_c13 : (Jvm.Cond.code ({ cls := "java/lang/String", name := "getBytes", desc := "([BIB)V" } : Jvm.MethodName) jdk_42_method_147_code (4 : Nat) (Option.none : Option Jvm.ClassFile.FieldType)).before args0 about1 = true := code_word (m := ⟨7, 6⟩) (meth := k7m6) (c := k7c6) (by decide +kernel) rfl rfl rfl (by decide +kernel)
set_option maxRecDepth 65536 in
theorem w_c14 : (Jvm.Cond.code ({ cls := "java/lang/StringBuilder", name := "toString", desc := "()Ljava/lang/String;" } : Jvm.MethodName) jdk_67_method_42_code (1 : Nat) (Option.some (Jvm.ClassFile.FieldType.object "java/lang/String"))).before args0 about1 = true := code_word (m := ⟨14, 2⟩) (meth := k14m2) (c := k14c2) (by decide +kernel) rfl rfl rfl (by decide +kernel)
set_option maxRecDepth 65536 in
theorem w_c15 : (Jvm.Cond.code ({ cls := "java/lang/String", name := "<init>", desc := "(Ljava/lang/StringBuilder;)V" } : Jvm.MethodName) jdk_42_method_53_code (2 : Nat) (Option.none : Option Jvm.ClassFile.FieldType)).before args0 about1 = true := code_word (m := ⟨7, 2⟩) (meth := k7m2) (c := k7c2) (by decide +kernel) rfl rfl rfl (by decide +kernel)
set_option maxRecDepth 65536 in
theorem w_c16 : (Jvm.Cond.code ({ cls := "java/lang/String", name := "<init>", desc := "(Ljava/lang/AbstractStringBuilder;Ljava/lang/Void;)V" } : Jvm.MethodName) jdk_42_method_150_code (5 : Nat) (Option.none : Option Jvm.ClassFile.FieldType)).before args0 about1 = true := code_word (m := ⟨7, 8⟩) (meth := k7m8) (c := k7c8) (by decide +kernel) rfl rfl rfl (by decide +kernel)
set_option maxRecDepth 65536 in
theorem w_c17 : (Jvm.Cond.code ({ cls := "java/lang/AbstractStringBuilder", name := "getValue", desc := "()[B" } : Jvm.MethodName) jdk_68_method_64_code (1 : Nat) (Option.some (Jvm.ClassFile.FieldType.array Jvm.ClassFile.FieldType.byte))).before args0 about1 = true := code_word (m := ⟨13, 6⟩) (meth := k13m6) (c := k13c6) (by decide +kernel) rfl rfl rfl (by decide +kernel)
set_option maxRecDepth 65536 in
theorem w_c18 : (Jvm.Cond.code ({ cls := "java/lang/StringBuilder", name := "length", desc := "()I" } : Jvm.MethodName) jdk_67_method_93_code (1 : Nat) (Option.some Jvm.ClassFile.FieldType.int)).before args0 about1 = true := code_word (m := ⟨14, 3⟩) (meth := k14m3) (c := k14c3) (by decide +kernel) rfl rfl rfl (by decide +kernel)
set_option maxRecDepth 65536 in
theorem w_c19 : (Jvm.Cond.code ({ cls := "java/lang/AbstractStringBuilder", name := "length", desc := "()I" } : Jvm.MethodName) jdk_68_method_6_code (1 : Nat) (Option.some Jvm.ClassFile.FieldType.int)).before args0 about1 = true := code_word (m := ⟨13, 2⟩) (meth := k13m2) (c := k13c2) (by decide +kernel) rfl rfl rfl (by decide +kernel)
set_option maxRecDepth 65536 in
theorem w_c20 : (Jvm.Cond.code ({ cls := "java/lang/AbstractStringBuilder", name := "isLatin1", desc := "()Z" } : Jvm.MethodName) jdk_68_method_68_code (1 : Nat) (Option.some Jvm.ClassFile.FieldType.boolean)).before args0 about1 = true := code_word (m := ⟨13, 7⟩) (meth := k13m7) (c := k13c7) (by decide +kernel) rfl rfl rfl (by decide +kernel)
set_option maxRecDepth 65536 in
theorem w_c21 : (Jvm.Cond.code ({ cls := "java/util/Arrays", name := "copyOfRange", desc := "([BII)[B" } : Jvm.MethodName) jdk_65_method_132_code (3 : Nat) (Option.some (Jvm.ClassFile.FieldType.array Jvm.ClassFile.FieldType.byte))).before args0 about1 = true := code_word (m := ⟨16, 3⟩) (meth := k16m3) (c := k16c3) (by decide +kernel) rfl rfl rfl (by decide +kernel)
set_option maxRecDepth 65536 in
theorem w_c22 : (Jvm.Cond.code ({ cls := "java/util/Arrays", name := "copyOfRangeByte", desc := "([BII)[B" } : Jvm.MethodName) jdk_65_method_133_code (5 : Nat) (Option.some (Jvm.ClassFile.FieldType.array Jvm.ClassFile.FieldType.byte))).before args0 about1 = true := code_word (m := ⟨16, 4⟩) (meth := k16m4) (c := k16c4) (by decide +kernel) rfl rfl rfl (by decide +kernel)
set_option maxRecDepth 65536 in
theorem w_c23 : (Jvm.Cond.code ({ cls := "java/util/Arrays", name := "checkLength", desc := "(II)V" } : Jvm.MethodName) jdk_65_method_131_code (2 : Nat) (Option.none : Option Jvm.ClassFile.FieldType)).before args0 about1 = true := code_word (m := ⟨16, 2⟩) (meth := k16m2) (c := k16c2) (by decide +kernel) rfl rfl rfl (by decide +kernel)
set_option maxRecDepth 65536 in
theorem w_c24 : (Jvm.Cond.code ({ cls := "java/lang/Math", name := "min", desc := "(II)I" } : Jvm.MethodName) jdk_29_method_69_code (2 : Nat) (Option.some Jvm.ClassFile.FieldType.int)).before args0 about1 = true := code_word (m := ⟨17, 2⟩) (meth := k17m2) (c := k17c2) (by decide +kernel) rfl rfl rfl (by decide +kernel)
set_option maxRecDepth 65536 in
theorem w_c25 : (Jvm.Cond.code ({ cls := "com/example/keyset/keyset/query/DeclarationException", name := "forResource", desc := "(Ljava/lang/String;Ljava/lang/String;)Lcom/example/keyset/keyset/query/DeclarationException;" } : Jvm.MethodName) prog_2_method_2_code (2 : Nat) (Option.some (Jvm.ClassFile.FieldType.object "com/example/keyset/keyset/query/DeclarationException"))).before args0 about1 = true := code_word (m := ⟨11, 1⟩) (meth := k11m1) (c := k11c1) (by decide +kernel) rfl rfl rfl (by decide +kernel)
set_option maxRecDepth 65536 in
theorem w_c26 : (Jvm.Cond.code ({ cls := "java/lang/AbstractStringBuilder", name := "newCapacity", desc := "(I)I" } : Jvm.MethodName) jdk_68_method_10_code (6 : Nat) (Option.some Jvm.ClassFile.FieldType.int)).before args0 about1 = true := code_word (m := ⟨13, 4⟩) (meth := k13m4) (c := k13c4) (by decide +kernel) rfl rfl rfl (by decide +kernel)
set_option maxRecDepth 65536 in
theorem w_c27 : (Jvm.Cond.code ({ cls := "jdk/internal/util/ArraysSupport", name := "newLength", desc := "(III)I" } : Jvm.MethodName) jdk_48_method_27_code (4 : Nat) (Option.some Jvm.ClassFile.FieldType.int)).before args0 about1 = true := code_word (m := ⟨18, 1⟩) (meth := k18m1) (c := k18c1) (by decide +kernel) rfl rfl rfl (by decide +kernel)
set_option maxRecDepth 65536 in
theorem w_c28 : (Jvm.Cond.code ({ cls := "java/lang/Math", name := "max", desc := "(II)I" } : Jvm.MethodName) jdk_29_method_65_code (2 : Nat) (Option.some Jvm.ClassFile.FieldType.int)).before args0 about1 = true := code_word (m := ⟨17, 1⟩) (meth := k17m1) (c := k17c1) (by decide +kernel) rfl rfl rfl (by decide +kernel)
set_option maxRecDepth 65536 in
theorem w_c29 : (Jvm.Cond.code ({ cls := "java/util/Arrays", name := "copyOf", desc := "([BI)[B" } : Jvm.MethodName) jdk_65_method_121_code (3 : Nat) (Option.some (Jvm.ClassFile.FieldType.array Jvm.ClassFile.FieldType.byte))).before args0 about1 = true := code_word (m := ⟨16, 1⟩) (meth := k16m1) (c := k16c1) (by decide +kernel) rfl rfl rfl (by decide +kernel)
set_option maxRecDepth 65536 in
theorem w_c30 : (Jvm.Cond.code ({ cls := "com/example/keyset/keyset/query/DeclarationException", name := "<init>", desc := "(Ljava/lang/String;)V" } : Jvm.MethodName) prog_2_method_1_code (2 : Nat) (Option.none : Option Jvm.ClassFile.FieldType)).before args0 about1 = true := code_word (m := ⟨11, 0⟩) (meth := k11m0) (c := k11c0) (by decide +kernel) rfl rfl rfl (by decide +kernel)
set_option maxRecDepth 65536 in
theorem w_c31 : (Jvm.Cond.code ({ cls := "java/lang/RuntimeException", name := "<init>", desc := "(Ljava/lang/String;)V" } : Jvm.MethodName) jdk_58_method_2_code (2 : Nat) (Option.none : Option Jvm.ClassFile.FieldType)).before args0 about1 = true := code_word (m := ⟨10, 1⟩) (meth := k10m1) (c := k10c1) (by decide +kernel) rfl rfl rfl (by decide +kernel)
set_option maxRecDepth 65536 in
theorem w_c32 : (Jvm.Cond.code ({ cls := "java/lang/Exception", name := "<init>", desc := "(Ljava/lang/String;)V" } : Jvm.MethodName) jdk_59_method_2_code (2 : Nat) (Option.none : Option Jvm.ClassFile.FieldType)).before args0 about1 = true := code_word (m := ⟨9, 1⟩) (meth := k9m1) (c := k9c1) (by decide +kernel) rfl rfl rfl (by decide +kernel)
set_option maxRecDepth 65536 in
theorem w_c33 : (Jvm.Cond.code ({ cls := "java/lang/Throwable", name := "<init>", desc := "(Ljava/lang/String;)V" } : Jvm.MethodName) jdk_78_method_2_code (2 : Nat) (Option.none : Option Jvm.ClassFile.FieldType)).before args0 about1 = true := code_word (m := ⟨8, 1⟩) (meth := k8m1) (c := k8c1) (by decide +kernel) rfl rfl rfl (by decide +kernel)
set_option maxRecDepth 65536 in
theorem w_c34 : (Jvm.Cond.code ({ cls := "java/lang/Throwable", name := "<init>", desc := "()V" } : Jvm.MethodName) jdk_78_method_1_code (1 : Nat) (Option.none : Option Jvm.ClassFile.FieldType)).before args0 about1 = true := code_word (m := ⟨8, 0⟩) (meth := k8m0) (c := k8c0) (by decide +kernel) rfl rfl rfl (by decide +kernel)
set_option maxRecDepth 65536 in
theorem w_c35 : (Jvm.Cond.code ({ cls := "java/lang/Throwable", name := "getMessage", desc := "()Ljava/lang/String;" } : Jvm.MethodName) jdk_78_method_6_code (1 : Nat) (Option.some (Jvm.ClassFile.FieldType.object "java/lang/String"))).before args0 about1 = true := code_word (m := ⟨8, 2⟩) (meth := k8m2) (c := k8c2) (by decide +kernel) rfl rfl rfl (by decide +kernel)
set_option maxRecDepth 65536 in
theorem w_c36 : (Jvm.Cond.code ({ cls := "java/lang/String", name := "charAt", desc := "(I)C" } : Jvm.MethodName) jdk_42_method_56_code (2 : Nat) (Option.some Jvm.ClassFile.FieldType.char)).before args0 about1 = true := code_word (m := ⟨7, 4⟩) (meth := k7m4) (c := k7c4) (by decide +kernel) rfl rfl rfl (by decide +kernel)
set_option maxRecDepth 65536 in
theorem w_c37 : (Jvm.Cond.code ({ cls := "java/lang/String", name := "isLatin1", desc := "()Z" } : Jvm.MethodName) jdk_42_method_154_code (1 : Nat) (Option.some Jvm.ClassFile.FieldType.boolean)).before args0 about1 = true := code_word (m := ⟨7, 11⟩) (meth := k7m11) (c := k7c11) (by decide +kernel) rfl rfl rfl (by decide +kernel)
set_option maxRecDepth 65536 in
theorem w_c38 : (Jvm.Cond.code ({ cls := "java/lang/StringLatin1", name := "charAt", desc := "([BI)C" } : Jvm.MethodName) jdk_43_method_2_code (2 : Nat) (Option.some Jvm.ClassFile.FieldType.char)).before args0 about1 = true := code_word (m := ⟨19, 1⟩) (meth := k19m1) (c := k19c1) (by decide +kernel) rfl rfl rfl (by decide +kernel)
set_option maxRecDepth 65536 in
theorem w_c39 : (Jvm.Cond.code ({ cls := "java/lang/String", name := "checkIndex", desc := "(II)V" } : Jvm.MethodName) jdk_42_method_155_code (2 : Nat) (Option.none : Option Jvm.ClassFile.FieldType)).before args0 about1 = true := code_word (m := ⟨7, 12⟩) (meth := k7m12) (c := k7c12) (by decide +kernel) rfl rfl rfl (by decide +kernel)
set_option maxRecDepth 65536 in
theorem w_c40 : (Jvm.Cond.code ({ cls := "jdk/internal/util/Preconditions", name := "checkIndex", desc := "(IILjava/util/function/BiFunction;)I" } : Jvm.MethodName) jdk_41_method_11_code (3 : Nat) (Option.some Jvm.ClassFile.FieldType.int)).before args0 about1 = true := code_word (m := ⟨20, 1⟩) (meth := k20m1) (c := k20c1) (by decide +kernel) rfl rfl rfl (by decide +kernel)
set_option maxRecDepth 65536 in
theorem w_c41 : (Jvm.Cond.code ({ cls := "com/example/keyset/keyset/query/DeclarationExceptionForFieldPinLaw", name := "part", desc := "(Ljava/lang/String;ILjava/lang/String;)Z" } : Jvm.MethodName) method_3_code (4 : Nat) (Option.some Jvm.ClassFile.FieldType.boolean)).before args0 about1 = true := code_word (m := ⟨1, 2⟩) (meth := k1m2) (c := k1c2) (by decide +kernel) rfl rfl rfl (by decide +kernel)
set_option maxRecDepth 65536 in
theorem w_c42 : (Jvm.Cond.code ({ cls := "java/lang/String", name := "<init>", desc := "([C)V" } : Jvm.MethodName) jdk_42_method_3_code (2 : Nat) (Option.none : Option Jvm.ClassFile.FieldType)).before args0 about1 = true := code_word (m := ⟨7, 1⟩) (meth := k7m1) (c := k7c1) (by decide +kernel) rfl rfl rfl (by decide +kernel)
set_option maxRecDepth 65536 in
theorem w_c43 : (Jvm.Cond.code ({ cls := "java/lang/String", name := "<init>", desc := "([CIILjava/lang/Void;)V" } : Jvm.MethodName) jdk_42_method_149_code (6 : Nat) (Option.none : Option Jvm.ClassFile.FieldType)).before args0 about1 = true := code_word (m := ⟨7, 7⟩) (meth := k7m7) (c := k7c7) (by decide +kernel) rfl rfl rfl (by decide +kernel)
set_option maxRecDepth 65536 in
theorem w_c44 : (Jvm.Cond.code ({ cls := "java/lang/StringUTF16", name := "compress", desc := "([CII)[B" } : Jvm.MethodName) jdk_52_method_16_code (6 : Nat) (Option.some (Jvm.ClassFile.FieldType.array Jvm.ClassFile.FieldType.byte))).before args0 about1 = true := code_word (m := ⟨21, 2⟩) (meth := k21m2) (c := k21c2) (by decide +kernel) rfl rfl rfl (by decide +kernel)
set_option maxRecDepth 65536 in
theorem w_c45 : (Jvm.Cond.code ({ cls := "java/lang/StringUTF16", name := "compress", desc := "([CI[BII)I" } : Jvm.MethodName) jdk_52_method_21_code (7 : Nat) (Option.some Jvm.ClassFile.FieldType.int)).before args0 about1 = true := code_word (m := ⟨21, 3⟩) (meth := k21m3) (c := k21c3) (by decide +kernel) rfl rfl rfl (by decide +kernel)
set_option maxRecDepth 65536 in
theorem w_c46 : (Jvm.Cond.code ({ cls := "java/lang/StringUTF16", name := "coderFromArrayLen", desc := "([BI)B" } : Jvm.MethodName) jdk_52_method_15_code (2 : Nat) (Option.some Jvm.ClassFile.FieldType.byte)).before args0 about1 = true := code_word (m := ⟨21, 1⟩) (meth := k21m1) (c := k21c1) (by decide +kernel) rfl rfl rfl (by decide +kernel)
set_option maxRecDepth 65536 in
theorem w_c47 : (Jvm.Cond.code ({ cls := "java/lang/String", name := "valueOf", desc := "(C)Ljava/lang/String;" } : Jvm.MethodName) jdk_42_method_139_code (1 : Nat) (Option.some (Jvm.ClassFile.FieldType.object "java/lang/String"))).before args0 about1 = true := code_word (m := ⟨7, 5⟩) (meth := k7m5) (c := k7c5) (by decide +kernel) rfl rfl rfl (by decide +kernel)
set_option maxRecDepth 65536 in
theorem w_c48 : (Jvm.Cond.code ({ cls := "java/lang/StringLatin1", name := "canEncode", desc := "(C)Z" } : Jvm.MethodName) jdk_43_method_3_code (1 : Nat) (Option.some Jvm.ClassFile.FieldType.boolean)).before args0 about1 = true := code_word (m := ⟨19, 2⟩) (meth := k19m2) (c := k19c2) (by decide +kernel) rfl rfl rfl (by decide +kernel)
set_option maxRecDepth 65536 in
theorem w_c49 : (Jvm.Cond.code ({ cls := "java/lang/StringLatin1", name := "toBytes", desc := "(C)[B" } : Jvm.MethodName) jdk_43_method_46_code (1 : Nat) (Option.some (Jvm.ClassFile.FieldType.array Jvm.ClassFile.FieldType.byte))).before args0 about1 = true := code_word (m := ⟨19, 3⟩) (meth := k19m3) (c := k19c3) (by decide +kernel) rfl rfl rfl (by decide +kernel)
set_option maxRecDepth 65536 in
theorem w_c50 : (Jvm.Cond.code ({ cls := "java/lang/String", name := "<init>", desc := "([BB)V" } : Jvm.MethodName) jdk_42_method_151_code (3 : Nat) (Option.none : Option Jvm.ClassFile.FieldType)).before args0 about1 = true := code_word (m := ⟨7, 9⟩) (meth := k7m9) (c := k7c9) (by decide +kernel) rfl rfl rfl (by decide +kernel)
def codes1 : List Jvm.Cond := [Jvm.Cond.code x code maxLocals ret, Jvm.Cond.code ({ cls := "com/example/keyset/keyset/query/DeclarationExceptionForFieldPinLaw", name := "mk", desc := "(I)Ljava/lang/String;" } : Jvm.MethodName) method_2_code (4 : Nat) (Option.some (Jvm.ClassFile.FieldType.object "java/lang/String")), Jvm.Cond.code ({ cls := "com/example/keyset/keyset/query/DeclarationException", name := "forField", desc := "(Ljava/lang/String;Ljava/lang/String;Ljava/lang/String;)Lcom/example/keyset/keyset/query/DeclarationException;" } : Jvm.MethodName) prog_2_method_3_code (3 : Nat) (Option.some (Jvm.ClassFile.FieldType.object "com/example/keyset/keyset/query/DeclarationException")), Jvm.Cond.code ({ cls := "java/lang/StringBuilder", name := "<init>", desc := "()V" } : Jvm.MethodName) jdk_67_method_1_code (1 : Nat) (Option.none : Option Jvm.ClassFile.FieldType), Jvm.Cond.code ({ cls := "java/lang/AbstractStringBuilder", name := "<init>", desc := "(I)V" } : Jvm.MethodName) jdk_68_method_2_code (2 : Nat) (Option.none : Option Jvm.ClassFile.FieldType), Jvm.Cond.code ({ cls := "java/lang/Object", name := "<init>", desc := "()V" } : Jvm.MethodName) object_method_1_code (1 : Nat) (Option.none : Option Jvm.ClassFile.FieldType), Jvm.Cond.code ({ cls := "java/lang/StringBuilder", name := "append", desc := "(Ljava/lang/String;)Ljava/lang/StringBuilder;" } : Jvm.MethodName) jdk_67_method_7_code (2 : Nat) (Option.some (Jvm.ClassFile.FieldType.object "java/lang/StringBuilder")), Jvm.Cond.code ({ cls := "java/lang/AbstractStringBuilder", name := "append", desc := "(Ljava/lang/String;)Ljava/lang/AbstractStringBuilder;" } : Jvm.MethodName) jdk_68_method_22_code (3 : Nat) (Option.some (Jvm.ClassFile.FieldType.object "java/lang/AbstractStringBuilder")), Jvm.Cond.code ({ cls := "java/lang/String", name := "length", desc := "()I" } : Jvm.MethodName) jdk_42_method_54_code (1 : Nat) (Option.some Jvm.ClassFile.FieldType.int), Jvm.Cond.code ({ cls := "java/lang/String", name := "coder", desc := "()B" } : Jvm.MethodName) jdk_42_method_152_code (1 : Nat) (Option.some Jvm.ClassFile.FieldType.byte), Jvm.Cond.code ({ cls := "java/lang/AbstractStringBuilder", name := "ensureCapacityInternal", desc := "(I)V" } : Jvm.MethodName) jdk_68_method_9_code (3 : Nat) (Option.none : Option Jvm.ClassFile.FieldType), Jvm.Cond.code ({ cls := "java/lang/AbstractStringBuilder", name := "putStringAt", desc := "(ILjava/lang/String;)V" } : Jvm.MethodName) jdk_68_method_73_code (3 : Nat) (Option.none : Option Jvm.ClassFile.FieldType), Jvm.Cond.code ({ cls := "java/lang/AbstractStringBuilder", name := "inflateIfNeededFor", desc := "(Ljava/lang/String;)V" } : Jvm.MethodName) jdk_68_method_71_code (2 : Nat) (Option.none : Option Jvm.ClassFile.FieldType), Jvm.Cond.code ({ cls := "java/lang/String", name := "getBytes", desc := "([BIB)V" } : Jvm.MethodName) jdk_42_method_147_code (4 : Nat) (Option.none : Option Jvm.ClassFile.FieldType), Jvm.Cond.code ({ cls := "java/lang/StringBuilder", name := "toString", desc := "()Ljava/lang/String;" } : Jvm.MethodName) jdk_67_method_42_code (1 : Nat) (Option.some (Jvm.ClassFile.FieldType.object "java/lang/String")), Jvm.Cond.code ({ cls := "java/lang/String", name := "<init>", desc := "(Ljava/lang/StringBuilder;)V" } : Jvm.MethodName) jdk_42_method_53_code (2 : Nat) (Option.none : Option Jvm.ClassFile.FieldType), Jvm.Cond.code ({ cls := "java/lang/String", name := "<init>", desc := "(Ljava/lang/AbstractStringBuilder;Ljava/lang/Void;)V" } : Jvm.MethodName) jdk_42_method_150_code (5 : Nat) (Option.none : Option Jvm.ClassFile.FieldType), Jvm.Cond.code ({ cls := "java/lang/AbstractStringBuilder", name := "getValue", desc := "()[B" } : Jvm.MethodName) jdk_68_method_64_code (1 : Nat) (Option.some (Jvm.ClassFile.FieldType.array Jvm.ClassFile.FieldType.byte)), Jvm.Cond.code ({ cls := "java/lang/StringBuilder", name := "length", desc := "()I" } : Jvm.MethodName) jdk_67_method_93_code (1 : Nat) (Option.some Jvm.ClassFile.FieldType.int), Jvm.Cond.code ({ cls := "java/lang/AbstractStringBuilder", name := "length", desc := "()I" } : Jvm.MethodName) jdk_68_method_6_code (1 : Nat) (Option.some Jvm.ClassFile.FieldType.int), Jvm.Cond.code ({ cls := "java/lang/AbstractStringBuilder", name := "isLatin1", desc := "()Z" } : Jvm.MethodName) jdk_68_method_68_code (1 : Nat) (Option.some Jvm.ClassFile.FieldType.boolean), Jvm.Cond.code ({ cls := "java/util/Arrays", name := "copyOfRange", desc := "([BII)[B" } : Jvm.MethodName) jdk_65_method_132_code (3 : Nat) (Option.some (Jvm.ClassFile.FieldType.array Jvm.ClassFile.FieldType.byte)), Jvm.Cond.code ({ cls := "java/util/Arrays", name := "copyOfRangeByte", desc := "([BII)[B" } : Jvm.MethodName) jdk_65_method_133_code (5 : Nat) (Option.some (Jvm.ClassFile.FieldType.array Jvm.ClassFile.FieldType.byte)), Jvm.Cond.code ({ cls := "java/util/Arrays", name := "checkLength", desc := "(II)V" } : Jvm.MethodName) jdk_65_method_131_code (2 : Nat) (Option.none : Option Jvm.ClassFile.FieldType), Jvm.Cond.code ({ cls := "java/lang/Math", name := "min", desc := "(II)I" } : Jvm.MethodName) jdk_29_method_69_code (2 : Nat) (Option.some Jvm.ClassFile.FieldType.int), Jvm.Cond.code ({ cls := "com/example/keyset/keyset/query/DeclarationException", name := "forResource", desc := "(Ljava/lang/String;Ljava/lang/String;)Lcom/example/keyset/keyset/query/DeclarationException;" } : Jvm.MethodName) prog_2_method_2_code (2 : Nat) (Option.some (Jvm.ClassFile.FieldType.object "com/example/keyset/keyset/query/DeclarationException")), Jvm.Cond.code ({ cls := "java/lang/AbstractStringBuilder", name := "newCapacity", desc := "(I)I" } : Jvm.MethodName) jdk_68_method_10_code (6 : Nat) (Option.some Jvm.ClassFile.FieldType.int), Jvm.Cond.code ({ cls := "jdk/internal/util/ArraysSupport", name := "newLength", desc := "(III)I" } : Jvm.MethodName) jdk_48_method_27_code (4 : Nat) (Option.some Jvm.ClassFile.FieldType.int), Jvm.Cond.code ({ cls := "java/lang/Math", name := "max", desc := "(II)I" } : Jvm.MethodName) jdk_29_method_65_code (2 : Nat) (Option.some Jvm.ClassFile.FieldType.int), Jvm.Cond.code ({ cls := "java/util/Arrays", name := "copyOf", desc := "([BI)[B" } : Jvm.MethodName) jdk_65_method_121_code (3 : Nat) (Option.some (Jvm.ClassFile.FieldType.array Jvm.ClassFile.FieldType.byte)), Jvm.Cond.code ({ cls := "com/example/keyset/keyset/query/DeclarationException", name := "<init>", desc := "(Ljava/lang/String;)V" } : Jvm.MethodName) prog_2_method_1_code (2 : Nat) (Option.none : Option Jvm.ClassFile.FieldType), Jvm.Cond.code ({ cls := "java/lang/RuntimeException", name := "<init>", desc := "(Ljava/lang/String;)V" } : Jvm.MethodName) jdk_58_method_2_code (2 : Nat) (Option.none : Option Jvm.ClassFile.FieldType), Jvm.Cond.code ({ cls := "java/lang/Exception", name := "<init>", desc := "(Ljava/lang/String;)V" } : Jvm.MethodName) jdk_59_method_2_code (2 : Nat) (Option.none : Option Jvm.ClassFile.FieldType), Jvm.Cond.code ({ cls := "java/lang/Throwable", name := "<init>", desc := "(Ljava/lang/String;)V" } : Jvm.MethodName) jdk_78_method_2_code (2 : Nat) (Option.none : Option Jvm.ClassFile.FieldType), Jvm.Cond.code ({ cls := "java/lang/Throwable", name := "<init>", desc := "()V" } : Jvm.MethodName) jdk_78_method_1_code (1 : Nat) (Option.none : Option Jvm.ClassFile.FieldType), Jvm.Cond.code ({ cls := "java/lang/Throwable", name := "getMessage", desc := "()Ljava/lang/String;" } : Jvm.MethodName) jdk_78_method_6_code (1 : Nat) (Option.some (Jvm.ClassFile.FieldType.object "java/lang/String")), Jvm.Cond.code ({ cls := "java/lang/String", name := "charAt", desc := "(I)C" } : Jvm.MethodName) jdk_42_method_56_code (2 : Nat) (Option.some Jvm.ClassFile.FieldType.char), Jvm.Cond.code ({ cls := "java/lang/String", name := "isLatin1", desc := "()Z" } : Jvm.MethodName) jdk_42_method_154_code (1 : Nat) (Option.some Jvm.ClassFile.FieldType.boolean), Jvm.Cond.code ({ cls := "java/lang/StringLatin1", name := "charAt", desc := "([BI)C" } : Jvm.MethodName) jdk_43_method_2_code (2 : Nat) (Option.some Jvm.ClassFile.FieldType.char), Jvm.Cond.code ({ cls := "java/lang/String", name := "checkIndex", desc := "(II)V" } : Jvm.MethodName) jdk_42_method_155_code (2 : Nat) (Option.none : Option Jvm.ClassFile.FieldType), Jvm.Cond.code ({ cls := "jdk/internal/util/Preconditions", name := "checkIndex", desc := "(IILjava/util/function/BiFunction;)I" } : Jvm.MethodName) jdk_41_method_11_code (3 : Nat) (Option.some Jvm.ClassFile.FieldType.int), Jvm.Cond.code ({ cls := "com/example/keyset/keyset/query/DeclarationExceptionForFieldPinLaw", name := "part", desc := "(Ljava/lang/String;ILjava/lang/String;)Z" } : Jvm.MethodName) method_3_code (4 : Nat) (Option.some Jvm.ClassFile.FieldType.boolean), Jvm.Cond.code ({ cls := "java/lang/String", name := "<init>", desc := "([C)V" } : Jvm.MethodName) jdk_42_method_3_code (2 : Nat) (Option.none : Option Jvm.ClassFile.FieldType), Jvm.Cond.code ({ cls := "java/lang/String", name := "<init>", desc := "([CIILjava/lang/Void;)V" } : Jvm.MethodName) jdk_42_method_149_code (6 : Nat) (Option.none : Option Jvm.ClassFile.FieldType), Jvm.Cond.code ({ cls := "java/lang/StringUTF16", name := "compress", desc := "([CII)[B" } : Jvm.MethodName) jdk_52_method_16_code (6 : Nat) (Option.some (Jvm.ClassFile.FieldType.array Jvm.ClassFile.FieldType.byte)), Jvm.Cond.code ({ cls := "java/lang/StringUTF16", name := "compress", desc := "([CI[BII)I" } : Jvm.MethodName) jdk_52_method_21_code (7 : Nat) (Option.some Jvm.ClassFile.FieldType.int), Jvm.Cond.code ({ cls := "java/lang/StringUTF16", name := "coderFromArrayLen", desc := "([BI)B" } : Jvm.MethodName) jdk_52_method_15_code (2 : Nat) (Option.some Jvm.ClassFile.FieldType.byte), Jvm.Cond.code ({ cls := "java/lang/String", name := "valueOf", desc := "(C)Ljava/lang/String;" } : Jvm.MethodName) jdk_42_method_139_code (1 : Nat) (Option.some (Jvm.ClassFile.FieldType.object "java/lang/String")), Jvm.Cond.code ({ cls := "java/lang/StringLatin1", name := "canEncode", desc := "(C)Z" } : Jvm.MethodName) jdk_43_method_3_code (1 : Nat) (Option.some Jvm.ClassFile.FieldType.boolean), Jvm.Cond.code ({ cls := "java/lang/StringLatin1", name := "toBytes", desc := "(C)[B" } : Jvm.MethodName) jdk_43_method_46_code (1 : Nat) (Option.some (Jvm.ClassFile.FieldType.array Jvm.ClassFile.FieldType.byte)), Jvm.Cond.code ({ cls := "java/lang/String", name := "<init>", desc := "([BB)V" } : Jvm.MethodName) jdk_42_method_151_code (3 : Nat) (Option.none : Option Jvm.ClassFile.FieldType)]
set_option maxRecDepth 65536 in
theorem codes_eq : words1.filter isCode = codes1 := rfl
theorem w_codes : ∀ c ∈ words1.filter isCode, c.before args0 about1 = true := by
  rw [codes_eq]
  intro c hc
  simp only [codes1, List.mem_cons, List.not_mem_nil, or_false] at hc
  rcases hc with rfl | rfl | rfl | rfl | rfl | rfl | rfl | rfl | rfl | rfl | rfl | rfl | rfl | rfl | rfl | rfl | rfl | rfl | rfl | rfl | rfl | rfl | rfl | rfl | rfl | rfl | rfl | rfl | rfl | rfl | rfl | rfl | rfl | rfl | rfl | rfl | rfl | rfl | rfl | rfl | rfl | rfl | rfl | rfl | rfl | rfl | rfl | rfl | rfl | rfl | rfl
  · exact w_c0
  · exact w_c1
  · exact w_c2
  · exact w_c3
  · exact w_c4
  · exact w_c5
  · exact w_c6
  · exact w_c7
  · exact w_c8
  · exact w_c9
  · exact w_c10
  · exact w_c11
  · exact w_c12
  · exact w_c13
  · exact w_c14
  · exact w_c15
  · exact w_c16
  · exact w_c17
  · exact w_c18
  · exact w_c19
  · exact w_c20
  · exact w_c21
  · exact w_c22
  · exact w_c23
  · exact w_c24
  · exact w_c25
  · exact w_c26
  · exact w_c27
  · exact w_c28
  · exact w_c29
  · exact w_c30
  · exact w_c31
  · exact w_c32
  · exact w_c33
  · exact w_c34
  · exact w_c35
  · exact w_c36
  · exact w_c37
  · exact w_c38
  · exact w_c39
  · exact w_c40
  · exact w_c41
  · exact w_c42
  · exact w_c43
  · exact w_c44
  · exact w_c45
  · exact w_c46
  · exact w_c47
  · exact w_c48
  · exact w_c49
  · exact w_c50
set_option maxRecDepth 65536 in
theorem w_t1 : (words1.take 24).all (fun c => isCode c || c.before args0 about1) = true := by decide +kernel
set_option maxRecDepth 65536 in
theorem w_t2 : ((words1.drop 24).take 24).all (fun c => isCode c || c.before args0 about1) = true := by decide +kernel
set_option maxRecDepth 65536 in
theorem w_t3 : (((words1.drop 24).drop 24).take 24).all (fun c => isCode c || c.before args0 about1) = true := by decide +kernel
set_option maxRecDepth 65536 in
theorem w_t4 : ((((words1.drop 24).drop 24).drop 24).take 24).all (fun c => isCode c || c.before args0 about1) = true := by decide +kernel
set_option maxRecDepth 65536 in
theorem w_t5 : (((((words1.drop 24).drop 24).drop 24).drop 24).take 24).all (fun c => isCode c || c.before args0 about1) = true := by decide +kernel
set_option maxRecDepth 65536 in
theorem w_t6 : ((((((words1.drop 24).drop 24).drop 24).drop 24).drop 24).take 24).all (fun c => isCode c || c.before args0 about1) = true := by decide +kernel
set_option maxRecDepth 65536 in
theorem w_t7 : (((((((words1.drop 24).drop 24).drop 24).drop 24).drop 24).drop 24).take 24).all (fun c => isCode c || c.before args0 about1) = true := by decide +kernel
set_option maxRecDepth 65536 in
theorem w_t8 : ((((((((words1.drop 24).drop 24).drop 24).drop 24).drop 24).drop 24).drop 24).take 24).all (fun c => isCode c || c.before args0 about1) = true := by decide +kernel
set_option maxRecDepth 65536 in
theorem w_t9 : (((((((((words1.drop 24).drop 24).drop 24).drop 24).drop 24).drop 24).drop 24).drop 24).take 24).all (fun c => isCode c || c.before args0 about1) = true := by decide +kernel
set_option maxRecDepth 65536 in
theorem w_t10 : ((((((((((words1.drop 24).drop 24).drop 24).drop 24).drop 24).drop 24).drop 24).drop 24).drop 24).take 24).all (fun c => isCode c || c.before args0 about1) = true := by decide +kernel
set_option maxRecDepth 65536 in
theorem w_t11 : (((((((((((words1.drop 24).drop 24).drop 24).drop 24).drop 24).drop 24).drop 24).drop 24).drop 24).drop 24).take 24).all (fun c => isCode c || c.before args0 about1) = true := by decide +kernel
set_option maxRecDepth 65536 in
theorem w_t12 : (((((((((((words1.drop 24).drop 24).drop 24).drop 24).drop 24).drop 24).drop 24).drop 24).drop 24).drop 24).drop 24).all (fun c => isCode c || c.before args0 about1) = true := by decide +kernel
theorem w_tables : (allAtoms (Jvm.Cond.code x code maxLocals ret :: tables_1)).before args0 about1 = true := by
  rw [allAtoms_all]
  show words1.all (fun c => c.before args0 about1) = true
  refine all_split ?_ w_codes
  rw [← List.take_append_drop 24 words1, List.all_append, w_t1, ← List.take_append_drop 24 (words1.drop 24), List.all_append, w_t2, ← List.take_append_drop 24 ((words1.drop 24).drop 24), List.all_append, w_t3, ← List.take_append_drop 24 (((words1.drop 24).drop 24).drop 24), List.all_append, w_t4, ← List.take_append_drop 24 ((((words1.drop 24).drop 24).drop 24).drop 24), List.all_append, w_t5, ← List.take_append_drop 24 (((((words1.drop 24).drop 24).drop 24).drop 24).drop 24), List.all_append, w_t6, ← List.take_append_drop 24 ((((((words1.drop 24).drop 24).drop 24).drop 24).drop 24).drop 24), List.all_append, w_t7, ← List.take_append_drop 24 (((((((words1.drop 24).drop 24).drop 24).drop 24).drop 24).drop 24).drop 24), List.all_append, w_t8, ← List.take_append_drop 24 ((((((((words1.drop 24).drop 24).drop 24).drop 24).drop 24).drop 24).drop 24).drop 24), List.all_append, w_t9, ← List.take_append_drop 24 (((((((((words1.drop 24).drop 24).drop 24).drop 24).drop 24).drop 24).drop 24).drop 24).drop 24), List.all_append, w_t10, ← List.take_append_drop 24 ((((((((((words1.drop 24).drop 24).drop 24).drop 24).drop 24).drop 24).drop 24).drop 24).drop 24).drop 24), List.all_append, w_t11, w_t12]
  rfl
set_option maxRecDepth 65536 in
theorem w_rest : rest_1_c.before args0 about1 = true := by decide +kernel
set_option maxRecDepth 65536 in
theorem w_case : (Jvm.Cond.and given_1 narrow_1).before args0 about1 = true := by decide +kernel
set_option maxRecDepth 65536 in
theorem w_consts : constsHeld consts_1 about1 := Jvm.Lit.constsHeldB_iff.mp (by decide +kernel)
theorem w_applies : (headSpec (Jvm.Cond.code x code maxLocals ret :: tables_1) room_1).applies x e0.platform about1 = true :=
  (Spec.applies_iff w_frames).mpr ⟨w_running, w_runnable, w_alone, w_named, w_hears, w_ripe, w_room, w_tables⟩
theorem atStart : AtStart classFile x code maxLocals ret World_1 tables_1 room_1 Calls_1 rest_1 Pre_1 launch0 p0 e0 about1 theMethod args0 below0 :=
  ⟨lists_1, trivial, launch0.admits_env _ _ _, launch0.least_env, fairChoices_fair.cas, fairChoices_fair.clock, w_frames, w_args, w_heap, w_applies, ⟨(by decide +kernel : framesKnown about1 = true), ⟨(by decide +kernel : tablesKnown about1 = true), ⟨w_consts, trivial⟩⟩⟩, w_rest, w_case⟩
end start1
theorem witness_1 : WitnessClaimed_1 := ⟨start1.p0, start1.e0, start1.about1, start1.theMethod, start1.args0, start1.below0, start1.atStart⟩
end Jvm.Pilot.@@N@@
