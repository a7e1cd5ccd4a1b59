import JvmDerived
import JvmDerived.Pilot.@@N@@Statement
import JvmDerived.Pilot.@@N@@Code
set_option linter.unusedVariables false
set_option linter.unusedSimpArgs false
/- laws to paste: Road.backV (cut by pick.py; bodies as the Statement names them) -/
namespace Jvm.Pilot.@@N@@
namespace StrChars
open Jvm Sem ClassFile Op Lib Jvm.Stand Jvm.Free.XT Jvm.Free.ALB Jvm.Free.JM Jvm.Free
open Jvm.Lib.Cold (StaticIs)
/-- a char array whose places are chars -/
def Ch (a : Addr) (A : Cell) (U : State) : Prop := Arr .char a A U ∧ Typed .char A
theorem Ch.mv {a : Addr} {A : Cell} {U U' : State} (h : Ch a A U) (hal : U.vm.Alike U'.vm) (hh : U'.heap = U.heap) : Ch a A U' := ⟨h.1.mv hal hh, h.2⟩
theorem Ch.keep {a : Addr} {A : Cell} {U U' : State} (h : Ch a A U) (hal : U.vm.Alike U'.vm) (hk : U'.heap[a]? = some A) : Ch a A U' := ⟨h.1.keep hal hk, h.2⟩
/-- what place i of a char[]'s cell holds -/
def cv (A : Cell) (i : Nat) : Int32 := match A.slots[i]? with | some (.int x) => x | _ => 0
theorem Ch.get {a : Addr} {A : Cell} {U : State} (h : Ch a A U) {i : Nat} (hi : i < A.slots.size) : A.slots[i]? = some (.int (cv A i)) := by
  have e := Array.getElem?_eq_getElem hi
  have f := h.2 i _ e
  unfold cv; rw [e]
  generalize A.slots[i] = v at f
  cases v <;> simp [fits] at f ⊢
/-- the byte that i2b leaves of a char -/
def lo8 (x : Int32) : Int32 := x.toInt8.toInt32
theorem fits_lo8 (y : Int32) : fits .byte (.int (lo8 y)) = true := by
  have h1 := y.toInt8.le_toInt
  have h2 := y.toInt8.toInt_lt
  simp only [lo8, fits, Bool.and_eq_true, decide_eq_true_eq, Int32.le_iff_toInt_le, Int8.toInt_toInt32, show (-128 : Int32).toInt = -128 from by decide, show (127 : Int32).toInt = 127 from by decide]
  omega
/-- A' is A but that each place j of lo .. hi - 1 holds f j -/
def Laid (A A' : Cell) (lo hi : Nat) (f : Nat → Value) : Prop := A'.cls = A.cls ∧ A'.vm = A.vm ∧ A'.slots.size = A.slots.size ∧ ∀ i, A'.slots[i]? = if lo ≤ i ∧ i < hi then some (f i) else A.slots[i]?
theorem Laid.zero (A : Cell) (lo : Nat) (f : Nat → Value) : Laid A A lo (lo + 0) f := ⟨rfl, rfl, rfl, fun i => by rw [if_neg (by omega)]⟩
theorem Laid.step {A Ak : Cell} {lo k : Nat} {f : Nat → Value} {v : Value} (h : Laid A Ak lo k f) (hlo : lo ≤ k) (hk : k < Ak.slots.size) (hv : v = f k) : Laid A (Ak.setSlot k v) lo (k + 1) f := by
  refine ⟨h.1, h.2.1, by simpa [Cell.setSlot] using h.2.2.1, fun i => ?_⟩
  by_cases e : k = i
  · subst e; rw [Cell.slots_setSlot_self v hk, if_pos (by omega), hv]
  · rw [Cell.slots_setSlot_ne v e, h.2.2.2 i]
    by_cases q : lo ≤ i ∧ i < k
    · rw [if_pos q, if_pos (by omega)]
    · rw [if_neg q, if_neg (by omega)]
def U16 : String := "java/lang/StringUTF16"
namespace Cmp5
def yN : MethodName := ⟨"java/lang/StringUTF16", "compress", "([CI[BII)I"⟩
abbrev yB : ByteArray := jdk_52_method_21_code
theorem d0 : decode yB 0 = .ok (.iconst 0, 1) := by decide +kernel
theorem d1 : decode yB 1 = .ok (.istore 5, 2) := by decide +kernel
theorem d3 : decode yB 3 = .ok (.iload 5, 2) := by decide +kernel
theorem d5 : decode yB 5 = .ok (.iload 4, 2) := by decide +kernel
theorem d7 : decode yB 7 = .ok (.if_icmp (.ge) 37, 3) := by decide +kernel
theorem d10 : decode yB 10 = .ok (.aload_n 0, 1) := by decide +kernel
theorem d11 : decode yB 11 = .ok (.iload_n 1, 1) := by decide +kernel
theorem d12 : decode yB 12 = .ok (.caload, 1) := by decide +kernel
theorem d13 : decode yB 13 = .ok (.istore 6, 2) := by decide +kernel
theorem d15 : decode yB 15 = .ok (.iload 6, 2) := by decide +kernel
theorem d17 : decode yB 17 = .ok (.sipush 255, 3) := by decide +kernel
theorem d20 : decode yB 20 = .ok (.if_icmp (.le) 6, 3) := by decide +kernel
theorem d26 : decode yB 26 = .ok (.aload_n 2, 1) := by decide +kernel
theorem d27 : decode yB 27 = .ok (.iload_n 3, 1) := by decide +kernel
theorem d28 : decode yB 28 = .ok (.iload 6, 2) := by decide +kernel
theorem d30 : decode yB 30 = .ok (.i2b, 1) := by decide +kernel
theorem d31 : decode yB 31 = .ok (.bastore, 1) := by decide +kernel
theorem d32 : decode yB 32 = .ok (.iinc 1 1, 3) := by decide +kernel
theorem d35 : decode yB 35 = .ok (.iinc 3 1, 3) := by decide +kernel
theorem d38 : decode yB 38 = .ok (.iinc 5 1, 3) := by decide +kernel
theorem d41 : decode yB 41 = .ok (.goto (-38), 3) := by decide +kernel
theorem d44 : decode yB 44 = .ok (.iload 4, 2) := by decide +kernel
theorem d46 : decode yB 46 = .ok (.ireturn, 1) := by decide +kernel
def site : List Cond := []
def tab : Cond := tabOf yN yB 7 (some .int) site
def P (b : Addr) (A : Cell) (d : Addr) (B : Cell) (o q len : Nat) (args : Array Value) (s : State) : Prop := args = #[.ref b, .int (Int32.ofNat o), .ref d, .int (Int32.ofNat q), .int (Int32.ofNat len)] ∧ Ch b A s ∧ Arr .byte d B s ∧ b ≠ d ∧ o + len ≤ A.slots.size ∧ q + len ≤ B.slots.size ∧ ∀ i, i < len → ¬ 255 < cv A (o + i)
def E (b : Addr) (A : Cell) (d : Addr) (B : Cell) (o q len : Nat) (r : Option Value) (s u : State) : Prop := r = some (.int (Int32.ofNat len)) ∧ ∃ B', Put d B' s u ∧ Laid B B' q (q + len) (fun j => Value.int (lo8 (cv A (o + (j - q)))))
/-- no char of the range above 255: len; the places written hold each char's low byte -/
theorem law (l : Launch) (b : Addr) (A : Cell) (d : Addr) (B : Cell) (o q len : Nat) : Law l yN 5 5 0 0 yB 7 (some .int) site (P b A d B o q len) (E b A d B o q len) (copyLocs d q len) 0 0 := by
  refine Law.of_walk (plainFor_of_name (by decide +kernel)) (by decide +kernel) (by decide +kernel) (by decide) (fun _ _ h => by rw [h.1]; rfl) (fun _ U U' hal hh h => ⟨h.1, h.2.1.mv hal hh, h.2.2.1.mv hal hh, h.2.2.2⟩) (fun r U U' V V' h1 hal h2 h => ⟨h.1, h.2.elim fun B' q => ⟨B', q.1.mv h1 h2, q.2⟩⟩) ?_
  intro p e s m args below meth c s₁ X0 hexec hbytes hml hret hlk hnm hown hh0 W hP
  obtain ⟨rfl, hA, hB, hne, l1, l2, hp⟩ := hP
  have c1 : Steps p.tables e below (s₁.setTop (entryFrame m #[.ref b, .int (Int32.ofNat o), .ref d, .int (Int32.ofNat q), .int (Int32.ofNat len)] 7)) (s₁.setTop (mkF m 0 #[.val (.ref b), .val (.int (Int32.ofNat o)), .val (.ref d), .val (.int (Int32.ofNat q)), .val (.int (Int32.ofNat len)), .unset, .unset] [])) := entry rfl
  have hA0 := hA.1.mv X0.warmed.alike hh0
  have hB0 := hB.mv X0.warmed.alike hh0
  have a31 := hA.1.2.2.2
  have c2 : Steps p.tables e below (s₁.setTop (entryFrame m #[.ref b, .int (Int32.ofNat o), .ref d, .int (Int32.ofNat q), .int (Int32.ofNat len)] 7)) (s₁.setTop (mkF m 3 #[.val (.ref b), .val (.int (Int32.ofNat o)), .val (.ref d), .val (.int (Int32.ofNat q)), .val (.int (Int32.ofNat len)), .val (.int 0), .unset] [])) := c1.trans (by
    refine iconstV X0.here hexec rfl 0 (hb hbytes d0) (by decide) ?_
    refine XS.istore X0.here hexec rfl (hb hbytes d1) rfl rfl ?_
    exact Steps.refl _)
  have loop : ∀ (r i : Nat), i + r = len → ∀ (z : Slot), (z = .unset ∨ ∃ w, z = .val w ∧ w.category = 1) → ∀ (Tl : State) (Bk : Cell), Stand p l e { frames := 0, locals := 0, cells := 0, slots := 0 } s m #[.ref b, .int (Int32.ofNat o), .ref d, .int (Int32.ofNat q), .int (Int32.ofNat len)] below meth c Tl ([] ++ copyLocs d q i) 0 0 → Put d Bk s₁ Tl → Laid B Bk q (q + i) (fun j => Value.int (lo8 (cv A (o + (j - q))))) →
      Steps p.tables e below (s₁.setTop (entryFrame m #[.ref b, .int (Int32.ofNat o), .ref d, .int (Int32.ofNat q), .int (Int32.ofNat len)] 7)) (Tl.setTop (mkF m 3 #[.val (.ref b), .val (.int (Int32.ofNat (o + i))), .val (.ref d), .val (.int (Int32.ofNat (q + i))), .val (.int (Int32.ofNat len)), .val (.int (Int32.ofNat i)), z] [])) → ∃ (T' : State) (B' : Cell) (z' : Slot), Stand p l e { frames := 0, locals := 0, cells := 0, slots := 0 } s m #[.ref b, .int (Int32.ofNat o), .ref d, .int (Int32.ofNat q), .int (Int32.ofNat len)] below meth c T' ([] ++ copyLocs d q len) 0 0 ∧ Put d B' s₁ T' ∧ Laid B B' q (q + len) (fun j => Value.int (lo8 (cv A (o + (j - q))))) ∧
      Steps p.tables e below (s₁.setTop (entryFrame m #[.ref b, .int (Int32.ofNat o), .ref d, .int (Int32.ofNat q), .int (Int32.ofNat len)] 7)) (T'.setTop (mkF m 3 #[.val (.ref b), .val (.int (Int32.ofNat (o + len))), .val (.ref d), .val (.int (Int32.ofNat (q + len))), .val (.int (Int32.ofNat len)), .val (.int (Int32.ofNat len)), z'] [])) := by
    intro r
    induction r with
    | zero =>
      intro i hi z hz Tl Bk Xl pl fl cl
      have hil : i = len := by omega
      rw [hil] at Xl fl cl
      exact ⟨Tl, Bk, z, Xl, pl, fl, cl⟩
    | succ r ih =>
      intro i hi z hz Tl Bk Xl pl fl cl
      have all := X0.warmed.alike.symm.trans Xl.warmed.alike
      have hAl := hA0.keep all (pl.other hne hA0.1)
      have hBk := hB0.like all pl.1 fl.1 fl.2.1 fl.2.2.1
      have hlt : q + i < Bk.slots.size := by rw [fl.2.2.1]; omega
      have c3 : Steps p.tables e below (s₁.setTop (entryFrame m #[.ref b, .int (Int32.ofNat o), .ref d, .int (Int32.ofNat q), .int (Int32.ofNat len)] 7)) (Tl.setTop (mkF m 12 #[.val (.ref b), .val (.int (Int32.ofNat (o + i))), .val (.ref d), .val (.int (Int32.ofNat (q + i))), .val (.int (Int32.ofNat len)), .val (.int (Int32.ofNat i)), z] [.int (Int32.ofNat (o + i)), .ref b])) := cl.trans (by
        refine XS.iload Xl.here hexec rfl (hb hbytes d3) rfl ?_
        refine XS.iload Xl.here hexec rfl (hb hbytes d5) rfl ?_
        refine XS.icmpNo Xl.here hexec rfl (hb hbytes d7) rfl (ii_ge_f (lt32 (by omega) (by omega))) ?_
        refine XS.aloadN Xl.here hexec rfl (hb hbytes d10) rfl rfl ?_
        refine XS.iloadN Xl.here hexec rfl (hb hbytes d11) rfl ?_
        exact Steps.refl _)
      have c4 : Steps p.tables e below (s₁.setTop (entryFrame m #[.ref b, .int (Int32.ofNat o), .ref d, .int (Int32.ofNat q), .int (Int32.ofNat len)] 7)) (Tl.setTop (mkF m 13 #[.val (.ref b), .val (.int (Int32.ofNat (o + i))), .val (.ref d), .val (.int (Int32.ofNat (q + i))), .val (.int (Int32.ofNat len)), .val (.int (Int32.ofNat i)), z] [.int (cv A (o + i))])) := c3.trans (by
        refine Xl.aget hexec hAl rfl (hA.get (i := o + i) (by omega)) rfl rfl (hb hbytes d12) ?_
        exact Steps.refl _)
      have c5 : Steps p.tables e below (s₁.setTop (entryFrame m #[.ref b, .int (Int32.ofNat o), .ref d, .int (Int32.ofNat q), .int (Int32.ofNat len)] 7)) (Tl.setTop (mkF m 15 #[.val (.ref b), .val (.int (Int32.ofNat (o + i))), .val (.ref d), .val (.int (Int32.ofNat (q + i))), .val (.int (Int32.ofNat len)), .val (.int (Int32.ofNat i)), .val (.int (cv A (o + i)))] [])) := c4.trans (by
        refine XS.istoreS Xl.here hexec rfl (hb hbytes d13) rfl rfl hz ?_
        exact Steps.refl _)
      have c6 : Steps p.tables e below (s₁.setTop (entryFrame m #[.ref b, .int (Int32.ofNat o), .ref d, .int (Int32.ofNat q), .int (Int32.ofNat len)] 7)) (Tl.setTop (mkF m 31 #[.val (.ref b), .val (.int (Int32.ofNat (o + i))), .val (.ref d), .val (.int (Int32.ofNat (q + i))), .val (.int (Int32.ofNat len)), .val (.int (Int32.ofNat i)), .val (.int (cv A (o + i)))] [.int (lo8 (cv A (o + i))), .int (Int32.ofNat (q + i)), .ref d])) := c5.trans (by
        refine XS.iload Xl.here hexec rfl (hb hbytes d15) rfl ?_
        refine sipushV Xl.here hexec rfl 255 (hb hbytes d17) (by decide) ?_
        refine XS.icmpYes Xl.here hexec rfl (pc0 := 20) rfl (hb hbytes d20) rfl (ii_le_t (hp i (by omega))) (by decide) rfl ?_
        refine XS.aloadN Xl.here hexec rfl (hb hbytes d26) rfl rfl ?_
        refine XS.iloadN Xl.here hexec rfl (hb hbytes d27) rfl ?_
        refine XS.iload Xl.here hexec rfl (hb hbytes d28) rfl ?_
        refine i2b Xl.here hexec rfl (hb hbytes d30) rfl ?_
        exact Steps.refl _)
      obtain ⟨T7, X7, p7, st7⟩ := Xl.aput hexec hBk rfl hlt rfl (fits_lo8 (cv A (o + i))) (g := (mkF m 31 #[.val (.ref b), .val (.int (Int32.ofNat (o + i))), .val (.ref d), .val (.int (Int32.ofNat (q + i))), .val (.int (Int32.ofNat len)), .val (.int (Int32.ofNat i)), .val (.int (cv A (o + i)))] [.int (lo8 (cv A (o + i))), .int (Int32.ofNat (q + i)), .ref d])) rfl (rest := []) rfl (hb hbytes d31)
      have c8 : Steps p.tables e below (s₁.setTop (entryFrame m #[.ref b, .int (Int32.ofNat o), .ref d, .int (Int32.ofNat q), .int (Int32.ofNat len)] 7)) (T7.setTop (mkF m 32 #[.val (.ref b), .val (.int (Int32.ofNat (o + i))), .val (.ref d), .val (.int (Int32.ofNat (q + i))), .val (.int (Int32.ofNat len)), .val (.int (Int32.ofNat i)), .val (.int (cv A (o + i)))] [])) := c6.trans (st7 _ (Steps.refl _))
      have c9 : Steps p.tables e below (s₁.setTop (entryFrame m #[.ref b, .int (Int32.ofNat o), .ref d, .int (Int32.ofNat q), .int (Int32.ofNat len)] 7)) (T7.setTop (mkF m 3 #[.val (.ref b), .val (.int (Int32.ofNat (o + i) + 1)), .val (.ref d), .val (.int (Int32.ofNat (q + i) + 1)), .val (.int (Int32.ofNat len)), .val (.int (Int32.ofNat i + 1)), .val (.int (cv A (o + i)))] [])) := c8.trans (by
        refine iincV X7.here hexec rfl 1 (hb hbytes d32) (by decide) rfl rfl ?_
        refine iincV X7.here hexec rfl 1 (hb hbytes d35) (by decide) rfl rfl ?_
        refine iincV X7.here hexec rfl 1 (hb hbytes d38) (by decide) rfl rfl ?_
        refine XS.goto X7.here hexec rfl (pc0 := 41) rfl (hb hbytes d41) (by decide) rfl ?_
        exact Steps.refl _)
      have c10 : Steps p.tables e below (s₁.setTop (entryFrame m #[.ref b, .int (Int32.ofNat o), .ref d, .int (Int32.ofNat q), .int (Int32.ofNat len)] 7)) (T7.setTop (mkF m 3 #[.val (.ref b), .val (.int (Int32.ofNat (o + (i + 1)))), .val (.ref d), .val (.int (Int32.ofNat (q + (i + 1)))), .val (.int (Int32.ofNat len)), .val (.int (Int32.ofNat (i + 1))), .val (.int (cv A (o + i)))] [])) := by
        have := c9
        rw [succ32, succ32, succ32] at this
        exact this
      exact ih (i + 1) (by omega) _ (Or.inr ⟨_, rfl, rfl⟩) T7 _ (by rw [copyLocs_step, ← List.append_assoc]; exact X7) (pl.trans p7) (fl.step (by omega) hlt (by simp)) c10
  obtain ⟨T9, B9, z9, X9, p9, f9, g9⟩ := loop len 0 (by omega) .unset (Or.inl rfl) s₁ B (by simpa [copyLocs] using X0) ⟨hB0.1, fun _ _ => rfl, rfl⟩ (Laid.zero _ _ _) c2
  have c11 : Steps p.tables e below (s₁.setTop (entryFrame m #[.ref b, .int (Int32.ofNat o), .ref d, .int (Int32.ofNat q), .int (Int32.ofNat len)] 7)) (T9.setTop (mkF m 46 #[.val (.ref b), .val (.int (Int32.ofNat (o + len))), .val (.ref d), .val (.int (Int32.ofNat (q + len))), .val (.int (Int32.ofNat len)), .val (.int (Int32.ofNat len)), z9] [.int (Int32.ofNat len)])) := g9.trans (by
    refine XS.iload X9.here hexec rfl (hb hbytes d3) rfl ?_
    refine XS.iload X9.here hexec rfl (hb hbytes d5) rfl ?_
    refine XS.icmpYes X9.here hexec rfl (pc0 := 7) rfl (hb hbytes d7) rfl (ii_ge_t (nlt32 (by omega) (Nat.le_refl _))) (by decide) rfl ?_
    refine XS.iload X9.here hexec rfl (hb hbytes d44) rfl ?_
    exact Steps.refl _)
  exact ⟨T9, some (.int (Int32.ofNat len)), _, _, _, X9, by simp, rfl, rfl, (fun h => by cases h), ⟨rfl, B9, p9.from hh0, f9⟩, fun fs hl => c11.trans (X9.ireturnOut hexec hret rfl (Or.inl rfl) (hb hbytes d46) hl)⟩
end Cmp5
namespace Cmp3
def yN : MethodName := ⟨"java/lang/StringUTF16", "compress", "([CII)[B"⟩
abbrev yB : ByteArray := jdk_52_method_16_code
theorem d0 : decode yB 0 = .ok (.iload_n 2, 1) := by decide +kernel
theorem d1 : decode yB 1 = .ok (.newarray .byte, 2) := by decide +kernel
theorem d3 : decode yB 3 = .ok (.astore_n 3, 1) := by decide +kernel
theorem d4 : decode yB 4 = .ok (.aload_n 0, 1) := by decide +kernel
theorem d5 : decode yB 5 = .ok (.iload_n 1, 1) := by decide +kernel
theorem d6 : decode yB 6 = .ok (.aload_n 3, 1) := by decide +kernel
theorem d7 : decode yB 7 = .ok (.iconst 0, 1) := by decide +kernel
theorem d8 : decode yB 8 = .ok (.iload_n 2, 1) := by decide +kernel
theorem d9 : decode yB 9 = .ok (.invokestatic 115, 3) := by decide +kernel
theorem d12 : decode yB 12 = .ok (.istore 4, 2) := by decide +kernel
theorem d14 : decode yB 14 = .ok (.iload 4, 2) := by decide +kernel
theorem d16 : decode yB 16 = .ok (.iload_n 2, 1) := by decide +kernel
theorem d17 : decode yB 17 = .ok (.if_icmp (.eq) 40, 3) := by decide +kernel
theorem d57 : decode yB 57 = .ok (.aload_n 3, 1) := by decide +kernel
theorem d58 : decode yB 58 = .ok (.areturn, 1) := by decide +kernel
def site : List Cond := [.arrayClass .byte, Cmp5.tab] ++ staticW U16 115 Cmp5.yN
def tab : Cond := tabOf yN yB 6 (some (.array .byte)) site
def P (b : Addr) (A : Cell) (o len : Nat) (args : Array Value) (s : State) : Prop := args = #[.ref b, .int (Int32.ofNat o), .int (Int32.ofNat len)] ∧ Ch b A s ∧ o + len ≤ A.slots.size ∧ len ≤ 536870912 ∧ ∀ i, i < len → ¬ 255 < cv A (o + i)
def E (b : Addr) (A : Cell) (o len : Nat) (r : Option Value) (s u : State) : Prop := NewArr .byte "[B" len (fun j => .int (lo8 (cv A (o + j)))) r s u ∧ u.heap.size = s.heap.size + 1
/-- no char of the range above 255: a new byte[] of their low bytes -/
theorem law (l : Launch) (b : Addr) (A : Cell) (o len : Nat) : Law l yN 3 3 1 18 yB 6 (some (.array .byte)) site (P b A o len) (E b A o len) [] 1 len := by
  refine Law.of_walk (plainFor_of_name (by decide +kernel)) (by decide +kernel) (by decide +kernel) (by decide) (fun _ _ h => by rw [h.1]; rfl) (fun _ U U' hal hh h => ⟨h.1, h.2.1.mv hal hh, h.2.2⟩) (fun r U U' V V' h1 hal h2 h => ⟨NewArr.mv r U U' V V' h1 hal h2 h.1, by rw [h1, h2]; exact h.2⟩) ?_
  intro p e s m args below meth c s₁ X0 hexec hbytes hml hret hlk hnm hown hh0 W hP
  obtain ⟨rfl, hA, l1, l2, hp⟩ := hP
  have a31 := hA.1.2.2.2
  have c1 : Steps p.tables e below (s₁.setTop (entryFrame m #[.ref b, .int (Int32.ofNat o), .int (Int32.ofNat len)] 6)) (s₁.setTop (mkF m 0 #[.val (.ref b), .val (.int (Int32.ofNat o)), .val (.int (Int32.ofNat len)), .unset, .unset, .unset] [])) := entry rfl
  have c2 : Steps p.tables e below (s₁.setTop (entryFrame m #[.ref b, .int (Int32.ofNat o), .int (Int32.ofNat len)] 6)) (s₁.setTop (mkF m 1 #[.val (.ref b), .val (.int (Int32.ofNat o)), .val (.int (Int32.ofNat len)), .unset, .unset, .unset] [.int (Int32.ofNat len)])) := c1.trans (by
    refine XS.iloadN X0.here hexec rfl (hb hbytes d0) rfl ?_
    exact Steps.refl _)
  obtain ⟨T3, B3, X3, ba3, bs3, bv3, bh3, bf3, st3⟩ := X0.anew hexec (atype := .byte) (wk W (.arrayClass .byte)) rfl (by show len * 1 ≤ _; omega) (by omega) (g := (mkF m 1 #[.val (.ref b), .val (.int (Int32.ofNat o)), .val (.int (Int32.ofNat len)), .unset, .unset, .unset] [.int (Int32.ofNat len)])) rfl (hb hbytes d1) (rest := []) rfl (Nat.le_refl _) (by show 0 + len ≤ len; omega)
  rw [hh0] at ba3 st3
  have kp3 : XT.Kept s T3 := (XT.Kept.of_eq hh0).push bh3
  have hA3 := hA.keep X3.warmed.alike (kp3 _ _ hA.1.1)
  have hne : b ≠ s.heap.size := hA.1.ne
  have c4 : Steps p.tables e below (s₁.setTop (entryFrame m #[.ref b, .int (Int32.ofNat o), .int (Int32.ofNat len)] 6)) (T3.setTop (mkF m 3 #[.val (.ref b), .val (.int (Int32.ofNat o)), .val (.int (Int32.ofNat len)), .unset, .unset, .unset] [.ref s.heap.size])) := c2.trans (st3 _ (Steps.refl _))
  have c5 : Steps p.tables e below (s₁.setTop (entryFrame m #[.ref b, .int (Int32.ofNat o), .int (Int32.ofNat len)] 6)) (T3.setTop (mkF m 9 #[.val (.ref b), .val (.int (Int32.ofNat o)), .val (.int (Int32.ofNat len)), .val (.ref s.heap.size), .unset, .unset] [.int (Int32.ofNat len), .int 0, .ref s.heap.size, .int (Int32.ofNat o), .ref b])) := c4.trans (by
    refine XS.astoreN X3.here hexec rfl (hb hbytes d3) rfl rfl rfl ?_
    refine XS.aloadN X3.here hexec rfl (hb hbytes d4) rfl rfl ?_
    refine XS.iloadN X3.here hexec rfl (hb hbytes d5) rfl ?_
    refine XS.aloadN X3.here hexec rfl (hb hbytes d6) rfl rfl ?_
    refine iconstV X3.here hexec rfl 0 (hb hbytes d7) (by decide) ?_
    refine XS.iloadN X3.here hexec rfl (hb hbytes d8) rfl ?_
    exact Steps.refl _)
  obtain ⟨v6, T6, X6, E6, g6⟩ := X3.callS hexec (Cmp5.law l b A s.heap.size B3 o 0 len) hown (wks W (staticW U16 115 Cmp5.yN)) (wk W Cmp5.tab) (W := 0) (Nat.le_of_ble_eq_true rfl) (Nat.le_of_ble_eq_true rfl) (Nat.le_refl _) (by show 0 + len + 0 ≤ len; omega) (g := (mkF m 9 #[.val (.ref b), .val (.int (Int32.ofNat o)), .val (.int (Int32.ofNat len)), .val (.ref s.heap.size), .unset, .unset] [.int (Int32.ofNat len), .int (Int32.ofNat 0), .ref s.heap.size, .int (Int32.ofNat o), .ref b])) rfl (by rw [hml]; rfl) c5 (argsL := [.ref b, .int (Int32.ofNat o), .ref s.heap.size, .int (Int32.ofNat 0), .int (Int32.ofNat len)]) (rest := []) rfl rfl (by show 2 * 0 + 0 ≤ _; decide) (hb hbytes d9) (⟨rfl, hA3, ba3, hne, l1, by rw [bs3]; simp, hp⟩)
  obtain ⟨rfl, B6, p6, f6⟩ := E6
  have c7 : Steps p.tables e below (s₁.setTop (entryFrame m #[.ref b, .int (Int32.ofNat o), .int (Int32.ofNat len)] 6)) (T6.setTop (mkF m 12 #[.val (.ref b), .val (.int (Int32.ofNat o)), .val (.int (Int32.ofNat len)), .val (.ref s.heap.size), .unset, .unset] [.int (Int32.ofNat len)])) := g6
  have c8 : Steps p.tables e below (s₁.setTop (entryFrame m #[.ref b, .int (Int32.ofNat o), .int (Int32.ofNat len)] 6)) (T6.setTop (mkF m 58 #[.val (.ref b), .val (.int (Int32.ofNat o)), .val (.int (Int32.ofNat len)), .val (.ref s.heap.size), .val (.int (Int32.ofNat len)), .unset] [.ref s.heap.size])) := c7.trans (by
    refine XS.istore X6.here hexec rfl (hb hbytes d12) rfl rfl ?_
    refine XS.iload X6.here hexec rfl (hb hbytes d14) rfl ?_
    refine XS.iloadN X6.here hexec rfl (hb hbytes d16) rfl ?_
    refine XS.icmpYes X6.here hexec rfl (pc0 := 17) rfl (hb hbytes d17) rfl (ii_eq_t rfl) (by decide) rfl ?_
    refine XS.aloadN X6.here hexec rfl (hb hbytes d57) rfl rfl ?_
    exact Steps.refl _)
  have X8 := X6.wide (L' := []) (cells' := 1) (slots' := len) (fun x hx hlt => by
    simp only [List.nil_append, copyLocs, List.mem_map, List.mem_range] at hx
    obtain ⟨i, -, rfl⟩ := hx
    exact absurd hlt (Nat.lt_irrefl _)) (Nat.le_refl _) (by omega)
  exact ⟨T6, some (.ref s.heap.size), _, _, _, X8, rfl, rfl, rfl, (fun h => by cases h), ⟨⟨rfl, B6, ba3.like (X3.warmed.alike.symm.trans X6.warmed.alike) p6.1 f6.1 f6.2.1 f6.2.2.1, f6.2.1.trans bv3, by rw [X6.warmed.alike.findClass, f6.1]; exact bf3, by rw [f6.2.2.1, bs3]; simp, fun j hj => by rw [f6.2.2.2 j, if_pos (by omega)]; rfl, kp3.put p6 (Nat.le_refl _)⟩, by rw [p6.2.2, bh3, hh0]; simp⟩, fun fs hl => c8.trans (X8.areturnOut hexec rfl hret rfl (hb hbytes d58) hl)⟩
end Cmp3
namespace CodL
def yN : MethodName := ⟨"java/lang/StringUTF16", "coderFromArrayLen", "([BI)B"⟩
abbrev yB : ByteArray := jdk_52_method_15_code
theorem d0 : decode yB 0 = .ok (.iload_n 1, 1) := by decide +kernel
theorem d1 : decode yB 1 = .ok (.aload_n 0, 1) := by decide +kernel
theorem d2 : decode yB 2 = .ok (.arraylength, 1) := by decide +kernel
theorem d3 : decode yB 3 = .ok (.isub, 1) := by decide +kernel
theorem d4 : decode yB 4 = .ok (.bipush 31, 2) := by decide +kernel
theorem d6 : decode yB 6 = .ok (.iushr, 1) := by decide +kernel
theorem d7 : decode yB 7 = .ok (.i2b, 1) := by decide +kernel
theorem d8 : decode yB 8 = .ok (.ireturn, 1) := by decide +kernel
def site : List Cond := []
def tab : Cond := tabOf yN yB 2 (some .byte) site
def P (d : Addr) (B : Cell) (args : Array Value) (s : State) : Prop := args = #[.ref d, .int (Int32.ofNat B.slots.size)] ∧ Arr .byte d B s
def E (r : Option Value) (s u : State) : Prop := XT.PureE (some (.int 0)) r s u
/-- an array as long as the number of chars: LATIN1 -/
theorem law (l : Launch) (d : Addr) (B : Cell) : Law l yN 2 2 0 0 yB 2 (some .byte) site (P d B) E [] 0 0 := by
  refine Law.of_walk (plainFor_of_name (by decide +kernel)) (by decide +kernel) (by decide +kernel) (by decide) (fun _ _ h => by rw [h.1]; rfl) (fun _ U U' hal hh h => ⟨h.1, h.2.mv hal hh⟩) (fun r U U' V V' h1 hal h2 h => XT.PureE.mv r U U' V V' h1 hal h2 h) ?_
  intro p e s m args below meth c s₁ X0 hexec hbytes hml hret hlk hnm hown hh0 W hP
  obtain ⟨rfl, hB⟩ := hP
  have hB0 := hB.mv X0.warmed.alike hh0
  have c1 : Steps p.tables e below (s₁.setTop (entryFrame m #[.ref d, .int (Int32.ofNat B.slots.size)] 2)) (s₁.setTop (mkF m 0 #[.val (.ref d), .val (.int (Int32.ofNat B.slots.size))] [])) := entry rfl
  have c2 : Steps p.tables e below (s₁.setTop (entryFrame m #[.ref d, .int (Int32.ofNat B.slots.size)] 2)) (s₁.setTop (mkF m 2 #[.val (.ref d), .val (.int (Int32.ofNat B.slots.size))] [.ref d, .int (Int32.ofNat B.slots.size)])) := c1.trans (by
    refine XS.iloadN X0.here hexec rfl (hb hbytes d0) rfl ?_
    refine XS.aloadN X0.here hexec rfl (hb hbytes d1) rfl rfl ?_
    exact Steps.refl _)
  have c3 : Steps p.tables e below (s₁.setTop (entryFrame m #[.ref d, .int (Int32.ofNat B.slots.size)] 2)) (s₁.setTop (mkF m 8 #[.val (.ref d), .val (.int (Int32.ofNat B.slots.size))] [.int (lo8 (ushr (Int32.ofNat B.slots.size - Int32.ofNat B.slots.size) 31))])) := c2.trans (by
    refine X0.alen hexec hB0 rfl rfl (hb hbytes d2) ?_
    refine XS.isub X0.here hexec rfl (hb hbytes d3) rfl ?_
    refine bipushV X0.here hexec rfl 31 (hb hbytes d4) (by decide) ?_
    refine iushr X0.here hexec rfl (hb hbytes d6) rfl ?_
    refine i2b X0.here hexec rfl (hb hbytes d7) rfl ?_
    exact Steps.refl _)
  have e0 : lo8 (ushr (Int32.ofNat B.slots.size - Int32.ofNat B.slots.size) 31) = 0 := by rw [Int32.sub_self]; decide
  rw [e0] at c3
  exact ⟨s₁, some (.int 0), _, _, _, X0, rfl, rfl, rfl, (fun h => by cases h), ⟨rfl, hh0⟩, fun fs hl => c3.trans (X0.ireturnOut hexec hret rfl (Or.inr (Or.inr (Or.inl rfl))) (hb hbytes d8) hl)⟩
end CodL
/-- the String at a is Latin-1 over a new byte[] (the heap's one new cell): the low bytes of the len chars of A from o on; every cell but a is kept -/
def Got (a : Addr) (D : Cell) (fV fC : Field) (A : Cell) (o len : Nat) (r : Option Value) (s u : State) : Prop := r = none ∧ ∃ D' V : Cell, Blank "java/lang/String" a D' u ∧ Same D D' [fV.slot, fC.slot] ∧ D'.slots[fV.slot]? = some (.ref s.heap.size) ∧ D'.slots[fC.slot]? = some (.int 0) ∧ Arr .byte s.heap.size V u ∧ V.vm = .none ∧ u.vm.findClass "[B" = some V.cls ∧ V.slots.size = len ∧ (∀ j, j < len → V.slots[j]? = some (.int (lo8 (cv A (o + j))))) ∧ (∀ (y : Addr) (c : Cell), y ≠ a → s.heap[y]? = some c → u.heap[y]? = some c) ∧ u.heap.size = s.heap.size + 1
theorem Got.mv {a : Addr} {D A : Cell} {fV fC : Field} {o len : Nat} : ∀ r (U U' V V' : State), U'.heap = U.heap → V.vm.Alike V'.vm → V'.heap = V.heap → Got a D fV fC A o len r U V → Got a D fV fC A o len r U' V' :=
  fun r U U' V V' h1 hal h2 ⟨e0, D', X, a1, a2, a3, a4, a5, a6, a7, a8, a9, a10, a11⟩ => ⟨e0, D', X, a1.mv hal h2, a2, by rw [h1]; exact a3, a4, by rw [h1]; exact a5.mv hal h2, a6, by rw [hal.findClass]; exact a7, a8, a9, by rw [h1, h2]; exact a10, by rw [h1, h2]; exact a11⟩
namespace New4
def yN : MethodName := ⟨"java/lang/String", "<init>", "([CIILjava/lang/Void;)V"⟩
abbrev yB : ByteArray := jdk_42_method_149_code
theorem d0 : decode yB 0 = .ok (.aload_n 0, 1) := by decide +kernel
theorem d1 : decode yB 1 = .ok (.invokespecial 1, 3) := by decide +kernel
theorem d4 : decode yB 4 = .ok (.iload_n 3, 1) := by decide +kernel
theorem d5 : decode yB 5 = .ok (.ifCond (.ne) 22, 3) := by decide +kernel
theorem d27 : decode yB 27 = .ok (.getstatic 38, 3) := by decide +kernel
theorem d30 : decode yB 30 = .ok (.ifCond (.eq) 28, 3) := by decide +kernel
theorem d33 : decode yB 33 = .ok (.aload_n 1, 1) := by decide +kernel
theorem d34 : decode yB 34 = .ok (.iload_n 2, 1) := by decide +kernel
theorem d35 : decode yB 35 = .ok (.iload_n 3, 1) := by decide +kernel
theorem d36 : decode yB 36 = .ok (.invokestatic 177, 3) := by decide +kernel
theorem d39 : decode yB 39 = .ok (.astore 5, 2) := by decide +kernel
theorem d41 : decode yB 41 = .ok (.aload_n 0, 1) := by decide +kernel
theorem d42 : decode yB 42 = .ok (.aload 5, 2) := by decide +kernel
theorem d44 : decode yB 44 = .ok (.iload_n 3, 1) := by decide +kernel
theorem d45 : decode yB 45 = .ok (.invokestatic 47, 3) := by decide +kernel
theorem d48 : decode yB 48 = .ok (.putfield 15, 3) := by decide +kernel
theorem d51 : decode yB 51 = .ok (.aload_n 0, 1) := by decide +kernel
theorem d52 : decode yB 52 = .ok (.aload 5, 2) := by decide +kernel
theorem d54 : decode yB 54 = .ok (.putfield 9, 3) := by decide +kernel
theorem d57 : decode yB 57 = .ok (.return_, 1) := by decide +kernel
def site : List Cond := [.fieldLink "java/lang/String" 38 "java/lang/String" "COMPACT_STRINGS" "Z", Cmp3.tab, CodL.tab, .laysFinal "java/lang/String" "java/lang/String" "value" "[B", .fieldLink "java/lang/String" 9 "java/lang/String" "value" "[B", .laysFinal "java/lang/String" "java/lang/String" "coder" "B", .fieldLink "java/lang/String" 15 "java/lang/String" "coder" "B"] ++ objW "java/lang/String" 1 ++ staticW "java/lang/String" 177 Cmp3.yN ++ staticW "java/lang/String" 47 CodL.yN
def tab : Cond := tabOf yN yB 6 none site
def P (a : Addr) (D : Cell) (fV fC : Field) (b : Addr) (A : Cell) (z : Int32) (o len : Nat) (args : Array Value) (s : State) : Prop := args = #[.ref a, .ref b, .int (Int32.ofNat o), .int (Int32.ofNat len), .null] ∧ Blank "java/lang/String" a D s ∧ Found "java/lang/String" "value" "[B" fV s ∧ Found "java/lang/String" "coder" "B" fC s ∧ Ch b A s ∧ StaticIs s "java/lang/String" "COMPACT_STRINGS" "Z" (.int z) ∧ ¬ z = 0 ∧ 0 < len ∧ o + len ≤ A.slots.size ∧ len ≤ 536870912 ∧ ∀ i, i < len → ¬ 255 < cv A (o + i)
def E (a : Addr) (D : Cell) (fV fC : Field) (A : Cell) (o len : Nat) (r : Option Value) (s u : State) : Prop := Got a D fV fC A o len r s u
/-- len > 0, no char of the range above 255: a Latin-1 String of their low bytes -/
theorem law (l : Launch) (a : Addr) (D : Cell) (fV fC : Field) (b : Addr) (A : Cell) (z : Int32) (o len : Nat) : Law l yN 5 4 2 35 yB 6 none site (P a D fV fC b A z o len) (E a D fV fC A o len) [⟨a, fC.slot⟩, ⟨a, fV.slot⟩] 1 len := by
  refine Law.of_walk (plainFor_of_name (by decide +kernel)) (by decide +kernel) (by decide +kernel) (by decide) (fun _ _ h => by rw [h.1]; rfl) (fun _ U U' hal hh h => ⟨h.1, h.2.1.mv hal hh, h.2.2.1.al hal, h.2.2.2.1.al hal, h.2.2.2.2.1.mv hal hh, h.2.2.2.2.2.1.there hal hh, h.2.2.2.2.2.2⟩) (fun r U U' V V' h1 hal h2 h => Got.mv r U U' V V' h1 hal h2 h) ?_
  intro p e s m args below meth c s₁ X0 hexec hbytes hml hret hlk hnm hown hh0 W hP
  obtain ⟨rfl, hB, f1, f2, hA, s1, hz, l0, l1, l2, hp⟩ := hP
  have a31 := hA.1.2.2.2
  have c1 : Steps p.tables e below (s₁.setTop (entryFrame m #[.ref a, .ref b, .int (Int32.ofNat o), .int (Int32.ofNat len), .null] 6)) (s₁.setTop (mkF m 0 #[.val (.ref a), .val (.ref b), .val (.int (Int32.ofNat o)), .val (.int (Int32.ofNat len)), .val .null, .unset] [])) := entry rfl
  have c2 : Steps p.tables e below (s₁.setTop (entryFrame m #[.ref a, .ref b, .int (Int32.ofNat o), .int (Int32.ofNat len), .null] 6)) (s₁.setTop (mkF m 1 #[.val (.ref a), .val (.ref b), .val (.int (Int32.ofNat o)), .val (.int (Int32.ofNat len)), .val .null, .unset] [.ref a])) := c1.trans (by
    refine XS.aloadN X0.here hexec rfl (hb hbytes d0) rfl rfl ?_
    exact Steps.refl _)
  obtain ⟨T3, X3, q3, st3⟩ := X0.oinit hexec hown (wks W (objW "java/lang/String" 1)) (g := (mkF m 1 #[.val (.ref a), .val (.ref b), .val (.int (Int32.ofNat o)), .val (.int (Int32.ofNat len)), .val .null, .unset] [.ref a])) rfl (by rw [hml]; rfl) (rest := []) rfl (hb hbytes d1) (W := 0) (by show 2 * 0 + 0 ≤ _; decide) (Nat.le_of_ble_eq_true rfl) (Nat.le_of_ble_eq_true rfl)
  have hh3 := q3.trans hh0
  have c4 : Steps p.tables e below (s₁.setTop (entryFrame m #[.ref a, .ref b, .int (Int32.ofNat o), .int (Int32.ofNat len), .null] 6)) (T3.setTop (mkF m 27 #[.val (.ref a), .val (.ref b), .val (.int (Int32.ofNat o)), .val (.int (Int32.ofNat len)), .val .null, .unset] [])) := (c2.trans (st3 _ (Steps.refl _))).trans (by
    refine XS.iloadN X3.here hexec rfl (hb hbytes d4) rfl ?_
    refine XS.ifYes X3.here hexec rfl (pc0 := 5) rfl (hb hbytes d5) rfl (i0_ne_t (nz32 (by omega) l0)) (by decide) rfl ?_
    exact Steps.refl _)
  obtain ⟨T5, X5, q5, st5⟩ := X3.sget hexec hown (wk W (.fieldLink "java/lang/String" 38 "java/lang/String" "COMPACT_STRINGS" "Z")) s1 (fun _ _ h => by rw [hh3]; exact h) (g := (mkF m 27 #[.val (.ref a), .val (.ref b), .val (.int (Int32.ofNat o)), .val (.int (Int32.ofNat len)), .val .null, .unset] [])) rfl (hb hbytes d27)
  have hh5 := q5.trans hh3
  have c6 : Steps p.tables e below (s₁.setTop (entryFrame m #[.ref a, .ref b, .int (Int32.ofNat o), .int (Int32.ofNat len), .null] 6)) (T5.setTop (mkF m 30 #[.val (.ref a), .val (.ref b), .val (.int (Int32.ofNat o)), .val (.int (Int32.ofNat len)), .val .null, .unset] [.int z])) := c4.trans (st5 _ (Steps.refl _))
  have c7 : Steps p.tables e below (s₁.setTop (entryFrame m #[.ref a, .ref b, .int (Int32.ofNat o), .int (Int32.ofNat len), .null] 6)) (T5.setTop (mkF m 36 #[.val (.ref a), .val (.ref b), .val (.int (Int32.ofNat o)), .val (.int (Int32.ofNat len)), .val .null, .unset] [.int (Int32.ofNat len), .int (Int32.ofNat o), .ref b])) := c6.trans (by
    refine XS.ifNo X5.here hexec rfl (hb hbytes d30) rfl (i0_eq_f hz) ?_
    refine XS.aloadN X5.here hexec rfl (hb hbytes d33) rfl rfl ?_
    refine XS.iloadN X5.here hexec rfl (hb hbytes d34) rfl ?_
    refine XS.iloadN X5.here hexec rfl (hb hbytes d35) rfl ?_
    exact Steps.refl _)
  obtain ⟨v8, T8, X8, E8, g8⟩ := X5.callS hexec (Cmp3.law l b A o len) hown (wks W (staticW "java/lang/String" 177 Cmp3.yN)) (wk W Cmp3.tab) (W := 0) (Nat.le_of_ble_eq_true rfl) (Nat.le_of_ble_eq_true rfl) (Nat.le_refl _) (by show 0 + len ≤ len; omega) (g := (mkF m 36 #[.val (.ref a), .val (.ref b), .val (.int (Int32.ofNat o)), .val (.int (Int32.ofNat len)), .val .null, .unset] [.int (Int32.ofNat len), .int (Int32.ofNat o), .ref b])) rfl (by rw [hml]; rfl) c7 (argsL := [.ref b, .int (Int32.ofNat o), .int (Int32.ofNat len)]) (rest := []) rfl rfl (by show 2 * 0 + 0 ≤ _; decide) (hb hbytes d36) (⟨rfl, hA.mv X5.warmed.alike hh5, l1, l2, hp⟩)
  obtain ⟨e8, z8⟩ := E8
  obtain ⟨rfl, N, n1, n2, n3, n4, n5, n6⟩ := NewArr.mv _ T5 s _ _ hh5.symm (Vm.Alike.refl _) rfl e8
  rw [hh5] at z8
  have hB1 := hB.keep X8.warmed.alike (n6 _ _ hB.1)
  have hne : s.heap.size ≠ a := (Nat.ne_of_lt (Array.getElem?_eq_some_iff.mp hB.1).1).symm
  have c9 : Steps p.tables e below (s₁.setTop (entryFrame m #[.ref a, .ref b, .int (Int32.ofNat o), .int (Int32.ofNat len), .null] 6)) (T8.setTop (mkF m 39 #[.val (.ref a), .val (.ref b), .val (.int (Int32.ofNat o)), .val (.int (Int32.ofNat len)), .val .null, .unset] [.ref s.heap.size])) := g8
  have c10 : Steps p.tables e below (s₁.setTop (entryFrame m #[.ref a, .ref b, .int (Int32.ofNat o), .int (Int32.ofNat len), .null] 6)) (T8.setTop (mkF m 45 #[.val (.ref a), .val (.ref b), .val (.int (Int32.ofNat o)), .val (.int (Int32.ofNat len)), .val .null, .val (.ref s.heap.size)] [.int (Int32.ofNat N.slots.size), .ref s.heap.size, .ref a])) := by
    have hc : Steps p.tables e below (s₁.setTop (entryFrame m #[.ref a, .ref b, .int (Int32.ofNat o), .int (Int32.ofNat len), .null] 6)) (T8.setTop (mkF m 45 #[.val (.ref a), .val (.ref b), .val (.int (Int32.ofNat o)), .val (.int (Int32.ofNat len)), .val .null, .val (.ref s.heap.size)] [.int (Int32.ofNat len), .ref s.heap.size, .ref a])) := c9.trans (by
      refine XS.astore X8.here hexec rfl (hb hbytes d39) rfl rfl rfl ?_
      refine XS.aloadN X8.here hexec rfl (hb hbytes d41) rfl rfl ?_
      refine XS.aload X8.here hexec rfl (hb hbytes d42) rfl rfl ?_
      refine XS.iloadN X8.here hexec rfl (hb hbytes d44) rfl ?_
      exact Steps.refl _)
    rw [n4]; exact hc
  obtain ⟨v11, T11, X11, E11, g11⟩ := X8.callS hexec (CodL.law l s.heap.size N) hown (wks W (staticW "java/lang/String" 47 CodL.yN)) (wk W CodL.tab) (W := 1) (Nat.le_of_ble_eq_true rfl) (Nat.le_of_ble_eq_true rfl) (Nat.le_refl _) (by show 0 + len + 0 ≤ len; omega) (g := (mkF m 45 #[.val (.ref a), .val (.ref b), .val (.int (Int32.ofNat o)), .val (.int (Int32.ofNat len)), .val .null, .val (.ref s.heap.size)] [.int (Int32.ofNat N.slots.size), .ref s.heap.size, .ref a])) rfl (by rw [hml]; rfl) c10 (argsL := [.ref s.heap.size, .int (Int32.ofNat N.slots.size)]) (rest := [.ref a]) rfl rfl (by show 2 * 0 + (1 + 0) ≤ _; decide) (hb hbytes d45) (⟨rfl, n1⟩)
  obtain ⟨rfl, q11⟩ := E11
  have hB11 := hB1.mv (X8.warmed.alike.symm.trans X11.warmed.alike) q11
  have c12 : Steps p.tables e below (s₁.setTop (entryFrame m #[.ref a, .ref b, .int (Int32.ofNat o), .int (Int32.ofNat len), .null] 6)) (T11.setTop (mkF m 48 #[.val (.ref a), .val (.ref b), .val (.int (Int32.ofNat o)), .val (.int (Int32.ofNat len)), .val .null, .val (.ref s.heap.size)] [.int 0, .ref a])) := g11
  obtain ⟨T13, X13, p13, bl13, sl13, st13⟩ := X11.finit hexec hown (wk W (.fieldLink "java/lang/String" 15 "java/lang/String" "coder" "B")) (Or.inr ⟨_, (wk W (.laysFinal "java/lang/String" "java/lang/String" "coder" "B"))⟩) (Or.inl ⟨rfl, hnm⟩) f2 (Or.inl rfl) hB11 (t := .byte) (by decide +kernel) rfl (g := (mkF m 48 #[.val (.ref a), .val (.ref b), .val (.int (Int32.ofNat o)), .val (.int (Int32.ofNat len)), .val .null, .val (.ref s.heap.size)] [.int 0, .ref a])) rfl (rest := []) rfl (hb hbytes d48)
  have c14 : Steps p.tables e below (s₁.setTop (entryFrame m #[.ref a, .ref b, .int (Int32.ofNat o), .int (Int32.ofNat len), .null] 6)) (T13.setTop (mkF m 54 #[.val (.ref a), .val (.ref b), .val (.int (Int32.ofNat o)), .val (.int (Int32.ofNat len)), .val .null, .val (.ref s.heap.size)] [.ref s.heap.size, .ref a])) := (c12.trans (st13 _ (Steps.refl _))).trans (by
    refine XS.aloadN X13.here hexec rfl (hb hbytes d51) rfl rfl ?_
    refine XS.aload X13.here hexec rfl (hb hbytes d52) rfl rfl ?_
    exact Steps.refl _)
  obtain ⟨T15, X15, p15, bl15, sl15, st15⟩ := X13.finit hexec hown (wk W (.fieldLink "java/lang/String" 9 "java/lang/String" "value" "[B")) (Or.inr ⟨_, (wk W (.laysFinal "java/lang/String" "java/lang/String" "value" "[B"))⟩) (Or.inl ⟨rfl, hnm⟩) f1 (Or.inl rfl) bl13 (t := (.array .byte)) (by decide +kernel) rfl (g := (mkF m 54 #[.val (.ref a), .val (.ref b), .val (.int (Int32.ofNat o)), .val (.int (Int32.ofNat len)), .val .null, .val (.ref s.heap.size)] [.ref s.heap.size, .ref a])) rfl (rest := []) rfl (hb hbytes d54)
  have c16 : Steps p.tables e below (s₁.setTop (entryFrame m #[.ref a, .ref b, .int (Int32.ofNat o), .int (Int32.ofNat len), .null] 6)) (T15.setTop (mkF m 57 #[.val (.ref a), .val (.ref b), .val (.int (Int32.ofNat o)), .val (.int (Int32.ofNat len)), .val .null, .val (.ref s.heap.size)] [])) := c14.trans (st15 _ (Steps.refl _))
  have ap := apart (Or.inr ⟨_, (wk W (.laysFinal "java/lang/String" "java/lang/String" "value" "[B"))⟩) (Or.inr ⟨_, (wk W (.laysFinal "java/lang/String" "java/lang/String" "coder" "B"))⟩) f1 f2 (t₁ := .array .byte) (t₂ := .byte) (by decide +kernel) (by decide +kernel) (by decide)
  have al := X8.warmed.alike.symm.trans X15.warmed.alike
  have n7 : T11.heap[s.heap.size]? = some N := by rw [q11]; exact n1.1
  exact ⟨T15, none, _, _, _, X15, by simp, rfl, by omega, (fun _ => rfl), ⟨rfl, _, N, bl15, ((Same.refl D _).set _ (by simp)).set _ (by simp), sl15, (Cell.slots_setSlot_ne _ ap).trans sl13, n1.keep al (p15.other hne (p13.other hne n7)), n2, by rw [al.findClass]; exact n3, n4, n5, fun y c h1 h2 => p15.other h1 (p13.other h1 (by rw [q11]; exact n6 y c h2)), by rw [p15.2.2, p13.2.2, q11]; exact z8⟩, fun fs hl => c16.trans (X15.returnOut hexec hret (hb hbytes d57) hl)⟩
end New4
namespace New1
def yN : MethodName := ⟨"java/lang/String", "<init>", "([C)V"⟩
abbrev yB : ByteArray := jdk_42_method_3_code
theorem d0 : decode yB 0 = .ok (.aload_n 0, 1) := by decide +kernel
theorem d1 : decode yB 1 = .ok (.aload_n 1, 1) := by decide +kernel
theorem d2 : decode yB 2 = .ok (.iconst 0, 1) := by decide +kernel
theorem d3 : decode yB 3 = .ok (.aload_n 1, 1) := by decide +kernel
theorem d4 : decode yB 4 = .ok (.arraylength, 1) := by decide +kernel
theorem d5 : decode yB 5 = .ok (.aconst_null, 1) := by decide +kernel
theorem d6 : decode yB 6 = .ok (.invokespecial 27, 3) := by decide +kernel
theorem d9 : decode yB 9 = .ok (.return_, 1) := by decide +kernel
def site : List Cond := [New4.tab] ++ initW "java/lang/String" 27 New4.yN
def tab : Cond := tabOf yN yB 2 none site
def P (a : Addr) (D : Cell) (fV fC : Field) (b : Addr) (A : Cell) (z : Int32) (args : Array Value) (s : State) : Prop := args = #[.ref a, .ref b] ∧ Blank "java/lang/String" a D s ∧ Found "java/lang/String" "value" "[B" fV s ∧ Found "java/lang/String" "coder" "B" fC s ∧ Ch b A s ∧ StaticIs s "java/lang/String" "COMPACT_STRINGS" "Z" (.int z) ∧ ¬ z = 0 ∧ 0 < A.slots.size ∧ A.slots.size ≤ 536870912 ∧ ∀ i, i < A.slots.size → ¬ 255 < cv A i
def E (a : Addr) (D : Cell) (fV fC : Field) (A : Cell) (r : Option Value) (s u : State) : Prop := Got a D fV fC A 0 A.slots.size r s u
/-- new String(chars), not empty, no char above 255: a Latin-1 String of their low bytes -/
theorem law (l : Launch) (a : Addr) (D : Cell) (fV fC : Field) (b : Addr) (A : Cell) (z : Int32) : Law l yN 2 1 3 52 yB 2 none site (P a D fV fC b A z) (E a D fV fC A) [⟨a, fC.slot⟩, ⟨a, fV.slot⟩] 1 A.slots.size := by
  refine Law.of_walk (plainFor_of_name (by decide +kernel)) (by decide +kernel) (by decide +kernel) (by decide) (fun _ _ h => by rw [h.1]; rfl) (fun _ U U' hal hh h => ⟨h.1, h.2.1.mv hal hh, h.2.2.1.al hal, h.2.2.2.1.al hal, h.2.2.2.2.1.mv hal hh, h.2.2.2.2.2.1.there hal hh, h.2.2.2.2.2.2⟩) (fun r U U' V V' h1 hal h2 h => Got.mv r U U' V V' h1 hal h2 h) ?_
  intro p e s m args below meth c s₁ X0 hexec hbytes hml hret hlk hnm hown hh0 W hP
  obtain ⟨rfl, hB, f1, f2, hA, s1, hz, l0, l2, hp⟩ := hP
  have c1 : Steps p.tables e below (s₁.setTop (entryFrame m #[.ref a, .ref b] 2)) (s₁.setTop (mkF m 0 #[.val (.ref a), .val (.ref b)] [])) := entry rfl
  have c2 : Steps p.tables e below (s₁.setTop (entryFrame m #[.ref a, .ref b] 2)) (s₁.setTop (mkF m 6 #[.val (.ref a), .val (.ref b)] [.null, .int (Int32.ofNat A.slots.size), .int 0, .ref b, .ref a])) := c1.trans (by
    refine XS.aloadN X0.here hexec rfl (hb hbytes d0) rfl rfl ?_
    refine XS.aloadN X0.here hexec rfl (hb hbytes d1) rfl rfl ?_
    refine iconstV X0.here hexec rfl 0 (hb hbytes d2) (by decide) ?_
    refine XS.aloadN X0.here hexec rfl (hb hbytes d3) rfl rfl ?_
    refine X0.alen hexec (hA.1.mv X0.warmed.alike hh0) rfl rfl (hb hbytes d4) ?_
    refine XS.aconstNull X0.here hexec rfl (hb hbytes d5) ?_
    exact Steps.refl _)
  obtain ⟨v3, T3, X3, E3, g3⟩ := X0.callN hexec (New4.law l a D fV fC b A z 0 A.slots.size) rfl hown (wks W (initW "java/lang/String" 27 New4.yN)) (W New4.tab (by simp only [site, List.mem_cons, List.mem_append, true_or, or_true])) (W := 0) (Nat.le_of_ble_eq_true rfl) (Nat.le_of_ble_eq_true rfl) (Nat.le_refl _) (by show 0 + A.slots.size ≤ A.slots.size; omega) (g := (mkF m 6 #[.val (.ref a), .val (.ref b)] [.null, .int (Int32.ofNat A.slots.size), .int (Int32.ofNat 0), .ref b, .ref a])) rfl (by rw [hml]; rfl) c2 (argsL := [.ref b, .int (Int32.ofNat 0), .int (Int32.ofNat A.slots.size), .null]) (rest := []) rfl rfl (by show 2 * 0 + 0 ≤ _; decide) (hb hbytes d6) (⟨rfl, hB.mv X0.warmed.alike hh0, f1.al X0.warmed.alike, f2.al X0.warmed.alike, hA.mv X0.warmed.alike hh0, s1.there X0.warmed.alike hh0, hz, l0, by omega, l2, fun i hi => by rw [Nat.zero_add]; exact hp i hi⟩)
  have e0 := Got.mv _ s₁ s _ _ hh0.symm (Vm.Alike.refl _) rfl E3
  obtain rfl := e0.1
  have c4 : Steps p.tables e below (s₁.setTop (entryFrame m #[.ref a, .ref b] 2)) (T3.setTop (mkF m 9 #[.val (.ref a), .val (.ref b)] [])) := g3
  exact ⟨T3, none, _, _, _, X3, by simp, rfl, by omega, (fun _ => rfl), e0, fun fs hl => c4.trans (X3.returnOut hexec hret (hb hbytes d9) hl)⟩
theorem pays {l : Launch} {R : Room} {p : Program} {e : Env} {below : List Frame} {s : State} {sargs : Array Value} {len W : Nat} (a : Addr) (D : Cell) (fV fC : Field) (b : Addr) (A : Cell) (z : Int32) (htab : tab.before sargs s = true) (hfr : 4 ≤ R.frames) (hlo : W + 65 ≤ R.locals) :
    Back l R p e below s sargs yN len W (fun A₁ a₁ => A₁.cells + 1 ≤ R.cells ∧ A₁.slots + A.slots.size ≤ R.slots ∧ P a D fV fC b A z a₁ A₁.U) (fun A₁ _ v₁ B₁ => E a D fV fC A v₁ A₁.U B₁.U ∧ B₁.locs = A₁.locs ++ [⟨a, fC.slot⟩, ⟨a, fV.slot⟩] ∧ B₁.cells = A₁.cells + 1 ∧ B₁.slots = A₁.slots + A.slots.size) :=
  (law l a D fV fC b A z).pays htab hfr (by omega)
end New1
end StrChars
namespace StrChars.Road
open Jvm Sem ClassFile Op Lib Jvm.Stand Jvm.Free Jvm.Free.XT
open Jvm.Lib.Cold (StaticIs)
abbrev ST : String := "java/lang/String"
/-- every table word that New1's law asks, flat -/
abbrev words : List Jvm.Cond := [.code New1.yN New1.yB 2 none, .initialized ST, .methodLink ST 27 New4.yN, .instanceMethod New4.yN,
  .code New4.yN New4.yB 6 none, .fieldLink ST 38 ST "COMPACT_STRINGS" "Z", .laysFinal ST ST "value" "[B", .fieldLink ST 9 ST "value" "[B", .laysFinal ST ST "coder" "B", .fieldLink ST 15 ST "coder" "B",
  .methodLink ST 1 Lib.objectInit, .instanceMethod Lib.objectInit, .code Lib.objectInit ⟨#[0xb1]⟩ 1 none, .methodLink ST 177 Cmp3.yN, .static Cmp3.yN, .methodLink ST 47 CodL.yN, .static CodL.yN,
  .code Cmp3.yN Cmp3.yB 6 (some (.array .byte)), .initialized U16, .arrayClass .byte, .methodLink U16 115 Cmp5.yN, .static Cmp5.yN, .code Cmp5.yN Cmp5.yB 7 (some .int), .code CodL.yN CodL.yB 2 (some .byte)]
theorem tab_of {a : Array Value} {s : State} (h : ∀ w ∈ words, w.before a s = true) : New1.tab.before a s = true := by
  have h5 : Cmp5.tab.before a s = true := unparts (wk h (.code Cmp5.yN Cmp5.yB 7 (some .int))) (wks h (.initialized Cmp5.yN.cls :: Cmp5.site))
  have hc : CodL.tab.before a s = true := unparts (wk h (.code CodL.yN CodL.yB 2 (some .byte))) (wks h (.initialized CodL.yN.cls :: CodL.site))
  have q5 : ∀ w ∈ Cmp5.tab :: words, w.before a s = true := fun w hw => (List.mem_cons.mp hw).elim (fun e => e ▸ h5) (h w)
  have h3 : Cmp3.tab.before a s = true := unparts (wk q5 (.code Cmp3.yN Cmp3.yB 6 (some (.array .byte)))) (wks q5 (.initialized Cmp3.yN.cls :: Cmp3.site))
  have q3 : ∀ w ∈ Cmp3.tab :: CodL.tab :: words, w.before a s = true := fun w hw => (List.mem_cons.mp hw).elim (fun e => e ▸ h3) fun hw => (List.mem_cons.mp hw).elim (fun e => e ▸ hc) (h w)
  have h4 : New4.tab.before a s = true := unparts (wk q3 (.code New4.yN New4.yB 6 none)) (wks q3 (.initialized New4.yN.cls :: New4.site))
  have q4 : ∀ w ∈ New4.tab :: words, w.before a s = true := fun w hw => (List.mem_cons.mp hw).elim (fun e => e ▸ h4) (h w)
  exact unparts (wk q4 (.code New1.yN New1.yB 2 none)) (wks q4 (.initialized New1.yN.cls :: New1.site))
/-- the words ride from the start Z to the walk's own state -/
theorem moved {Z s : State} {a0 args : Array Value} (hZ : Z.Warmed39 s.vm) (hw : ∀ d ∈ words, d.before a0 Z = true) : ∀ d ∈ words, d.before args s = true := fun d hd => by
  have q := hw d hd
  have t : ∀ d ∈ words, d = .arrayClass .byte ∨ (d.onTables && d.keepsFace) = true := by decide +kernel
  rcases t d hd with rfl | t
  · exact RoadKit.mvA hZ q
  · exact RoadKit.mv hZ q t
/-- WHAT COMES BACK, over the tables of the start Z: h the heap at the call, h' behind it -/
def Q (Z : State) (x : Addr) (A : Cell) (h : Heap) (v : Option Value) (h' : Heap) (L : List Loc) : Prop := v = none ∧ (∀ y ∈ L, y.base = x) ∧ RoadKit.Keep h h' [x] ∧ h'.size = h.size + 1 ∧ RoadKit.Exa Z h' x ST ∧ RoadKit.Fld Z h' x ST "value" "[B" (.ref h.size) ∧ RoadKit.Fld Z h' x ST "coder" "B" (.int 0) ∧
  (∃ V : Cell, RoadKit.Arr Z h' h.size V .byte ∧ V.vm = .none ∧ Z.vm.findClass "[B" = some V.cls ∧ V.slots.size = A.slots.size ∧ ∀ j, j < A.slots.size → V.slots[j]? = some (.int (lo8 (cv A j)))) ∧
  ∀ (O n d : String) (w : Value), RoadKit.Fld Z h x O n d w → RoadKit.slotOf Z O n d ≠ RoadKit.slotOf Z ST "value" "[B" → RoadKit.slotOf Z O n d ≠ RoadKit.slotOf Z ST "coder" "B" → RoadKit.Fld Z h' x O n d w
/-- **new String(chars) AT A CALL, IN THE ROAD'S FORM**: for specialBack behind newO: x the fresh String, b the char[] with the cell A -/
theorem back {p : Program} {l : Launch} {e : Env} {R : Room} {s : State} {args : Array Value} {below : List Frame} {len W : Nat} {Z : State} {a0 : Array Value} {h : Heap} (hZ : Z.Warmed39 s.vm) (hw : ∀ d ∈ words, d.before a0 Z = true) {kI : Nat} (wi : (Jvm.Cond.instantiable ST kI).before a0 Z = true)
    {x b : Addr} {A : Cell} {z : Int32} {v0 c0 : Value} (E : RoadKit.Exa Z h x ST) (V : RoadKit.Fld Z h x ST "value" "[B" v0) (C : RoadKit.Fld Z h x ST "coder" "B" c0) (K : RoadKit.Arr Z h b A .char) (hty : Typed .char A) (S : RoadKit.Sta Z h ST "COMPACT_STRINGS" "Z" (.int z)) (hz : ¬ z = 0)
    (l0 : 0 < A.slots.size) (l2 : A.slots.size ≤ 536870912) (hp : ∀ i, i < A.slots.size → ¬ 255 < cv A i) (hfr : 4 ≤ R.frames) (hlo : W + 65 ≤ R.locals) :
    Back l R p e below s args New1.yN len W (fun P a => a = #[.ref x, .ref b] ∧ P.U.heap = h ∧ P.cells + 1 ≤ R.cells ∧ P.slots + A.slots.size ≤ R.slots)
      (fun P _ v B => ∃ L, Q Z x A h v B.U.heap L ∧ B.locs = P.locs ++ L ∧ B.cells = P.cells + 1 ∧ B.slots = P.slots + A.slots.size) := by
  intro m meth c P g ig mk a X hg hsize hdg hW hn hp'
  obtain ⟨rfl, rfl, r1, r2⟩ := hp'
  have al : Z.vm.Alike P.U.vm := hZ.alike.trans X.warmed.alike
  obtain ⟨D, cfV, kV, iV, fV, hD, gV, stV, knV, obV, asV, slV⟩ := id V
  obtain ⟨D', cfC, kC, iC, fC, hD', gC, stC, -, -, asC, slC⟩ := id C
  cases hD.symm.trans hD'
  obtain ⟨D2, kD, e1, e2, e3, e4, e5⟩ := id E
  cases hD.symm.trans e1
  obtain ⟨c2, k2, i1, i2, i3, -⟩ := Cond.instantiable_spec wi
  cases e2.symm.trans i1
  cases e3.symm.trans i2
  obtain ⟨kU, u1, u2⟩ := al.2.2 _ _ e3
  have hB : Blank ST x D P.U := ⟨hD, ⟨knV, fun q hq => by rw [hq] at obV; cases obV⟩, by rw [al.findClass]; exact e2, kU, u1, by rw [u2]; exact i3, by rw [u2]; exact e5 i3⟩
  have F1 : Found ST "value" "[B" fV P.U := ⟨SBG.found_only al ⟨cfV, kV, iV, gV⟩, stV⟩
  have F2 : Found ST "coder" "B" fC P.U := ⟨SBG.found_only al ⟨cfC, kC, iC, gC⟩, stC⟩
  have hA : Ch b A P.U := ⟨⟨K.1, State.isArrayOf_alike al K.2.1, K.2.2, by omega⟩, hty⟩
  have hS : StaticIs P.U ST "COMPACT_STRINGS" "Z" (.int z) := by
    obtain ⟨cfS, iS, kS, fS, st, cS, t1, t2, t3, t4, t5, t6, t7⟩ := S
    exact StaticIs.there (s := { Z with heap := P.U.heap }) ⟨cfS, iS, kS, fS, st, cS, t1, t2, t3, t4, t5, (fun q => by rw [q] at t6; cases t6), t7⟩ al rfl
  obtain ⟨v, B, X', ⟨⟨hv, E', V', q1, q2, q3, q4, q5, q6, q7, q8, q9, q10, q11⟩, hl, hc, hs⟩, st⟩ := New1.pays x D fV fC b A z (tab_of (moved hZ hw)) hfr hlo m meth c P g ig mk _ X hg hsize hdg hW hn ⟨r1, r2, rfl, hB, F1, F2, hA, hS, hz, l0, l2, hp⟩
  have al' : Z.vm.Alike B.U.vm := hZ.alike.trans X'.warmed.alike
  have hsz : E'.slots.size = D.slots.size := by
    obtain ⟨-, -, -, kB, w1, w2, w3⟩ := q1
    obtain ⟨kB', y1, y2⟩ := al'.2.2 _ _ e3
    rw [q2.2.1] at w1
    cases w1.symm.trans y1
    rw [w3, e5 i3, y2]
  refine ⟨v, B, X', ⟨_, ⟨hv, ?_, ⟨by omega, fun y cy hy hn' => q10 y cy (by simpa using hn') hy, fun y cy hy => ?_⟩, q11, ⟨E', _, q1.1, by rw [q2.2.1]; exact e2, by rw [q2.2.1]; exact e3, by rw [q2.1]; exact obV, fun _ => by rw [hsz]; exact e5 i3⟩,
    ⟨E', cfV, kV, iV, fV, q1.1, gV, stV, by rw [q2.1]; exact knV, by rw [q2.1]; exact obV, by rw [q2.2.1]; exact asV, q3⟩, ⟨E', cfC, kC, iC, fC, q1.1, gC, stC, by rw [q2.1]; exact knV, by rw [q2.1]; exact obV, by rw [q2.2.1]; exact asC, q4⟩,
    ⟨V', ⟨q5.1, State.isArrayOf_alike al'.symm q5.2.1, q5.2.2.1⟩, q6, by rw [← al'.findClass]; exact q7, q8, fun j hj => by have := q9 j hj; rwa [Nat.zero_add] at this⟩, fun O n d w F n1 n2 => ?_⟩, hl, hc, hs⟩, st⟩
  · intro y hy
    simp only [List.mem_cons, List.not_mem_nil, or_false] at hy
    rcases hy with rfl | rfl <;> rfl
  · by_cases q : y = x
    · subst q
      cases hD.symm.trans hy
      exact ⟨E', q1.1, q2.2.1, q2.1, hsz⟩
    · exact ⟨cy, q10 y cy q hy, rfl, rfl, rfl⟩
  · obtain ⟨D3, cf, k, i, f, g1, g2, g3, g4, g5, g6, g7⟩ := F
    cases hD.symm.trans g1
    simp only [RoadKit.slotOf, g2, gV, gC, Option.map_some, Option.getD_some] at n1 n2
    exact ⟨E', cf, k, i, f, q1.1, g2, g3, by rw [q2.1]; exact g4, by rw [q2.1]; exact g5, by rw [q2.2.1]; exact g6, by rw [q2.2.2 f.slot (by simp [n1, n2])]; exact g7⟩
end StrChars.Road
namespace StrChars.Road
open Jvm Sem ClassFile Op Lib Jvm.Stand Jvm.Free Jvm.Free.XT
/-- WHAT COMES BACK, the byte[] as a list of values -/
def QA (Z : State) (x : Addr) (zn : Int32) (cs : List Int32) (h : Heap) (v : Option Value) (h' : Heap) (L : List Loc) : Prop := v = none ∧ (∀ y ∈ L, y.base = x) ∧ RoadKit.Keep h h' [x] ∧ h'.size = h.size + 1 ∧ RoadKit.Exa Z h' x ST ∧ RoadKit.Fld Z h' x ST "value" "[B" (.ref h.size) ∧ RoadKit.Fld Z h' x ST "coder" "B" (.int 0) ∧
  (∃ kb, Z.vm.findClass "[B" = some kb ∧ RoadKit.Arv Z h' h.size kb .byte zn (cs.map fun c => .int (lo8 c)) (.int 0)) ∧
  ∀ (O n d : String) (w : Value), RoadKit.Fld Z h x O n d w → RoadKit.slotOf Z O n d ≠ RoadKit.slotOf Z ST "value" "[B" → RoadKit.slotOf Z O n d ≠ RoadKit.slotOf Z ST "coder" "B" → RoadKit.Fld Z h' x O n d w
/-- **new String(chars) AT A CALL, THE ARRAYS AS LISTS**: the char[] at b holds cs, not empty, no char above 255 -/
theorem backArv {p : Program} {l : Launch} {e : Env} {R : Room} {s : State} {args : Array Value} {below : List Frame} {len W : Nat} {Z : State} {a0 : Array Value} {h : Heap} (hZ : Z.Warmed39 s.vm) (hw : ∀ d ∈ words, d.before a0 Z = true) {kI : Nat} (wi : (Jvm.Cond.instantiable ST kI).before a0 Z = true)
    {x b : Addr} {k : ClassId} {zn z : Int32} {cs : List Int32} {dv v0 c0 : Value} (E : RoadKit.Exa Z h x ST) (V : RoadKit.Fld Z h x ST "value" "[B" v0) (C : RoadKit.Fld Z h x ST "coder" "B" c0) (K : RoadKit.Arv Z h b k .char zn (cs.map Value.int) dv) (S : RoadKit.Sta Z h ST "COMPACT_STRINGS" "Z" (.int z)) (hz : ¬ z = 0)
    (hlen : zn.toNatClampNeg = cs.length) (h0 : 0 < cs.length) (hbig : cs.length ≤ 536870912) (hall : ∀ c ∈ cs, ¬ 255 < c) (hfr : 4 ≤ R.frames) (hlo : W + 65 ≤ R.locals) :
    Back l R p e below s args New1.yN len W (fun P a => a = #[.ref x, .ref b] ∧ P.U.heap = h ∧ P.cells + 1 ≤ R.cells ∧ P.slots + cs.length ≤ R.slots)
      (fun P _ v B => ∃ L, QA Z x zn cs h v B.U.heap L ∧ B.locs = P.locs ++ L ∧ B.cells = P.cells + 1 ∧ B.slots = P.slots + cs.length) := by
  obtain ⟨A, K1, K2, K3, K4, K5, K6⟩ := K
  have e : A.slots.size = cs.length := K3.trans hlen
  have hat : ∀ (i : Nat) (hi : i < cs.length), A.slots[i]? = some (.int cs[i]) := fun i hi => by rw [K5 i (by omega)]; simp [List.getD_eq_getElem?_getD, hi]
  have hcv : ∀ (i : Nat) (hi : i < cs.length), cv A i = cs[i] := fun i hi => by unfold cv; rw [hat i hi]
  have hty : Typed .char A := fun i v hv => by
    have hi : i < A.slots.size := (Array.getElem?_eq_some_iff.mp hv).1
    have q := K5 i hi
    rw [hv] at q
    rw [Option.some.inj q]
    exact K6 i hi
  refine Back.mono (back hZ hw wi E V C K1 hty S hz (by omega) (by omega) (fun i hi => by rw [hcv i (by omega)]; exact hall _ (List.getElem_mem _)) hfr hlo) (fun P a hp => ⟨hp.1, hp.2.1, hp.2.2.1, by rw [e]; exact hp.2.2.2⟩) (fun P a v B hp hq => ?_)
  obtain ⟨L, ⟨q1, q2, q3, q4, q5, q6, q7, ⟨V', v1, v2, v3, v4, v5⟩, q9⟩, hl, hc, hs⟩ := hq
  refine ⟨L, ⟨q1, q2, q3, q4, q5, q6, q7, ⟨V'.cls, v3, V', v1, rfl, by rw [v4, e, hlen], K4, fun i hi => ?_, fun i hi => ?_⟩, q9⟩, hl, hc, by rw [hs, e]⟩
  · have hi' : i < cs.length := by omega
    rw [v5 i (by omega), hcv i hi']; simp [List.getD_eq_getElem?_getD, hi']
  · have hi' : i < cs.length := by omega
    simp only [List.getD_eq_getElem?_getD, List.getElem?_map, List.getElem?_eq_getElem hi', Option.map_some, Option.getD_some]
    exact fits_lo8 _
end StrChars.Road
namespace StrChars.Road
open Jvm Sem ClassFile Op Lib Jvm.Stand Jvm.Free Jvm.Free.XT
/-- WHAT COMES BACK, in the writer's own shape -/
def QV (Z : State) (x : Addr) (N : Int32) (bs : List Int32) (h : Heap) (n0 : Nat) (v : Option Value) (h' : Heap) (L : List Loc) : Prop := v = none ∧ RoadKit.Fr n0 L ∧ RoadKit.Keep h h' [x] ∧ RoadKit.Exa Z h' x ST ∧ RoadKit.Fld Z h' x ST "coder" "B" (.int 0) ∧
  ∃ (t : Addr) (kb : ClassId), n0 ≤ t ∧ h.size ≤ t ∧ ¬ t = x ∧ RoadKit.Fld Z h' x ST "value" "[B" (.ref t) ∧ RoadKit.Arv Z h' t kb .byte N (bs.map Value.int) (.int 0)
/-- **new String(chars) AT A CALL, FOR THE WRITER**: a char[] of n known ints, each 0 to 255 -/
theorem backV {p : Program} {l : Launch} {e : Env} {R : Room} {s : State} {args : Array Value} {below : List Frame} {len W : Nat} {Z : State} {a0 : Array Value} {h : Heap} (hZ : Z.Warmed39 s.vm) (hw : ∀ d ∈ words, d.before a0 Z = true) {kI : Nat} (wi : (Jvm.Cond.instantiable ST kI).before a0 Z = true)
    {x b : Addr} {kC : ClassId} {cs bs : List Int32} {d v0 c0 : Value} {z N : Int32} {n n0 : Nat} (hx0 : n0 ≤ x) (hh0 : n0 ≤ h.size) (E : RoadKit.Exa Z h x ST) (V : RoadKit.Fld Z h x ST "value" "[B" v0) (C : RoadKit.Fld Z h x ST "coder" "B" c0) (K : RoadKit.Arv Z h b kC .char N (cs.map Value.int) d) (S : RoadKit.Sta Z h ST "COMPACT_STRINGS" "Z" (.int z)) (hz : ¬ z = 0)
    (hn : cs.length = n) (hN : N = Int32.ofNat n) (l0 : 0 < n) (l2 : n ≤ 4000) (hp : ∀ c ∈ cs, ¬ c < 0 ∧ ¬ (255 : Int32) < c) (hb : bs = cs.map (fun c => c.toInt8.toInt32)) (hfr : 4 ≤ R.frames) (hlo : W + 65 ≤ R.locals) :
    Back l R p e below s args (⟨"java/lang/String", "<init>", "([C)V"⟩ : MethodName) len W (fun P a => a = #[.ref x, .ref b] ∧ P.U.heap = h ∧ P.cells + 1 ≤ R.cells ∧ P.slots + n ≤ R.slots)
      (fun P _ v B => ∃ L, QV Z x N bs h n0 v B.U.heap L ∧ B.locs = P.locs ++ L ∧ B.cells = P.cells + 1 ∧ B.slots = P.slots + n) := by
  subst hn hN hb
  refine Back.mono (backArv hZ hw wi E V C K S hz (n32 (by omega)) l0 (by omega) (fun c hc => (hp c hc).2) hfr hlo) (fun P a hp => hp) (fun P a v B hp hq => ?_)
  obtain ⟨L, ⟨q1, q2, q3, q4, q5, q6, q7, ⟨kb, v1, v2⟩, q9⟩, hl, hc, hs⟩ := hq
  exact ⟨L, ⟨q1, fun y hy => by rw [q2 y hy]; exact hx0, q3, q5, q7, h.size, kb, hh0, Nat.le_refl _, Nat.ne_of_gt E.lt, q6, by rw [List.map_map]; exact v2⟩, hl, hc, hs⟩
end StrChars.Road
end Jvm.Pilot.@@N@@

namespace Jvm.Pilot.@@N@@
open Jvm Jvm.ClassFile Sem Op Lib Jvm.Free Jvm.Stand Jvm.LawKit Jvm.RoadKit Bundle Jvm.Pilot.@@N@@.Jvm.D
/-! the walk in continuation form: from T with the frame g on top the run comes to an end that says Q -/
def Go (p : Program) (e : Env) (below : List Frame) (s : State) (C S : Nat) (Q : Option Value → Heap → List Loc → Prop) (T : State) (g : JFrame) : Prop :=
  ∃ s₂ o, Steps p.tables e below (T.setTop g) s₂ ∧ s₂.status = .running ∧ Ended s₂ below o ∧ ∃ v L, o = .returned v ∧ Q v s₂.heap L ∧ FrameEnd s o s₂ L C S
section GoKit
variable {p : Program} {l : Launch} {e : Env} {R : Room} {s : State} {m : MethodId} {args : Array Value} {below : List Frame} {meth : Method} {c : Code} {T T' : State} {g g' : JFrame} {locs : List Loc} {cells slots C S : Nat} {Q : Option Value → Heap → List Loc → Prop} {Z : State} {h h' : Heap} {n0 : Nat}
theorem Go.st (st : ∀ t, Steps p.tables e below (T'.setTop g') t → Steps p.tables e below (T.setTop g) t) (k : Go p e below s C S Q T' g') : Go p e below s C S Q T g := by
  obtain ⟨s₂, o, h1, h2⟩ := k; exact ⟨s₂, o, st _ h1, h2⟩
theorem Go.tr (st : Steps p.tables e below (T.setTop g) (T'.setTop g')) (k : Go p e below s C S Q T' g') : Go p e below s C S Q T g := by
  obtain ⟨s₂, o, h1, h2⟩ := k; exact ⟨s₂, o, st.trans h1, h2⟩
theorem Go.eq (q : g = g') (k : Go p e below s C S Q T g') : Go p e below s C S Q T g := q ▸ k
theorem Go.fin (X : Stand p l e R s m args below meth c T locs cells slots) (hlk : meth.locks = false) {v : Option Value} (hv : meth.sig.returnType = none → v = none) (hc : cells ≤ C) (hs : slots ≤ S) (q : Q v T.heap locs)
    (k : ∀ fs, (∀ (f : JFrame) (acts : List Action), f.method = m → f.locked = none → f.entered = [] → (doReturn e (T.setTop f) acts v).1 = T.setFrames fs) → Steps p.tables e below (T.setTop g) (T.setFrames fs)) : Go p e below s C S Q T g := by
  obtain ⟨fs, hr, hrun, hended, hW, hsame⟩ := X.leave (v := v) hv hlk
  exact ⟨_, _, k fs hr, hrun, hended, _, _, rfl, q, ⟨_, rfl⟩, hW, hsame.mono hc hs⟩
theorem Go.retN (X : Stand p l e R s m args below meth c T locs cells slots) (hlk : meth.locks = false) (hx : p.tables.exec = Jvm.exec) {pc : Nat} {Ls : Array Slot} {z z' : Int32} {t : FieldType} {rest : List Value} (hret : meth.sig.returnType = some t) (ht : t = .boolean ∨ t = .byte ∨ t = .char ∨ t = .short)
    (hd : decode c.code pc = .ok (.ireturn, 1)) (hc : cells ≤ C) (hs : slots ≤ S) (hz : nar t z = z') (q : Q (some (.int z')) T.heap locs) : Go p e below s C S Q T (mkF m pc Ls (.int z :: rest)) := by
  subst hz
  exact Go.fin X hlk (fun h => by rw [hret] at h; cases h) hc hs q fun fs hr => Jvm.RoadKit.retN X hx hret ht hd hr
theorem Go.retV (X : Stand p l e R s m args below meth c T locs cells slots) (hlk : meth.locks = false) (hx : p.tables.exec = Jvm.exec) {pc : Nat} {Ls : Array Slot} {w : Value} {t : FieldType} {i : Instr} {rest : List Value} (hret : meth.sig.returnType = some t) (hn : narrow t w = w)
    (hi : (i = .ireturn ∧ (t = .int ∨ t = .boolean ∨ t = .byte ∨ t = .char ∨ t = .short) ∧ ∃ z, w = .int z) ∨ (i = .lreturn ∧ t = .long ∧ ∃ z, w = .long z) ∨ (i = .dreturn ∧ t = .double ∧ ∃ z, w = .double z) ∨ (i = .freturn ∧ t = .float ∧ ∃ z, w = .float z) ∨ (i = .areturn ∧ t.isReference = true ∧ w.isRef = true))
    (hd : decode c.code pc = .ok (i, 1)) (hc : cells ≤ C) (hs : slots ≤ S) (q : Q (some w) T.heap locs) : Go p e below s C S Q T (mkF m pc Ls (w :: rest)) :=
  Go.fin X hlk (fun h => by rw [hret] at h; cases h) hc hs q fun fs hr => Jvm.RoadKit.retOut X hx hret hn hi hd hr
theorem Go.retR (X : Stand p l e R s m args below meth c T locs cells slots) (hlk : meth.locks = false) (hx : p.tables.exec = Jvm.exec) {pc : Nat} {Ls : Array Slot} {w : Value} {t : FieldType} {rest : List Value} (hret : meth.sig.returnType = some t) (ht : t.isReference = true) (hw : w.isRef = true) (hn : narrow t w = w)
    (hd : decode c.code pc = .ok (.areturn, 1)) (hc : cells ≤ C) (hs : slots ≤ S) (q : Q (some w) T.heap locs) : Go p e below s C S Q T (mkF m pc Ls (w :: rest)) :=
  Go.retV X hlk hx hret hn (Or.inr (Or.inr (Or.inr (Or.inr ⟨rfl, ht, hw⟩)))) hd hc hs q
theorem Go.retI (X : Stand p l e R s m args below meth c T locs cells slots) (hlk : meth.locks = false) (hx : p.tables.exec = Jvm.exec) {pc : Nat} {Ls : Array Slot} {z : Int32} {rest : List Value} (hret : meth.sig.returnType = some .int)
    (hd : decode c.code pc = .ok (.ireturn, 1)) (hc : cells ≤ C) (hs : slots ≤ S) (q : Q (some (.int z)) T.heap locs) : Go p e below s C S Q T (mkF m pc Ls (.int z :: rest)) :=
  Go.retV X hlk hx hret rfl (Or.inl ⟨rfl, Or.inl rfl, z, rfl⟩) hd hc hs q
theorem Go.retJ (X : Stand p l e R s m args below meth c T locs cells slots) (hlk : meth.locks = false) (hx : p.tables.exec = Jvm.exec) {pc : Nat} {Ls : Array Slot} {z : Int64} {rest : List Value} (hret : meth.sig.returnType = some .long)
    (hd : decode c.code pc = .ok (.lreturn, 1)) (hc : cells ≤ C) (hs : slots ≤ S) (q : Q (some (.long z)) T.heap locs) : Go p e below s C S Q T (mkF m pc Ls (.long z :: rest)) :=
  Go.retV X hlk hx hret rfl (Or.inr (Or.inl ⟨rfl, rfl, z, rfl⟩)) hd hc hs q
theorem Go.ret0 (X : Stand p l e R s m args below meth c T locs cells slots) (hlk : meth.locks = false) (hx : p.tables.exec = Jvm.exec) {pc : Nat} {Ls : Array Slot} (hret : meth.sig.returnType = none)
    (hd : decode c.code pc = .ok (.return_, 1)) (hc : cells ≤ C) (hs : slots ≤ S) (q : Q none T.heap locs) : Go p e below s C S Q T (mkF m pc Ls []) :=
  Go.fin X hlk (fun _ => rfl) hc hs q fun fs hr => X.returnOut hx hret hd hr
theorem own_le (O : Old Z n0 h) : n0 ≤ h.size := O.1 ▸ O.2.1
theorem own_ext {ws : List Addr} (K : Keep h h' ws) (q : ∀ x ∈ ws, h.size ≤ x) : Ext h h' := ⟨K.1, fun x c r => K.2.1 x c r fun z => absurd (Array.getElem?_eq_some_iff.mp r).1 (Nat.not_lt.mpr (q x z))⟩
theorem own_ext0 (K : Keep h h' []) : Ext h h' := own_ext K all0
theorem own_exr (h : Heap) : Ext h h := ⟨Nat.le_refl _, fun _ _ q => q⟩
theorem own_ext_t {h'' : Heap} (E : Ext h h') (E' : Ext h' h'') : Ext h h'' := ⟨Nat.le_trans E.1 E'.1, fun x c r => E'.2 x c (E.2 x c r)⟩
end GoKit
theorem pn_2 : plainName "java/lang/String" = true := by first | (simp [plainName, overriddenIn]; done) | decide +kernel
theorem ef_rmE4 (m : MethodId) (a1 : Addr) (a2 : Addr) : entryFrame m #[(.ref a1), (.ref a2), (.int (0 : Int32)), (.int (0 : Int32)), .null] 6 = mkF m 0 #[.val (.ref a1), .val (.ref a2), .val (.int (0 : Int32)), .val (.int (0 : Int32)), .val .null, .unset] [] := by first | (simp [entryFrame, mkF, argsToLocals, Value.category]; done) | rfl
theorem d2_0 : decode jdk_42_method_149_code 0 = .ok (.aload_n 0, 1) := by decide +kernel
theorem d2_1 : decode jdk_42_method_149_code 1 = .ok (.invokespecial 1, 3) := by decide +kernel
theorem d2_4 : decode jdk_42_method_149_code 4 = .ok (.iload_n 3, 1) := by decide +kernel
theorem d2_5 : decode jdk_42_method_149_code 5 = .ok (.ifCond .ne 22, 3) := by decide +kernel
theorem d2_8 : decode jdk_42_method_149_code 8 = .ok (.aload_n 0, 1) := by decide +kernel
theorem d2_9 : decode jdk_42_method_149_code 9 = .ok (.ldc 7, 2) := by decide +kernel
theorem d2_11 : decode jdk_42_method_149_code 11 = .ok (.getfield 9, 3) := by decide +kernel
theorem d2_14 : decode jdk_42_method_149_code 14 = .ok (.putfield 9, 3) := by decide +kernel
theorem d2_17 : decode jdk_42_method_149_code 17 = .ok (.aload_n 0, 1) := by decide +kernel
theorem d2_18 : decode jdk_42_method_149_code 18 = .ok (.ldc 7, 2) := by decide +kernel
theorem d2_20 : decode jdk_42_method_149_code 20 = .ok (.getfield 15, 3) := by decide +kernel
theorem d2_23 : decode jdk_42_method_149_code 23 = .ok (.putfield 15, 3) := by decide +kernel
theorem d2_26 : decode jdk_42_method_149_code 26 = .ok (.return_, 1) := by decide +kernel
theorem pn_1 : plainName "java/lang/String" = true := by first | (simp [plainName, overriddenIn]; done) | decide +kernel
theorem ef_rmE (m : MethodId) (a1 : Addr) (a2 : Addr) : entryFrame m #[(.ref a1), (.ref a2)] 2 = mkF m 0 #[.val (.ref a1), .val (.ref a2)] [] := by first | (simp [entryFrame, mkF, argsToLocals, Value.category]; done) | rfl
theorem d1_0 : decode jdk_42_method_3_code 0 = .ok (.aload_n 0, 1) := by decide +kernel
theorem d1_1 : decode jdk_42_method_3_code 1 = .ok (.aload_n 1, 1) := by decide +kernel
theorem d1_2 : decode jdk_42_method_3_code 2 = .ok (.iconst 0, 1) := by decide +kernel
theorem d1_3 : decode jdk_42_method_3_code 3 = .ok (.aload_n 1, 1) := by decide +kernel
theorem d1_4 : decode jdk_42_method_3_code 4 = .ok (.arraylength, 1) := by decide +kernel
theorem d1_5 : decode jdk_42_method_3_code 5 = .ok (.aconst_null, 1) := by decide +kernel
theorem d1_6 : decode jdk_42_method_3_code 6 = .ok (.invokespecial 27, 3) := by decide +kernel
theorem pd___CIILjava_lang_Void__V : parseMethodDescriptor "([CIILjava/lang/Void;)V" = some ⟨[(.array .char), .int, .int, (.object "java/lang/Void")], none⟩ := by decide +kernel
theorem d1_9 : decode jdk_42_method_3_code 9 = .ok (.return_, 1) := by decide +kernel
theorem pn_8 : plainName "java/lang/Record" = true := by first | (simp [plainName, overriddenIn]; done) | decide +kernel
theorem ef_rmR (m : MethodId) (a1 : Addr) : entryFrame m #[(.ref a1)] 1 = mkF m 0 #[.val (.ref a1)] [] := by first | (simp [entryFrame, mkF, argsToLocals, Value.category]; done) | rfl
theorem d8_0 : decode jdk_30_method_1_code 0 = .ok (.aload_n 0, 1) := by decide +kernel
theorem d8_1 : decode jdk_30_method_1_code 1 = .ok (.invokespecial 1, 3) := by decide +kernel
theorem d8_4 : decode jdk_30_method_1_code 4 = .ok (.return_, 1) := by decide +kernel
theorem pn_7 : plainName "com/example/wellness_on_record/wellnessonrecord/apps/App" = true := by first | (simp [plainName, overriddenIn]; done) | decide +kernel
theorem ef_rmA (m : MethodId) (a1 : Addr) (a2 : Addr) (a3 : Addr) (a4 : Addr) (a5 : Addr) (a6 : Addr) : entryFrame m #[(.ref a1), (.ref a2), (.ref a3), (.ref a4), (.ref a5), (.ref a6), (.int (0 : Int32)), .null, (.int (0 : Int32)), .null, .null, (.int (0 : Int32))] 12 = mkF m 0 #[.val (.ref a1), .val (.ref a2), .val (.ref a3), .val (.ref a4), .val (.ref a5), .val (.ref a6), .val (.int (0 : Int32)), .val .null, .val (.int (0 : Int32)), .val .null, .val .null, .val (.int (0 : Int32))] [] := by first | (simp [entryFrame, mkF, argsToLocals, Value.category]; done) | rfl
theorem d7_0 : decode prog_13_method_1_code 0 = .ok (.aload_n 0, 1) := by decide +kernel
theorem d7_1 : decode prog_13_method_1_code 1 = .ok (.invokespecial 1, 3) := by decide +kernel
theorem pd___V : parseMethodDescriptor "()V" = some ⟨[], none⟩ := by decide +kernel
theorem d7_4 : decode prog_13_method_1_code 4 = .ok (.aload_n 0, 1) := by decide +kernel
theorem d7_5 : decode prog_13_method_1_code 5 = .ok (.aload_n 1, 1) := by decide +kernel
theorem d7_6 : decode prog_13_method_1_code 6 = .ok (.putfield 7, 3) := by decide +kernel
theorem d7_9 : decode prog_13_method_1_code 9 = .ok (.aload_n 0, 1) := by decide +kernel
theorem d7_10 : decode prog_13_method_1_code 10 = .ok (.aload_n 2, 1) := by decide +kernel
theorem d7_11 : decode prog_13_method_1_code 11 = .ok (.putfield 13, 3) := by decide +kernel
theorem d7_14 : decode prog_13_method_1_code 14 = .ok (.aload_n 0, 1) := by decide +kernel
theorem d7_15 : decode prog_13_method_1_code 15 = .ok (.aload_n 3, 1) := by decide +kernel
theorem d7_16 : decode prog_13_method_1_code 16 = .ok (.putfield 16, 3) := by decide +kernel
theorem d7_19 : decode prog_13_method_1_code 19 = .ok (.aload_n 0, 1) := by decide +kernel
theorem d7_20 : decode prog_13_method_1_code 20 = .ok (.aload 4, 2) := by decide +kernel
theorem d7_22 : decode prog_13_method_1_code 22 = .ok (.putfield 20, 3) := by decide +kernel
theorem d7_25 : decode prog_13_method_1_code 25 = .ok (.aload_n 0, 1) := by decide +kernel
theorem d7_26 : decode prog_13_method_1_code 26 = .ok (.aload 5, 2) := by decide +kernel
theorem d7_28 : decode prog_13_method_1_code 28 = .ok (.putfield 23, 3) := by decide +kernel
theorem d7_31 : decode prog_13_method_1_code 31 = .ok (.aload_n 0, 1) := by decide +kernel
theorem d7_32 : decode prog_13_method_1_code 32 = .ok (.iload 6, 2) := by decide +kernel
theorem d7_34 : decode prog_13_method_1_code 34 = .ok (.putfield 26, 3) := by decide +kernel
theorem d7_37 : decode prog_13_method_1_code 37 = .ok (.aload_n 0, 1) := by decide +kernel
theorem d7_38 : decode prog_13_method_1_code 38 = .ok (.aload 7, 2) := by decide +kernel
theorem d7_40 : decode prog_13_method_1_code 40 = .ok (.putfield 30, 3) := by decide +kernel
theorem d7_43 : decode prog_13_method_1_code 43 = .ok (.aload_n 0, 1) := by decide +kernel
theorem d7_44 : decode prog_13_method_1_code 44 = .ok (.iload 8, 2) := by decide +kernel
theorem d7_46 : decode prog_13_method_1_code 46 = .ok (.putfield 33, 3) := by decide +kernel
theorem d7_49 : decode prog_13_method_1_code 49 = .ok (.aload_n 0, 1) := by decide +kernel
theorem d7_50 : decode prog_13_method_1_code 50 = .ok (.aload 9, 2) := by decide +kernel
theorem d7_52 : decode prog_13_method_1_code 52 = .ok (.putfield 36, 3) := by decide +kernel
theorem d7_55 : decode prog_13_method_1_code 55 = .ok (.aload_n 0, 1) := by decide +kernel
theorem d7_56 : decode prog_13_method_1_code 56 = .ok (.aload 10, 2) := by decide +kernel
theorem d7_58 : decode prog_13_method_1_code 58 = .ok (.putfield 39, 3) := by decide +kernel
theorem d7_61 : decode prog_13_method_1_code 61 = .ok (.aload_n 0, 1) := by decide +kernel
theorem d7_62 : decode prog_13_method_1_code 62 = .ok (.iload 11, 2) := by decide +kernel
theorem d7_64 : decode prog_13_method_1_code 64 = .ok (.putfield 42, 3) := by decide +kernel
theorem d7_67 : decode prog_13_method_1_code 67 = .ok (.return_, 1) := by decide +kernel
theorem pn_9 : plainName "com/example/wellness_on_record/wellnessonrecord/oauth/Principal" = true := by first | (simp [plainName, overriddenIn]; done) | decide +kernel
theorem ef_rmP (m : MethodId) (a1 : Addr) (a2 : Addr) (x3 : Value) (x4 : Value) (ref_x3 : x3.isRef = true) (ref_x4 : x4.isRef = true) : entryFrame m #[(.ref a1), (.ref a2), x3, x4] 4 = mkF m 0 #[.val (.ref a1), .val (.ref a2), .val x3, .val x4] [] := by
  rcases ref_cases ref_x3 with rfl | ⟨_, rfl⟩ <;> rcases ref_cases ref_x4 with rfl | ⟨_, rfl⟩ <;> rfl
theorem d9_0 : decode prog_39_method_1_code 0 = .ok (.aload_n 0, 1) := by decide +kernel
theorem d9_1 : decode prog_39_method_1_code 1 = .ok (.invokespecial 1, 3) := by decide +kernel
theorem d9_4 : decode prog_39_method_1_code 4 = .ok (.aload_n 0, 1) := by decide +kernel
theorem d9_5 : decode prog_39_method_1_code 5 = .ok (.aload_n 1, 1) := by decide +kernel
theorem d9_6 : decode prog_39_method_1_code 6 = .ok (.putfield 7, 3) := by decide +kernel
theorem d9_9 : decode prog_39_method_1_code 9 = .ok (.aload_n 0, 1) := by decide +kernel
theorem d9_10 : decode prog_39_method_1_code 10 = .ok (.aload_n 2, 1) := by decide +kernel
theorem d9_11 : decode prog_39_method_1_code 11 = .ok (.putfield 13, 3) := by decide +kernel
theorem d9_14 : decode prog_39_method_1_code 14 = .ok (.aload_n 0, 1) := by decide +kernel
theorem d9_15 : decode prog_39_method_1_code 15 = .ok (.aload_n 3, 1) := by decide +kernel
theorem d9_16 : decode prog_39_method_1_code 16 = .ok (.putfield 17, 3) := by decide +kernel
theorem d9_19 : decode prog_39_method_1_code 19 = .ok (.return_, 1) := by decide +kernel
theorem pn_10 : plainName "com/example/wellness_on_record/wellnessonrecord/oauth/Principal" = true := by first | (simp [plainName, overriddenIn]; done) | decide +kernel
theorem ef_rmH (m : MethodId) (a1 : Addr) : entryFrame m #[(.ref a1)] 1 = mkF m 0 #[.val (.ref a1)] [] := by first | (simp [entryFrame, mkF, argsToLocals, Value.category]; done) | rfl
theorem d10_0 : decode prog_39_method_6_code 0 = .ok (.aload_n 0, 1) := by decide +kernel
theorem d10_1 : decode prog_39_method_6_code 1 = .ok (.getfield 17, 3) := by decide +kernel
theorem d10_4 : decode prog_39_method_6_code 4 = .ok (.ifnull 7, 3) := by decide +kernel
theorem d10_11 : decode prog_39_method_6_code 11 = .ok (.iconst 0, 1) := by decide +kernel
theorem d10_12 : decode prog_39_method_6_code 12 = .ok (.ireturn, 1) := by decide +kernel
theorem d10_7 : decode prog_39_method_6_code 7 = .ok (.iconst 1, 1) := by decide +kernel
theorem d10_8 : decode prog_39_method_6_code 8 = .ok (.goto 4, 3) := by decide +kernel
theorem pn_12 : plainName "com/example/wellness_on_record/wellnessonrecord/oauth/Principal" = true := by first | (simp [plainName, overriddenIn]; done) | decide +kernel
theorem ef_rmL (m : MethodId) (a1 : Addr) : entryFrame m #[(.ref a1)] 1 = mkF m 0 #[.val (.ref a1)] [] := by first | (simp [entryFrame, mkF, argsToLocals, Value.category]; done) | rfl
theorem d12_0 : decode prog_39_method_7_code 0 = .ok (.aload_n 0, 1) := by decide +kernel
theorem d12_1 : decode prog_39_method_7_code 1 = .ok (.getfield 13, 3) := by decide +kernel
theorem d12_4 : decode prog_39_method_7_code 4 = .ok (.ifnonnull 14, 3) := by decide +kernel
theorem d12_7 : decode prog_39_method_7_code 7 = .ok (.aload_n 0, 1) := by decide +kernel
theorem d12_8 : decode prog_39_method_7_code 8 = .ok (.getfield 17, 3) := by decide +kernel
theorem d12_11 : decode prog_39_method_7_code 11 = .ok (.ifnonnull 7, 3) := by decide +kernel
theorem d12_14 : decode prog_39_method_7_code 14 = .ok (.iconst 1, 1) := by decide +kernel
theorem d12_15 : decode prog_39_method_7_code 15 = .ok (.goto 4, 3) := by decide +kernel
theorem d12_19 : decode prog_39_method_7_code 19 = .ok (.ireturn, 1) := by decide +kernel
theorem d12_18 : decode prog_39_method_7_code 18 = .ok (.iconst 0, 1) := by decide +kernel
theorem pn_13 : plainName "com/example/wellness_on_record/wellnessonrecord/apps/App" = true := by first | (simp [plainName, overriddenIn]; done) | decide +kernel
theorem ef_rmK (m : MethodId) (a1 : Addr) : entryFrame m #[(.ref a1)] 1 = mkF m 0 #[.val (.ref a1)] [] := by first | (simp [entryFrame, mkF, argsToLocals, Value.category]; done) | rfl
theorem d13_0 : decode prog_13_method_7_code 0 = .ok (.aload_n 0, 1) := by decide +kernel
theorem d13_1 : decode prog_13_method_7_code 1 = .ok (.getfield 16, 3) := by decide +kernel
theorem d13_4 : decode prog_13_method_7_code 4 = .ok (.areturn, 1) := by decide +kernel
theorem pn_11 : plainName "com/example/wellness_on_record/wellnessonrecord/oauth/Principal" = true := by first | (simp [plainName, overriddenIn]; done) | decide +kernel
theorem ef_rmU (m : MethodId) (a1 : Addr) : entryFrame m #[(.ref a1)] 1 = mkF m 0 #[.val (.ref a1)] [] := by first | (simp [entryFrame, mkF, argsToLocals, Value.category]; done) | rfl
theorem d11_0 : decode prog_39_method_4_code 0 = .ok (.aload_n 0, 1) := by decide +kernel
theorem d11_1 : decode prog_39_method_4_code 1 = .ok (.invokevirtual 32, 3) := by decide +kernel
theorem pd___Z : parseMethodDescriptor "()Z" = some ⟨[], some .boolean⟩ := by decide +kernel
theorem d11_4 : decode prog_39_method_4_code 4 = .ok (.ifCond .eq 20, 3) := by decide +kernel
theorem d11_24 : decode prog_39_method_4_code 24 = .ok (.iconst 0, 1) := by decide +kernel
theorem d11_25 : decode prog_39_method_4_code 25 = .ok (.ireturn, 1) := by decide +kernel
theorem d11_7 : decode prog_39_method_4_code 7 = .ok (.aload_n 0, 1) := by decide +kernel
theorem d11_8 : decode prog_39_method_4_code 8 = .ok (.getfield 7, 3) := by decide +kernel
theorem d11_11 : decode prog_39_method_4_code 11 = .ok (.invokevirtual 20, 3) := by decide +kernel
theorem pd___Lcom_example_wellness_on_record_wellnessonrecord_apps_App_Kind_ : parseMethodDescriptor "()Lcom/example/wellness_on_record/wellnessonrecord/apps/App$Kind;" = some ⟨[], some (.object "com/example/wellness_on_record/wellnessonrecord/apps/App$Kind")⟩ := by decide +kernel
theorem d11_14 : decode prog_39_method_4_code 14 = .ok (.getstatic 46, 3) := by decide +kernel
theorem d11_17 : decode prog_39_method_4_code 17 = .ok (.if_acmp .ne 7, 3) := by decide +kernel
theorem d11_20 : decode prog_39_method_4_code 20 = .ok (.iconst 1, 1) := by decide +kernel
theorem d11_21 : decode prog_39_method_4_code 21 = .ok (.goto 4, 3) := by decide +kernel
theorem pn_0 : plainName "com/example/wellness_on_record/wellnessonrecord/oauth/PrincipalHoldsRequestTokenPinLaw" = true := by first | (simp [plainName, overriddenIn]; done) | decide +kernel
theorem ef_rm0 (m : MethodId) (p1 : Int32) (p2 : Int32) (p3 : Int32) (p4 : Int32) : entryFrame m #[(.int p1), (.int p2), (.int p3), (.int p4)] maxLocals = mkF m 0 #[.val (.int p1), .val (.int p2), .val (.int p3), .val (.int p4), .unset, .unset, .unset, .unset, .unset, .unset, .unset, .unset, .unset, .unset, .unset, .unset, .unset, .unset, .unset] [] := by first | (simp [entryFrame, mkF, argsToLocals, Value.category, maxLocals]; done) | rfl
theorem pd__Ljava_lang_String_Ljava_lang_String_Lcom_example_wellness_on_record_wellnessonrecord_apps_App_Kind_Ljava_lang_String_Ljava_lang_String_ZLjava_lang_String_ZLjava_lang_String_Ljava_lang_String_Z_V : parseMethodDescriptor "(Ljava/lang/String;Ljava/lang/String;Lcom/example/wellness_on_record/wellnessonrecord/apps/App$Kind;Ljava/lang/String;Ljava/lang/String;ZLjava/lang/String;ZLjava/lang/String;Ljava/lang/String;Z)V" = some ⟨[(.object "java/lang/String"), (.object "java/lang/String"), (.object "com/example/wellness_on_record/wellnessonrecord/apps/App$Kind"), (.object "java/lang/String"), (.object "java/lang/String"), .boolean, (.object "java/lang/String"), .boolean, (.object "java/lang/String"), (.object "java/lang/String"), .boolean], none⟩ := by decide +kernel
theorem pd__Lcom_example_wellness_on_record_wellnessonrecord_apps_App_Ljava_lang_String_Ljava_lang_String__V : parseMethodDescriptor "(Lcom/example/wellness_on_record/wellnessonrecord/apps/App;Ljava/lang/String;Ljava/lang/String;)V" = some ⟨[(.object "com/example/wellness_on_record/wellnessonrecord/apps/App"), (.object "java/lang/String"), (.object "java/lang/String")], none⟩ := by decide +kernel
theorem pd___C_V : parseMethodDescriptor "([C)V" = some ⟨[(.array .char)], none⟩ := by decide +kernel
/-! the same, where String constants may be loaded on the way (the library's LawHeld: CHv, CHr, Safe) -/
def GoH (p : Program) (e : Env) (below : List Frame) (s : State) (C S : Nat) (Z : State) (h0 : Heap) (EL : List (String × Nat)) (Q : Option Value → Heap → List Loc → Prop) (T : State) (g : JFrame) : Prop :=
  ∃ s₂ o, Steps p.tables e below (T.setTop g) s₂ ∧ s₂.status = .running ∧ Ended s₂ below o ∧ ∃ v L, o = .returned v ∧ Q v s₂.heap L ∧ CHr Z EL s.vm h0 s₂.vm s₂.heap ∧ ReturnedEndW s o s₂ L C S
section GoHKit
variable {p : Program} {l : Launch} {e : Env} {R : Room} {s : State} {vm0 : Vm} {m : MethodId} {args : Array Value} {below : List Frame} {meth : Method} {c : Code} {T T' : State} {g g' : JFrame} {locs : List Loc} {cells slots C S k0 : Nat} {Q : Option Value → Heap → List Loc → Prop} {Z : State} {a0 : Array Value} {h h0 h' : Heap} {n0 : Nat} {EL : List (String × Nat)}
theorem GoH.st (st : ∀ t, Steps p.tables e below (T'.setTop g') t → Steps p.tables e below (T.setTop g) t) (k : GoH p e below s C S Z h0 EL Q T' g') : GoH p e below s C S Z h0 EL Q T g := by
  obtain ⟨s₂, o, h1, h2⟩ := k; exact ⟨s₂, o, st _ h1, h2⟩
theorem GoH.tr (st : Steps p.tables e below (T.setTop g) (T'.setTop g')) (k : GoH p e below s C S Z h0 EL Q T' g') : GoH p e below s C S Z h0 EL Q T g := by
  obtain ⟨s₂, o, h1, h2⟩ := k; exact ⟨s₂, o, st.trans h1, h2⟩
theorem GoH.eq (q : g = g') (k : GoH p e below s C S Z h0 EL Q T g') : GoH p e below s C S Z h0 EL Q T g := q ▸ k
theorem GoH.fin (X : Stand p l e R (s.setVm vm0) m args below meth c T locs cells slots) (hS : s.Since vm0 k0) (hk : k0 ≤ h.size) (eT : T.heap = h) (hZ : Z.Warmed39 vm0) (hEL : EW Z a0 EL) (H : CHv Z EL vm0 h) (RR : CHr Z EL s.vm h0 vm0 h) (hlk : meth.locks = false) {v : Option Value} (hv : meth.sig.returnType = none → v = none) (hc : cells ≤ C) (hs : slots ≤ S) (q : Q v T.heap locs)
    (k : ∀ fs, (∀ (f : JFrame) (acts : List Action), f.method = m → f.locked = none → f.entered = [] → (doReturn e (T.setTop f) acts v).1 = T.setFrames fs) → Steps p.tables e below (T.setTop g) (T.setFrames fs)) : GoH p e below s C S Z h0 EL Q T g := by
  obtain ⟨fs, hr, hrun, hended, hW⟩ := X.leaveW hS (eT ▸ hk) (v := v) hv hlk
  refine ⟨_, _, k fs hr, hrun, hended, _, _, rfl, q, ?_, hW.1, hW.2.1, hW.2.2.1, hW.2.2.2.mono hc hs⟩
  show CHr Z EL s.vm h0 T.vm T.heap
  rw [eT]; exact RR.trans (CHv.at X hZ hEL H)
theorem GoH.retN (X : Stand p l e R (s.setVm vm0) m args below meth c T locs cells slots) (hS : s.Since vm0 k0) (hk : k0 ≤ h.size) (eT : T.heap = h) (hZ : Z.Warmed39 vm0) (hEL : EW Z a0 EL) (H : CHv Z EL vm0 h) (RR : CHr Z EL s.vm h0 vm0 h) (hlk : meth.locks = false) (hx : p.tables.exec = Jvm.exec) {pc : Nat} {Ls : Array Slot} {z z' : Int32} {t : FieldType} {rest : List Value} (hret : meth.sig.returnType = some t) (ht : t = .boolean ∨ t = .byte ∨ t = .char ∨ t = .short)
    (hd : decode c.code pc = .ok (.ireturn, 1)) (hc : cells ≤ C) (hs : slots ≤ S) (hz : nar t z = z') (q : Q (some (.int z')) T.heap locs) : GoH p e below s C S Z h0 EL Q T (mkF m pc Ls (.int z :: rest)) := by
  subst hz
  exact GoH.fin X hS hk eT hZ hEL H RR hlk (fun h => by rw [hret] at h; cases h) hc hs q fun fs hr => Jvm.RoadKit.retN X hx hret ht hd hr
theorem GoH.retV (X : Stand p l e R (s.setVm vm0) m args below meth c T locs cells slots) (hS : s.Since vm0 k0) (hk : k0 ≤ h.size) (eT : T.heap = h) (hZ : Z.Warmed39 vm0) (hEL : EW Z a0 EL) (H : CHv Z EL vm0 h) (RR : CHr Z EL s.vm h0 vm0 h) (hlk : meth.locks = false) (hx : p.tables.exec = Jvm.exec) {pc : Nat} {Ls : Array Slot} {w : Value} {t : FieldType} {i : Instr} {rest : List Value} (hret : meth.sig.returnType = some t) (hn : narrow t w = w)
    (hi : (i = .ireturn ∧ (t = .int ∨ t = .boolean ∨ t = .byte ∨ t = .char ∨ t = .short) ∧ ∃ z, w = .int z) ∨ (i = .lreturn ∧ t = .long ∧ ∃ z, w = .long z) ∨ (i = .dreturn ∧ t = .double ∧ ∃ z, w = .double z) ∨ (i = .freturn ∧ t = .float ∧ ∃ z, w = .float z) ∨ (i = .areturn ∧ t.isReference = true ∧ w.isRef = true))
    (hd : decode c.code pc = .ok (i, 1)) (hc : cells ≤ C) (hs : slots ≤ S) (q : Q (some w) T.heap locs) : GoH p e below s C S Z h0 EL Q T (mkF m pc Ls (w :: rest)) :=
  GoH.fin X hS hk eT hZ hEL H RR hlk (fun h => by rw [hret] at h; cases h) hc hs q fun fs hr => Jvm.RoadKit.retOut X hx hret hn hi hd hr
theorem GoH.retR (X : Stand p l e R (s.setVm vm0) m args below meth c T locs cells slots) (hS : s.Since vm0 k0) (hk : k0 ≤ h.size) (eT : T.heap = h) (hZ : Z.Warmed39 vm0) (hEL : EW Z a0 EL) (H : CHv Z EL vm0 h) (RR : CHr Z EL s.vm h0 vm0 h) (hlk : meth.locks = false) (hx : p.tables.exec = Jvm.exec) {pc : Nat} {Ls : Array Slot} {w : Value} {t : FieldType} {rest : List Value} (hret : meth.sig.returnType = some t) (ht : t.isReference = true) (hw : w.isRef = true) (hn : narrow t w = w)
    (hd : decode c.code pc = .ok (.areturn, 1)) (hc : cells ≤ C) (hs : slots ≤ S) (q : Q (some w) T.heap locs) : GoH p e below s C S Z h0 EL Q T (mkF m pc Ls (w :: rest)) :=
  GoH.retV X hS hk eT hZ hEL H RR hlk hx hret hn (Or.inr (Or.inr (Or.inr (Or.inr ⟨rfl, ht, hw⟩)))) hd hc hs q
theorem GoH.retI (X : Stand p l e R (s.setVm vm0) m args below meth c T locs cells slots) (hS : s.Since vm0 k0) (hk : k0 ≤ h.size) (eT : T.heap = h) (hZ : Z.Warmed39 vm0) (hEL : EW Z a0 EL) (H : CHv Z EL vm0 h) (RR : CHr Z EL s.vm h0 vm0 h) (hlk : meth.locks = false) (hx : p.tables.exec = Jvm.exec) {pc : Nat} {Ls : Array Slot} {z : Int32} {rest : List Value} (hret : meth.sig.returnType = some .int)
    (hd : decode c.code pc = .ok (.ireturn, 1)) (hc : cells ≤ C) (hs : slots ≤ S) (q : Q (some (.int z)) T.heap locs) : GoH p e below s C S Z h0 EL Q T (mkF m pc Ls (.int z :: rest)) :=
  GoH.retV X hS hk eT hZ hEL H RR hlk hx hret rfl (Or.inl ⟨rfl, Or.inl rfl, z, rfl⟩) hd hc hs q
theorem GoH.ret0 (X : Stand p l e R (s.setVm vm0) m args below meth c T locs cells slots) (hS : s.Since vm0 k0) (hk : k0 ≤ h.size) (eT : T.heap = h) (hZ : Z.Warmed39 vm0) (hEL : EW Z a0 EL) (H : CHv Z EL vm0 h) (RR : CHr Z EL s.vm h0 vm0 h) (hlk : meth.locks = false) (hx : p.tables.exec = Jvm.exec) {pc : Nat} {Ls : Array Slot} (hret : meth.sig.returnType = none)
    (hd : decode c.code pc = .ok (.return_, 1)) (hc : cells ≤ C) (hs : slots ≤ S) (q : Q none T.heap locs) : GoH p e below s C S Z h0 EL Q T (mkF m pc Ls []) :=
  GoH.fin X hS hk eT hZ hEL H RR hlk (fun _ => rfl) hc hs q fun fs hr => X.returnOut hx hret hd hr
theorem own_backSH {y : MethodName} {bytes : ByteArray} {maxL : Nat} {ret : Option FieldType} {rm : Room} {len W : Nat} {as' : Array Value} {sf : List Addr}
    (hM : MetFree l y (head1 [Cond.code y bytes maxL ret] rm) (fun a U => a = as' ∧ Z.Warmed39 U.vm ∧ U.heap = h ∧ CHv Z EL U.vm h ∧ ∀ x ∈ sf, Safe Z EL U.vm h x) (fun _ _ _ _ _ => True) (fun _ U o U' => ∃ v L, o = .returned v ∧ Q v U'.heap L ∧ CHr Z EL U.vm U.heap U'.vm U'.heap ∧ ReturnedEndW U o U' L rm.cells rm.slots))
    (hZ : Z.Warmed39 vm0) (wc : (Cond.code y bytes maxL ret).before a0 Z = true) (wz : (Cond.initialized y.cls).before a0 Z = true) (hf : rm.frames + 1 ≤ R.frames) (hl : W + (maxL + 11) + rm.locals ≤ R.locals) (hEL : EW Z a0 EL) (H : CHv Z EL vm0 h) (hsf : ∀ x ∈ sf, Safe Z EL vm0 h x ∧ x < Array.size h) :
    BackS l R p e below (s.setVm vm0) args y len W (fun A a => a = as' ∧ A.U.heap = h ∧ A.cells + rm.cells ≤ R.cells ∧ A.slots + rm.slots ≤ R.slots)
      (fun A _ v B => ∃ L, Q v B.U.heap L ∧ B.locs = A.locs ++ L ∧ B.cells = A.cells + rm.cells ∧ B.slots = A.slots + rm.slots ∧ CHr Z EL vm0 h B.U.vm B.U.heap) := by
  have up : ∀ {m meth c} {A : Pt}, Stand p l e R (s.setVm vm0) m args below meth c A.U A.locs A.cells A.slots → Z.Warmed39 A.U.vm := fun Y => wtrans (s := s.setVm vm0) hZ Y.warmed
  refine BackS.of_freeW (bytes := bytes) (maxL := maxL) (ret := ret) (E := fun _ first o t L k n => (k = rm.cells ∧ n = rm.slots) ∧ (∃ v, o = .returned v ∧ Q v t.heap L) ∧ CHr Z EL first.vm first.heap t.vm t.heap) hM hf hl ?_ ?_ ?_ ?_ ?_
  · intro m meth c A a Y hp
    refine ⟨?_, mv (up Y) wc, mv (up Y) wz, hp.2.2.1, hp.2.2.2⟩
    show (Cond.and _ .tt).before a A.U = true
    rw [Cond.before_and, mv (up Y) wc]; rfl
  · intro m meth c A a g mk Y hp
    have q := CHv.at Y hZ hEL H
    exact ⟨hp.1, up Y, hp.2.1, q.1, fun x hx => q.safe (hsf x hx).2 (hsf x hx).1⟩
  · intro _ _ _ _ _ _ _ _ _; trivial
  · intro _ _ _ _ hq
    obtain ⟨v, L, h1, h2, h3, h4⟩ := hq
    exact ⟨L, _, _, h4, ⟨rfl, rfl⟩, ⟨v, h1, h2⟩, h3⟩
  · intro m meth c A a g mk v t L k n Y hp _ _ hq
    obtain ⟨⟨e1, e2⟩, ⟨v', e3, e4⟩, e5⟩ := hq
    cases e3; subst e1 e2
    refine ⟨L, e4, rfl, rfl, rfl, (CHv.at Y hZ hEL H).trans ?_⟩
    rw [← hp.2.1]; exact e5
theorem own_since (s : State) (n : Nat) : s.Since s.vm n := (State.WarmedH.since (s := s) (vm₁ := s.vm) (State.WarmedH.refl s) n)
end GoHKit

abbrev EL : List (String × Nat) := consts_1
theorem own_m255 (z : Int32) : ¬ nar .char ((z &&& (255 : Int32)).toUInt32.toUInt16.toUInt32.toInt32) < 0 ∧ ¬ (255 : Int32) < nar .char ((z &&& (255 : Int32)).toUInt32.toUInt16.toUInt32.toInt32) := by
  have small : ∀ k : Fin 256, ¬ nar .char ((Int32.ofNat k.val).toUInt32.toUInt16.toUInt32.toInt32) < 0 ∧ ¬ (255 : Int32) < nar .char ((Int32.ofNat k.val).toUInt32.toUInt16.toUInt32.toInt32) := by decide +kernel
  have lt : (z &&& 255).toBitVec.toNat < 256 := by
    rw [Int32.toBitVec_and, BitVec.toNat_and]; exact Nat.lt_succ_of_le Nat.and_le_right
  have eq : (z &&& 255) = Int32.ofNat (z &&& 255).toBitVec.toNat := by
    apply Int32.toBitVec_inj.mp
    show _ = BitVec.ofNat 32 _
    rw [BitVec.ofNat_toNat]; simp
  rw [eq]; exact small ⟨_, lt⟩
theorem own_nil {P : Int32 → Prop} : ∀ c ∈ ([] : List Int32), P c := fun _ q => nomatch q
theorem own_cons {P : Int32 → Prop} {y : Int32} {L : List Int32} (q : P y) (r : ∀ c ∈ L, P c) : ∀ c ∈ y :: L, P c := fun x z => (List.mem_cons.mp z).elim (fun u => u ▸ q) (r x)
theorem own_narrow {x : Value} {c : String} (h : x.isRef = true) : narrow (.object c) x = x := by cases x <;> first | rfl | simp [Value.isRef] at h
theorem own_fits {x : Value} {c : String} (h : x.isRef = true) : fits (.object c) x = true := by cases x <;> first | rfl | simp [Value.isRef] at h
theorem own_selfsel {y z : MethodName} {args : Array Value} {s : State} (hs : (Jvm.Cond.selects z.cls z z).before args s = true) (e : y.cls = z.cls) (hp : (Jvm.Cond.privateMethod y).before args s = true) (hi : (Jvm.Cond.instanceMethod y).before args s = true) (hy : y.cls ≠ "java/lang/invoke/MethodHandle" ∧ y.cls ≠ "java/lang/invoke/VarHandle") : (Jvm.Cond.selects y.cls y y).before args s = true := by
  obtain ⟨c2, r2, m2, -, -, q3, -, kP, hkP, hkPi⟩ := Cond.selects_spec hs
  exact selects_self_of_private (e ▸ findClass_of_methodNamed q3) hkP hkPi (Cond.privateMethod_at hp) hi hy
theorem own_u1 {k w : Addr} {x : Int32} (h : x = 0) : (0 : Int32) = if k = w then x else 0 := by rw [h]; split <;> rfl
theorem own_u2 {k w : Addr} {xr xt : Value} (h : ¬ ((if xr = .null then (if xt = .null then (1 : Int32) else 0) else 0) = 0)) (g : k = w) : (1 : Int32) = if k = w then (if xr = .null then (if xt = .null then (1 : Int32) else 0) else 0) else 0 := by
  rw [if_pos g]
  by_cases q : xr = .null
  · rw [if_pos q] at h ⊢; by_cases r : xt = .null
    · rw [if_pos r]
    · rw [if_neg r] at h; exact absurd rfl h
  · rw [if_neg q] at h; exact absurd rfl h
theorem own_u3 {k w : Addr} {x : Int32} (h : ¬ (x = 0)) (g : ¬ (k = w)) : (0 : Int32) = if k = w then x else 0 := by rw [if_neg g]

theorem own_eqi {args : Array Value} {Z : State} {t : Term} {k : Int32} (h : (Cond.eq t (Term.int k)).value args Z none Z [] = some true) : t.eval args Z none [] Z = some (.int k) := by
  cases ht : t.eval args Z none [] Z with
  | none => simp [Cond.value, Term.eval, ht] at h
  | some v => cases v <;> simp [Cond.value, Term.eval, ht] at h <;> (try rw [h])
theorem own_en {args : Array Value} {Z : State} {C n d : String} {k : Int32} (hx : (Cond.exactly (Term.static C n d) C).value args Z none Z [] = some true) (hk : (Cond.eq (Term.field (Term.static C n d) "java/lang/Enum" "ordinal" "I") (Term.int k)).value args Z none Z [] = some true)
    (hi : (Cond.initialized C).before args Z = true) (hl : (Cond.laysStatic C n d).before args Z = true) : ∃ w, Sta Z Z.heap C n d (.ref w) ∧ Exa Z Z.heap w C ∧ Fld Z Z.heap w "java/lang/Enum" "ordinal" "I" (.int k) := by
  obtain ⟨w, ew⟩ := exa_v hx
  exact ⟨w, Sta.start ew (Or.inr ⟨hi, hl⟩), Exa.start ew hx, Fld.start (by rw [← fld_at ew]; exact own_eqi hk)⟩

def Q_rmE4 (Z : State) (a1 : Addr) (a2 : Addr) (u1 : Value) (u2 : Value) (h0 : Heap) (n0 : Nat) (v : Option Value) (h : Heap) (L : List Loc) : Prop := v = none ∧ Fr n0 L ∧ Keep h0 h [a1] ∧ Exa Z h a1 "java/lang/String" ∧ Fld Z h a1 "java/lang/String" "coder" "B" (.int 0) ∧ ∃ (t : Addr) (kb : ClassId), Fld Z h a1 "java/lang/String" "value" "[B" (.ref t) ∧ Arv Z h t kb .byte 0 [] (.int 0)
set_option maxRecDepth 65536 in
set_option maxHeartbeats 40000000 in
theorem rmE4 (l : Launch) (Z : State) (a0 : Array Value) (hw : ∀ d ∈ tables_1, d.before a0 Z = true) (ws : List Jvm.Cond) (a1 : Addr) (a2 : Addr) (u1 : Value) (u2 : Value) (h0 : Heap) (n0 : Nat) (O : Old Z n0 h0) (hEL : EW Z a0 EL) (wS : ∀ a ∈ Bundle.stringAtoms, a.before a0 Z = true) (E_a1 : Exa Z h0 a1 "java/lang/String") (F_value_a1 : Fld Z h0 a1 "java/lang/String" "value" "[B" u1) (F_coder_a1 : Fld Z h0 a1 "java/lang/String" "coder" "B" u2) (g_a1 : n0 ≤ a1) :
    MetFree l (⟨"java/lang/String", "<init>", "([CIILjava/lang/Void;)V"⟩ : MethodName) (head1 (Jvm.Cond.code (⟨"java/lang/String", "<init>", "([CIILjava/lang/Void;)V"⟩ : MethodName) jdk_42_method_149_code 6 none :: ws) ({ frames := 1, cells := 4, slots := 8, locals := 12 } : Room)) (fun a U => a = #[(.ref a1), (.ref a2), (.int (0 : Int32)), (.int (0 : Int32)), .null] ∧ Z.Warmed39 U.vm ∧ U.heap = h0 ∧ CHv Z EL U.vm h0 ∧ ∀ x ∈ ([a1] : List Addr), Safe Z EL U.vm h0 x) (fun _ _ _ _ _ => True) (fun _ U o U' => ∃ v L, o = .returned v ∧ Q_rmE4 Z a1 a2 u1 u2 h0 n0 v U'.heap L ∧ CHr Z EL U.vm U.heap U'.vm U'.heap ∧ ReturnedEndW U o U' L ({ frames := 1, cells := 4, slots := 8, locals := 12 } : Room).cells ({ frames := 1, cells := 4, slots := 8, locals := 12 } : Room).slots) := by
  refine MetFree.of_bodySF (plainFor_of_name pn_2) hisR ?_
  intro p e s m args below meth c s₁ Bd hml0 hP hK
  obtain ⟨rfl, hZ, hh, HH, hSF⟩ := hP
  have hx := Bd.exec
  have hby := Bd.bytes
  have hml : c.maxLocals = 6 := hml0
  have hown : s.vm.findClass "java/lang/String" = some m.cls := findClass_of_methodNamed Bd.named
  have hnm := (name_of_methodNamed Bd.named Bd.method).1
  have hlk : meth.locks = false := BodyLoose.notSynchronized Bd
  have X0 : Stand p l e ({ frames := 1, cells := 4, slots := 8, locals := 12 } : Room) (s.setVm s.vm) m #[(.ref a1), (.ref a2), (.int (0 : Int32)), (.int (0 : Int32)), .null] below meth c s₁ [] 0 0 := Stand.of_body Bd
  have e0 : s₁.heap = h0 := by rw [← hh, Bd.state]; rfl
  have N0 := Fr.nil n0
  have KK : Keep h0 h0 [a1] := Keep.refl h0 _
  have hS : s.Since s.vm h0.size := own_since s _
  have hk : h0.size ≤ h0.size := Nat.le_refl _
  have RR : CHr Z EL s.vm h0 s.vm h0 := CHr.refl HH
  have Sf_a1 : Safe Z EL s.vm h0 a1 := hSF _ (List.mem_of_getElem? (i := 0) rfl)
  suffices hgo : GoH p e below s ({ frames := 1, cells := 4, slots := 8, locals := 12 } : Room).cells ({ frames := 1, cells := 4, slots := 8, locals := 12 } : Room).slots Z h0 EL (Q_rmE4 Z a1 a2 u1 u2 h0 n0) s₁ (entryFrame m #[(.ref a1), (.ref a2), (.int (0 : Int32)), (.int (0 : Int32)), .null] 6) by
    obtain ⟨s₂, o, q1, q2, q3, v, L, q4, q5, q6, q7⟩ := hgo; exact ⟨s₂, o, q1, q2, q3, v, L, q4, q5, hh ▸ q6, q7⟩
  refine GoH.eq (ef_rmE4 m a1 a2) ?_
  show GoH _ _ _ _ _ _ _ _ _ _  s₁ (mkF m 0 #[.val (.ref a1), .val (.ref a2), .val (.int (0 : Int32)), .val (.int (0 : Int32)), .val .null, .unset] [])
  refine GoH.st (fun t k => XS.aloadN X0.here hx rfl (hb hby d2_0) rfl rfl  k) ?_
  show GoH _ _ _ _ _ _ _ _ _ _  s₁ (mkF m 1 #[.val (.ref a1), .val (.ref a2), .val (.int (0 : Int32)), .val (.int (0 : Int32)), .val .null, .unset] [(.ref a1)])
  obtain ⟨T1, X1, e1, st1⟩ := initO X0 hx hZ hown (hw _ (List.mem_of_getElem? (i := 11) rfl)) (hw _ (List.mem_of_getElem? (i := 12) rfl)) (hw _ (List.mem_of_getElem? (i := 13) rfl)) e0 (g := (mkF m 1 #[.val (.ref a1), .val (.ref a2), .val (.int (0 : Int32)), .val (.int (0 : Int32)), .val .null, .unset] [(.ref a1)])) rfl (by rw [hml]; rfl) rfl (hb hby d2_1) (by decide) (W := 0) (by show 2 * 0 + _ ≤ _; exact Nat.le_of_eq rfl) (by decide)
  refine GoH.st st1 ?_
  show GoH _ _ _ _ _ _ _ _ _ _  T1 (mkF m 4 #[.val (.ref a1), .val (.ref a2), .val (.int (0 : Int32)), .val (.int (0 : Int32)), .val .null, .unset] [])
  refine GoH.st (fun t k => XS.iloadN X1.here hx rfl (hb hby d2_4) rfl  k) ?_
  show GoH _ _ _ _ _ _ _ _ _ _  T1 (mkF m 5 #[.val (.ref a1), .val (.ref a2), .val (.int (0 : Int32)), .val (.int (0 : Int32)), .val .null, .unset] [(.int (0 : Int32))])
  refine GoH.st (fun t k => XS.ifNo X1.here hx rfl (hb hby d2_5) rfl ((if0 _ _).trans (teq (rfl : (0 : Int32) = (0 : Int32))).2) k) ?_
  show GoH _ _ _ _ _ _ _ _ _ _  T1 (mkF m 8 #[.val (.ref a1), .val (.ref a2), .val (.int (0 : Int32)), .val (.int (0 : Int32)), .val .null, .unset] [])
  refine GoH.st (fun t k => XS.aloadN X1.here hx rfl (hb hby d2_8) rfl rfl  k) ?_
  show GoH _ _ _ _ _ _ _ _ _ _  T1 (mkF m 9 #[.val (.ref a1), .val (.ref a2), .val (.int (0 : Int32)), .val (.int (0 : Int32)), .val .null, .unset] [(.ref a1)])
  obtain ⟨sa2, T2, h2, kk2, sb2, kb2, X2, e2, E2, hS2, hk2, hZ2, ho2, E_sa2, F_coder_sa2, F_value_sa2, V_sb2, la2, lb2, CR2, Lt2, ns2, st2⟩ := ldcCH X1 hx hZ hown (hw _ (List.mem_of_getElem? (i := 108) rfl)) wS e1 hS hk hEL (List.mem_of_getElem? (i := 4) rfl) HH (vs := []) (z := 0) ⟨by decide, by decide⟩ (by decide) rfl (g := (mkF m 9 #[.val (.ref a1), .val (.ref a2), .val (.int (0 : Int32)), .val (.int (0 : Int32)), .val .null, .unset] [(.ref a1)])) rfl (hb hby d2_9) (n := 0) (by decide) (by decide) (by decide) (by decide)
  refine GoH.st st2 ?_
  have Sf_a1 := CHr.safe CR2 E_a1.lt Sf_a1
  have E_a1 := E_a1.ext E2
  have F_value_a1 := F_value_a1.ext E2
  have F_coder_a1 := F_coder_a1.ext E2
  have O := O.ext E2
  have KK := KK.ext E2
  have RR := RR.trans CR2
  have HH := CR2.1
  have hS := hS2
  have hk := hk2
  have hZ := hZ2
  have hown := ho2
  obtain ⟨ne_a1_sa2, ne_a1_sb2⟩ := ns2 _ Sf_a1
  show GoH _ _ _ _ _ _ _ _ _ _  T2 (mkF m 11 #[.val (.ref a1), .val (.ref a2), .val (.int (0 : Int32)), .val (.int (0 : Int32)), .val .null, .unset] [(.ref sa2), (.ref a1)])
  obtain ⟨T3, X3, e3, st3⟩ := getF X2 hx hZ hown (host := "") (Or.inl (hw _ (List.mem_of_getElem? (i := 28) rfl))) Via.refl e2 F_value_sa2 (g := (mkF m 11 #[.val (.ref a1), .val (.ref a2), .val (.int (0 : Int32)), .val (.int (0 : Int32)), .val .null, .unset] [(.ref sa2), (.ref a1)])) rfl rfl (hb hby d2_11)
  refine GoH.st st3 ?_
  show GoH _ _ _ _ _ _ _ _ _ _  T3 (mkF m 14 #[.val (.ref a1), .val (.ref a2), .val (.int (0 : Int32)), .val (.int (0 : Int32)), .val .null, .unset] [(.ref sb2), (.ref a1)])
  obtain ⟨T4, h4, X4, e4, W4, st4⟩ := putF X3 hx hZ hown (host := "") (Or.inl (hw _ (List.mem_of_getElem? (i := 28) rfl))) Via.refl e3 F_value_a1 E_a1 (Or.inr ⟨(hw _ (List.mem_of_getElem? (i := 29) rfl)), rfl, hnm⟩) (hw _ (List.mem_of_getElem? (i := 2) rfl)) (ty := (.array .byte)) (by decide) rfl rfl (g := (mkF m 14 #[.val (.ref a1), .val (.ref a2), .val (.int (0 : Int32)), .val (.int (0 : Int32)), .val .null, .unset] [(.ref sb2), (.ref a1)])) rfl rfl (hb hby d2_14)
  refine GoH.st st4 ?_
  have F_value_a1 : Fld Z h4 a1 "java/lang/String" "value" "[B" (.ref sb2) := F_value_a1.same W4
  have N4 := Fr.snoc X4 N0 g_a1
  have E_a1 := E_a1.wr W4
  have F_coder_a1 := F_coder_a1.other W4 (Or.inr (slot_ne (Or.inr (hw _ (List.mem_of_getElem? (i := 27) rfl))) (Or.inr (hw _ (List.mem_of_getElem? (i := 29) rfl))) (by decide) (t := .byte) (t' := (.array .byte)) (by decide) (by decide)))
  have E_sa2 := E_sa2.wr W4
  have V_sb2 := V_sb2.other W4 (Ne.symm ne_a1_sb2)
  have F_coder_sa2 := F_coder_sa2.other W4 (Or.inl (Ne.symm ne_a1_sa2))
  have F_value_sa2 := F_value_sa2.other W4 (Or.inl (Ne.symm ne_a1_sa2))
  have Sf'_a1 := Safe.wr W4 Sf_a1 HH Sf_a1
  have RR := RR.trans (CHr.wr W4 Sf_a1 HH)
  have HH := HH.wr W4 Sf_a1
  have Sf_a1 := Sf'_a1
  have hk := Nat.le_trans hk (Nat.le_of_eq W4.size.symm)
  have O := O.wr W4 g_a1
  have KK := KK.wr W4 (Or.inl (List.mem_of_getElem? (i := 0) rfl))
  show GoH _ _ _ _ _ _ _ _ _ _  T4 (mkF m 17 #[.val (.ref a1), .val (.ref a2), .val (.int (0 : Int32)), .val (.int (0 : Int32)), .val .null, .unset] [])
  refine GoH.st (fun t k => XS.aloadN X4.here hx rfl (hb hby d2_17) rfl rfl  k) ?_
  show GoH _ _ _ _ _ _ _ _ _ _  T4 (mkF m 18 #[.val (.ref a1), .val (.ref a2), .val (.int (0 : Int32)), .val (.int (0 : Int32)), .val .null, .unset] [(.ref a1)])
  obtain ⟨sa5, T5, h5, kk5, sb5, kb5, X5, e5, E5, hS5, hk5, hZ5, ho5, E_sa5, F_coder_sa5, F_value_sa5, V_sb5, la5, lb5, CR5, Lt5, ns5, st5⟩ := ldcCH X4 hx hZ hown (hw _ (List.mem_of_getElem? (i := 108) rfl)) wS e4 hS hk hEL (List.mem_of_getElem? (i := 4) rfl) HH (vs := []) (z := 0) ⟨by decide, by decide⟩ (by decide) rfl (g := (mkF m 18 #[.val (.ref a1), .val (.ref a2), .val (.int (0 : Int32)), .val (.int (0 : Int32)), .val .null, .unset] [(.ref a1)])) rfl (hb hby d2_18) (n := 0) (by decide) (by decide) (by decide) (by decide)
  refine GoH.st st5 ?_
  have Sf_a1 := CHr.safe CR5 E_a1.lt Sf_a1
  have E_a1 := E_a1.ext E5
  have F_value_a1 := F_value_a1.ext E5
  have F_coder_a1 := F_coder_a1.ext E5
  have E_sa2 := E_sa2.ext E5
  have V_sb2 := V_sb2.ext E5
  have F_coder_sa2 := F_coder_sa2.ext E5
  have F_value_sa2 := F_value_sa2.ext E5
  have O := O.ext E5
  have KK := KK.ext E5
  have RR := RR.trans CR5
  have HH := CR5.1
  have hS := hS5
  have hk := hk5
  have hZ := hZ5
  have hown := ho5
  obtain ⟨ne_a1_sa5, ne_a1_sb5⟩ := ns5 _ Sf_a1
  show GoH _ _ _ _ _ _ _ _ _ _  T5 (mkF m 20 #[.val (.ref a1), .val (.ref a2), .val (.int (0 : Int32)), .val (.int (0 : Int32)), .val .null, .unset] [(.ref sa5), (.ref a1)])
  obtain ⟨T6, X6, e6, st6⟩ := getF X5 hx hZ hown (host := "") (Or.inl (hw _ (List.mem_of_getElem? (i := 26) rfl))) Via.refl e5 F_coder_sa5 (g := (mkF m 20 #[.val (.ref a1), .val (.ref a2), .val (.int (0 : Int32)), .val (.int (0 : Int32)), .val .null, .unset] [(.ref sa5), (.ref a1)])) rfl rfl (hb hby d2_20)
  refine GoH.st st6 ?_
  show GoH _ _ _ _ _ _ _ _ _ _  T6 (mkF m 23 #[.val (.ref a1), .val (.ref a2), .val (.int (0 : Int32)), .val (.int (0 : Int32)), .val .null, .unset] [(.int (0 : Int32)), (.ref a1)])
  obtain ⟨T7, h7, X7, e7, W7, st7⟩ := putFN X6 hx hZ hown (hw _ (List.mem_of_getElem? (i := 26) rfl)) Via.refl e6 F_coder_a1 E_a1 (Or.inr ⟨(hw _ (List.mem_of_getElem? (i := 27) rfl)), rfl, hnm⟩) (hw _ (List.mem_of_getElem? (i := 2) rfl)) (ty := .byte) (v' := .int (0 : Int32)) (by decide) rfl rfl (g := (mkF m 23 #[.val (.ref a1), .val (.ref a2), .val (.int (0 : Int32)), .val (.int (0 : Int32)), .val .null, .unset] [(.int (0 : Int32)), (.ref a1)])) rfl rfl (hb hby d2_23)
  refine GoH.st st7 ?_
  have F_coder_a1 : Fld Z h7 a1 "java/lang/String" "coder" "B" (.int (0 : Int32)) := F_coder_a1.same W7
  have N7 := Fr.snoc X7 N4 g_a1
  have E_a1 := E_a1.wr W7
  have F_value_a1 := F_value_a1.other W7 (Or.inr (slot_ne (Or.inr (hw _ (List.mem_of_getElem? (i := 29) rfl))) (Or.inr (hw _ (List.mem_of_getElem? (i := 27) rfl))) (by decide) (t := (.array .byte)) (t' := .byte) (by decide) (by decide)))
  have E_sa2 := E_sa2.wr W7
  have V_sb2 := V_sb2.other W7 (Ne.symm ne_a1_sb2)
  have F_coder_sa2 := F_coder_sa2.other W7 (Or.inl (Ne.symm ne_a1_sa2))
  have F_value_sa2 := F_value_sa2.other W7 (Or.inl (Ne.symm ne_a1_sa2))
  have E_sa5 := E_sa5.wr W7
  have V_sb5 := V_sb5.other W7 (Ne.symm ne_a1_sb5)
  have F_coder_sa5 := F_coder_sa5.other W7 (Or.inl (Ne.symm ne_a1_sa5))
  have F_value_sa5 := F_value_sa5.other W7 (Or.inl (Ne.symm ne_a1_sa5))
  have Sf'_a1 := Safe.wr W7 Sf_a1 HH Sf_a1
  have RR := RR.trans (CHr.wr W7 Sf_a1 HH)
  have HH := HH.wr W7 Sf_a1
  have Sf_a1 := Sf'_a1
  have hk := Nat.le_trans hk (Nat.le_of_eq W7.size.symm)
  have O := O.wr W7 g_a1
  have KK := KK.wr W7 (Or.inl (List.mem_of_getElem? (i := 0) rfl))
  show GoH _ _ _ _ _ _ _ _ _ _  T7 (mkF m 26 #[.val (.ref a1), .val (.ref a2), .val (.int (0 : Int32)), .val (.int (0 : Int32)), .val .null, .unset] [])
  refine GoH.ret0 X7 hS hk e7 hZ hEL HH RR hlk hx Bd.returns (hb hby d2_26) (by decide) (by decide) ?_
  show Q_rmE4 Z _ _ _ _ h0 n0 _ T7.heap _
  rw [e7]
  exact ⟨rfl, N7, KK, E_a1, F_coder_a1, sb2, _, F_value_a1, V_sb2⟩
def Q_rmE (Z : State) (a1 : Addr) (a2 : Addr) (u1 : Value) (u2 : Value) (kC : ClassId) (h0 : Heap) (n0 : Nat) (v : Option Value) (h : Heap) (L : List Loc) : Prop := v = none ∧ Fr n0 L ∧ Keep h0 h [a1] ∧ Exa Z h a1 "java/lang/String" ∧ Fld Z h a1 "java/lang/String" "coder" "B" (.int 0) ∧ ∃ (t : Addr) (kb : ClassId), Fld Z h a1 "java/lang/String" "value" "[B" (.ref t) ∧ Arv Z h t kb .byte 0 [] (.int 0)
set_option maxRecDepth 65536 in
set_option maxHeartbeats 40000000 in
theorem rmE (l : Launch) (Z : State) (a0 : Array Value) (hw : ∀ d ∈ tables_1, d.before a0 Z = true) (ws : List Jvm.Cond) (a1 : Addr) (a2 : Addr) (u1 : Value) (u2 : Value) (kC : ClassId) (h0 : Heap) (n0 : Nat) (O : Old Z n0 h0) (hEL : EW Z a0 EL) (wS : ∀ a ∈ Bundle.stringAtoms, a.before a0 Z = true) (E_a1 : Exa Z h0 a1 "java/lang/String") (F_value_a1 : Fld Z h0 a1 "java/lang/String" "value" "[B" u1) (F_coder_a1 : Fld Z h0 a1 "java/lang/String" "coder" "B" u2) (g_a1 : n0 ≤ a1) (V_a2 : Arv Z h0 a2 kC .char 0 [] (.int 0)) (ne_a2_a1 : a2 ≠ a1) :
    MetFree l (⟨"java/lang/String", "<init>", "([C)V"⟩ : MethodName) (head1 (Jvm.Cond.code (⟨"java/lang/String", "<init>", "([C)V"⟩ : MethodName) jdk_42_method_3_code 2 none :: ws) ({ frames := 2, cells := 4, slots := 8, locals := 29 } : Room)) (fun a U => a = #[(.ref a1), (.ref a2)] ∧ Z.Warmed39 U.vm ∧ U.heap = h0 ∧ CHv Z EL U.vm h0 ∧ ∀ x ∈ ([a1] : List Addr), Safe Z EL U.vm h0 x) (fun _ _ _ _ _ => True) (fun _ U o U' => ∃ v L, o = .returned v ∧ Q_rmE Z a1 a2 u1 u2 kC h0 n0 v U'.heap L ∧ CHr Z EL U.vm U.heap U'.vm U'.heap ∧ ReturnedEndW U o U' L ({ frames := 2, cells := 4, slots := 8, locals := 29 } : Room).cells ({ frames := 2, cells := 4, slots := 8, locals := 29 } : Room).slots) := by
  refine MetFree.of_bodySF (plainFor_of_name pn_1) hisR ?_
  intro p e s m args below meth c s₁ Bd hml0 hP hK
  obtain ⟨rfl, hZ, hh, HH, hSF⟩ := hP
  have hx := Bd.exec
  have hby := Bd.bytes
  have hml : c.maxLocals = 2 := hml0
  have hown : s.vm.findClass "java/lang/String" = some m.cls := findClass_of_methodNamed Bd.named
  have hnm := (name_of_methodNamed Bd.named Bd.method).1
  have hlk : meth.locks = false := BodyLoose.notSynchronized Bd
  have X0 : Stand p l e ({ frames := 2, cells := 4, slots := 8, locals := 29 } : Room) (s.setVm s.vm) m #[(.ref a1), (.ref a2)] below meth c s₁ [] 0 0 := Stand.of_body Bd
  have e0 : s₁.heap = h0 := by rw [← hh, Bd.state]; rfl
  have N0 := Fr.nil n0
  have KK : Keep h0 h0 [a1] := Keep.refl h0 _
  have hS : s.Since s.vm h0.size := own_since s _
  have hk : h0.size ≤ h0.size := Nat.le_refl _
  have RR : CHr Z EL s.vm h0 s.vm h0 := CHr.refl HH
  have Sf_a1 : Safe Z EL s.vm h0 a1 := hSF _ (List.mem_of_getElem? (i := 0) rfl)
  suffices hgo : GoH p e below s ({ frames := 2, cells := 4, slots := 8, locals := 29 } : Room).cells ({ frames := 2, cells := 4, slots := 8, locals := 29 } : Room).slots Z h0 EL (Q_rmE Z a1 a2 u1 u2 kC h0 n0) s₁ (entryFrame m #[(.ref a1), (.ref a2)] 2) by
    obtain ⟨s₂, o, q1, q2, q3, v, L, q4, q5, q6, q7⟩ := hgo; exact ⟨s₂, o, q1, q2, q3, v, L, q4, q5, hh ▸ q6, q7⟩
  refine GoH.eq (ef_rmE m a1 a2) ?_
  show GoH _ _ _ _ _ _ _ _ _ _  s₁ (mkF m 0 #[.val (.ref a1), .val (.ref a2)] [])
  refine GoH.st (fun t k => XS.aloadN X0.here hx rfl (hb hby d1_0) rfl rfl  k) ?_
  show GoH _ _ _ _ _ _ _ _ _ _  s₁ (mkF m 1 #[.val (.ref a1), .val (.ref a2)] [(.ref a1)])
  refine GoH.st (fun t k => XS.aloadN X0.here hx rfl (hb hby d1_1) rfl rfl  k) ?_
  show GoH _ _ _ _ _ _ _ _ _ _  s₁ (mkF m 2 #[.val (.ref a1), .val (.ref a2)] [(.ref a2), (.ref a1)])
  refine GoH.st (fun t k => XS.iconst X0.here hx rfl (hb hby d1_2) k) ?_
  show GoH _ _ _ _ _ _ _ _ _ _  s₁ (mkF m 3 #[.val (.ref a1), .val (.ref a2)] [(.int (0 : Int32)), (.ref a2), (.ref a1)])
  refine GoH.st (fun t k => XS.aloadN X0.here hx rfl (hb hby d1_3) rfl rfl  k) ?_
  show GoH _ _ _ _ _ _ _ _ _ _  s₁ (mkF m 4 #[.val (.ref a1), .val (.ref a2)] [(.ref a2), (.int (0 : Int32)), (.ref a2), (.ref a1)])
  obtain ⟨cl1, Ar1, q1, S1, M1, Hh1, G1⟩ := id V_a2
  refine GoH.st (X0.arraylength hx (by rw [e0]; exact Ar1.1) (State.isArrayOf_alike hZ.alike Ar1.2.1) (g := (mkF m 4 #[.val (.ref a1), .val (.ref a2)] [(.ref a2), (.int (0 : Int32)), (.ref a2), (.ref a1)])) rfl rfl (hb hby d1_4)) ?_
  rw [len_of S1 M1]
  show GoH _ _ _ _ _ _ _ _ _ _  s₁ (mkF m 5 #[.val (.ref a1), .val (.ref a2)] [(.int (0 : Int32)), (.int (0 : Int32)), (.ref a2), (.ref a1)])
  refine GoH.st (fun t k => XS.aconstNull X0.here hx rfl (hb hby d1_5) k) ?_
  show GoH _ _ _ _ _ _ _ _ _ _  s₁ (mkF m 6 #[.val (.ref a1), .val (.ref a2)] [.null, (.int (0 : Int32)), (.int (0 : Int32)), (.ref a2), (.ref a1)])
  obtain ⟨_, _, ⟨T2, L2, k2, n2⟩, -, X2, hSn2, hgn2, ⟨Lc2, hQ2, l2, y2, z2, CR2⟩, st2⟩ := X0.specialBackS hx (y := (⟨"java/lang/String", "<init>", "([CIILjava/lang/Void;)V"⟩ : MethodName)) rfl hown (mvT hZ (hw _ (List.mem_of_getElem? (i := 7) rfl))) (mvT hZ (hw _ (List.mem_of_getElem? (i := 8) rfl))) (mvT hZ (hw _ (List.mem_of_getElem? (i := 10) rfl))) (by decide) (own_backSH (sf := [a1]) (W := 0) (rmE4 l Z a0 hw [] a1 a2 u1 u2 h0 n0 O hEL wS E_a1 F_value_a1 F_coder_a1 g_a1) hZ (hw _ (List.mem_of_getElem? (i := 10) rfl)) (hw _ (List.mem_of_getElem? (i := 3) rfl)) (by decide) (by decide) hEL HH (allS (P := fun x => Safe Z EL s.vm h0 x ∧ x < Array.size h0) ⟨Sf_a1, E_a1.lt⟩ all0)) (g := (mkF m 6 #[.val (.ref a1), .val (.ref a2)] [.null, (.int (0 : Int32)), (.int (0 : Int32)), (.ref a2), (.ref a1)])) rfl (by rw [hml]; rfl) (Steps.refl _) (a := a1) (argsL := [(.ref a2), (.int (0 : Int32)), (.int (0 : Int32)), .null]) (rest := []) (lenOf pd___CIILjava_lang_Void__V rfl) rfl (by show 2 * 0 + _ ≤ _; exact Nat.le_of_eq rfl) (hb hby d1_6) (fun _ _ => ⟨rfl, e0, (by decide : 0 + 4 ≤ _), (by decide : 0 + 8 ≤ _)⟩)
  dsimp only [Pt.U, Pt.locs, Pt.cells, Pt.slots] at X2 l2 y2 z2 st2 hQ2 hSn2 hgn2 CR2
  subst l2 y2 z2
  obtain ⟨rfl, N2q, K2q, Eq2, Cq2, t2, kt2, Vq2, Aq2⟩ := hQ2
  have X2 : Stand p l e _ (s.setVm T2.vm) m _ below meth c T2 _ _ _ := X2
  have N2 := Fr.app N0 N2q
  refine GoH.tr st2 ?_
  have hS2 := Jvm.RoadKit.foldS hS (by rw [e0]; exact hk) hSn2 hgn2
  have hZ2 := State.Warmed39.trans (t := s.setVm s.vm) hZ hSn2.1
  have hk2 := Nat.le_refl T2.heap.size
  have hown2 : T2.vm.findClass "java/lang/String" = some m.cls := by rw [hSn2.1.alike.findClass]; exact hown
  have Sf_a1 := CHr.safe CR2 E_a1.lt Sf_a1
  have E_a1 := E_a1.keep K2q
  have V_a2 := V_a2.keep K2q (ninS ne_a2_a1 nin0)
  have O := O.keep K2q (allS g_a1 all0)
  have KK := KK.trans K2q (allS (Or.inl (List.mem_of_getElem? (i := 0) rfl)) all0)
  have RR := RR.trans CR2
  have HH := CR2.1
  have hS := hS2
  have hk := hk2
  have hZ := hZ2
  have hown := hown2
  show GoH _ _ _ _ _ _ _ _ _ _  T2 (mkF m 9 #[.val (.ref a1), .val (.ref a2)] [])
  refine GoH.ret0 X2 hS hk rfl hZ hEL HH RR hlk hx Bd.returns (hb hby d1_9) (by decide) (by decide) ?_
  show Q_rmE Z _ _ _ _ _ h0 n0 _ T2.heap _
  exact ⟨rfl, N2, KK, Eq2, Cq2, _, _, Vq2, Aq2⟩
def Q_rmR (Z : State) (a1 : Addr) (h0 : Heap) (n0 : Nat) (v : Option Value) (h : Heap) (L : List Loc) : Prop := v = none ∧ Fr n0 L ∧ h = h0
set_option maxRecDepth 65536 in
set_option maxHeartbeats 40000000 in
theorem rmR (l : Launch) (Z : State) (a0 : Array Value) (hw : ∀ d ∈ tables_1, d.before a0 Z = true) (ws : List Jvm.Cond) (a1 : Addr) (h0 : Heap) (n0 : Nat) (O : Old Z n0 h0) :
    MetFree l (⟨"java/lang/Record", "<init>", "()V"⟩ : MethodName) (head1 (Jvm.Cond.code (⟨"java/lang/Record", "<init>", "()V"⟩ : MethodName) jdk_30_method_1_code 1 none :: ws) ({ frames := 1, cells := 0, slots := 0, locals := 12 } : Room)) (fun a U => a = #[(.ref a1)] ∧ Z.Warmed39 U.vm ∧ U.heap = h0) (fun _ _ _ _ _ => True) (fun _ U o U' => ∃ v L, o = .returned v ∧ Q_rmR Z a1 h0 n0 v U'.heap L ∧ FrameEnd U o U' L ({ frames := 1, cells := 0, slots := 0, locals := 12 } : Room).cells ({ frames := 1, cells := 0, slots := 0, locals := 12 } : Room).slots) := by
  refine MetFree.of_bodySF (plainFor_of_name pn_8) hisR ?_
  intro p e s m args below meth c s₁ Bd hml0 hP hK
  obtain ⟨rfl, hZ, hh⟩ := hP
  have hx := Bd.exec
  have hby := Bd.bytes
  have hml : c.maxLocals = 1 := hml0
  have hown : s.vm.findClass "java/lang/Record" = some m.cls := findClass_of_methodNamed Bd.named
  have hnm := (name_of_methodNamed Bd.named Bd.method).1
  have hlk : meth.locks = false := BodyLoose.notSynchronized Bd
  have X0 : Stand p l e ({ frames := 1, cells := 0, slots := 0, locals := 12 } : Room) s m #[(.ref a1)] below meth c s₁ [] 0 0 := Stand.of_body Bd
  have e0 : s₁.heap = h0 := by rw [← hh, Bd.state]; rfl
  have N0 := Fr.nil n0
  show Go p e below s ({ frames := 1, cells := 0, slots := 0, locals := 12 } : Room).cells ({ frames := 1, cells := 0, slots := 0, locals := 12 } : Room).slots (Q_rmR Z a1 h0 n0) s₁ (entryFrame m #[(.ref a1)] 1)
  refine Go.eq (ef_rmR m a1) ?_
  show Go _ _ _ _ _ _ _  s₁ (mkF m 0 #[.val (.ref a1)] [])
  refine Go.st (fun t k => XS.aloadN X0.here hx rfl (hb hby d8_0) rfl rfl  k) ?_
  show Go _ _ _ _ _ _ _  s₁ (mkF m 1 #[.val (.ref a1)] [(.ref a1)])
  obtain ⟨T1, X1, e1, st1⟩ := initO X0 hx hZ hown (hw _ (List.mem_of_getElem? (i := 50) rfl)) (hw _ (List.mem_of_getElem? (i := 12) rfl)) (hw _ (List.mem_of_getElem? (i := 13) rfl)) e0 (g := (mkF m 1 #[.val (.ref a1)] [(.ref a1)])) rfl (by rw [hml]; rfl) rfl (hb hby d8_1) (by decide) (W := 0) (by show 2 * 0 + _ ≤ _; exact Nat.le_of_eq rfl) (by decide)
  refine Go.st st1 ?_
  show Go _ _ _ _ _ _ _  T1 (mkF m 4 #[.val (.ref a1)] [])
  refine Go.ret0 X1 hlk hx Bd.returns (hb hby d8_4) (by decide) (by decide) ?_
  show Q_rmR Z _ h0 n0 _ T1.heap _
  rw [e1]
  exact ⟨rfl, N0, rfl⟩
def Q_rmA (Z : State) (a1 : Addr) (a2 : Addr) (a3 : Addr) (a4 : Addr) (a5 : Addr) (a6 : Addr) (h0 : Heap) (n0 : Nat) (v : Option Value) (h : Heap) (L : List Loc) : Prop := v = none ∧ Fr n0 L ∧ Keep h0 h [a1] ∧ Exa Z h a1 "com/example/wellness_on_record/wellnessonrecord/apps/App" ∧ Fld Z h a1 "com/example/wellness_on_record/wellnessonrecord/apps/App" "kind" "Lcom/example/wellness_on_record/wellnessonrecord/apps/App$Kind;" (.ref a4)
set_option maxRecDepth 65536 in
set_option maxHeartbeats 40000000 in
theorem rmA (l : Launch) (Z : State) (a0 : Array Value) (hw : ∀ d ∈ tables_1, d.before a0 Z = true) (ws : List Jvm.Cond) (a1 : Addr) (a2 : Addr) (a3 : Addr) (a4 : Addr) (a5 : Addr) (a6 : Addr) (h0 : Heap) (n0 : Nat) (O : Old Z n0 h0) (E_a1 : Exa Z h0 a1 "com/example/wellness_on_record/wellnessonrecord/apps/App") (F_id_a1 : Fld Z h0 a1 "com/example/wellness_on_record/wellnessonrecord/apps/App" "id" "Ljava/lang/String;" .null) (F_name_a1 : Fld Z h0 a1 "com/example/wellness_on_record/wellnessonrecord/apps/App" "name" "Ljava/lang/String;" .null) (F_kind_a1 : Fld Z h0 a1 "com/example/wellness_on_record/wellnessonrecord/apps/App" "kind" "Lcom/example/wellness_on_record/wellnessonrecord/apps/App$Kind;" .null) (F_consumerKey_a1 : Fld Z h0 a1 "com/example/wellness_on_record/wellnessonrecord/apps/App" "consumerKey" "Ljava/lang/String;" .null) (F_consumerSecret_a1 : Fld Z h0 a1 "com/example/wellness_on_record/wellnessonrecord/apps/App" "consumerSecret" "Ljava/lang/String;" .null) (F_autonomous_a1 : Fld Z h0 a1 "com/example/wellness_on_record/wellnessonrecord/apps/App" "autonomous" "Z" (.int (0 : Int32))) (F_autonomousReason_a1 : Fld Z h0 a1 "com/example/wellness_on_record/wellnessonrecord/apps/App" "autonomousReason" "Ljava/lang/String;" .null) (F_hasUi_a1 : Fld Z h0 a1 "com/example/wellness_on_record/wellnessonrecord/apps/App" "hasUi" "Z" (.int (0 : Int32))) (F_callbackUrl_a1 : Fld Z h0 a1 "com/example/wellness_on_record/wellnessonrecord/apps/App" "callbackUrl" "Ljava/lang/String;" .null) (F_startUrlTemplate_a1 : Fld Z h0 a1 "com/example/wellness_on_record/wellnessonrecord/apps/App" "startUrlTemplate" "Ljava/lang/String;" .null) (F_frameable_a1 : Fld Z h0 a1 "com/example/wellness_on_record/wellnessonrecord/apps/App" "frameable" "Z" (.int (0 : Int32))) (g_a1 : n0 ≤ a1) :
    MetFree l (⟨"com/example/wellness_on_record/wellnessonrecord/apps/App", "<init>", "(Ljava/lang/String;Ljava/lang/String;Lcom/example/wellness_on_record/wellnessonrecord/apps/App$Kind;Ljava/lang/String;Ljava/lang/String;ZLjava/lang/String;ZLjava/lang/String;Ljava/lang/String;Z)V"⟩ : MethodName) (head1 (Jvm.Cond.code (⟨"com/example/wellness_on_record/wellnessonrecord/apps/App", "<init>", "(Ljava/lang/String;Ljava/lang/String;Lcom/example/wellness_on_record/wellnessonrecord/apps/App$Kind;Ljava/lang/String;Ljava/lang/String;ZLjava/lang/String;ZLjava/lang/String;Ljava/lang/String;Z)V"⟩ : MethodName) prog_13_method_1_code 12 none :: ws) ({ frames := 2, cells := 0, slots := 0, locals := 24 } : Room)) (fun a U => a = #[(.ref a1), (.ref a2), (.ref a3), (.ref a4), (.ref a5), (.ref a6), (.int (0 : Int32)), .null, (.int (0 : Int32)), .null, .null, (.int (0 : Int32))] ∧ Z.Warmed39 U.vm ∧ U.heap = h0) (fun _ _ _ _ _ => True) (fun _ U o U' => ∃ v L, o = .returned v ∧ Q_rmA Z a1 a2 a3 a4 a5 a6 h0 n0 v U'.heap L ∧ FrameEnd U o U' L ({ frames := 2, cells := 0, slots := 0, locals := 24 } : Room).cells ({ frames := 2, cells := 0, slots := 0, locals := 24 } : Room).slots) := by
  refine MetFree.of_bodySF (plainFor_of_name pn_7) hisR ?_
  intro p e s m args below meth c s₁ Bd hml0 hP hK
  obtain ⟨rfl, hZ, hh⟩ := hP
  have hx := Bd.exec
  have hby := Bd.bytes
  have hml : c.maxLocals = 12 := hml0
  have hown : s.vm.findClass "com/example/wellness_on_record/wellnessonrecord/apps/App" = some m.cls := findClass_of_methodNamed Bd.named
  have hnm := (name_of_methodNamed Bd.named Bd.method).1
  have hlk : meth.locks = false := BodyLoose.notSynchronized Bd
  have X0 : Stand p l e ({ frames := 2, cells := 0, slots := 0, locals := 24 } : Room) s m #[(.ref a1), (.ref a2), (.ref a3), (.ref a4), (.ref a5), (.ref a6), (.int (0 : Int32)), .null, (.int (0 : Int32)), .null, .null, (.int (0 : Int32))] below meth c s₁ [] 0 0 := Stand.of_body Bd
  have e0 : s₁.heap = h0 := by rw [← hh, Bd.state]; rfl
  have N0 := Fr.nil n0
  have KK : Keep h0 h0 [a1] := Keep.refl h0 _
  show Go p e below s ({ frames := 2, cells := 0, slots := 0, locals := 24 } : Room).cells ({ frames := 2, cells := 0, slots := 0, locals := 24 } : Room).slots (Q_rmA Z a1 a2 a3 a4 a5 a6 h0 n0) s₁ (entryFrame m #[(.ref a1), (.ref a2), (.ref a3), (.ref a4), (.ref a5), (.ref a6), (.int (0 : Int32)), .null, (.int (0 : Int32)), .null, .null, (.int (0 : Int32))] 12)
  refine Go.eq (ef_rmA m a1 a2 a3 a4 a5 a6) ?_
  show Go _ _ _ _ _ _ _  s₁ (mkF m 0 #[.val (.ref a1), .val (.ref a2), .val (.ref a3), .val (.ref a4), .val (.ref a5), .val (.ref a6), .val (.int (0 : Int32)), .val .null, .val (.int (0 : Int32)), .val .null, .val .null, .val (.int (0 : Int32))] [])
  refine Go.st (fun t k => XS.aloadN X0.here hx rfl (hb hby d7_0) rfl rfl  k) ?_
  show Go _ _ _ _ _ _ _  s₁ (mkF m 1 #[.val (.ref a1), .val (.ref a2), .val (.ref a3), .val (.ref a4), .val (.ref a5), .val (.ref a6), .val (.int (0 : Int32)), .val .null, .val (.int (0 : Int32)), .val .null, .val .null, .val (.int (0 : Int32))] [(.ref a1)])
  obtain ⟨_, _, ⟨T1, L1, k1, n1⟩, -, X1, ⟨Lc1, hQ1, l1, y1, z1⟩, st1⟩ := X0.specialBack hx (y := (⟨"java/lang/Record", "<init>", "()V"⟩ : MethodName)) rfl hown (mvT hZ (hw _ (List.mem_of_getElem? (i := 45) rfl))) (mvT hZ (hw _ (List.mem_of_getElem? (i := 46) rfl))) (mvT hZ (hw _ (List.mem_of_getElem? (i := 49) rfl))) (by decide) (backOf (W := 0) (rmR l Z a0 hw [] a1 h0 n0 O) hZ (hw _ (List.mem_of_getElem? (i := 49) rfl)) (hw _ (List.mem_of_getElem? (i := 48) rfl)) (by decide) (by decide)) (g := (mkF m 1 #[.val (.ref a1), .val (.ref a2), .val (.ref a3), .val (.ref a4), .val (.ref a5), .val (.ref a6), .val (.int (0 : Int32)), .val .null, .val (.int (0 : Int32)), .val .null, .val .null, .val (.int (0 : Int32))] [(.ref a1)])) rfl (by rw [hml]; rfl) (Steps.refl _) (a := a1) (argsL := []) (rest := []) (lenOf pd___V rfl) rfl (by show 2 * 0 + _ ≤ _; exact Nat.le_of_eq rfl) (hb hby d7_1) (fun _ _ => ⟨rfl, e0, (by decide : 0 + 0 ≤ _), (by decide : 0 + 0 ≤ _)⟩)
  dsimp only [Pt.U, Pt.locs, Pt.cells, Pt.slots] at X1 l1 y1 z1 st1 hQ1
  subst l1 y1 z1
  obtain ⟨rfl, N1q, e1q⟩ := hQ1
  have N1 := Fr.app N0 N1q
  refine Go.tr st1 ?_
  show Go _ _ _ _ _ _ _  T1 (mkF m 4 #[.val (.ref a1), .val (.ref a2), .val (.ref a3), .val (.ref a4), .val (.ref a5), .val (.ref a6), .val (.int (0 : Int32)), .val .null, .val (.int (0 : Int32)), .val .null, .val .null, .val (.int (0 : Int32))] [])
  refine Go.st (fun t k => XS.aloadN X1.here hx rfl (hb hby d7_4) rfl rfl  k) ?_
  show Go _ _ _ _ _ _ _  T1 (mkF m 5 #[.val (.ref a1), .val (.ref a2), .val (.ref a3), .val (.ref a4), .val (.ref a5), .val (.ref a6), .val (.int (0 : Int32)), .val .null, .val (.int (0 : Int32)), .val .null, .val .null, .val (.int (0 : Int32))] [(.ref a1)])
  refine Go.st (fun t k => XS.aloadN X1.here hx rfl (hb hby d7_5) rfl rfl  k) ?_
  show Go _ _ _ _ _ _ _  T1 (mkF m 6 #[.val (.ref a1), .val (.ref a2), .val (.ref a3), .val (.ref a4), .val (.ref a5), .val (.ref a6), .val (.int (0 : Int32)), .val .null, .val (.int (0 : Int32)), .val .null, .val .null, .val (.int (0 : Int32))] [(.ref a2), (.ref a1)])
  obtain ⟨T2, h2, X2, e2, W2, st2⟩ := putF X1 hx hZ hown (host := "") (Or.inl (hw _ (List.mem_of_getElem? (i := 51) rfl))) Via.refl e1q F_id_a1 E_a1 (Or.inr ⟨(hw _ (List.mem_of_getElem? (i := 52) rfl)), rfl, hnm⟩) (hw _ (List.mem_of_getElem? (i := 34) rfl)) (ty := (.object "java/lang/String")) (by decide) rfl rfl (g := (mkF m 6 #[.val (.ref a1), .val (.ref a2), .val (.ref a3), .val (.ref a4), .val (.ref a5), .val (.ref a6), .val (.int (0 : Int32)), .val .null, .val (.int (0 : Int32)), .val .null, .val .null, .val (.int (0 : Int32))] [(.ref a2), (.ref a1)])) rfl rfl (hb hby d7_6)
  refine Go.st st2 ?_
  have F_id_a1 : Fld Z h2 a1 "com/example/wellness_on_record/wellnessonrecord/apps/App" "id" "Ljava/lang/String;" (.ref a2) := F_id_a1.same W2
  have N2 := Fr.snoc X2 N1 g_a1
  have E_a1 := E_a1.wr W2
  have F_name_a1 := F_name_a1.other W2 (Or.inr (slot_ne (Or.inr (hw _ (List.mem_of_getElem? (i := 54) rfl))) (Or.inr (hw _ (List.mem_of_getElem? (i := 52) rfl))) (by decide) (t := (.object "java/lang/String")) (t' := (.object "java/lang/String")) (by decide) (by decide)))
  have F_kind_a1 := F_kind_a1.other W2 (Or.inr (slot_ne (Or.inr (hw _ (List.mem_of_getElem? (i := 56) rfl))) (Or.inr (hw _ (List.mem_of_getElem? (i := 52) rfl))) (by decide) (t := (.object "com/example/wellness_on_record/wellnessonrecord/apps/App$Kind")) (t' := (.object "java/lang/String")) (by decide) (by decide)))
  have F_consumerKey_a1 := F_consumerKey_a1.other W2 (Or.inr (slot_ne (Or.inr (hw _ (List.mem_of_getElem? (i := 58) rfl))) (Or.inr (hw _ (List.mem_of_getElem? (i := 52) rfl))) (by decide) (t := (.object "java/lang/String")) (t' := (.object "java/lang/String")) (by decide) (by decide)))
  have F_consumerSecret_a1 := F_consumerSecret_a1.other W2 (Or.inr (slot_ne (Or.inr (hw _ (List.mem_of_getElem? (i := 60) rfl))) (Or.inr (hw _ (List.mem_of_getElem? (i := 52) rfl))) (by decide) (t := (.object "java/lang/String")) (t' := (.object "java/lang/String")) (by decide) (by decide)))
  have F_autonomous_a1 := F_autonomous_a1.other W2 (Or.inr (slot_ne (Or.inr (hw _ (List.mem_of_getElem? (i := 62) rfl))) (Or.inr (hw _ (List.mem_of_getElem? (i := 52) rfl))) (by decide) (t := .boolean) (t' := (.object "java/lang/String")) (by decide) (by decide)))
  have F_autonomousReason_a1 := F_autonomousReason_a1.other W2 (Or.inr (slot_ne (Or.inr (hw _ (List.mem_of_getElem? (i := 64) rfl))) (Or.inr (hw _ (List.mem_of_getElem? (i := 52) rfl))) (by decide) (t := (.object "java/lang/String")) (t' := (.object "java/lang/String")) (by decide) (by decide)))
  have F_hasUi_a1 := F_hasUi_a1.other W2 (Or.inr (slot_ne (Or.inr (hw _ (List.mem_of_getElem? (i := 66) rfl))) (Or.inr (hw _ (List.mem_of_getElem? (i := 52) rfl))) (by decide) (t := .boolean) (t' := (.object "java/lang/String")) (by decide) (by decide)))
  have F_callbackUrl_a1 := F_callbackUrl_a1.other W2 (Or.inr (slot_ne (Or.inr (hw _ (List.mem_of_getElem? (i := 68) rfl))) (Or.inr (hw _ (List.mem_of_getElem? (i := 52) rfl))) (by decide) (t := (.object "java/lang/String")) (t' := (.object "java/lang/String")) (by decide) (by decide)))
  have F_startUrlTemplate_a1 := F_startUrlTemplate_a1.other W2 (Or.inr (slot_ne (Or.inr (hw _ (List.mem_of_getElem? (i := 70) rfl))) (Or.inr (hw _ (List.mem_of_getElem? (i := 52) rfl))) (by decide) (t := (.object "java/lang/String")) (t' := (.object "java/lang/String")) (by decide) (by decide)))
  have F_frameable_a1 := F_frameable_a1.other W2 (Or.inr (slot_ne (Or.inr (hw _ (List.mem_of_getElem? (i := 72) rfl))) (Or.inr (hw _ (List.mem_of_getElem? (i := 52) rfl))) (by decide) (t := .boolean) (t' := (.object "java/lang/String")) (by decide) (by decide)))
  have O := O.wr W2 g_a1
  have KK := KK.wr W2 (Or.inl (List.mem_of_getElem? (i := 0) rfl))
  show Go _ _ _ _ _ _ _  T2 (mkF m 9 #[.val (.ref a1), .val (.ref a2), .val (.ref a3), .val (.ref a4), .val (.ref a5), .val (.ref a6), .val (.int (0 : Int32)), .val .null, .val (.int (0 : Int32)), .val .null, .val .null, .val (.int (0 : Int32))] [])
  refine Go.st (fun t k => XS.aloadN X2.here hx rfl (hb hby d7_9) rfl rfl  k) ?_
  show Go _ _ _ _ _ _ _  T2 (mkF m 10 #[.val (.ref a1), .val (.ref a2), .val (.ref a3), .val (.ref a4), .val (.ref a5), .val (.ref a6), .val (.int (0 : Int32)), .val .null, .val (.int (0 : Int32)), .val .null, .val .null, .val (.int (0 : Int32))] [(.ref a1)])
  refine Go.st (fun t k => XS.aloadN X2.here hx rfl (hb hby d7_10) rfl rfl  k) ?_
  show Go _ _ _ _ _ _ _  T2 (mkF m 11 #[.val (.ref a1), .val (.ref a2), .val (.ref a3), .val (.ref a4), .val (.ref a5), .val (.ref a6), .val (.int (0 : Int32)), .val .null, .val (.int (0 : Int32)), .val .null, .val .null, .val (.int (0 : Int32))] [(.ref a3), (.ref a1)])
  obtain ⟨T3, h3, X3, e3, W3, st3⟩ := putF X2 hx hZ hown (host := "") (Or.inl (hw _ (List.mem_of_getElem? (i := 53) rfl))) Via.refl e2 F_name_a1 E_a1 (Or.inr ⟨(hw _ (List.mem_of_getElem? (i := 54) rfl)), rfl, hnm⟩) (hw _ (List.mem_of_getElem? (i := 34) rfl)) (ty := (.object "java/lang/String")) (by decide) rfl rfl (g := (mkF m 11 #[.val (.ref a1), .val (.ref a2), .val (.ref a3), .val (.ref a4), .val (.ref a5), .val (.ref a6), .val (.int (0 : Int32)), .val .null, .val (.int (0 : Int32)), .val .null, .val .null, .val (.int (0 : Int32))] [(.ref a3), (.ref a1)])) rfl rfl (hb hby d7_11)
  refine Go.st st3 ?_
  have F_name_a1 : Fld Z h3 a1 "com/example/wellness_on_record/wellnessonrecord/apps/App" "name" "Ljava/lang/String;" (.ref a3) := F_name_a1.same W3
  have N3 := Fr.snoc X3 N2 g_a1
  have E_a1 := E_a1.wr W3
  have F_kind_a1 := F_kind_a1.other W3 (Or.inr (slot_ne (Or.inr (hw _ (List.mem_of_getElem? (i := 56) rfl))) (Or.inr (hw _ (List.mem_of_getElem? (i := 54) rfl))) (by decide) (t := (.object "com/example/wellness_on_record/wellnessonrecord/apps/App$Kind")) (t' := (.object "java/lang/String")) (by decide) (by decide)))
  have F_consumerKey_a1 := F_consumerKey_a1.other W3 (Or.inr (slot_ne (Or.inr (hw _ (List.mem_of_getElem? (i := 58) rfl))) (Or.inr (hw _ (List.mem_of_getElem? (i := 54) rfl))) (by decide) (t := (.object "java/lang/String")) (t' := (.object "java/lang/String")) (by decide) (by decide)))
  have F_consumerSecret_a1 := F_consumerSecret_a1.other W3 (Or.inr (slot_ne (Or.inr (hw _ (List.mem_of_getElem? (i := 60) rfl))) (Or.inr (hw _ (List.mem_of_getElem? (i := 54) rfl))) (by decide) (t := (.object "java/lang/String")) (t' := (.object "java/lang/String")) (by decide) (by decide)))
  have F_autonomous_a1 := F_autonomous_a1.other W3 (Or.inr (slot_ne (Or.inr (hw _ (List.mem_of_getElem? (i := 62) rfl))) (Or.inr (hw _ (List.mem_of_getElem? (i := 54) rfl))) (by decide) (t := .boolean) (t' := (.object "java/lang/String")) (by decide) (by decide)))
  have F_autonomousReason_a1 := F_autonomousReason_a1.other W3 (Or.inr (slot_ne (Or.inr (hw _ (List.mem_of_getElem? (i := 64) rfl))) (Or.inr (hw _ (List.mem_of_getElem? (i := 54) rfl))) (by decide) (t := (.object "java/lang/String")) (t' := (.object "java/lang/String")) (by decide) (by decide)))
  have F_hasUi_a1 := F_hasUi_a1.other W3 (Or.inr (slot_ne (Or.inr (hw _ (List.mem_of_getElem? (i := 66) rfl))) (Or.inr (hw _ (List.mem_of_getElem? (i := 54) rfl))) (by decide) (t := .boolean) (t' := (.object "java/lang/String")) (by decide) (by decide)))
  have F_callbackUrl_a1 := F_callbackUrl_a1.other W3 (Or.inr (slot_ne (Or.inr (hw _ (List.mem_of_getElem? (i := 68) rfl))) (Or.inr (hw _ (List.mem_of_getElem? (i := 54) rfl))) (by decide) (t := (.object "java/lang/String")) (t' := (.object "java/lang/String")) (by decide) (by decide)))
  have F_startUrlTemplate_a1 := F_startUrlTemplate_a1.other W3 (Or.inr (slot_ne (Or.inr (hw _ (List.mem_of_getElem? (i := 70) rfl))) (Or.inr (hw _ (List.mem_of_getElem? (i := 54) rfl))) (by decide) (t := (.object "java/lang/String")) (t' := (.object "java/lang/String")) (by decide) (by decide)))
  have F_frameable_a1 := F_frameable_a1.other W3 (Or.inr (slot_ne (Or.inr (hw _ (List.mem_of_getElem? (i := 72) rfl))) (Or.inr (hw _ (List.mem_of_getElem? (i := 54) rfl))) (by decide) (t := .boolean) (t' := (.object "java/lang/String")) (by decide) (by decide)))
  have O := O.wr W3 g_a1
  have KK := KK.wr W3 (Or.inl (List.mem_of_getElem? (i := 0) rfl))
  show Go _ _ _ _ _ _ _  T3 (mkF m 14 #[.val (.ref a1), .val (.ref a2), .val (.ref a3), .val (.ref a4), .val (.ref a5), .val (.ref a6), .val (.int (0 : Int32)), .val .null, .val (.int (0 : Int32)), .val .null, .val .null, .val (.int (0 : Int32))] [])
  refine Go.st (fun t k => XS.aloadN X3.here hx rfl (hb hby d7_14) rfl rfl  k) ?_
  show Go _ _ _ _ _ _ _  T3 (mkF m 15 #[.val (.ref a1), .val (.ref a2), .val (.ref a3), .val (.ref a4), .val (.ref a5), .val (.ref a6), .val (.int (0 : Int32)), .val .null, .val (.int (0 : Int32)), .val .null, .val .null, .val (.int (0 : Int32))] [(.ref a1)])
  refine Go.st (fun t k => XS.aloadN X3.here hx rfl (hb hby d7_15) rfl rfl  k) ?_
  show Go _ _ _ _ _ _ _  T3 (mkF m 16 #[.val (.ref a1), .val (.ref a2), .val (.ref a3), .val (.ref a4), .val (.ref a5), .val (.ref a6), .val (.int (0 : Int32)), .val .null, .val (.int (0 : Int32)), .val .null, .val .null, .val (.int (0 : Int32))] [(.ref a4), (.ref a1)])
  obtain ⟨T4, h4, X4, e4, W4, st4⟩ := putF X3 hx hZ hown (host := "") (Or.inl (hw _ (List.mem_of_getElem? (i := 55) rfl))) Via.refl e3 F_kind_a1 E_a1 (Or.inr ⟨(hw _ (List.mem_of_getElem? (i := 56) rfl)), rfl, hnm⟩) (hw _ (List.mem_of_getElem? (i := 34) rfl)) (ty := (.object "com/example/wellness_on_record/wellnessonrecord/apps/App$Kind")) (by decide) rfl rfl (g := (mkF m 16 #[.val (.ref a1), .val (.ref a2), .val (.ref a3), .val (.ref a4), .val (.ref a5), .val (.ref a6), .val (.int (0 : Int32)), .val .null, .val (.int (0 : Int32)), .val .null, .val .null, .val (.int (0 : Int32))] [(.ref a4), (.ref a1)])) rfl rfl (hb hby d7_16)
  refine Go.st st4 ?_
  have F_kind_a1 : Fld Z h4 a1 "com/example/wellness_on_record/wellnessonrecord/apps/App" "kind" "Lcom/example/wellness_on_record/wellnessonrecord/apps/App$Kind;" (.ref a4) := F_kind_a1.same W4
  have N4 := Fr.snoc X4 N3 g_a1
  have E_a1 := E_a1.wr W4
  have F_consumerKey_a1 := F_consumerKey_a1.other W4 (Or.inr (slot_ne (Or.inr (hw _ (List.mem_of_getElem? (i := 58) rfl))) (Or.inr (hw _ (List.mem_of_getElem? (i := 56) rfl))) (by decide) (t := (.object "java/lang/String")) (t' := (.object "com/example/wellness_on_record/wellnessonrecord/apps/App$Kind")) (by decide) (by decide)))
  have F_consumerSecret_a1 := F_consumerSecret_a1.other W4 (Or.inr (slot_ne (Or.inr (hw _ (List.mem_of_getElem? (i := 60) rfl))) (Or.inr (hw _ (List.mem_of_getElem? (i := 56) rfl))) (by decide) (t := (.object "java/lang/String")) (t' := (.object "com/example/wellness_on_record/wellnessonrecord/apps/App$Kind")) (by decide) (by decide)))
  have F_autonomous_a1 := F_autonomous_a1.other W4 (Or.inr (slot_ne (Or.inr (hw _ (List.mem_of_getElem? (i := 62) rfl))) (Or.inr (hw _ (List.mem_of_getElem? (i := 56) rfl))) (by decide) (t := .boolean) (t' := (.object "com/example/wellness_on_record/wellnessonrecord/apps/App$Kind")) (by decide) (by decide)))
  have F_autonomousReason_a1 := F_autonomousReason_a1.other W4 (Or.inr (slot_ne (Or.inr (hw _ (List.mem_of_getElem? (i := 64) rfl))) (Or.inr (hw _ (List.mem_of_getElem? (i := 56) rfl))) (by decide) (t := (.object "java/lang/String")) (t' := (.object "com/example/wellness_on_record/wellnessonrecord/apps/App$Kind")) (by decide) (by decide)))
  have F_hasUi_a1 := F_hasUi_a1.other W4 (Or.inr (slot_ne (Or.inr (hw _ (List.mem_of_getElem? (i := 66) rfl))) (Or.inr (hw _ (List.mem_of_getElem? (i := 56) rfl))) (by decide) (t := .boolean) (t' := (.object "com/example/wellness_on_record/wellnessonrecord/apps/App$Kind")) (by decide) (by decide)))
  have F_callbackUrl_a1 := F_callbackUrl_a1.other W4 (Or.inr (slot_ne (Or.inr (hw _ (List.mem_of_getElem? (i := 68) rfl))) (Or.inr (hw _ (List.mem_of_getElem? (i := 56) rfl))) (by decide) (t := (.object "java/lang/String")) (t' := (.object "com/example/wellness_on_record/wellnessonrecord/apps/App$Kind")) (by decide) (by decide)))
  have F_startUrlTemplate_a1 := F_startUrlTemplate_a1.other W4 (Or.inr (slot_ne (Or.inr (hw _ (List.mem_of_getElem? (i := 70) rfl))) (Or.inr (hw _ (List.mem_of_getElem? (i := 56) rfl))) (by decide) (t := (.object "java/lang/String")) (t' := (.object "com/example/wellness_on_record/wellnessonrecord/apps/App$Kind")) (by decide) (by decide)))
  have F_frameable_a1 := F_frameable_a1.other W4 (Or.inr (slot_ne (Or.inr (hw _ (List.mem_of_getElem? (i := 72) rfl))) (Or.inr (hw _ (List.mem_of_getElem? (i := 56) rfl))) (by decide) (t := .boolean) (t' := (.object "com/example/wellness_on_record/wellnessonrecord/apps/App$Kind")) (by decide) (by decide)))
  have O := O.wr W4 g_a1
  have KK := KK.wr W4 (Or.inl (List.mem_of_getElem? (i := 0) rfl))
  show Go _ _ _ _ _ _ _  T4 (mkF m 19 #[.val (.ref a1), .val (.ref a2), .val (.ref a3), .val (.ref a4), .val (.ref a5), .val (.ref a6), .val (.int (0 : Int32)), .val .null, .val (.int (0 : Int32)), .val .null, .val .null, .val (.int (0 : Int32))] [])
  refine Go.st (fun t k => XS.aloadN X4.here hx rfl (hb hby d7_19) rfl rfl  k) ?_
  show Go _ _ _ _ _ _ _  T4 (mkF m 20 #[.val (.ref a1), .val (.ref a2), .val (.ref a3), .val (.ref a4), .val (.ref a5), .val (.ref a6), .val (.int (0 : Int32)), .val .null, .val (.int (0 : Int32)), .val .null, .val .null, .val (.int (0 : Int32))] [(.ref a1)])
  refine Go.st (fun t k => XS.aload X4.here hx rfl (hb hby d7_20) rfl rfl  k) ?_
  show Go _ _ _ _ _ _ _  T4 (mkF m 22 #[.val (.ref a1), .val (.ref a2), .val (.ref a3), .val (.ref a4), .val (.ref a5), .val (.ref a6), .val (.int (0 : Int32)), .val .null, .val (.int (0 : Int32)), .val .null, .val .null, .val (.int (0 : Int32))] [(.ref a5), (.ref a1)])
  obtain ⟨T5, h5, X5, e5, W5, st5⟩ := putF X4 hx hZ hown (host := "") (Or.inl (hw _ (List.mem_of_getElem? (i := 57) rfl))) Via.refl e4 F_consumerKey_a1 E_a1 (Or.inr ⟨(hw _ (List.mem_of_getElem? (i := 58) rfl)), rfl, hnm⟩) (hw _ (List.mem_of_getElem? (i := 34) rfl)) (ty := (.object "java/lang/String")) (by decide) rfl rfl (g := (mkF m 22 #[.val (.ref a1), .val (.ref a2), .val (.ref a3), .val (.ref a4), .val (.ref a5), .val (.ref a6), .val (.int (0 : Int32)), .val .null, .val (.int (0 : Int32)), .val .null, .val .null, .val (.int (0 : Int32))] [(.ref a5), (.ref a1)])) rfl rfl (hb hby d7_22)
  refine Go.st st5 ?_
  have F_consumerKey_a1 : Fld Z h5 a1 "com/example/wellness_on_record/wellnessonrecord/apps/App" "consumerKey" "Ljava/lang/String;" (.ref a5) := F_consumerKey_a1.same W5
  have N5 := Fr.snoc X5 N4 g_a1
  have E_a1 := E_a1.wr W5
  have F_kind_a1 := F_kind_a1.other W5 (Or.inr (slot_ne (Or.inr (hw _ (List.mem_of_getElem? (i := 56) rfl))) (Or.inr (hw _ (List.mem_of_getElem? (i := 58) rfl))) (by decide) (t := (.object "com/example/wellness_on_record/wellnessonrecord/apps/App$Kind")) (t' := (.object "java/lang/String")) (by decide) (by decide)))
  have F_consumerSecret_a1 := F_consumerSecret_a1.other W5 (Or.inr (slot_ne (Or.inr (hw _ (List.mem_of_getElem? (i := 60) rfl))) (Or.inr (hw _ (List.mem_of_getElem? (i := 58) rfl))) (by decide) (t := (.object "java/lang/String")) (t' := (.object "java/lang/String")) (by decide) (by decide)))
  have F_autonomous_a1 := F_autonomous_a1.other W5 (Or.inr (slot_ne (Or.inr (hw _ (List.mem_of_getElem? (i := 62) rfl))) (Or.inr (hw _ (List.mem_of_getElem? (i := 58) rfl))) (by decide) (t := .boolean) (t' := (.object "java/lang/String")) (by decide) (by decide)))
  have F_autonomousReason_a1 := F_autonomousReason_a1.other W5 (Or.inr (slot_ne (Or.inr (hw _ (List.mem_of_getElem? (i := 64) rfl))) (Or.inr (hw _ (List.mem_of_getElem? (i := 58) rfl))) (by decide) (t := (.object "java/lang/String")) (t' := (.object "java/lang/String")) (by decide) (by decide)))
  have F_hasUi_a1 := F_hasUi_a1.other W5 (Or.inr (slot_ne (Or.inr (hw _ (List.mem_of_getElem? (i := 66) rfl))) (Or.inr (hw _ (List.mem_of_getElem? (i := 58) rfl))) (by decide) (t := .boolean) (t' := (.object "java/lang/String")) (by decide) (by decide)))
  have F_callbackUrl_a1 := F_callbackUrl_a1.other W5 (Or.inr (slot_ne (Or.inr (hw _ (List.mem_of_getElem? (i := 68) rfl))) (Or.inr (hw _ (List.mem_of_getElem? (i := 58) rfl))) (by decide) (t := (.object "java/lang/String")) (t' := (.object "java/lang/String")) (by decide) (by decide)))
  have F_startUrlTemplate_a1 := F_startUrlTemplate_a1.other W5 (Or.inr (slot_ne (Or.inr (hw _ (List.mem_of_getElem? (i := 70) rfl))) (Or.inr (hw _ (List.mem_of_getElem? (i := 58) rfl))) (by decide) (t := (.object "java/lang/String")) (t' := (.object "java/lang/String")) (by decide) (by decide)))
  have F_frameable_a1 := F_frameable_a1.other W5 (Or.inr (slot_ne (Or.inr (hw _ (List.mem_of_getElem? (i := 72) rfl))) (Or.inr (hw _ (List.mem_of_getElem? (i := 58) rfl))) (by decide) (t := .boolean) (t' := (.object "java/lang/String")) (by decide) (by decide)))
  have O := O.wr W5 g_a1
  have KK := KK.wr W5 (Or.inl (List.mem_of_getElem? (i := 0) rfl))
  show Go _ _ _ _ _ _ _  T5 (mkF m 25 #[.val (.ref a1), .val (.ref a2), .val (.ref a3), .val (.ref a4), .val (.ref a5), .val (.ref a6), .val (.int (0 : Int32)), .val .null, .val (.int (0 : Int32)), .val .null, .val .null, .val (.int (0 : Int32))] [])
  refine Go.st (fun t k => XS.aloadN X5.here hx rfl (hb hby d7_25) rfl rfl  k) ?_
  show Go _ _ _ _ _ _ _  T5 (mkF m 26 #[.val (.ref a1), .val (.ref a2), .val (.ref a3), .val (.ref a4), .val (.ref a5), .val (.ref a6), .val (.int (0 : Int32)), .val .null, .val (.int (0 : Int32)), .val .null, .val .null, .val (.int (0 : Int32))] [(.ref a1)])
  refine Go.st (fun t k => XS.aload X5.here hx rfl (hb hby d7_26) rfl rfl  k) ?_
  show Go _ _ _ _ _ _ _  T5 (mkF m 28 #[.val (.ref a1), .val (.ref a2), .val (.ref a3), .val (.ref a4), .val (.ref a5), .val (.ref a6), .val (.int (0 : Int32)), .val .null, .val (.int (0 : Int32)), .val .null, .val .null, .val (.int (0 : Int32))] [(.ref a6), (.ref a1)])
  obtain ⟨T6, h6, X6, e6, W6, st6⟩ := putF X5 hx hZ hown (host := "") (Or.inl (hw _ (List.mem_of_getElem? (i := 59) rfl))) Via.refl e5 F_consumerSecret_a1 E_a1 (Or.inr ⟨(hw _ (List.mem_of_getElem? (i := 60) rfl)), rfl, hnm⟩) (hw _ (List.mem_of_getElem? (i := 34) rfl)) (ty := (.object "java/lang/String")) (by decide) rfl rfl (g := (mkF m 28 #[.val (.ref a1), .val (.ref a2), .val (.ref a3), .val (.ref a4), .val (.ref a5), .val (.ref a6), .val (.int (0 : Int32)), .val .null, .val (.int (0 : Int32)), .val .null, .val .null, .val (.int (0 : Int32))] [(.ref a6), (.ref a1)])) rfl rfl (hb hby d7_28)
  refine Go.st st6 ?_
  have F_consumerSecret_a1 : Fld Z h6 a1 "com/example/wellness_on_record/wellnessonrecord/apps/App" "consumerSecret" "Ljava/lang/String;" (.ref a6) := F_consumerSecret_a1.same W6
  have N6 := Fr.snoc X6 N5 g_a1
  have E_a1 := E_a1.wr W6
  have F_kind_a1 := F_kind_a1.other W6 (Or.inr (slot_ne (Or.inr (hw _ (List.mem_of_getElem? (i := 56) rfl))) (Or.inr (hw _ (List.mem_of_getElem? (i := 60) rfl))) (by decide) (t := (.object "com/example/wellness_on_record/wellnessonrecord/apps/App$Kind")) (t' := (.object "java/lang/String")) (by decide) (by decide)))
  have F_autonomous_a1 := F_autonomous_a1.other W6 (Or.inr (slot_ne (Or.inr (hw _ (List.mem_of_getElem? (i := 62) rfl))) (Or.inr (hw _ (List.mem_of_getElem? (i := 60) rfl))) (by decide) (t := .boolean) (t' := (.object "java/lang/String")) (by decide) (by decide)))
  have F_autonomousReason_a1 := F_autonomousReason_a1.other W6 (Or.inr (slot_ne (Or.inr (hw _ (List.mem_of_getElem? (i := 64) rfl))) (Or.inr (hw _ (List.mem_of_getElem? (i := 60) rfl))) (by decide) (t := (.object "java/lang/String")) (t' := (.object "java/lang/String")) (by decide) (by decide)))
  have F_hasUi_a1 := F_hasUi_a1.other W6 (Or.inr (slot_ne (Or.inr (hw _ (List.mem_of_getElem? (i := 66) rfl))) (Or.inr (hw _ (List.mem_of_getElem? (i := 60) rfl))) (by decide) (t := .boolean) (t' := (.object "java/lang/String")) (by decide) (by decide)))
  have F_callbackUrl_a1 := F_callbackUrl_a1.other W6 (Or.inr (slot_ne (Or.inr (hw _ (List.mem_of_getElem? (i := 68) rfl))) (Or.inr (hw _ (List.mem_of_getElem? (i := 60) rfl))) (by decide) (t := (.object "java/lang/String")) (t' := (.object "java/lang/String")) (by decide) (by decide)))
  have F_startUrlTemplate_a1 := F_startUrlTemplate_a1.other W6 (Or.inr (slot_ne (Or.inr (hw _ (List.mem_of_getElem? (i := 70) rfl))) (Or.inr (hw _ (List.mem_of_getElem? (i := 60) rfl))) (by decide) (t := (.object "java/lang/String")) (t' := (.object "java/lang/String")) (by decide) (by decide)))
  have F_frameable_a1 := F_frameable_a1.other W6 (Or.inr (slot_ne (Or.inr (hw _ (List.mem_of_getElem? (i := 72) rfl))) (Or.inr (hw _ (List.mem_of_getElem? (i := 60) rfl))) (by decide) (t := .boolean) (t' := (.object "java/lang/String")) (by decide) (by decide)))
  have O := O.wr W6 g_a1
  have KK := KK.wr W6 (Or.inl (List.mem_of_getElem? (i := 0) rfl))
  show Go _ _ _ _ _ _ _  T6 (mkF m 31 #[.val (.ref a1), .val (.ref a2), .val (.ref a3), .val (.ref a4), .val (.ref a5), .val (.ref a6), .val (.int (0 : Int32)), .val .null, .val (.int (0 : Int32)), .val .null, .val .null, .val (.int (0 : Int32))] [])
  refine Go.st (fun t k => XS.aloadN X6.here hx rfl (hb hby d7_31) rfl rfl  k) ?_
  show Go _ _ _ _ _ _ _  T6 (mkF m 32 #[.val (.ref a1), .val (.ref a2), .val (.ref a3), .val (.ref a4), .val (.ref a5), .val (.ref a6), .val (.int (0 : Int32)), .val .null, .val (.int (0 : Int32)), .val .null, .val .null, .val (.int (0 : Int32))] [(.ref a1)])
  refine Go.st (fun t k => XS.iload X6.here hx rfl (hb hby d7_32) rfl  k) ?_
  show Go _ _ _ _ _ _ _  T6 (mkF m 34 #[.val (.ref a1), .val (.ref a2), .val (.ref a3), .val (.ref a4), .val (.ref a5), .val (.ref a6), .val (.int (0 : Int32)), .val .null, .val (.int (0 : Int32)), .val .null, .val .null, .val (.int (0 : Int32))] [(.int (0 : Int32)), (.ref a1)])
  obtain ⟨T7, h7, X7, e7, W7, st7⟩ := putFN X6 hx hZ hown (hw _ (List.mem_of_getElem? (i := 61) rfl)) Via.refl e6 F_autonomous_a1 E_a1 (Or.inr ⟨(hw _ (List.mem_of_getElem? (i := 62) rfl)), rfl, hnm⟩) (hw _ (List.mem_of_getElem? (i := 34) rfl)) (ty := .boolean) (v' := .int (0 : Int32)) (by decide) rfl rfl (g := (mkF m 34 #[.val (.ref a1), .val (.ref a2), .val (.ref a3), .val (.ref a4), .val (.ref a5), .val (.ref a6), .val (.int (0 : Int32)), .val .null, .val (.int (0 : Int32)), .val .null, .val .null, .val (.int (0 : Int32))] [(.int (0 : Int32)), (.ref a1)])) rfl rfl (hb hby d7_34)
  refine Go.st st7 ?_
  have F_autonomous_a1 : Fld Z h7 a1 "com/example/wellness_on_record/wellnessonrecord/apps/App" "autonomous" "Z" (.int (0 : Int32)) := F_autonomous_a1.same W7
  have N7 := Fr.snoc X7 N6 g_a1
  have E_a1 := E_a1.wr W7
  have F_kind_a1 := F_kind_a1.other W7 (Or.inr (slot_ne (Or.inr (hw _ (List.mem_of_getElem? (i := 56) rfl))) (Or.inr (hw _ (List.mem_of_getElem? (i := 62) rfl))) (by decide) (t := (.object "com/example/wellness_on_record/wellnessonrecord/apps/App$Kind")) (t' := .boolean) (by decide) (by decide)))
  have F_autonomousReason_a1 := F_autonomousReason_a1.other W7 (Or.inr (slot_ne (Or.inr (hw _ (List.mem_of_getElem? (i := 64) rfl))) (Or.inr (hw _ (List.mem_of_getElem? (i := 62) rfl))) (by decide) (t := (.object "java/lang/String")) (t' := .boolean) (by decide) (by decide)))
  have F_hasUi_a1 := F_hasUi_a1.other W7 (Or.inr (slot_ne (Or.inr (hw _ (List.mem_of_getElem? (i := 66) rfl))) (Or.inr (hw _ (List.mem_of_getElem? (i := 62) rfl))) (by decide) (t := .boolean) (t' := .boolean) (by decide) (by decide)))
  have F_callbackUrl_a1 := F_callbackUrl_a1.other W7 (Or.inr (slot_ne (Or.inr (hw _ (List.mem_of_getElem? (i := 68) rfl))) (Or.inr (hw _ (List.mem_of_getElem? (i := 62) rfl))) (by decide) (t := (.object "java/lang/String")) (t' := .boolean) (by decide) (by decide)))
  have F_startUrlTemplate_a1 := F_startUrlTemplate_a1.other W7 (Or.inr (slot_ne (Or.inr (hw _ (List.mem_of_getElem? (i := 70) rfl))) (Or.inr (hw _ (List.mem_of_getElem? (i := 62) rfl))) (by decide) (t := (.object "java/lang/String")) (t' := .boolean) (by decide) (by decide)))
  have F_frameable_a1 := F_frameable_a1.other W7 (Or.inr (slot_ne (Or.inr (hw _ (List.mem_of_getElem? (i := 72) rfl))) (Or.inr (hw _ (List.mem_of_getElem? (i := 62) rfl))) (by decide) (t := .boolean) (t' := .boolean) (by decide) (by decide)))
  have O := O.wr W7 g_a1
  have KK := KK.wr W7 (Or.inl (List.mem_of_getElem? (i := 0) rfl))
  show Go _ _ _ _ _ _ _  T7 (mkF m 37 #[.val (.ref a1), .val (.ref a2), .val (.ref a3), .val (.ref a4), .val (.ref a5), .val (.ref a6), .val (.int (0 : Int32)), .val .null, .val (.int (0 : Int32)), .val .null, .val .null, .val (.int (0 : Int32))] [])
  refine Go.st (fun t k => XS.aloadN X7.here hx rfl (hb hby d7_37) rfl rfl  k) ?_
  show Go _ _ _ _ _ _ _  T7 (mkF m 38 #[.val (.ref a1), .val (.ref a2), .val (.ref a3), .val (.ref a4), .val (.ref a5), .val (.ref a6), .val (.int (0 : Int32)), .val .null, .val (.int (0 : Int32)), .val .null, .val .null, .val (.int (0 : Int32))] [(.ref a1)])
  refine Go.st (fun t k => XS.aload X7.here hx rfl (hb hby d7_38) rfl rfl  k) ?_
  show Go _ _ _ _ _ _ _  T7 (mkF m 40 #[.val (.ref a1), .val (.ref a2), .val (.ref a3), .val (.ref a4), .val (.ref a5), .val (.ref a6), .val (.int (0 : Int32)), .val .null, .val (.int (0 : Int32)), .val .null, .val .null, .val (.int (0 : Int32))] [.null, (.ref a1)])
  obtain ⟨T8, h8, X8, e8, W8, st8⟩ := putF X7 hx hZ hown (host := "") (Or.inl (hw _ (List.mem_of_getElem? (i := 63) rfl))) Via.refl e7 F_autonomousReason_a1 E_a1 (Or.inr ⟨(hw _ (List.mem_of_getElem? (i := 64) rfl)), rfl, hnm⟩) (hw _ (List.mem_of_getElem? (i := 34) rfl)) (ty := (.object "java/lang/String")) (by decide) rfl rfl (g := (mkF m 40 #[.val (.ref a1), .val (.ref a2), .val (.ref a3), .val (.ref a4), .val (.ref a5), .val (.ref a6), .val (.int (0 : Int32)), .val .null, .val (.int (0 : Int32)), .val .null, .val .null, .val (.int (0 : Int32))] [.null, (.ref a1)])) rfl rfl (hb hby d7_40)
  refine Go.st st8 ?_
  have F_autonomousReason_a1 : Fld Z h8 a1 "com/example/wellness_on_record/wellnessonrecord/apps/App" "autonomousReason" "Ljava/lang/String;" .null := F_autonomousReason_a1.same W8
  have N8 := Fr.snoc X8 N7 g_a1
  have E_a1 := E_a1.wr W8
  have F_kind_a1 := F_kind_a1.other W8 (Or.inr (slot_ne (Or.inr (hw _ (List.mem_of_getElem? (i := 56) rfl))) (Or.inr (hw _ (List.mem_of_getElem? (i := 64) rfl))) (by decide) (t := (.object "com/example/wellness_on_record/wellnessonrecord/apps/App$Kind")) (t' := (.object "java/lang/String")) (by decide) (by decide)))
  have F_hasUi_a1 := F_hasUi_a1.other W8 (Or.inr (slot_ne (Or.inr (hw _ (List.mem_of_getElem? (i := 66) rfl))) (Or.inr (hw _ (List.mem_of_getElem? (i := 64) rfl))) (by decide) (t := .boolean) (t' := (.object "java/lang/String")) (by decide) (by decide)))
  have F_callbackUrl_a1 := F_callbackUrl_a1.other W8 (Or.inr (slot_ne (Or.inr (hw _ (List.mem_of_getElem? (i := 68) rfl))) (Or.inr (hw _ (List.mem_of_getElem? (i := 64) rfl))) (by decide) (t := (.object "java/lang/String")) (t' := (.object "java/lang/String")) (by decide) (by decide)))
  have F_startUrlTemplate_a1 := F_startUrlTemplate_a1.other W8 (Or.inr (slot_ne (Or.inr (hw _ (List.mem_of_getElem? (i := 70) rfl))) (Or.inr (hw _ (List.mem_of_getElem? (i := 64) rfl))) (by decide) (t := (.object "java/lang/String")) (t' := (.object "java/lang/String")) (by decide) (by decide)))
  have F_frameable_a1 := F_frameable_a1.other W8 (Or.inr (slot_ne (Or.inr (hw _ (List.mem_of_getElem? (i := 72) rfl))) (Or.inr (hw _ (List.mem_of_getElem? (i := 64) rfl))) (by decide) (t := .boolean) (t' := (.object "java/lang/String")) (by decide) (by decide)))
  have O := O.wr W8 g_a1
  have KK := KK.wr W8 (Or.inl (List.mem_of_getElem? (i := 0) rfl))
  show Go _ _ _ _ _ _ _  T8 (mkF m 43 #[.val (.ref a1), .val (.ref a2), .val (.ref a3), .val (.ref a4), .val (.ref a5), .val (.ref a6), .val (.int (0 : Int32)), .val .null, .val (.int (0 : Int32)), .val .null, .val .null, .val (.int (0 : Int32))] [])
  refine Go.st (fun t k => XS.aloadN X8.here hx rfl (hb hby d7_43) rfl rfl  k) ?_
  show Go _ _ _ _ _ _ _  T8 (mkF m 44 #[.val (.ref a1), .val (.ref a2), .val (.ref a3), .val (.ref a4), .val (.ref a5), .val (.ref a6), .val (.int (0 : Int32)), .val .null, .val (.int (0 : Int32)), .val .null, .val .null, .val (.int (0 : Int32))] [(.ref a1)])
  refine Go.st (fun t k => XS.iload X8.here hx rfl (hb hby d7_44) rfl  k) ?_
  show Go _ _ _ _ _ _ _  T8 (mkF m 46 #[.val (.ref a1), .val (.ref a2), .val (.ref a3), .val (.ref a4), .val (.ref a5), .val (.ref a6), .val (.int (0 : Int32)), .val .null, .val (.int (0 : Int32)), .val .null, .val .null, .val (.int (0 : Int32))] [(.int (0 : Int32)), (.ref a1)])
  obtain ⟨T9, h9, X9, e9, W9, st9⟩ := putFN X8 hx hZ hown (hw _ (List.mem_of_getElem? (i := 65) rfl)) Via.refl e8 F_hasUi_a1 E_a1 (Or.inr ⟨(hw _ (List.mem_of_getElem? (i := 66) rfl)), rfl, hnm⟩) (hw _ (List.mem_of_getElem? (i := 34) rfl)) (ty := .boolean) (v' := .int (0 : Int32)) (by decide) rfl rfl (g := (mkF m 46 #[.val (.ref a1), .val (.ref a2), .val (.ref a3), .val (.ref a4), .val (.ref a5), .val (.ref a6), .val (.int (0 : Int32)), .val .null, .val (.int (0 : Int32)), .val .null, .val .null, .val (.int (0 : Int32))] [(.int (0 : Int32)), (.ref a1)])) rfl rfl (hb hby d7_46)
  refine Go.st st9 ?_
  have F_hasUi_a1 : Fld Z h9 a1 "com/example/wellness_on_record/wellnessonrecord/apps/App" "hasUi" "Z" (.int (0 : Int32)) := F_hasUi_a1.same W9
  have N9 := Fr.snoc X9 N8 g_a1
  have E_a1 := E_a1.wr W9
  have F_kind_a1 := F_kind_a1.other W9 (Or.inr (slot_ne (Or.inr (hw _ (List.mem_of_getElem? (i := 56) rfl))) (Or.inr (hw _ (List.mem_of_getElem? (i := 66) rfl))) (by decide) (t := (.object "com/example/wellness_on_record/wellnessonrecord/apps/App$Kind")) (t' := .boolean) (by decide) (by decide)))
  have F_callbackUrl_a1 := F_callbackUrl_a1.other W9 (Or.inr (slot_ne (Or.inr (hw _ (List.mem_of_getElem? (i := 68) rfl))) (Or.inr (hw _ (List.mem_of_getElem? (i := 66) rfl))) (by decide) (t := (.object "java/lang/String")) (t' := .boolean) (by decide) (by decide)))
  have F_startUrlTemplate_a1 := F_startUrlTemplate_a1.other W9 (Or.inr (slot_ne (Or.inr (hw _ (List.mem_of_getElem? (i := 70) rfl))) (Or.inr (hw _ (List.mem_of_getElem? (i := 66) rfl))) (by decide) (t := (.object "java/lang/String")) (t' := .boolean) (by decide) (by decide)))
  have F_frameable_a1 := F_frameable_a1.other W9 (Or.inr (slot_ne (Or.inr (hw _ (List.mem_of_getElem? (i := 72) rfl))) (Or.inr (hw _ (List.mem_of_getElem? (i := 66) rfl))) (by decide) (t := .boolean) (t' := .boolean) (by decide) (by decide)))
  have O := O.wr W9 g_a1
  have KK := KK.wr W9 (Or.inl (List.mem_of_getElem? (i := 0) rfl))
  show Go _ _ _ _ _ _ _  T9 (mkF m 49 #[.val (.ref a1), .val (.ref a2), .val (.ref a3), .val (.ref a4), .val (.ref a5), .val (.ref a6), .val (.int (0 : Int32)), .val .null, .val (.int (0 : Int32)), .val .null, .val .null, .val (.int (0 : Int32))] [])
  refine Go.st (fun t k => XS.aloadN X9.here hx rfl (hb hby d7_49) rfl rfl  k) ?_
  show Go _ _ _ _ _ _ _  T9 (mkF m 50 #[.val (.ref a1), .val (.ref a2), .val (.ref a3), .val (.ref a4), .val (.ref a5), .val (.ref a6), .val (.int (0 : Int32)), .val .null, .val (.int (0 : Int32)), .val .null, .val .null, .val (.int (0 : Int32))] [(.ref a1)])
  refine Go.st (fun t k => XS.aload X9.here hx rfl (hb hby d7_50) rfl rfl  k) ?_
  show Go _ _ _ _ _ _ _  T9 (mkF m 52 #[.val (.ref a1), .val (.ref a2), .val (.ref a3), .val (.ref a4), .val (.ref a5), .val (.ref a6), .val (.int (0 : Int32)), .val .null, .val (.int (0 : Int32)), .val .null, .val .null, .val (.int (0 : Int32))] [.null, (.ref a1)])
  obtain ⟨T10, h10, X10, e10, W10, st10⟩ := putF X9 hx hZ hown (host := "") (Or.inl (hw _ (List.mem_of_getElem? (i := 67) rfl))) Via.refl e9 F_callbackUrl_a1 E_a1 (Or.inr ⟨(hw _ (List.mem_of_getElem? (i := 68) rfl)), rfl, hnm⟩) (hw _ (List.mem_of_getElem? (i := 34) rfl)) (ty := (.object "java/lang/String")) (by decide) rfl rfl (g := (mkF m 52 #[.val (.ref a1), .val (.ref a2), .val (.ref a3), .val (.ref a4), .val (.ref a5), .val (.ref a6), .val (.int (0 : Int32)), .val .null, .val (.int (0 : Int32)), .val .null, .val .null, .val (.int (0 : Int32))] [.null, (.ref a1)])) rfl rfl (hb hby d7_52)
  refine Go.st st10 ?_
  have F_callbackUrl_a1 : Fld Z h10 a1 "com/example/wellness_on_record/wellnessonrecord/apps/App" "callbackUrl" "Ljava/lang/String;" .null := F_callbackUrl_a1.same W10
  have N10 := Fr.snoc X10 N9 g_a1
  have E_a1 := E_a1.wr W10
  have F_kind_a1 := F_kind_a1.other W10 (Or.inr (slot_ne (Or.inr (hw _ (List.mem_of_getElem? (i := 56) rfl))) (Or.inr (hw _ (List.mem_of_getElem? (i := 68) rfl))) (by decide) (t := (.object "com/example/wellness_on_record/wellnessonrecord/apps/App$Kind")) (t' := (.object "java/lang/String")) (by decide) (by decide)))
  have F_startUrlTemplate_a1 := F_startUrlTemplate_a1.other W10 (Or.inr (slot_ne (Or.inr (hw _ (List.mem_of_getElem? (i := 70) rfl))) (Or.inr (hw _ (List.mem_of_getElem? (i := 68) rfl))) (by decide) (t := (.object "java/lang/String")) (t' := (.object "java/lang/String")) (by decide) (by decide)))
  have F_frameable_a1 := F_frameable_a1.other W10 (Or.inr (slot_ne (Or.inr (hw _ (List.mem_of_getElem? (i := 72) rfl))) (Or.inr (hw _ (List.mem_of_getElem? (i := 68) rfl))) (by decide) (t := .boolean) (t' := (.object "java/lang/String")) (by decide) (by decide)))
  have O := O.wr W10 g_a1
  have KK := KK.wr W10 (Or.inl (List.mem_of_getElem? (i := 0) rfl))
  show Go _ _ _ _ _ _ _  T10 (mkF m 55 #[.val (.ref a1), .val (.ref a2), .val (.ref a3), .val (.ref a4), .val (.ref a5), .val (.ref a6), .val (.int (0 : Int32)), .val .null, .val (.int (0 : Int32)), .val .null, .val .null, .val (.int (0 : Int32))] [])
  refine Go.st (fun t k => XS.aloadN X10.here hx rfl (hb hby d7_55) rfl rfl  k) ?_
  show Go _ _ _ _ _ _ _  T10 (mkF m 56 #[.val (.ref a1), .val (.ref a2), .val (.ref a3), .val (.ref a4), .val (.ref a5), .val (.ref a6), .val (.int (0 : Int32)), .val .null, .val (.int (0 : Int32)), .val .null, .val .null, .val (.int (0 : Int32))] [(.ref a1)])
  refine Go.st (fun t k => XS.aload X10.here hx rfl (hb hby d7_56) rfl rfl  k) ?_
  show Go _ _ _ _ _ _ _  T10 (mkF m 58 #[.val (.ref a1), .val (.ref a2), .val (.ref a3), .val (.ref a4), .val (.ref a5), .val (.ref a6), .val (.int (0 : Int32)), .val .null, .val (.int (0 : Int32)), .val .null, .val .null, .val (.int (0 : Int32))] [.null, (.ref a1)])
  obtain ⟨T11, h11, X11, e11, W11, st11⟩ := putF X10 hx hZ hown (host := "") (Or.inl (hw _ (List.mem_of_getElem? (i := 69) rfl))) Via.refl e10 F_startUrlTemplate_a1 E_a1 (Or.inr ⟨(hw _ (List.mem_of_getElem? (i := 70) rfl)), rfl, hnm⟩) (hw _ (List.mem_of_getElem? (i := 34) rfl)) (ty := (.object "java/lang/String")) (by decide) rfl rfl (g := (mkF m 58 #[.val (.ref a1), .val (.ref a2), .val (.ref a3), .val (.ref a4), .val (.ref a5), .val (.ref a6), .val (.int (0 : Int32)), .val .null, .val (.int (0 : Int32)), .val .null, .val .null, .val (.int (0 : Int32))] [.null, (.ref a1)])) rfl rfl (hb hby d7_58)
  refine Go.st st11 ?_
  have F_startUrlTemplate_a1 : Fld Z h11 a1 "com/example/wellness_on_record/wellnessonrecord/apps/App" "startUrlTemplate" "Ljava/lang/String;" .null := F_startUrlTemplate_a1.same W11
  have N11 := Fr.snoc X11 N10 g_a1
  have E_a1 := E_a1.wr W11
  have F_kind_a1 := F_kind_a1.other W11 (Or.inr (slot_ne (Or.inr (hw _ (List.mem_of_getElem? (i := 56) rfl))) (Or.inr (hw _ (List.mem_of_getElem? (i := 70) rfl))) (by decide) (t := (.object "com/example/wellness_on_record/wellnessonrecord/apps/App$Kind")) (t' := (.object "java/lang/String")) (by decide) (by decide)))
  have F_frameable_a1 := F_frameable_a1.other W11 (Or.inr (slot_ne (Or.inr (hw _ (List.mem_of_getElem? (i := 72) rfl))) (Or.inr (hw _ (List.mem_of_getElem? (i := 70) rfl))) (by decide) (t := .boolean) (t' := (.object "java/lang/String")) (by decide) (by decide)))
  have O := O.wr W11 g_a1
  have KK := KK.wr W11 (Or.inl (List.mem_of_getElem? (i := 0) rfl))
  show Go _ _ _ _ _ _ _  T11 (mkF m 61 #[.val (.ref a1), .val (.ref a2), .val (.ref a3), .val (.ref a4), .val (.ref a5), .val (.ref a6), .val (.int (0 : Int32)), .val .null, .val (.int (0 : Int32)), .val .null, .val .null, .val (.int (0 : Int32))] [])
  refine Go.st (fun t k => XS.aloadN X11.here hx rfl (hb hby d7_61) rfl rfl  k) ?_
  show Go _ _ _ _ _ _ _  T11 (mkF m 62 #[.val (.ref a1), .val (.ref a2), .val (.ref a3), .val (.ref a4), .val (.ref a5), .val (.ref a6), .val (.int (0 : Int32)), .val .null, .val (.int (0 : Int32)), .val .null, .val .null, .val (.int (0 : Int32))] [(.ref a1)])
  refine Go.st (fun t k => XS.iload X11.here hx rfl (hb hby d7_62) rfl  k) ?_
  show Go _ _ _ _ _ _ _  T11 (mkF m 64 #[.val (.ref a1), .val (.ref a2), .val (.ref a3), .val (.ref a4), .val (.ref a5), .val (.ref a6), .val (.int (0 : Int32)), .val .null, .val (.int (0 : Int32)), .val .null, .val .null, .val (.int (0 : Int32))] [(.int (0 : Int32)), (.ref a1)])
  obtain ⟨T12, h12, X12, e12, W12, st12⟩ := putFN X11 hx hZ hown (hw _ (List.mem_of_getElem? (i := 71) rfl)) Via.refl e11 F_frameable_a1 E_a1 (Or.inr ⟨(hw _ (List.mem_of_getElem? (i := 72) rfl)), rfl, hnm⟩) (hw _ (List.mem_of_getElem? (i := 34) rfl)) (ty := .boolean) (v' := .int (0 : Int32)) (by decide) rfl rfl (g := (mkF m 64 #[.val (.ref a1), .val (.ref a2), .val (.ref a3), .val (.ref a4), .val (.ref a5), .val (.ref a6), .val (.int (0 : Int32)), .val .null, .val (.int (0 : Int32)), .val .null, .val .null, .val (.int (0 : Int32))] [(.int (0 : Int32)), (.ref a1)])) rfl rfl (hb hby d7_64)
  refine Go.st st12 ?_
  have F_frameable_a1 : Fld Z h12 a1 "com/example/wellness_on_record/wellnessonrecord/apps/App" "frameable" "Z" (.int (0 : Int32)) := F_frameable_a1.same W12
  have N12 := Fr.snoc X12 N11 g_a1
  have E_a1 := E_a1.wr W12
  have F_kind_a1 := F_kind_a1.other W12 (Or.inr (slot_ne (Or.inr (hw _ (List.mem_of_getElem? (i := 56) rfl))) (Or.inr (hw _ (List.mem_of_getElem? (i := 72) rfl))) (by decide) (t := (.object "com/example/wellness_on_record/wellnessonrecord/apps/App$Kind")) (t' := .boolean) (by decide) (by decide)))
  have O := O.wr W12 g_a1
  have KK := KK.wr W12 (Or.inl (List.mem_of_getElem? (i := 0) rfl))
  show Go _ _ _ _ _ _ _  T12 (mkF m 67 #[.val (.ref a1), .val (.ref a2), .val (.ref a3), .val (.ref a4), .val (.ref a5), .val (.ref a6), .val (.int (0 : Int32)), .val .null, .val (.int (0 : Int32)), .val .null, .val .null, .val (.int (0 : Int32))] [])
  refine Go.ret0 X12 hlk hx Bd.returns (hb hby d7_67) (by decide) (by decide) ?_
  show Q_rmA Z _ _ _ _ _ _ h0 n0 _ T12.heap _
  rw [e12]
  exact ⟨rfl, N12, KK, E_a1, F_kind_a1⟩
def Q_rmP (Z : State) (a1 : Addr) (a2 : Addr) (x3 : Value) (x4 : Value) (h0 : Heap) (n0 : Nat) (v : Option Value) (h : Heap) (L : List Loc) : Prop := v = none ∧ Fr n0 L ∧ Keep h0 h [a1] ∧ Exa Z h a1 "com/example/wellness_on_record/wellnessonrecord/oauth/Principal" ∧ Fld Z h a1 "com/example/wellness_on_record/wellnessonrecord/oauth/Principal" "app" "Lcom/example/wellness_on_record/wellnessonrecord/apps/App;" (.ref a2) ∧ Fld Z h a1 "com/example/wellness_on_record/wellnessonrecord/oauth/Principal" "recordId" "Ljava/lang/String;" x3 ∧ Fld Z h a1 "com/example/wellness_on_record/wellnessonrecord/oauth/Principal" "requestToken" "Ljava/lang/String;" x4
set_option maxRecDepth 65536 in
set_option maxHeartbeats 40000000 in
theorem rmP (l : Launch) (Z : State) (a0 : Array Value) (hw : ∀ d ∈ tables_1, d.before a0 Z = true) (ws : List Jvm.Cond) (a1 : Addr) (a2 : Addr) (x3 : Value) (x4 : Value) (h0 : Heap) (n0 : Nat) (O : Old Z n0 h0) (E_a1 : Exa Z h0 a1 "com/example/wellness_on_record/wellnessonrecord/oauth/Principal") (F_app_a1 : Fld Z h0 a1 "com/example/wellness_on_record/wellnessonrecord/oauth/Principal" "app" "Lcom/example/wellness_on_record/wellnessonrecord/apps/App;" .null) (F_recordId_a1 : Fld Z h0 a1 "com/example/wellness_on_record/wellnessonrecord/oauth/Principal" "recordId" "Ljava/lang/String;" .null) (F_requestToken_a1 : Fld Z h0 a1 "com/example/wellness_on_record/wellnessonrecord/oauth/Principal" "requestToken" "Ljava/lang/String;" .null) (g_a1 : n0 ≤ a1) (ref_x3 : x3.isRef = true) (ref_x4 : x4.isRef = true) :
    MetFree l (⟨"com/example/wellness_on_record/wellnessonrecord/oauth/Principal", "<init>", "(Lcom/example/wellness_on_record/wellnessonrecord/apps/App;Ljava/lang/String;Ljava/lang/String;)V"⟩ : MethodName) (head1 (Jvm.Cond.code (⟨"com/example/wellness_on_record/wellnessonrecord/oauth/Principal", "<init>", "(Lcom/example/wellness_on_record/wellnessonrecord/apps/App;Ljava/lang/String;Ljava/lang/String;)V"⟩ : MethodName) prog_39_method_1_code 4 none :: ws) ({ frames := 2, cells := 0, slots := 0, locals := 24 } : Room)) (fun a U => a = #[(.ref a1), (.ref a2), x3, x4] ∧ Z.Warmed39 U.vm ∧ U.heap = h0) (fun _ _ _ _ _ => True) (fun _ U o U' => ∃ v L, o = .returned v ∧ Q_rmP Z a1 a2 x3 x4 h0 n0 v U'.heap L ∧ FrameEnd U o U' L ({ frames := 2, cells := 0, slots := 0, locals := 24 } : Room).cells ({ frames := 2, cells := 0, slots := 0, locals := 24 } : Room).slots) := by
  refine MetFree.of_bodySF (plainFor_of_name pn_9) hisR ?_
  intro p e s m args below meth c s₁ Bd hml0 hP hK
  obtain ⟨rfl, hZ, hh⟩ := hP
  have hx := Bd.exec
  have hby := Bd.bytes
  have hml : c.maxLocals = 4 := hml0
  have hown : s.vm.findClass "com/example/wellness_on_record/wellnessonrecord/oauth/Principal" = some m.cls := findClass_of_methodNamed Bd.named
  have hnm := (name_of_methodNamed Bd.named Bd.method).1
  have hlk : meth.locks = false := BodyLoose.notSynchronized Bd
  have X0 : Stand p l e ({ frames := 2, cells := 0, slots := 0, locals := 24 } : Room) s m #[(.ref a1), (.ref a2), x3, x4] below meth c s₁ [] 0 0 := Stand.of_body Bd
  have e0 : s₁.heap = h0 := by rw [← hh, Bd.state]; rfl
  have N0 := Fr.nil n0
  have KK : Keep h0 h0 [a1] := Keep.refl h0 _
  show Go p e below s ({ frames := 2, cells := 0, slots := 0, locals := 24 } : Room).cells ({ frames := 2, cells := 0, slots := 0, locals := 24 } : Room).slots (Q_rmP Z a1 a2 x3 x4 h0 n0) s₁ (entryFrame m #[(.ref a1), (.ref a2), x3, x4] 4)
  refine Go.eq (ef_rmP m a1 a2 x3 x4 ref_x3 ref_x4) ?_
  have nar_x3 : narrow (.object "java/lang/String") x3 = x3 := own_narrow ref_x3
  have fit_x3 : fits (.object "java/lang/String") x3 = true := own_fits ref_x3
  have nar_x4 : narrow (.object "java/lang/String") x4 = x4 := own_narrow ref_x4
  have fit_x4 : fits (.object "java/lang/String") x4 = true := own_fits ref_x4
  show Go _ _ _ _ _ _ _  s₁ (mkF m 0 #[.val (.ref a1), .val (.ref a2), .val x3, .val x4] [])
  refine Go.st (fun t k => XS.aloadN X0.here hx rfl (hb hby d9_0) rfl rfl  k) ?_
  show Go _ _ _ _ _ _ _  s₁ (mkF m 1 #[.val (.ref a1), .val (.ref a2), .val x3, .val x4] [(.ref a1)])
  obtain ⟨_, _, ⟨T1, L1, k1, n1⟩, -, X1, ⟨Lc1, hQ1, l1, y1, z1⟩, st1⟩ := X0.specialBack hx (y := (⟨"java/lang/Record", "<init>", "()V"⟩ : MethodName)) rfl hown (mvT hZ (hw _ (List.mem_of_getElem? (i := 79) rfl))) (mvT hZ (hw _ (List.mem_of_getElem? (i := 46) rfl))) (mvT hZ (hw _ (List.mem_of_getElem? (i := 49) rfl))) (by decide) (backOf (W := 0) (rmR l Z a0 hw [] a1 h0 n0 O) hZ (hw _ (List.mem_of_getElem? (i := 49) rfl)) (hw _ (List.mem_of_getElem? (i := 48) rfl)) (by decide) (by decide)) (g := (mkF m 1 #[.val (.ref a1), .val (.ref a2), .val x3, .val x4] [(.ref a1)])) rfl (by rw [hml]; rfl) (Steps.refl _) (a := a1) (argsL := []) (rest := []) (lenOf pd___V rfl) rfl (by show 2 * 0 + _ ≤ _; exact Nat.le_of_eq rfl) (hb hby d9_1) (fun _ _ => ⟨rfl, e0, (by decide : 0 + 0 ≤ _), (by decide : 0 + 0 ≤ _)⟩)
  dsimp only [Pt.U, Pt.locs, Pt.cells, Pt.slots] at X1 l1 y1 z1 st1 hQ1
  subst l1 y1 z1
  obtain ⟨rfl, N1q, e1q⟩ := hQ1
  have N1 := Fr.app N0 N1q
  refine Go.tr st1 ?_
  show Go _ _ _ _ _ _ _  T1 (mkF m 4 #[.val (.ref a1), .val (.ref a2), .val x3, .val x4] [])
  refine Go.st (fun t k => XS.aloadN X1.here hx rfl (hb hby d9_4) rfl rfl  k) ?_
  show Go _ _ _ _ _ _ _  T1 (mkF m 5 #[.val (.ref a1), .val (.ref a2), .val x3, .val x4] [(.ref a1)])
  refine Go.st (fun t k => XS.aloadN X1.here hx rfl (hb hby d9_5) rfl rfl  k) ?_
  show Go _ _ _ _ _ _ _  T1 (mkF m 6 #[.val (.ref a1), .val (.ref a2), .val x3, .val x4] [(.ref a2), (.ref a1)])
  obtain ⟨T2, h2, X2, e2, W2, st2⟩ := putF X1 hx hZ hown (host := "") (Or.inl (hw _ (List.mem_of_getElem? (i := 80) rfl))) Via.refl e1q F_app_a1 E_a1 (Or.inr ⟨(hw _ (List.mem_of_getElem? (i := 81) rfl)), rfl, hnm⟩) (hw _ (List.mem_of_getElem? (i := 74) rfl)) (ty := (.object "com/example/wellness_on_record/wellnessonrecord/apps/App")) (by decide) rfl rfl (g := (mkF m 6 #[.val (.ref a1), .val (.ref a2), .val x3, .val x4] [(.ref a2), (.ref a1)])) rfl rfl (hb hby d9_6)
  refine Go.st st2 ?_
  have F_app_a1 : Fld Z h2 a1 "com/example/wellness_on_record/wellnessonrecord/oauth/Principal" "app" "Lcom/example/wellness_on_record/wellnessonrecord/apps/App;" (.ref a2) := F_app_a1.same W2
  have N2 := Fr.snoc X2 N1 g_a1
  have E_a1 := E_a1.wr W2
  have F_recordId_a1 := F_recordId_a1.other W2 (Or.inr (slot_ne (Or.inr (hw _ (List.mem_of_getElem? (i := 83) rfl))) (Or.inr (hw _ (List.mem_of_getElem? (i := 81) rfl))) (by decide) (t := (.object "java/lang/String")) (t' := (.object "com/example/wellness_on_record/wellnessonrecord/apps/App")) (by decide) (by decide)))
  have F_requestToken_a1 := F_requestToken_a1.other W2 (Or.inr (slot_ne (Or.inr (hw _ (List.mem_of_getElem? (i := 85) rfl))) (Or.inr (hw _ (List.mem_of_getElem? (i := 81) rfl))) (by decide) (t := (.object "java/lang/String")) (t' := (.object "com/example/wellness_on_record/wellnessonrecord/apps/App")) (by decide) (by decide)))
  have O := O.wr W2 g_a1
  have KK := KK.wr W2 (Or.inl (List.mem_of_getElem? (i := 0) rfl))
  show Go _ _ _ _ _ _ _  T2 (mkF m 9 #[.val (.ref a1), .val (.ref a2), .val x3, .val x4] [])
  refine Go.st (fun t k => XS.aloadN X2.here hx rfl (hb hby d9_9) rfl rfl  k) ?_
  show Go _ _ _ _ _ _ _  T2 (mkF m 10 #[.val (.ref a1), .val (.ref a2), .val x3, .val x4] [(.ref a1)])
  refine Go.st (fun t k => XS.aloadN X2.here hx rfl (hb hby d9_10) rfl ref_x3  k) ?_
  show Go _ _ _ _ _ _ _  T2 (mkF m 11 #[.val (.ref a1), .val (.ref a2), .val x3, .val x4] [x3, (.ref a1)])
  obtain ⟨T3, h3, X3, e3, W3, st3⟩ := putF X2 hx hZ hown (host := "") (Or.inl (hw _ (List.mem_of_getElem? (i := 82) rfl))) Via.refl e2 F_recordId_a1 E_a1 (Or.inr ⟨(hw _ (List.mem_of_getElem? (i := 83) rfl)), rfl, hnm⟩) (hw _ (List.mem_of_getElem? (i := 74) rfl)) (ty := (.object "java/lang/String")) (by decide) nar_x3 fit_x3 (g := (mkF m 11 #[.val (.ref a1), .val (.ref a2), .val x3, .val x4] [x3, (.ref a1)])) rfl rfl (hb hby d9_11)
  refine Go.st st3 ?_
  have F_recordId_a1 : Fld Z h3 a1 "com/example/wellness_on_record/wellnessonrecord/oauth/Principal" "recordId" "Ljava/lang/String;" x3 := F_recordId_a1.same W3
  have N3 := Fr.snoc X3 N2 g_a1
  have E_a1 := E_a1.wr W3
  have F_app_a1 := F_app_a1.other W3 (Or.inr (slot_ne (Or.inr (hw _ (List.mem_of_getElem? (i := 81) rfl))) (Or.inr (hw _ (List.mem_of_getElem? (i := 83) rfl))) (by decide) (t := (.object "com/example/wellness_on_record/wellnessonrecord/apps/App")) (t' := (.object "java/lang/String")) (by decide) (by decide)))
  have F_requestToken_a1 := F_requestToken_a1.other W3 (Or.inr (slot_ne (Or.inr (hw _ (List.mem_of_getElem? (i := 85) rfl))) (Or.inr (hw _ (List.mem_of_getElem? (i := 83) rfl))) (by decide) (t := (.object "java/lang/String")) (t' := (.object "java/lang/String")) (by decide) (by decide)))
  have O := O.wr W3 g_a1
  have KK := KK.wr W3 (Or.inl (List.mem_of_getElem? (i := 0) rfl))
  show Go _ _ _ _ _ _ _  T3 (mkF m 14 #[.val (.ref a1), .val (.ref a2), .val x3, .val x4] [])
  refine Go.st (fun t k => XS.aloadN X3.here hx rfl (hb hby d9_14) rfl rfl  k) ?_
  show Go _ _ _ _ _ _ _  T3 (mkF m 15 #[.val (.ref a1), .val (.ref a2), .val x3, .val x4] [(.ref a1)])
  refine Go.st (fun t k => XS.aloadN X3.here hx rfl (hb hby d9_15) rfl ref_x4  k) ?_
  show Go _ _ _ _ _ _ _  T3 (mkF m 16 #[.val (.ref a1), .val (.ref a2), .val x3, .val x4] [x4, (.ref a1)])
  obtain ⟨T4, h4, X4, e4, W4, st4⟩ := putF X3 hx hZ hown (host := "") (Or.inl (hw _ (List.mem_of_getElem? (i := 84) rfl))) Via.refl e3 F_requestToken_a1 E_a1 (Or.inr ⟨(hw _ (List.mem_of_getElem? (i := 85) rfl)), rfl, hnm⟩) (hw _ (List.mem_of_getElem? (i := 74) rfl)) (ty := (.object "java/lang/String")) (by decide) nar_x4 fit_x4 (g := (mkF m 16 #[.val (.ref a1), .val (.ref a2), .val x3, .val x4] [x4, (.ref a1)])) rfl rfl (hb hby d9_16)
  refine Go.st st4 ?_
  have F_requestToken_a1 : Fld Z h4 a1 "com/example/wellness_on_record/wellnessonrecord/oauth/Principal" "requestToken" "Ljava/lang/String;" x4 := F_requestToken_a1.same W4
  have N4 := Fr.snoc X4 N3 g_a1
  have E_a1 := E_a1.wr W4
  have F_app_a1 := F_app_a1.other W4 (Or.inr (slot_ne (Or.inr (hw _ (List.mem_of_getElem? (i := 81) rfl))) (Or.inr (hw _ (List.mem_of_getElem? (i := 85) rfl))) (by decide) (t := (.object "com/example/wellness_on_record/wellnessonrecord/apps/App")) (t' := (.object "java/lang/String")) (by decide) (by decide)))
  have F_recordId_a1 := F_recordId_a1.other W4 (Or.inr (slot_ne (Or.inr (hw _ (List.mem_of_getElem? (i := 83) rfl))) (Or.inr (hw _ (List.mem_of_getElem? (i := 85) rfl))) (by decide) (t := (.object "java/lang/String")) (t' := (.object "java/lang/String")) (by decide) (by decide)))
  have O := O.wr W4 g_a1
  have KK := KK.wr W4 (Or.inl (List.mem_of_getElem? (i := 0) rfl))
  show Go _ _ _ _ _ _ _  T4 (mkF m 19 #[.val (.ref a1), .val (.ref a2), .val x3, .val x4] [])
  refine Go.ret0 X4 hlk hx Bd.returns (hb hby d9_19) (by decide) (by decide) ?_
  show Q_rmP Z _ _ _ _ h0 n0 _ T4.heap _
  rw [e4]
  exact ⟨rfl, N4, KK, E_a1, F_app_a1, F_recordId_a1, F_requestToken_a1⟩
def Q_rmH (Z : State) (a1 : Addr) (xt : Value) (h0 : Heap) (n0 : Nat) (v : Option Value) (h : Heap) (L : List Loc) : Prop := v = some (.int (if xt = .null then 0 else 1)) ∧ Fr n0 L ∧ h = h0
set_option maxRecDepth 65536 in
set_option maxHeartbeats 40000000 in
theorem rmH (l : Launch) (Z : State) (a0 : Array Value) (hw : ∀ d ∈ tables_1, d.before a0 Z = true) (ws : List Jvm.Cond) (a1 : Addr) (xt : Value) (h0 : Heap) (n0 : Nat) (O : Old Z n0 h0) (FT : Fld Z h0 a1 "com/example/wellness_on_record/wellnessonrecord/oauth/Principal" "requestToken" "Ljava/lang/String;" xt) (ref_xt : xt.isRef = true) :
    MetFree l (⟨"com/example/wellness_on_record/wellnessonrecord/oauth/Principal", "holdsRequestToken", "()Z"⟩ : MethodName) (head1 (Jvm.Cond.code (⟨"com/example/wellness_on_record/wellnessonrecord/oauth/Principal", "holdsRequestToken", "()Z"⟩ : MethodName) prog_39_method_6_code 1 (some .boolean) :: ws) ({ frames := 0, cells := 0, slots := 0, locals := 0 } : Room)) (fun a U => a = #[(.ref a1)] ∧ Z.Warmed39 U.vm ∧ U.heap = h0) (fun _ _ _ _ _ => True) (fun _ U o U' => ∃ v L, o = .returned v ∧ Q_rmH Z a1 xt h0 n0 v U'.heap L ∧ FrameEnd U o U' L ({ frames := 0, cells := 0, slots := 0, locals := 0 } : Room).cells ({ frames := 0, cells := 0, slots := 0, locals := 0 } : Room).slots) := by
  refine MetFree.of_bodySF (plainFor_of_name pn_10) hisR ?_
  intro p e s m args below meth c s₁ Bd hml0 hP hK
  obtain ⟨rfl, hZ, hh⟩ := hP
  have hx := Bd.exec
  have hby := Bd.bytes
  have hml : c.maxLocals = 1 := hml0
  have hown : s.vm.findClass "com/example/wellness_on_record/wellnessonrecord/oauth/Principal" = some m.cls := findClass_of_methodNamed Bd.named
  have hnm := (name_of_methodNamed Bd.named Bd.method).1
  have hlk : meth.locks = false := BodyLoose.notSynchronized Bd
  have X0 : Stand p l e ({ frames := 0, cells := 0, slots := 0, locals := 0 } : Room) s m #[(.ref a1)] below meth c s₁ [] 0 0 := Stand.of_body Bd
  have e0 : s₁.heap = h0 := by rw [← hh, Bd.state]; rfl
  have N0 := Fr.nil n0
  show Go p e below s ({ frames := 0, cells := 0, slots := 0, locals := 0 } : Room).cells ({ frames := 0, cells := 0, slots := 0, locals := 0 } : Room).slots (Q_rmH Z a1 xt h0 n0) s₁ (entryFrame m #[(.ref a1)] 1)
  refine Go.eq (ef_rmH m a1) ?_
  show Go _ _ _ _ _ _ _  s₁ (mkF m 0 #[.val (.ref a1)] [])
  refine Go.st (fun t k => XS.aloadN X0.here hx rfl (hb hby d10_0) rfl rfl  k) ?_
  show Go _ _ _ _ _ _ _  s₁ (mkF m 1 #[.val (.ref a1)] [(.ref a1)])
  obtain ⟨T1, X1, e1, st1⟩ := getF X0 hx hZ hown (host := "") (Or.inl (hw _ (List.mem_of_getElem? (i := 84) rfl))) Via.refl e0 FT (g := (mkF m 1 #[.val (.ref a1)] [(.ref a1)])) rfl rfl (hb hby d10_1)
  refine Go.st st1 ?_
  rcases ref_cases ref_xt with hxt | ⟨axxt, hxt⟩
  · rw [hxt]
    show Go _ _ _ _ _ _ _  T1 (mkF m 4 #[.val (.ref a1)] [.null])
    refine Go.st (fun t k => XS.ifnullYes X1.here hx rfl (pc0 := 4) (pc' := 11) rfl (hb hby d10_4) rfl (by decide) (by decide) k) ?_
    show Go _ _ _ _ _ _ _  T1 (mkF m 11 #[.val (.ref a1)] [])
    refine Go.st (fun t k => XS.iconst X1.here hx rfl (hb hby d10_11) k) ?_
    show Go _ _ _ _ _ _ _  T1 (mkF m 12 #[.val (.ref a1)] [(.int (0 : Int32))])
    refine Go.retN X1 hlk hx (t := .boolean) (z' := (0 : Int32)) Bd.returns (by simp) (hb hby d10_12) (by decide) (by decide) rfl ?_
    show Q_rmH Z _ _ h0 n0 _ T1.heap _
    rw [e1]
    exact ⟨by simp [hxt], N0, rfl⟩
  · rw [hxt]
    show Go _ _ _ _ _ _ _  T1 (mkF m 4 #[.val (.ref a1)] [(.ref axxt)])
    refine Go.st (fun t k => XS.ifnullNo X1.here hx rfl (hb hby d10_4) rfl k) ?_
    show Go _ _ _ _ _ _ _  T1 (mkF m 7 #[.val (.ref a1)] [])
    refine Go.st (fun t k => XS.iconst X1.here hx rfl (hb hby d10_7) k) ?_
    show Go _ _ _ _ _ _ _  T1 (mkF m 8 #[.val (.ref a1)] [(.int (1 : Int32))])
    refine Go.st (fun t k => XS.goto X1.here hx rfl (pc0 := 8) (pc' := 12) rfl (hb hby d10_8) (by decide) (by decide) k) ?_
    show Go _ _ _ _ _ _ _  T1 (mkF m 12 #[.val (.ref a1)] [(.int (1 : Int32))])
    refine Go.retN X1 hlk hx (t := .boolean) (z' := (1 : Int32)) Bd.returns (by simp) (hb hby d10_12) (by decide) (by decide) rfl ?_
    show Q_rmH Z _ _ h0 n0 _ T1.heap _
    rw [e1]
    exact ⟨by simp [hxt], N0, rfl⟩
def Q_rmL (Z : State) (a1 : Addr) (xr : Value) (xt : Value) (h0 : Heap) (n0 : Nat) (v : Option Value) (h : Heap) (L : List Loc) : Prop := v = some (.int (if xr = .null then (if xt = .null then 1 else 0) else 0)) ∧ Fr n0 L ∧ h = h0
set_option maxRecDepth 65536 in
set_option maxHeartbeats 40000000 in
theorem rmL (l : Launch) (Z : State) (a0 : Array Value) (hw : ∀ d ∈ tables_1, d.before a0 Z = true) (ws : List Jvm.Cond) (a1 : Addr) (xr : Value) (xt : Value) (h0 : Heap) (n0 : Nat) (O : Old Z n0 h0) (FR : Fld Z h0 a1 "com/example/wellness_on_record/wellnessonrecord/oauth/Principal" "recordId" "Ljava/lang/String;" xr) (FT : Fld Z h0 a1 "com/example/wellness_on_record/wellnessonrecord/oauth/Principal" "requestToken" "Ljava/lang/String;" xt) (ref_xr : xr.isRef = true) (ref_xt : xt.isRef = true) :
    MetFree l (⟨"com/example/wellness_on_record/wellnessonrecord/oauth/Principal", "isAlone", "()Z"⟩ : MethodName) (head1 (Jvm.Cond.code (⟨"com/example/wellness_on_record/wellnessonrecord/oauth/Principal", "isAlone", "()Z"⟩ : MethodName) prog_39_method_7_code 1 (some .boolean) :: ws) ({ frames := 0, cells := 0, slots := 0, locals := 0 } : Room)) (fun a U => a = #[(.ref a1)] ∧ Z.Warmed39 U.vm ∧ U.heap = h0) (fun _ _ _ _ _ => True) (fun _ U o U' => ∃ v L, o = .returned v ∧ Q_rmL Z a1 xr xt h0 n0 v U'.heap L ∧ FrameEnd U o U' L ({ frames := 0, cells := 0, slots := 0, locals := 0 } : Room).cells ({ frames := 0, cells := 0, slots := 0, locals := 0 } : Room).slots) := by
  refine MetFree.of_bodySF (plainFor_of_name pn_12) hisR ?_
  intro p e s m args below meth c s₁ Bd hml0 hP hK
  obtain ⟨rfl, hZ, hh⟩ := hP
  have hx := Bd.exec
  have hby := Bd.bytes
  have hml : c.maxLocals = 1 := hml0
  have hown : s.vm.findClass "com/example/wellness_on_record/wellnessonrecord/oauth/Principal" = some m.cls := findClass_of_methodNamed Bd.named
  have hnm := (name_of_methodNamed Bd.named Bd.method).1
  have hlk : meth.locks = false := BodyLoose.notSynchronized Bd
  have X0 : Stand p l e ({ frames := 0, cells := 0, slots := 0, locals := 0 } : Room) s m #[(.ref a1)] below meth c s₁ [] 0 0 := Stand.of_body Bd
  have e0 : s₁.heap = h0 := by rw [← hh, Bd.state]; rfl
  have N0 := Fr.nil n0
  show Go p e below s ({ frames := 0, cells := 0, slots := 0, locals := 0 } : Room).cells ({ frames := 0, cells := 0, slots := 0, locals := 0 } : Room).slots (Q_rmL Z a1 xr xt h0 n0) s₁ (entryFrame m #[(.ref a1)] 1)
  refine Go.eq (ef_rmL m a1) ?_
  show Go _ _ _ _ _ _ _  s₁ (mkF m 0 #[.val (.ref a1)] [])
  refine Go.st (fun t k => XS.aloadN X0.here hx rfl (hb hby d12_0) rfl rfl  k) ?_
  show Go _ _ _ _ _ _ _  s₁ (mkF m 1 #[.val (.ref a1)] [(.ref a1)])
  obtain ⟨T1, X1, e1, st1⟩ := getF X0 hx hZ hown (host := "") (Or.inl (hw _ (List.mem_of_getElem? (i := 82) rfl))) Via.refl e0 FR (g := (mkF m 1 #[.val (.ref a1)] [(.ref a1)])) rfl rfl (hb hby d12_1)
  refine Go.st st1 ?_
  rcases ref_cases ref_xr with hxr | ⟨axxr, hxr⟩
  · rw [hxr]
    show Go _ _ _ _ _ _ _  T1 (mkF m 4 #[.val (.ref a1)] [.null])
    refine Go.st (fun t k => XS.ifnonnullNo X1.here hx rfl (hb hby d12_4) rfl k) ?_
    show Go _ _ _ _ _ _ _  T1 (mkF m 7 #[.val (.ref a1)] [])
    refine Go.st (fun t k => XS.aloadN X1.here hx rfl (hb hby d12_7) rfl rfl  k) ?_
    show Go _ _ _ _ _ _ _  T1 (mkF m 8 #[.val (.ref a1)] [(.ref a1)])
    obtain ⟨T2, X2, e2, st2⟩ := getF X1 hx hZ hown (host := "") (Or.inl (hw _ (List.mem_of_getElem? (i := 84) rfl))) Via.refl e1 FT (g := (mkF m 8 #[.val (.ref a1)] [(.ref a1)])) rfl rfl (hb hby d12_8)
    refine Go.st st2 ?_
    rcases ref_cases ref_xt with hxt | ⟨axxt, hxt⟩
    · rw [hxt]
      show Go _ _ _ _ _ _ _  T2 (mkF m 11 #[.val (.ref a1)] [.null])
      refine Go.st (fun t k => XS.ifnonnullNo X2.here hx rfl (hb hby d12_11) rfl k) ?_
      show Go _ _ _ _ _ _ _  T2 (mkF m 14 #[.val (.ref a1)] [])
      refine Go.st (fun t k => XS.iconst X2.here hx rfl (hb hby d12_14) k) ?_
      show Go _ _ _ _ _ _ _  T2 (mkF m 15 #[.val (.ref a1)] [(.int (1 : Int32))])
      refine Go.st (fun t k => XS.goto X2.here hx rfl (pc0 := 15) (pc' := 19) rfl (hb hby d12_15) (by decide) (by decide) k) ?_
      show Go _ _ _ _ _ _ _  T2 (mkF m 19 #[.val (.ref a1)] [(.int (1 : Int32))])
      refine Go.retN X2 hlk hx (t := .boolean) (z' := (1 : Int32)) Bd.returns (by simp) (hb hby d12_19) (by decide) (by decide) rfl ?_
      show Q_rmL Z _ _ _ h0 n0 _ T2.heap _
      rw [e2]
      exact ⟨by simp [hxr, hxt], N0, rfl⟩
    · rw [hxt]
      show Go _ _ _ _ _ _ _  T2 (mkF m 11 #[.val (.ref a1)] [(.ref axxt)])
      refine Go.st (fun t k => XS.ifnonnullYes X2.here hx rfl (pc0 := 11) (pc' := 18) rfl (hb hby d12_11) rfl (by decide) (by decide) k) ?_
      show Go _ _ _ _ _ _ _  T2 (mkF m 18 #[.val (.ref a1)] [])
      refine Go.st (fun t k => XS.iconst X2.here hx rfl (hb hby d12_18) k) ?_
      show Go _ _ _ _ _ _ _  T2 (mkF m 19 #[.val (.ref a1)] [(.int (0 : Int32))])
      refine Go.retN X2 hlk hx (t := .boolean) (z' := (0 : Int32)) Bd.returns (by simp) (hb hby d12_19) (by decide) (by decide) rfl ?_
      show Q_rmL Z _ _ _ h0 n0 _ T2.heap _
      rw [e2]
      exact ⟨by simp [hxr, hxt], N0, rfl⟩
  · rw [hxr]
    show Go _ _ _ _ _ _ _  T1 (mkF m 4 #[.val (.ref a1)] [(.ref axxr)])
    refine Go.st (fun t k => XS.ifnonnullYes X1.here hx rfl (pc0 := 4) (pc' := 18) rfl (hb hby d12_4) rfl (by decide) (by decide) k) ?_
    show Go _ _ _ _ _ _ _  T1 (mkF m 18 #[.val (.ref a1)] [])
    refine Go.st (fun t k => XS.iconst X1.here hx rfl (hb hby d12_18) k) ?_
    show Go _ _ _ _ _ _ _  T1 (mkF m 19 #[.val (.ref a1)] [(.int (0 : Int32))])
    refine Go.retN X1 hlk hx (t := .boolean) (z' := (0 : Int32)) Bd.returns (by simp) (hb hby d12_19) (by decide) (by decide) rfl ?_
    show Q_rmL Z _ _ _ h0 n0 _ T1.heap _
    rw [e1]
    exact ⟨by simp [hxr], N0, rfl⟩
def Q_rmK (Z : State) (a1 : Addr) (k1 : Addr) (h0 : Heap) (n0 : Nat) (v : Option Value) (h : Heap) (L : List Loc) : Prop := v = some (.ref k1) ∧ Fr n0 L ∧ h = h0
set_option maxRecDepth 65536 in
set_option maxHeartbeats 40000000 in
theorem rmK (l : Launch) (Z : State) (a0 : Array Value) (hw : ∀ d ∈ tables_1, d.before a0 Z = true) (ws : List Jvm.Cond) (a1 : Addr) (k1 : Addr) (h0 : Heap) (n0 : Nat) (O : Old Z n0 h0) (FK : Fld Z h0 a1 "com/example/wellness_on_record/wellnessonrecord/apps/App" "kind" "Lcom/example/wellness_on_record/wellnessonrecord/apps/App$Kind;" (.ref k1)) :
    MetFree l (⟨"com/example/wellness_on_record/wellnessonrecord/apps/App", "kind", "()Lcom/example/wellness_on_record/wellnessonrecord/apps/App$Kind;"⟩ : MethodName) (head1 (Jvm.Cond.code (⟨"com/example/wellness_on_record/wellnessonrecord/apps/App", "kind", "()Lcom/example/wellness_on_record/wellnessonrecord/apps/App$Kind;"⟩ : MethodName) prog_13_method_7_code 1 (some (.object "com/example/wellness_on_record/wellnessonrecord/apps/App$Kind")) :: ws) ({ frames := 0, cells := 0, slots := 0, locals := 0 } : Room)) (fun a U => a = #[(.ref a1)] ∧ Z.Warmed39 U.vm ∧ U.heap = h0) (fun _ _ _ _ _ => True) (fun _ U o U' => ∃ v L, o = .returned v ∧ Q_rmK Z a1 k1 h0 n0 v U'.heap L ∧ FrameEnd U o U' L ({ frames := 0, cells := 0, slots := 0, locals := 0 } : Room).cells ({ frames := 0, cells := 0, slots := 0, locals := 0 } : Room).slots) := by
  refine MetFree.of_bodySF (plainFor_of_name pn_13) hisR ?_
  intro p e s m args below meth c s₁ Bd hml0 hP hK
  obtain ⟨rfl, hZ, hh⟩ := hP
  have hx := Bd.exec
  have hby := Bd.bytes
  have hml : c.maxLocals = 1 := hml0
  have hown : s.vm.findClass "com/example/wellness_on_record/wellnessonrecord/apps/App" = some m.cls := findClass_of_methodNamed Bd.named
  have hnm := (name_of_methodNamed Bd.named Bd.method).1
  have hlk : meth.locks = false := BodyLoose.notSynchronized Bd
  have X0 : Stand p l e ({ frames := 0, cells := 0, slots := 0, locals := 0 } : Room) s m #[(.ref a1)] below meth c s₁ [] 0 0 := Stand.of_body Bd
  have e0 : s₁.heap = h0 := by rw [← hh, Bd.state]; rfl
  have N0 := Fr.nil n0
  show Go p e below s ({ frames := 0, cells := 0, slots := 0, locals := 0 } : Room).cells ({ frames := 0, cells := 0, slots := 0, locals := 0 } : Room).slots (Q_rmK Z a1 k1 h0 n0) s₁ (entryFrame m #[(.ref a1)] 1)
  refine Go.eq (ef_rmK m a1) ?_
  show Go _ _ _ _ _ _ _  s₁ (mkF m 0 #[.val (.ref a1)] [])
  refine Go.st (fun t k => XS.aloadN X0.here hx rfl (hb hby d13_0) rfl rfl  k) ?_
  show Go _ _ _ _ _ _ _  s₁ (mkF m 1 #[.val (.ref a1)] [(.ref a1)])
  obtain ⟨T1, X1, e1, st1⟩ := getF X0 hx hZ hown (host := "") (Or.inl (hw _ (List.mem_of_getElem? (i := 55) rfl))) Via.refl e0 FK (g := (mkF m 1 #[.val (.ref a1)] [(.ref a1)])) rfl rfl (hb hby d13_1)
  refine Go.st st1 ?_
  show Go _ _ _ _ _ _ _  T1 (mkF m 4 #[.val (.ref a1)] [(.ref k1)])
  refine Go.retR X1 hlk hx Bd.returns rfl rfl rfl (hb hby d13_4) (by decide) (by decide) ?_
  show Q_rmK Z _ _ h0 n0 _ T1.heap _
  rw [e1]
  exact ⟨rfl, N0, rfl⟩
def Q_rmU (Z : State) (a1 : Addr) (ap : Addr) (k1 : Addr) (xr : Value) (xt : Value) (w_USER : Addr) (h0 : Heap) (n0 : Nat) (v : Option Value) (h : Heap) (L : List Loc) : Prop := v = some (.int (if k1 = w_USER then (if xr = .null then (if xt = .null then (1 : Int32) else 0) else 0) else 0)) ∧ Fr n0 L ∧ h = h0
set_option maxRecDepth 65536 in
set_option maxHeartbeats 40000000 in
theorem rmU (l : Launch) (Z : State) (a0 : Array Value) (hw : ∀ d ∈ tables_1, d.before a0 Z = true) (ws : List Jvm.Cond) (a1 : Addr) (ap : Addr) (k1 : Addr) (xr : Value) (xt : Value) (w_USER : Addr) (h0 : Heap) (n0 : Nat) (O : Old Z n0 h0) (FA : Fld Z h0 a1 "com/example/wellness_on_record/wellnessonrecord/oauth/Principal" "app" "Lcom/example/wellness_on_record/wellnessonrecord/apps/App;" (.ref ap)) (FR : Fld Z h0 a1 "com/example/wellness_on_record/wellnessonrecord/oauth/Principal" "recordId" "Ljava/lang/String;" xr) (FT : Fld Z h0 a1 "com/example/wellness_on_record/wellnessonrecord/oauth/Principal" "requestToken" "Ljava/lang/String;" xt) (ref_xr : xr.isRef = true) (ref_xt : xt.isRef = true) (FK : Fld Z h0 ap "com/example/wellness_on_record/wellnessonrecord/apps/App" "kind" "Lcom/example/wellness_on_record/wellnessonrecord/apps/App$Kind;" (.ref k1)) (E1 : Exa Z h0 a1 "com/example/wellness_on_record/wellnessonrecord/oauth/Principal") (EA : Exa Z h0 ap "com/example/wellness_on_record/wellnessonrecord/apps/App") (S_USER : Sta Z Z.heap "com/example/wellness_on_record/wellnessonrecord/apps/App$Kind" "USER" "Lcom/example/wellness_on_record/wellnessonrecord/apps/App$Kind;" (.ref w_USER)) :
    MetFree l (⟨"com/example/wellness_on_record/wellnessonrecord/oauth/Principal", "isUserAppAlone", "()Z"⟩ : MethodName) (head1 (Jvm.Cond.code (⟨"com/example/wellness_on_record/wellnessonrecord/oauth/Principal", "isUserAppAlone", "()Z"⟩ : MethodName) prog_39_method_4_code 1 (some .boolean) :: ws) ({ frames := 1, cells := 0, slots := 0, locals := 12 } : Room)) (fun a U => a = #[(.ref a1)] ∧ Z.Warmed39 U.vm ∧ U.heap = h0) (fun _ _ _ _ _ => True) (fun _ U o U' => ∃ v L, o = .returned v ∧ Q_rmU Z a1 ap k1 xr xt w_USER h0 n0 v U'.heap L ∧ FrameEnd U o U' L ({ frames := 1, cells := 0, slots := 0, locals := 12 } : Room).cells ({ frames := 1, cells := 0, slots := 0, locals := 12 } : Room).slots) := by
  refine MetFree.of_bodySF (plainFor_of_name pn_11) hisR ?_
  intro p e s m args below meth c s₁ Bd hml0 hP hK
  obtain ⟨rfl, hZ, hh⟩ := hP
  have hx := Bd.exec
  have hby := Bd.bytes
  have hml : c.maxLocals = 1 := hml0
  have hown : s.vm.findClass "com/example/wellness_on_record/wellnessonrecord/oauth/Principal" = some m.cls := findClass_of_methodNamed Bd.named
  have hnm := (name_of_methodNamed Bd.named Bd.method).1
  have hlk : meth.locks = false := BodyLoose.notSynchronized Bd
  have X0 : Stand p l e ({ frames := 1, cells := 0, slots := 0, locals := 12 } : Room) s m #[(.ref a1)] below meth c s₁ [] 0 0 := Stand.of_body Bd
  have e0 : s₁.heap = h0 := by rw [← hh, Bd.state]; rfl
  have N0 := Fr.nil n0
  show Go p e below s ({ frames := 1, cells := 0, slots := 0, locals := 12 } : Room).cells ({ frames := 1, cells := 0, slots := 0, locals := 12 } : Room).slots (Q_rmU Z a1 ap k1 xr xt w_USER h0 n0) s₁ (entryFrame m #[(.ref a1)] 1)
  refine Go.eq (ef_rmU m a1) ?_
  show Go _ _ _ _ _ _ _  s₁ (mkF m 0 #[.val (.ref a1)] [])
  refine Go.st (fun t k => XS.aloadN X0.here hx rfl (hb hby d11_0) rfl rfl  k) ?_
  show Go _ _ _ _ _ _ _  s₁ (mkF m 1 #[.val (.ref a1)] [(.ref a1)])
  obtain ⟨cq1, q1, q1'⟩ := Exa.cell E1
  obtain ⟨_, _, ⟨T1, L1, k1, n1⟩, -, X1, ⟨Lc1, hQ1, l1, y1, z1⟩, st1⟩ := X0.privateBack hx (y := (⟨"com/example/wellness_on_record/wellnessonrecord/oauth/Principal", "isAlone", "()Z"⟩ : MethodName)) hown (mvT hZ (hw _ (List.mem_of_getElem? (i := 96) rfl))) (mvT hZ (hw _ (List.mem_of_getElem? (i := 97) rfl))) (own_selfsel (z := (⟨"com/example/wellness_on_record/wellnessonrecord/oauth/Principal", "holdsRequestToken", "()Z"⟩ : MethodName)) (mvT hZ (hw _ (List.mem_of_getElem? (i := 89) rfl))) rfl (mvP hZ (hw _ (List.mem_of_getElem? (i := 98) rfl))) (mvT hZ (hw _ (List.mem_of_getElem? (i := 97) rfl))) (by decide)) (Cond.privateMethod_at (mvP hZ (hw _ (List.mem_of_getElem? (i := 98) rfl)) (args := #[]))) (mvT hZ (hw _ (List.mem_of_getElem? (i := 99) rfl))) (by decide) (backOf (W := 0) (rmL l Z a0 hw [] a1 xr xt h0 n0 O FR FT ref_xr ref_xt) hZ (hw _ (List.mem_of_getElem? (i := 99) rfl)) (hw _ (List.mem_of_getElem? (i := 75) rfl)) (by decide) (by decide)) (g := (mkF m 1 #[.val (.ref a1)] [(.ref a1)])) rfl (by rw [hml]; rfl) (Steps.refl _) (a := a1) (by rw [e0]; exact q1) q1' (argsL := []) (rest := []) (lenOf pd___Z rfl) rfl (by show 2 * 0 + _ ≤ _; exact Nat.le_of_eq rfl) (hb hby d11_1) (fun _ _ => ⟨rfl, e0, (by decide : 0 + 0 ≤ _), (by decide : 0 + 0 ≤ _)⟩)
  dsimp only [Pt.U, Pt.locs, Pt.cells, Pt.slots] at X1 l1 y1 z1 st1 hQ1
  subst l1 y1 z1
  obtain ⟨rfl, N1q, e1q⟩ := hQ1
  have N1 := Fr.app N0 N1q
  refine Go.tr st1 ?_
  show Go _ _ _ _ _ _ _  T1 (mkF m 4 #[.val (.ref a1)] [(.int (if xr = .null then (if xt = .null then (1 : Int32) else 0) else 0))])
  by_cases c4_2 : (if xr = .null then (if xt = .null then (1 : Int32) else 0) else 0) = (0 : Int32)
  · refine Go.st (fun t k => XS.ifYes X1.here hx rfl (pc0 := 4) (pc' := 24) rfl (hb hby d11_4) rfl ((if0 _ _).trans (teq c4_2).1) (by decide) (by decide) k) ?_
    show Go _ _ _ _ _ _ _  T1 (mkF m 24 #[.val (.ref a1)] [])
    refine Go.st (fun t k => XS.iconst X1.here hx rfl (hb hby d11_24) k) ?_
    show Go _ _ _ _ _ _ _  T1 (mkF m 25 #[.val (.ref a1)] [(.int (0 : Int32))])
    refine Go.retN X1 hlk hx (t := .boolean) (z' := (0 : Int32)) Bd.returns (by simp) (hb hby d11_25) (by decide) (by decide) rfl ?_
    show Q_rmU Z _ _ _ _ _ _ h0 n0 _ T1.heap _
    rw [e1q]
    exact ⟨congrArg (fun z => some (Value.int z)) (own_u1 c4_2), N1, rfl⟩
  · refine Go.st (fun t k => XS.ifNo X1.here hx rfl (hb hby d11_4) rfl ((if0 _ _).trans (feq c4_2).1) k) ?_
    show Go _ _ _ _ _ _ _  T1 (mkF m 7 #[.val (.ref a1)] [])
    refine Go.st (fun t k => XS.aloadN X1.here hx rfl (hb hby d11_7) rfl rfl  k) ?_
    show Go _ _ _ _ _ _ _  T1 (mkF m 8 #[.val (.ref a1)] [(.ref a1)])
    obtain ⟨T3, X3, e3, st3⟩ := getF X1 hx hZ hown (host := "") (Or.inl (hw _ (List.mem_of_getElem? (i := 80) rfl))) Via.refl e1q FA (g := (mkF m 8 #[.val (.ref a1)] [(.ref a1)])) rfl rfl (hb hby d11_8)
    refine Go.st st3 ?_
    show Go _ _ _ _ _ _ _  T3 (mkF m 11 #[.val (.ref a1)] [(.ref ap)])
    obtain ⟨cq4, kq4, q4a, q4b, q4c⟩ := isOf hZ e3 EA
    obtain ⟨_, _, ⟨T4, L4, k4, n4⟩, -, X4, ⟨Lc4, hQ4, l4, y4, z4⟩, st4⟩ := X3.virtualBack hx (y := (⟨"com/example/wellness_on_record/wellnessonrecord/apps/App", "kind", "()Lcom/example/wellness_on_record/wellnessonrecord/apps/App$Kind;"⟩ : MethodName)) (z := (⟨"com/example/wellness_on_record/wellnessonrecord/apps/App", "kind", "()Lcom/example/wellness_on_record/wellnessonrecord/apps/App$Kind;"⟩ : MethodName)) hown (mvT hZ (hw _ (List.mem_of_getElem? (i := 102) rfl))) (mvT hZ (hw _ (List.mem_of_getElem? (i := 103) rfl))) (notFace_of_selects (args := #[]) (mvT hZ (hw _ (List.mem_of_getElem? (i := 105) rfl)))) (mvT hZ (hw _ (List.mem_of_getElem? (i := 105) rfl))) (mvT hZ (hw _ (List.mem_of_getElem? (i := 104) rfl))) (by decide) (backOf (W := 0) (rmK l Z a0 hw [] ap k1 h0 n0 O FK) hZ (hw _ (List.mem_of_getElem? (i := 106) rfl)) (hw _ (List.mem_of_getElem? (i := 35) rfl)) (by decide) (by decide)) q4a q4c (g := (mkF m 11 #[.val (.ref a1)] [(.ref ap)])) rfl (by rw [hml]; rfl) (Steps.refl _) (argsL := []) (rest := []) (lenOf pd___Lcom_example_wellness_on_record_wellnessonrecord_apps_App_Kind_ rfl) rfl (by show 2 * 0 + _ ≤ _; exact Nat.le_of_eq rfl) (hb hby d11_11) (fun _ _ => ⟨rfl, e3, (by decide : 0 + 0 ≤ _), (by decide : 0 + 0 ≤ _)⟩)
    dsimp only [Pt.U, Pt.locs, Pt.cells, Pt.slots] at X4 l4 y4 z4 st4 hQ4
    subst l4 y4 z4
    obtain ⟨rfl, N4q, e4q⟩ := hQ4
    have N4 := Fr.app N1 N4q
    refine Go.tr st4 ?_
    show Go _ _ _ _ _ _ _  T4 (mkF m 14 #[.val (.ref a1)] [(.ref k1)])
    obtain ⟨T5, X5, e5, st5⟩ := getS2 X4 hx hZ hown (host := "") (Or.inl (hw _ (List.mem_of_getElem? (i := 107) rfl))) Via.refl e4q (S_USER.ext O.2) (g := (mkF m 14 #[.val (.ref a1)] [(.ref k1)])) rfl (hb hby d11_14)
    refine Go.st st5 ?_
    show Go _ _ _ _ _ _ _  T5 (mkF m 17 #[.val (.ref a1)] [(.ref w_USER), (.ref k1)])
    by_cases c17_6 : k1 = w_USER
    · refine Go.st (fun t k => Jvm.RoadKit.acmp (g := (mkF m 17 #[.val (.ref a1)] [(.ref w_USER), (.ref k1)])) X5 hx rfl rfl rfl (pc0 := 17) (pc' := 20) (same := true) rfl (hb hby d11_17) rfl (decide_eq_true (congrArg Value.ref c17_6)) (by decide) (by decide) k) ?_
      show Go _ _ _ _ _ _ _  T5 (mkF m 20 #[.val (.ref a1)] [])
      refine Go.st (fun t k => XS.iconst X5.here hx rfl (hb hby d11_20) k) ?_
      show Go _ _ _ _ _ _ _  T5 (mkF m 21 #[.val (.ref a1)] [(.int (1 : Int32))])
      refine Go.st (fun t k => XS.goto X5.here hx rfl (pc0 := 21) (pc' := 25) rfl (hb hby d11_21) (by decide) (by decide) k) ?_
      show Go _ _ _ _ _ _ _  T5 (mkF m 25 #[.val (.ref a1)] [(.int (1 : Int32))])
      refine Go.retN X5 hlk hx (t := .boolean) (z' := (1 : Int32)) Bd.returns (by simp) (hb hby d11_25) (by decide) (by decide) rfl ?_
      show Q_rmU Z _ _ _ _ _ _ h0 n0 _ T5.heap _
      rw [e5]
      exact ⟨congrArg (fun z => some (Value.int z)) (own_u2 c4_2 c17_6), N4, rfl⟩
    · refine Go.st (fun t k => Jvm.RoadKit.acmp (g := (mkF m 17 #[.val (.ref a1)] [(.ref w_USER), (.ref k1)])) X5 hx rfl rfl rfl (pc0 := 17) (pc' := 24) (same := false) rfl (hb hby d11_17) rfl (decide_eq_false fun q => c17_6 (Value.ref.inj q)) (by decide) (by decide) k) ?_
      show Go _ _ _ _ _ _ _  T5 (mkF m 24 #[.val (.ref a1)] [])
      refine Go.st (fun t k => XS.iconst X5.here hx rfl (hb hby d11_24) k) ?_
      show Go _ _ _ _ _ _ _  T5 (mkF m 25 #[.val (.ref a1)] [(.int (0 : Int32))])
      refine Go.retN X5 hlk hx (t := .boolean) (z' := (0 : Int32)) Bd.returns (by simp) (hb hby d11_25) (by decide) (by decide) rfl ?_
      show Q_rmU Z _ _ _ _ _ _ h0 n0 _ T5.heap _
      rw [e5]
      exact ⟨congrArg (fun z => some (Value.int z)) (own_u3 c4_2 c17_6), N4, rfl⟩
def Q_rm0 (Z : State) (p1 : Int32) (p2 : Int32) (p3 : Int32) (p4 : Int32) (zc : Int32) (w_ADMIN : Addr) (w_USER : Addr) (h0 : Heap) (n0 : Nat) (v : Option Value) (h : Heap) (L : List Loc) : Prop := v = some (.int (1 : Int32)) ∧ Fr n0 L
set_option maxRecDepth 65536 in
set_option maxHeartbeats 40000000 in
theorem rm0 (l : Launch) (Z : State) (a0 : Array Value) (hw : ∀ d ∈ tables_1, d.before a0 Z = true) (ws : List Jvm.Cond) (p1 : Int32) (p2 : Int32) (p3 : Int32) (p4 : Int32) (zc : Int32) (w_ADMIN : Addr) (w_USER : Addr) (h0 : Heap) (n0 : Nat) (O : Old Z n0 h0) (hEL : EW Z a0 EL) (wS : ∀ a ∈ Bundle.stringAtoms, a.before a0 Z = true) (S_COMPACT : Sta Z Z.heap "java/lang/String" "COMPACT_STRINGS" "Z" (.int zc)) (hcs : ¬ zc = 0) (S_ADMIN : Sta Z Z.heap "com/example/wellness_on_record/wellnessonrecord/apps/App$Kind" "ADMIN" "Lcom/example/wellness_on_record/wellnessonrecord/apps/App$Kind;" (.ref w_ADMIN)) (S_USER : Sta Z Z.heap "com/example/wellness_on_record/wellnessonrecord/apps/App$Kind" "USER" "Lcom/example/wellness_on_record/wellnessonrecord/apps/App$Kind;" (.ref w_USER)) (nAU : w_ADMIN ≠ w_USER) :
    MetFree l x (head1 (Jvm.Cond.code x code maxLocals ret :: ws) room_1) (fun a U => a = #[(.int p1), (.int p2), (.int p3), (.int p4)] ∧ Z.Warmed39 U.vm ∧ U.heap = h0 ∧ CHv Z EL U.vm h0 ∧ ∀ x ∈ ([] : List Addr), Safe Z EL U.vm h0 x) (fun _ _ _ _ _ => True) (fun _ U o U' => ∃ v L, o = .returned v ∧ Q_rm0 Z p1 p2 p3 p4 zc w_ADMIN w_USER h0 n0 v U'.heap L ∧ CHr Z EL U.vm U.heap U'.vm U'.heap ∧ ReturnedEndW U o U' L room_1.cells room_1.slots) := by
  refine MetFree.of_bodySF (plainFor_of_name pn_0) hisR ?_
  intro p e s m args below meth c s₁ Bd hml0 hP hK
  obtain ⟨rfl, hZ, hh, HH, hSF⟩ := hP
  have hx := Bd.exec
  have hby := Bd.bytes
  have hml : c.maxLocals = 19 := hml0
  have hown : s.vm.findClass "com/example/wellness_on_record/wellnessonrecord/oauth/PrincipalHoldsRequestTokenPinLaw" = some m.cls := findClass_of_methodNamed Bd.named
  have hnm := (name_of_methodNamed Bd.named Bd.method).1
  have hlk : meth.locks = false := BodyLoose.notSynchronized Bd
  have X0 : Stand p l e room_1 (s.setVm s.vm) m #[(.int p1), (.int p2), (.int p3), (.int p4)] below meth c s₁ [] 0 0 := Stand.of_body Bd
  have e0 : s₁.heap = h0 := by rw [← hh, Bd.state]; rfl
  have N0 := Fr.nil n0
  have KK : Keep h0 h0 [] := Keep.refl h0 _
  have hS : s.Since s.vm h0.size := own_since s _
  have hk : h0.size ≤ h0.size := Nat.le_refl _
  have RR : CHr Z EL s.vm h0 s.vm h0 := CHr.refl HH
  suffices hgo : GoH p e below s room_1.cells room_1.slots Z h0 EL (Q_rm0 Z p1 p2 p3 p4 zc w_ADMIN w_USER h0 n0) s₁ (entryFrame m #[(.int p1), (.int p2), (.int p3), (.int p4)] maxLocals) by
    obtain ⟨s₂, o, q1, q2, q3, v, L, q4, q5, q6, q7⟩ := hgo; exact ⟨s₂, o, q1, q2, q3, v, L, q4, q5, hh ▸ q6, q7⟩
  refine GoH.eq (ef_rm0 m p1 p2 p3 p4) ?_
  have hws : ∀ d ∈ StrChars.Road.words, d.before a0 Z = true := fun d hd => hw d ((by decide +kernel : ∀ d ∈ StrChars.Road.words, d ∈ tables_1) d hd)
  show GoH _ _ _ _ _ _ _ _ _ _  s₁ (mkF m 0 #[.val (.int p1), .val (.int p2), .val (.int p3), .val (.int p4), .unset, .unset, .unset, .unset, .unset, .unset, .unset, .unset, .unset, .unset, .unset, .unset, .unset, .unset, .unset] [])
  refine GoH.st (fun t k => XS.iloadN X0.here hx rfl (hb hby at_0) rfl  k) ?_
  show GoH _ _ _ _ _ _ _ _ _ _  s₁ (mkF m 1 #[.val (.int p1), .val (.int p2), .val (.int p3), .val (.int p4), .unset, .unset, .unset, .unset, .unset, .unset, .unset, .unset, .unset, .unset, .unset, .unset, .unset, .unset, .unset] [(.int p4)])
  refine GoH.st (fun t k => XS.iconst X0.here hx rfl (hb hby at_1) k) ?_
  show GoH _ _ _ _ _ _ _ _ _ _  s₁ (mkF m 2 #[.val (.int p1), .val (.int p2), .val (.int p3), .val (.int p4), .unset, .unset, .unset, .unset, .unset, .unset, .unset, .unset, .unset, .unset, .unset, .unset, .unset, .unset, .unset] [(.int (1 : Int32)), (.int p4)])
  refine GoH.st (fun t k => XS.iand X0.here hx rfl (hb hby at_2) rfl k) ?_
  show GoH _ _ _ _ _ _ _ _ _ _  s₁ (mkF m 3 #[.val (.int p1), .val (.int p2), .val (.int p3), .val (.int p4), .unset, .unset, .unset, .unset, .unset, .unset, .unset, .unset, .unset, .unset, .unset, .unset, .unset, .unset, .unset] [(.int (p4 &&& (1 : Int32)))])
  refine GoH.st (T' := s₁) (g' := (mkF m 11 #[.val (.int p1), .val (.int p2), .val (.int p3), .val (.int p4), .unset, .unset, .unset, .unset, .unset, .unset, .unset, .unset, .unset, .unset, .unset, .unset, .unset, .unset, .unset] [(.int (if (p4 &&& (1 : Int32)) = (0 : Int32) then (0 : Int32) else (1 : Int32)))])) (fun t k => ?_) ?_
  · show Steps p.tables e below (s₁.setTop (mkF m 3 #[.val (.int p1), .val (.int p2), .val (.int p3), .val (.int p4), .unset, .unset, .unset, .unset, .unset, .unset, .unset, .unset, .unset, .unset, .unset, .unset, .unset, .unset, .unset] [(.int (p4 &&& (1 : Int32)))])) _
    by_cases c3_1 : (p4 &&& (1 : Int32)) = (0 : Int32)
    · refine XS.ifYes X0.here hx rfl (pc0 := 3) (pc' := 10) rfl (hb hby at_3) rfl ((if0 _ _).trans (teq c3_1).1) (by decide) (by decide) ?_
      show Steps p.tables e below (s₁.setTop (mkF m 10 #[.val (.int p1), .val (.int p2), .val (.int p3), .val (.int p4), .unset, .unset, .unset, .unset, .unset, .unset, .unset, .unset, .unset, .unset, .unset, .unset, .unset, .unset, .unset] [])) _
      refine XS.iconst X0.here hx rfl (hb hby at_10) ?_
      (try simp only [if_pos c3_1] at k); exact k
    · refine XS.ifNo X0.here hx rfl (hb hby at_3) rfl ((if0 _ _).trans (feq c3_1).1) ?_
      show Steps p.tables e below (s₁.setTop (mkF m 6 #[.val (.int p1), .val (.int p2), .val (.int p3), .val (.int p4), .unset, .unset, .unset, .unset, .unset, .unset, .unset, .unset, .unset, .unset, .unset, .unset, .unset, .unset, .unset] [])) _
      refine XS.iconst X0.here hx rfl (hb hby at_6) ?_
      show Steps p.tables e below (s₁.setTop (mkF m 7 #[.val (.int p1), .val (.int p2), .val (.int p3), .val (.int p4), .unset, .unset, .unset, .unset, .unset, .unset, .unset, .unset, .unset, .unset, .unset, .unset, .unset, .unset, .unset] [(.int (1 : Int32))])) _
      refine XS.goto X0.here hx rfl (pc0 := 7) (pc' := 11) rfl (hb hby at_7) (by decide) (by decide) ?_
      (try simp only [if_neg c3_1] at k); exact k
  show GoH _ _ _ _ _ _ _ _ _ _  s₁ (mkF m 11 #[.val (.int p1), .val (.int p2), .val (.int p3), .val (.int p4), .unset, .unset, .unset, .unset, .unset, .unset, .unset, .unset, .unset, .unset, .unset, .unset, .unset, .unset, .unset] [(.int (if (p4 &&& (1 : Int32)) = (0 : Int32) then (0 : Int32) else (1 : Int32)))])
  refine GoH.st (fun t k => XS.istore X0.here hx rfl (hb hby at_11) rfl (l' := #[.val (.int p1), .val (.int p2), .val (.int p3), .val (.int p4), .val (.int (if (p4 &&& (1 : Int32)) = (0 : Int32) then (0 : Int32) else (1 : Int32))), .unset, .unset, .unset, .unset, .unset, .unset, .unset, .unset, .unset, .unset, .unset, .unset, .unset, .unset]) rfl k) ?_
  show GoH _ _ _ _ _ _ _ _ _ _  s₁ (mkF m 13 #[.val (.int p1), .val (.int p2), .val (.int p3), .val (.int p4), .val (.int (if (p4 &&& (1 : Int32)) = (0 : Int32) then (0 : Int32) else (1 : Int32))), .unset, .unset, .unset, .unset, .unset, .unset, .unset, .unset, .unset, .unset, .unset, .unset, .unset, .unset] [])
  obtain ⟨f4, eq_f4⟩ : ∃ z, z = (if (p4 &&& (1 : Int32)) = (0 : Int32) then (0 : Int32) else (1 : Int32)) := ⟨_, rfl⟩
  rw [← eq_f4]
  have ok_f4 : f4 = 0 ∨ f4 = 1 := by rw [eq_f4]; split; exact Or.inl rfl; exact Or.inr rfl
  show GoH _ _ _ _ _ _ _ _ _ _  s₁ (mkF m 13 #[.val (.int p1), .val (.int p2), .val (.int p3), .val (.int p4), .val (.int f4), .unset, .unset, .unset, .unset, .unset, .unset, .unset, .unset, .unset, .unset, .unset, .unset, .unset, .unset] [])
  refine GoH.st (fun t k => XS.iloadN X0.here hx rfl (hb hby at_13) rfl  k) ?_
  show GoH _ _ _ _ _ _ _ _ _ _  s₁ (mkF m 14 #[.val (.int p1), .val (.int p2), .val (.int p3), .val (.int p4), .val (.int f4), .unset, .unset, .unset, .unset, .unset, .unset, .unset, .unset, .unset, .unset, .unset, .unset, .unset, .unset] [(.int p4)])
  refine GoH.st (fun t k => XS.iconst X0.here hx rfl (hb hby at_14) k) ?_
  show GoH _ _ _ _ _ _ _ _ _ _  s₁ (mkF m 15 #[.val (.int p1), .val (.int p2), .val (.int p3), .val (.int p4), .val (.int f4), .unset, .unset, .unset, .unset, .unset, .unset, .unset, .unset, .unset, .unset, .unset, .unset, .unset, .unset] [(.int (2 : Int32)), (.int p4)])
  refine GoH.st (fun t k => XS.iand X0.here hx rfl (hb hby at_15) rfl k) ?_
  show GoH _ _ _ _ _ _ _ _ _ _  s₁ (mkF m 16 #[.val (.int p1), .val (.int p2), .val (.int p3), .val (.int p4), .val (.int f4), .unset, .unset, .unset, .unset, .unset, .unset, .unset, .unset, .unset, .unset, .unset, .unset, .unset, .unset] [(.int (p4 &&& (2 : Int32)))])
  refine GoH.st (T' := s₁) (g' := (mkF m 24 #[.val (.int p1), .val (.int p2), .val (.int p3), .val (.int p4), .val (.int f4), .unset, .unset, .unset, .unset, .unset, .unset, .unset, .unset, .unset, .unset, .unset, .unset, .unset, .unset] [(.int (if (p4 &&& (2 : Int32)) = (0 : Int32) then (0 : Int32) else (1 : Int32)))])) (fun t k => ?_) ?_
  · show Steps p.tables e below (s₁.setTop (mkF m 16 #[.val (.int p1), .val (.int p2), .val (.int p3), .val (.int p4), .val (.int f4), .unset, .unset, .unset, .unset, .unset, .unset, .unset, .unset, .unset, .unset, .unset, .unset, .unset, .unset] [(.int (p4 &&& (2 : Int32)))])) _
    by_cases c16_2 : (p4 &&& (2 : Int32)) = (0 : Int32)
    · refine XS.ifYes X0.here hx rfl (pc0 := 16) (pc' := 23) rfl (hb hby at_16) rfl ((if0 _ _).trans (teq c16_2).1) (by decide) (by decide) ?_
      show Steps p.tables e below (s₁.setTop (mkF m 23 #[.val (.int p1), .val (.int p2), .val (.int p3), .val (.int p4), .val (.int f4), .unset, .unset, .unset, .unset, .unset, .unset, .unset, .unset, .unset, .unset, .unset, .unset, .unset, .unset] [])) _
      refine XS.iconst X0.here hx rfl (hb hby at_23) ?_
      (try simp only [if_pos c16_2] at k); exact k
    · refine XS.ifNo X0.here hx rfl (hb hby at_16) rfl ((if0 _ _).trans (feq c16_2).1) ?_
      show Steps p.tables e below (s₁.setTop (mkF m 19 #[.val (.int p1), .val (.int p2), .val (.int p3), .val (.int p4), .val (.int f4), .unset, .unset, .unset, .unset, .unset, .unset, .unset, .unset, .unset, .unset, .unset, .unset, .unset, .unset] [])) _
      refine XS.iconst X0.here hx rfl (hb hby at_19) ?_
      show Steps p.tables e below (s₁.setTop (mkF m 20 #[.val (.int p1), .val (.int p2), .val (.int p3), .val (.int p4), .val (.int f4), .unset, .unset, .unset, .unset, .unset, .unset, .unset, .unset, .unset, .unset, .unset, .unset, .unset, .unset] [(.int (1 : Int32))])) _
      refine XS.goto X0.here hx rfl (pc0 := 20) (pc' := 24) rfl (hb hby at_20) (by decide) (by decide) ?_
      (try simp only [if_neg c16_2] at k); exact k
  show GoH _ _ _ _ _ _ _ _ _ _  s₁ (mkF m 24 #[.val (.int p1), .val (.int p2), .val (.int p3), .val (.int p4), .val (.int f4), .unset, .unset, .unset, .unset, .unset, .unset, .unset, .unset, .unset, .unset, .unset, .unset, .unset, .unset] [(.int (if (p4 &&& (2 : Int32)) = (0 : Int32) then (0 : Int32) else (1 : Int32)))])
  refine GoH.st (fun t k => XS.istore X0.here hx rfl (hb hby at_24) rfl (l' := #[.val (.int p1), .val (.int p2), .val (.int p3), .val (.int p4), .val (.int f4), .val (.int (if (p4 &&& (2 : Int32)) = (0 : Int32) then (0 : Int32) else (1 : Int32))), .unset, .unset, .unset, .unset, .unset, .unset, .unset, .unset, .unset, .unset, .unset, .unset, .unset]) rfl k) ?_
  show GoH _ _ _ _ _ _ _ _ _ _  s₁ (mkF m 26 #[.val (.int p1), .val (.int p2), .val (.int p3), .val (.int p4), .val (.int f4), .val (.int (if (p4 &&& (2 : Int32)) = (0 : Int32) then (0 : Int32) else (1 : Int32))), .unset, .unset, .unset, .unset, .unset, .unset, .unset, .unset, .unset, .unset, .unset, .unset, .unset] [])
  obtain ⟨f5, eq_f5⟩ : ∃ z, z = (if (p4 &&& (2 : Int32)) = (0 : Int32) then (0 : Int32) else (1 : Int32)) := ⟨_, rfl⟩
  rw [← eq_f5]
  have ok_f5 : f5 = 0 ∨ f5 = 1 := by rw [eq_f5]; split; exact Or.inl rfl; exact Or.inr rfl
  show GoH _ _ _ _ _ _ _ _ _ _  s₁ (mkF m 26 #[.val (.int p1), .val (.int p2), .val (.int p3), .val (.int p4), .val (.int f4), .val (.int f5), .unset, .unset, .unset, .unset, .unset, .unset, .unset, .unset, .unset, .unset, .unset, .unset, .unset] [])
  refine GoH.st (fun t k => XS.iloadN X0.here hx rfl (hb hby at_26) rfl  k) ?_
  show GoH _ _ _ _ _ _ _ _ _ _  s₁ (mkF m 27 #[.val (.int p1), .val (.int p2), .val (.int p3), .val (.int p4), .val (.int f4), .val (.int f5), .unset, .unset, .unset, .unset, .unset, .unset, .unset, .unset, .unset, .unset, .unset, .unset, .unset] [(.int p4)])
  refine GoH.st (fun t k => XS.iconst X0.here hx rfl (hb hby at_27) k) ?_
  show GoH _ _ _ _ _ _ _ _ _ _  s₁ (mkF m 28 #[.val (.int p1), .val (.int p2), .val (.int p3), .val (.int p4), .val (.int f4), .val (.int f5), .unset, .unset, .unset, .unset, .unset, .unset, .unset, .unset, .unset, .unset, .unset, .unset, .unset] [(.int (4 : Int32)), (.int p4)])
  refine GoH.st (fun t k => XS.iand X0.here hx rfl (hb hby at_28) rfl k) ?_
  show GoH _ _ _ _ _ _ _ _ _ _  s₁ (mkF m 29 #[.val (.int p1), .val (.int p2), .val (.int p3), .val (.int p4), .val (.int f4), .val (.int f5), .unset, .unset, .unset, .unset, .unset, .unset, .unset, .unset, .unset, .unset, .unset, .unset, .unset] [(.int (p4 &&& (4 : Int32)))])
  refine GoH.st (T' := s₁) (g' := (mkF m 37 #[.val (.int p1), .val (.int p2), .val (.int p3), .val (.int p4), .val (.int f4), .val (.int f5), .unset, .unset, .unset, .unset, .unset, .unset, .unset, .unset, .unset, .unset, .unset, .unset, .unset] [(.int (if (p4 &&& (4 : Int32)) = (0 : Int32) then (0 : Int32) else (1 : Int32)))])) (fun t k => ?_) ?_
  · show Steps p.tables e below (s₁.setTop (mkF m 29 #[.val (.int p1), .val (.int p2), .val (.int p3), .val (.int p4), .val (.int f4), .val (.int f5), .unset, .unset, .unset, .unset, .unset, .unset, .unset, .unset, .unset, .unset, .unset, .unset, .unset] [(.int (p4 &&& (4 : Int32)))])) _
    by_cases c29_3 : (p4 &&& (4 : Int32)) = (0 : Int32)
    · refine XS.ifYes X0.here hx rfl (pc0 := 29) (pc' := 36) rfl (hb hby at_29) rfl ((if0 _ _).trans (teq c29_3).1) (by decide) (by decide) ?_
      show Steps p.tables e below (s₁.setTop (mkF m 36 #[.val (.int p1), .val (.int p2), .val (.int p3), .val (.int p4), .val (.int f4), .val (.int f5), .unset, .unset, .unset, .unset, .unset, .unset, .unset, .unset, .unset, .unset, .unset, .unset, .unset] [])) _
      refine XS.iconst X0.here hx rfl (hb hby at_36) ?_
      (try simp only [if_pos c29_3] at k); exact k
    · refine XS.ifNo X0.here hx rfl (hb hby at_29) rfl ((if0 _ _).trans (feq c29_3).1) ?_
      show Steps p.tables e below (s₁.setTop (mkF m 32 #[.val (.int p1), .val (.int p2), .val (.int p3), .val (.int p4), .val (.int f4), .val (.int f5), .unset, .unset, .unset, .unset, .unset, .unset, .unset, .unset, .unset, .unset, .unset, .unset, .unset] [])) _
      refine XS.iconst X0.here hx rfl (hb hby at_32) ?_
      show Steps p.tables e below (s₁.setTop (mkF m 33 #[.val (.int p1), .val (.int p2), .val (.int p3), .val (.int p4), .val (.int f4), .val (.int f5), .unset, .unset, .unset, .unset, .unset, .unset, .unset, .unset, .unset, .unset, .unset, .unset, .unset] [(.int (1 : Int32))])) _
      refine XS.goto X0.here hx rfl (pc0 := 33) (pc' := 37) rfl (hb hby at_33) (by decide) (by decide) ?_
      (try simp only [if_neg c29_3] at k); exact k
  show GoH _ _ _ _ _ _ _ _ _ _  s₁ (mkF m 37 #[.val (.int p1), .val (.int p2), .val (.int p3), .val (.int p4), .val (.int f4), .val (.int f5), .unset, .unset, .unset, .unset, .unset, .unset, .unset, .unset, .unset, .unset, .unset, .unset, .unset] [(.int (if (p4 &&& (4 : Int32)) = (0 : Int32) then (0 : Int32) else (1 : Int32)))])
  refine GoH.st (fun t k => XS.istore X0.here hx rfl (hb hby at_37) rfl (l' := #[.val (.int p1), .val (.int p2), .val (.int p3), .val (.int p4), .val (.int f4), .val (.int f5), .val (.int (if (p4 &&& (4 : Int32)) = (0 : Int32) then (0 : Int32) else (1 : Int32))), .unset, .unset, .unset, .unset, .unset, .unset, .unset, .unset, .unset, .unset, .unset, .unset]) rfl k) ?_
  show GoH _ _ _ _ _ _ _ _ _ _  s₁ (mkF m 39 #[.val (.int p1), .val (.int p2), .val (.int p3), .val (.int p4), .val (.int f4), .val (.int f5), .val (.int (if (p4 &&& (4 : Int32)) = (0 : Int32) then (0 : Int32) else (1 : Int32))), .unset, .unset, .unset, .unset, .unset, .unset, .unset, .unset, .unset, .unset, .unset, .unset] [])
  obtain ⟨f6, eq_f6⟩ : ∃ z, z = (if (p4 &&& (4 : Int32)) = (0 : Int32) then (0 : Int32) else (1 : Int32)) := ⟨_, rfl⟩
  rw [← eq_f6]
  have ok_f6 : f6 = 0 ∨ f6 = 1 := by rw [eq_f6]; split; exact Or.inl rfl; exact Or.inr rfl
  show GoH _ _ _ _ _ _ _ _ _ _  s₁ (mkF m 39 #[.val (.int p1), .val (.int p2), .val (.int p3), .val (.int p4), .val (.int f4), .val (.int f5), .val (.int f6), .unset, .unset, .unset, .unset, .unset, .unset, .unset, .unset, .unset, .unset, .unset, .unset] [])
  refine GoH.st (fun t k => XS.iloadN X0.here hx rfl (hb hby at_39) rfl  k) ?_
  show GoH _ _ _ _ _ _ _ _ _ _  s₁ (mkF m 40 #[.val (.int p1), .val (.int p2), .val (.int p3), .val (.int p4), .val (.int f4), .val (.int f5), .val (.int f6), .unset, .unset, .unset, .unset, .unset, .unset, .unset, .unset, .unset, .unset, .unset, .unset] [(.int p4)])
  refine GoH.st (fun t k => XS.bipush X0.here hx rfl (hb hby at_40) k) ?_
  show GoH _ _ _ _ _ _ _ _ _ _  s₁ (mkF m 42 #[.val (.int p1), .val (.int p2), .val (.int p3), .val (.int p4), .val (.int f4), .val (.int f5), .val (.int f6), .unset, .unset, .unset, .unset, .unset, .unset, .unset, .unset, .unset, .unset, .unset, .unset] [(.int (8 : Int32)), (.int p4)])
  refine GoH.st (fun t k => XS.iand X0.here hx rfl (hb hby at_42) rfl k) ?_
  show GoH _ _ _ _ _ _ _ _ _ _  s₁ (mkF m 43 #[.val (.int p1), .val (.int p2), .val (.int p3), .val (.int p4), .val (.int f4), .val (.int f5), .val (.int f6), .unset, .unset, .unset, .unset, .unset, .unset, .unset, .unset, .unset, .unset, .unset, .unset] [(.int (p4 &&& (8 : Int32)))])
  refine GoH.st (T' := s₁) (g' := (mkF m 51 #[.val (.int p1), .val (.int p2), .val (.int p3), .val (.int p4), .val (.int f4), .val (.int f5), .val (.int f6), .unset, .unset, .unset, .unset, .unset, .unset, .unset, .unset, .unset, .unset, .unset, .unset] [(.int (if (p4 &&& (8 : Int32)) = (0 : Int32) then (0 : Int32) else (1 : Int32)))])) (fun t k => ?_) ?_
  · show Steps p.tables e below (s₁.setTop (mkF m 43 #[.val (.int p1), .val (.int p2), .val (.int p3), .val (.int p4), .val (.int f4), .val (.int f5), .val (.int f6), .unset, .unset, .unset, .unset, .unset, .unset, .unset, .unset, .unset, .unset, .unset, .unset] [(.int (p4 &&& (8 : Int32)))])) _
    by_cases c43_4 : (p4 &&& (8 : Int32)) = (0 : Int32)
    · refine XS.ifYes X0.here hx rfl (pc0 := 43) (pc' := 50) rfl (hb hby at_43) rfl ((if0 _ _).trans (teq c43_4).1) (by decide) (by decide) ?_
      show Steps p.tables e below (s₁.setTop (mkF m 50 #[.val (.int p1), .val (.int p2), .val (.int p3), .val (.int p4), .val (.int f4), .val (.int f5), .val (.int f6), .unset, .unset, .unset, .unset, .unset, .unset, .unset, .unset, .unset, .unset, .unset, .unset] [])) _
      refine XS.iconst X0.here hx rfl (hb hby at_50) ?_
      (try simp only [if_pos c43_4] at k); exact k
    · refine XS.ifNo X0.here hx rfl (hb hby at_43) rfl ((if0 _ _).trans (feq c43_4).1) ?_
      show Steps p.tables e below (s₁.setTop (mkF m 46 #[.val (.int p1), .val (.int p2), .val (.int p3), .val (.int p4), .val (.int f4), .val (.int f5), .val (.int f6), .unset, .unset, .unset, .unset, .unset, .unset, .unset, .unset, .unset, .unset, .unset, .unset] [])) _
      refine XS.iconst X0.here hx rfl (hb hby at_46) ?_
      show Steps p.tables e below (s₁.setTop (mkF m 47 #[.val (.int p1), .val (.int p2), .val (.int p3), .val (.int p4), .val (.int f4), .val (.int f5), .val (.int f6), .unset, .unset, .unset, .unset, .unset, .unset, .unset, .unset, .unset, .unset, .unset, .unset] [(.int (1 : Int32))])) _
      refine XS.goto X0.here hx rfl (pc0 := 47) (pc' := 51) rfl (hb hby at_47) (by decide) (by decide) ?_
      (try simp only [if_neg c43_4] at k); exact k
  show GoH _ _ _ _ _ _ _ _ _ _  s₁ (mkF m 51 #[.val (.int p1), .val (.int p2), .val (.int p3), .val (.int p4), .val (.int f4), .val (.int f5), .val (.int f6), .unset, .unset, .unset, .unset, .unset, .unset, .unset, .unset, .unset, .unset, .unset, .unset] [(.int (if (p4 &&& (8 : Int32)) = (0 : Int32) then (0 : Int32) else (1 : Int32)))])
  refine GoH.st (fun t k => XS.istore X0.here hx rfl (hb hby at_51) rfl (l' := #[.val (.int p1), .val (.int p2), .val (.int p3), .val (.int p4), .val (.int f4), .val (.int f5), .val (.int f6), .val (.int (if (p4 &&& (8 : Int32)) = (0 : Int32) then (0 : Int32) else (1 : Int32))), .unset, .unset, .unset, .unset, .unset, .unset, .unset, .unset, .unset, .unset, .unset]) rfl k) ?_
  show GoH _ _ _ _ _ _ _ _ _ _  s₁ (mkF m 53 #[.val (.int p1), .val (.int p2), .val (.int p3), .val (.int p4), .val (.int f4), .val (.int f5), .val (.int f6), .val (.int (if (p4 &&& (8 : Int32)) = (0 : Int32) then (0 : Int32) else (1 : Int32))), .unset, .unset, .unset, .unset, .unset, .unset, .unset, .unset, .unset, .unset, .unset] [])
  obtain ⟨f7, eq_f7⟩ : ∃ z, z = (if (p4 &&& (8 : Int32)) = (0 : Int32) then (0 : Int32) else (1 : Int32)) := ⟨_, rfl⟩
  rw [← eq_f7]
  have ok_f7 : f7 = 0 ∨ f7 = 1 := by rw [eq_f7]; split; exact Or.inl rfl; exact Or.inr rfl
  show GoH _ _ _ _ _ _ _ _ _ _  s₁ (mkF m 53 #[.val (.int p1), .val (.int p2), .val (.int p3), .val (.int p4), .val (.int f4), .val (.int f5), .val (.int f6), .val (.int f7), .unset, .unset, .unset, .unset, .unset, .unset, .unset, .unset, .unset, .unset, .unset] [])
  refine GoH.st (fun t k => XS.iconst X0.here hx rfl (hb hby at_53) k) ?_
  show GoH _ _ _ _ _ _ _ _ _ _  s₁ (mkF m 54 #[.val (.int p1), .val (.int p2), .val (.int p3), .val (.int p4), .val (.int f4), .val (.int f5), .val (.int f6), .val (.int f7), .unset, .unset, .unset, .unset, .unset, .unset, .unset, .unset, .unset, .unset, .unset] [(.int (1 : Int32))])
  obtain ⟨T5, h5, k5, X5, e5, E5, A5, st5⟩ := newP X0 hx hZ (hw _ (List.mem_of_getElem? (i := 0) rfl)) e0 (g := (mkF m 54 #[.val (.int p1), .val (.int p2), .val (.int p3), .val (.int p4), .val (.int f4), .val (.int f5), .val (.int f6), .val (.int f7), .unset, .unset, .unset, .unset, .unset, .unset, .unset, .unset, .unset, .unset, .unset] [(.int (1 : Int32))])) rfl (hb hby at_54) rfl (by decide) (cap := 1) (by decide) (by decide) (by decide) (by decide)
  obtain ⟨b5, g5⟩ : ∃ z, z = h0.size := ⟨_, rfl⟩
  rw [← g5] at A5 st5
  refine GoH.st st5 ?_
  have g_b5 : n0 ≤ b5 := by rw [g5]; exact own_le O
  have Sf_b5 : Safe Z EL s.vm h0 b5 := Safe.new (Nat.le_of_eq g5.symm)
  have sz_b5 : h0.size ≤ b5 := by rw [g5]; exact KK.1
  have Sf_b5 := Safe.ext E5 HH Sf_b5
  have RR := RR.trans (CHr.ext E5 HH)
  have HH := HH.ext E5
  have hk := Nat.le_trans hk E5.1
  have O := O.ext E5
  have KK := KK.ext E5
  have V_b5 : Arv Z h5 b5 k5 .char (1 : Int32) [(.int (0 : Int32))] (.int (0 : Int32)) := (Arv.new A5 (by decide)).pad (pad_rep [] (.int (0 : Int32)) 1)
  show GoH _ _ _ _ _ _ _ _ _ _  T5 (mkF m 56 #[.val (.int p1), .val (.int p2), .val (.int p3), .val (.int p4), .val (.int f4), .val (.int f5), .val (.int f6), .val (.int f7), .unset, .unset, .unset, .unset, .unset, .unset, .unset, .unset, .unset, .unset, .unset] [(.ref b5)])
  refine GoH.st (fun t k => XS.astore X5.here hx rfl (hb hby at_56) rfl rfl (l' := #[.val (.int p1), .val (.int p2), .val (.int p3), .val (.int p4), .val (.int f4), .val (.int f5), .val (.int f6), .val (.int f7), .val (.ref b5), .unset, .unset, .unset, .unset, .unset, .unset, .unset, .unset, .unset, .unset]) rfl k) ?_
  show GoH _ _ _ _ _ _ _ _ _ _  T5 (mkF m 58 #[.val (.int p1), .val (.int p2), .val (.int p3), .val (.int p4), .val (.int f4), .val (.int f5), .val (.int f6), .val (.int f7), .val (.ref b5), .unset, .unset, .unset, .unset, .unset, .unset, .unset, .unset, .unset, .unset] [])
  refine GoH.st (fun t k => XS.aload X5.here hx rfl (hb hby at_58) rfl rfl  k) ?_
  show GoH _ _ _ _ _ _ _ _ _ _  T5 (mkF m 60 #[.val (.int p1), .val (.int p2), .val (.int p3), .val (.int p4), .val (.int f4), .val (.int f5), .val (.int f6), .val (.int f7), .val (.ref b5), .unset, .unset, .unset, .unset, .unset, .unset, .unset, .unset, .unset, .unset] [(.ref b5)])
  refine GoH.st (fun t k => XS.iconst X5.here hx rfl (hb hby at_60) k) ?_
  show GoH _ _ _ _ _ _ _ _ _ _  T5 (mkF m 61 #[.val (.int p1), .val (.int p2), .val (.int p3), .val (.int p4), .val (.int f4), .val (.int f5), .val (.int f6), .val (.int f7), .val (.ref b5), .unset, .unset, .unset, .unset, .unset, .unset, .unset, .unset, .unset, .unset] [(.int (0 : Int32)), (.ref b5)])
  refine GoH.st (fun t k => XS.iloadN X5.here hx rfl (hb hby at_61) rfl  k) ?_
  show GoH _ _ _ _ _ _ _ _ _ _  T5 (mkF m 62 #[.val (.int p1), .val (.int p2), .val (.int p3), .val (.int p4), .val (.int f4), .val (.int f5), .val (.int f6), .val (.int f7), .val (.ref b5), .unset, .unset, .unset, .unset, .unset, .unset, .unset, .unset, .unset, .unset] [(.int p1), (.int (0 : Int32)), (.ref b5)])
  refine GoH.st (fun t k => XS.sipush X5.here hx rfl (hb hby at_62) k) ?_
  show GoH _ _ _ _ _ _ _ _ _ _  T5 (mkF m 65 #[.val (.int p1), .val (.int p2), .val (.int p3), .val (.int p4), .val (.int f4), .val (.int f5), .val (.int f6), .val (.int f7), .val (.ref b5), .unset, .unset, .unset, .unset, .unset, .unset, .unset, .unset, .unset, .unset] [(.int (255 : Int32)), (.int p1), (.int (0 : Int32)), (.ref b5)])
  refine GoH.st (fun t k => XS.iand X5.here hx rfl (hb hby at_65) rfl k) ?_
  show GoH _ _ _ _ _ _ _ _ _ _  T5 (mkF m 66 #[.val (.int p1), .val (.int p2), .val (.int p3), .val (.int p4), .val (.int f4), .val (.int f5), .val (.int f6), .val (.int f7), .val (.ref b5), .unset, .unset, .unset, .unset, .unset, .unset, .unset, .unset, .unset, .unset] [(.int (p1 &&& (255 : Int32))), (.int (0 : Int32)), (.ref b5)])
  refine GoH.st (fun t k => XS.i2c X5.here hx rfl (hb hby at_66) rfl k) ?_
  show GoH _ _ _ _ _ _ _ _ _ _  T5 (mkF m 67 #[.val (.int p1), .val (.int p2), .val (.int p3), .val (.int p4), .val (.int f4), .val (.int f5), .val (.int f6), .val (.int f7), .val (.ref b5), .unset, .unset, .unset, .unset, .unset, .unset, .unset, .unset, .unset, .unset] [(.int ((p1 &&& (255 : Int32)).toUInt32.toUInt16.toUInt32.toInt32)), (.int (0 : Int32)), (.ref b5)])
  obtain ⟨cl6, Ar6, q6, S6, M6, Hh6, G6⟩ := V_b5
  obtain ⟨T7, h7, X7, e7, W7, st7⟩ := stC X5 hx hZ e5 Ar6 (j := (0 : Int32)) (inb_of S6 ⟨by decide, by decide⟩) (g := (mkF m 67 #[.val (.int p1), .val (.int p2), .val (.int p3), .val (.int p4), .val (.int f4), .val (.int f5), .val (.int f6), .val (.int f7), .val (.ref b5), .unset, .unset, .unset, .unset, .unset, .unset, .unset, .unset, .unset, .unset] [(.int ((p1 &&& (255 : Int32)).toUInt32.toUInt16.toUInt32.toInt32)), (.int (0 : Int32)), (.ref b5)])) rfl rfl (hb hby at_67)
  refine GoH.st st7 ?_
  have V_b5 : Arv Z h7 b5 k5 .char (1 : Int32) [(.int (nar .char ((p1 &&& (255 : Int32)).toUInt32.toUInt16.toUInt32.toInt32)))] (.int (0 : Int32)) := Arv.set Ar6 q6 S6 M6 Hh6 G6 (fits_nar_char _) W7 0 rfl (Nat.le_of_ble_eq_true rfl)
  have N7 := Fr.snoc X7 N0 g_b5
  have Sf'_b5 := Safe.wr W7 Sf_b5 HH Sf_b5
  have RR := RR.trans (CHr.wr W7 Sf_b5 HH)
  have HH := HH.wr W7 Sf_b5
  have Sf_b5 := Sf'_b5
  have hk := Nat.le_trans hk (Nat.le_of_eq W7.size.symm)
  have O := O.wr W7 g_b5
  have KK := KK.wr W7 (Or.inr sz_b5)
  show GoH _ _ _ _ _ _ _ _ _ _  T7 (mkF m 68 #[.val (.int p1), .val (.int p2), .val (.int p3), .val (.int p4), .val (.int f4), .val (.int f5), .val (.int f6), .val (.int f7), .val (.ref b5), .unset, .unset, .unset, .unset, .unset, .unset, .unset, .unset, .unset, .unset] [])
  refine GoH.st (fun t k => XS.iconst X7.here hx rfl (hb hby at_68) k) ?_
  show GoH _ _ _ _ _ _ _ _ _ _  T7 (mkF m 69 #[.val (.int p1), .val (.int p2), .val (.int p3), .val (.int p4), .val (.int f4), .val (.int f5), .val (.int f6), .val (.int f7), .val (.ref b5), .unset, .unset, .unset, .unset, .unset, .unset, .unset, .unset, .unset, .unset] [(.int (2 : Int32))])
  obtain ⟨T8, h8, k8, X8, e8, E8, A8, st8⟩ := newP X7 hx hZ (hw _ (List.mem_of_getElem? (i := 0) rfl)) e7 (g := (mkF m 69 #[.val (.int p1), .val (.int p2), .val (.int p3), .val (.int p4), .val (.int f4), .val (.int f5), .val (.int f6), .val (.int f7), .val (.ref b5), .unset, .unset, .unset, .unset, .unset, .unset, .unset, .unset, .unset, .unset] [(.int (2 : Int32))])) rfl (hb hby at_69) rfl (by decide) (cap := 2) (by decide) (by decide) (by decide) (by decide)
  obtain ⟨b8, g8⟩ : ∃ z, z = h7.size := ⟨_, rfl⟩
  rw [← g8] at A8 st8
  refine GoH.st st8 ?_
  have g_b8 : n0 ≤ b8 := by rw [g8]; exact own_le O
  have Sf_b8 : Safe Z EL s.vm h7 b8 := Safe.new (Nat.le_of_eq g8.symm)
  have sz_b8 : h0.size ≤ b8 := by rw [g8]; exact KK.1
  have ne_b5_b8 : b5 ≠ b8 := Nat.ne_of_lt (by rw [g8]; exact V_b5.lt)
  have V_b5 := V_b5.ext E8
  have Sf_b5 := Safe.ext E8 HH Sf_b5
  have Sf_b8 := Safe.ext E8 HH Sf_b8
  have RR := RR.trans (CHr.ext E8 HH)
  have HH := HH.ext E8
  have hk := Nat.le_trans hk E8.1
  have O := O.ext E8
  have KK := KK.ext E8
  have V_b8 : Arv Z h8 b8 k8 .char (2 : Int32) [(.int (0 : Int32)), (.int (0 : Int32))] (.int (0 : Int32)) := (Arv.new A8 (by decide)).pad (pad_rep [] (.int (0 : Int32)) 2)
  show GoH _ _ _ _ _ _ _ _ _ _  T8 (mkF m 71 #[.val (.int p1), .val (.int p2), .val (.int p3), .val (.int p4), .val (.int f4), .val (.int f5), .val (.int f6), .val (.int f7), .val (.ref b5), .unset, .unset, .unset, .unset, .unset, .unset, .unset, .unset, .unset, .unset] [(.ref b8)])
  refine GoH.st (fun t k => XS.astore X8.here hx rfl (hb hby at_71) rfl rfl (l' := #[.val (.int p1), .val (.int p2), .val (.int p3), .val (.int p4), .val (.int f4), .val (.int f5), .val (.int f6), .val (.int f7), .val (.ref b5), .val (.ref b8), .unset, .unset, .unset, .unset, .unset, .unset, .unset, .unset, .unset]) rfl k) ?_
  show GoH _ _ _ _ _ _ _ _ _ _  T8 (mkF m 73 #[.val (.int p1), .val (.int p2), .val (.int p3), .val (.int p4), .val (.int f4), .val (.int f5), .val (.int f6), .val (.int f7), .val (.ref b5), .val (.ref b8), .unset, .unset, .unset, .unset, .unset, .unset, .unset, .unset, .unset] [])
  refine GoH.st (fun t k => XS.aload X8.here hx rfl (hb hby at_73) rfl rfl  k) ?_
  show GoH _ _ _ _ _ _ _ _ _ _  T8 (mkF m 75 #[.val (.int p1), .val (.int p2), .val (.int p3), .val (.int p4), .val (.int f4), .val (.int f5), .val (.int f6), .val (.int f7), .val (.ref b5), .val (.ref b8), .unset, .unset, .unset, .unset, .unset, .unset, .unset, .unset, .unset] [(.ref b8)])
  refine GoH.st (fun t k => XS.iconst X8.here hx rfl (hb hby at_75) k) ?_
  show GoH _ _ _ _ _ _ _ _ _ _  T8 (mkF m 76 #[.val (.int p1), .val (.int p2), .val (.int p3), .val (.int p4), .val (.int f4), .val (.int f5), .val (.int f6), .val (.int f7), .val (.ref b5), .val (.ref b8), .unset, .unset, .unset, .unset, .unset, .unset, .unset, .unset, .unset] [(.int (0 : Int32)), (.ref b8)])
  refine GoH.st (fun t k => XS.iloadN X8.here hx rfl (hb hby at_76) rfl  k) ?_
  show GoH _ _ _ _ _ _ _ _ _ _  T8 (mkF m 77 #[.val (.int p1), .val (.int p2), .val (.int p3), .val (.int p4), .val (.int f4), .val (.int f5), .val (.int f6), .val (.int f7), .val (.ref b5), .val (.ref b8), .unset, .unset, .unset, .unset, .unset, .unset, .unset, .unset, .unset] [(.int p2), (.int (0 : Int32)), (.ref b8)])
  refine GoH.st (fun t k => XS.sipush X8.here hx rfl (hb hby at_77) k) ?_
  show GoH _ _ _ _ _ _ _ _ _ _  T8 (mkF m 80 #[.val (.int p1), .val (.int p2), .val (.int p3), .val (.int p4), .val (.int f4), .val (.int f5), .val (.int f6), .val (.int f7), .val (.ref b5), .val (.ref b8), .unset, .unset, .unset, .unset, .unset, .unset, .unset, .unset, .unset] [(.int (255 : Int32)), (.int p2), (.int (0 : Int32)), (.ref b8)])
  refine GoH.st (fun t k => XS.iand X8.here hx rfl (hb hby at_80) rfl k) ?_
  show GoH _ _ _ _ _ _ _ _ _ _  T8 (mkF m 81 #[.val (.int p1), .val (.int p2), .val (.int p3), .val (.int p4), .val (.int f4), .val (.int f5), .val (.int f6), .val (.int f7), .val (.ref b5), .val (.ref b8), .unset, .unset, .unset, .unset, .unset, .unset, .unset, .unset, .unset] [(.int (p2 &&& (255 : Int32))), (.int (0 : Int32)), (.ref b8)])
  refine GoH.st (fun t k => XS.i2c X8.here hx rfl (hb hby at_81) rfl k) ?_
  show GoH _ _ _ _ _ _ _ _ _ _  T8 (mkF m 82 #[.val (.int p1), .val (.int p2), .val (.int p3), .val (.int p4), .val (.int f4), .val (.int f5), .val (.int f6), .val (.int f7), .val (.ref b5), .val (.ref b8), .unset, .unset, .unset, .unset, .unset, .unset, .unset, .unset, .unset] [(.int ((p2 &&& (255 : Int32)).toUInt32.toUInt16.toUInt32.toInt32)), (.int (0 : Int32)), (.ref b8)])
  obtain ⟨cl9, Ar9, q9, S9, M9, Hh9, G9⟩ := V_b8
  obtain ⟨T10, h10, X10, e10, W10, st10⟩ := stC X8 hx hZ e8 Ar9 (j := (0 : Int32)) (inb_of S9 ⟨by decide, by decide⟩) (g := (mkF m 82 #[.val (.int p1), .val (.int p2), .val (.int p3), .val (.int p4), .val (.int f4), .val (.int f5), .val (.int f6), .val (.int f7), .val (.ref b5), .val (.ref b8), .unset, .unset, .unset, .unset, .unset, .unset, .unset, .unset, .unset] [(.int ((p2 &&& (255 : Int32)).toUInt32.toUInt16.toUInt32.toInt32)), (.int (0 : Int32)), (.ref b8)])) rfl rfl (hb hby at_82)
  refine GoH.st st10 ?_
  have V_b8 : Arv Z h10 b8 k8 .char (2 : Int32) [(.int (nar .char ((p2 &&& (255 : Int32)).toUInt32.toUInt16.toUInt32.toInt32))), (.int (0 : Int32))] (.int (0 : Int32)) := Arv.set Ar9 q9 S9 M9 Hh9 G9 (fits_nar_char _) W10 0 rfl (Nat.le_of_ble_eq_true rfl)
  have N10 := Fr.snoc X10 N7 g_b8
  have V_b5 := V_b5.other W10 ne_b5_b8
  have Sf_b5 := Safe.wr W10 Sf_b8 HH Sf_b5
  have Sf'_b8 := Safe.wr W10 Sf_b8 HH Sf_b8
  have RR := RR.trans (CHr.wr W10 Sf_b8 HH)
  have HH := HH.wr W10 Sf_b8
  have Sf_b8 := Sf'_b8
  have hk := Nat.le_trans hk (Nat.le_of_eq W10.size.symm)
  have O := O.wr W10 g_b8
  have KK := KK.wr W10 (Or.inr sz_b8)
  show GoH _ _ _ _ _ _ _ _ _ _  T10 (mkF m 83 #[.val (.int p1), .val (.int p2), .val (.int p3), .val (.int p4), .val (.int f4), .val (.int f5), .val (.int f6), .val (.int f7), .val (.ref b5), .val (.ref b8), .unset, .unset, .unset, .unset, .unset, .unset, .unset, .unset, .unset] [])
  refine GoH.st (fun t k => XS.aload X10.here hx rfl (hb hby at_83) rfl rfl  k) ?_
  show GoH _ _ _ _ _ _ _ _ _ _  T10 (mkF m 85 #[.val (.int p1), .val (.int p2), .val (.int p3), .val (.int p4), .val (.int f4), .val (.int f5), .val (.int f6), .val (.int f7), .val (.ref b5), .val (.ref b8), .unset, .unset, .unset, .unset, .unset, .unset, .unset, .unset, .unset] [(.ref b8)])
  refine GoH.st (fun t k => XS.iconst X10.here hx rfl (hb hby at_85) k) ?_
  show GoH _ _ _ _ _ _ _ _ _ _  T10 (mkF m 86 #[.val (.int p1), .val (.int p2), .val (.int p3), .val (.int p4), .val (.int f4), .val (.int f5), .val (.int f6), .val (.int f7), .val (.ref b5), .val (.ref b8), .unset, .unset, .unset, .unset, .unset, .unset, .unset, .unset, .unset] [(.int (1 : Int32)), (.ref b8)])
  refine GoH.st (fun t k => XS.iloadN X10.here hx rfl (hb hby at_86) rfl  k) ?_
  show GoH _ _ _ _ _ _ _ _ _ _  T10 (mkF m 87 #[.val (.int p1), .val (.int p2), .val (.int p3), .val (.int p4), .val (.int f4), .val (.int f5), .val (.int f6), .val (.int f7), .val (.ref b5), .val (.ref b8), .unset, .unset, .unset, .unset, .unset, .unset, .unset, .unset, .unset] [(.int p3), (.int (1 : Int32)), (.ref b8)])
  refine GoH.st (fun t k => XS.sipush X10.here hx rfl (hb hby at_87) k) ?_
  show GoH _ _ _ _ _ _ _ _ _ _  T10 (mkF m 90 #[.val (.int p1), .val (.int p2), .val (.int p3), .val (.int p4), .val (.int f4), .val (.int f5), .val (.int f6), .val (.int f7), .val (.ref b5), .val (.ref b8), .unset, .unset, .unset, .unset, .unset, .unset, .unset, .unset, .unset] [(.int (255 : Int32)), (.int p3), (.int (1 : Int32)), (.ref b8)])
  refine GoH.st (fun t k => XS.iand X10.here hx rfl (hb hby at_90) rfl k) ?_
  show GoH _ _ _ _ _ _ _ _ _ _  T10 (mkF m 91 #[.val (.int p1), .val (.int p2), .val (.int p3), .val (.int p4), .val (.int f4), .val (.int f5), .val (.int f6), .val (.int f7), .val (.ref b5), .val (.ref b8), .unset, .unset, .unset, .unset, .unset, .unset, .unset, .unset, .unset] [(.int (p3 &&& (255 : Int32))), (.int (1 : Int32)), (.ref b8)])
  refine GoH.st (fun t k => XS.i2c X10.here hx rfl (hb hby at_91) rfl k) ?_
  show GoH _ _ _ _ _ _ _ _ _ _  T10 (mkF m 92 #[.val (.int p1), .val (.int p2), .val (.int p3), .val (.int p4), .val (.int f4), .val (.int f5), .val (.int f6), .val (.int f7), .val (.ref b5), .val (.ref b8), .unset, .unset, .unset, .unset, .unset, .unset, .unset, .unset, .unset] [(.int ((p3 &&& (255 : Int32)).toUInt32.toUInt16.toUInt32.toInt32)), (.int (1 : Int32)), (.ref b8)])
  obtain ⟨cl11, Ar11, q11, S11, M11, Hh11, G11⟩ := V_b8
  obtain ⟨T12, h12, X12, e12, W12, st12⟩ := stC X10 hx hZ e10 Ar11 (j := (1 : Int32)) (inb_of S11 ⟨by decide, by decide⟩) (g := (mkF m 92 #[.val (.int p1), .val (.int p2), .val (.int p3), .val (.int p4), .val (.int f4), .val (.int f5), .val (.int f6), .val (.int f7), .val (.ref b5), .val (.ref b8), .unset, .unset, .unset, .unset, .unset, .unset, .unset, .unset, .unset] [(.int ((p3 &&& (255 : Int32)).toUInt32.toUInt16.toUInt32.toInt32)), (.int (1 : Int32)), (.ref b8)])) rfl rfl (hb hby at_92)
  refine GoH.st st12 ?_
  have V_b8 : Arv Z h12 b8 k8 .char (2 : Int32) [(.int (nar .char ((p2 &&& (255 : Int32)).toUInt32.toUInt16.toUInt32.toInt32))), (.int (nar .char ((p3 &&& (255 : Int32)).toUInt32.toUInt16.toUInt32.toInt32)))] (.int (0 : Int32)) := Arv.set Ar11 q11 S11 M11 Hh11 G11 (fits_nar_char _) W12 1 rfl (Nat.le_of_ble_eq_true rfl)
  have N12 := Fr.snoc X12 N10 g_b8
  have V_b5 := V_b5.other W12 ne_b5_b8
  have Sf_b5 := Safe.wr W12 Sf_b8 HH Sf_b5
  have Sf'_b8 := Safe.wr W12 Sf_b8 HH Sf_b8
  have RR := RR.trans (CHr.wr W12 Sf_b8 HH)
  have HH := HH.wr W12 Sf_b8
  have Sf_b8 := Sf'_b8
  have hk := Nat.le_trans hk (Nat.le_of_eq W12.size.symm)
  have O := O.wr W12 g_b8
  have KK := KK.wr W12 (Or.inr sz_b8)
  show GoH _ _ _ _ _ _ _ _ _ _  T12 (mkF m 93 #[.val (.int p1), .val (.int p2), .val (.int p3), .val (.int p4), .val (.int f4), .val (.int f5), .val (.int f6), .val (.int f7), .val (.ref b5), .val (.ref b8), .unset, .unset, .unset, .unset, .unset, .unset, .unset, .unset, .unset] [])
  refine GoH.st (fun t k => XS.iconst X12.here hx rfl (hb hby at_93) k) ?_
  show GoH _ _ _ _ _ _ _ _ _ _  T12 (mkF m 94 #[.val (.int p1), .val (.int p2), .val (.int p3), .val (.int p4), .val (.int f4), .val (.int f5), .val (.int f6), .val (.int f7), .val (.ref b5), .val (.ref b8), .unset, .unset, .unset, .unset, .unset, .unset, .unset, .unset, .unset] [(.int (0 : Int32))])
  obtain ⟨T13, h13, k13, X13, e13, E13, A13, st13⟩ := newP X12 hx hZ (hw _ (List.mem_of_getElem? (i := 0) rfl)) e12 (g := (mkF m 94 #[.val (.int p1), .val (.int p2), .val (.int p3), .val (.int p4), .val (.int f4), .val (.int f5), .val (.int f6), .val (.int f7), .val (.ref b5), .val (.ref b8), .unset, .unset, .unset, .unset, .unset, .unset, .unset, .unset, .unset] [(.int (0 : Int32))])) rfl (hb hby at_94) rfl (by decide) (cap := 0) (by decide) (by decide) (by decide) (by decide)
  obtain ⟨b13, g13⟩ : ∃ z, z = h12.size := ⟨_, rfl⟩
  rw [← g13] at A13 st13
  refine GoH.st st13 ?_
  have g_b13 : n0 ≤ b13 := by rw [g13]; exact own_le O
  have Sf_b13 : Safe Z EL s.vm h12 b13 := Safe.new (Nat.le_of_eq g13.symm)
  have sz_b13 : h0.size ≤ b13 := by rw [g13]; exact KK.1
  have ne_b5_b13 : b5 ≠ b13 := Nat.ne_of_lt (by rw [g13]; exact V_b5.lt)
  have ne_b8_b13 : b8 ≠ b13 := Nat.ne_of_lt (by rw [g13]; exact V_b8.lt)
  have V_b5 := V_b5.ext E13
  have V_b8 := V_b8.ext E13
  have Sf_b5 := Safe.ext E13 HH Sf_b5
  have Sf_b8 := Safe.ext E13 HH Sf_b8
  have Sf_b13 := Safe.ext E13 HH Sf_b13
  have RR := RR.trans (CHr.ext E13 HH)
  have HH := HH.ext E13
  have hk := Nat.le_trans hk E13.1
  have O := O.ext E13
  have KK := KK.ext E13
  have V_b13 : Arv Z h13 b13 k13 .char (0 : Int32) [] (.int (0 : Int32)) := (Arv.new A13 (by decide)).pad (pad_rep [] (.int (0 : Int32)) 0)
  show GoH _ _ _ _ _ _ _ _ _ _  T13 (mkF m 96 #[.val (.int p1), .val (.int p2), .val (.int p3), .val (.int p4), .val (.int f4), .val (.int f5), .val (.int f6), .val (.int f7), .val (.ref b5), .val (.ref b8), .unset, .unset, .unset, .unset, .unset, .unset, .unset, .unset, .unset] [(.ref b13)])
  refine GoH.st (fun t k => XS.astore X13.here hx rfl (hb hby at_96) rfl rfl (l' := #[.val (.int p1), .val (.int p2), .val (.int p3), .val (.int p4), .val (.int f4), .val (.int f5), .val (.int f6), .val (.int f7), .val (.ref b5), .val (.ref b8), .val (.ref b13), .unset, .unset, .unset, .unset, .unset, .unset, .unset, .unset]) rfl k) ?_
  show GoH _ _ _ _ _ _ _ _ _ _  T13 (mkF m 98 #[.val (.int p1), .val (.int p2), .val (.int p3), .val (.int p4), .val (.int f4), .val (.int f5), .val (.int f6), .val (.int f7), .val (.ref b5), .val (.ref b8), .val (.ref b13), .unset, .unset, .unset, .unset, .unset, .unset, .unset, .unset] [])
  rcases ok_f4 with sp14 | sp14
  · rw [sp14]
    show GoH _ _ _ _ _ _ _ _ _ _  T13 (mkF m 98 #[.val (.int p1), .val (.int p2), .val (.int p3), .val (.int p4), .val (.int (0 : Int32)), .val (.int f5), .val (.int f6), .val (.int f7), .val (.ref b5), .val (.ref b8), .val (.ref b13), .unset, .unset, .unset, .unset, .unset, .unset, .unset, .unset] [])
    refine GoH.st (fun t k => XS.iload X13.here hx rfl (hb hby at_98) rfl  k) ?_
    show GoH _ _ _ _ _ _ _ _ _ _  T13 (mkF m 100 #[.val (.int p1), .val (.int p2), .val (.int p3), .val (.int p4), .val (.int (0 : Int32)), .val (.int f5), .val (.int f6), .val (.int f7), .val (.ref b5), .val (.ref b8), .val (.ref b13), .unset, .unset, .unset, .unset, .unset, .unset, .unset, .unset] [(.int (0 : Int32))])
    refine GoH.st (fun t k => XS.ifYes X13.here hx rfl (pc0 := 100) (pc' := 115) rfl (hb hby at_100) rfl ((if0 _ _).trans (teq (rfl : (0 : Int32) = (0 : Int32))).1) (by decide) (by decide) k) ?_
    show GoH _ _ _ _ _ _ _ _ _ _  T13 (mkF m 115 #[.val (.int p1), .val (.int p2), .val (.int p3), .val (.int p4), .val (.int (0 : Int32)), .val (.int f5), .val (.int f6), .val (.int f7), .val (.ref b5), .val (.ref b8), .val (.ref b13), .unset, .unset, .unset, .unset, .unset, .unset, .unset, .unset] [])
    refine GoH.st (fun t k => XS.aconstNull X13.here hx rfl (hb hby at_115) k) ?_
    show GoH _ _ _ _ _ _ _ _ _ _  T13 (mkF m 116 #[.val (.int p1), .val (.int p2), .val (.int p3), .val (.int p4), .val (.int (0 : Int32)), .val (.int f5), .val (.int f6), .val (.int f7), .val (.ref b5), .val (.ref b8), .val (.ref b13), .unset, .unset, .unset, .unset, .unset, .unset, .unset, .unset] [.null])
    refine GoH.st (fun t k => XS.astore X13.here hx rfl (hb hby at_116) rfl rfl (l' := #[.val (.int p1), .val (.int p2), .val (.int p3), .val (.int p4), .val (.int (0 : Int32)), .val (.int f5), .val (.int f6), .val (.int f7), .val (.ref b5), .val (.ref b8), .val (.ref b13), .val .null, .unset, .unset, .unset, .unset, .unset, .unset, .unset]) rfl k) ?_
    show GoH _ _ _ _ _ _ _ _ _ _  T13 (mkF m 118 #[.val (.int p1), .val (.int p2), .val (.int p3), .val (.int p4), .val (.int (0 : Int32)), .val (.int f5), .val (.int f6), .val (.int f7), .val (.ref b5), .val (.ref b8), .val (.ref b13), .val .null, .unset, .unset, .unset, .unset, .unset, .unset, .unset] [])
    refine GoH.st (fun t k => XS.aconstNull X13.here hx rfl (hb hby at_118) k) ?_
    show GoH _ _ _ _ _ _ _ _ _ _  T13 (mkF m 119 #[.val (.int p1), .val (.int p2), .val (.int p3), .val (.int p4), .val (.int (0 : Int32)), .val (.int f5), .val (.int f6), .val (.int f7), .val (.ref b5), .val (.ref b8), .val (.ref b13), .val .null, .unset, .unset, .unset, .unset, .unset, .unset, .unset] [.null])
    refine GoH.st (fun t k => XS.astore X13.here hx rfl (hb hby at_119) rfl rfl (l' := #[.val (.int p1), .val (.int p2), .val (.int p3), .val (.int p4), .val (.int (0 : Int32)), .val (.int f5), .val (.int f6), .val (.int f7), .val (.ref b5), .val (.ref b8), .val (.ref b13), .val .null, .val .null, .unset, .unset, .unset, .unset, .unset, .unset]) rfl k) ?_
    show GoH _ _ _ _ _ _ _ _ _ _  T13 (mkF m 121 #[.val (.int p1), .val (.int p2), .val (.int p3), .val (.int p4), .val (.int (0 : Int32)), .val (.int f5), .val (.int f6), .val (.int f7), .val (.ref b5), .val (.ref b8), .val (.ref b13), .val .null, .val .null, .unset, .unset, .unset, .unset, .unset, .unset] [])
    rcases ok_f5 with sp15 | sp15
    · rw [sp15]
      show GoH _ _ _ _ _ _ _ _ _ _  T13 (mkF m 121 #[.val (.int p1), .val (.int p2), .val (.int p3), .val (.int p4), .val (.int (0 : Int32)), .val (.int (0 : Int32)), .val (.int f6), .val (.int f7), .val (.ref b5), .val (.ref b8), .val (.ref b13), .val .null, .val .null, .unset, .unset, .unset, .unset, .unset, .unset] [])
      refine GoH.st (fun t k => XS.iload X13.here hx rfl (hb hby at_121) rfl  k) ?_
      show GoH _ _ _ _ _ _ _ _ _ _  T13 (mkF m 123 #[.val (.int p1), .val (.int p2), .val (.int p3), .val (.int p4), .val (.int (0 : Int32)), .val (.int (0 : Int32)), .val (.int f6), .val (.int f7), .val (.ref b5), .val (.ref b8), .val (.ref b13), .val .null, .val .null, .unset, .unset, .unset, .unset, .unset, .unset] [(.int (0 : Int32))])
      refine GoH.st (fun t k => XS.ifYes X13.here hx rfl (pc0 := 123) (pc' := 154) rfl (hb hby at_123) rfl ((if0 _ _).trans (teq (rfl : (0 : Int32) = (0 : Int32))).1) (by decide) (by decide) k) ?_
      show GoH _ _ _ _ _ _ _ _ _ _  T13 (mkF m 154 #[.val (.int p1), .val (.int p2), .val (.int p3), .val (.int p4), .val (.int (0 : Int32)), .val (.int (0 : Int32)), .val (.int f6), .val (.int f7), .val (.ref b5), .val (.ref b8), .val (.ref b13), .val .null, .val .null, .unset, .unset, .unset, .unset, .unset, .unset] [])
      rcases ok_f7 with sp16 | sp16
      · rw [sp16]
        show GoH _ _ _ _ _ _ _ _ _ _  T13 (mkF m 154 #[.val (.int p1), .val (.int p2), .val (.int p3), .val (.int p4), .val (.int (0 : Int32)), .val (.int (0 : Int32)), .val (.int f6), .val (.int (0 : Int32)), .val (.ref b5), .val (.ref b8), .val (.ref b13), .val .null, .val .null, .unset, .unset, .unset, .unset, .unset, .unset] [])
        refine GoH.st (fun t k => XS.iload X13.here hx rfl (hb hby at_154) rfl  k) ?_
        show GoH _ _ _ _ _ _ _ _ _ _  T13 (mkF m 156 #[.val (.int p1), .val (.int p2), .val (.int p3), .val (.int p4), .val (.int (0 : Int32)), .val (.int (0 : Int32)), .val (.int f6), .val (.int (0 : Int32)), .val (.ref b5), .val (.ref b8), .val (.ref b13), .val .null, .val .null, .unset, .unset, .unset, .unset, .unset, .unset] [(.int (0 : Int32))])
        refine GoH.st (fun t k => XS.ifYes X13.here hx rfl (pc0 := 156) (pc' := 165) rfl (hb hby at_156) rfl ((if0 _ _).trans (teq (rfl : (0 : Int32) = (0 : Int32))).1) (by decide) (by decide) k) ?_
        show GoH _ _ _ _ _ _ _ _ _ _  T13 (mkF m 165 #[.val (.int p1), .val (.int p2), .val (.int p3), .val (.int p4), .val (.int (0 : Int32)), .val (.int (0 : Int32)), .val (.int f6), .val (.int (0 : Int32)), .val (.ref b5), .val (.ref b8), .val (.ref b13), .val .null, .val .null, .unset, .unset, .unset, .unset, .unset, .unset] [])
        obtain ⟨T17, X17, e17, st17⟩ := getS2 X13 hx hZ hown (host := "") (Or.inl (hw _ (List.mem_of_getElem? (i := 30) rfl))) Via.refl e13 (S_ADMIN.ext O.2) (g := (mkF m 165 #[.val (.int p1), .val (.int p2), .val (.int p3), .val (.int p4), .val (.int (0 : Int32)), .val (.int (0 : Int32)), .val (.int f6), .val (.int (0 : Int32)), .val (.ref b5), .val (.ref b8), .val (.ref b13), .val .null, .val .null, .unset, .unset, .unset, .unset, .unset, .unset] [])) rfl (hb hby at_165)
        refine GoH.st st17 ?_
        show GoH _ _ _ _ _ _ _ _ _ _  T17 (mkF m 168 #[.val (.int p1), .val (.int p2), .val (.int p3), .val (.int p4), .val (.int (0 : Int32)), .val (.int (0 : Int32)), .val (.int f6), .val (.int (0 : Int32)), .val (.ref b5), .val (.ref b8), .val (.ref b13), .val .null, .val .null, .unset, .unset, .unset, .unset, .unset, .unset] [(.ref w_ADMIN)])
        refine GoH.st (fun t k => XS.astore X17.here hx rfl (hb hby at_168) rfl rfl (l' := #[.val (.int p1), .val (.int p2), .val (.int p3), .val (.int p4), .val (.int (0 : Int32)), .val (.int (0 : Int32)), .val (.int f6), .val (.int (0 : Int32)), .val (.ref b5), .val (.ref b8), .val (.ref b13), .val .null, .val .null, .val (.ref w_ADMIN), .unset, .unset, .unset, .unset, .unset]) rfl k) ?_
        show GoH _ _ _ _ _ _ _ _ _ _  T17 (mkF m 170 #[.val (.int p1), .val (.int p2), .val (.int p3), .val (.int p4), .val (.int (0 : Int32)), .val (.int (0 : Int32)), .val (.int f6), .val (.int (0 : Int32)), .val (.ref b5), .val (.ref b8), .val (.ref b13), .val .null, .val .null, .val (.ref w_ADMIN), .unset, .unset, .unset, .unset, .unset] [])
        obtain ⟨T18, h18, X18, e18, E18, A18, D18, -, st18⟩ := newO X17 hx hZ hown (hw _ (List.mem_of_getElem? (i := 33) rfl)) (hw _ (List.mem_of_getElem? (i := 34) rfl)) (hw _ (List.mem_of_getElem? (i := 35) rfl)) e17 (g := (mkF m 170 #[.val (.int p1), .val (.int p2), .val (.int p3), .val (.int p4), .val (.int (0 : Int32)), .val (.int (0 : Int32)), .val (.int f6), .val (.int (0 : Int32)), .val (.ref b5), .val (.ref b8), .val (.ref b13), .val .null, .val .null, .val (.ref w_ADMIN), .unset, .unset, .unset, .unset, .unset] [])) rfl (hb hby at_170) (by decide) (by decide)
        obtain ⟨b18, g18⟩ : ∃ z, z = h13.size := ⟨_, rfl⟩
        rw [← g18] at A18 D18 st18
        refine GoH.st st18 ?_
        have g_b18 : n0 ≤ b18 := by rw [g18]; exact own_le O
        have Sf_b18 : Safe Z EL s.vm h13 b18 := Safe.new (Nat.le_of_eq g18.symm)
        have sz_b18 : h0.size ≤ b18 := by rw [g18]; exact KK.1
        have ne_b5_b18 : b5 ≠ b18 := Nat.ne_of_lt (by rw [g18]; exact V_b5.lt)
        have ne_b8_b18 : b8 ≠ b18 := Nat.ne_of_lt (by rw [g18]; exact V_b8.lt)
        have ne_b13_b18 : b13 ≠ b18 := Nat.ne_of_lt (by rw [g18]; exact V_b13.lt)
        have V_b5 := V_b5.ext E18
        have V_b8 := V_b8.ext E18
        have V_b13 := V_b13.ext E18
        have Sf_b5 := Safe.ext E18 HH Sf_b5
        have Sf_b8 := Safe.ext E18 HH Sf_b8
        have Sf_b13 := Safe.ext E18 HH Sf_b13
        have Sf_b18 := Safe.ext E18 HH Sf_b18
        have RR := RR.trans (CHr.ext E18 HH)
        have HH := HH.ext E18
        have hk := Nat.le_trans hk E18.1
        have O := O.ext E18
        have KK := KK.ext E18
        have E_b18 := A18
        have F_id_b18 : Fld Z h18 b18 "com/example/wellness_on_record/wellnessonrecord/apps/App" "id" "Ljava/lang/String;" .null := D18 (Or.inr (hw _ (List.mem_of_getElem? (i := 52) rfl))) (ty := (.object "java/lang/String")) (by decide)
        have F_name_b18 : Fld Z h18 b18 "com/example/wellness_on_record/wellnessonrecord/apps/App" "name" "Ljava/lang/String;" .null := D18 (Or.inr (hw _ (List.mem_of_getElem? (i := 54) rfl))) (ty := (.object "java/lang/String")) (by decide)
        have F_kind_b18 : Fld Z h18 b18 "com/example/wellness_on_record/wellnessonrecord/apps/App" "kind" "Lcom/example/wellness_on_record/wellnessonrecord/apps/App$Kind;" .null := D18 (Or.inr (hw _ (List.mem_of_getElem? (i := 56) rfl))) (ty := (.object "com/example/wellness_on_record/wellnessonrecord/apps/App$Kind")) (by decide)
        have F_consumerKey_b18 : Fld Z h18 b18 "com/example/wellness_on_record/wellnessonrecord/apps/App" "consumerKey" "Ljava/lang/String;" .null := D18 (Or.inr (hw _ (List.mem_of_getElem? (i := 58) rfl))) (ty := (.object "java/lang/String")) (by decide)
        have F_consumerSecret_b18 : Fld Z h18 b18 "com/example/wellness_on_record/wellnessonrecord/apps/App" "consumerSecret" "Ljava/lang/String;" .null := D18 (Or.inr (hw _ (List.mem_of_getElem? (i := 60) rfl))) (ty := (.object "java/lang/String")) (by decide)
        have F_autonomous_b18 : Fld Z h18 b18 "com/example/wellness_on_record/wellnessonrecord/apps/App" "autonomous" "Z" (.int (0 : Int32)) := D18 (Or.inr (hw _ (List.mem_of_getElem? (i := 62) rfl))) (ty := .boolean) (by decide)
        have F_autonomousReason_b18 : Fld Z h18 b18 "com/example/wellness_on_record/wellnessonrecord/apps/App" "autonomousReason" "Ljava/lang/String;" .null := D18 (Or.inr (hw _ (List.mem_of_getElem? (i := 64) rfl))) (ty := (.object "java/lang/String")) (by decide)
        have F_hasUi_b18 : Fld Z h18 b18 "com/example/wellness_on_record/wellnessonrecord/apps/App" "hasUi" "Z" (.int (0 : Int32)) := D18 (Or.inr (hw _ (List.mem_of_getElem? (i := 66) rfl))) (ty := .boolean) (by decide)
        have F_callbackUrl_b18 : Fld Z h18 b18 "com/example/wellness_on_record/wellnessonrecord/apps/App" "callbackUrl" "Ljava/lang/String;" .null := D18 (Or.inr (hw _ (List.mem_of_getElem? (i := 68) rfl))) (ty := (.object "java/lang/String")) (by decide)
        have F_startUrlTemplate_b18 : Fld Z h18 b18 "com/example/wellness_on_record/wellnessonrecord/apps/App" "startUrlTemplate" "Ljava/lang/String;" .null := D18 (Or.inr (hw _ (List.mem_of_getElem? (i := 70) rfl))) (ty := (.object "java/lang/String")) (by decide)
        have F_frameable_b18 : Fld Z h18 b18 "com/example/wellness_on_record/wellnessonrecord/apps/App" "frameable" "Z" (.int (0 : Int32)) := D18 (Or.inr (hw _ (List.mem_of_getElem? (i := 72) rfl))) (ty := .boolean) (by decide)
        show GoH _ _ _ _ _ _ _ _ _ _  T18 (mkF m 173 #[.val (.int p1), .val (.int p2), .val (.int p3), .val (.int p4), .val (.int (0 : Int32)), .val (.int (0 : Int32)), .val (.int f6), .val (.int (0 : Int32)), .val (.ref b5), .val (.ref b8), .val (.ref b13), .val .null, .val .null, .val (.ref w_ADMIN), .unset, .unset, .unset, .unset, .unset] [(.ref b18)])
        refine GoH.st (fun t k => XS.dup X18.here hx rfl (hb hby at_173) rfl rfl k) ?_
        show GoH _ _ _ _ _ _ _ _ _ _  T18 (mkF m 174 #[.val (.int p1), .val (.int p2), .val (.int p3), .val (.int p4), .val (.int (0 : Int32)), .val (.int (0 : Int32)), .val (.int f6), .val (.int (0 : Int32)), .val (.ref b5), .val (.ref b8), .val (.ref b13), .val .null, .val .null, .val (.ref w_ADMIN), .unset, .unset, .unset, .unset, .unset] [(.ref b18), (.ref b18)])
        obtain ⟨sa19, T19, h19, kk19, sb19, kb19, X19, e19, E19, hS19, hk19, hZ19, ho19, E_sa19, F_coder_sa19, F_value_sa19, V_sb19, la19, lb19, CR19, Lt19, ns19, st19⟩ := ldcCH X18 hx hZ hown (hw _ (List.mem_of_getElem? (i := 36) rfl)) wS e18 hS hk hEL (List.mem_of_getElem? (i := 0) rfl) HH (vs := [(.int (105 : Int32)), (.int (100 : Int32))]) (z := 2) ⟨by decide, by decide⟩ (by decide) rfl (g := (mkF m 174 #[.val (.int p1), .val (.int p2), .val (.int p3), .val (.int p4), .val (.int (0 : Int32)), .val (.int (0 : Int32)), .val (.int f6), .val (.int (0 : Int32)), .val (.ref b5), .val (.ref b8), .val (.ref b13), .val .null, .val .null, .val (.ref w_ADMIN), .unset, .unset, .unset, .unset, .unset] [(.ref b18), (.ref b18)])) rfl (hb hby at_174) (n := 8) (by decide) (by decide) (by decide) (by decide)
        refine GoH.st st19 ?_
        have Sf_b5 := CHr.safe CR19 V_b5.lt Sf_b5
        have Sf_b8 := CHr.safe CR19 V_b8.lt Sf_b8
        have Sf_b13 := CHr.safe CR19 V_b13.lt Sf_b13
        have Sf_b18 := CHr.safe CR19 E_b18.lt Sf_b18
        have V_b5 := V_b5.ext E19
        have V_b8 := V_b8.ext E19
        have V_b13 := V_b13.ext E19
        have E_b18 := E_b18.ext E19
        have F_id_b18 := F_id_b18.ext E19
        have F_name_b18 := F_name_b18.ext E19
        have F_kind_b18 := F_kind_b18.ext E19
        have F_consumerKey_b18 := F_consumerKey_b18.ext E19
        have F_consumerSecret_b18 := F_consumerSecret_b18.ext E19
        have F_autonomous_b18 := F_autonomous_b18.ext E19
        have F_autonomousReason_b18 := F_autonomousReason_b18.ext E19
        have F_hasUi_b18 := F_hasUi_b18.ext E19
        have F_callbackUrl_b18 := F_callbackUrl_b18.ext E19
        have F_startUrlTemplate_b18 := F_startUrlTemplate_b18.ext E19
        have F_frameable_b18 := F_frameable_b18.ext E19
        have O := O.ext E19
        have KK := KK.ext E19
        have RR := RR.trans CR19
        have HH := CR19.1
        have hS := hS19
        have hk := hk19
        have hZ := hZ19
        have hown := ho19
        show GoH _ _ _ _ _ _ _ _ _ _  T19 (mkF m 176 #[.val (.int p1), .val (.int p2), .val (.int p3), .val (.int p4), .val (.int (0 : Int32)), .val (.int (0 : Int32)), .val (.int f6), .val (.int (0 : Int32)), .val (.ref b5), .val (.ref b8), .val (.ref b13), .val .null, .val .null, .val (.ref w_ADMIN), .unset, .unset, .unset, .unset, .unset] [(.ref sa19), (.ref b18), (.ref b18)])
        obtain ⟨sa20, T20, h20, kk20, sb20, kb20, X20, e20, E20, hS20, hk20, hZ20, ho20, E_sa20, F_coder_sa20, F_value_sa20, V_sb20, la20, lb20, CR20, Lt20, ns20, st20⟩ := ldcCH X19 hx hZ hown (hw _ (List.mem_of_getElem? (i := 39) rfl)) wS e19 hS hk hEL (List.mem_of_getElem? (i := 1) rfl) HH (vs := [(.int (110 : Int32)), (.int (97 : Int32)), (.int (109 : Int32)), (.int (101 : Int32))]) (z := 4) ⟨by decide, by decide⟩ (by decide) rfl (g := (mkF m 176 #[.val (.int p1), .val (.int p2), .val (.int p3), .val (.int p4), .val (.int (0 : Int32)), .val (.int (0 : Int32)), .val (.int f6), .val (.int (0 : Int32)), .val (.ref b5), .val (.ref b8), .val (.ref b13), .val .null, .val .null, .val (.ref w_ADMIN), .unset, .unset, .unset, .unset, .unset] [(.ref sa19), (.ref b18), (.ref b18)])) rfl (hb hby at_176) (n := 16) (by decide) (by decide) (by decide) (by decide)
        refine GoH.st st20 ?_
        have Sf_b5 := CHr.safe CR20 V_b5.lt Sf_b5
        have Sf_b8 := CHr.safe CR20 V_b8.lt Sf_b8
        have Sf_b13 := CHr.safe CR20 V_b13.lt Sf_b13
        have Sf_b18 := CHr.safe CR20 E_b18.lt Sf_b18
        have V_b5 := V_b5.ext E20
        have V_b8 := V_b8.ext E20
        have V_b13 := V_b13.ext E20
        have E_b18 := E_b18.ext E20
        have F_id_b18 := F_id_b18.ext E20
        have F_name_b18 := F_name_b18.ext E20
        have F_kind_b18 := F_kind_b18.ext E20
        have F_consumerKey_b18 := F_consumerKey_b18.ext E20
        have F_consumerSecret_b18 := F_consumerSecret_b18.ext E20
        have F_autonomous_b18 := F_autonomous_b18.ext E20
        have F_autonomousReason_b18 := F_autonomousReason_b18.ext E20
        have F_hasUi_b18 := F_hasUi_b18.ext E20
        have F_callbackUrl_b18 := F_callbackUrl_b18.ext E20
        have F_startUrlTemplate_b18 := F_startUrlTemplate_b18.ext E20
        have F_frameable_b18 := F_frameable_b18.ext E20
        have O := O.ext E20
        have KK := KK.ext E20
        have RR := RR.trans CR20
        have HH := CR20.1
        have hS := hS20
        have hk := hk20
        have hZ := hZ20
        have hown := ho20
        show GoH _ _ _ _ _ _ _ _ _ _  T20 (mkF m 178 #[.val (.int p1), .val (.int p2), .val (.int p3), .val (.int p4), .val (.int (0 : Int32)), .val (.int (0 : Int32)), .val (.int f6), .val (.int (0 : Int32)), .val (.ref b5), .val (.ref b8), .val (.ref b13), .val .null, .val .null, .val (.ref w_ADMIN), .unset, .unset, .unset, .unset, .unset] [(.ref sa20), (.ref sa19), (.ref b18), (.ref b18)])
        refine GoH.st (fun t k => XS.aload X20.here hx rfl (hb hby at_178) rfl rfl  k) ?_
        show GoH _ _ _ _ _ _ _ _ _ _  T20 (mkF m 180 #[.val (.int p1), .val (.int p2), .val (.int p3), .val (.int p4), .val (.int (0 : Int32)), .val (.int (0 : Int32)), .val (.int f6), .val (.int (0 : Int32)), .val (.ref b5), .val (.ref b8), .val (.ref b13), .val .null, .val .null, .val (.ref w_ADMIN), .unset, .unset, .unset, .unset, .unset] [(.ref w_ADMIN), (.ref sa20), (.ref sa19), (.ref b18), (.ref b18)])
        obtain ⟨sa21, T21, h21, kk21, sb21, kb21, X21, e21, E21, hS21, hk21, hZ21, ho21, E_sa21, F_coder_sa21, F_value_sa21, V_sb21, la21, lb21, CR21, Lt21, ns21, st21⟩ := ldcCH X20 hx hZ hown (hw _ (List.mem_of_getElem? (i := 40) rfl)) wS e20 hS hk hEL (List.mem_of_getElem? (i := 2) rfl) HH (vs := [(.int (107 : Int32)), (.int (101 : Int32)), (.int (121 : Int32))]) (z := 3) ⟨by decide, by decide⟩ (by decide) rfl (g := (mkF m 180 #[.val (.int p1), .val (.int p2), .val (.int p3), .val (.int p4), .val (.int (0 : Int32)), .val (.int (0 : Int32)), .val (.int f6), .val (.int (0 : Int32)), .val (.ref b5), .val (.ref b8), .val (.ref b13), .val .null, .val .null, .val (.ref w_ADMIN), .unset, .unset, .unset, .unset, .unset] [(.ref w_ADMIN), (.ref sa20), (.ref sa19), (.ref b18), (.ref b18)])) rfl (hb hby at_180) (n := 12) (by decide) (by decide) (by decide) (by decide)
        refine GoH.st st21 ?_
        have Sf_b5 := CHr.safe CR21 V_b5.lt Sf_b5
        have Sf_b8 := CHr.safe CR21 V_b8.lt Sf_b8
        have Sf_b13 := CHr.safe CR21 V_b13.lt Sf_b13
        have Sf_b18 := CHr.safe CR21 E_b18.lt Sf_b18
        have V_b5 := V_b5.ext E21
        have V_b8 := V_b8.ext E21
        have V_b13 := V_b13.ext E21
        have E_b18 := E_b18.ext E21
        have F_id_b18 := F_id_b18.ext E21
        have F_name_b18 := F_name_b18.ext E21
        have F_kind_b18 := F_kind_b18.ext E21
        have F_consumerKey_b18 := F_consumerKey_b18.ext E21
        have F_consumerSecret_b18 := F_consumerSecret_b18.ext E21
        have F_autonomous_b18 := F_autonomous_b18.ext E21
        have F_autonomousReason_b18 := F_autonomousReason_b18.ext E21
        have F_hasUi_b18 := F_hasUi_b18.ext E21
        have F_callbackUrl_b18 := F_callbackUrl_b18.ext E21
        have F_startUrlTemplate_b18 := F_startUrlTemplate_b18.ext E21
        have F_frameable_b18 := F_frameable_b18.ext E21
        have O := O.ext E21
        have KK := KK.ext E21
        have RR := RR.trans CR21
        have HH := CR21.1
        have hS := hS21
        have hk := hk21
        have hZ := hZ21
        have hown := ho21
        show GoH _ _ _ _ _ _ _ _ _ _  T21 (mkF m 182 #[.val (.int p1), .val (.int p2), .val (.int p3), .val (.int p4), .val (.int (0 : Int32)), .val (.int (0 : Int32)), .val (.int f6), .val (.int (0 : Int32)), .val (.ref b5), .val (.ref b8), .val (.ref b13), .val .null, .val .null, .val (.ref w_ADMIN), .unset, .unset, .unset, .unset, .unset] [(.ref sa21), (.ref w_ADMIN), (.ref sa20), (.ref sa19), (.ref b18), (.ref b18)])
        obtain ⟨sa22, T22, h22, kk22, sb22, kb22, X22, e22, E22, hS22, hk22, hZ22, ho22, E_sa22, F_coder_sa22, F_value_sa22, V_sb22, la22, lb22, CR22, Lt22, ns22, st22⟩ := ldcCH X21 hx hZ hown (hw _ (List.mem_of_getElem? (i := 41) rfl)) wS e21 hS hk hEL (List.mem_of_getElem? (i := 3) rfl) HH (vs := [(.int (115 : Int32)), (.int (101 : Int32)), (.int (99 : Int32)), (.int (114 : Int32)), (.int (101 : Int32)), (.int (116 : Int32))]) (z := 6) ⟨by decide, by decide⟩ (by decide) rfl (g := (mkF m 182 #[.val (.int p1), .val (.int p2), .val (.int p3), .val (.int p4), .val (.int (0 : Int32)), .val (.int (0 : Int32)), .val (.int f6), .val (.int (0 : Int32)), .val (.ref b5), .val (.ref b8), .val (.ref b13), .val .null, .val .null, .val (.ref w_ADMIN), .unset, .unset, .unset, .unset, .unset] [(.ref sa21), (.ref w_ADMIN), (.ref sa20), (.ref sa19), (.ref b18), (.ref b18)])) rfl (hb hby at_182) (n := 24) (by decide) (by decide) (by decide) (by decide)
        refine GoH.st st22 ?_
        have Sf_b5 := CHr.safe CR22 V_b5.lt Sf_b5
        have Sf_b8 := CHr.safe CR22 V_b8.lt Sf_b8
        have Sf_b13 := CHr.safe CR22 V_b13.lt Sf_b13
        have Sf_b18 := CHr.safe CR22 E_b18.lt Sf_b18
        have V_b5 := V_b5.ext E22
        have V_b8 := V_b8.ext E22
        have V_b13 := V_b13.ext E22
        have E_b18 := E_b18.ext E22
        have F_id_b18 := F_id_b18.ext E22
        have F_name_b18 := F_name_b18.ext E22
        have F_kind_b18 := F_kind_b18.ext E22
        have F_consumerKey_b18 := F_consumerKey_b18.ext E22
        have F_consumerSecret_b18 := F_consumerSecret_b18.ext E22
        have F_autonomous_b18 := F_autonomous_b18.ext E22
        have F_autonomousReason_b18 := F_autonomousReason_b18.ext E22
        have F_hasUi_b18 := F_hasUi_b18.ext E22
        have F_callbackUrl_b18 := F_callbackUrl_b18.ext E22
        have F_startUrlTemplate_b18 := F_startUrlTemplate_b18.ext E22
        have F_frameable_b18 := F_frameable_b18.ext E22
        have O := O.ext E22
        have KK := KK.ext E22
        have RR := RR.trans CR22
        have HH := CR22.1
        have hS := hS22
        have hk := hk22
        have hZ := hZ22
        have hown := ho22
        show GoH _ _ _ _ _ _ _ _ _ _  T22 (mkF m 184 #[.val (.int p1), .val (.int p2), .val (.int p3), .val (.int p4), .val (.int (0 : Int32)), .val (.int (0 : Int32)), .val (.int f6), .val (.int (0 : Int32)), .val (.ref b5), .val (.ref b8), .val (.ref b13), .val .null, .val .null, .val (.ref w_ADMIN), .unset, .unset, .unset, .unset, .unset] [(.ref sa22), (.ref sa21), (.ref w_ADMIN), (.ref sa20), (.ref sa19), (.ref b18), (.ref b18)])
        refine GoH.st (fun t k => XS.iconst X22.here hx rfl (hb hby at_184) k) ?_
        show GoH _ _ _ _ _ _ _ _ _ _  T22 (mkF m 185 #[.val (.int p1), .val (.int p2), .val (.int p3), .val (.int p4), .val (.int (0 : Int32)), .val (.int (0 : Int32)), .val (.int f6), .val (.int (0 : Int32)), .val (.ref b5), .val (.ref b8), .val (.ref b13), .val .null, .val .null, .val (.ref w_ADMIN), .unset, .unset, .unset, .unset, .unset] [(.int (0 : Int32)), (.ref sa22), (.ref sa21), (.ref w_ADMIN), (.ref sa20), (.ref sa19), (.ref b18), (.ref b18)])
        refine GoH.st (fun t k => XS.aconstNull X22.here hx rfl (hb hby at_185) k) ?_
        show GoH _ _ _ _ _ _ _ _ _ _  T22 (mkF m 186 #[.val (.int p1), .val (.int p2), .val (.int p3), .val (.int p4), .val (.int (0 : Int32)), .val (.int (0 : Int32)), .val (.int f6), .val (.int (0 : Int32)), .val (.ref b5), .val (.ref b8), .val (.ref b13), .val .null, .val .null, .val (.ref w_ADMIN), .unset, .unset, .unset, .unset, .unset] [.null, (.int (0 : Int32)), (.ref sa22), (.ref sa21), (.ref w_ADMIN), (.ref sa20), (.ref sa19), (.ref b18), (.ref b18)])
        refine GoH.st (fun t k => XS.iconst X22.here hx rfl (hb hby at_186) k) ?_
        show GoH _ _ _ _ _ _ _ _ _ _  T22 (mkF m 187 #[.val (.int p1), .val (.int p2), .val (.int p3), .val (.int p4), .val (.int (0 : Int32)), .val (.int (0 : Int32)), .val (.int f6), .val (.int (0 : Int32)), .val (.ref b5), .val (.ref b8), .val (.ref b13), .val .null, .val .null, .val (.ref w_ADMIN), .unset, .unset, .unset, .unset, .unset] [(.int (0 : Int32)), .null, (.int (0 : Int32)), (.ref sa22), (.ref sa21), (.ref w_ADMIN), (.ref sa20), (.ref sa19), (.ref b18), (.ref b18)])
        refine GoH.st (fun t k => XS.aconstNull X22.here hx rfl (hb hby at_187) k) ?_
        show GoH _ _ _ _ _ _ _ _ _ _  T22 (mkF m 188 #[.val (.int p1), .val (.int p2), .val (.int p3), .val (.int p4), .val (.int (0 : Int32)), .val (.int (0 : Int32)), .val (.int f6), .val (.int (0 : Int32)), .val (.ref b5), .val (.ref b8), .val (.ref b13), .val .null, .val .null, .val (.ref w_ADMIN), .unset, .unset, .unset, .unset, .unset] [.null, (.int (0 : Int32)), .null, (.int (0 : Int32)), (.ref sa22), (.ref sa21), (.ref w_ADMIN), (.ref sa20), (.ref sa19), (.ref b18), (.ref b18)])
        refine GoH.st (fun t k => XS.aconstNull X22.here hx rfl (hb hby at_188) k) ?_
        show GoH _ _ _ _ _ _ _ _ _ _  T22 (mkF m 189 #[.val (.int p1), .val (.int p2), .val (.int p3), .val (.int p4), .val (.int (0 : Int32)), .val (.int (0 : Int32)), .val (.int f6), .val (.int (0 : Int32)), .val (.ref b5), .val (.ref b8), .val (.ref b13), .val .null, .val .null, .val (.ref w_ADMIN), .unset, .unset, .unset, .unset, .unset] [.null, .null, (.int (0 : Int32)), .null, (.int (0 : Int32)), (.ref sa22), (.ref sa21), (.ref w_ADMIN), (.ref sa20), (.ref sa19), (.ref b18), (.ref b18)])
        refine GoH.st (fun t k => XS.iconst X22.here hx rfl (hb hby at_189) k) ?_
        show GoH _ _ _ _ _ _ _ _ _ _  T22 (mkF m 190 #[.val (.int p1), .val (.int p2), .val (.int p3), .val (.int p4), .val (.int (0 : Int32)), .val (.int (0 : Int32)), .val (.int f6), .val (.int (0 : Int32)), .val (.ref b5), .val (.ref b8), .val (.ref b13), .val .null, .val .null, .val (.ref w_ADMIN), .unset, .unset, .unset, .unset, .unset] [(.int (0 : Int32)), .null, .null, (.int (0 : Int32)), .null, (.int (0 : Int32)), (.ref sa22), (.ref sa21), (.ref w_ADMIN), (.ref sa20), (.ref sa19), (.ref b18), (.ref b18)])
        obtain ⟨_, _, ⟨T23, L23, k23, n23⟩, -, X23, ⟨Lc23, hQ23, l23, y23, z23⟩, st23⟩ := X22.specialBack hx (y := (⟨"com/example/wellness_on_record/wellnessonrecord/apps/App", "<init>", "(Ljava/lang/String;Ljava/lang/String;Lcom/example/wellness_on_record/wellnessonrecord/apps/App$Kind;Ljava/lang/String;Ljava/lang/String;ZLjava/lang/String;ZLjava/lang/String;Ljava/lang/String;Z)V"⟩ : MethodName)) rfl hown (mvT hZ (hw _ (List.mem_of_getElem? (i := 42) rfl))) (mvT hZ (hw _ (List.mem_of_getElem? (i := 43) rfl))) (mvT hZ (hw _ (List.mem_of_getElem? (i := 44) rfl))) (by decide) (backOf (W := 1) (rmA l Z a0 hw [] b18 sa19 sa20 w_ADMIN sa21 sa22 h22 n0 O E_b18 F_id_b18 F_name_b18 F_kind_b18 F_consumerKey_b18 F_consumerSecret_b18 F_autonomous_b18 F_autonomousReason_b18 F_hasUi_b18 F_callbackUrl_b18 F_startUrlTemplate_b18 F_frameable_b18 g_b18) hZ (hw _ (List.mem_of_getElem? (i := 44) rfl)) (hw _ (List.mem_of_getElem? (i := 35) rfl)) (by decide) (by decide)) (g := (mkF m 190 #[.val (.int p1), .val (.int p2), .val (.int p3), .val (.int p4), .val (.int (0 : Int32)), .val (.int (0 : Int32)), .val (.int f6), .val (.int (0 : Int32)), .val (.ref b5), .val (.ref b8), .val (.ref b13), .val .null, .val .null, .val (.ref w_ADMIN), .unset, .unset, .unset, .unset, .unset] [(.int (0 : Int32)), .null, .null, (.int (0 : Int32)), .null, (.int (0 : Int32)), (.ref sa22), (.ref sa21), (.ref w_ADMIN), (.ref sa20), (.ref sa19), (.ref b18), (.ref b18)])) rfl (by rw [hml]; rfl) (Steps.refl _) (a := b18) (argsL := [(.ref sa19), (.ref sa20), (.ref w_ADMIN), (.ref sa21), (.ref sa22), (.int (0 : Int32)), .null, (.int (0 : Int32)), .null, .null, (.int (0 : Int32))]) (rest := [(.ref b18)]) (lenOf pd__Ljava_lang_String_Ljava_lang_String_Lcom_example_wellness_on_record_wellnessonrecord_apps_App_Kind_Ljava_lang_String_Ljava_lang_String_ZLjava_lang_String_ZLjava_lang_String_Ljava_lang_String_Z_V rfl) rfl (by show 2 * 0 + _ ≤ _; exact Nat.le_of_eq rfl) (hb hby at_190) (fun _ _ => ⟨rfl, e22, (by decide : 12 + 0 ≤ _), (by decide : 90 + 0 ≤ _)⟩)
        dsimp only [Pt.U, Pt.locs, Pt.cells, Pt.slots] at X23 l23 y23 z23 st23 hQ23
        subst l23 y23 z23
        obtain ⟨rfl, N23q, K23q, Eq23, Fk23⟩ := hQ23
        have N23 := Fr.app N12 N23q
        refine GoH.tr st23 ?_
        have V_b5 := V_b5.keep K23q (ninS ne_b5_b18 nin0)
        have V_b8 := V_b8.keep K23q (ninS ne_b8_b18 nin0)
        have V_b13 := V_b13.keep K23q (ninS ne_b13_b18 nin0)
        have E_b18 := E_b18.keep K23q
        have sfw23 := (sfS Sf_b18 sf0)
        have Sf_b5 := Safe.keep K23q sfw23 HH Sf_b5
        have Sf_b8 := Safe.keep K23q sfw23 HH Sf_b8
        have Sf_b13 := Safe.keep K23q sfw23 HH Sf_b13
        have Sf_b18 := Safe.keep K23q sfw23 HH Sf_b18
        have RR := RR.trans (CHr.keep K23q sfw23 HH)
        have HH := HH.keep K23q sfw23
        have hk := Nat.le_trans hk K23q.1
        have O := O.keep K23q (allS g_b18 all0)
        have KK := KK.trans K23q (allS (Or.inr sz_b18) all0)
        have E_b18 := Eq23
        show GoH _ _ _ _ _ _ _ _ _ _  T23 (mkF m 193 #[.val (.int p1), .val (.int p2), .val (.int p3), .val (.int p4), .val (.int (0 : Int32)), .val (.int (0 : Int32)), .val (.int f6), .val (.int (0 : Int32)), .val (.ref b5), .val (.ref b8), .val (.ref b13), .val .null, .val .null, .val (.ref w_ADMIN), .unset, .unset, .unset, .unset, .unset] [(.ref b18)])
        refine GoH.st (fun t k => XS.astore X23.here hx rfl (hb hby at_193) rfl rfl (l' := #[.val (.int p1), .val (.int p2), .val (.int p3), .val (.int p4), .val (.int (0 : Int32)), .val (.int (0 : Int32)), .val (.int f6), .val (.int (0 : Int32)), .val (.ref b5), .val (.ref b8), .val (.ref b13), .val .null, .val .null, .val (.ref w_ADMIN), .val (.ref b18), .unset, .unset, .unset, .unset]) rfl k) ?_
        show GoH _ _ _ _ _ _ _ _ _ _  T23 (mkF m 195 #[.val (.int p1), .val (.int p2), .val (.int p3), .val (.int p4), .val (.int (0 : Int32)), .val (.int (0 : Int32)), .val (.int f6), .val (.int (0 : Int32)), .val (.ref b5), .val (.ref b8), .val (.ref b13), .val .null, .val .null, .val (.ref w_ADMIN), .val (.ref b18), .unset, .unset, .unset, .unset] [])
        obtain ⟨T24, h24, X24, e24, E24, A24, D24, -, st24⟩ := newO X23 hx hZ hown (hw _ (List.mem_of_getElem? (i := 73) rfl)) (hw _ (List.mem_of_getElem? (i := 74) rfl)) (hw _ (List.mem_of_getElem? (i := 75) rfl)) rfl (g := (mkF m 195 #[.val (.int p1), .val (.int p2), .val (.int p3), .val (.int p4), .val (.int (0 : Int32)), .val (.int (0 : Int32)), .val (.int f6), .val (.int (0 : Int32)), .val (.ref b5), .val (.ref b8), .val (.ref b13), .val .null, .val .null, .val (.ref w_ADMIN), .val (.ref b18), .unset, .unset, .unset, .unset] [])) rfl (hb hby at_195) (by decide) (by decide)
        obtain ⟨b24, g24⟩ : ∃ z, z = T23.heap.size := ⟨_, rfl⟩
        rw [← g24] at A24 D24 st24
        refine GoH.st st24 ?_
        have g_b24 : n0 ≤ b24 := by rw [g24]; exact own_le O
        have Sf_b24 : Safe Z EL T22.vm T23.heap b24 := Safe.new (Nat.le_of_eq g24.symm)
        have sz_b24 : h0.size ≤ b24 := by rw [g24]; exact KK.1
        have ne_b5_b24 : b5 ≠ b24 := Nat.ne_of_lt (by rw [g24]; exact V_b5.lt)
        have ne_b8_b24 : b8 ≠ b24 := Nat.ne_of_lt (by rw [g24]; exact V_b8.lt)
        have ne_b13_b24 : b13 ≠ b24 := Nat.ne_of_lt (by rw [g24]; exact V_b13.lt)
        have ne_b18_b24 : b18 ≠ b24 := Nat.ne_of_lt (by rw [g24]; exact E_b18.lt)
        have V_b5 := V_b5.ext E24
        have V_b8 := V_b8.ext E24
        have V_b13 := V_b13.ext E24
        have E_b18 := E_b18.ext E24
        have Fk23 := Fk23.ext E24
        have Sf_b5 := Safe.ext E24 HH Sf_b5
        have Sf_b8 := Safe.ext E24 HH Sf_b8
        have Sf_b13 := Safe.ext E24 HH Sf_b13
        have Sf_b18 := Safe.ext E24 HH Sf_b18
        have Sf_b24 := Safe.ext E24 HH Sf_b24
        have RR := RR.trans (CHr.ext E24 HH)
        have HH := HH.ext E24
        have hk := Nat.le_trans hk E24.1
        have O := O.ext E24
        have KK := KK.ext E24
        have E_b24 := A24
        have F_app_b24 : Fld Z h24 b24 "com/example/wellness_on_record/wellnessonrecord/oauth/Principal" "app" "Lcom/example/wellness_on_record/wellnessonrecord/apps/App;" .null := D24 (Or.inr (hw _ (List.mem_of_getElem? (i := 81) rfl))) (ty := (.object "com/example/wellness_on_record/wellnessonrecord/apps/App")) (by decide)
        have F_recordId_b24 : Fld Z h24 b24 "com/example/wellness_on_record/wellnessonrecord/oauth/Principal" "recordId" "Ljava/lang/String;" .null := D24 (Or.inr (hw _ (List.mem_of_getElem? (i := 83) rfl))) (ty := (.object "java/lang/String")) (by decide)
        have F_requestToken_b24 : Fld Z h24 b24 "com/example/wellness_on_record/wellnessonrecord/oauth/Principal" "requestToken" "Ljava/lang/String;" .null := D24 (Or.inr (hw _ (List.mem_of_getElem? (i := 85) rfl))) (ty := (.object "java/lang/String")) (by decide)
        show GoH _ _ _ _ _ _ _ _ _ _  T24 (mkF m 198 #[.val (.int p1), .val (.int p2), .val (.int p3), .val (.int p4), .val (.int (0 : Int32)), .val (.int (0 : Int32)), .val (.int f6), .val (.int (0 : Int32)), .val (.ref b5), .val (.ref b8), .val (.ref b13), .val .null, .val .null, .val (.ref w_ADMIN), .val (.ref b18), .unset, .unset, .unset, .unset] [(.ref b24)])
        refine GoH.st (fun t k => XS.dup X24.here hx rfl (hb hby at_198) rfl rfl k) ?_
        show GoH _ _ _ _ _ _ _ _ _ _  T24 (mkF m 199 #[.val (.int p1), .val (.int p2), .val (.int p3), .val (.int p4), .val (.int (0 : Int32)), .val (.int (0 : Int32)), .val (.int f6), .val (.int (0 : Int32)), .val (.ref b5), .val (.ref b8), .val (.ref b13), .val .null, .val .null, .val (.ref w_ADMIN), .val (.ref b18), .unset, .unset, .unset, .unset] [(.ref b24), (.ref b24)])
        refine GoH.st (fun t k => XS.aload X24.here hx rfl (hb hby at_199) rfl rfl  k) ?_
        show GoH _ _ _ _ _ _ _ _ _ _  T24 (mkF m 201 #[.val (.int p1), .val (.int p2), .val (.int p3), .val (.int p4), .val (.int (0 : Int32)), .val (.int (0 : Int32)), .val (.int f6), .val (.int (0 : Int32)), .val (.ref b5), .val (.ref b8), .val (.ref b13), .val .null, .val .null, .val (.ref w_ADMIN), .val (.ref b18), .unset, .unset, .unset, .unset] [(.ref b18), (.ref b24), (.ref b24)])
        refine GoH.st (fun t k => XS.aload X24.here hx rfl (hb hby at_201) rfl rfl  k) ?_
        show GoH _ _ _ _ _ _ _ _ _ _  T24 (mkF m 203 #[.val (.int p1), .val (.int p2), .val (.int p3), .val (.int p4), .val (.int (0 : Int32)), .val (.int (0 : Int32)), .val (.int f6), .val (.int (0 : Int32)), .val (.ref b5), .val (.ref b8), .val (.ref b13), .val .null, .val .null, .val (.ref w_ADMIN), .val (.ref b18), .unset, .unset, .unset, .unset] [.null, (.ref b18), (.ref b24), (.ref b24)])
        refine GoH.st (fun t k => XS.aload X24.here hx rfl (hb hby at_203) rfl rfl  k) ?_
        show GoH _ _ _ _ _ _ _ _ _ _  T24 (mkF m 205 #[.val (.int p1), .val (.int p2), .val (.int p3), .val (.int p4), .val (.int (0 : Int32)), .val (.int (0 : Int32)), .val (.int f6), .val (.int (0 : Int32)), .val (.ref b5), .val (.ref b8), .val (.ref b13), .val .null, .val .null, .val (.ref w_ADMIN), .val (.ref b18), .unset, .unset, .unset, .unset] [.null, .null, (.ref b18), (.ref b24), (.ref b24)])
        obtain ⟨_, _, ⟨T25, L25, k25, n25⟩, -, X25, ⟨Lc25, hQ25, l25, y25, z25⟩, st25⟩ := X24.specialBack hx (y := (⟨"com/example/wellness_on_record/wellnessonrecord/oauth/Principal", "<init>", "(Lcom/example/wellness_on_record/wellnessonrecord/apps/App;Ljava/lang/String;Ljava/lang/String;)V"⟩ : MethodName)) rfl hown (mvT hZ (hw _ (List.mem_of_getElem? (i := 76) rfl))) (mvT hZ (hw _ (List.mem_of_getElem? (i := 77) rfl))) (mvT hZ (hw _ (List.mem_of_getElem? (i := 78) rfl))) (by decide) (backOf (W := 1) (rmP l Z a0 hw [] b24 b18 .null .null h24 n0 O E_b24 F_app_b24 F_recordId_b24 F_requestToken_b24 g_b24 rfl rfl) hZ (hw _ (List.mem_of_getElem? (i := 78) rfl)) (hw _ (List.mem_of_getElem? (i := 75) rfl)) (by decide) (by decide)) (g := (mkF m 205 #[.val (.int p1), .val (.int p2), .val (.int p3), .val (.int p4), .val (.int (0 : Int32)), .val (.int (0 : Int32)), .val (.int f6), .val (.int (0 : Int32)), .val (.ref b5), .val (.ref b8), .val (.ref b13), .val .null, .val .null, .val (.ref w_ADMIN), .val (.ref b18), .unset, .unset, .unset, .unset] [.null, .null, (.ref b18), (.ref b24), (.ref b24)])) rfl (by rw [hml]; rfl) (Steps.refl _) (a := b24) (argsL := [(.ref b18), .null, .null]) (rest := [(.ref b24)]) (lenOf pd__Lcom_example_wellness_on_record_wellnessonrecord_apps_App_Ljava_lang_String_Ljava_lang_String__V rfl) rfl (by show 2 * 0 + _ ≤ _; exact Nat.le_of_eq rfl) (hb hby at_205) (fun _ _ => ⟨rfl, e24, (by decide : 13 + 0 ≤ _), (by decide : 93 + 0 ≤ _)⟩)
        dsimp only [Pt.U, Pt.locs, Pt.cells, Pt.slots] at X25 l25 y25 z25 st25 hQ25
        subst l25 y25 z25
        obtain ⟨rfl, N25q, K25q, Eq25, Fa25, Fr25, Ft25⟩ := hQ25
        have N25 := Fr.app N23 N25q
        refine GoH.tr st25 ?_
        have V_b5 := V_b5.keep K25q (ninS ne_b5_b24 nin0)
        have V_b8 := V_b8.keep K25q (ninS ne_b8_b24 nin0)
        have V_b13 := V_b13.keep K25q (ninS ne_b13_b24 nin0)
        have E_b18 := E_b18.keep K25q
        have Fk23 := Fk23.keep K25q (ninS ne_b18_b24 nin0)
        have E_b24 := E_b24.keep K25q
        have sfw25 := (sfS Sf_b24 sf0)
        have Sf_b5 := Safe.keep K25q sfw25 HH Sf_b5
        have Sf_b8 := Safe.keep K25q sfw25 HH Sf_b8
        have Sf_b13 := Safe.keep K25q sfw25 HH Sf_b13
        have Sf_b18 := Safe.keep K25q sfw25 HH Sf_b18
        have Sf_b24 := Safe.keep K25q sfw25 HH Sf_b24
        have RR := RR.trans (CHr.keep K25q sfw25 HH)
        have HH := HH.keep K25q sfw25
        have hk := Nat.le_trans hk K25q.1
        have O := O.keep K25q (allS g_b24 all0)
        have KK := KK.trans K25q (allS (Or.inr sz_b24) all0)
        have E_b24 := Eq25
        show GoH _ _ _ _ _ _ _ _ _ _  T25 (mkF m 208 #[.val (.int p1), .val (.int p2), .val (.int p3), .val (.int p4), .val (.int (0 : Int32)), .val (.int (0 : Int32)), .val (.int f6), .val (.int (0 : Int32)), .val (.ref b5), .val (.ref b8), .val (.ref b13), .val .null, .val .null, .val (.ref w_ADMIN), .val (.ref b18), .unset, .unset, .unset, .unset] [(.ref b24)])
        refine GoH.st (fun t k => XS.astore X25.here hx rfl (hb hby at_208) rfl rfl (l' := #[.val (.int p1), .val (.int p2), .val (.int p3), .val (.int p4), .val (.int (0 : Int32)), .val (.int (0 : Int32)), .val (.int f6), .val (.int (0 : Int32)), .val (.ref b5), .val (.ref b8), .val (.ref b13), .val .null, .val .null, .val (.ref w_ADMIN), .val (.ref b18), .val (.ref b24), .unset, .unset, .unset]) rfl k) ?_
        show GoH _ _ _ _ _ _ _ _ _ _  T25 (mkF m 210 #[.val (.int p1), .val (.int p2), .val (.int p3), .val (.int p4), .val (.int (0 : Int32)), .val (.int (0 : Int32)), .val (.int f6), .val (.int (0 : Int32)), .val (.ref b5), .val (.ref b8), .val (.ref b13), .val .null, .val .null, .val (.ref w_ADMIN), .val (.ref b18), .val (.ref b24), .unset, .unset, .unset] [])
        refine GoH.st (fun t k => XS.aload X25.here hx rfl (hb hby at_210) rfl rfl  k) ?_
        show GoH _ _ _ _ _ _ _ _ _ _  T25 (mkF m 212 #[.val (.int p1), .val (.int p2), .val (.int p3), .val (.int p4), .val (.int (0 : Int32)), .val (.int (0 : Int32)), .val (.int f6), .val (.int (0 : Int32)), .val (.ref b5), .val (.ref b8), .val (.ref b13), .val .null, .val .null, .val (.ref w_ADMIN), .val (.ref b18), .val (.ref b24), .unset, .unset, .unset] [(.ref b24)])
        obtain ⟨cq26, kq26, q26a, q26b, q26c⟩ := isOf hZ rfl E_b24
        obtain ⟨_, _, ⟨T26, L26, k26, n26⟩, -, X26, ⟨Lc26, hQ26, l26, y26, z26⟩, st26⟩ := X25.virtualBack hx (y := (⟨"com/example/wellness_on_record/wellnessonrecord/oauth/Principal", "holdsRequestToken", "()Z"⟩ : MethodName)) (z := (⟨"com/example/wellness_on_record/wellnessonrecord/oauth/Principal", "holdsRequestToken", "()Z"⟩ : MethodName)) hown (mvT hZ (hw _ (List.mem_of_getElem? (i := 86) rfl))) (mvT hZ (hw _ (List.mem_of_getElem? (i := 87) rfl))) (notFace_of_selects (args := #[]) (mvT hZ (hw _ (List.mem_of_getElem? (i := 89) rfl)))) (mvT hZ (hw _ (List.mem_of_getElem? (i := 89) rfl))) (mvT hZ (hw _ (List.mem_of_getElem? (i := 88) rfl))) (by decide) (backOf (W := 0) (rmH l Z a0 hw [] b24 .null T25.heap n0 O Ft25 rfl) hZ (hw _ (List.mem_of_getElem? (i := 90) rfl)) (hw _ (List.mem_of_getElem? (i := 75) rfl)) (by decide) (by decide)) q26a q26c (g := (mkF m 212 #[.val (.int p1), .val (.int p2), .val (.int p3), .val (.int p4), .val (.int (0 : Int32)), .val (.int (0 : Int32)), .val (.int f6), .val (.int (0 : Int32)), .val (.ref b5), .val (.ref b8), .val (.ref b13), .val .null, .val .null, .val (.ref w_ADMIN), .val (.ref b18), .val (.ref b24), .unset, .unset, .unset] [(.ref b24)])) rfl (by rw [hml]; rfl) (Steps.refl _) (argsL := []) (rest := []) (lenOf pd___Z rfl) rfl (by show 2 * 0 + _ ≤ _; exact Nat.le_of_eq rfl) (hb hby at_212) (fun _ _ => ⟨rfl, rfl, (by decide : 13 + 0 ≤ _), (by decide : 93 + 0 ≤ _)⟩)
        dsimp only [Pt.U, Pt.locs, Pt.cells, Pt.slots] at X26 l26 y26 z26 st26 hQ26
        subst l26 y26 z26
        obtain ⟨rfl, N26q, e26q⟩ := hQ26
        have N26 := Fr.app N25 N26q
        refine GoH.tr st26 ?_
        rw [show (if .null = Value.null then (0 : Int32) else 1) = (0 : Int32) from by simp]
        show GoH _ _ _ _ _ _ _ _ _ _  T26 (mkF m 215 #[.val (.int p1), .val (.int p2), .val (.int p3), .val (.int p4), .val (.int (0 : Int32)), .val (.int (0 : Int32)), .val (.int f6), .val (.int (0 : Int32)), .val (.ref b5), .val (.ref b8), .val (.ref b13), .val .null, .val .null, .val (.ref w_ADMIN), .val (.ref b18), .val (.ref b24), .unset, .unset, .unset] [(.int (0 : Int32))])
        refine GoH.st (fun t k => XS.istore X26.here hx rfl (hb hby at_215) rfl (l' := #[.val (.int p1), .val (.int p2), .val (.int p3), .val (.int p4), .val (.int (0 : Int32)), .val (.int (0 : Int32)), .val (.int f6), .val (.int (0 : Int32)), .val (.ref b5), .val (.ref b8), .val (.ref b13), .val .null, .val .null, .val (.ref w_ADMIN), .val (.ref b18), .val (.ref b24), .val (.int (0 : Int32)), .unset, .unset]) rfl k) ?_
        show GoH _ _ _ _ _ _ _ _ _ _  T26 (mkF m 217 #[.val (.int p1), .val (.int p2), .val (.int p3), .val (.int p4), .val (.int (0 : Int32)), .val (.int (0 : Int32)), .val (.int f6), .val (.int (0 : Int32)), .val (.ref b5), .val (.ref b8), .val (.ref b13), .val .null, .val .null, .val (.ref w_ADMIN), .val (.ref b18), .val (.ref b24), .val (.int (0 : Int32)), .unset, .unset] [])
        refine GoH.st (fun t k => XS.iload X26.here hx rfl (hb hby at_217) rfl  k) ?_
        show GoH _ _ _ _ _ _ _ _ _ _  T26 (mkF m 219 #[.val (.int p1), .val (.int p2), .val (.int p3), .val (.int p4), .val (.int (0 : Int32)), .val (.int (0 : Int32)), .val (.int f6), .val (.int (0 : Int32)), .val (.ref b5), .val (.ref b8), .val (.ref b13), .val .null, .val .null, .val (.ref w_ADMIN), .val (.ref b18), .val (.ref b24), .val (.int (0 : Int32)), .unset, .unset] [(.int (0 : Int32))])
        refine GoH.st (fun t k => XS.iload X26.here hx rfl (hb hby at_219) rfl  k) ?_
        show GoH _ _ _ _ _ _ _ _ _ _  T26 (mkF m 221 #[.val (.int p1), .val (.int p2), .val (.int p3), .val (.int p4), .val (.int (0 : Int32)), .val (.int (0 : Int32)), .val (.int f6), .val (.int (0 : Int32)), .val (.ref b5), .val (.ref b8), .val (.ref b13), .val .null, .val .null, .val (.ref w_ADMIN), .val (.ref b18), .val (.ref b24), .val (.int (0 : Int32)), .unset, .unset] [(.int (0 : Int32)), (.int (0 : Int32))])
        refine GoH.st (fun t k => XS.icmpYes X26.here hx rfl (pc0 := 221) (pc' := 226) rfl (hb hby at_221) rfl (teq (rfl : (0 : Int32) = (0 : Int32))).1 (by decide) (by decide) k) ?_
        show GoH _ _ _ _ _ _ _ _ _ _  T26 (mkF m 226 #[.val (.int p1), .val (.int p2), .val (.int p3), .val (.int p4), .val (.int (0 : Int32)), .val (.int (0 : Int32)), .val (.int f6), .val (.int (0 : Int32)), .val (.ref b5), .val (.ref b8), .val (.ref b13), .val .null, .val .null, .val (.ref w_ADMIN), .val (.ref b18), .val (.ref b24), .val (.int (0 : Int32)), .unset, .unset] [])
        refine GoH.st (fun t k => XS.aload X26.here hx rfl (hb hby at_226) rfl rfl  k) ?_
        show GoH _ _ _ _ _ _ _ _ _ _  T26 (mkF m 228 #[.val (.int p1), .val (.int p2), .val (.int p3), .val (.int p4), .val (.int (0 : Int32)), .val (.int (0 : Int32)), .val (.int f6), .val (.int (0 : Int32)), .val (.ref b5), .val (.ref b8), .val (.ref b13), .val .null, .val .null, .val (.ref w_ADMIN), .val (.ref b18), .val (.ref b24), .val (.int (0 : Int32)), .unset, .unset] [(.ref b24)])
        obtain ⟨cq27, kq27, q27a, q27b, q27c⟩ := isOf hZ e26q E_b24
        obtain ⟨_, _, ⟨T27, L27, k27, n27⟩, -, X27, ⟨Lc27, hQ27, l27, y27, z27⟩, st27⟩ := X26.virtualBack hx (y := (⟨"com/example/wellness_on_record/wellnessonrecord/oauth/Principal", "isUserAppAlone", "()Z"⟩ : MethodName)) (z := (⟨"com/example/wellness_on_record/wellnessonrecord/oauth/Principal", "isUserAppAlone", "()Z"⟩ : MethodName)) hown (mvT hZ (hw _ (List.mem_of_getElem? (i := 91) rfl))) (mvT hZ (hw _ (List.mem_of_getElem? (i := 92) rfl))) (notFace_of_selects (args := #[]) (mvT hZ (hw _ (List.mem_of_getElem? (i := 94) rfl)))) (mvT hZ (hw _ (List.mem_of_getElem? (i := 94) rfl))) (mvT hZ (hw _ (List.mem_of_getElem? (i := 93) rfl))) (by decide) (backOf (W := 0) (rmU l Z a0 hw [] b24 b18 w_ADMIN .null .null w_USER T25.heap n0 O Fa25 Fr25 Ft25 rfl rfl Fk23 E_b24 E_b18 S_USER) hZ (hw _ (List.mem_of_getElem? (i := 95) rfl)) (hw _ (List.mem_of_getElem? (i := 75) rfl)) (by decide) (by decide)) q27a q27c (g := (mkF m 228 #[.val (.int p1), .val (.int p2), .val (.int p3), .val (.int p4), .val (.int (0 : Int32)), .val (.int (0 : Int32)), .val (.int f6), .val (.int (0 : Int32)), .val (.ref b5), .val (.ref b8), .val (.ref b13), .val .null, .val .null, .val (.ref w_ADMIN), .val (.ref b18), .val (.ref b24), .val (.int (0 : Int32)), .unset, .unset] [(.ref b24)])) rfl (by rw [hml]; rfl) (Steps.refl _) (argsL := []) (rest := []) (lenOf pd___Z rfl) rfl (by show 2 * 0 + _ ≤ _; exact Nat.le_of_eq rfl) (hb hby at_228) (fun _ _ => ⟨rfl, e26q, (by decide : 13 + 0 ≤ _), (by decide : 93 + 0 ≤ _)⟩)
        dsimp only [Pt.U, Pt.locs, Pt.cells, Pt.slots] at X27 l27 y27 z27 st27 hQ27
        subst l27 y27 z27
        obtain ⟨rfl, N27q, e27q⟩ := hQ27
        have N27 := Fr.app N26 N27q
        refine GoH.tr st27 ?_
        rw [show (if w_ADMIN = w_USER then (if .null = Value.null then (if .null = Value.null then (1 : Int32) else 0) else 0) else 0) = (0 : Int32) from by simp [nAU]]
        show GoH _ _ _ _ _ _ _ _ _ _  T27 (mkF m 231 #[.val (.int p1), .val (.int p2), .val (.int p3), .val (.int p4), .val (.int (0 : Int32)), .val (.int (0 : Int32)), .val (.int f6), .val (.int (0 : Int32)), .val (.ref b5), .val (.ref b8), .val (.ref b13), .val .null, .val .null, .val (.ref w_ADMIN), .val (.ref b18), .val (.ref b24), .val (.int (0 : Int32)), .unset, .unset] [(.int (0 : Int32))])
        refine GoH.st (fun t k => XS.istore X27.here hx rfl (hb hby at_231) rfl (l' := #[.val (.int p1), .val (.int p2), .val (.int p3), .val (.int p4), .val (.int (0 : Int32)), .val (.int (0 : Int32)), .val (.int f6), .val (.int (0 : Int32)), .val (.ref b5), .val (.ref b8), .val (.ref b13), .val .null, .val .null, .val (.ref w_ADMIN), .val (.ref b18), .val (.ref b24), .val (.int (0 : Int32)), .val (.int (0 : Int32)), .unset]) rfl k) ?_
        show GoH _ _ _ _ _ _ _ _ _ _  T27 (mkF m 233 #[.val (.int p1), .val (.int p2), .val (.int p3), .val (.int p4), .val (.int (0 : Int32)), .val (.int (0 : Int32)), .val (.int f6), .val (.int (0 : Int32)), .val (.ref b5), .val (.ref b8), .val (.ref b13), .val .null, .val .null, .val (.ref w_ADMIN), .val (.ref b18), .val (.ref b24), .val (.int (0 : Int32)), .val (.int (0 : Int32)), .unset] [])
        refine GoH.st (fun t k => XS.iload X27.here hx rfl (hb hby at_233) rfl  k) ?_
        show GoH _ _ _ _ _ _ _ _ _ _  T27 (mkF m 235 #[.val (.int p1), .val (.int p2), .val (.int p3), .val (.int p4), .val (.int (0 : Int32)), .val (.int (0 : Int32)), .val (.int f6), .val (.int (0 : Int32)), .val (.ref b5), .val (.ref b8), .val (.ref b13), .val .null, .val .null, .val (.ref w_ADMIN), .val (.ref b18), .val (.ref b24), .val (.int (0 : Int32)), .val (.int (0 : Int32)), .unset] [(.int (0 : Int32))])
        refine GoH.st (fun t k => XS.ifNo X27.here hx rfl (hb hby at_235) rfl ((if0 _ _).trans (teq (rfl : (0 : Int32) = (0 : Int32))).2) k) ?_
        show GoH _ _ _ _ _ _ _ _ _ _  T27 (mkF m 238 #[.val (.int p1), .val (.int p2), .val (.int p3), .val (.int p4), .val (.int (0 : Int32)), .val (.int (0 : Int32)), .val (.int f6), .val (.int (0 : Int32)), .val (.ref b5), .val (.ref b8), .val (.ref b13), .val .null, .val .null, .val (.ref w_ADMIN), .val (.ref b18), .val (.ref b24), .val (.int (0 : Int32)), .val (.int (0 : Int32)), .unset] [])
        refine GoH.st (fun t k => XS.iload X27.here hx rfl (hb hby at_238) rfl  k) ?_
        show GoH _ _ _ _ _ _ _ _ _ _  T27 (mkF m 240 #[.val (.int p1), .val (.int p2), .val (.int p3), .val (.int p4), .val (.int (0 : Int32)), .val (.int (0 : Int32)), .val (.int f6), .val (.int (0 : Int32)), .val (.ref b5), .val (.ref b8), .val (.ref b13), .val .null, .val .null, .val (.ref w_ADMIN), .val (.ref b18), .val (.ref b24), .val (.int (0 : Int32)), .val (.int (0 : Int32)), .unset] [(.int (0 : Int32))])
        refine GoH.st (fun t k => XS.ifNo X27.here hx rfl (hb hby at_240) rfl ((if0 _ _).trans (teq (rfl : (0 : Int32) = (0 : Int32))).2) k) ?_
        show GoH _ _ _ _ _ _ _ _ _ _  T27 (mkF m 243 #[.val (.int p1), .val (.int p2), .val (.int p3), .val (.int p4), .val (.int (0 : Int32)), .val (.int (0 : Int32)), .val (.int f6), .val (.int (0 : Int32)), .val (.ref b5), .val (.ref b8), .val (.ref b13), .val .null, .val .null, .val (.ref w_ADMIN), .val (.ref b18), .val (.ref b24), .val (.int (0 : Int32)), .val (.int (0 : Int32)), .unset] [])
        refine GoH.st (fun t k => XS.iload X27.here hx rfl (hb hby at_243) rfl  k) ?_
        show GoH _ _ _ _ _ _ _ _ _ _  T27 (mkF m 245 #[.val (.int p1), .val (.int p2), .val (.int p3), .val (.int p4), .val (.int (0 : Int32)), .val (.int (0 : Int32)), .val (.int f6), .val (.int (0 : Int32)), .val (.ref b5), .val (.ref b8), .val (.ref b13), .val .null, .val .null, .val (.ref w_ADMIN), .val (.ref b18), .val (.ref b24), .val (.int (0 : Int32)), .val (.int (0 : Int32)), .unset] [(.int (0 : Int32))])
        refine GoH.st (fun t k => XS.ifYes X27.here hx rfl (pc0 := 245) (pc' := 252) rfl (hb hby at_245) rfl ((if0 _ _).trans (teq (rfl : (0 : Int32) = (0 : Int32))).1) (by decide) (by decide) k) ?_
        show GoH _ _ _ _ _ _ _ _ _ _  T27 (mkF m 252 #[.val (.int p1), .val (.int p2), .val (.int p3), .val (.int p4), .val (.int (0 : Int32)), .val (.int (0 : Int32)), .val (.int f6), .val (.int (0 : Int32)), .val (.ref b5), .val (.ref b8), .val (.ref b13), .val .null, .val .null, .val (.ref w_ADMIN), .val (.ref b18), .val (.ref b24), .val (.int (0 : Int32)), .val (.int (0 : Int32)), .unset] [])
        refine GoH.st (fun t k => XS.iconst X27.here hx rfl (hb hby at_252) k) ?_
        show GoH _ _ _ _ _ _ _ _ _ _  T27 (mkF m 253 #[.val (.int p1), .val (.int p2), .val (.int p3), .val (.int p4), .val (.int (0 : Int32)), .val (.int (0 : Int32)), .val (.int f6), .val (.int (0 : Int32)), .val (.ref b5), .val (.ref b8), .val (.ref b13), .val .null, .val .null, .val (.ref w_ADMIN), .val (.ref b18), .val (.ref b24), .val (.int (0 : Int32)), .val (.int (0 : Int32)), .unset] [(.int (0 : Int32))])
        refine GoH.st (fun t k => XS.istore X27.here hx rfl (hb hby at_253) rfl (l' := #[.val (.int p1), .val (.int p2), .val (.int p3), .val (.int p4), .val (.int (0 : Int32)), .val (.int (0 : Int32)), .val (.int f6), .val (.int (0 : Int32)), .val (.ref b5), .val (.ref b8), .val (.ref b13), .val .null, .val .null, .val (.ref w_ADMIN), .val (.ref b18), .val (.ref b24), .val (.int (0 : Int32)), .val (.int (0 : Int32)), .val (.int (0 : Int32))]) rfl k) ?_
        show GoH _ _ _ _ _ _ _ _ _ _  T27 (mkF m 255 #[.val (.int p1), .val (.int p2), .val (.int p3), .val (.int p4), .val (.int (0 : Int32)), .val (.int (0 : Int32)), .val (.int f6), .val (.int (0 : Int32)), .val (.ref b5), .val (.ref b8), .val (.ref b13), .val .null, .val .null, .val (.ref w_ADMIN), .val (.ref b18), .val (.ref b24), .val (.int (0 : Int32)), .val (.int (0 : Int32)), .val (.int (0 : Int32))] [])
        refine GoH.st (fun t k => XS.iload X27.here hx rfl (hb hby at_255) rfl  k) ?_
        show GoH _ _ _ _ _ _ _ _ _ _  T27 (mkF m 257 #[.val (.int p1), .val (.int p2), .val (.int p3), .val (.int p4), .val (.int (0 : Int32)), .val (.int (0 : Int32)), .val (.int f6), .val (.int (0 : Int32)), .val (.ref b5), .val (.ref b8), .val (.ref b13), .val .null, .val .null, .val (.ref w_ADMIN), .val (.ref b18), .val (.ref b24), .val (.int (0 : Int32)), .val (.int (0 : Int32)), .val (.int (0 : Int32))] [(.int (0 : Int32))])
        refine GoH.st (fun t k => XS.iload X27.here hx rfl (hb hby at_257) rfl  k) ?_
        show GoH _ _ _ _ _ _ _ _ _ _  T27 (mkF m 259 #[.val (.int p1), .val (.int p2), .val (.int p3), .val (.int p4), .val (.int (0 : Int32)), .val (.int (0 : Int32)), .val (.int f6), .val (.int (0 : Int32)), .val (.ref b5), .val (.ref b8), .val (.ref b13), .val .null, .val .null, .val (.ref w_ADMIN), .val (.ref b18), .val (.ref b24), .val (.int (0 : Int32)), .val (.int (0 : Int32)), .val (.int (0 : Int32))] [(.int (0 : Int32)), (.int (0 : Int32))])
        refine GoH.st (fun t k => XS.icmpNo X27.here hx rfl (hb hby at_259) rfl (teq (rfl : (0 : Int32) = (0 : Int32))).2 k) ?_
        show GoH _ _ _ _ _ _ _ _ _ _  T27 (mkF m 262 #[.val (.int p1), .val (.int p2), .val (.int p3), .val (.int p4), .val (.int (0 : Int32)), .val (.int (0 : Int32)), .val (.int f6), .val (.int (0 : Int32)), .val (.ref b5), .val (.ref b8), .val (.ref b13), .val .null, .val .null, .val (.ref w_ADMIN), .val (.ref b18), .val (.ref b24), .val (.int (0 : Int32)), .val (.int (0 : Int32)), .val (.int (0 : Int32))] [])
        refine GoH.st (fun t k => XS.iconst X27.here hx rfl (hb hby at_262) k) ?_
        show GoH _ _ _ _ _ _ _ _ _ _  T27 (mkF m 263 #[.val (.int p1), .val (.int p2), .val (.int p3), .val (.int p4), .val (.int (0 : Int32)), .val (.int (0 : Int32)), .val (.int f6), .val (.int (0 : Int32)), .val (.ref b5), .val (.ref b8), .val (.ref b13), .val .null, .val .null, .val (.ref w_ADMIN), .val (.ref b18), .val (.ref b24), .val (.int (0 : Int32)), .val (.int (0 : Int32)), .val (.int (0 : Int32))] [(.int (1 : Int32))])
        refine GoH.st (fun t k => XS.goto X27.here hx rfl (pc0 := 263) (pc' := 267) rfl (hb hby at_263) (by decide) (by decide) k) ?_
        show GoH _ _ _ _ _ _ _ _ _ _  T27 (mkF m 267 #[.val (.int p1), .val (.int p2), .val (.int p3), .val (.int p4), .val (.int (0 : Int32)), .val (.int (0 : Int32)), .val (.int f6), .val (.int (0 : Int32)), .val (.ref b5), .val (.ref b8), .val (.ref b13), .val .null, .val .null, .val (.ref w_ADMIN), .val (.ref b18), .val (.ref b24), .val (.int (0 : Int32)), .val (.int (0 : Int32)), .val (.int (0 : Int32))] [(.int (1 : Int32))])
        refine GoH.retN X27 hS hk e27q hZ hEL HH RR hlk hx (t := .boolean) (z' := (1 : Int32)) Bd.returns (by simp) (hb hby at_267) (by decide) (by decide) rfl ?_
        show Q_rm0 Z _ _ _ _ _ _ _ h0 n0 _ T27.heap _
        rw [e27q]
        exact ⟨rfl, N27⟩
      · rw [sp16]
        show GoH _ _ _ _ _ _ _ _ _ _  T13 (mkF m 154 #[.val (.int p1), .val (.int p2), .val (.int p3), .val (.int p4), .val (.int (0 : Int32)), .val (.int (0 : Int32)), .val (.int f6), .val (.int (1 : Int32)), .val (.ref b5), .val (.ref b8), .val (.ref b13), .val .null, .val .null, .unset, .unset, .unset, .unset, .unset, .unset] [])
        refine GoH.st (fun t k => XS.iload X13.here hx rfl (hb hby at_154) rfl  k) ?_
        show GoH _ _ _ _ _ _ _ _ _ _  T13 (mkF m 156 #[.val (.int p1), .val (.int p2), .val (.int p3), .val (.int p4), .val (.int (0 : Int32)), .val (.int (0 : Int32)), .val (.int f6), .val (.int (1 : Int32)), .val (.ref b5), .val (.ref b8), .val (.ref b13), .val .null, .val .null, .unset, .unset, .unset, .unset, .unset, .unset] [(.int (1 : Int32))])
        refine GoH.st (fun t k => XS.ifNo X13.here hx rfl (hb hby at_156) rfl ((if0 _ _).trans (feq (by decide : ¬ ((1 : Int32) = (0 : Int32)))).1) k) ?_
        show GoH _ _ _ _ _ _ _ _ _ _  T13 (mkF m 159 #[.val (.int p1), .val (.int p2), .val (.int p3), .val (.int p4), .val (.int (0 : Int32)), .val (.int (0 : Int32)), .val (.int f6), .val (.int (1 : Int32)), .val (.ref b5), .val (.ref b8), .val (.ref b13), .val .null, .val .null, .unset, .unset, .unset, .unset, .unset, .unset] [])
        obtain ⟨T28, X28, e28, st28⟩ := getS2 X13 hx hZ hown (host := "") (Or.inl (hw _ (List.mem_of_getElem? (i := 100) rfl))) Via.refl e13 (S_USER.ext O.2) (g := (mkF m 159 #[.val (.int p1), .val (.int p2), .val (.int p3), .val (.int p4), .val (.int (0 : Int32)), .val (.int (0 : Int32)), .val (.int f6), .val (.int (1 : Int32)), .val (.ref b5), .val (.ref b8), .val (.ref b13), .val .null, .val .null, .unset, .unset, .unset, .unset, .unset, .unset] [])) rfl (hb hby at_159)
        refine GoH.st st28 ?_
        show GoH _ _ _ _ _ _ _ _ _ _  T28 (mkF m 162 #[.val (.int p1), .val (.int p2), .val (.int p3), .val (.int p4), .val (.int (0 : Int32)), .val (.int (0 : Int32)), .val (.int f6), .val (.int (1 : Int32)), .val (.ref b5), .val (.ref b8), .val (.ref b13), .val .null, .val .null, .unset, .unset, .unset, .unset, .unset, .unset] [(.ref w_USER)])
        refine GoH.st (fun t k => XS.goto X28.here hx rfl (pc0 := 162) (pc' := 168) rfl (hb hby at_162) (by decide) (by decide) k) ?_
        show GoH _ _ _ _ _ _ _ _ _ _  T28 (mkF m 168 #[.val (.int p1), .val (.int p2), .val (.int p3), .val (.int p4), .val (.int (0 : Int32)), .val (.int (0 : Int32)), .val (.int f6), .val (.int (1 : Int32)), .val (.ref b5), .val (.ref b8), .val (.ref b13), .val .null, .val .null, .unset, .unset, .unset, .unset, .unset, .unset] [(.ref w_USER)])
        refine GoH.st (fun t k => XS.astore X28.here hx rfl (hb hby at_168) rfl rfl (l' := #[.val (.int p1), .val (.int p2), .val (.int p3), .val (.int p4), .val (.int (0 : Int32)), .val (.int (0 : Int32)), .val (.int f6), .val (.int (1 : Int32)), .val (.ref b5), .val (.ref b8), .val (.ref b13), .val .null, .val .null, .val (.ref w_USER), .unset, .unset, .unset, .unset, .unset]) rfl k) ?_
        show GoH _ _ _ _ _ _ _ _ _ _  T28 (mkF m 170 #[.val (.int p1), .val (.int p2), .val (.int p3), .val (.int p4), .val (.int (0 : Int32)), .val (.int (0 : Int32)), .val (.int f6), .val (.int (1 : Int32)), .val (.ref b5), .val (.ref b8), .val (.ref b13), .val .null, .val .null, .val (.ref w_USER), .unset, .unset, .unset, .unset, .unset] [])
        obtain ⟨T29, h29, X29, e29, E29, A29, D29, -, st29⟩ := newO X28 hx hZ hown (hw _ (List.mem_of_getElem? (i := 33) rfl)) (hw _ (List.mem_of_getElem? (i := 34) rfl)) (hw _ (List.mem_of_getElem? (i := 35) rfl)) e28 (g := (mkF m 170 #[.val (.int p1), .val (.int p2), .val (.int p3), .val (.int p4), .val (.int (0 : Int32)), .val (.int (0 : Int32)), .val (.int f6), .val (.int (1 : Int32)), .val (.ref b5), .val (.ref b8), .val (.ref b13), .val .null, .val .null, .val (.ref w_USER), .unset, .unset, .unset, .unset, .unset] [])) rfl (hb hby at_170) (by decide) (by decide)
        obtain ⟨b29, g29⟩ : ∃ z, z = h13.size := ⟨_, rfl⟩
        rw [← g29] at A29 D29 st29
        refine GoH.st st29 ?_
        have g_b29 : n0 ≤ b29 := by rw [g29]; exact own_le O
        have Sf_b29 : Safe Z EL s.vm h13 b29 := Safe.new (Nat.le_of_eq g29.symm)
        have sz_b29 : h0.size ≤ b29 := by rw [g29]; exact KK.1
        have ne_b5_b29 : b5 ≠ b29 := Nat.ne_of_lt (by rw [g29]; exact V_b5.lt)
        have ne_b8_b29 : b8 ≠ b29 := Nat.ne_of_lt (by rw [g29]; exact V_b8.lt)
        have ne_b13_b29 : b13 ≠ b29 := Nat.ne_of_lt (by rw [g29]; exact V_b13.lt)
        have V_b5 := V_b5.ext E29
        have V_b8 := V_b8.ext E29
        have V_b13 := V_b13.ext E29
        have Sf_b5 := Safe.ext E29 HH Sf_b5
        have Sf_b8 := Safe.ext E29 HH Sf_b8
        have Sf_b13 := Safe.ext E29 HH Sf_b13
        have Sf_b29 := Safe.ext E29 HH Sf_b29
        have RR := RR.trans (CHr.ext E29 HH)
        have HH := HH.ext E29
        have hk := Nat.le_trans hk E29.1
        have O := O.ext E29
        have KK := KK.ext E29
        have E_b29 := A29
        have F_id_b29 : Fld Z h29 b29 "com/example/wellness_on_record/wellnessonrecord/apps/App" "id" "Ljava/lang/String;" .null := D29 (Or.inr (hw _ (List.mem_of_getElem? (i := 52) rfl))) (ty := (.object "java/lang/String")) (by decide)
        have F_name_b29 : Fld Z h29 b29 "com/example/wellness_on_record/wellnessonrecord/apps/App" "name" "Ljava/lang/String;" .null := D29 (Or.inr (hw _ (List.mem_of_getElem? (i := 54) rfl))) (ty := (.object "java/lang/String")) (by decide)
        have F_kind_b29 : Fld Z h29 b29 "com/example/wellness_on_record/wellnessonrecord/apps/App" "kind" "Lcom/example/wellness_on_record/wellnessonrecord/apps/App$Kind;" .null := D29 (Or.inr (hw _ (List.mem_of_getElem? (i := 56) rfl))) (ty := (.object "com/example/wellness_on_record/wellnessonrecord/apps/App$Kind")) (by decide)
        have F_consumerKey_b29 : Fld Z h29 b29 "com/example/wellness_on_record/wellnessonrecord/apps/App" "consumerKey" "Ljava/lang/String;" .null := D29 (Or.inr (hw _ (List.mem_of_getElem? (i := 58) rfl))) (ty := (.object "java/lang/String")) (by decide)
        have F_consumerSecret_b29 : Fld Z h29 b29 "com/example/wellness_on_record/wellnessonrecord/apps/App" "consumerSecret" "Ljava/lang/String;" .null := D29 (Or.inr (hw _ (List.mem_of_getElem? (i := 60) rfl))) (ty := (.object "java/lang/String")) (by decide)
        have F_autonomous_b29 : Fld Z h29 b29 "com/example/wellness_on_record/wellnessonrecord/apps/App" "autonomous" "Z" (.int (0 : Int32)) := D29 (Or.inr (hw _ (List.mem_of_getElem? (i := 62) rfl))) (ty := .boolean) (by decide)
        have F_autonomousReason_b29 : Fld Z h29 b29 "com/example/wellness_on_record/wellnessonrecord/apps/App" "autonomousReason" "Ljava/lang/String;" .null := D29 (Or.inr (hw _ (List.mem_of_getElem? (i := 64) rfl))) (ty := (.object "java/lang/String")) (by decide)
        have F_hasUi_b29 : Fld Z h29 b29 "com/example/wellness_on_record/wellnessonrecord/apps/App" "hasUi" "Z" (.int (0 : Int32)) := D29 (Or.inr (hw _ (List.mem_of_getElem? (i := 66) rfl))) (ty := .boolean) (by decide)
        have F_callbackUrl_b29 : Fld Z h29 b29 "com/example/wellness_on_record/wellnessonrecord/apps/App" "callbackUrl" "Ljava/lang/String;" .null := D29 (Or.inr (hw _ (List.mem_of_getElem? (i := 68) rfl))) (ty := (.object "java/lang/String")) (by decide)
        have F_startUrlTemplate_b29 : Fld Z h29 b29 "com/example/wellness_on_record/wellnessonrecord/apps/App" "startUrlTemplate" "Ljava/lang/String;" .null := D29 (Or.inr (hw _ (List.mem_of_getElem? (i := 70) rfl))) (ty := (.object "java/lang/String")) (by decide)
        have F_frameable_b29 : Fld Z h29 b29 "com/example/wellness_on_record/wellnessonrecord/apps/App" "frameable" "Z" (.int (0 : Int32)) := D29 (Or.inr (hw _ (List.mem_of_getElem? (i := 72) rfl))) (ty := .boolean) (by decide)
        show GoH _ _ _ _ _ _ _ _ _ _  T29 (mkF m 173 #[.val (.int p1), .val (.int p2), .val (.int p3), .val (.int p4), .val (.int (0 : Int32)), .val (.int (0 : Int32)), .val (.int f6), .val (.int (1 : Int32)), .val (.ref b5), .val (.ref b8), .val (.ref b13), .val .null, .val .null, .val (.ref w_USER), .unset, .unset, .unset, .unset, .unset] [(.ref b29)])
        refine GoH.st (fun t k => XS.dup X29.here hx rfl (hb hby at_173) rfl rfl k) ?_
        show GoH _ _ _ _ _ _ _ _ _ _  T29 (mkF m 174 #[.val (.int p1), .val (.int p2), .val (.int p3), .val (.int p4), .val (.int (0 : Int32)), .val (.int (0 : Int32)), .val (.int f6), .val (.int (1 : Int32)), .val (.ref b5), .val (.ref b8), .val (.ref b13), .val .null, .val .null, .val (.ref w_USER), .unset, .unset, .unset, .unset, .unset] [(.ref b29), (.ref b29)])
        obtain ⟨sa30, T30, h30, kk30, sb30, kb30, X30, e30, E30, hS30, hk30, hZ30, ho30, E_sa30, F_coder_sa30, F_value_sa30, V_sb30, la30, lb30, CR30, Lt30, ns30, st30⟩ := ldcCH X29 hx hZ hown (hw _ (List.mem_of_getElem? (i := 36) rfl)) wS e29 hS hk hEL (List.mem_of_getElem? (i := 0) rfl) HH (vs := [(.int (105 : Int32)), (.int (100 : Int32))]) (z := 2) ⟨by decide, by decide⟩ (by decide) rfl (g := (mkF m 174 #[.val (.int p1), .val (.int p2), .val (.int p3), .val (.int p4), .val (.int (0 : Int32)), .val (.int (0 : Int32)), .val (.int f6), .val (.int (1 : Int32)), .val (.ref b5), .val (.ref b8), .val (.ref b13), .val .null, .val .null, .val (.ref w_USER), .unset, .unset, .unset, .unset, .unset] [(.ref b29), (.ref b29)])) rfl (hb hby at_174) (n := 8) (by decide) (by decide) (by decide) (by decide)
        refine GoH.st st30 ?_
        have Sf_b5 := CHr.safe CR30 V_b5.lt Sf_b5
        have Sf_b8 := CHr.safe CR30 V_b8.lt Sf_b8
        have Sf_b13 := CHr.safe CR30 V_b13.lt Sf_b13
        have Sf_b29 := CHr.safe CR30 E_b29.lt Sf_b29
        have V_b5 := V_b5.ext E30
        have V_b8 := V_b8.ext E30
        have V_b13 := V_b13.ext E30
        have E_b29 := E_b29.ext E30
        have F_id_b29 := F_id_b29.ext E30
        have F_name_b29 := F_name_b29.ext E30
        have F_kind_b29 := F_kind_b29.ext E30
        have F_consumerKey_b29 := F_consumerKey_b29.ext E30
        have F_consumerSecret_b29 := F_consumerSecret_b29.ext E30
        have F_autonomous_b29 := F_autonomous_b29.ext E30
        have F_autonomousReason_b29 := F_autonomousReason_b29.ext E30
        have F_hasUi_b29 := F_hasUi_b29.ext E30
        have F_callbackUrl_b29 := F_callbackUrl_b29.ext E30
        have F_startUrlTemplate_b29 := F_startUrlTemplate_b29.ext E30
        have F_frameable_b29 := F_frameable_b29.ext E30
        have O := O.ext E30
        have KK := KK.ext E30
        have RR := RR.trans CR30
        have HH := CR30.1
        have hS := hS30
        have hk := hk30
        have hZ := hZ30
        have hown := ho30
        show GoH _ _ _ _ _ _ _ _ _ _  T30 (mkF m 176 #[.val (.int p1), .val (.int p2), .val (.int p3), .val (.int p4), .val (.int (0 : Int32)), .val (.int (0 : Int32)), .val (.int f6), .val (.int (1 : Int32)), .val (.ref b5), .val (.ref b8), .val (.ref b13), .val .null, .val .null, .val (.ref w_USER), .unset, .unset, .unset, .unset, .unset] [(.ref sa30), (.ref b29), (.ref b29)])
        obtain ⟨sa31, T31, h31, kk31, sb31, kb31, X31, e31, E31, hS31, hk31, hZ31, ho31, E_sa31, F_coder_sa31, F_value_sa31, V_sb31, la31, lb31, CR31, Lt31, ns31, st31⟩ := ldcCH X30 hx hZ hown (hw _ (List.mem_of_getElem? (i := 39) rfl)) wS e30 hS hk hEL (List.mem_of_getElem? (i := 1) rfl) HH (vs := [(.int (110 : Int32)), (.int (97 : Int32)), (.int (109 : Int32)), (.int (101 : Int32))]) (z := 4) ⟨by decide, by decide⟩ (by decide) rfl (g := (mkF m 176 #[.val (.int p1), .val (.int p2), .val (.int p3), .val (.int p4), .val (.int (0 : Int32)), .val (.int (0 : Int32)), .val (.int f6), .val (.int (1 : Int32)), .val (.ref b5), .val (.ref b8), .val (.ref b13), .val .null, .val .null, .val (.ref w_USER), .unset, .unset, .unset, .unset, .unset] [(.ref sa30), (.ref b29), (.ref b29)])) rfl (hb hby at_176) (n := 16) (by decide) (by decide) (by decide) (by decide)
        refine GoH.st st31 ?_
        have Sf_b5 := CHr.safe CR31 V_b5.lt Sf_b5
        have Sf_b8 := CHr.safe CR31 V_b8.lt Sf_b8
        have Sf_b13 := CHr.safe CR31 V_b13.lt Sf_b13
        have Sf_b29 := CHr.safe CR31 E_b29.lt Sf_b29
        have V_b5 := V_b5.ext E31
        have V_b8 := V_b8.ext E31
        have V_b13 := V_b13.ext E31
        have E_b29 := E_b29.ext E31
        have F_id_b29 := F_id_b29.ext E31
        have F_name_b29 := F_name_b29.ext E31
        have F_kind_b29 := F_kind_b29.ext E31
        have F_consumerKey_b29 := F_consumerKey_b29.ext E31
        have F_consumerSecret_b29 := F_consumerSecret_b29.ext E31
        have F_autonomous_b29 := F_autonomous_b29.ext E31
        have F_autonomousReason_b29 := F_autonomousReason_b29.ext E31
        have F_hasUi_b29 := F_hasUi_b29.ext E31
        have F_callbackUrl_b29 := F_callbackUrl_b29.ext E31
        have F_startUrlTemplate_b29 := F_startUrlTemplate_b29.ext E31
        have F_frameable_b29 := F_frameable_b29.ext E31
        have O := O.ext E31
        have KK := KK.ext E31
        have RR := RR.trans CR31
        have HH := CR31.1
        have hS := hS31
        have hk := hk31
        have hZ := hZ31
        have hown := ho31
        show GoH _ _ _ _ _ _ _ _ _ _  T31 (mkF m 178 #[.val (.int p1), .val (.int p2), .val (.int p3), .val (.int p4), .val (.int (0 : Int32)), .val (.int (0 : Int32)), .val (.int f6), .val (.int (1 : Int32)), .val (.ref b5), .val (.ref b8), .val (.ref b13), .val .null, .val .null, .val (.ref w_USER), .unset, .unset, .unset, .unset, .unset] [(.ref sa31), (.ref sa30), (.ref b29), (.ref b29)])
        refine GoH.st (fun t k => XS.aload X31.here hx rfl (hb hby at_178) rfl rfl  k) ?_
        show GoH _ _ _ _ _ _ _ _ _ _  T31 (mkF m 180 #[.val (.int p1), .val (.int p2), .val (.int p3), .val (.int p4), .val (.int (0 : Int32)), .val (.int (0 : Int32)), .val (.int f6), .val (.int (1 : Int32)), .val (.ref b5), .val (.ref b8), .val (.ref b13), .val .null, .val .null, .val (.ref w_USER), .unset, .unset, .unset, .unset, .unset] [(.ref w_USER), (.ref sa31), (.ref sa30), (.ref b29), (.ref b29)])
        obtain ⟨sa32, T32, h32, kk32, sb32, kb32, X32, e32, E32, hS32, hk32, hZ32, ho32, E_sa32, F_coder_sa32, F_value_sa32, V_sb32, la32, lb32, CR32, Lt32, ns32, st32⟩ := ldcCH X31 hx hZ hown (hw _ (List.mem_of_getElem? (i := 40) rfl)) wS e31 hS hk hEL (List.mem_of_getElem? (i := 2) rfl) HH (vs := [(.int (107 : Int32)), (.int (101 : Int32)), (.int (121 : Int32))]) (z := 3) ⟨by decide, by decide⟩ (by decide) rfl (g := (mkF m 180 #[.val (.int p1), .val (.int p2), .val (.int p3), .val (.int p4), .val (.int (0 : Int32)), .val (.int (0 : Int32)), .val (.int f6), .val (.int (1 : Int32)), .val (.ref b5), .val (.ref b8), .val (.ref b13), .val .null, .val .null, .val (.ref w_USER), .unset, .unset, .unset, .unset, .unset] [(.ref w_USER), (.ref sa31), (.ref sa30), (.ref b29), (.ref b29)])) rfl (hb hby at_180) (n := 12) (by decide) (by decide) (by decide) (by decide)
        refine GoH.st st32 ?_
        have Sf_b5 := CHr.safe CR32 V_b5.lt Sf_b5
        have Sf_b8 := CHr.safe CR32 V_b8.lt Sf_b8
        have Sf_b13 := CHr.safe CR32 V_b13.lt Sf_b13
        have Sf_b29 := CHr.safe CR32 E_b29.lt Sf_b29
        have V_b5 := V_b5.ext E32
        have V_b8 := V_b8.ext E32
        have V_b13 := V_b13.ext E32
        have E_b29 := E_b29.ext E32
        have F_id_b29 := F_id_b29.ext E32
        have F_name_b29 := F_name_b29.ext E32
        have F_kind_b29 := F_kind_b29.ext E32
        have F_consumerKey_b29 := F_consumerKey_b29.ext E32
        have F_consumerSecret_b29 := F_consumerSecret_b29.ext E32
        have F_autonomous_b29 := F_autonomous_b29.ext E32
        have F_autonomousReason_b29 := F_autonomousReason_b29.ext E32
        have F_hasUi_b29 := F_hasUi_b29.ext E32
        have F_callbackUrl_b29 := F_callbackUrl_b29.ext E32
        have F_startUrlTemplate_b29 := F_startUrlTemplate_b29.ext E32
        have F_frameable_b29 := F_frameable_b29.ext E32
        have O := O.ext E32
        have KK := KK.ext E32
        have RR := RR.trans CR32
        have HH := CR32.1
        have hS := hS32
        have hk := hk32
        have hZ := hZ32
        have hown := ho32
        show GoH _ _ _ _ _ _ _ _ _ _  T32 (mkF m 182 #[.val (.int p1), .val (.int p2), .val (.int p3), .val (.int p4), .val (.int (0 : Int32)), .val (.int (0 : Int32)), .val (.int f6), .val (.int (1 : Int32)), .val (.ref b5), .val (.ref b8), .val (.ref b13), .val .null, .val .null, .val (.ref w_USER), .unset, .unset, .unset, .unset, .unset] [(.ref sa32), (.ref w_USER), (.ref sa31), (.ref sa30), (.ref b29), (.ref b29)])
        obtain ⟨sa33, T33, h33, kk33, sb33, kb33, X33, e33, E33, hS33, hk33, hZ33, ho33, E_sa33, F_coder_sa33, F_value_sa33, V_sb33, la33, lb33, CR33, Lt33, ns33, st33⟩ := ldcCH X32 hx hZ hown (hw _ (List.mem_of_getElem? (i := 41) rfl)) wS e32 hS hk hEL (List.mem_of_getElem? (i := 3) rfl) HH (vs := [(.int (115 : Int32)), (.int (101 : Int32)), (.int (99 : Int32)), (.int (114 : Int32)), (.int (101 : Int32)), (.int (116 : Int32))]) (z := 6) ⟨by decide, by decide⟩ (by decide) rfl (g := (mkF m 182 #[.val (.int p1), .val (.int p2), .val (.int p3), .val (.int p4), .val (.int (0 : Int32)), .val (.int (0 : Int32)), .val (.int f6), .val (.int (1 : Int32)), .val (.ref b5), .val (.ref b8), .val (.ref b13), .val .null, .val .null, .val (.ref w_USER), .unset, .unset, .unset, .unset, .unset] [(.ref sa32), (.ref w_USER), (.ref sa31), (.ref sa30), (.ref b29), (.ref b29)])) rfl (hb hby at_182) (n := 24) (by decide) (by decide) (by decide) (by decide)
        refine GoH.st st33 ?_
        have Sf_b5 := CHr.safe CR33 V_b5.lt Sf_b5
        have Sf_b8 := CHr.safe CR33 V_b8.lt Sf_b8
        have Sf_b13 := CHr.safe CR33 V_b13.lt Sf_b13
        have Sf_b29 := CHr.safe CR33 E_b29.lt Sf_b29
        have V_b5 := V_b5.ext E33
        have V_b8 := V_b8.ext E33
        have V_b13 := V_b13.ext E33
        have E_b29 := E_b29.ext E33
        have F_id_b29 := F_id_b29.ext E33
        have F_name_b29 := F_name_b29.ext E33
        have F_kind_b29 := F_kind_b29.ext E33
        have F_consumerKey_b29 := F_consumerKey_b29.ext E33
        have F_consumerSecret_b29 := F_consumerSecret_b29.ext E33
        have F_autonomous_b29 := F_autonomous_b29.ext E33
        have F_autonomousReason_b29 := F_autonomousReason_b29.ext E33
        have F_hasUi_b29 := F_hasUi_b29.ext E33
        have F_callbackUrl_b29 := F_callbackUrl_b29.ext E33
        have F_startUrlTemplate_b29 := F_startUrlTemplate_b29.ext E33
        have F_frameable_b29 := F_frameable_b29.ext E33
        have O := O.ext E33
        have KK := KK.ext E33
        have RR := RR.trans CR33
        have HH := CR33.1
        have hS := hS33
        have hk := hk33
        have hZ := hZ33
        have hown := ho33
        show GoH _ _ _ _ _ _ _ _ _ _  T33 (mkF m 184 #[.val (.int p1), .val (.int p2), .val (.int p3), .val (.int p4), .val (.int (0 : Int32)), .val (.int (0 : Int32)), .val (.int f6), .val (.int (1 : Int32)), .val (.ref b5), .val (.ref b8), .val (.ref b13), .val .null, .val .null, .val (.ref w_USER), .unset, .unset, .unset, .unset, .unset] [(.ref sa33), (.ref sa32), (.ref w_USER), (.ref sa31), (.ref sa30), (.ref b29), (.ref b29)])
        refine GoH.st (fun t k => XS.iconst X33.here hx rfl (hb hby at_184) k) ?_
        show GoH _ _ _ _ _ _ _ _ _ _  T33 (mkF m 185 #[.val (.int p1), .val (.int p2), .val (.int p3), .val (.int p4), .val (.int (0 : Int32)), .val (.int (0 : Int32)), .val (.int f6), .val (.int (1 : Int32)), .val (.ref b5), .val (.ref b8), .val (.ref b13), .val .null, .val .null, .val (.ref w_USER), .unset, .unset, .unset, .unset, .unset] [(.int (0 : Int32)), (.ref sa33), (.ref sa32), (.ref w_USER), (.ref sa31), (.ref sa30), (.ref b29), (.ref b29)])
        refine GoH.st (fun t k => XS.aconstNull X33.here hx rfl (hb hby at_185) k) ?_
        show GoH _ _ _ _ _ _ _ _ _ _  T33 (mkF m 186 #[.val (.int p1), .val (.int p2), .val (.int p3), .val (.int p4), .val (.int (0 : Int32)), .val (.int (0 : Int32)), .val (.int f6), .val (.int (1 : Int32)), .val (.ref b5), .val (.ref b8), .val (.ref b13), .val .null, .val .null, .val (.ref w_USER), .unset, .unset, .unset, .unset, .unset] [.null, (.int (0 : Int32)), (.ref sa33), (.ref sa32), (.ref w_USER), (.ref sa31), (.ref sa30), (.ref b29), (.ref b29)])
        refine GoH.st (fun t k => XS.iconst X33.here hx rfl (hb hby at_186) k) ?_
        show GoH _ _ _ _ _ _ _ _ _ _  T33 (mkF m 187 #[.val (.int p1), .val (.int p2), .val (.int p3), .val (.int p4), .val (.int (0 : Int32)), .val (.int (0 : Int32)), .val (.int f6), .val (.int (1 : Int32)), .val (.ref b5), .val (.ref b8), .val (.ref b13), .val .null, .val .null, .val (.ref w_USER), .unset, .unset, .unset, .unset, .unset] [(.int (0 : Int32)), .null, (.int (0 : Int32)), (.ref sa33), (.ref sa32), (.ref w_USER), (.ref sa31), (.ref sa30), (.ref b29), (.ref b29)])
        refine GoH.st (fun t k => XS.aconstNull X33.here hx rfl (hb hby at_187) k) ?_
        show GoH _ _ _ _ _ _ _ _ _ _  T33 (mkF m 188 #[.val (.int p1), .val (.int p2), .val (.int p3), .val (.int p4), .val (.int (0 : Int32)), .val (.int (0 : Int32)), .val (.int f6), .val (.int (1 : Int32)), .val (.ref b5), .val (.ref b8), .val (.ref b13), .val .null, .val .null, .val (.ref w_USER), .unset, .unset, .unset, .unset, .unset] [.null, (.int (0 : Int32)), .null, (.int (0 : Int32)), (.ref sa33), (.ref sa32), (.ref w_USER), (.ref sa31), (.ref sa30), (.ref b29), (.ref b29)])
        refine GoH.st (fun t k => XS.aconstNull X33.here hx rfl (hb hby at_188) k) ?_
        show GoH _ _ _ _ _ _ _ _ _ _  T33 (mkF m 189 #[.val (.int p1), .val (.int p2), .val (.int p3), .val (.int p4), .val (.int (0 : Int32)), .val (.int (0 : Int32)), .val (.int f6), .val (.int (1 : Int32)), .val (.ref b5), .val (.ref b8), .val (.ref b13), .val .null, .val .null, .val (.ref w_USER), .unset, .unset, .unset, .unset, .unset] [.null, .null, (.int (0 : Int32)), .null, (.int (0 : Int32)), (.ref sa33), (.ref sa32), (.ref w_USER), (.ref sa31), (.ref sa30), (.ref b29), (.ref b29)])
        refine GoH.st (fun t k => XS.iconst X33.here hx rfl (hb hby at_189) k) ?_
        show GoH _ _ _ _ _ _ _ _ _ _  T33 (mkF m 190 #[.val (.int p1), .val (.int p2), .val (.int p3), .val (.int p4), .val (.int (0 : Int32)), .val (.int (0 : Int32)), .val (.int f6), .val (.int (1 : Int32)), .val (.ref b5), .val (.ref b8), .val (.ref b13), .val .null, .val .null, .val (.ref w_USER), .unset, .unset, .unset, .unset, .unset] [(.int (0 : Int32)), .null, .null, (.int (0 : Int32)), .null, (.int (0 : Int32)), (.ref sa33), (.ref sa32), (.ref w_USER), (.ref sa31), (.ref sa30), (.ref b29), (.ref b29)])
        obtain ⟨_, _, ⟨T34, L34, k34, n34⟩, -, X34, ⟨Lc34, hQ34, l34, y34, z34⟩, st34⟩ := X33.specialBack hx (y := (⟨"com/example/wellness_on_record/wellnessonrecord/apps/App", "<init>", "(Ljava/lang/String;Ljava/lang/String;Lcom/example/wellness_on_record/wellnessonrecord/apps/App$Kind;Ljava/lang/String;Ljava/lang/String;ZLjava/lang/String;ZLjava/lang/String;Ljava/lang/String;Z)V"⟩ : MethodName)) rfl hown (mvT hZ (hw _ (List.mem_of_getElem? (i := 42) rfl))) (mvT hZ (hw _ (List.mem_of_getElem? (i := 43) rfl))) (mvT hZ (hw _ (List.mem_of_getElem? (i := 44) rfl))) (by decide) (backOf (W := 1) (rmA l Z a0 hw [] b29 sa30 sa31 w_USER sa32 sa33 h33 n0 O E_b29 F_id_b29 F_name_b29 F_kind_b29 F_consumerKey_b29 F_consumerSecret_b29 F_autonomous_b29 F_autonomousReason_b29 F_hasUi_b29 F_callbackUrl_b29 F_startUrlTemplate_b29 F_frameable_b29 g_b29) hZ (hw _ (List.mem_of_getElem? (i := 44) rfl)) (hw _ (List.mem_of_getElem? (i := 35) rfl)) (by decide) (by decide)) (g := (mkF m 190 #[.val (.int p1), .val (.int p2), .val (.int p3), .val (.int p4), .val (.int (0 : Int32)), .val (.int (0 : Int32)), .val (.int f6), .val (.int (1 : Int32)), .val (.ref b5), .val (.ref b8), .val (.ref b13), .val .null, .val .null, .val (.ref w_USER), .unset, .unset, .unset, .unset, .unset] [(.int (0 : Int32)), .null, .null, (.int (0 : Int32)), .null, (.int (0 : Int32)), (.ref sa33), (.ref sa32), (.ref w_USER), (.ref sa31), (.ref sa30), (.ref b29), (.ref b29)])) rfl (by rw [hml]; rfl) (Steps.refl _) (a := b29) (argsL := [(.ref sa30), (.ref sa31), (.ref w_USER), (.ref sa32), (.ref sa33), (.int (0 : Int32)), .null, (.int (0 : Int32)), .null, .null, (.int (0 : Int32))]) (rest := [(.ref b29)]) (lenOf pd__Ljava_lang_String_Ljava_lang_String_Lcom_example_wellness_on_record_wellnessonrecord_apps_App_Kind_Ljava_lang_String_Ljava_lang_String_ZLjava_lang_String_ZLjava_lang_String_Ljava_lang_String_Z_V rfl) rfl (by show 2 * 0 + _ ≤ _; exact Nat.le_of_eq rfl) (hb hby at_190) (fun _ _ => ⟨rfl, e33, (by decide : 12 + 0 ≤ _), (by decide : 90 + 0 ≤ _)⟩)
        dsimp only [Pt.U, Pt.locs, Pt.cells, Pt.slots] at X34 l34 y34 z34 st34 hQ34
        subst l34 y34 z34
        obtain ⟨rfl, N34q, K34q, Eq34, Fk34⟩ := hQ34
        have N34 := Fr.app N12 N34q
        refine GoH.tr st34 ?_
        have V_b5 := V_b5.keep K34q (ninS ne_b5_b29 nin0)
        have V_b8 := V_b8.keep K34q (ninS ne_b8_b29 nin0)
        have V_b13 := V_b13.keep K34q (ninS ne_b13_b29 nin0)
        have E_b29 := E_b29.keep K34q
        have sfw34 := (sfS Sf_b29 sf0)
        have Sf_b5 := Safe.keep K34q sfw34 HH Sf_b5
        have Sf_b8 := Safe.keep K34q sfw34 HH Sf_b8
        have Sf_b13 := Safe.keep K34q sfw34 HH Sf_b13
        have Sf_b29 := Safe.keep K34q sfw34 HH Sf_b29
        have RR := RR.trans (CHr.keep K34q sfw34 HH)
        have HH := HH.keep K34q sfw34
        have hk := Nat.le_trans hk K34q.1
        have O := O.keep K34q (allS g_b29 all0)
        have KK := KK.trans K34q (allS (Or.inr sz_b29) all0)
        have E_b29 := Eq34
        show GoH _ _ _ _ _ _ _ _ _ _  T34 (mkF m 193 #[.val (.int p1), .val (.int p2), .val (.int p3), .val (.int p4), .val (.int (0 : Int32)), .val (.int (0 : Int32)), .val (.int f6), .val (.int (1 : Int32)), .val (.ref b5), .val (.ref b8), .val (.ref b13), .val .null, .val .null, .val (.ref w_USER), .unset, .unset, .unset, .unset, .unset] [(.ref b29)])
        refine GoH.st (fun t k => XS.astore X34.here hx rfl (hb hby at_193) rfl rfl (l' := #[.val (.int p1), .val (.int p2), .val (.int p3), .val (.int p4), .val (.int (0 : Int32)), .val (.int (0 : Int32)), .val (.int f6), .val (.int (1 : Int32)), .val (.ref b5), .val (.ref b8), .val (.ref b13), .val .null, .val .null, .val (.ref w_USER), .val (.ref b29), .unset, .unset, .unset, .unset]) rfl k) ?_
        show GoH _ _ _ _ _ _ _ _ _ _  T34 (mkF m 195 #[.val (.int p1), .val (.int p2), .val (.int p3), .val (.int p4), .val (.int (0 : Int32)), .val (.int (0 : Int32)), .val (.int f6), .val (.int (1 : Int32)), .val (.ref b5), .val (.ref b8), .val (.ref b13), .val .null, .val .null, .val (.ref w_USER), .val (.ref b29), .unset, .unset, .unset, .unset] [])
        obtain ⟨T35, h35, X35, e35, E35, A35, D35, -, st35⟩ := newO X34 hx hZ hown (hw _ (List.mem_of_getElem? (i := 73) rfl)) (hw _ (List.mem_of_getElem? (i := 74) rfl)) (hw _ (List.mem_of_getElem? (i := 75) rfl)) rfl (g := (mkF m 195 #[.val (.int p1), .val (.int p2), .val (.int p3), .val (.int p4), .val (.int (0 : Int32)), .val (.int (0 : Int32)), .val (.int f6), .val (.int (1 : Int32)), .val (.ref b5), .val (.ref b8), .val (.ref b13), .val .null, .val .null, .val (.ref w_USER), .val (.ref b29), .unset, .unset, .unset, .unset] [])) rfl (hb hby at_195) (by decide) (by decide)
        obtain ⟨b35, g35⟩ : ∃ z, z = T34.heap.size := ⟨_, rfl⟩
        rw [← g35] at A35 D35 st35
        refine GoH.st st35 ?_
        have g_b35 : n0 ≤ b35 := by rw [g35]; exact own_le O
        have Sf_b35 : Safe Z EL T33.vm T34.heap b35 := Safe.new (Nat.le_of_eq g35.symm)
        have sz_b35 : h0.size ≤ b35 := by rw [g35]; exact KK.1
        have ne_b5_b35 : b5 ≠ b35 := Nat.ne_of_lt (by rw [g35]; exact V_b5.lt)
        have ne_b8_b35 : b8 ≠ b35 := Nat.ne_of_lt (by rw [g35]; exact V_b8.lt)
        have ne_b13_b35 : b13 ≠ b35 := Nat.ne_of_lt (by rw [g35]; exact V_b13.lt)
        have ne_b29_b35 : b29 ≠ b35 := Nat.ne_of_lt (by rw [g35]; exact E_b29.lt)
        have V_b5 := V_b5.ext E35
        have V_b8 := V_b8.ext E35
        have V_b13 := V_b13.ext E35
        have E_b29 := E_b29.ext E35
        have Fk34 := Fk34.ext E35
        have Sf_b5 := Safe.ext E35 HH Sf_b5
        have Sf_b8 := Safe.ext E35 HH Sf_b8
        have Sf_b13 := Safe.ext E35 HH Sf_b13
        have Sf_b29 := Safe.ext E35 HH Sf_b29
        have Sf_b35 := Safe.ext E35 HH Sf_b35
        have RR := RR.trans (CHr.ext E35 HH)
        have HH := HH.ext E35
        have hk := Nat.le_trans hk E35.1
        have O := O.ext E35
        have KK := KK.ext E35
        have E_b35 := A35
        have F_app_b35 : Fld Z h35 b35 "com/example/wellness_on_record/wellnessonrecord/oauth/Principal" "app" "Lcom/example/wellness_on_record/wellnessonrecord/apps/App;" .null := D35 (Or.inr (hw _ (List.mem_of_getElem? (i := 81) rfl))) (ty := (.object "com/example/wellness_on_record/wellnessonrecord/apps/App")) (by decide)
        have F_recordId_b35 : Fld Z h35 b35 "com/example/wellness_on_record/wellnessonrecord/oauth/Principal" "recordId" "Ljava/lang/String;" .null := D35 (Or.inr (hw _ (List.mem_of_getElem? (i := 83) rfl))) (ty := (.object "java/lang/String")) (by decide)
        have F_requestToken_b35 : Fld Z h35 b35 "com/example/wellness_on_record/wellnessonrecord/oauth/Principal" "requestToken" "Ljava/lang/String;" .null := D35 (Or.inr (hw _ (List.mem_of_getElem? (i := 85) rfl))) (ty := (.object "java/lang/String")) (by decide)
        show GoH _ _ _ _ _ _ _ _ _ _  T35 (mkF m 198 #[.val (.int p1), .val (.int p2), .val (.int p3), .val (.int p4), .val (.int (0 : Int32)), .val (.int (0 : Int32)), .val (.int f6), .val (.int (1 : Int32)), .val (.ref b5), .val (.ref b8), .val (.ref b13), .val .null, .val .null, .val (.ref w_USER), .val (.ref b29), .unset, .unset, .unset, .unset] [(.ref b35)])
        refine GoH.st (fun t k => XS.dup X35.here hx rfl (hb hby at_198) rfl rfl k) ?_
        show GoH _ _ _ _ _ _ _ _ _ _  T35 (mkF m 199 #[.val (.int p1), .val (.int p2), .val (.int p3), .val (.int p4), .val (.int (0 : Int32)), .val (.int (0 : Int32)), .val (.int f6), .val (.int (1 : Int32)), .val (.ref b5), .val (.ref b8), .val (.ref b13), .val .null, .val .null, .val (.ref w_USER), .val (.ref b29), .unset, .unset, .unset, .unset] [(.ref b35), (.ref b35)])
        refine GoH.st (fun t k => XS.aload X35.here hx rfl (hb hby at_199) rfl rfl  k) ?_
        show GoH _ _ _ _ _ _ _ _ _ _  T35 (mkF m 201 #[.val (.int p1), .val (.int p2), .val (.int p3), .val (.int p4), .val (.int (0 : Int32)), .val (.int (0 : Int32)), .val (.int f6), .val (.int (1 : Int32)), .val (.ref b5), .val (.ref b8), .val (.ref b13), .val .null, .val .null, .val (.ref w_USER), .val (.ref b29), .unset, .unset, .unset, .unset] [(.ref b29), (.ref b35), (.ref b35)])
        refine GoH.st (fun t k => XS.aload X35.here hx rfl (hb hby at_201) rfl rfl  k) ?_
        show GoH _ _ _ _ _ _ _ _ _ _  T35 (mkF m 203 #[.val (.int p1), .val (.int p2), .val (.int p3), .val (.int p4), .val (.int (0 : Int32)), .val (.int (0 : Int32)), .val (.int f6), .val (.int (1 : Int32)), .val (.ref b5), .val (.ref b8), .val (.ref b13), .val .null, .val .null, .val (.ref w_USER), .val (.ref b29), .unset, .unset, .unset, .unset] [.null, (.ref b29), (.ref b35), (.ref b35)])
        refine GoH.st (fun t k => XS.aload X35.here hx rfl (hb hby at_203) rfl rfl  k) ?_
        show GoH _ _ _ _ _ _ _ _ _ _  T35 (mkF m 205 #[.val (.int p1), .val (.int p2), .val (.int p3), .val (.int p4), .val (.int (0 : Int32)), .val (.int (0 : Int32)), .val (.int f6), .val (.int (1 : Int32)), .val (.ref b5), .val (.ref b8), .val (.ref b13), .val .null, .val .null, .val (.ref w_USER), .val (.ref b29), .unset, .unset, .unset, .unset] [.null, .null, (.ref b29), (.ref b35), (.ref b35)])
        obtain ⟨_, _, ⟨T36, L36, k36, n36⟩, -, X36, ⟨Lc36, hQ36, l36, y36, z36⟩, st36⟩ := X35.specialBack hx (y := (⟨"com/example/wellness_on_record/wellnessonrecord/oauth/Principal", "<init>", "(Lcom/example/wellness_on_record/wellnessonrecord/apps/App;Ljava/lang/String;Ljava/lang/String;)V"⟩ : MethodName)) rfl hown (mvT hZ (hw _ (List.mem_of_getElem? (i := 76) rfl))) (mvT hZ (hw _ (List.mem_of_getElem? (i := 77) rfl))) (mvT hZ (hw _ (List.mem_of_getElem? (i := 78) rfl))) (by decide) (backOf (W := 1) (rmP l Z a0 hw [] b35 b29 .null .null h35 n0 O E_b35 F_app_b35 F_recordId_b35 F_requestToken_b35 g_b35 rfl rfl) hZ (hw _ (List.mem_of_getElem? (i := 78) rfl)) (hw _ (List.mem_of_getElem? (i := 75) rfl)) (by decide) (by decide)) (g := (mkF m 205 #[.val (.int p1), .val (.int p2), .val (.int p3), .val (.int p4), .val (.int (0 : Int32)), .val (.int (0 : Int32)), .val (.int f6), .val (.int (1 : Int32)), .val (.ref b5), .val (.ref b8), .val (.ref b13), .val .null, .val .null, .val (.ref w_USER), .val (.ref b29), .unset, .unset, .unset, .unset] [.null, .null, (.ref b29), (.ref b35), (.ref b35)])) rfl (by rw [hml]; rfl) (Steps.refl _) (a := b35) (argsL := [(.ref b29), .null, .null]) (rest := [(.ref b35)]) (lenOf pd__Lcom_example_wellness_on_record_wellnessonrecord_apps_App_Ljava_lang_String_Ljava_lang_String__V rfl) rfl (by show 2 * 0 + _ ≤ _; exact Nat.le_of_eq rfl) (hb hby at_205) (fun _ _ => ⟨rfl, e35, (by decide : 13 + 0 ≤ _), (by decide : 93 + 0 ≤ _)⟩)
        dsimp only [Pt.U, Pt.locs, Pt.cells, Pt.slots] at X36 l36 y36 z36 st36 hQ36
        subst l36 y36 z36
        obtain ⟨rfl, N36q, K36q, Eq36, Fa36, Fr36, Ft36⟩ := hQ36
        have N36 := Fr.app N34 N36q
        refine GoH.tr st36 ?_
        have V_b5 := V_b5.keep K36q (ninS ne_b5_b35 nin0)
        have V_b8 := V_b8.keep K36q (ninS ne_b8_b35 nin0)
        have V_b13 := V_b13.keep K36q (ninS ne_b13_b35 nin0)
        have E_b29 := E_b29.keep K36q
        have Fk34 := Fk34.keep K36q (ninS ne_b29_b35 nin0)
        have E_b35 := E_b35.keep K36q
        have sfw36 := (sfS Sf_b35 sf0)
        have Sf_b5 := Safe.keep K36q sfw36 HH Sf_b5
        have Sf_b8 := Safe.keep K36q sfw36 HH Sf_b8
        have Sf_b13 := Safe.keep K36q sfw36 HH Sf_b13
        have Sf_b29 := Safe.keep K36q sfw36 HH Sf_b29
        have Sf_b35 := Safe.keep K36q sfw36 HH Sf_b35
        have RR := RR.trans (CHr.keep K36q sfw36 HH)
        have HH := HH.keep K36q sfw36
        have hk := Nat.le_trans hk K36q.1
        have O := O.keep K36q (allS g_b35 all0)
        have KK := KK.trans K36q (allS (Or.inr sz_b35) all0)
        have E_b35 := Eq36
        show GoH _ _ _ _ _ _ _ _ _ _  T36 (mkF m 208 #[.val (.int p1), .val (.int p2), .val (.int p3), .val (.int p4), .val (.int (0 : Int32)), .val (.int (0 : Int32)), .val (.int f6), .val (.int (1 : Int32)), .val (.ref b5), .val (.ref b8), .val (.ref b13), .val .null, .val .null, .val (.ref w_USER), .val (.ref b29), .unset, .unset, .unset, .unset] [(.ref b35)])
        refine GoH.st (fun t k => XS.astore X36.here hx rfl (hb hby at_208) rfl rfl (l' := #[.val (.int p1), .val (.int p2), .val (.int p3), .val (.int p4), .val (.int (0 : Int32)), .val (.int (0 : Int32)), .val (.int f6), .val (.int (1 : Int32)), .val (.ref b5), .val (.ref b8), .val (.ref b13), .val .null, .val .null, .val (.ref w_USER), .val (.ref b29), .val (.ref b35), .unset, .unset, .unset]) rfl k) ?_
        show GoH _ _ _ _ _ _ _ _ _ _  T36 (mkF m 210 #[.val (.int p1), .val (.int p2), .val (.int p3), .val (.int p4), .val (.int (0 : Int32)), .val (.int (0 : Int32)), .val (.int f6), .val (.int (1 : Int32)), .val (.ref b5), .val (.ref b8), .val (.ref b13), .val .null, .val .null, .val (.ref w_USER), .val (.ref b29), .val (.ref b35), .unset, .unset, .unset] [])
        refine GoH.st (fun t k => XS.aload X36.here hx rfl (hb hby at_210) rfl rfl  k) ?_
        show GoH _ _ _ _ _ _ _ _ _ _  T36 (mkF m 212 #[.val (.int p1), .val (.int p2), .val (.int p3), .val (.int p4), .val (.int (0 : Int32)), .val (.int (0 : Int32)), .val (.int f6), .val (.int (1 : Int32)), .val (.ref b5), .val (.ref b8), .val (.ref b13), .val .null, .val .null, .val (.ref w_USER), .val (.ref b29), .val (.ref b35), .unset, .unset, .unset] [(.ref b35)])
        obtain ⟨cq37, kq37, q37a, q37b, q37c⟩ := isOf hZ rfl E_b35
        obtain ⟨_, _, ⟨T37, L37, k37, n37⟩, -, X37, ⟨Lc37, hQ37, l37, y37, z37⟩, st37⟩ := X36.virtualBack hx (y := (⟨"com/example/wellness_on_record/wellnessonrecord/oauth/Principal", "holdsRequestToken", "()Z"⟩ : MethodName)) (z := (⟨"com/example/wellness_on_record/wellnessonrecord/oauth/Principal", "holdsRequestToken", "()Z"⟩ : MethodName)) hown (mvT hZ (hw _ (List.mem_of_getElem? (i := 86) rfl))) (mvT hZ (hw _ (List.mem_of_getElem? (i := 87) rfl))) (notFace_of_selects (args := #[]) (mvT hZ (hw _ (List.mem_of_getElem? (i := 89) rfl)))) (mvT hZ (hw _ (List.mem_of_getElem? (i := 89) rfl))) (mvT hZ (hw _ (List.mem_of_getElem? (i := 88) rfl))) (by decide) (backOf (W := 0) (rmH l Z a0 hw [] b35 .null T36.heap n0 O Ft36 rfl) hZ (hw _ (List.mem_of_getElem? (i := 90) rfl)) (hw _ (List.mem_of_getElem? (i := 75) rfl)) (by decide) (by decide)) q37a q37c (g := (mkF m 212 #[.val (.int p1), .val (.int p2), .val (.int p3), .val (.int p4), .val (.int (0 : Int32)), .val (.int (0 : Int32)), .val (.int f6), .val (.int (1 : Int32)), .val (.ref b5), .val (.ref b8), .val (.ref b13), .val .null, .val .null, .val (.ref w_USER), .val (.ref b29), .val (.ref b35), .unset, .unset, .unset] [(.ref b35)])) rfl (by rw [hml]; rfl) (Steps.refl _) (argsL := []) (rest := []) (lenOf pd___Z rfl) rfl (by show 2 * 0 + _ ≤ _; exact Nat.le_of_eq rfl) (hb hby at_212) (fun _ _ => ⟨rfl, rfl, (by decide : 13 + 0 ≤ _), (by decide : 93 + 0 ≤ _)⟩)
        dsimp only [Pt.U, Pt.locs, Pt.cells, Pt.slots] at X37 l37 y37 z37 st37 hQ37
        subst l37 y37 z37
        obtain ⟨rfl, N37q, e37q⟩ := hQ37
        have N37 := Fr.app N36 N37q
        refine GoH.tr st37 ?_
        rw [show (if .null = Value.null then (0 : Int32) else 1) = (0 : Int32) from by simp]
        show GoH _ _ _ _ _ _ _ _ _ _  T37 (mkF m 215 #[.val (.int p1), .val (.int p2), .val (.int p3), .val (.int p4), .val (.int (0 : Int32)), .val (.int (0 : Int32)), .val (.int f6), .val (.int (1 : Int32)), .val (.ref b5), .val (.ref b8), .val (.ref b13), .val .null, .val .null, .val (.ref w_USER), .val (.ref b29), .val (.ref b35), .unset, .unset, .unset] [(.int (0 : Int32))])
        refine GoH.st (fun t k => XS.istore X37.here hx rfl (hb hby at_215) rfl (l' := #[.val (.int p1), .val (.int p2), .val (.int p3), .val (.int p4), .val (.int (0 : Int32)), .val (.int (0 : Int32)), .val (.int f6), .val (.int (1 : Int32)), .val (.ref b5), .val (.ref b8), .val (.ref b13), .val .null, .val .null, .val (.ref w_USER), .val (.ref b29), .val (.ref b35), .val (.int (0 : Int32)), .unset, .unset]) rfl k) ?_
        show GoH _ _ _ _ _ _ _ _ _ _  T37 (mkF m 217 #[.val (.int p1), .val (.int p2), .val (.int p3), .val (.int p4), .val (.int (0 : Int32)), .val (.int (0 : Int32)), .val (.int f6), .val (.int (1 : Int32)), .val (.ref b5), .val (.ref b8), .val (.ref b13), .val .null, .val .null, .val (.ref w_USER), .val (.ref b29), .val (.ref b35), .val (.int (0 : Int32)), .unset, .unset] [])
        refine GoH.st (fun t k => XS.iload X37.here hx rfl (hb hby at_217) rfl  k) ?_
        show GoH _ _ _ _ _ _ _ _ _ _  T37 (mkF m 219 #[.val (.int p1), .val (.int p2), .val (.int p3), .val (.int p4), .val (.int (0 : Int32)), .val (.int (0 : Int32)), .val (.int f6), .val (.int (1 : Int32)), .val (.ref b5), .val (.ref b8), .val (.ref b13), .val .null, .val .null, .val (.ref w_USER), .val (.ref b29), .val (.ref b35), .val (.int (0 : Int32)), .unset, .unset] [(.int (0 : Int32))])
        refine GoH.st (fun t k => XS.iload X37.here hx rfl (hb hby at_219) rfl  k) ?_
        show GoH _ _ _ _ _ _ _ _ _ _  T37 (mkF m 221 #[.val (.int p1), .val (.int p2), .val (.int p3), .val (.int p4), .val (.int (0 : Int32)), .val (.int (0 : Int32)), .val (.int f6), .val (.int (1 : Int32)), .val (.ref b5), .val (.ref b8), .val (.ref b13), .val .null, .val .null, .val (.ref w_USER), .val (.ref b29), .val (.ref b35), .val (.int (0 : Int32)), .unset, .unset] [(.int (0 : Int32)), (.int (0 : Int32))])
        refine GoH.st (fun t k => XS.icmpYes X37.here hx rfl (pc0 := 221) (pc' := 226) rfl (hb hby at_221) rfl (teq (rfl : (0 : Int32) = (0 : Int32))).1 (by decide) (by decide) k) ?_
        show GoH _ _ _ _ _ _ _ _ _ _  T37 (mkF m 226 #[.val (.int p1), .val (.int p2), .val (.int p3), .val (.int p4), .val (.int (0 : Int32)), .val (.int (0 : Int32)), .val (.int f6), .val (.int (1 : Int32)), .val (.ref b5), .val (.ref b8), .val (.ref b13), .val .null, .val .null, .val (.ref w_USER), .val (.ref b29), .val (.ref b35), .val (.int (0 : Int32)), .unset, .unset] [])
        refine GoH.st (fun t k => XS.aload X37.here hx rfl (hb hby at_226) rfl rfl  k) ?_
        show GoH _ _ _ _ _ _ _ _ _ _  T37 (mkF m 228 #[.val (.int p1), .val (.int p2), .val (.int p3), .val (.int p4), .val (.int (0 : Int32)), .val (.int (0 : Int32)), .val (.int f6), .val (.int (1 : Int32)), .val (.ref b5), .val (.ref b8), .val (.ref b13), .val .null, .val .null, .val (.ref w_USER), .val (.ref b29), .val (.ref b35), .val (.int (0 : Int32)), .unset, .unset] [(.ref b35)])
        obtain ⟨cq38, kq38, q38a, q38b, q38c⟩ := isOf hZ e37q E_b35
        obtain ⟨_, _, ⟨T38, L38, k38, n38⟩, -, X38, ⟨Lc38, hQ38, l38, y38, z38⟩, st38⟩ := X37.virtualBack hx (y := (⟨"com/example/wellness_on_record/wellnessonrecord/oauth/Principal", "isUserAppAlone", "()Z"⟩ : MethodName)) (z := (⟨"com/example/wellness_on_record/wellnessonrecord/oauth/Principal", "isUserAppAlone", "()Z"⟩ : MethodName)) hown (mvT hZ (hw _ (List.mem_of_getElem? (i := 91) rfl))) (mvT hZ (hw _ (List.mem_of_getElem? (i := 92) rfl))) (notFace_of_selects (args := #[]) (mvT hZ (hw _ (List.mem_of_getElem? (i := 94) rfl)))) (mvT hZ (hw _ (List.mem_of_getElem? (i := 94) rfl))) (mvT hZ (hw _ (List.mem_of_getElem? (i := 93) rfl))) (by decide) (backOf (W := 0) (rmU l Z a0 hw [] b35 b29 w_USER .null .null w_USER T36.heap n0 O Fa36 Fr36 Ft36 rfl rfl Fk34 E_b35 E_b29 S_USER) hZ (hw _ (List.mem_of_getElem? (i := 95) rfl)) (hw _ (List.mem_of_getElem? (i := 75) rfl)) (by decide) (by decide)) q38a q38c (g := (mkF m 228 #[.val (.int p1), .val (.int p2), .val (.int p3), .val (.int p4), .val (.int (0 : Int32)), .val (.int (0 : Int32)), .val (.int f6), .val (.int (1 : Int32)), .val (.ref b5), .val (.ref b8), .val (.ref b13), .val .null, .val .null, .val (.ref w_USER), .val (.ref b29), .val (.ref b35), .val (.int (0 : Int32)), .unset, .unset] [(.ref b35)])) rfl (by rw [hml]; rfl) (Steps.refl _) (argsL := []) (rest := []) (lenOf pd___Z rfl) rfl (by show 2 * 0 + _ ≤ _; exact Nat.le_of_eq rfl) (hb hby at_228) (fun _ _ => ⟨rfl, e37q, (by decide : 13 + 0 ≤ _), (by decide : 93 + 0 ≤ _)⟩)
        dsimp only [Pt.U, Pt.locs, Pt.cells, Pt.slots] at X38 l38 y38 z38 st38 hQ38
        subst l38 y38 z38
        obtain ⟨rfl, N38q, e38q⟩ := hQ38
        have N38 := Fr.app N37 N38q
        refine GoH.tr st38 ?_
        rw [show (if w_USER = w_USER then (if .null = Value.null then (if .null = Value.null then (1 : Int32) else 0) else 0) else 0) = (1 : Int32) from by simp [nAU]]
        show GoH _ _ _ _ _ _ _ _ _ _  T38 (mkF m 231 #[.val (.int p1), .val (.int p2), .val (.int p3), .val (.int p4), .val (.int (0 : Int32)), .val (.int (0 : Int32)), .val (.int f6), .val (.int (1 : Int32)), .val (.ref b5), .val (.ref b8), .val (.ref b13), .val .null, .val .null, .val (.ref w_USER), .val (.ref b29), .val (.ref b35), .val (.int (0 : Int32)), .unset, .unset] [(.int (1 : Int32))])
        refine GoH.st (fun t k => XS.istore X38.here hx rfl (hb hby at_231) rfl (l' := #[.val (.int p1), .val (.int p2), .val (.int p3), .val (.int p4), .val (.int (0 : Int32)), .val (.int (0 : Int32)), .val (.int f6), .val (.int (1 : Int32)), .val (.ref b5), .val (.ref b8), .val (.ref b13), .val .null, .val .null, .val (.ref w_USER), .val (.ref b29), .val (.ref b35), .val (.int (0 : Int32)), .val (.int (1 : Int32)), .unset]) rfl k) ?_
        show GoH _ _ _ _ _ _ _ _ _ _  T38 (mkF m 233 #[.val (.int p1), .val (.int p2), .val (.int p3), .val (.int p4), .val (.int (0 : Int32)), .val (.int (0 : Int32)), .val (.int f6), .val (.int (1 : Int32)), .val (.ref b5), .val (.ref b8), .val (.ref b13), .val .null, .val .null, .val (.ref w_USER), .val (.ref b29), .val (.ref b35), .val (.int (0 : Int32)), .val (.int (1 : Int32)), .unset] [])
        refine GoH.st (fun t k => XS.iload X38.here hx rfl (hb hby at_233) rfl  k) ?_
        show GoH _ _ _ _ _ _ _ _ _ _  T38 (mkF m 235 #[.val (.int p1), .val (.int p2), .val (.int p3), .val (.int p4), .val (.int (0 : Int32)), .val (.int (0 : Int32)), .val (.int f6), .val (.int (1 : Int32)), .val (.ref b5), .val (.ref b8), .val (.ref b13), .val .null, .val .null, .val (.ref w_USER), .val (.ref b29), .val (.ref b35), .val (.int (0 : Int32)), .val (.int (1 : Int32)), .unset] [(.int (0 : Int32))])
        refine GoH.st (fun t k => XS.ifNo X38.here hx rfl (hb hby at_235) rfl ((if0 _ _).trans (teq (rfl : (0 : Int32) = (0 : Int32))).2) k) ?_
        show GoH _ _ _ _ _ _ _ _ _ _  T38 (mkF m 238 #[.val (.int p1), .val (.int p2), .val (.int p3), .val (.int p4), .val (.int (0 : Int32)), .val (.int (0 : Int32)), .val (.int f6), .val (.int (1 : Int32)), .val (.ref b5), .val (.ref b8), .val (.ref b13), .val .null, .val .null, .val (.ref w_USER), .val (.ref b29), .val (.ref b35), .val (.int (0 : Int32)), .val (.int (1 : Int32)), .unset] [])
        refine GoH.st (fun t k => XS.iload X38.here hx rfl (hb hby at_238) rfl  k) ?_
        show GoH _ _ _ _ _ _ _ _ _ _  T38 (mkF m 240 #[.val (.int p1), .val (.int p2), .val (.int p3), .val (.int p4), .val (.int (0 : Int32)), .val (.int (0 : Int32)), .val (.int f6), .val (.int (1 : Int32)), .val (.ref b5), .val (.ref b8), .val (.ref b13), .val .null, .val .null, .val (.ref w_USER), .val (.ref b29), .val (.ref b35), .val (.int (0 : Int32)), .val (.int (1 : Int32)), .unset] [(.int (0 : Int32))])
        refine GoH.st (fun t k => XS.ifNo X38.here hx rfl (hb hby at_240) rfl ((if0 _ _).trans (teq (rfl : (0 : Int32) = (0 : Int32))).2) k) ?_
        show GoH _ _ _ _ _ _ _ _ _ _  T38 (mkF m 243 #[.val (.int p1), .val (.int p2), .val (.int p3), .val (.int p4), .val (.int (0 : Int32)), .val (.int (0 : Int32)), .val (.int f6), .val (.int (1 : Int32)), .val (.ref b5), .val (.ref b8), .val (.ref b13), .val .null, .val .null, .val (.ref w_USER), .val (.ref b29), .val (.ref b35), .val (.int (0 : Int32)), .val (.int (1 : Int32)), .unset] [])
        refine GoH.st (fun t k => XS.iload X38.here hx rfl (hb hby at_243) rfl  k) ?_
        show GoH _ _ _ _ _ _ _ _ _ _  T38 (mkF m 245 #[.val (.int p1), .val (.int p2), .val (.int p3), .val (.int p4), .val (.int (0 : Int32)), .val (.int (0 : Int32)), .val (.int f6), .val (.int (1 : Int32)), .val (.ref b5), .val (.ref b8), .val (.ref b13), .val .null, .val .null, .val (.ref w_USER), .val (.ref b29), .val (.ref b35), .val (.int (0 : Int32)), .val (.int (1 : Int32)), .unset] [(.int (1 : Int32))])
        refine GoH.st (fun t k => XS.ifNo X38.here hx rfl (hb hby at_245) rfl ((if0 _ _).trans (feq (by decide : ¬ ((1 : Int32) = (0 : Int32)))).1) k) ?_
        show GoH _ _ _ _ _ _ _ _ _ _  T38 (mkF m 248 #[.val (.int p1), .val (.int p2), .val (.int p3), .val (.int p4), .val (.int (0 : Int32)), .val (.int (0 : Int32)), .val (.int f6), .val (.int (1 : Int32)), .val (.ref b5), .val (.ref b8), .val (.ref b13), .val .null, .val .null, .val (.ref w_USER), .val (.ref b29), .val (.ref b35), .val (.int (0 : Int32)), .val (.int (1 : Int32)), .unset] [])
        refine GoH.st (fun t k => XS.iconst X38.here hx rfl (hb hby at_248) k) ?_
        show GoH _ _ _ _ _ _ _ _ _ _  T38 (mkF m 249 #[.val (.int p1), .val (.int p2), .val (.int p3), .val (.int p4), .val (.int (0 : Int32)), .val (.int (0 : Int32)), .val (.int f6), .val (.int (1 : Int32)), .val (.ref b5), .val (.ref b8), .val (.ref b13), .val .null, .val .null, .val (.ref w_USER), .val (.ref b29), .val (.ref b35), .val (.int (0 : Int32)), .val (.int (1 : Int32)), .unset] [(.int (1 : Int32))])
        refine GoH.st (fun t k => XS.goto X38.here hx rfl (pc0 := 249) (pc' := 253) rfl (hb hby at_249) (by decide) (by decide) k) ?_
        show GoH _ _ _ _ _ _ _ _ _ _  T38 (mkF m 253 #[.val (.int p1), .val (.int p2), .val (.int p3), .val (.int p4), .val (.int (0 : Int32)), .val (.int (0 : Int32)), .val (.int f6), .val (.int (1 : Int32)), .val (.ref b5), .val (.ref b8), .val (.ref b13), .val .null, .val .null, .val (.ref w_USER), .val (.ref b29), .val (.ref b35), .val (.int (0 : Int32)), .val (.int (1 : Int32)), .unset] [(.int (1 : Int32))])
        refine GoH.st (fun t k => XS.istore X38.here hx rfl (hb hby at_253) rfl (l' := #[.val (.int p1), .val (.int p2), .val (.int p3), .val (.int p4), .val (.int (0 : Int32)), .val (.int (0 : Int32)), .val (.int f6), .val (.int (1 : Int32)), .val (.ref b5), .val (.ref b8), .val (.ref b13), .val .null, .val .null, .val (.ref w_USER), .val (.ref b29), .val (.ref b35), .val (.int (0 : Int32)), .val (.int (1 : Int32)), .val (.int (1 : Int32))]) rfl k) ?_
        show GoH _ _ _ _ _ _ _ _ _ _  T38 (mkF m 255 #[.val (.int p1), .val (.int p2), .val (.int p3), .val (.int p4), .val (.int (0 : Int32)), .val (.int (0 : Int32)), .val (.int f6), .val (.int (1 : Int32)), .val (.ref b5), .val (.ref b8), .val (.ref b13), .val .null, .val .null, .val (.ref w_USER), .val (.ref b29), .val (.ref b35), .val (.int (0 : Int32)), .val (.int (1 : Int32)), .val (.int (1 : Int32))] [])
        refine GoH.st (fun t k => XS.iload X38.here hx rfl (hb hby at_255) rfl  k) ?_
        show GoH _ _ _ _ _ _ _ _ _ _  T38 (mkF m 257 #[.val (.int p1), .val (.int p2), .val (.int p3), .val (.int p4), .val (.int (0 : Int32)), .val (.int (0 : Int32)), .val (.int f6), .val (.int (1 : Int32)), .val (.ref b5), .val (.ref b8), .val (.ref b13), .val .null, .val .null, .val (.ref w_USER), .val (.ref b29), .val (.ref b35), .val (.int (0 : Int32)), .val (.int (1 : Int32)), .val (.int (1 : Int32))] [(.int (1 : Int32))])
        refine GoH.st (fun t k => XS.iload X38.here hx rfl (hb hby at_257) rfl  k) ?_
        show GoH _ _ _ _ _ _ _ _ _ _  T38 (mkF m 259 #[.val (.int p1), .val (.int p2), .val (.int p3), .val (.int p4), .val (.int (0 : Int32)), .val (.int (0 : Int32)), .val (.int f6), .val (.int (1 : Int32)), .val (.ref b5), .val (.ref b8), .val (.ref b13), .val .null, .val .null, .val (.ref w_USER), .val (.ref b29), .val (.ref b35), .val (.int (0 : Int32)), .val (.int (1 : Int32)), .val (.int (1 : Int32))] [(.int (1 : Int32)), (.int (1 : Int32))])
        refine GoH.st (fun t k => XS.icmpNo X38.here hx rfl (hb hby at_259) rfl (teq (rfl : (1 : Int32) = (1 : Int32))).2 k) ?_
        show GoH _ _ _ _ _ _ _ _ _ _  T38 (mkF m 262 #[.val (.int p1), .val (.int p2), .val (.int p3), .val (.int p4), .val (.int (0 : Int32)), .val (.int (0 : Int32)), .val (.int f6), .val (.int (1 : Int32)), .val (.ref b5), .val (.ref b8), .val (.ref b13), .val .null, .val .null, .val (.ref w_USER), .val (.ref b29), .val (.ref b35), .val (.int (0 : Int32)), .val (.int (1 : Int32)), .val (.int (1 : Int32))] [])
        refine GoH.st (fun t k => XS.iconst X38.here hx rfl (hb hby at_262) k) ?_
        show GoH _ _ _ _ _ _ _ _ _ _  T38 (mkF m 263 #[.val (.int p1), .val (.int p2), .val (.int p3), .val (.int p4), .val (.int (0 : Int32)), .val (.int (0 : Int32)), .val (.int f6), .val (.int (1 : Int32)), .val (.ref b5), .val (.ref b8), .val (.ref b13), .val .null, .val .null, .val (.ref w_USER), .val (.ref b29), .val (.ref b35), .val (.int (0 : Int32)), .val (.int (1 : Int32)), .val (.int (1 : Int32))] [(.int (1 : Int32))])
        refine GoH.st (fun t k => XS.goto X38.here hx rfl (pc0 := 263) (pc' := 267) rfl (hb hby at_263) (by decide) (by decide) k) ?_
        show GoH _ _ _ _ _ _ _ _ _ _  T38 (mkF m 267 #[.val (.int p1), .val (.int p2), .val (.int p3), .val (.int p4), .val (.int (0 : Int32)), .val (.int (0 : Int32)), .val (.int f6), .val (.int (1 : Int32)), .val (.ref b5), .val (.ref b8), .val (.ref b13), .val .null, .val .null, .val (.ref w_USER), .val (.ref b29), .val (.ref b35), .val (.int (0 : Int32)), .val (.int (1 : Int32)), .val (.int (1 : Int32))] [(.int (1 : Int32))])
        refine GoH.retN X38 hS hk e38q hZ hEL HH RR hlk hx (t := .boolean) (z' := (1 : Int32)) Bd.returns (by simp) (hb hby at_267) (by decide) (by decide) rfl ?_
        show Q_rm0 Z _ _ _ _ _ _ _ h0 n0 _ T38.heap _
        rw [e38q]
        exact ⟨rfl, N38⟩
    · rw [sp15]
      show GoH _ _ _ _ _ _ _ _ _ _  T13 (mkF m 121 #[.val (.int p1), .val (.int p2), .val (.int p3), .val (.int p4), .val (.int (0 : Int32)), .val (.int (1 : Int32)), .val (.int f6), .val (.int f7), .val (.ref b5), .val (.ref b8), .val (.ref b13), .val .null, .val .null, .unset, .unset, .unset, .unset, .unset, .unset] [])
      refine GoH.st (fun t k => XS.iload X13.here hx rfl (hb hby at_121) rfl  k) ?_
      show GoH _ _ _ _ _ _ _ _ _ _  T13 (mkF m 123 #[.val (.int p1), .val (.int p2), .val (.int p3), .val (.int p4), .val (.int (0 : Int32)), .val (.int (1 : Int32)), .val (.int f6), .val (.int f7), .val (.ref b5), .val (.ref b8), .val (.ref b13), .val .null, .val .null, .unset, .unset, .unset, .unset, .unset, .unset] [(.int (1 : Int32))])
      refine GoH.st (fun t k => XS.ifNo X13.here hx rfl (hb hby at_123) rfl ((if0 _ _).trans (feq (by decide : ¬ ((1 : Int32) = (0 : Int32)))).1) k) ?_
      show GoH _ _ _ _ _ _ _ _ _ _  T13 (mkF m 126 #[.val (.int p1), .val (.int p2), .val (.int p3), .val (.int p4), .val (.int (0 : Int32)), .val (.int (1 : Int32)), .val (.int f6), .val (.int f7), .val (.ref b5), .val (.ref b8), .val (.ref b13), .val .null, .val .null, .unset, .unset, .unset, .unset, .unset, .unset] [])
      rcases ok_f6 with sp39 | sp39
      · rw [sp39]
        show GoH _ _ _ _ _ _ _ _ _ _  T13 (mkF m 126 #[.val (.int p1), .val (.int p2), .val (.int p3), .val (.int p4), .val (.int (0 : Int32)), .val (.int (1 : Int32)), .val (.int (0 : Int32)), .val (.int f7), .val (.ref b5), .val (.ref b8), .val (.ref b13), .val .null, .val .null, .unset, .unset, .unset, .unset, .unset, .unset] [])
        refine GoH.st (fun t k => XS.iload X13.here hx rfl (hb hby at_126) rfl  k) ?_
        show GoH _ _ _ _ _ _ _ _ _ _  T13 (mkF m 128 #[.val (.int p1), .val (.int p2), .val (.int p3), .val (.int p4), .val (.int (0 : Int32)), .val (.int (1 : Int32)), .val (.int (0 : Int32)), .val (.int f7), .val (.ref b5), .val (.ref b8), .val (.ref b13), .val .null, .val .null, .unset, .unset, .unset, .unset, .unset, .unset] [(.int (0 : Int32))])
        refine GoH.st (fun t k => XS.ifYes X13.here hx rfl (pc0 := 128) (pc' := 143) rfl (hb hby at_128) rfl ((if0 _ _).trans (teq (rfl : (0 : Int32) = (0 : Int32))).1) (by decide) (by decide) k) ?_
        show GoH _ _ _ _ _ _ _ _ _ _  T13 (mkF m 143 #[.val (.int p1), .val (.int p2), .val (.int p3), .val (.int p4), .val (.int (0 : Int32)), .val (.int (1 : Int32)), .val (.int (0 : Int32)), .val (.int f7), .val (.ref b5), .val (.ref b8), .val (.ref b13), .val .null, .val .null, .unset, .unset, .unset, .unset, .unset, .unset] [])
        obtain ⟨T40, h40, X40, e40, E40, A40, D40, -, st40⟩ := newO X13 hx hZ hown (hw _ (List.mem_of_getElem? (i := 1) rfl)) (hw _ (List.mem_of_getElem? (i := 2) rfl)) (hw _ (List.mem_of_getElem? (i := 3) rfl)) e13 (g := (mkF m 143 #[.val (.int p1), .val (.int p2), .val (.int p3), .val (.int p4), .val (.int (0 : Int32)), .val (.int (1 : Int32)), .val (.int (0 : Int32)), .val (.int f7), .val (.ref b5), .val (.ref b8), .val (.ref b13), .val .null, .val .null, .unset, .unset, .unset, .unset, .unset, .unset] [])) rfl (hb hby at_143) (by decide) (by decide)
        obtain ⟨b40, g40⟩ : ∃ z, z = h13.size := ⟨_, rfl⟩
        rw [← g40] at A40 D40 st40
        refine GoH.st st40 ?_
        have g_b40 : n0 ≤ b40 := by rw [g40]; exact own_le O
        have Sf_b40 : Safe Z EL s.vm h13 b40 := Safe.new (Nat.le_of_eq g40.symm)
        have sz_b40 : h0.size ≤ b40 := by rw [g40]; exact KK.1
        have ne_b5_b40 : b5 ≠ b40 := Nat.ne_of_lt (by rw [g40]; exact V_b5.lt)
        have ne_b8_b40 : b8 ≠ b40 := Nat.ne_of_lt (by rw [g40]; exact V_b8.lt)
        have ne_b13_b40 : b13 ≠ b40 := Nat.ne_of_lt (by rw [g40]; exact V_b13.lt)
        have V_b5 := V_b5.ext E40
        have V_b8 := V_b8.ext E40
        have V_b13 := V_b13.ext E40
        have Sf_b5 := Safe.ext E40 HH Sf_b5
        have Sf_b8 := Safe.ext E40 HH Sf_b8
        have Sf_b13 := Safe.ext E40 HH Sf_b13
        have Sf_b40 := Safe.ext E40 HH Sf_b40
        have RR := RR.trans (CHr.ext E40 HH)
        have HH := HH.ext E40
        have hk := Nat.le_trans hk E40.1
        have O := O.ext E40
        have KK := KK.ext E40
        have E_b40 := A40
        have F_coder_b40 : Fld Z h40 b40 "java/lang/String" "coder" "B" (.int (0 : Int32)) := D40 (Or.inr (hw _ (List.mem_of_getElem? (i := 27) rfl))) (ty := .byte) (by decide)
        have F_value_b40 : Fld Z h40 b40 "java/lang/String" "value" "[B" .null := D40 (Or.inr (hw _ (List.mem_of_getElem? (i := 29) rfl))) (ty := (.array .byte)) (by decide)
        show GoH _ _ _ _ _ _ _ _ _ _  T40 (mkF m 146 #[.val (.int p1), .val (.int p2), .val (.int p3), .val (.int p4), .val (.int (0 : Int32)), .val (.int (1 : Int32)), .val (.int (0 : Int32)), .val (.int f7), .val (.ref b5), .val (.ref b8), .val (.ref b13), .val .null, .val .null, .unset, .unset, .unset, .unset, .unset, .unset] [(.ref b40)])
        refine GoH.st (fun t k => XS.dup X40.here hx rfl (hb hby at_146) rfl rfl k) ?_
        show GoH _ _ _ _ _ _ _ _ _ _  T40 (mkF m 147 #[.val (.int p1), .val (.int p2), .val (.int p3), .val (.int p4), .val (.int (0 : Int32)), .val (.int (1 : Int32)), .val (.int (0 : Int32)), .val (.int f7), .val (.ref b5), .val (.ref b8), .val (.ref b13), .val .null, .val .null, .unset, .unset, .unset, .unset, .unset, .unset] [(.ref b40), (.ref b40)])
        refine GoH.st (fun t k => XS.aload X40.here hx rfl (hb hby at_147) rfl rfl  k) ?_
        show GoH _ _ _ _ _ _ _ _ _ _  T40 (mkF m 149 #[.val (.int p1), .val (.int p2), .val (.int p3), .val (.int p4), .val (.int (0 : Int32)), .val (.int (1 : Int32)), .val (.int (0 : Int32)), .val (.int f7), .val (.ref b5), .val (.ref b8), .val (.ref b13), .val .null, .val .null, .unset, .unset, .unset, .unset, .unset, .unset] [(.ref b8), (.ref b40), (.ref b40)])
        have hp41 : ∀ c ∈ ([(nar .char ((p2 &&& (255 : Int32)).toUInt32.toUInt16.toUInt32.toInt32)), (nar .char ((p3 &&& (255 : Int32)).toUInt32.toUInt16.toUInt32.toInt32))] : List Int32), ¬ c < 0 ∧ ¬ (255 : Int32) < c := (own_cons (P := fun c => ¬ c < 0 ∧ ¬ (255 : Int32) < c) (own_m255 _) (own_cons (P := fun c => ¬ c < 0 ∧ ¬ (255 : Int32) < c) (own_m255 _) own_nil))
        obtain ⟨_, _, ⟨T42, L42, k42, n42⟩, -, X42, ⟨Lc42, hQ42, l42, y42, z42⟩, st42⟩ := X40.specialBack hx (y := (⟨"java/lang/String", "<init>", "([C)V"⟩ : MethodName)) rfl hown (mvT hZ (hw _ (List.mem_of_getElem? (i := 4) rfl))) (mvT hZ (hw _ (List.mem_of_getElem? (i := 5) rfl))) (mvT hZ (hw _ (List.mem_of_getElem? (i := 6) rfl))) (by decide) (StrChars.Road.backV (W := 1) hZ hws (kI := 4) (hw _ (List.mem_of_getElem? (i := 2) rfl)) (cs := ([(nar .char ((p2 &&& (255 : Int32)).toUInt32.toUInt16.toUInt32.toInt32)), (nar .char ((p3 &&& (255 : Int32)).toUInt32.toUInt16.toUInt32.toInt32))] : List Int32)) (bs := ([(nar .char ((p2 &&& (255 : Int32)).toUInt32.toUInt16.toUInt32.toInt32)), (nar .char ((p3 &&& (255 : Int32)).toUInt32.toUInt16.toUInt32.toInt32))] : List Int32).map (fun c => c.toInt8.toInt32)) (n := 2) g_b40 (own_le O) E_b40 F_value_b40 F_coder_b40 V_b8 (S_COMPACT.ext O.2) hcs rfl rfl (by decide) (by decide) hp41 rfl (by decide) (by decide)) (g := (mkF m 149 #[.val (.int p1), .val (.int p2), .val (.int p3), .val (.int p4), .val (.int (0 : Int32)), .val (.int (1 : Int32)), .val (.int (0 : Int32)), .val (.int f7), .val (.ref b5), .val (.ref b8), .val (.ref b13), .val .null, .val .null, .unset, .unset, .unset, .unset, .unset, .unset] [(.ref b8), (.ref b40), (.ref b40)])) rfl (by rw [hml]; rfl) (Steps.refl _) (a := b40) (argsL := [(.ref b8)]) (rest := [(.ref b40)]) (lenOf pd___C_V rfl) rfl (by show 2 * 0 + _ ≤ _; exact Nat.le_of_eq rfl) (hb hby at_149) (fun _ _ => ⟨rfl, e40, (by decide : 4 + 1 ≤ _), (by decide : 7 + 2 ≤ _)⟩)
        dsimp only [Pt.U, Pt.locs, Pt.cells, Pt.slots] at X42 l42 y42 z42 st42 hQ42
        subst l42 y42 z42
        obtain ⟨rfl, N42q, K42q, Eq42, Cq42, t42, kt42, gt42, lt42, nt42, Vq42, Aq42⟩ := hQ42
        have N42 := Fr.app N12 N42q
        refine GoH.tr st42 ?_
        have g_t42 : n0 ≤ t42 := Nat.le_trans (own_le O) lt42
        have Sf_t42 : Safe Z EL s.vm h40 t42 := Safe.new lt42
        have sz_t42 : h0.size ≤ t42 := Nat.le_trans KK.1 lt42
        have ne_b5_t42 : b5 ≠ t42 := Nat.ne_of_lt (Nat.lt_of_lt_of_le V_b5.lt lt42)
        have ne_b8_t42 : b8 ≠ t42 := Nat.ne_of_lt (Nat.lt_of_lt_of_le V_b8.lt lt42)
        have ne_b13_t42 : b13 ≠ t42 := Nat.ne_of_lt (Nat.lt_of_lt_of_le V_b13.lt lt42)
        have ne_b40_t42 : b40 ≠ t42 := Nat.ne_of_lt (Nat.lt_of_lt_of_le E_b40.lt lt42)
        have V_b5 := V_b5.keep K42q (ninS ne_b5_b40 nin0)
        have V_b8 := V_b8.keep K42q (ninS ne_b8_b40 nin0)
        have V_b13 := V_b13.keep K42q (ninS ne_b13_b40 nin0)
        have E_b40 := E_b40.keep K42q
        have sfw42 := (sfS Sf_b40 sf0)
        have Sf_b5 := Safe.keep K42q sfw42 HH Sf_b5
        have Sf_b8 := Safe.keep K42q sfw42 HH Sf_b8
        have Sf_b13 := Safe.keep K42q sfw42 HH Sf_b13
        have Sf_b40 := Safe.keep K42q sfw42 HH Sf_b40
        have Sf_t42 := Safe.keep K42q sfw42 HH Sf_t42
        have RR := RR.trans (CHr.keep K42q sfw42 HH)
        have HH := HH.keep K42q sfw42
        have hk := Nat.le_trans hk K42q.1
        have O := O.keep K42q (allS g_b40 all0)
        have KK := KK.trans K42q (allS (Or.inr sz_b40) all0)
        have E_b40 := Eq42
        show GoH _ _ _ _ _ _ _ _ _ _  T42 (mkF m 152 #[.val (.int p1), .val (.int p2), .val (.int p3), .val (.int p4), .val (.int (0 : Int32)), .val (.int (1 : Int32)), .val (.int (0 : Int32)), .val (.int f7), .val (.ref b5), .val (.ref b8), .val (.ref b13), .val .null, .val .null, .unset, .unset, .unset, .unset, .unset, .unset] [(.ref b40)])
        refine GoH.st (fun t k => XS.astore X42.here hx rfl (hb hby at_152) rfl rfl (l' := #[.val (.int p1), .val (.int p2), .val (.int p3), .val (.int p4), .val (.int (0 : Int32)), .val (.int (1 : Int32)), .val (.int (0 : Int32)), .val (.int f7), .val (.ref b5), .val (.ref b8), .val (.ref b13), .val .null, .val (.ref b40), .unset, .unset, .unset, .unset, .unset, .unset]) rfl k) ?_
        show GoH _ _ _ _ _ _ _ _ _ _  T42 (mkF m 154 #[.val (.int p1), .val (.int p2), .val (.int p3), .val (.int p4), .val (.int (0 : Int32)), .val (.int (1 : Int32)), .val (.int (0 : Int32)), .val (.int f7), .val (.ref b5), .val (.ref b8), .val (.ref b13), .val .null, .val (.ref b40), .unset, .unset, .unset, .unset, .unset, .unset] [])
        rcases ok_f7 with sp43 | sp43
        · rw [sp43]
          show GoH _ _ _ _ _ _ _ _ _ _  T42 (mkF m 154 #[.val (.int p1), .val (.int p2), .val (.int p3), .val (.int p4), .val (.int (0 : Int32)), .val (.int (1 : Int32)), .val (.int (0 : Int32)), .val (.int (0 : Int32)), .val (.ref b5), .val (.ref b8), .val (.ref b13), .val .null, .val (.ref b40), .unset, .unset, .unset, .unset, .unset, .unset] [])
          refine GoH.st (fun t k => XS.iload X42.here hx rfl (hb hby at_154) rfl  k) ?_
          show GoH _ _ _ _ _ _ _ _ _ _  T42 (mkF m 156 #[.val (.int p1), .val (.int p2), .val (.int p3), .val (.int p4), .val (.int (0 : Int32)), .val (.int (1 : Int32)), .val (.int (0 : Int32)), .val (.int (0 : Int32)), .val (.ref b5), .val (.ref b8), .val (.ref b13), .val .null, .val (.ref b40), .unset, .unset, .unset, .unset, .unset, .unset] [(.int (0 : Int32))])
          refine GoH.st (fun t k => XS.ifYes X42.here hx rfl (pc0 := 156) (pc' := 165) rfl (hb hby at_156) rfl ((if0 _ _).trans (teq (rfl : (0 : Int32) = (0 : Int32))).1) (by decide) (by decide) k) ?_
          show GoH _ _ _ _ _ _ _ _ _ _  T42 (mkF m 165 #[.val (.int p1), .val (.int p2), .val (.int p3), .val (.int p4), .val (.int (0 : Int32)), .val (.int (1 : Int32)), .val (.int (0 : Int32)), .val (.int (0 : Int32)), .val (.ref b5), .val (.ref b8), .val (.ref b13), .val .null, .val (.ref b40), .unset, .unset, .unset, .unset, .unset, .unset] [])
          obtain ⟨T44, X44, e44, st44⟩ := getS2 X42 hx hZ hown (host := "") (Or.inl (hw _ (List.mem_of_getElem? (i := 30) rfl))) Via.refl rfl (S_ADMIN.ext O.2) (g := (mkF m 165 #[.val (.int p1), .val (.int p2), .val (.int p3), .val (.int p4), .val (.int (0 : Int32)), .val (.int (1 : Int32)), .val (.int (0 : Int32)), .val (.int (0 : Int32)), .val (.ref b5), .val (.ref b8), .val (.ref b13), .val .null, .val (.ref b40), .unset, .unset, .unset, .unset, .unset, .unset] [])) rfl (hb hby at_165)
          refine GoH.st st44 ?_
          show GoH _ _ _ _ _ _ _ _ _ _  T44 (mkF m 168 #[.val (.int p1), .val (.int p2), .val (.int p3), .val (.int p4), .val (.int (0 : Int32)), .val (.int (1 : Int32)), .val (.int (0 : Int32)), .val (.int (0 : Int32)), .val (.ref b5), .val (.ref b8), .val (.ref b13), .val .null, .val (.ref b40), .unset, .unset, .unset, .unset, .unset, .unset] [(.ref w_ADMIN)])
          refine GoH.st (fun t k => XS.astore X44.here hx rfl (hb hby at_168) rfl rfl (l' := #[.val (.int p1), .val (.int p2), .val (.int p3), .val (.int p4), .val (.int (0 : Int32)), .val (.int (1 : Int32)), .val (.int (0 : Int32)), .val (.int (0 : Int32)), .val (.ref b5), .val (.ref b8), .val (.ref b13), .val .null, .val (.ref b40), .val (.ref w_ADMIN), .unset, .unset, .unset, .unset, .unset]) rfl k) ?_
          show GoH _ _ _ _ _ _ _ _ _ _  T44 (mkF m 170 #[.val (.int p1), .val (.int p2), .val (.int p3), .val (.int p4), .val (.int (0 : Int32)), .val (.int (1 : Int32)), .val (.int (0 : Int32)), .val (.int (0 : Int32)), .val (.ref b5), .val (.ref b8), .val (.ref b13), .val .null, .val (.ref b40), .val (.ref w_ADMIN), .unset, .unset, .unset, .unset, .unset] [])
          obtain ⟨T45, h45, X45, e45, E45, A45, D45, -, st45⟩ := newO X44 hx hZ hown (hw _ (List.mem_of_getElem? (i := 33) rfl)) (hw _ (List.mem_of_getElem? (i := 34) rfl)) (hw _ (List.mem_of_getElem? (i := 35) rfl)) e44 (g := (mkF m 170 #[.val (.int p1), .val (.int p2), .val (.int p3), .val (.int p4), .val (.int (0 : Int32)), .val (.int (1 : Int32)), .val (.int (0 : Int32)), .val (.int (0 : Int32)), .val (.ref b5), .val (.ref b8), .val (.ref b13), .val .null, .val (.ref b40), .val (.ref w_ADMIN), .unset, .unset, .unset, .unset, .unset] [])) rfl (hb hby at_170) (by decide) (by decide)
          obtain ⟨b45, g45⟩ : ∃ z, z = T42.heap.size := ⟨_, rfl⟩
          rw [← g45] at A45 D45 st45
          refine GoH.st st45 ?_
          have g_b45 : n0 ≤ b45 := by rw [g45]; exact own_le O
          have Sf_b45 : Safe Z EL s.vm T42.heap b45 := Safe.new (Nat.le_of_eq g45.symm)
          have sz_b45 : h0.size ≤ b45 := by rw [g45]; exact KK.1
          have ne_b5_b45 : b5 ≠ b45 := Nat.ne_of_lt (by rw [g45]; exact V_b5.lt)
          have ne_b8_b45 : b8 ≠ b45 := Nat.ne_of_lt (by rw [g45]; exact V_b8.lt)
          have ne_b13_b45 : b13 ≠ b45 := Nat.ne_of_lt (by rw [g45]; exact V_b13.lt)
          have V_b5 := V_b5.ext E45
          have V_b8 := V_b8.ext E45
          have V_b13 := V_b13.ext E45
          have Sf_b5 := Safe.ext E45 HH Sf_b5
          have Sf_b8 := Safe.ext E45 HH Sf_b8
          have Sf_b13 := Safe.ext E45 HH Sf_b13
          have Sf_b45 := Safe.ext E45 HH Sf_b45
          have RR := RR.trans (CHr.ext E45 HH)
          have HH := HH.ext E45
          have hk := Nat.le_trans hk E45.1
          have O := O.ext E45
          have KK := KK.ext E45
          have E_b45 := A45
          have F_id_b45 : Fld Z h45 b45 "com/example/wellness_on_record/wellnessonrecord/apps/App" "id" "Ljava/lang/String;" .null := D45 (Or.inr (hw _ (List.mem_of_getElem? (i := 52) rfl))) (ty := (.object "java/lang/String")) (by decide)
          have F_name_b45 : Fld Z h45 b45 "com/example/wellness_on_record/wellnessonrecord/apps/App" "name" "Ljava/lang/String;" .null := D45 (Or.inr (hw _ (List.mem_of_getElem? (i := 54) rfl))) (ty := (.object "java/lang/String")) (by decide)
          have F_kind_b45 : Fld Z h45 b45 "com/example/wellness_on_record/wellnessonrecord/apps/App" "kind" "Lcom/example/wellness_on_record/wellnessonrecord/apps/App$Kind;" .null := D45 (Or.inr (hw _ (List.mem_of_getElem? (i := 56) rfl))) (ty := (.object "com/example/wellness_on_record/wellnessonrecord/apps/App$Kind")) (by decide)
          have F_consumerKey_b45 : Fld Z h45 b45 "com/example/wellness_on_record/wellnessonrecord/apps/App" "consumerKey" "Ljava/lang/String;" .null := D45 (Or.inr (hw _ (List.mem_of_getElem? (i := 58) rfl))) (ty := (.object "java/lang/String")) (by decide)
          have F_consumerSecret_b45 : Fld Z h45 b45 "com/example/wellness_on_record/wellnessonrecord/apps/App" "consumerSecret" "Ljava/lang/String;" .null := D45 (Or.inr (hw _ (List.mem_of_getElem? (i := 60) rfl))) (ty := (.object "java/lang/String")) (by decide)
          have F_autonomous_b45 : Fld Z h45 b45 "com/example/wellness_on_record/wellnessonrecord/apps/App" "autonomous" "Z" (.int (0 : Int32)) := D45 (Or.inr (hw _ (List.mem_of_getElem? (i := 62) rfl))) (ty := .boolean) (by decide)
          have F_autonomousReason_b45 : Fld Z h45 b45 "com/example/wellness_on_record/wellnessonrecord/apps/App" "autonomousReason" "Ljava/lang/String;" .null := D45 (Or.inr (hw _ (List.mem_of_getElem? (i := 64) rfl))) (ty := (.object "java/lang/String")) (by decide)
          have F_hasUi_b45 : Fld Z h45 b45 "com/example/wellness_on_record/wellnessonrecord/apps/App" "hasUi" "Z" (.int (0 : Int32)) := D45 (Or.inr (hw _ (List.mem_of_getElem? (i := 66) rfl))) (ty := .boolean) (by decide)
          have F_callbackUrl_b45 : Fld Z h45 b45 "com/example/wellness_on_record/wellnessonrecord/apps/App" "callbackUrl" "Ljava/lang/String;" .null := D45 (Or.inr (hw _ (List.mem_of_getElem? (i := 68) rfl))) (ty := (.object "java/lang/String")) (by decide)
          have F_startUrlTemplate_b45 : Fld Z h45 b45 "com/example/wellness_on_record/wellnessonrecord/apps/App" "startUrlTemplate" "Ljava/lang/String;" .null := D45 (Or.inr (hw _ (List.mem_of_getElem? (i := 70) rfl))) (ty := (.object "java/lang/String")) (by decide)
          have F_frameable_b45 : Fld Z h45 b45 "com/example/wellness_on_record/wellnessonrecord/apps/App" "frameable" "Z" (.int (0 : Int32)) := D45 (Or.inr (hw _ (List.mem_of_getElem? (i := 72) rfl))) (ty := .boolean) (by decide)
          show GoH _ _ _ _ _ _ _ _ _ _  T45 (mkF m 173 #[.val (.int p1), .val (.int p2), .val (.int p3), .val (.int p4), .val (.int (0 : Int32)), .val (.int (1 : Int32)), .val (.int (0 : Int32)), .val (.int (0 : Int32)), .val (.ref b5), .val (.ref b8), .val (.ref b13), .val .null, .val (.ref b40), .val (.ref w_ADMIN), .unset, .unset, .unset, .unset, .unset] [(.ref b45)])
          refine GoH.st (fun t k => XS.dup X45.here hx rfl (hb hby at_173) rfl rfl k) ?_
          show GoH _ _ _ _ _ _ _ _ _ _  T45 (mkF m 174 #[.val (.int p1), .val (.int p2), .val (.int p3), .val (.int p4), .val (.int (0 : Int32)), .val (.int (1 : Int32)), .val (.int (0 : Int32)), .val (.int (0 : Int32)), .val (.ref b5), .val (.ref b8), .val (.ref b13), .val .null, .val (.ref b40), .val (.ref w_ADMIN), .unset, .unset, .unset, .unset, .unset] [(.ref b45), (.ref b45)])
          obtain ⟨sa46, T46, h46, kk46, sb46, kb46, X46, e46, E46, hS46, hk46, hZ46, ho46, E_sa46, F_coder_sa46, F_value_sa46, V_sb46, la46, lb46, CR46, Lt46, ns46, st46⟩ := ldcCH X45 hx hZ hown (hw _ (List.mem_of_getElem? (i := 36) rfl)) wS e45 hS hk hEL (List.mem_of_getElem? (i := 0) rfl) HH (vs := [(.int (105 : Int32)), (.int (100 : Int32))]) (z := 2) ⟨by decide, by decide⟩ (by decide) rfl (g := (mkF m 174 #[.val (.int p1), .val (.int p2), .val (.int p3), .val (.int p4), .val (.int (0 : Int32)), .val (.int (1 : Int32)), .val (.int (0 : Int32)), .val (.int (0 : Int32)), .val (.ref b5), .val (.ref b8), .val (.ref b13), .val .null, .val (.ref b40), .val (.ref w_ADMIN), .unset, .unset, .unset, .unset, .unset] [(.ref b45), (.ref b45)])) rfl (hb hby at_174) (n := 8) (by decide) (by decide) (by decide) (by decide)
          refine GoH.st st46 ?_
          have Sf_b5 := CHr.safe CR46 V_b5.lt Sf_b5
          have Sf_b8 := CHr.safe CR46 V_b8.lt Sf_b8
          have Sf_b13 := CHr.safe CR46 V_b13.lt Sf_b13
          have Sf_b45 := CHr.safe CR46 E_b45.lt Sf_b45
          have V_b5 := V_b5.ext E46
          have V_b8 := V_b8.ext E46
          have V_b13 := V_b13.ext E46
          have E_b45 := E_b45.ext E46
          have F_id_b45 := F_id_b45.ext E46
          have F_name_b45 := F_name_b45.ext E46
          have F_kind_b45 := F_kind_b45.ext E46
          have F_consumerKey_b45 := F_consumerKey_b45.ext E46
          have F_consumerSecret_b45 := F_consumerSecret_b45.ext E46
          have F_autonomous_b45 := F_autonomous_b45.ext E46
          have F_autonomousReason_b45 := F_autonomousReason_b45.ext E46
          have F_hasUi_b45 := F_hasUi_b45.ext E46
          have F_callbackUrl_b45 := F_callbackUrl_b45.ext E46
          have F_startUrlTemplate_b45 := F_startUrlTemplate_b45.ext E46
          have F_frameable_b45 := F_frameable_b45.ext E46
          have O := O.ext E46
          have KK := KK.ext E46
          have RR := RR.trans CR46
          have HH := CR46.1
          have hS := hS46
          have hk := hk46
          have hZ := hZ46
          have hown := ho46
          show GoH _ _ _ _ _ _ _ _ _ _  T46 (mkF m 176 #[.val (.int p1), .val (.int p2), .val (.int p3), .val (.int p4), .val (.int (0 : Int32)), .val (.int (1 : Int32)), .val (.int (0 : Int32)), .val (.int (0 : Int32)), .val (.ref b5), .val (.ref b8), .val (.ref b13), .val .null, .val (.ref b40), .val (.ref w_ADMIN), .unset, .unset, .unset, .unset, .unset] [(.ref sa46), (.ref b45), (.ref b45)])
          obtain ⟨sa47, T47, h47, kk47, sb47, kb47, X47, e47, E47, hS47, hk47, hZ47, ho47, E_sa47, F_coder_sa47, F_value_sa47, V_sb47, la47, lb47, CR47, Lt47, ns47, st47⟩ := ldcCH X46 hx hZ hown (hw _ (List.mem_of_getElem? (i := 39) rfl)) wS e46 hS hk hEL (List.mem_of_getElem? (i := 1) rfl) HH (vs := [(.int (110 : Int32)), (.int (97 : Int32)), (.int (109 : Int32)), (.int (101 : Int32))]) (z := 4) ⟨by decide, by decide⟩ (by decide) rfl (g := (mkF m 176 #[.val (.int p1), .val (.int p2), .val (.int p3), .val (.int p4), .val (.int (0 : Int32)), .val (.int (1 : Int32)), .val (.int (0 : Int32)), .val (.int (0 : Int32)), .val (.ref b5), .val (.ref b8), .val (.ref b13), .val .null, .val (.ref b40), .val (.ref w_ADMIN), .unset, .unset, .unset, .unset, .unset] [(.ref sa46), (.ref b45), (.ref b45)])) rfl (hb hby at_176) (n := 16) (by decide) (by decide) (by decide) (by decide)
          refine GoH.st st47 ?_
          have Sf_b5 := CHr.safe CR47 V_b5.lt Sf_b5
          have Sf_b8 := CHr.safe CR47 V_b8.lt Sf_b8
          have Sf_b13 := CHr.safe CR47 V_b13.lt Sf_b13
          have Sf_b45 := CHr.safe CR47 E_b45.lt Sf_b45
          have V_b5 := V_b5.ext E47
          have V_b8 := V_b8.ext E47
          have V_b13 := V_b13.ext E47
          have E_b45 := E_b45.ext E47
          have F_id_b45 := F_id_b45.ext E47
          have F_name_b45 := F_name_b45.ext E47
          have F_kind_b45 := F_kind_b45.ext E47
          have F_consumerKey_b45 := F_consumerKey_b45.ext E47
          have F_consumerSecret_b45 := F_consumerSecret_b45.ext E47
          have F_autonomous_b45 := F_autonomous_b45.ext E47
          have F_autonomousReason_b45 := F_autonomousReason_b45.ext E47
          have F_hasUi_b45 := F_hasUi_b45.ext E47
          have F_callbackUrl_b45 := F_callbackUrl_b45.ext E47
          have F_startUrlTemplate_b45 := F_startUrlTemplate_b45.ext E47
          have F_frameable_b45 := F_frameable_b45.ext E47
          have O := O.ext E47
          have KK := KK.ext E47
          have RR := RR.trans CR47
          have HH := CR47.1
          have hS := hS47
          have hk := hk47
          have hZ := hZ47
          have hown := ho47
          show GoH _ _ _ _ _ _ _ _ _ _  T47 (mkF m 178 #[.val (.int p1), .val (.int p2), .val (.int p3), .val (.int p4), .val (.int (0 : Int32)), .val (.int (1 : Int32)), .val (.int (0 : Int32)), .val (.int (0 : Int32)), .val (.ref b5), .val (.ref b8), .val (.ref b13), .val .null, .val (.ref b40), .val (.ref w_ADMIN), .unset, .unset, .unset, .unset, .unset] [(.ref sa47), (.ref sa46), (.ref b45), (.ref b45)])
          refine GoH.st (fun t k => XS.aload X47.here hx rfl (hb hby at_178) rfl rfl  k) ?_
          show GoH _ _ _ _ _ _ _ _ _ _  T47 (mkF m 180 #[.val (.int p1), .val (.int p2), .val (.int p3), .val (.int p4), .val (.int (0 : Int32)), .val (.int (1 : Int32)), .val (.int (0 : Int32)), .val (.int (0 : Int32)), .val (.ref b5), .val (.ref b8), .val (.ref b13), .val .null, .val (.ref b40), .val (.ref w_ADMIN), .unset, .unset, .unset, .unset, .unset] [(.ref w_ADMIN), (.ref sa47), (.ref sa46), (.ref b45), (.ref b45)])
          obtain ⟨sa48, T48, h48, kk48, sb48, kb48, X48, e48, E48, hS48, hk48, hZ48, ho48, E_sa48, F_coder_sa48, F_value_sa48, V_sb48, la48, lb48, CR48, Lt48, ns48, st48⟩ := ldcCH X47 hx hZ hown (hw _ (List.mem_of_getElem? (i := 40) rfl)) wS e47 hS hk hEL (List.mem_of_getElem? (i := 2) rfl) HH (vs := [(.int (107 : Int32)), (.int (101 : Int32)), (.int (121 : Int32))]) (z := 3) ⟨by decide, by decide⟩ (by decide) rfl (g := (mkF m 180 #[.val (.int p1), .val (.int p2), .val (.int p3), .val (.int p4), .val (.int (0 : Int32)), .val (.int (1 : Int32)), .val (.int (0 : Int32)), .val (.int (0 : Int32)), .val (.ref b5), .val (.ref b8), .val (.ref b13), .val .null, .val (.ref b40), .val (.ref w_ADMIN), .unset, .unset, .unset, .unset, .unset] [(.ref w_ADMIN), (.ref sa47), (.ref sa46), (.ref b45), (.ref b45)])) rfl (hb hby at_180) (n := 12) (by decide) (by decide) (by decide) (by decide)
          refine GoH.st st48 ?_
          have Sf_b5 := CHr.safe CR48 V_b5.lt Sf_b5
          have Sf_b8 := CHr.safe CR48 V_b8.lt Sf_b8
          have Sf_b13 := CHr.safe CR48 V_b13.lt Sf_b13
          have Sf_b45 := CHr.safe CR48 E_b45.lt Sf_b45
          have V_b5 := V_b5.ext E48
          have V_b8 := V_b8.ext E48
          have V_b13 := V_b13.ext E48
          have E_b45 := E_b45.ext E48
          have F_id_b45 := F_id_b45.ext E48
          have F_name_b45 := F_name_b45.ext E48
          have F_kind_b45 := F_kind_b45.ext E48
          have F_consumerKey_b45 := F_consumerKey_b45.ext E48
          have F_consumerSecret_b45 := F_consumerSecret_b45.ext E48
          have F_autonomous_b45 := F_autonomous_b45.ext E48
          have F_autonomousReason_b45 := F_autonomousReason_b45.ext E48
          have F_hasUi_b45 := F_hasUi_b45.ext E48
          have F_callbackUrl_b45 := F_callbackUrl_b45.ext E48
          have F_startUrlTemplate_b45 := F_startUrlTemplate_b45.ext E48
          have F_frameable_b45 := F_frameable_b45.ext E48
          have O := O.ext E48
          have KK := KK.ext E48
          have RR := RR.trans CR48
          have HH := CR48.1
          have hS := hS48
          have hk := hk48
          have hZ := hZ48
          have hown := ho48
          show GoH _ _ _ _ _ _ _ _ _ _  T48 (mkF m 182 #[.val (.int p1), .val (.int p2), .val (.int p3), .val (.int p4), .val (.int (0 : Int32)), .val (.int (1 : Int32)), .val (.int (0 : Int32)), .val (.int (0 : Int32)), .val (.ref b5), .val (.ref b8), .val (.ref b13), .val .null, .val (.ref b40), .val (.ref w_ADMIN), .unset, .unset, .unset, .unset, .unset] [(.ref sa48), (.ref w_ADMIN), (.ref sa47), (.ref sa46), (.ref b45), (.ref b45)])
          obtain ⟨sa49, T49, h49, kk49, sb49, kb49, X49, e49, E49, hS49, hk49, hZ49, ho49, E_sa49, F_coder_sa49, F_value_sa49, V_sb49, la49, lb49, CR49, Lt49, ns49, st49⟩ := ldcCH X48 hx hZ hown (hw _ (List.mem_of_getElem? (i := 41) rfl)) wS e48 hS hk hEL (List.mem_of_getElem? (i := 3) rfl) HH (vs := [(.int (115 : Int32)), (.int (101 : Int32)), (.int (99 : Int32)), (.int (114 : Int32)), (.int (101 : Int32)), (.int (116 : Int32))]) (z := 6) ⟨by decide, by decide⟩ (by decide) rfl (g := (mkF m 182 #[.val (.int p1), .val (.int p2), .val (.int p3), .val (.int p4), .val (.int (0 : Int32)), .val (.int (1 : Int32)), .val (.int (0 : Int32)), .val (.int (0 : Int32)), .val (.ref b5), .val (.ref b8), .val (.ref b13), .val .null, .val (.ref b40), .val (.ref w_ADMIN), .unset, .unset, .unset, .unset, .unset] [(.ref sa48), (.ref w_ADMIN), (.ref sa47), (.ref sa46), (.ref b45), (.ref b45)])) rfl (hb hby at_182) (n := 24) (by decide) (by decide) (by decide) (by decide)
          refine GoH.st st49 ?_
          have Sf_b5 := CHr.safe CR49 V_b5.lt Sf_b5
          have Sf_b8 := CHr.safe CR49 V_b8.lt Sf_b8
          have Sf_b13 := CHr.safe CR49 V_b13.lt Sf_b13
          have Sf_b45 := CHr.safe CR49 E_b45.lt Sf_b45
          have V_b5 := V_b5.ext E49
          have V_b8 := V_b8.ext E49
          have V_b13 := V_b13.ext E49
          have E_b45 := E_b45.ext E49
          have F_id_b45 := F_id_b45.ext E49
          have F_name_b45 := F_name_b45.ext E49
          have F_kind_b45 := F_kind_b45.ext E49
          have F_consumerKey_b45 := F_consumerKey_b45.ext E49
          have F_consumerSecret_b45 := F_consumerSecret_b45.ext E49
          have F_autonomous_b45 := F_autonomous_b45.ext E49
          have F_autonomousReason_b45 := F_autonomousReason_b45.ext E49
          have F_hasUi_b45 := F_hasUi_b45.ext E49
          have F_callbackUrl_b45 := F_callbackUrl_b45.ext E49
          have F_startUrlTemplate_b45 := F_startUrlTemplate_b45.ext E49
          have F_frameable_b45 := F_frameable_b45.ext E49
          have O := O.ext E49
          have KK := KK.ext E49
          have RR := RR.trans CR49
          have HH := CR49.1
          have hS := hS49
          have hk := hk49
          have hZ := hZ49
          have hown := ho49
          show GoH _ _ _ _ _ _ _ _ _ _  T49 (mkF m 184 #[.val (.int p1), .val (.int p2), .val (.int p3), .val (.int p4), .val (.int (0 : Int32)), .val (.int (1 : Int32)), .val (.int (0 : Int32)), .val (.int (0 : Int32)), .val (.ref b5), .val (.ref b8), .val (.ref b13), .val .null, .val (.ref b40), .val (.ref w_ADMIN), .unset, .unset, .unset, .unset, .unset] [(.ref sa49), (.ref sa48), (.ref w_ADMIN), (.ref sa47), (.ref sa46), (.ref b45), (.ref b45)])
          refine GoH.st (fun t k => XS.iconst X49.here hx rfl (hb hby at_184) k) ?_
          show GoH _ _ _ _ _ _ _ _ _ _  T49 (mkF m 185 #[.val (.int p1), .val (.int p2), .val (.int p3), .val (.int p4), .val (.int (0 : Int32)), .val (.int (1 : Int32)), .val (.int (0 : Int32)), .val (.int (0 : Int32)), .val (.ref b5), .val (.ref b8), .val (.ref b13), .val .null, .val (.ref b40), .val (.ref w_ADMIN), .unset, .unset, .unset, .unset, .unset] [(.int (0 : Int32)), (.ref sa49), (.ref sa48), (.ref w_ADMIN), (.ref sa47), (.ref sa46), (.ref b45), (.ref b45)])
          refine GoH.st (fun t k => XS.aconstNull X49.here hx rfl (hb hby at_185) k) ?_
          show GoH _ _ _ _ _ _ _ _ _ _  T49 (mkF m 186 #[.val (.int p1), .val (.int p2), .val (.int p3), .val (.int p4), .val (.int (0 : Int32)), .val (.int (1 : Int32)), .val (.int (0 : Int32)), .val (.int (0 : Int32)), .val (.ref b5), .val (.ref b8), .val (.ref b13), .val .null, .val (.ref b40), .val (.ref w_ADMIN), .unset, .unset, .unset, .unset, .unset] [.null, (.int (0 : Int32)), (.ref sa49), (.ref sa48), (.ref w_ADMIN), (.ref sa47), (.ref sa46), (.ref b45), (.ref b45)])
          refine GoH.st (fun t k => XS.iconst X49.here hx rfl (hb hby at_186) k) ?_
          show GoH _ _ _ _ _ _ _ _ _ _  T49 (mkF m 187 #[.val (.int p1), .val (.int p2), .val (.int p3), .val (.int p4), .val (.int (0 : Int32)), .val (.int (1 : Int32)), .val (.int (0 : Int32)), .val (.int (0 : Int32)), .val (.ref b5), .val (.ref b8), .val (.ref b13), .val .null, .val (.ref b40), .val (.ref w_ADMIN), .unset, .unset, .unset, .unset, .unset] [(.int (0 : Int32)), .null, (.int (0 : Int32)), (.ref sa49), (.ref sa48), (.ref w_ADMIN), (.ref sa47), (.ref sa46), (.ref b45), (.ref b45)])
          refine GoH.st (fun t k => XS.aconstNull X49.here hx rfl (hb hby at_187) k) ?_
          show GoH _ _ _ _ _ _ _ _ _ _  T49 (mkF m 188 #[.val (.int p1), .val (.int p2), .val (.int p3), .val (.int p4), .val (.int (0 : Int32)), .val (.int (1 : Int32)), .val (.int (0 : Int32)), .val (.int (0 : Int32)), .val (.ref b5), .val (.ref b8), .val (.ref b13), .val .null, .val (.ref b40), .val (.ref w_ADMIN), .unset, .unset, .unset, .unset, .unset] [.null, (.int (0 : Int32)), .null, (.int (0 : Int32)), (.ref sa49), (.ref sa48), (.ref w_ADMIN), (.ref sa47), (.ref sa46), (.ref b45), (.ref b45)])
          refine GoH.st (fun t k => XS.aconstNull X49.here hx rfl (hb hby at_188) k) ?_
          show GoH _ _ _ _ _ _ _ _ _ _  T49 (mkF m 189 #[.val (.int p1), .val (.int p2), .val (.int p3), .val (.int p4), .val (.int (0 : Int32)), .val (.int (1 : Int32)), .val (.int (0 : Int32)), .val (.int (0 : Int32)), .val (.ref b5), .val (.ref b8), .val (.ref b13), .val .null, .val (.ref b40), .val (.ref w_ADMIN), .unset, .unset, .unset, .unset, .unset] [.null, .null, (.int (0 : Int32)), .null, (.int (0 : Int32)), (.ref sa49), (.ref sa48), (.ref w_ADMIN), (.ref sa47), (.ref sa46), (.ref b45), (.ref b45)])
          refine GoH.st (fun t k => XS.iconst X49.here hx rfl (hb hby at_189) k) ?_
          show GoH _ _ _ _ _ _ _ _ _ _  T49 (mkF m 190 #[.val (.int p1), .val (.int p2), .val (.int p3), .val (.int p4), .val (.int (0 : Int32)), .val (.int (1 : Int32)), .val (.int (0 : Int32)), .val (.int (0 : Int32)), .val (.ref b5), .val (.ref b8), .val (.ref b13), .val .null, .val (.ref b40), .val (.ref w_ADMIN), .unset, .unset, .unset, .unset, .unset] [(.int (0 : Int32)), .null, .null, (.int (0 : Int32)), .null, (.int (0 : Int32)), (.ref sa49), (.ref sa48), (.ref w_ADMIN), (.ref sa47), (.ref sa46), (.ref b45), (.ref b45)])
          obtain ⟨_, _, ⟨T50, L50, k50, n50⟩, -, X50, ⟨Lc50, hQ50, l50, y50, z50⟩, st50⟩ := X49.specialBack hx (y := (⟨"com/example/wellness_on_record/wellnessonrecord/apps/App", "<init>", "(Ljava/lang/String;Ljava/lang/String;Lcom/example/wellness_on_record/wellnessonrecord/apps/App$Kind;Ljava/lang/String;Ljava/lang/String;ZLjava/lang/String;ZLjava/lang/String;Ljava/lang/String;Z)V"⟩ : MethodName)) rfl hown (mvT hZ (hw _ (List.mem_of_getElem? (i := 42) rfl))) (mvT hZ (hw _ (List.mem_of_getElem? (i := 43) rfl))) (mvT hZ (hw _ (List.mem_of_getElem? (i := 44) rfl))) (by decide) (backOf (W := 1) (rmA l Z a0 hw [] b45 sa46 sa47 w_ADMIN sa48 sa49 h49 n0 O E_b45 F_id_b45 F_name_b45 F_kind_b45 F_consumerKey_b45 F_consumerSecret_b45 F_autonomous_b45 F_autonomousReason_b45 F_hasUi_b45 F_callbackUrl_b45 F_startUrlTemplate_b45 F_frameable_b45 g_b45) hZ (hw _ (List.mem_of_getElem? (i := 44) rfl)) (hw _ (List.mem_of_getElem? (i := 35) rfl)) (by decide) (by decide)) (g := (mkF m 190 #[.val (.int p1), .val (.int p2), .val (.int p3), .val (.int p4), .val (.int (0 : Int32)), .val (.int (1 : Int32)), .val (.int (0 : Int32)), .val (.int (0 : Int32)), .val (.ref b5), .val (.ref b8), .val (.ref b13), .val .null, .val (.ref b40), .val (.ref w_ADMIN), .unset, .unset, .unset, .unset, .unset] [(.int (0 : Int32)), .null, .null, (.int (0 : Int32)), .null, (.int (0 : Int32)), (.ref sa49), (.ref sa48), (.ref w_ADMIN), (.ref sa47), (.ref sa46), (.ref b45), (.ref b45)])) rfl (by rw [hml]; rfl) (Steps.refl _) (a := b45) (argsL := [(.ref sa46), (.ref sa47), (.ref w_ADMIN), (.ref sa48), (.ref sa49), (.int (0 : Int32)), .null, (.int (0 : Int32)), .null, .null, (.int (0 : Int32))]) (rest := [(.ref b45)]) (lenOf pd__Ljava_lang_String_Ljava_lang_String_Lcom_example_wellness_on_record_wellnessonrecord_apps_App_Kind_Ljava_lang_String_Ljava_lang_String_ZLjava_lang_String_ZLjava_lang_String_Ljava_lang_String_Z_V rfl) rfl (by show 2 * 0 + _ ≤ _; exact Nat.le_of_eq rfl) (hb hby at_190) (fun _ _ => ⟨rfl, e49, (by decide : 14 + 0 ≤ _), (by decide : 96 + 0 ≤ _)⟩)
          dsimp only [Pt.U, Pt.locs, Pt.cells, Pt.slots] at X50 l50 y50 z50 st50 hQ50
          subst l50 y50 z50
          obtain ⟨rfl, N50q, K50q, Eq50, Fk50⟩ := hQ50
          have N50 := Fr.app N42 N50q
          refine GoH.tr st50 ?_
          have V_b5 := V_b5.keep K50q (ninS ne_b5_b45 nin0)
          have V_b8 := V_b8.keep K50q (ninS ne_b8_b45 nin0)
          have V_b13 := V_b13.keep K50q (ninS ne_b13_b45 nin0)
          have E_b45 := E_b45.keep K50q
          have sfw50 := (sfS Sf_b45 sf0)
          have Sf_b5 := Safe.keep K50q sfw50 HH Sf_b5
          have Sf_b8 := Safe.keep K50q sfw50 HH Sf_b8
          have Sf_b13 := Safe.keep K50q sfw50 HH Sf_b13
          have Sf_b45 := Safe.keep K50q sfw50 HH Sf_b45
          have RR := RR.trans (CHr.keep K50q sfw50 HH)
          have HH := HH.keep K50q sfw50
          have hk := Nat.le_trans hk K50q.1
          have O := O.keep K50q (allS g_b45 all0)
          have KK := KK.trans K50q (allS (Or.inr sz_b45) all0)
          have E_b45 := Eq50
          show GoH _ _ _ _ _ _ _ _ _ _  T50 (mkF m 193 #[.val (.int p1), .val (.int p2), .val (.int p3), .val (.int p4), .val (.int (0 : Int32)), .val (.int (1 : Int32)), .val (.int (0 : Int32)), .val (.int (0 : Int32)), .val (.ref b5), .val (.ref b8), .val (.ref b13), .val .null, .val (.ref b40), .val (.ref w_ADMIN), .unset, .unset, .unset, .unset, .unset] [(.ref b45)])
          refine GoH.st (fun t k => XS.astore X50.here hx rfl (hb hby at_193) rfl rfl (l' := #[.val (.int p1), .val (.int p2), .val (.int p3), .val (.int p4), .val (.int (0 : Int32)), .val (.int (1 : Int32)), .val (.int (0 : Int32)), .val (.int (0 : Int32)), .val (.ref b5), .val (.ref b8), .val (.ref b13), .val .null, .val (.ref b40), .val (.ref w_ADMIN), .val (.ref b45), .unset, .unset, .unset, .unset]) rfl k) ?_
          show GoH _ _ _ _ _ _ _ _ _ _  T50 (mkF m 195 #[.val (.int p1), .val (.int p2), .val (.int p3), .val (.int p4), .val (.int (0 : Int32)), .val (.int (1 : Int32)), .val (.int (0 : Int32)), .val (.int (0 : Int32)), .val (.ref b5), .val (.ref b8), .val (.ref b13), .val .null, .val (.ref b40), .val (.ref w_ADMIN), .val (.ref b45), .unset, .unset, .unset, .unset] [])
          obtain ⟨T51, h51, X51, e51, E51, A51, D51, -, st51⟩ := newO X50 hx hZ hown (hw _ (List.mem_of_getElem? (i := 73) rfl)) (hw _ (List.mem_of_getElem? (i := 74) rfl)) (hw _ (List.mem_of_getElem? (i := 75) rfl)) rfl (g := (mkF m 195 #[.val (.int p1), .val (.int p2), .val (.int p3), .val (.int p4), .val (.int (0 : Int32)), .val (.int (1 : Int32)), .val (.int (0 : Int32)), .val (.int (0 : Int32)), .val (.ref b5), .val (.ref b8), .val (.ref b13), .val .null, .val (.ref b40), .val (.ref w_ADMIN), .val (.ref b45), .unset, .unset, .unset, .unset] [])) rfl (hb hby at_195) (by decide) (by decide)
          obtain ⟨b51, g51⟩ : ∃ z, z = T50.heap.size := ⟨_, rfl⟩
          rw [← g51] at A51 D51 st51
          refine GoH.st st51 ?_
          have g_b51 : n0 ≤ b51 := by rw [g51]; exact own_le O
          have Sf_b51 : Safe Z EL T49.vm T50.heap b51 := Safe.new (Nat.le_of_eq g51.symm)
          have sz_b51 : h0.size ≤ b51 := by rw [g51]; exact KK.1
          have ne_b5_b51 : b5 ≠ b51 := Nat.ne_of_lt (by rw [g51]; exact V_b5.lt)
          have ne_b8_b51 : b8 ≠ b51 := Nat.ne_of_lt (by rw [g51]; exact V_b8.lt)
          have ne_b13_b51 : b13 ≠ b51 := Nat.ne_of_lt (by rw [g51]; exact V_b13.lt)
          have ne_b45_b51 : b45 ≠ b51 := Nat.ne_of_lt (by rw [g51]; exact E_b45.lt)
          have V_b5 := V_b5.ext E51
          have V_b8 := V_b8.ext E51
          have V_b13 := V_b13.ext E51
          have E_b45 := E_b45.ext E51
          have Fk50 := Fk50.ext E51
          have Sf_b5 := Safe.ext E51 HH Sf_b5
          have Sf_b8 := Safe.ext E51 HH Sf_b8
          have Sf_b13 := Safe.ext E51 HH Sf_b13
          have Sf_b45 := Safe.ext E51 HH Sf_b45
          have Sf_b51 := Safe.ext E51 HH Sf_b51
          have RR := RR.trans (CHr.ext E51 HH)
          have HH := HH.ext E51
          have hk := Nat.le_trans hk E51.1
          have O := O.ext E51
          have KK := KK.ext E51
          have E_b51 := A51
          have F_app_b51 : Fld Z h51 b51 "com/example/wellness_on_record/wellnessonrecord/oauth/Principal" "app" "Lcom/example/wellness_on_record/wellnessonrecord/apps/App;" .null := D51 (Or.inr (hw _ (List.mem_of_getElem? (i := 81) rfl))) (ty := (.object "com/example/wellness_on_record/wellnessonrecord/apps/App")) (by decide)
          have F_recordId_b51 : Fld Z h51 b51 "com/example/wellness_on_record/wellnessonrecord/oauth/Principal" "recordId" "Ljava/lang/String;" .null := D51 (Or.inr (hw _ (List.mem_of_getElem? (i := 83) rfl))) (ty := (.object "java/lang/String")) (by decide)
          have F_requestToken_b51 : Fld Z h51 b51 "com/example/wellness_on_record/wellnessonrecord/oauth/Principal" "requestToken" "Ljava/lang/String;" .null := D51 (Or.inr (hw _ (List.mem_of_getElem? (i := 85) rfl))) (ty := (.object "java/lang/String")) (by decide)
          show GoH _ _ _ _ _ _ _ _ _ _  T51 (mkF m 198 #[.val (.int p1), .val (.int p2), .val (.int p3), .val (.int p4), .val (.int (0 : Int32)), .val (.int (1 : Int32)), .val (.int (0 : Int32)), .val (.int (0 : Int32)), .val (.ref b5), .val (.ref b8), .val (.ref b13), .val .null, .val (.ref b40), .val (.ref w_ADMIN), .val (.ref b45), .unset, .unset, .unset, .unset] [(.ref b51)])
          refine GoH.st (fun t k => XS.dup X51.here hx rfl (hb hby at_198) rfl rfl k) ?_
          show GoH _ _ _ _ _ _ _ _ _ _  T51 (mkF m 199 #[.val (.int p1), .val (.int p2), .val (.int p3), .val (.int p4), .val (.int (0 : Int32)), .val (.int (1 : Int32)), .val (.int (0 : Int32)), .val (.int (0 : Int32)), .val (.ref b5), .val (.ref b8), .val (.ref b13), .val .null, .val (.ref b40), .val (.ref w_ADMIN), .val (.ref b45), .unset, .unset, .unset, .unset] [(.ref b51), (.ref b51)])
          refine GoH.st (fun t k => XS.aload X51.here hx rfl (hb hby at_199) rfl rfl  k) ?_
          show GoH _ _ _ _ _ _ _ _ _ _  T51 (mkF m 201 #[.val (.int p1), .val (.int p2), .val (.int p3), .val (.int p4), .val (.int (0 : Int32)), .val (.int (1 : Int32)), .val (.int (0 : Int32)), .val (.int (0 : Int32)), .val (.ref b5), .val (.ref b8), .val (.ref b13), .val .null, .val (.ref b40), .val (.ref w_ADMIN), .val (.ref b45), .unset, .unset, .unset, .unset] [(.ref b45), (.ref b51), (.ref b51)])
          refine GoH.st (fun t k => XS.aload X51.here hx rfl (hb hby at_201) rfl rfl  k) ?_
          show GoH _ _ _ _ _ _ _ _ _ _  T51 (mkF m 203 #[.val (.int p1), .val (.int p2), .val (.int p3), .val (.int p4), .val (.int (0 : Int32)), .val (.int (1 : Int32)), .val (.int (0 : Int32)), .val (.int (0 : Int32)), .val (.ref b5), .val (.ref b8), .val (.ref b13), .val .null, .val (.ref b40), .val (.ref w_ADMIN), .val (.ref b45), .unset, .unset, .unset, .unset] [.null, (.ref b45), (.ref b51), (.ref b51)])
          refine GoH.st (fun t k => XS.aload X51.here hx rfl (hb hby at_203) rfl rfl  k) ?_
          show GoH _ _ _ _ _ _ _ _ _ _  T51 (mkF m 205 #[.val (.int p1), .val (.int p2), .val (.int p3), .val (.int p4), .val (.int (0 : Int32)), .val (.int (1 : Int32)), .val (.int (0 : Int32)), .val (.int (0 : Int32)), .val (.ref b5), .val (.ref b8), .val (.ref b13), .val .null, .val (.ref b40), .val (.ref w_ADMIN), .val (.ref b45), .unset, .unset, .unset, .unset] [(.ref b40), .null, (.ref b45), (.ref b51), (.ref b51)])
          obtain ⟨_, _, ⟨T52, L52, k52, n52⟩, -, X52, ⟨Lc52, hQ52, l52, y52, z52⟩, st52⟩ := X51.specialBack hx (y := (⟨"com/example/wellness_on_record/wellnessonrecord/oauth/Principal", "<init>", "(Lcom/example/wellness_on_record/wellnessonrecord/apps/App;Ljava/lang/String;Ljava/lang/String;)V"⟩ : MethodName)) rfl hown (mvT hZ (hw _ (List.mem_of_getElem? (i := 76) rfl))) (mvT hZ (hw _ (List.mem_of_getElem? (i := 77) rfl))) (mvT hZ (hw _ (List.mem_of_getElem? (i := 78) rfl))) (by decide) (backOf (W := 1) (rmP l Z a0 hw [] b51 b45 .null (.ref b40) h51 n0 O E_b51 F_app_b51 F_recordId_b51 F_requestToken_b51 g_b51 rfl rfl) hZ (hw _ (List.mem_of_getElem? (i := 78) rfl)) (hw _ (List.mem_of_getElem? (i := 75) rfl)) (by decide) (by decide)) (g := (mkF m 205 #[.val (.int p1), .val (.int p2), .val (.int p3), .val (.int p4), .val (.int (0 : Int32)), .val (.int (1 : Int32)), .val (.int (0 : Int32)), .val (.int (0 : Int32)), .val (.ref b5), .val (.ref b8), .val (.ref b13), .val .null, .val (.ref b40), .val (.ref w_ADMIN), .val (.ref b45), .unset, .unset, .unset, .unset] [(.ref b40), .null, (.ref b45), (.ref b51), (.ref b51)])) rfl (by rw [hml]; rfl) (Steps.refl _) (a := b51) (argsL := [(.ref b45), .null, (.ref b40)]) (rest := [(.ref b51)]) (lenOf pd__Lcom_example_wellness_on_record_wellnessonrecord_apps_App_Ljava_lang_String_Ljava_lang_String__V rfl) rfl (by show 2 * 0 + _ ≤ _; exact Nat.le_of_eq rfl) (hb hby at_205) (fun _ _ => ⟨rfl, e51, (by decide : 15 + 0 ≤ _), (by decide : 99 + 0 ≤ _)⟩)
          dsimp only [Pt.U, Pt.locs, Pt.cells, Pt.slots] at X52 l52 y52 z52 st52 hQ52
          subst l52 y52 z52
          obtain ⟨rfl, N52q, K52q, Eq52, Fa52, Fr52, Ft52⟩ := hQ52
          have N52 := Fr.app N50 N52q
          refine GoH.tr st52 ?_
          have V_b5 := V_b5.keep K52q (ninS ne_b5_b51 nin0)
          have V_b8 := V_b8.keep K52q (ninS ne_b8_b51 nin0)
          have V_b13 := V_b13.keep K52q (ninS ne_b13_b51 nin0)
          have E_b45 := E_b45.keep K52q
          have Fk50 := Fk50.keep K52q (ninS ne_b45_b51 nin0)
          have E_b51 := E_b51.keep K52q
          have sfw52 := (sfS Sf_b51 sf0)
          have Sf_b5 := Safe.keep K52q sfw52 HH Sf_b5
          have Sf_b8 := Safe.keep K52q sfw52 HH Sf_b8
          have Sf_b13 := Safe.keep K52q sfw52 HH Sf_b13
          have Sf_b45 := Safe.keep K52q sfw52 HH Sf_b45
          have Sf_b51 := Safe.keep K52q sfw52 HH Sf_b51
          have RR := RR.trans (CHr.keep K52q sfw52 HH)
          have HH := HH.keep K52q sfw52
          have hk := Nat.le_trans hk K52q.1
          have O := O.keep K52q (allS g_b51 all0)
          have KK := KK.trans K52q (allS (Or.inr sz_b51) all0)
          have E_b51 := Eq52
          show GoH _ _ _ _ _ _ _ _ _ _  T52 (mkF m 208 #[.val (.int p1), .val (.int p2), .val (.int p3), .val (.int p4), .val (.int (0 : Int32)), .val (.int (1 : Int32)), .val (.int (0 : Int32)), .val (.int (0 : Int32)), .val (.ref b5), .val (.ref b8), .val (.ref b13), .val .null, .val (.ref b40), .val (.ref w_ADMIN), .val (.ref b45), .unset, .unset, .unset, .unset] [(.ref b51)])
          refine GoH.st (fun t k => XS.astore X52.here hx rfl (hb hby at_208) rfl rfl (l' := #[.val (.int p1), .val (.int p2), .val (.int p3), .val (.int p4), .val (.int (0 : Int32)), .val (.int (1 : Int32)), .val (.int (0 : Int32)), .val (.int (0 : Int32)), .val (.ref b5), .val (.ref b8), .val (.ref b13), .val .null, .val (.ref b40), .val (.ref w_ADMIN), .val (.ref b45), .val (.ref b51), .unset, .unset, .unset]) rfl k) ?_
          show GoH _ _ _ _ _ _ _ _ _ _  T52 (mkF m 210 #[.val (.int p1), .val (.int p2), .val (.int p3), .val (.int p4), .val (.int (0 : Int32)), .val (.int (1 : Int32)), .val (.int (0 : Int32)), .val (.int (0 : Int32)), .val (.ref b5), .val (.ref b8), .val (.ref b13), .val .null, .val (.ref b40), .val (.ref w_ADMIN), .val (.ref b45), .val (.ref b51), .unset, .unset, .unset] [])
          refine GoH.st (fun t k => XS.aload X52.here hx rfl (hb hby at_210) rfl rfl  k) ?_
          show GoH _ _ _ _ _ _ _ _ _ _  T52 (mkF m 212 #[.val (.int p1), .val (.int p2), .val (.int p3), .val (.int p4), .val (.int (0 : Int32)), .val (.int (1 : Int32)), .val (.int (0 : Int32)), .val (.int (0 : Int32)), .val (.ref b5), .val (.ref b8), .val (.ref b13), .val .null, .val (.ref b40), .val (.ref w_ADMIN), .val (.ref b45), .val (.ref b51), .unset, .unset, .unset] [(.ref b51)])
          obtain ⟨cq53, kq53, q53a, q53b, q53c⟩ := isOf hZ rfl E_b51
          obtain ⟨_, _, ⟨T53, L53, k53, n53⟩, -, X53, ⟨Lc53, hQ53, l53, y53, z53⟩, st53⟩ := X52.virtualBack hx (y := (⟨"com/example/wellness_on_record/wellnessonrecord/oauth/Principal", "holdsRequestToken", "()Z"⟩ : MethodName)) (z := (⟨"com/example/wellness_on_record/wellnessonrecord/oauth/Principal", "holdsRequestToken", "()Z"⟩ : MethodName)) hown (mvT hZ (hw _ (List.mem_of_getElem? (i := 86) rfl))) (mvT hZ (hw _ (List.mem_of_getElem? (i := 87) rfl))) (notFace_of_selects (args := #[]) (mvT hZ (hw _ (List.mem_of_getElem? (i := 89) rfl)))) (mvT hZ (hw _ (List.mem_of_getElem? (i := 89) rfl))) (mvT hZ (hw _ (List.mem_of_getElem? (i := 88) rfl))) (by decide) (backOf (W := 0) (rmH l Z a0 hw [] b51 (.ref b40) T52.heap n0 O Ft52 rfl) hZ (hw _ (List.mem_of_getElem? (i := 90) rfl)) (hw _ (List.mem_of_getElem? (i := 75) rfl)) (by decide) (by decide)) q53a q53c (g := (mkF m 212 #[.val (.int p1), .val (.int p2), .val (.int p3), .val (.int p4), .val (.int (0 : Int32)), .val (.int (1 : Int32)), .val (.int (0 : Int32)), .val (.int (0 : Int32)), .val (.ref b5), .val (.ref b8), .val (.ref b13), .val .null, .val (.ref b40), .val (.ref w_ADMIN), .val (.ref b45), .val (.ref b51), .unset, .unset, .unset] [(.ref b51)])) rfl (by rw [hml]; rfl) (Steps.refl _) (argsL := []) (rest := []) (lenOf pd___Z rfl) rfl (by show 2 * 0 + _ ≤ _; exact Nat.le_of_eq rfl) (hb hby at_212) (fun _ _ => ⟨rfl, rfl, (by decide : 15 + 0 ≤ _), (by decide : 99 + 0 ≤ _)⟩)
          dsimp only [Pt.U, Pt.locs, Pt.cells, Pt.slots] at X53 l53 y53 z53 st53 hQ53
          subst l53 y53 z53
          obtain ⟨rfl, N53q, e53q⟩ := hQ53
          have N53 := Fr.app N52 N53q
          refine GoH.tr st53 ?_
          rw [show (if (.ref b40) = Value.null then (0 : Int32) else 1) = (1 : Int32) from by simp]
          show GoH _ _ _ _ _ _ _ _ _ _  T53 (mkF m 215 #[.val (.int p1), .val (.int p2), .val (.int p3), .val (.int p4), .val (.int (0 : Int32)), .val (.int (1 : Int32)), .val (.int (0 : Int32)), .val (.int (0 : Int32)), .val (.ref b5), .val (.ref b8), .val (.ref b13), .val .null, .val (.ref b40), .val (.ref w_ADMIN), .val (.ref b45), .val (.ref b51), .unset, .unset, .unset] [(.int (1 : Int32))])
          refine GoH.st (fun t k => XS.istore X53.here hx rfl (hb hby at_215) rfl (l' := #[.val (.int p1), .val (.int p2), .val (.int p3), .val (.int p4), .val (.int (0 : Int32)), .val (.int (1 : Int32)), .val (.int (0 : Int32)), .val (.int (0 : Int32)), .val (.ref b5), .val (.ref b8), .val (.ref b13), .val .null, .val (.ref b40), .val (.ref w_ADMIN), .val (.ref b45), .val (.ref b51), .val (.int (1 : Int32)), .unset, .unset]) rfl k) ?_
          show GoH _ _ _ _ _ _ _ _ _ _  T53 (mkF m 217 #[.val (.int p1), .val (.int p2), .val (.int p3), .val (.int p4), .val (.int (0 : Int32)), .val (.int (1 : Int32)), .val (.int (0 : Int32)), .val (.int (0 : Int32)), .val (.ref b5), .val (.ref b8), .val (.ref b13), .val .null, .val (.ref b40), .val (.ref w_ADMIN), .val (.ref b45), .val (.ref b51), .val (.int (1 : Int32)), .unset, .unset] [])
          refine GoH.st (fun t k => XS.iload X53.here hx rfl (hb hby at_217) rfl  k) ?_
          show GoH _ _ _ _ _ _ _ _ _ _  T53 (mkF m 219 #[.val (.int p1), .val (.int p2), .val (.int p3), .val (.int p4), .val (.int (0 : Int32)), .val (.int (1 : Int32)), .val (.int (0 : Int32)), .val (.int (0 : Int32)), .val (.ref b5), .val (.ref b8), .val (.ref b13), .val .null, .val (.ref b40), .val (.ref w_ADMIN), .val (.ref b45), .val (.ref b51), .val (.int (1 : Int32)), .unset, .unset] [(.int (1 : Int32))])
          refine GoH.st (fun t k => XS.iload X53.here hx rfl (hb hby at_219) rfl  k) ?_
          show GoH _ _ _ _ _ _ _ _ _ _  T53 (mkF m 221 #[.val (.int p1), .val (.int p2), .val (.int p3), .val (.int p4), .val (.int (0 : Int32)), .val (.int (1 : Int32)), .val (.int (0 : Int32)), .val (.int (0 : Int32)), .val (.ref b5), .val (.ref b8), .val (.ref b13), .val .null, .val (.ref b40), .val (.ref w_ADMIN), .val (.ref b45), .val (.ref b51), .val (.int (1 : Int32)), .unset, .unset] [(.int (1 : Int32)), (.int (1 : Int32))])
          refine GoH.st (fun t k => XS.icmpYes X53.here hx rfl (pc0 := 221) (pc' := 226) rfl (hb hby at_221) rfl (teq (rfl : (1 : Int32) = (1 : Int32))).1 (by decide) (by decide) k) ?_
          show GoH _ _ _ _ _ _ _ _ _ _  T53 (mkF m 226 #[.val (.int p1), .val (.int p2), .val (.int p3), .val (.int p4), .val (.int (0 : Int32)), .val (.int (1 : Int32)), .val (.int (0 : Int32)), .val (.int (0 : Int32)), .val (.ref b5), .val (.ref b8), .val (.ref b13), .val .null, .val (.ref b40), .val (.ref w_ADMIN), .val (.ref b45), .val (.ref b51), .val (.int (1 : Int32)), .unset, .unset] [])
          refine GoH.st (fun t k => XS.aload X53.here hx rfl (hb hby at_226) rfl rfl  k) ?_
          show GoH _ _ _ _ _ _ _ _ _ _  T53 (mkF m 228 #[.val (.int p1), .val (.int p2), .val (.int p3), .val (.int p4), .val (.int (0 : Int32)), .val (.int (1 : Int32)), .val (.int (0 : Int32)), .val (.int (0 : Int32)), .val (.ref b5), .val (.ref b8), .val (.ref b13), .val .null, .val (.ref b40), .val (.ref w_ADMIN), .val (.ref b45), .val (.ref b51), .val (.int (1 : Int32)), .unset, .unset] [(.ref b51)])
          obtain ⟨cq54, kq54, q54a, q54b, q54c⟩ := isOf hZ e53q E_b51
          obtain ⟨_, _, ⟨T54, L54, k54, n54⟩, -, X54, ⟨Lc54, hQ54, l54, y54, z54⟩, st54⟩ := X53.virtualBack hx (y := (⟨"com/example/wellness_on_record/wellnessonrecord/oauth/Principal", "isUserAppAlone", "()Z"⟩ : MethodName)) (z := (⟨"com/example/wellness_on_record/wellnessonrecord/oauth/Principal", "isUserAppAlone", "()Z"⟩ : MethodName)) hown (mvT hZ (hw _ (List.mem_of_getElem? (i := 91) rfl))) (mvT hZ (hw _ (List.mem_of_getElem? (i := 92) rfl))) (notFace_of_selects (args := #[]) (mvT hZ (hw _ (List.mem_of_getElem? (i := 94) rfl)))) (mvT hZ (hw _ (List.mem_of_getElem? (i := 94) rfl))) (mvT hZ (hw _ (List.mem_of_getElem? (i := 93) rfl))) (by decide) (backOf (W := 0) (rmU l Z a0 hw [] b51 b45 w_ADMIN .null (.ref b40) w_USER T52.heap n0 O Fa52 Fr52 Ft52 rfl rfl Fk50 E_b51 E_b45 S_USER) hZ (hw _ (List.mem_of_getElem? (i := 95) rfl)) (hw _ (List.mem_of_getElem? (i := 75) rfl)) (by decide) (by decide)) q54a q54c (g := (mkF m 228 #[.val (.int p1), .val (.int p2), .val (.int p3), .val (.int p4), .val (.int (0 : Int32)), .val (.int (1 : Int32)), .val (.int (0 : Int32)), .val (.int (0 : Int32)), .val (.ref b5), .val (.ref b8), .val (.ref b13), .val .null, .val (.ref b40), .val (.ref w_ADMIN), .val (.ref b45), .val (.ref b51), .val (.int (1 : Int32)), .unset, .unset] [(.ref b51)])) rfl (by rw [hml]; rfl) (Steps.refl _) (argsL := []) (rest := []) (lenOf pd___Z rfl) rfl (by show 2 * 0 + _ ≤ _; exact Nat.le_of_eq rfl) (hb hby at_228) (fun _ _ => ⟨rfl, e53q, (by decide : 15 + 0 ≤ _), (by decide : 99 + 0 ≤ _)⟩)
          dsimp only [Pt.U, Pt.locs, Pt.cells, Pt.slots] at X54 l54 y54 z54 st54 hQ54
          subst l54 y54 z54
          obtain ⟨rfl, N54q, e54q⟩ := hQ54
          have N54 := Fr.app N53 N54q
          refine GoH.tr st54 ?_
          rw [show (if w_ADMIN = w_USER then (if .null = Value.null then (if (.ref b40) = Value.null then (1 : Int32) else 0) else 0) else 0) = (0 : Int32) from by simp [nAU]]
          show GoH _ _ _ _ _ _ _ _ _ _  T54 (mkF m 231 #[.val (.int p1), .val (.int p2), .val (.int p3), .val (.int p4), .val (.int (0 : Int32)), .val (.int (1 : Int32)), .val (.int (0 : Int32)), .val (.int (0 : Int32)), .val (.ref b5), .val (.ref b8), .val (.ref b13), .val .null, .val (.ref b40), .val (.ref w_ADMIN), .val (.ref b45), .val (.ref b51), .val (.int (1 : Int32)), .unset, .unset] [(.int (0 : Int32))])
          refine GoH.st (fun t k => XS.istore X54.here hx rfl (hb hby at_231) rfl (l' := #[.val (.int p1), .val (.int p2), .val (.int p3), .val (.int p4), .val (.int (0 : Int32)), .val (.int (1 : Int32)), .val (.int (0 : Int32)), .val (.int (0 : Int32)), .val (.ref b5), .val (.ref b8), .val (.ref b13), .val .null, .val (.ref b40), .val (.ref w_ADMIN), .val (.ref b45), .val (.ref b51), .val (.int (1 : Int32)), .val (.int (0 : Int32)), .unset]) rfl k) ?_
          show GoH _ _ _ _ _ _ _ _ _ _  T54 (mkF m 233 #[.val (.int p1), .val (.int p2), .val (.int p3), .val (.int p4), .val (.int (0 : Int32)), .val (.int (1 : Int32)), .val (.int (0 : Int32)), .val (.int (0 : Int32)), .val (.ref b5), .val (.ref b8), .val (.ref b13), .val .null, .val (.ref b40), .val (.ref w_ADMIN), .val (.ref b45), .val (.ref b51), .val (.int (1 : Int32)), .val (.int (0 : Int32)), .unset] [])
          refine GoH.st (fun t k => XS.iload X54.here hx rfl (hb hby at_233) rfl  k) ?_
          show GoH _ _ _ _ _ _ _ _ _ _  T54 (mkF m 235 #[.val (.int p1), .val (.int p2), .val (.int p3), .val (.int p4), .val (.int (0 : Int32)), .val (.int (1 : Int32)), .val (.int (0 : Int32)), .val (.int (0 : Int32)), .val (.ref b5), .val (.ref b8), .val (.ref b13), .val .null, .val (.ref b40), .val (.ref w_ADMIN), .val (.ref b45), .val (.ref b51), .val (.int (1 : Int32)), .val (.int (0 : Int32)), .unset] [(.int (1 : Int32))])
          refine GoH.st (fun t k => XS.ifYes X54.here hx rfl (pc0 := 235) (pc' := 252) rfl (hb hby at_235) rfl ((if0 _ _).trans (feq (by decide : ¬ ((1 : Int32) = (0 : Int32)))).2) (by decide) (by decide) k) ?_
          show GoH _ _ _ _ _ _ _ _ _ _  T54 (mkF m 252 #[.val (.int p1), .val (.int p2), .val (.int p3), .val (.int p4), .val (.int (0 : Int32)), .val (.int (1 : Int32)), .val (.int (0 : Int32)), .val (.int (0 : Int32)), .val (.ref b5), .val (.ref b8), .val (.ref b13), .val .null, .val (.ref b40), .val (.ref w_ADMIN), .val (.ref b45), .val (.ref b51), .val (.int (1 : Int32)), .val (.int (0 : Int32)), .unset] [])
          refine GoH.st (fun t k => XS.iconst X54.here hx rfl (hb hby at_252) k) ?_
          show GoH _ _ _ _ _ _ _ _ _ _  T54 (mkF m 253 #[.val (.int p1), .val (.int p2), .val (.int p3), .val (.int p4), .val (.int (0 : Int32)), .val (.int (1 : Int32)), .val (.int (0 : Int32)), .val (.int (0 : Int32)), .val (.ref b5), .val (.ref b8), .val (.ref b13), .val .null, .val (.ref b40), .val (.ref w_ADMIN), .val (.ref b45), .val (.ref b51), .val (.int (1 : Int32)), .val (.int (0 : Int32)), .unset] [(.int (0 : Int32))])
          refine GoH.st (fun t k => XS.istore X54.here hx rfl (hb hby at_253) rfl (l' := #[.val (.int p1), .val (.int p2), .val (.int p3), .val (.int p4), .val (.int (0 : Int32)), .val (.int (1 : Int32)), .val (.int (0 : Int32)), .val (.int (0 : Int32)), .val (.ref b5), .val (.ref b8), .val (.ref b13), .val .null, .val (.ref b40), .val (.ref w_ADMIN), .val (.ref b45), .val (.ref b51), .val (.int (1 : Int32)), .val (.int (0 : Int32)), .val (.int (0 : Int32))]) rfl k) ?_
          show GoH _ _ _ _ _ _ _ _ _ _  T54 (mkF m 255 #[.val (.int p1), .val (.int p2), .val (.int p3), .val (.int p4), .val (.int (0 : Int32)), .val (.int (1 : Int32)), .val (.int (0 : Int32)), .val (.int (0 : Int32)), .val (.ref b5), .val (.ref b8), .val (.ref b13), .val .null, .val (.ref b40), .val (.ref w_ADMIN), .val (.ref b45), .val (.ref b51), .val (.int (1 : Int32)), .val (.int (0 : Int32)), .val (.int (0 : Int32))] [])
          refine GoH.st (fun t k => XS.iload X54.here hx rfl (hb hby at_255) rfl  k) ?_
          show GoH _ _ _ _ _ _ _ _ _ _  T54 (mkF m 257 #[.val (.int p1), .val (.int p2), .val (.int p3), .val (.int p4), .val (.int (0 : Int32)), .val (.int (1 : Int32)), .val (.int (0 : Int32)), .val (.int (0 : Int32)), .val (.ref b5), .val (.ref b8), .val (.ref b13), .val .null, .val (.ref b40), .val (.ref w_ADMIN), .val (.ref b45), .val (.ref b51), .val (.int (1 : Int32)), .val (.int (0 : Int32)), .val (.int (0 : Int32))] [(.int (0 : Int32))])
          refine GoH.st (fun t k => XS.iload X54.here hx rfl (hb hby at_257) rfl  k) ?_
          show GoH _ _ _ _ _ _ _ _ _ _  T54 (mkF m 259 #[.val (.int p1), .val (.int p2), .val (.int p3), .val (.int p4), .val (.int (0 : Int32)), .val (.int (1 : Int32)), .val (.int (0 : Int32)), .val (.int (0 : Int32)), .val (.ref b5), .val (.ref b8), .val (.ref b13), .val .null, .val (.ref b40), .val (.ref w_ADMIN), .val (.ref b45), .val (.ref b51), .val (.int (1 : Int32)), .val (.int (0 : Int32)), .val (.int (0 : Int32))] [(.int (0 : Int32)), (.int (0 : Int32))])
          refine GoH.st (fun t k => XS.icmpNo X54.here hx rfl (hb hby at_259) rfl (teq (rfl : (0 : Int32) = (0 : Int32))).2 k) ?_
          show GoH _ _ _ _ _ _ _ _ _ _  T54 (mkF m 262 #[.val (.int p1), .val (.int p2), .val (.int p3), .val (.int p4), .val (.int (0 : Int32)), .val (.int (1 : Int32)), .val (.int (0 : Int32)), .val (.int (0 : Int32)), .val (.ref b5), .val (.ref b8), .val (.ref b13), .val .null, .val (.ref b40), .val (.ref w_ADMIN), .val (.ref b45), .val (.ref b51), .val (.int (1 : Int32)), .val (.int (0 : Int32)), .val (.int (0 : Int32))] [])
          refine GoH.st (fun t k => XS.iconst X54.here hx rfl (hb hby at_262) k) ?_
          show GoH _ _ _ _ _ _ _ _ _ _  T54 (mkF m 263 #[.val (.int p1), .val (.int p2), .val (.int p3), .val (.int p4), .val (.int (0 : Int32)), .val (.int (1 : Int32)), .val (.int (0 : Int32)), .val (.int (0 : Int32)), .val (.ref b5), .val (.ref b8), .val (.ref b13), .val .null, .val (.ref b40), .val (.ref w_ADMIN), .val (.ref b45), .val (.ref b51), .val (.int (1 : Int32)), .val (.int (0 : Int32)), .val (.int (0 : Int32))] [(.int (1 : Int32))])
          refine GoH.st (fun t k => XS.goto X54.here hx rfl (pc0 := 263) (pc' := 267) rfl (hb hby at_263) (by decide) (by decide) k) ?_
          show GoH _ _ _ _ _ _ _ _ _ _  T54 (mkF m 267 #[.val (.int p1), .val (.int p2), .val (.int p3), .val (.int p4), .val (.int (0 : Int32)), .val (.int (1 : Int32)), .val (.int (0 : Int32)), .val (.int (0 : Int32)), .val (.ref b5), .val (.ref b8), .val (.ref b13), .val .null, .val (.ref b40), .val (.ref w_ADMIN), .val (.ref b45), .val (.ref b51), .val (.int (1 : Int32)), .val (.int (0 : Int32)), .val (.int (0 : Int32))] [(.int (1 : Int32))])
          refine GoH.retN X54 hS hk e54q hZ hEL HH RR hlk hx (t := .boolean) (z' := (1 : Int32)) Bd.returns (by simp) (hb hby at_267) (by decide) (by decide) rfl ?_
          show Q_rm0 Z _ _ _ _ _ _ _ h0 n0 _ T54.heap _
          rw [e54q]
          exact ⟨rfl, N54⟩
        · rw [sp43]
          show GoH _ _ _ _ _ _ _ _ _ _  T42 (mkF m 154 #[.val (.int p1), .val (.int p2), .val (.int p3), .val (.int p4), .val (.int (0 : Int32)), .val (.int (1 : Int32)), .val (.int (0 : Int32)), .val (.int (1 : Int32)), .val (.ref b5), .val (.ref b8), .val (.ref b13), .val .null, .val (.ref b40), .unset, .unset, .unset, .unset, .unset, .unset] [])
          refine GoH.st (fun t k => XS.iload X42.here hx rfl (hb hby at_154) rfl  k) ?_
          show GoH _ _ _ _ _ _ _ _ _ _  T42 (mkF m 156 #[.val (.int p1), .val (.int p2), .val (.int p3), .val (.int p4), .val (.int (0 : Int32)), .val (.int (1 : Int32)), .val (.int (0 : Int32)), .val (.int (1 : Int32)), .val (.ref b5), .val (.ref b8), .val (.ref b13), .val .null, .val (.ref b40), .unset, .unset, .unset, .unset, .unset, .unset] [(.int (1 : Int32))])
          refine GoH.st (fun t k => XS.ifNo X42.here hx rfl (hb hby at_156) rfl ((if0 _ _).trans (feq (by decide : ¬ ((1 : Int32) = (0 : Int32)))).1) k) ?_
          show GoH _ _ _ _ _ _ _ _ _ _  T42 (mkF m 159 #[.val (.int p1), .val (.int p2), .val (.int p3), .val (.int p4), .val (.int (0 : Int32)), .val (.int (1 : Int32)), .val (.int (0 : Int32)), .val (.int (1 : Int32)), .val (.ref b5), .val (.ref b8), .val (.ref b13), .val .null, .val (.ref b40), .unset, .unset, .unset, .unset, .unset, .unset] [])
          obtain ⟨T55, X55, e55, st55⟩ := getS2 X42 hx hZ hown (host := "") (Or.inl (hw _ (List.mem_of_getElem? (i := 100) rfl))) Via.refl rfl (S_USER.ext O.2) (g := (mkF m 159 #[.val (.int p1), .val (.int p2), .val (.int p3), .val (.int p4), .val (.int (0 : Int32)), .val (.int (1 : Int32)), .val (.int (0 : Int32)), .val (.int (1 : Int32)), .val (.ref b5), .val (.ref b8), .val (.ref b13), .val .null, .val (.ref b40), .unset, .unset, .unset, .unset, .unset, .unset] [])) rfl (hb hby at_159)
          refine GoH.st st55 ?_
          show GoH _ _ _ _ _ _ _ _ _ _  T55 (mkF m 162 #[.val (.int p1), .val (.int p2), .val (.int p3), .val (.int p4), .val (.int (0 : Int32)), .val (.int (1 : Int32)), .val (.int (0 : Int32)), .val (.int (1 : Int32)), .val (.ref b5), .val (.ref b8), .val (.ref b13), .val .null, .val (.ref b40), .unset, .unset, .unset, .unset, .unset, .unset] [(.ref w_USER)])
          refine GoH.st (fun t k => XS.goto X55.here hx rfl (pc0 := 162) (pc' := 168) rfl (hb hby at_162) (by decide) (by decide) k) ?_
          show GoH _ _ _ _ _ _ _ _ _ _  T55 (mkF m 168 #[.val (.int p1), .val (.int p2), .val (.int p3), .val (.int p4), .val (.int (0 : Int32)), .val (.int (1 : Int32)), .val (.int (0 : Int32)), .val (.int (1 : Int32)), .val (.ref b5), .val (.ref b8), .val (.ref b13), .val .null, .val (.ref b40), .unset, .unset, .unset, .unset, .unset, .unset] [(.ref w_USER)])
          refine GoH.st (fun t k => XS.astore X55.here hx rfl (hb hby at_168) rfl rfl (l' := #[.val (.int p1), .val (.int p2), .val (.int p3), .val (.int p4), .val (.int (0 : Int32)), .val (.int (1 : Int32)), .val (.int (0 : Int32)), .val (.int (1 : Int32)), .val (.ref b5), .val (.ref b8), .val (.ref b13), .val .null, .val (.ref b40), .val (.ref w_USER), .unset, .unset, .unset, .unset, .unset]) rfl k) ?_
          show GoH _ _ _ _ _ _ _ _ _ _  T55 (mkF m 170 #[.val (.int p1), .val (.int p2), .val (.int p3), .val (.int p4), .val (.int (0 : Int32)), .val (.int (1 : Int32)), .val (.int (0 : Int32)), .val (.int (1 : Int32)), .val (.ref b5), .val (.ref b8), .val (.ref b13), .val .null, .val (.ref b40), .val (.ref w_USER), .unset, .unset, .unset, .unset, .unset] [])
          obtain ⟨T56, h56, X56, e56, E56, A56, D56, -, st56⟩ := newO X55 hx hZ hown (hw _ (List.mem_of_getElem? (i := 33) rfl)) (hw _ (List.mem_of_getElem? (i := 34) rfl)) (hw _ (List.mem_of_getElem? (i := 35) rfl)) e55 (g := (mkF m 170 #[.val (.int p1), .val (.int p2), .val (.int p3), .val (.int p4), .val (.int (0 : Int32)), .val (.int (1 : Int32)), .val (.int (0 : Int32)), .val (.int (1 : Int32)), .val (.ref b5), .val (.ref b8), .val (.ref b13), .val .null, .val (.ref b40), .val (.ref w_USER), .unset, .unset, .unset, .unset, .unset] [])) rfl (hb hby at_170) (by decide) (by decide)
          obtain ⟨b56, g56⟩ : ∃ z, z = T42.heap.size := ⟨_, rfl⟩
          rw [← g56] at A56 D56 st56
          refine GoH.st st56 ?_
          have g_b56 : n0 ≤ b56 := by rw [g56]; exact own_le O
          have Sf_b56 : Safe Z EL s.vm T42.heap b56 := Safe.new (Nat.le_of_eq g56.symm)
          have sz_b56 : h0.size ≤ b56 := by rw [g56]; exact KK.1
          have ne_b5_b56 : b5 ≠ b56 := Nat.ne_of_lt (by rw [g56]; exact V_b5.lt)
          have ne_b8_b56 : b8 ≠ b56 := Nat.ne_of_lt (by rw [g56]; exact V_b8.lt)
          have ne_b13_b56 : b13 ≠ b56 := Nat.ne_of_lt (by rw [g56]; exact V_b13.lt)
          have V_b5 := V_b5.ext E56
          have V_b8 := V_b8.ext E56
          have V_b13 := V_b13.ext E56
          have Sf_b5 := Safe.ext E56 HH Sf_b5
          have Sf_b8 := Safe.ext E56 HH Sf_b8
          have Sf_b13 := Safe.ext E56 HH Sf_b13
          have Sf_b56 := Safe.ext E56 HH Sf_b56
          have RR := RR.trans (CHr.ext E56 HH)
          have HH := HH.ext E56
          have hk := Nat.le_trans hk E56.1
          have O := O.ext E56
          have KK := KK.ext E56
          have E_b56 := A56
          have F_id_b56 : Fld Z h56 b56 "com/example/wellness_on_record/wellnessonrecord/apps/App" "id" "Ljava/lang/String;" .null := D56 (Or.inr (hw _ (List.mem_of_getElem? (i := 52) rfl))) (ty := (.object "java/lang/String")) (by decide)
          have F_name_b56 : Fld Z h56 b56 "com/example/wellness_on_record/wellnessonrecord/apps/App" "name" "Ljava/lang/String;" .null := D56 (Or.inr (hw _ (List.mem_of_getElem? (i := 54) rfl))) (ty := (.object "java/lang/String")) (by decide)
          have F_kind_b56 : Fld Z h56 b56 "com/example/wellness_on_record/wellnessonrecord/apps/App" "kind" "Lcom/example/wellness_on_record/wellnessonrecord/apps/App$Kind;" .null := D56 (Or.inr (hw _ (List.mem_of_getElem? (i := 56) rfl))) (ty := (.object "com/example/wellness_on_record/wellnessonrecord/apps/App$Kind")) (by decide)
          have F_consumerKey_b56 : Fld Z h56 b56 "com/example/wellness_on_record/wellnessonrecord/apps/App" "consumerKey" "Ljava/lang/String;" .null := D56 (Or.inr (hw _ (List.mem_of_getElem? (i := 58) rfl))) (ty := (.object "java/lang/String")) (by decide)
          have F_consumerSecret_b56 : Fld Z h56 b56 "com/example/wellness_on_record/wellnessonrecord/apps/App" "consumerSecret" "Ljava/lang/String;" .null := D56 (Or.inr (hw _ (List.mem_of_getElem? (i := 60) rfl))) (ty := (.object "java/lang/String")) (by decide)
          have F_autonomous_b56 : Fld Z h56 b56 "com/example/wellness_on_record/wellnessonrecord/apps/App" "autonomous" "Z" (.int (0 : Int32)) := D56 (Or.inr (hw _ (List.mem_of_getElem? (i := 62) rfl))) (ty := .boolean) (by decide)
          have F_autonomousReason_b56 : Fld Z h56 b56 "com/example/wellness_on_record/wellnessonrecord/apps/App" "autonomousReason" "Ljava/lang/String;" .null := D56 (Or.inr (hw _ (List.mem_of_getElem? (i := 64) rfl))) (ty := (.object "java/lang/String")) (by decide)
          have F_hasUi_b56 : Fld Z h56 b56 "com/example/wellness_on_record/wellnessonrecord/apps/App" "hasUi" "Z" (.int (0 : Int32)) := D56 (Or.inr (hw _ (List.mem_of_getElem? (i := 66) rfl))) (ty := .boolean) (by decide)
          have F_callbackUrl_b56 : Fld Z h56 b56 "com/example/wellness_on_record/wellnessonrecord/apps/App" "callbackUrl" "Ljava/lang/String;" .null := D56 (Or.inr (hw _ (List.mem_of_getElem? (i := 68) rfl))) (ty := (.object "java/lang/String")) (by decide)
          have F_startUrlTemplate_b56 : Fld Z h56 b56 "com/example/wellness_on_record/wellnessonrecord/apps/App" "startUrlTemplate" "Ljava/lang/String;" .null := D56 (Or.inr (hw _ (List.mem_of_getElem? (i := 70) rfl))) (ty := (.object "java/lang/String")) (by decide)
          have F_frameable_b56 : Fld Z h56 b56 "com/example/wellness_on_record/wellnessonrecord/apps/App" "frameable" "Z" (.int (0 : Int32)) := D56 (Or.inr (hw _ (List.mem_of_getElem? (i := 72) rfl))) (ty := .boolean) (by decide)
          show GoH _ _ _ _ _ _ _ _ _ _  T56 (mkF m 173 #[.val (.int p1), .val (.int p2), .val (.int p3), .val (.int p4), .val (.int (0 : Int32)), .val (.int (1 : Int32)), .val (.int (0 : Int32)), .val (.int (1 : Int32)), .val (.ref b5), .val (.ref b8), .val (.ref b13), .val .null, .val (.ref b40), .val (.ref w_USER), .unset, .unset, .unset, .unset, .unset] [(.ref b56)])
          refine GoH.st (fun t k => XS.dup X56.here hx rfl (hb hby at_173) rfl rfl k) ?_
          show GoH _ _ _ _ _ _ _ _ _ _  T56 (mkF m 174 #[.val (.int p1), .val (.int p2), .val (.int p3), .val (.int p4), .val (.int (0 : Int32)), .val (.int (1 : Int32)), .val (.int (0 : Int32)), .val (.int (1 : Int32)), .val (.ref b5), .val (.ref b8), .val (.ref b13), .val .null, .val (.ref b40), .val (.ref w_USER), .unset, .unset, .unset, .unset, .unset] [(.ref b56), (.ref b56)])
          obtain ⟨sa57, T57, h57, kk57, sb57, kb57, X57, e57, E57, hS57, hk57, hZ57, ho57, E_sa57, F_coder_sa57, F_value_sa57, V_sb57, la57, lb57, CR57, Lt57, ns57, st57⟩ := ldcCH X56 hx hZ hown (hw _ (List.mem_of_getElem? (i := 36) rfl)) wS e56 hS hk hEL (List.mem_of_getElem? (i := 0) rfl) HH (vs := [(.int (105 : Int32)), (.int (100 : Int32))]) (z := 2) ⟨by decide, by decide⟩ (by decide) rfl (g := (mkF m 174 #[.val (.int p1), .val (.int p2), .val (.int p3), .val (.int p4), .val (.int (0 : Int32)), .val (.int (1 : Int32)), .val (.int (0 : Int32)), .val (.int (1 : Int32)), .val (.ref b5), .val (.ref b8), .val (.ref b13), .val .null, .val (.ref b40), .val (.ref w_USER), .unset, .unset, .unset, .unset, .unset] [(.ref b56), (.ref b56)])) rfl (hb hby at_174) (n := 8) (by decide) (by decide) (by decide) (by decide)
          refine GoH.st st57 ?_
          have Sf_b5 := CHr.safe CR57 V_b5.lt Sf_b5
          have Sf_b8 := CHr.safe CR57 V_b8.lt Sf_b8
          have Sf_b13 := CHr.safe CR57 V_b13.lt Sf_b13
          have Sf_b56 := CHr.safe CR57 E_b56.lt Sf_b56
          have V_b5 := V_b5.ext E57
          have V_b8 := V_b8.ext E57
          have V_b13 := V_b13.ext E57
          have E_b56 := E_b56.ext E57
          have F_id_b56 := F_id_b56.ext E57
          have F_name_b56 := F_name_b56.ext E57
          have F_kind_b56 := F_kind_b56.ext E57
          have F_consumerKey_b56 := F_consumerKey_b56.ext E57
          have F_consumerSecret_b56 := F_consumerSecret_b56.ext E57
          have F_autonomous_b56 := F_autonomous_b56.ext E57
          have F_autonomousReason_b56 := F_autonomousReason_b56.ext E57
          have F_hasUi_b56 := F_hasUi_b56.ext E57
          have F_callbackUrl_b56 := F_callbackUrl_b56.ext E57
          have F_startUrlTemplate_b56 := F_startUrlTemplate_b56.ext E57
          have F_frameable_b56 := F_frameable_b56.ext E57
          have O := O.ext E57
          have KK := KK.ext E57
          have RR := RR.trans CR57
          have HH := CR57.1
          have hS := hS57
          have hk := hk57
          have hZ := hZ57
          have hown := ho57
          show GoH _ _ _ _ _ _ _ _ _ _  T57 (mkF m 176 #[.val (.int p1), .val (.int p2), .val (.int p3), .val (.int p4), .val (.int (0 : Int32)), .val (.int (1 : Int32)), .val (.int (0 : Int32)), .val (.int (1 : Int32)), .val (.ref b5), .val (.ref b8), .val (.ref b13), .val .null, .val (.ref b40), .val (.ref w_USER), .unset, .unset, .unset, .unset, .unset] [(.ref sa57), (.ref b56), (.ref b56)])
          obtain ⟨sa58, T58, h58, kk58, sb58, kb58, X58, e58, E58, hS58, hk58, hZ58, ho58, E_sa58, F_coder_sa58, F_value_sa58, V_sb58, la58, lb58, CR58, Lt58, ns58, st58⟩ := ldcCH X57 hx hZ hown (hw _ (List.mem_of_getElem? (i := 39) rfl)) wS e57 hS hk hEL (List.mem_of_getElem? (i := 1) rfl) HH (vs := [(.int (110 : Int32)), (.int (97 : Int32)), (.int (109 : Int32)), (.int (101 : Int32))]) (z := 4) ⟨by decide, by decide⟩ (by decide) rfl (g := (mkF m 176 #[.val (.int p1), .val (.int p2), .val (.int p3), .val (.int p4), .val (.int (0 : Int32)), .val (.int (1 : Int32)), .val (.int (0 : Int32)), .val (.int (1 : Int32)), .val (.ref b5), .val (.ref b8), .val (.ref b13), .val .null, .val (.ref b40), .val (.ref w_USER), .unset, .unset, .unset, .unset, .unset] [(.ref sa57), (.ref b56), (.ref b56)])) rfl (hb hby at_176) (n := 16) (by decide) (by decide) (by decide) (by decide)
          refine GoH.st st58 ?_
          have Sf_b5 := CHr.safe CR58 V_b5.lt Sf_b5
          have Sf_b8 := CHr.safe CR58 V_b8.lt Sf_b8
          have Sf_b13 := CHr.safe CR58 V_b13.lt Sf_b13
          have Sf_b56 := CHr.safe CR58 E_b56.lt Sf_b56
          have V_b5 := V_b5.ext E58
          have V_b8 := V_b8.ext E58
          have V_b13 := V_b13.ext E58
          have E_b56 := E_b56.ext E58
          have F_id_b56 := F_id_b56.ext E58
          have F_name_b56 := F_name_b56.ext E58
          have F_kind_b56 := F_kind_b56.ext E58
          have F_consumerKey_b56 := F_consumerKey_b56.ext E58
          have F_consumerSecret_b56 := F_consumerSecret_b56.ext E58
          have F_autonomous_b56 := F_autonomous_b56.ext E58
          have F_autonomousReason_b56 := F_autonomousReason_b56.ext E58
          have F_hasUi_b56 := F_hasUi_b56.ext E58
          have F_callbackUrl_b56 := F_callbackUrl_b56.ext E58
          have F_startUrlTemplate_b56 := F_startUrlTemplate_b56.ext E58
          have F_frameable_b56 := F_frameable_b56.ext E58
          have O := O.ext E58
          have KK := KK.ext E58
          have RR := RR.trans CR58
          have HH := CR58.1
          have hS := hS58
          have hk := hk58
          have hZ := hZ58
          have hown := ho58
          show GoH _ _ _ _ _ _ _ _ _ _  T58 (mkF m 178 #[.val (.int p1), .val (.int p2), .val (.int p3), .val (.int p4), .val (.int (0 : Int32)), .val (.int (1 : Int32)), .val (.int (0 : Int32)), .val (.int (1 : Int32)), .val (.ref b5), .val (.ref b8), .val (.ref b13), .val .null, .val (.ref b40), .val (.ref w_USER), .unset, .unset, .unset, .unset, .unset] [(.ref sa58), (.ref sa57), (.ref b56), (.ref b56)])
          refine GoH.st (fun t k => XS.aload X58.here hx rfl (hb hby at_178) rfl rfl  k) ?_
          show GoH _ _ _ _ _ _ _ _ _ _  T58 (mkF m 180 #[.val (.int p1), .val (.int p2), .val (.int p3), .val (.int p4), .val (.int (0 : Int32)), .val (.int (1 : Int32)), .val (.int (0 : Int32)), .val (.int (1 : Int32)), .val (.ref b5), .val (.ref b8), .val (.ref b13), .val .null, .val (.ref b40), .val (.ref w_USER), .unset, .unset, .unset, .unset, .unset] [(.ref w_USER), (.ref sa58), (.ref sa57), (.ref b56), (.ref b56)])
          obtain ⟨sa59, T59, h59, kk59, sb59, kb59, X59, e59, E59, hS59, hk59, hZ59, ho59, E_sa59, F_coder_sa59, F_value_sa59, V_sb59, la59, lb59, CR59, Lt59, ns59, st59⟩ := ldcCH X58 hx hZ hown (hw _ (List.mem_of_getElem? (i := 40) rfl)) wS e58 hS hk hEL (List.mem_of_getElem? (i := 2) rfl) HH (vs := [(.int (107 : Int32)), (.int (101 : Int32)), (.int (121 : Int32))]) (z := 3) ⟨by decide, by decide⟩ (by decide) rfl (g := (mkF m 180 #[.val (.int p1), .val (.int p2), .val (.int p3), .val (.int p4), .val (.int (0 : Int32)), .val (.int (1 : Int32)), .val (.int (0 : Int32)), .val (.int (1 : Int32)), .val (.ref b5), .val (.ref b8), .val (.ref b13), .val .null, .val (.ref b40), .val (.ref w_USER), .unset, .unset, .unset, .unset, .unset] [(.ref w_USER), (.ref sa58), (.ref sa57), (.ref b56), (.ref b56)])) rfl (hb hby at_180) (n := 12) (by decide) (by decide) (by decide) (by decide)
          refine GoH.st st59 ?_
          have Sf_b5 := CHr.safe CR59 V_b5.lt Sf_b5
          have Sf_b8 := CHr.safe CR59 V_b8.lt Sf_b8
          have Sf_b13 := CHr.safe CR59 V_b13.lt Sf_b13
          have Sf_b56 := CHr.safe CR59 E_b56.lt Sf_b56
          have V_b5 := V_b5.ext E59
          have V_b8 := V_b8.ext E59
          have V_b13 := V_b13.ext E59
          have E_b56 := E_b56.ext E59
          have F_id_b56 := F_id_b56.ext E59
          have F_name_b56 := F_name_b56.ext E59
          have F_kind_b56 := F_kind_b56.ext E59
          have F_consumerKey_b56 := F_consumerKey_b56.ext E59
          have F_consumerSecret_b56 := F_consumerSecret_b56.ext E59
          have F_autonomous_b56 := F_autonomous_b56.ext E59
          have F_autonomousReason_b56 := F_autonomousReason_b56.ext E59
          have F_hasUi_b56 := F_hasUi_b56.ext E59
          have F_callbackUrl_b56 := F_callbackUrl_b56.ext E59
          have F_startUrlTemplate_b56 := F_startUrlTemplate_b56.ext E59
          have F_frameable_b56 := F_frameable_b56.ext E59
          have O := O.ext E59
          have KK := KK.ext E59
          have RR := RR.trans CR59
          have HH := CR59.1
          have hS := hS59
          have hk := hk59
          have hZ := hZ59
          have hown := ho59
          show GoH _ _ _ _ _ _ _ _ _ _  T59 (mkF m 182 #[.val (.int p1), .val (.int p2), .val (.int p3), .val (.int p4), .val (.int (0 : Int32)), .val (.int (1 : Int32)), .val (.int (0 : Int32)), .val (.int (1 : Int32)), .val (.ref b5), .val (.ref b8), .val (.ref b13), .val .null, .val (.ref b40), .val (.ref w_USER), .unset, .unset, .unset, .unset, .unset] [(.ref sa59), (.ref w_USER), (.ref sa58), (.ref sa57), (.ref b56), (.ref b56)])
          obtain ⟨sa60, T60, h60, kk60, sb60, kb60, X60, e60, E60, hS60, hk60, hZ60, ho60, E_sa60, F_coder_sa60, F_value_sa60, V_sb60, la60, lb60, CR60, Lt60, ns60, st60⟩ := ldcCH X59 hx hZ hown (hw _ (List.mem_of_getElem? (i := 41) rfl)) wS e59 hS hk hEL (List.mem_of_getElem? (i := 3) rfl) HH (vs := [(.int (115 : Int32)), (.int (101 : Int32)), (.int (99 : Int32)), (.int (114 : Int32)), (.int (101 : Int32)), (.int (116 : Int32))]) (z := 6) ⟨by decide, by decide⟩ (by decide) rfl (g := (mkF m 182 #[.val (.int p1), .val (.int p2), .val (.int p3), .val (.int p4), .val (.int (0 : Int32)), .val (.int (1 : Int32)), .val (.int (0 : Int32)), .val (.int (1 : Int32)), .val (.ref b5), .val (.ref b8), .val (.ref b13), .val .null, .val (.ref b40), .val (.ref w_USER), .unset, .unset, .unset, .unset, .unset] [(.ref sa59), (.ref w_USER), (.ref sa58), (.ref sa57), (.ref b56), (.ref b56)])) rfl (hb hby at_182) (n := 24) (by decide) (by decide) (by decide) (by decide)
          refine GoH.st st60 ?_
          have Sf_b5 := CHr.safe CR60 V_b5.lt Sf_b5
          have Sf_b8 := CHr.safe CR60 V_b8.lt Sf_b8
          have Sf_b13 := CHr.safe CR60 V_b13.lt Sf_b13
          have Sf_b56 := CHr.safe CR60 E_b56.lt Sf_b56
          have V_b5 := V_b5.ext E60
          have V_b8 := V_b8.ext E60
          have V_b13 := V_b13.ext E60
          have E_b56 := E_b56.ext E60
          have F_id_b56 := F_id_b56.ext E60
          have F_name_b56 := F_name_b56.ext E60
          have F_kind_b56 := F_kind_b56.ext E60
          have F_consumerKey_b56 := F_consumerKey_b56.ext E60
          have F_consumerSecret_b56 := F_consumerSecret_b56.ext E60
          have F_autonomous_b56 := F_autonomous_b56.ext E60
          have F_autonomousReason_b56 := F_autonomousReason_b56.ext E60
          have F_hasUi_b56 := F_hasUi_b56.ext E60
          have F_callbackUrl_b56 := F_callbackUrl_b56.ext E60
          have F_startUrlTemplate_b56 := F_startUrlTemplate_b56.ext E60
          have F_frameable_b56 := F_frameable_b56.ext E60
          have O := O.ext E60
          have KK := KK.ext E60
          have RR := RR.trans CR60
          have HH := CR60.1
          have hS := hS60
          have hk := hk60
          have hZ := hZ60
          have hown := ho60
          show GoH _ _ _ _ _ _ _ _ _ _  T60 (mkF m 184 #[.val (.int p1), .val (.int p2), .val (.int p3), .val (.int p4), .val (.int (0 : Int32)), .val (.int (1 : Int32)), .val (.int (0 : Int32)), .val (.int (1 : Int32)), .val (.ref b5), .val (.ref b8), .val (.ref b13), .val .null, .val (.ref b40), .val (.ref w_USER), .unset, .unset, .unset, .unset, .unset] [(.ref sa60), (.ref sa59), (.ref w_USER), (.ref sa58), (.ref sa57), (.ref b56), (.ref b56)])
          refine GoH.st (fun t k => XS.iconst X60.here hx rfl (hb hby at_184) k) ?_
          show GoH _ _ _ _ _ _ _ _ _ _  T60 (mkF m 185 #[.val (.int p1), .val (.int p2), .val (.int p3), .val (.int p4), .val (.int (0 : Int32)), .val (.int (1 : Int32)), .val (.int (0 : Int32)), .val (.int (1 : Int32)), .val (.ref b5), .val (.ref b8), .val (.ref b13), .val .null, .val (.ref b40), .val (.ref w_USER), .unset, .unset, .unset, .unset, .unset] [(.int (0 : Int32)), (.ref sa60), (.ref sa59), (.ref w_USER), (.ref sa58), (.ref sa57), (.ref b56), (.ref b56)])
          refine GoH.st (fun t k => XS.aconstNull X60.here hx rfl (hb hby at_185) k) ?_
          show GoH _ _ _ _ _ _ _ _ _ _  T60 (mkF m 186 #[.val (.int p1), .val (.int p2), .val (.int p3), .val (.int p4), .val (.int (0 : Int32)), .val (.int (1 : Int32)), .val (.int (0 : Int32)), .val (.int (1 : Int32)), .val (.ref b5), .val (.ref b8), .val (.ref b13), .val .null, .val (.ref b40), .val (.ref w_USER), .unset, .unset, .unset, .unset, .unset] [.null, (.int (0 : Int32)), (.ref sa60), (.ref sa59), (.ref w_USER), (.ref sa58), (.ref sa57), (.ref b56), (.ref b56)])
          refine GoH.st (fun t k => XS.iconst X60.here hx rfl (hb hby at_186) k) ?_
          show GoH _ _ _ _ _ _ _ _ _ _  T60 (mkF m 187 #[.val (.int p1), .val (.int p2), .val (.int p3), .val (.int p4), .val (.int (0 : Int32)), .val (.int (1 : Int32)), .val (.int (0 : Int32)), .val (.int (1 : Int32)), .val (.ref b5), .val (.ref b8), .val (.ref b13), .val .null, .val (.ref b40), .val (.ref w_USER), .unset, .unset, .unset, .unset, .unset] [(.int (0 : Int32)), .null, (.int (0 : Int32)), (.ref sa60), (.ref sa59), (.ref w_USER), (.ref sa58), (.ref sa57), (.ref b56), (.ref b56)])
          refine GoH.st (fun t k => XS.aconstNull X60.here hx rfl (hb hby at_187) k) ?_
          show GoH _ _ _ _ _ _ _ _ _ _  T60 (mkF m 188 #[.val (.int p1), .val (.int p2), .val (.int p3), .val (.int p4), .val (.int (0 : Int32)), .val (.int (1 : Int32)), .val (.int (0 : Int32)), .val (.int (1 : Int32)), .val (.ref b5), .val (.ref b8), .val (.ref b13), .val .null, .val (.ref b40), .val (.ref w_USER), .unset, .unset, .unset, .unset, .unset] [.null, (.int (0 : Int32)), .null, (.int (0 : Int32)), (.ref sa60), (.ref sa59), (.ref w_USER), (.ref sa58), (.ref sa57), (.ref b56), (.ref b56)])
          refine GoH.st (fun t k => XS.aconstNull X60.here hx rfl (hb hby at_188) k) ?_
          show GoH _ _ _ _ _ _ _ _ _ _  T60 (mkF m 189 #[.val (.int p1), .val (.int p2), .val (.int p3), .val (.int p4), .val (.int (0 : Int32)), .val (.int (1 : Int32)), .val (.int (0 : Int32)), .val (.int (1 : Int32)), .val (.ref b5), .val (.ref b8), .val (.ref b13), .val .null, .val (.ref b40), .val (.ref w_USER), .unset, .unset, .unset, .unset, .unset] [.null, .null, (.int (0 : Int32)), .null, (.int (0 : Int32)), (.ref sa60), (.ref sa59), (.ref w_USER), (.ref sa58), (.ref sa57), (.ref b56), (.ref b56)])
          refine GoH.st (fun t k => XS.iconst X60.here hx rfl (hb hby at_189) k) ?_
          show GoH _ _ _ _ _ _ _ _ _ _  T60 (mkF m 190 #[.val (.int p1), .val (.int p2), .val (.int p3), .val (.int p4), .val (.int (0 : Int32)), .val (.int (1 : Int32)), .val (.int (0 : Int32)), .val (.int (1 : Int32)), .val (.ref b5), .val (.ref b8), .val (.ref b13), .val .null, .val (.ref b40), .val (.ref w_USER), .unset, .unset, .unset, .unset, .unset] [(.int (0 : Int32)), .null, .null, (.int (0 : Int32)), .null, (.int (0 : Int32)), (.ref sa60), (.ref sa59), (.ref w_USER), (.ref sa58), (.ref sa57), (.ref b56), (.ref b56)])
          obtain ⟨_, _, ⟨T61, L61, k61, n61⟩, -, X61, ⟨Lc61, hQ61, l61, y61, z61⟩, st61⟩ := X60.specialBack hx (y := (⟨"com/example/wellness_on_record/wellnessonrecord/apps/App", "<init>", "(Ljava/lang/String;Ljava/lang/String;Lcom/example/wellness_on_record/wellnessonrecord/apps/App$Kind;Ljava/lang/String;Ljava/lang/String;ZLjava/lang/String;ZLjava/lang/String;Ljava/lang/String;Z)V"⟩ : MethodName)) rfl hown (mvT hZ (hw _ (List.mem_of_getElem? (i := 42) rfl))) (mvT hZ (hw _ (List.mem_of_getElem? (i := 43) rfl))) (mvT hZ (hw _ (List.mem_of_getElem? (i := 44) rfl))) (by decide) (backOf (W := 1) (rmA l Z a0 hw [] b56 sa57 sa58 w_USER sa59 sa60 h60 n0 O E_b56 F_id_b56 F_name_b56 F_kind_b56 F_consumerKey_b56 F_consumerSecret_b56 F_autonomous_b56 F_autonomousReason_b56 F_hasUi_b56 F_callbackUrl_b56 F_startUrlTemplate_b56 F_frameable_b56 g_b56) hZ (hw _ (List.mem_of_getElem? (i := 44) rfl)) (hw _ (List.mem_of_getElem? (i := 35) rfl)) (by decide) (by decide)) (g := (mkF m 190 #[.val (.int p1), .val (.int p2), .val (.int p3), .val (.int p4), .val (.int (0 : Int32)), .val (.int (1 : Int32)), .val (.int (0 : Int32)), .val (.int (1 : Int32)), .val (.ref b5), .val (.ref b8), .val (.ref b13), .val .null, .val (.ref b40), .val (.ref w_USER), .unset, .unset, .unset, .unset, .unset] [(.int (0 : Int32)), .null, .null, (.int (0 : Int32)), .null, (.int (0 : Int32)), (.ref sa60), (.ref sa59), (.ref w_USER), (.ref sa58), (.ref sa57), (.ref b56), (.ref b56)])) rfl (by rw [hml]; rfl) (Steps.refl _) (a := b56) (argsL := [(.ref sa57), (.ref sa58), (.ref w_USER), (.ref sa59), (.ref sa60), (.int (0 : Int32)), .null, (.int (0 : Int32)), .null, .null, (.int (0 : Int32))]) (rest := [(.ref b56)]) (lenOf pd__Ljava_lang_String_Ljava_lang_String_Lcom_example_wellness_on_record_wellnessonrecord_apps_App_Kind_Ljava_lang_String_Ljava_lang_String_ZLjava_lang_String_ZLjava_lang_String_Ljava_lang_String_Z_V rfl) rfl (by show 2 * 0 + _ ≤ _; exact Nat.le_of_eq rfl) (hb hby at_190) (fun _ _ => ⟨rfl, e60, (by decide : 14 + 0 ≤ _), (by decide : 96 + 0 ≤ _)⟩)
          dsimp only [Pt.U, Pt.locs, Pt.cells, Pt.slots] at X61 l61 y61 z61 st61 hQ61
          subst l61 y61 z61
          obtain ⟨rfl, N61q, K61q, Eq61, Fk61⟩ := hQ61
          have N61 := Fr.app N42 N61q
          refine GoH.tr st61 ?_
          have V_b5 := V_b5.keep K61q (ninS ne_b5_b56 nin0)
          have V_b8 := V_b8.keep K61q (ninS ne_b8_b56 nin0)
          have V_b13 := V_b13.keep K61q (ninS ne_b13_b56 nin0)
          have E_b56 := E_b56.keep K61q
          have sfw61 := (sfS Sf_b56 sf0)
          have Sf_b5 := Safe.keep K61q sfw61 HH Sf_b5
          have Sf_b8 := Safe.keep K61q sfw61 HH Sf_b8
          have Sf_b13 := Safe.keep K61q sfw61 HH Sf_b13
          have Sf_b56 := Safe.keep K61q sfw61 HH Sf_b56
          have RR := RR.trans (CHr.keep K61q sfw61 HH)
          have HH := HH.keep K61q sfw61
          have hk := Nat.le_trans hk K61q.1
          have O := O.keep K61q (allS g_b56 all0)
          have KK := KK.trans K61q (allS (Or.inr sz_b56) all0)
          have E_b56 := Eq61
          show GoH _ _ _ _ _ _ _ _ _ _  T61 (mkF m 193 #[.val (.int p1), .val (.int p2), .val (.int p3), .val (.int p4), .val (.int (0 : Int32)), .val (.int (1 : Int32)), .val (.int (0 : Int32)), .val (.int (1 : Int32)), .val (.ref b5), .val (.ref b8), .val (.ref b13), .val .null, .val (.ref b40), .val (.ref w_USER), .unset, .unset, .unset, .unset, .unset] [(.ref b56)])
          refine GoH.st (fun t k => XS.astore X61.here hx rfl (hb hby at_193) rfl rfl (l' := #[.val (.int p1), .val (.int p2), .val (.int p3), .val (.int p4), .val (.int (0 : Int32)), .val (.int (1 : Int32)), .val (.int (0 : Int32)), .val (.int (1 : Int32)), .val (.ref b5), .val (.ref b8), .val (.ref b13), .val .null, .val (.ref b40), .val (.ref w_USER), .val (.ref b56), .unset, .unset, .unset, .unset]) rfl k) ?_
          show GoH _ _ _ _ _ _ _ _ _ _  T61 (mkF m 195 #[.val (.int p1), .val (.int p2), .val (.int p3), .val (.int p4), .val (.int (0 : Int32)), .val (.int (1 : Int32)), .val (.int (0 : Int32)), .val (.int (1 : Int32)), .val (.ref b5), .val (.ref b8), .val (.ref b13), .val .null, .val (.ref b40), .val (.ref w_USER), .val (.ref b56), .unset, .unset, .unset, .unset] [])
          obtain ⟨T62, h62, X62, e62, E62, A62, D62, -, st62⟩ := newO X61 hx hZ hown (hw _ (List.mem_of_getElem? (i := 73) rfl)) (hw _ (List.mem_of_getElem? (i := 74) rfl)) (hw _ (List.mem_of_getElem? (i := 75) rfl)) rfl (g := (mkF m 195 #[.val (.int p1), .val (.int p2), .val (.int p3), .val (.int p4), .val (.int (0 : Int32)), .val (.int (1 : Int32)), .val (.int (0 : Int32)), .val (.int (1 : Int32)), .val (.ref b5), .val (.ref b8), .val (.ref b13), .val .null, .val (.ref b40), .val (.ref w_USER), .val (.ref b56), .unset, .unset, .unset, .unset] [])) rfl (hb hby at_195) (by decide) (by decide)
          obtain ⟨b62, g62⟩ : ∃ z, z = T61.heap.size := ⟨_, rfl⟩
          rw [← g62] at A62 D62 st62
          refine GoH.st st62 ?_
          have g_b62 : n0 ≤ b62 := by rw [g62]; exact own_le O
          have Sf_b62 : Safe Z EL T60.vm T61.heap b62 := Safe.new (Nat.le_of_eq g62.symm)
          have sz_b62 : h0.size ≤ b62 := by rw [g62]; exact KK.1
          have ne_b5_b62 : b5 ≠ b62 := Nat.ne_of_lt (by rw [g62]; exact V_b5.lt)
          have ne_b8_b62 : b8 ≠ b62 := Nat.ne_of_lt (by rw [g62]; exact V_b8.lt)
          have ne_b13_b62 : b13 ≠ b62 := Nat.ne_of_lt (by rw [g62]; exact V_b13.lt)
          have ne_b56_b62 : b56 ≠ b62 := Nat.ne_of_lt (by rw [g62]; exact E_b56.lt)
          have V_b5 := V_b5.ext E62
          have V_b8 := V_b8.ext E62
          have V_b13 := V_b13.ext E62
          have E_b56 := E_b56.ext E62
          have Fk61 := Fk61.ext E62
          have Sf_b5 := Safe.ext E62 HH Sf_b5
          have Sf_b8 := Safe.ext E62 HH Sf_b8
          have Sf_b13 := Safe.ext E62 HH Sf_b13
          have Sf_b56 := Safe.ext E62 HH Sf_b56
          have Sf_b62 := Safe.ext E62 HH Sf_b62
          have RR := RR.trans (CHr.ext E62 HH)
          have HH := HH.ext E62
          have hk := Nat.le_trans hk E62.1
          have O := O.ext E62
          have KK := KK.ext E62
          have E_b62 := A62
          have F_app_b62 : Fld Z h62 b62 "com/example/wellness_on_record/wellnessonrecord/oauth/Principal" "app" "Lcom/example/wellness_on_record/wellnessonrecord/apps/App;" .null := D62 (Or.inr (hw _ (List.mem_of_getElem? (i := 81) rfl))) (ty := (.object "com/example/wellness_on_record/wellnessonrecord/apps/App")) (by decide)
          have F_recordId_b62 : Fld Z h62 b62 "com/example/wellness_on_record/wellnessonrecord/oauth/Principal" "recordId" "Ljava/lang/String;" .null := D62 (Or.inr (hw _ (List.mem_of_getElem? (i := 83) rfl))) (ty := (.object "java/lang/String")) (by decide)
          have F_requestToken_b62 : Fld Z h62 b62 "com/example/wellness_on_record/wellnessonrecord/oauth/Principal" "requestToken" "Ljava/lang/String;" .null := D62 (Or.inr (hw _ (List.mem_of_getElem? (i := 85) rfl))) (ty := (.object "java/lang/String")) (by decide)
          show GoH _ _ _ _ _ _ _ _ _ _  T62 (mkF m 198 #[.val (.int p1), .val (.int p2), .val (.int p3), .val (.int p4), .val (.int (0 : Int32)), .val (.int (1 : Int32)), .val (.int (0 : Int32)), .val (.int (1 : Int32)), .val (.ref b5), .val (.ref b8), .val (.ref b13), .val .null, .val (.ref b40), .val (.ref w_USER), .val (.ref b56), .unset, .unset, .unset, .unset] [(.ref b62)])
          refine GoH.st (fun t k => XS.dup X62.here hx rfl (hb hby at_198) rfl rfl k) ?_
          show GoH _ _ _ _ _ _ _ _ _ _  T62 (mkF m 199 #[.val (.int p1), .val (.int p2), .val (.int p3), .val (.int p4), .val (.int (0 : Int32)), .val (.int (1 : Int32)), .val (.int (0 : Int32)), .val (.int (1 : Int32)), .val (.ref b5), .val (.ref b8), .val (.ref b13), .val .null, .val (.ref b40), .val (.ref w_USER), .val (.ref b56), .unset, .unset, .unset, .unset] [(.ref b62), (.ref b62)])
          refine GoH.st (fun t k => XS.aload X62.here hx rfl (hb hby at_199) rfl rfl  k) ?_
          show GoH _ _ _ _ _ _ _ _ _ _  T62 (mkF m 201 #[.val (.int p1), .val (.int p2), .val (.int p3), .val (.int p4), .val (.int (0 : Int32)), .val (.int (1 : Int32)), .val (.int (0 : Int32)), .val (.int (1 : Int32)), .val (.ref b5), .val (.ref b8), .val (.ref b13), .val .null, .val (.ref b40), .val (.ref w_USER), .val (.ref b56), .unset, .unset, .unset, .unset] [(.ref b56), (.ref b62), (.ref b62)])
          refine GoH.st (fun t k => XS.aload X62.here hx rfl (hb hby at_201) rfl rfl  k) ?_
          show GoH _ _ _ _ _ _ _ _ _ _  T62 (mkF m 203 #[.val (.int p1), .val (.int p2), .val (.int p3), .val (.int p4), .val (.int (0 : Int32)), .val (.int (1 : Int32)), .val (.int (0 : Int32)), .val (.int (1 : Int32)), .val (.ref b5), .val (.ref b8), .val (.ref b13), .val .null, .val (.ref b40), .val (.ref w_USER), .val (.ref b56), .unset, .unset, .unset, .unset] [.null, (.ref b56), (.ref b62), (.ref b62)])
          refine GoH.st (fun t k => XS.aload X62.here hx rfl (hb hby at_203) rfl rfl  k) ?_
          show GoH _ _ _ _ _ _ _ _ _ _  T62 (mkF m 205 #[.val (.int p1), .val (.int p2), .val (.int p3), .val (.int p4), .val (.int (0 : Int32)), .val (.int (1 : Int32)), .val (.int (0 : Int32)), .val (.int (1 : Int32)), .val (.ref b5), .val (.ref b8), .val (.ref b13), .val .null, .val (.ref b40), .val (.ref w_USER), .val (.ref b56), .unset, .unset, .unset, .unset] [(.ref b40), .null, (.ref b56), (.ref b62), (.ref b62)])
          obtain ⟨_, _, ⟨T63, L63, k63, n63⟩, -, X63, ⟨Lc63, hQ63, l63, y63, z63⟩, st63⟩ := X62.specialBack hx (y := (⟨"com/example/wellness_on_record/wellnessonrecord/oauth/Principal", "<init>", "(Lcom/example/wellness_on_record/wellnessonrecord/apps/App;Ljava/lang/String;Ljava/lang/String;)V"⟩ : MethodName)) rfl hown (mvT hZ (hw _ (List.mem_of_getElem? (i := 76) rfl))) (mvT hZ (hw _ (List.mem_of_getElem? (i := 77) rfl))) (mvT hZ (hw _ (List.mem_of_getElem? (i := 78) rfl))) (by decide) (backOf (W := 1) (rmP l Z a0 hw [] b62 b56 .null (.ref b40) h62 n0 O E_b62 F_app_b62 F_recordId_b62 F_requestToken_b62 g_b62 rfl rfl) hZ (hw _ (List.mem_of_getElem? (i := 78) rfl)) (hw _ (List.mem_of_getElem? (i := 75) rfl)) (by decide) (by decide)) (g := (mkF m 205 #[.val (.int p1), .val (.int p2), .val (.int p3), .val (.int p4), .val (.int (0 : Int32)), .val (.int (1 : Int32)), .val (.int (0 : Int32)), .val (.int (1 : Int32)), .val (.ref b5), .val (.ref b8), .val (.ref b13), .val .null, .val (.ref b40), .val (.ref w_USER), .val (.ref b56), .unset, .unset, .unset, .unset] [(.ref b40), .null, (.ref b56), (.ref b62), (.ref b62)])) rfl (by rw [hml]; rfl) (Steps.refl _) (a := b62) (argsL := [(.ref b56), .null, (.ref b40)]) (rest := [(.ref b62)]) (lenOf pd__Lcom_example_wellness_on_record_wellnessonrecord_apps_App_Ljava_lang_String_Ljava_lang_String__V rfl) rfl (by show 2 * 0 + _ ≤ _; exact Nat.le_of_eq rfl) (hb hby at_205) (fun _ _ => ⟨rfl, e62, (by decide : 15 + 0 ≤ _), (by decide : 99 + 0 ≤ _)⟩)
          dsimp only [Pt.U, Pt.locs, Pt.cells, Pt.slots] at X63 l63 y63 z63 st63 hQ63
          subst l63 y63 z63
          obtain ⟨rfl, N63q, K63q, Eq63, Fa63, Fr63, Ft63⟩ := hQ63
          have N63 := Fr.app N61 N63q
          refine GoH.tr st63 ?_
          have V_b5 := V_b5.keep K63q (ninS ne_b5_b62 nin0)
          have V_b8 := V_b8.keep K63q (ninS ne_b8_b62 nin0)
          have V_b13 := V_b13.keep K63q (ninS ne_b13_b62 nin0)
          have E_b56 := E_b56.keep K63q
          have Fk61 := Fk61.keep K63q (ninS ne_b56_b62 nin0)
          have E_b62 := E_b62.keep K63q
          have sfw63 := (sfS Sf_b62 sf0)
          have Sf_b5 := Safe.keep K63q sfw63 HH Sf_b5
          have Sf_b8 := Safe.keep K63q sfw63 HH Sf_b8
          have Sf_b13 := Safe.keep K63q sfw63 HH Sf_b13
          have Sf_b56 := Safe.keep K63q sfw63 HH Sf_b56
          have Sf_b62 := Safe.keep K63q sfw63 HH Sf_b62
          have RR := RR.trans (CHr.keep K63q sfw63 HH)
          have HH := HH.keep K63q sfw63
          have hk := Nat.le_trans hk K63q.1
          have O := O.keep K63q (allS g_b62 all0)
          have KK := KK.trans K63q (allS (Or.inr sz_b62) all0)
          have E_b62 := Eq63
          show GoH _ _ _ _ _ _ _ _ _ _  T63 (mkF m 208 #[.val (.int p1), .val (.int p2), .val (.int p3), .val (.int p4), .val (.int (0 : Int32)), .val (.int (1 : Int32)), .val (.int (0 : Int32)), .val (.int (1 : Int32)), .val (.ref b5), .val (.ref b8), .val (.ref b13), .val .null, .val (.ref b40), .val (.ref w_USER), .val (.ref b56), .unset, .unset, .unset, .unset] [(.ref b62)])
          refine GoH.st (fun t k => XS.astore X63.here hx rfl (hb hby at_208) rfl rfl (l' := #[.val (.int p1), .val (.int p2), .val (.int p3), .val (.int p4), .val (.int (0 : Int32)), .val (.int (1 : Int32)), .val (.int (0 : Int32)), .val (.int (1 : Int32)), .val (.ref b5), .val (.ref b8), .val (.ref b13), .val .null, .val (.ref b40), .val (.ref w_USER), .val (.ref b56), .val (.ref b62), .unset, .unset, .unset]) rfl k) ?_
          show GoH _ _ _ _ _ _ _ _ _ _  T63 (mkF m 210 #[.val (.int p1), .val (.int p2), .val (.int p3), .val (.int p4), .val (.int (0 : Int32)), .val (.int (1 : Int32)), .val (.int (0 : Int32)), .val (.int (1 : Int32)), .val (.ref b5), .val (.ref b8), .val (.ref b13), .val .null, .val (.ref b40), .val (.ref w_USER), .val (.ref b56), .val (.ref b62), .unset, .unset, .unset] [])
          refine GoH.st (fun t k => XS.aload X63.here hx rfl (hb hby at_210) rfl rfl  k) ?_
          show GoH _ _ _ _ _ _ _ _ _ _  T63 (mkF m 212 #[.val (.int p1), .val (.int p2), .val (.int p3), .val (.int p4), .val (.int (0 : Int32)), .val (.int (1 : Int32)), .val (.int (0 : Int32)), .val (.int (1 : Int32)), .val (.ref b5), .val (.ref b8), .val (.ref b13), .val .null, .val (.ref b40), .val (.ref w_USER), .val (.ref b56), .val (.ref b62), .unset, .unset, .unset] [(.ref b62)])
          obtain ⟨cq64, kq64, q64a, q64b, q64c⟩ := isOf hZ rfl E_b62
          obtain ⟨_, _, ⟨T64, L64, k64, n64⟩, -, X64, ⟨Lc64, hQ64, l64, y64, z64⟩, st64⟩ := X63.virtualBack hx (y := (⟨"com/example/wellness_on_record/wellnessonrecord/oauth/Principal", "holdsRequestToken", "()Z"⟩ : MethodName)) (z := (⟨"com/example/wellness_on_record/wellnessonrecord/oauth/Principal", "holdsRequestToken", "()Z"⟩ : MethodName)) hown (mvT hZ (hw _ (List.mem_of_getElem? (i := 86) rfl))) (mvT hZ (hw _ (List.mem_of_getElem? (i := 87) rfl))) (notFace_of_selects (args := #[]) (mvT hZ (hw _ (List.mem_of_getElem? (i := 89) rfl)))) (mvT hZ (hw _ (List.mem_of_getElem? (i := 89) rfl))) (mvT hZ (hw _ (List.mem_of_getElem? (i := 88) rfl))) (by decide) (backOf (W := 0) (rmH l Z a0 hw [] b62 (.ref b40) T63.heap n0 O Ft63 rfl) hZ (hw _ (List.mem_of_getElem? (i := 90) rfl)) (hw _ (List.mem_of_getElem? (i := 75) rfl)) (by decide) (by decide)) q64a q64c (g := (mkF m 212 #[.val (.int p1), .val (.int p2), .val (.int p3), .val (.int p4), .val (.int (0 : Int32)), .val (.int (1 : Int32)), .val (.int (0 : Int32)), .val (.int (1 : Int32)), .val (.ref b5), .val (.ref b8), .val (.ref b13), .val .null, .val (.ref b40), .val (.ref w_USER), .val (.ref b56), .val (.ref b62), .unset, .unset, .unset] [(.ref b62)])) rfl (by rw [hml]; rfl) (Steps.refl _) (argsL := []) (rest := []) (lenOf pd___Z rfl) rfl (by show 2 * 0 + _ ≤ _; exact Nat.le_of_eq rfl) (hb hby at_212) (fun _ _ => ⟨rfl, rfl, (by decide : 15 + 0 ≤ _), (by decide : 99 + 0 ≤ _)⟩)
          dsimp only [Pt.U, Pt.locs, Pt.cells, Pt.slots] at X64 l64 y64 z64 st64 hQ64
          subst l64 y64 z64
          obtain ⟨rfl, N64q, e64q⟩ := hQ64
          have N64 := Fr.app N63 N64q
          refine GoH.tr st64 ?_
          rw [show (if (.ref b40) = Value.null then (0 : Int32) else 1) = (1 : Int32) from by simp]
          show GoH _ _ _ _ _ _ _ _ _ _  T64 (mkF m 215 #[.val (.int p1), .val (.int p2), .val (.int p3), .val (.int p4), .val (.int (0 : Int32)), .val (.int (1 : Int32)), .val (.int (0 : Int32)), .val (.int (1 : Int32)), .val (.ref b5), .val (.ref b8), .val (.ref b13), .val .null, .val (.ref b40), .val (.ref w_USER), .val (.ref b56), .val (.ref b62), .unset, .unset, .unset] [(.int (1 : Int32))])
          refine GoH.st (fun t k => XS.istore X64.here hx rfl (hb hby at_215) rfl (l' := #[.val (.int p1), .val (.int p2), .val (.int p3), .val (.int p4), .val (.int (0 : Int32)), .val (.int (1 : Int32)), .val (.int (0 : Int32)), .val (.int (1 : Int32)), .val (.ref b5), .val (.ref b8), .val (.ref b13), .val .null, .val (.ref b40), .val (.ref w_USER), .val (.ref b56), .val (.ref b62), .val (.int (1 : Int32)), .unset, .unset]) rfl k) ?_
          show GoH _ _ _ _ _ _ _ _ _ _  T64 (mkF m 217 #[.val (.int p1), .val (.int p2), .val (.int p3), .val (.int p4), .val (.int (0 : Int32)), .val (.int (1 : Int32)), .val (.int (0 : Int32)), .val (.int (1 : Int32)), .val (.ref b5), .val (.ref b8), .val (.ref b13), .val .null, .val (.ref b40), .val (.ref w_USER), .val (.ref b56), .val (.ref b62), .val (.int (1 : Int32)), .unset, .unset] [])
          refine GoH.st (fun t k => XS.iload X64.here hx rfl (hb hby at_217) rfl  k) ?_
          show GoH _ _ _ _ _ _ _ _ _ _  T64 (mkF m 219 #[.val (.int p1), .val (.int p2), .val (.int p3), .val (.int p4), .val (.int (0 : Int32)), .val (.int (1 : Int32)), .val (.int (0 : Int32)), .val (.int (1 : Int32)), .val (.ref b5), .val (.ref b8), .val (.ref b13), .val .null, .val (.ref b40), .val (.ref w_USER), .val (.ref b56), .val (.ref b62), .val (.int (1 : Int32)), .unset, .unset] [(.int (1 : Int32))])
          refine GoH.st (fun t k => XS.iload X64.here hx rfl (hb hby at_219) rfl  k) ?_
          show GoH _ _ _ _ _ _ _ _ _ _  T64 (mkF m 221 #[.val (.int p1), .val (.int p2), .val (.int p3), .val (.int p4), .val (.int (0 : Int32)), .val (.int (1 : Int32)), .val (.int (0 : Int32)), .val (.int (1 : Int32)), .val (.ref b5), .val (.ref b8), .val (.ref b13), .val .null, .val (.ref b40), .val (.ref w_USER), .val (.ref b56), .val (.ref b62), .val (.int (1 : Int32)), .unset, .unset] [(.int (1 : Int32)), (.int (1 : Int32))])
          refine GoH.st (fun t k => XS.icmpYes X64.here hx rfl (pc0 := 221) (pc' := 226) rfl (hb hby at_221) rfl (teq (rfl : (1 : Int32) = (1 : Int32))).1 (by decide) (by decide) k) ?_
          show GoH _ _ _ _ _ _ _ _ _ _  T64 (mkF m 226 #[.val (.int p1), .val (.int p2), .val (.int p3), .val (.int p4), .val (.int (0 : Int32)), .val (.int (1 : Int32)), .val (.int (0 : Int32)), .val (.int (1 : Int32)), .val (.ref b5), .val (.ref b8), .val (.ref b13), .val .null, .val (.ref b40), .val (.ref w_USER), .val (.ref b56), .val (.ref b62), .val (.int (1 : Int32)), .unset, .unset] [])
          refine GoH.st (fun t k => XS.aload X64.here hx rfl (hb hby at_226) rfl rfl  k) ?_
          show GoH _ _ _ _ _ _ _ _ _ _  T64 (mkF m 228 #[.val (.int p1), .val (.int p2), .val (.int p3), .val (.int p4), .val (.int (0 : Int32)), .val (.int (1 : Int32)), .val (.int (0 : Int32)), .val (.int (1 : Int32)), .val (.ref b5), .val (.ref b8), .val (.ref b13), .val .null, .val (.ref b40), .val (.ref w_USER), .val (.ref b56), .val (.ref b62), .val (.int (1 : Int32)), .unset, .unset] [(.ref b62)])
          obtain ⟨cq65, kq65, q65a, q65b, q65c⟩ := isOf hZ e64q E_b62
          obtain ⟨_, _, ⟨T65, L65, k65, n65⟩, -, X65, ⟨Lc65, hQ65, l65, y65, z65⟩, st65⟩ := X64.virtualBack hx (y := (⟨"com/example/wellness_on_record/wellnessonrecord/oauth/Principal", "isUserAppAlone", "()Z"⟩ : MethodName)) (z := (⟨"com/example/wellness_on_record/wellnessonrecord/oauth/Principal", "isUserAppAlone", "()Z"⟩ : MethodName)) hown (mvT hZ (hw _ (List.mem_of_getElem? (i := 91) rfl))) (mvT hZ (hw _ (List.mem_of_getElem? (i := 92) rfl))) (notFace_of_selects (args := #[]) (mvT hZ (hw _ (List.mem_of_getElem? (i := 94) rfl)))) (mvT hZ (hw _ (List.mem_of_getElem? (i := 94) rfl))) (mvT hZ (hw _ (List.mem_of_getElem? (i := 93) rfl))) (by decide) (backOf (W := 0) (rmU l Z a0 hw [] b62 b56 w_USER .null (.ref b40) w_USER T63.heap n0 O Fa63 Fr63 Ft63 rfl rfl Fk61 E_b62 E_b56 S_USER) hZ (hw _ (List.mem_of_getElem? (i := 95) rfl)) (hw _ (List.mem_of_getElem? (i := 75) rfl)) (by decide) (by decide)) q65a q65c (g := (mkF m 228 #[.val (.int p1), .val (.int p2), .val (.int p3), .val (.int p4), .val (.int (0 : Int32)), .val (.int (1 : Int32)), .val (.int (0 : Int32)), .val (.int (1 : Int32)), .val (.ref b5), .val (.ref b8), .val (.ref b13), .val .null, .val (.ref b40), .val (.ref w_USER), .val (.ref b56), .val (.ref b62), .val (.int (1 : Int32)), .unset, .unset] [(.ref b62)])) rfl (by rw [hml]; rfl) (Steps.refl _) (argsL := []) (rest := []) (lenOf pd___Z rfl) rfl (by show 2 * 0 + _ ≤ _; exact Nat.le_of_eq rfl) (hb hby at_228) (fun _ _ => ⟨rfl, e64q, (by decide : 15 + 0 ≤ _), (by decide : 99 + 0 ≤ _)⟩)
          dsimp only [Pt.U, Pt.locs, Pt.cells, Pt.slots] at X65 l65 y65 z65 st65 hQ65
          subst l65 y65 z65
          obtain ⟨rfl, N65q, e65q⟩ := hQ65
          have N65 := Fr.app N64 N65q
          refine GoH.tr st65 ?_
          rw [show (if w_USER = w_USER then (if .null = Value.null then (if (.ref b40) = Value.null then (1 : Int32) else 0) else 0) else 0) = (0 : Int32) from by simp [nAU]]
          show GoH _ _ _ _ _ _ _ _ _ _  T65 (mkF m 231 #[.val (.int p1), .val (.int p2), .val (.int p3), .val (.int p4), .val (.int (0 : Int32)), .val (.int (1 : Int32)), .val (.int (0 : Int32)), .val (.int (1 : Int32)), .val (.ref b5), .val (.ref b8), .val (.ref b13), .val .null, .val (.ref b40), .val (.ref w_USER), .val (.ref b56), .val (.ref b62), .val (.int (1 : Int32)), .unset, .unset] [(.int (0 : Int32))])
          refine GoH.st (fun t k => XS.istore X65.here hx rfl (hb hby at_231) rfl (l' := #[.val (.int p1), .val (.int p2), .val (.int p3), .val (.int p4), .val (.int (0 : Int32)), .val (.int (1 : Int32)), .val (.int (0 : Int32)), .val (.int (1 : Int32)), .val (.ref b5), .val (.ref b8), .val (.ref b13), .val .null, .val (.ref b40), .val (.ref w_USER), .val (.ref b56), .val (.ref b62), .val (.int (1 : Int32)), .val (.int (0 : Int32)), .unset]) rfl k) ?_
          show GoH _ _ _ _ _ _ _ _ _ _  T65 (mkF m 233 #[.val (.int p1), .val (.int p2), .val (.int p3), .val (.int p4), .val (.int (0 : Int32)), .val (.int (1 : Int32)), .val (.int (0 : Int32)), .val (.int (1 : Int32)), .val (.ref b5), .val (.ref b8), .val (.ref b13), .val .null, .val (.ref b40), .val (.ref w_USER), .val (.ref b56), .val (.ref b62), .val (.int (1 : Int32)), .val (.int (0 : Int32)), .unset] [])
          refine GoH.st (fun t k => XS.iload X65.here hx rfl (hb hby at_233) rfl  k) ?_
          show GoH _ _ _ _ _ _ _ _ _ _  T65 (mkF m 235 #[.val (.int p1), .val (.int p2), .val (.int p3), .val (.int p4), .val (.int (0 : Int32)), .val (.int (1 : Int32)), .val (.int (0 : Int32)), .val (.int (1 : Int32)), .val (.ref b5), .val (.ref b8), .val (.ref b13), .val .null, .val (.ref b40), .val (.ref w_USER), .val (.ref b56), .val (.ref b62), .val (.int (1 : Int32)), .val (.int (0 : Int32)), .unset] [(.int (1 : Int32))])
          refine GoH.st (fun t k => XS.ifYes X65.here hx rfl (pc0 := 235) (pc' := 252) rfl (hb hby at_235) rfl ((if0 _ _).trans (feq (by decide : ¬ ((1 : Int32) = (0 : Int32)))).2) (by decide) (by decide) k) ?_
          show GoH _ _ _ _ _ _ _ _ _ _  T65 (mkF m 252 #[.val (.int p1), .val (.int p2), .val (.int p3), .val (.int p4), .val (.int (0 : Int32)), .val (.int (1 : Int32)), .val (.int (0 : Int32)), .val (.int (1 : Int32)), .val (.ref b5), .val (.ref b8), .val (.ref b13), .val .null, .val (.ref b40), .val (.ref w_USER), .val (.ref b56), .val (.ref b62), .val (.int (1 : Int32)), .val (.int (0 : Int32)), .unset] [])
          refine GoH.st (fun t k => XS.iconst X65.here hx rfl (hb hby at_252) k) ?_
          show GoH _ _ _ _ _ _ _ _ _ _  T65 (mkF m 253 #[.val (.int p1), .val (.int p2), .val (.int p3), .val (.int p4), .val (.int (0 : Int32)), .val (.int (1 : Int32)), .val (.int (0 : Int32)), .val (.int (1 : Int32)), .val (.ref b5), .val (.ref b8), .val (.ref b13), .val .null, .val (.ref b40), .val (.ref w_USER), .val (.ref b56), .val (.ref b62), .val (.int (1 : Int32)), .val (.int (0 : Int32)), .unset] [(.int (0 : Int32))])
          refine GoH.st (fun t k => XS.istore X65.here hx rfl (hb hby at_253) rfl (l' := #[.val (.int p1), .val (.int p2), .val (.int p3), .val (.int p4), .val (.int (0 : Int32)), .val (.int (1 : Int32)), .val (.int (0 : Int32)), .val (.int (1 : Int32)), .val (.ref b5), .val (.ref b8), .val (.ref b13), .val .null, .val (.ref b40), .val (.ref w_USER), .val (.ref b56), .val (.ref b62), .val (.int (1 : Int32)), .val (.int (0 : Int32)), .val (.int (0 : Int32))]) rfl k) ?_
          show GoH _ _ _ _ _ _ _ _ _ _  T65 (mkF m 255 #[.val (.int p1), .val (.int p2), .val (.int p3), .val (.int p4), .val (.int (0 : Int32)), .val (.int (1 : Int32)), .val (.int (0 : Int32)), .val (.int (1 : Int32)), .val (.ref b5), .val (.ref b8), .val (.ref b13), .val .null, .val (.ref b40), .val (.ref w_USER), .val (.ref b56), .val (.ref b62), .val (.int (1 : Int32)), .val (.int (0 : Int32)), .val (.int (0 : Int32))] [])
          refine GoH.st (fun t k => XS.iload X65.here hx rfl (hb hby at_255) rfl  k) ?_
          show GoH _ _ _ _ _ _ _ _ _ _  T65 (mkF m 257 #[.val (.int p1), .val (.int p2), .val (.int p3), .val (.int p4), .val (.int (0 : Int32)), .val (.int (1 : Int32)), .val (.int (0 : Int32)), .val (.int (1 : Int32)), .val (.ref b5), .val (.ref b8), .val (.ref b13), .val .null, .val (.ref b40), .val (.ref w_USER), .val (.ref b56), .val (.ref b62), .val (.int (1 : Int32)), .val (.int (0 : Int32)), .val (.int (0 : Int32))] [(.int (0 : Int32))])
          refine GoH.st (fun t k => XS.iload X65.here hx rfl (hb hby at_257) rfl  k) ?_
          show GoH _ _ _ _ _ _ _ _ _ _  T65 (mkF m 259 #[.val (.int p1), .val (.int p2), .val (.int p3), .val (.int p4), .val (.int (0 : Int32)), .val (.int (1 : Int32)), .val (.int (0 : Int32)), .val (.int (1 : Int32)), .val (.ref b5), .val (.ref b8), .val (.ref b13), .val .null, .val (.ref b40), .val (.ref w_USER), .val (.ref b56), .val (.ref b62), .val (.int (1 : Int32)), .val (.int (0 : Int32)), .val (.int (0 : Int32))] [(.int (0 : Int32)), (.int (0 : Int32))])
          refine GoH.st (fun t k => XS.icmpNo X65.here hx rfl (hb hby at_259) rfl (teq (rfl : (0 : Int32) = (0 : Int32))).2 k) ?_
          show GoH _ _ _ _ _ _ _ _ _ _  T65 (mkF m 262 #[.val (.int p1), .val (.int p2), .val (.int p3), .val (.int p4), .val (.int (0 : Int32)), .val (.int (1 : Int32)), .val (.int (0 : Int32)), .val (.int (1 : Int32)), .val (.ref b5), .val (.ref b8), .val (.ref b13), .val .null, .val (.ref b40), .val (.ref w_USER), .val (.ref b56), .val (.ref b62), .val (.int (1 : Int32)), .val (.int (0 : Int32)), .val (.int (0 : Int32))] [])
          refine GoH.st (fun t k => XS.iconst X65.here hx rfl (hb hby at_262) k) ?_
          show GoH _ _ _ _ _ _ _ _ _ _  T65 (mkF m 263 #[.val (.int p1), .val (.int p2), .val (.int p3), .val (.int p4), .val (.int (0 : Int32)), .val (.int (1 : Int32)), .val (.int (0 : Int32)), .val (.int (1 : Int32)), .val (.ref b5), .val (.ref b8), .val (.ref b13), .val .null, .val (.ref b40), .val (.ref w_USER), .val (.ref b56), .val (.ref b62), .val (.int (1 : Int32)), .val (.int (0 : Int32)), .val (.int (0 : Int32))] [(.int (1 : Int32))])
          refine GoH.st (fun t k => XS.goto X65.here hx rfl (pc0 := 263) (pc' := 267) rfl (hb hby at_263) (by decide) (by decide) k) ?_
          show GoH _ _ _ _ _ _ _ _ _ _  T65 (mkF m 267 #[.val (.int p1), .val (.int p2), .val (.int p3), .val (.int p4), .val (.int (0 : Int32)), .val (.int (1 : Int32)), .val (.int (0 : Int32)), .val (.int (1 : Int32)), .val (.ref b5), .val (.ref b8), .val (.ref b13), .val .null, .val (.ref b40), .val (.ref w_USER), .val (.ref b56), .val (.ref b62), .val (.int (1 : Int32)), .val (.int (0 : Int32)), .val (.int (0 : Int32))] [(.int (1 : Int32))])
          refine GoH.retN X65 hS hk e65q hZ hEL HH RR hlk hx (t := .boolean) (z' := (1 : Int32)) Bd.returns (by simp) (hb hby at_267) (by decide) (by decide) rfl ?_
          show Q_rm0 Z _ _ _ _ _ _ _ h0 n0 _ T65.heap _
          rw [e65q]
          exact ⟨rfl, N65⟩
      · rw [sp39]
        show GoH _ _ _ _ _ _ _ _ _ _  T13 (mkF m 126 #[.val (.int p1), .val (.int p2), .val (.int p3), .val (.int p4), .val (.int (0 : Int32)), .val (.int (1 : Int32)), .val (.int (1 : Int32)), .val (.int f7), .val (.ref b5), .val (.ref b8), .val (.ref b13), .val .null, .val .null, .unset, .unset, .unset, .unset, .unset, .unset] [])
        refine GoH.st (fun t k => XS.iload X13.here hx rfl (hb hby at_126) rfl  k) ?_
        show GoH _ _ _ _ _ _ _ _ _ _  T13 (mkF m 128 #[.val (.int p1), .val (.int p2), .val (.int p3), .val (.int p4), .val (.int (0 : Int32)), .val (.int (1 : Int32)), .val (.int (1 : Int32)), .val (.int f7), .val (.ref b5), .val (.ref b8), .val (.ref b13), .val .null, .val .null, .unset, .unset, .unset, .unset, .unset, .unset] [(.int (1 : Int32))])
        refine GoH.st (fun t k => XS.ifNo X13.here hx rfl (hb hby at_128) rfl ((if0 _ _).trans (feq (by decide : ¬ ((1 : Int32) = (0 : Int32)))).1) k) ?_
        show GoH _ _ _ _ _ _ _ _ _ _  T13 (mkF m 131 #[.val (.int p1), .val (.int p2), .val (.int p3), .val (.int p4), .val (.int (0 : Int32)), .val (.int (1 : Int32)), .val (.int (1 : Int32)), .val (.int f7), .val (.ref b5), .val (.ref b8), .val (.ref b13), .val .null, .val .null, .unset, .unset, .unset, .unset, .unset, .unset] [])
        obtain ⟨T66, h66, X66, e66, E66, A66, D66, -, st66⟩ := newO X13 hx hZ hown (hw _ (List.mem_of_getElem? (i := 1) rfl)) (hw _ (List.mem_of_getElem? (i := 2) rfl)) (hw _ (List.mem_of_getElem? (i := 3) rfl)) e13 (g := (mkF m 131 #[.val (.int p1), .val (.int p2), .val (.int p3), .val (.int p4), .val (.int (0 : Int32)), .val (.int (1 : Int32)), .val (.int (1 : Int32)), .val (.int f7), .val (.ref b5), .val (.ref b8), .val (.ref b13), .val .null, .val .null, .unset, .unset, .unset, .unset, .unset, .unset] [])) rfl (hb hby at_131) (by decide) (by decide)
        obtain ⟨b66, g66⟩ : ∃ z, z = h13.size := ⟨_, rfl⟩
        rw [← g66] at A66 D66 st66
        refine GoH.st st66 ?_
        have g_b66 : n0 ≤ b66 := by rw [g66]; exact own_le O
        have Sf_b66 : Safe Z EL s.vm h13 b66 := Safe.new (Nat.le_of_eq g66.symm)
        have sz_b66 : h0.size ≤ b66 := by rw [g66]; exact KK.1
        have ne_b5_b66 : b5 ≠ b66 := Nat.ne_of_lt (by rw [g66]; exact V_b5.lt)
        have ne_b8_b66 : b8 ≠ b66 := Nat.ne_of_lt (by rw [g66]; exact V_b8.lt)
        have ne_b13_b66 : b13 ≠ b66 := Nat.ne_of_lt (by rw [g66]; exact V_b13.lt)
        have V_b5 := V_b5.ext E66
        have V_b8 := V_b8.ext E66
        have V_b13 := V_b13.ext E66
        have Sf_b5 := Safe.ext E66 HH Sf_b5
        have Sf_b8 := Safe.ext E66 HH Sf_b8
        have Sf_b13 := Safe.ext E66 HH Sf_b13
        have Sf_b66 := Safe.ext E66 HH Sf_b66
        have RR := RR.trans (CHr.ext E66 HH)
        have HH := HH.ext E66
        have hk := Nat.le_trans hk E66.1
        have O := O.ext E66
        have KK := KK.ext E66
        have E_b66 := A66
        have F_coder_b66 : Fld Z h66 b66 "java/lang/String" "coder" "B" (.int (0 : Int32)) := D66 (Or.inr (hw _ (List.mem_of_getElem? (i := 27) rfl))) (ty := .byte) (by decide)
        have F_value_b66 : Fld Z h66 b66 "java/lang/String" "value" "[B" .null := D66 (Or.inr (hw _ (List.mem_of_getElem? (i := 29) rfl))) (ty := (.array .byte)) (by decide)
        show GoH _ _ _ _ _ _ _ _ _ _  T66 (mkF m 134 #[.val (.int p1), .val (.int p2), .val (.int p3), .val (.int p4), .val (.int (0 : Int32)), .val (.int (1 : Int32)), .val (.int (1 : Int32)), .val (.int f7), .val (.ref b5), .val (.ref b8), .val (.ref b13), .val .null, .val .null, .unset, .unset, .unset, .unset, .unset, .unset] [(.ref b66)])
        refine GoH.st (fun t k => XS.dup X66.here hx rfl (hb hby at_134) rfl rfl k) ?_
        show GoH _ _ _ _ _ _ _ _ _ _  T66 (mkF m 135 #[.val (.int p1), .val (.int p2), .val (.int p3), .val (.int p4), .val (.int (0 : Int32)), .val (.int (1 : Int32)), .val (.int (1 : Int32)), .val (.int f7), .val (.ref b5), .val (.ref b8), .val (.ref b13), .val .null, .val .null, .unset, .unset, .unset, .unset, .unset, .unset] [(.ref b66), (.ref b66)])
        refine GoH.st (fun t k => XS.aload X66.here hx rfl (hb hby at_135) rfl rfl  k) ?_
        show GoH _ _ _ _ _ _ _ _ _ _  T66 (mkF m 137 #[.val (.int p1), .val (.int p2), .val (.int p3), .val (.int p4), .val (.int (0 : Int32)), .val (.int (1 : Int32)), .val (.int (1 : Int32)), .val (.int f7), .val (.ref b5), .val (.ref b8), .val (.ref b13), .val .null, .val .null, .unset, .unset, .unset, .unset, .unset, .unset] [(.ref b13), (.ref b66), (.ref b66)])
        obtain ⟨_, _, ⟨T67, L67, k67, n67⟩, -, X67, hSn67, hgn67, ⟨Lc67, hQ67, l67, y67, z67, CR67⟩, st67⟩ := X66.specialBackS hx (y := (⟨"java/lang/String", "<init>", "([C)V"⟩ : MethodName)) rfl hown (mvT hZ (hw _ (List.mem_of_getElem? (i := 4) rfl))) (mvT hZ (hw _ (List.mem_of_getElem? (i := 5) rfl))) (mvT hZ (hw _ (List.mem_of_getElem? (i := 6) rfl))) (by decide) (own_backSH (sf := [b66]) (W := 1) (rmE l Z a0 hw [] b66 b13 .null (.int (0 : Int32)) k13 h66 n0 O hEL wS E_b66 F_value_b66 F_coder_b66 g_b66 V_b13 ne_b13_b66) hZ (hw _ (List.mem_of_getElem? (i := 6) rfl)) (hw _ (List.mem_of_getElem? (i := 3) rfl)) (by decide) (by decide) hEL HH (allS (P := fun x => Safe Z EL s.vm h66 x ∧ x < Array.size h66) ⟨Sf_b66, E_b66.lt⟩ all0)) (g := (mkF m 137 #[.val (.int p1), .val (.int p2), .val (.int p3), .val (.int p4), .val (.int (0 : Int32)), .val (.int (1 : Int32)), .val (.int (1 : Int32)), .val (.int f7), .val (.ref b5), .val (.ref b8), .val (.ref b13), .val .null, .val .null, .unset, .unset, .unset, .unset, .unset, .unset] [(.ref b13), (.ref b66), (.ref b66)])) rfl (by rw [hml]; rfl) (Steps.refl _) (a := b66) (argsL := [(.ref b13)]) (rest := [(.ref b66)]) (lenOf pd___C_V rfl) rfl (by show 2 * 0 + _ ≤ _; exact Nat.le_of_eq rfl) (hb hby at_137) (fun _ _ => ⟨rfl, e66, (by decide : 4 + 4 ≤ _), (by decide : 7 + 8 ≤ _)⟩)
        dsimp only [Pt.U, Pt.locs, Pt.cells, Pt.slots] at X67 l67 y67 z67 st67 hQ67 hSn67 hgn67 CR67
        subst l67 y67 z67
        obtain ⟨rfl, N67q, K67q, Eq67, Cq67, t67, kt67, Vq67, Aq67⟩ := hQ67
        have X67 : Stand p l e _ (s.setVm T67.vm) m _ below meth c T67 _ _ _ := X67
        have N67 := Fr.app N12 N67q
        refine GoH.tr st67 ?_
        have hS67 := Jvm.RoadKit.foldS hS (by rw [e66]; exact hk) hSn67 hgn67
        have hZ67 := State.Warmed39.trans (t := s.setVm s.vm) hZ hSn67.1
        have hk67 := Nat.le_refl T67.heap.size
        have hown67 : T67.vm.findClass "com/example/wellness_on_record/wellnessonrecord/oauth/PrincipalHoldsRequestTokenPinLaw" = some m.cls := by rw [hSn67.1.alike.findClass]; exact hown
        have Sf_b5 := CHr.safe CR67 V_b5.lt Sf_b5
        have Sf_b8 := CHr.safe CR67 V_b8.lt Sf_b8
        have Sf_b13 := CHr.safe CR67 V_b13.lt Sf_b13
        have Sf_b66 := CHr.safe CR67 E_b66.lt Sf_b66
        have V_b5 := V_b5.keep K67q (ninS ne_b5_b66 nin0)
        have V_b8 := V_b8.keep K67q (ninS ne_b8_b66 nin0)
        have V_b13 := V_b13.keep K67q (ninS ne_b13_b66 nin0)
        have E_b66 := E_b66.keep K67q
        have O := O.keep K67q (allS g_b66 all0)
        have KK := KK.trans K67q (allS (Or.inr sz_b66) all0)
        have RR := RR.trans CR67
        have HH := CR67.1
        have hS := hS67
        have hk := hk67
        have hZ := hZ67
        have hown := hown67
        have E_b66 := Eq67
        show GoH _ _ _ _ _ _ _ _ _ _  T67 (mkF m 140 #[.val (.int p1), .val (.int p2), .val (.int p3), .val (.int p4), .val (.int (0 : Int32)), .val (.int (1 : Int32)), .val (.int (1 : Int32)), .val (.int f7), .val (.ref b5), .val (.ref b8), .val (.ref b13), .val .null, .val .null, .unset, .unset, .unset, .unset, .unset, .unset] [(.ref b66)])
        refine GoH.st (fun t k => XS.goto X67.here hx rfl (pc0 := 140) (pc' := 152) rfl (hb hby at_140) (by decide) (by decide) k) ?_
        show GoH _ _ _ _ _ _ _ _ _ _  T67 (mkF m 152 #[.val (.int p1), .val (.int p2), .val (.int p3), .val (.int p4), .val (.int (0 : Int32)), .val (.int (1 : Int32)), .val (.int (1 : Int32)), .val (.int f7), .val (.ref b5), .val (.ref b8), .val (.ref b13), .val .null, .val .null, .unset, .unset, .unset, .unset, .unset, .unset] [(.ref b66)])
        refine GoH.st (fun t k => XS.astore X67.here hx rfl (hb hby at_152) rfl rfl (l' := #[.val (.int p1), .val (.int p2), .val (.int p3), .val (.int p4), .val (.int (0 : Int32)), .val (.int (1 : Int32)), .val (.int (1 : Int32)), .val (.int f7), .val (.ref b5), .val (.ref b8), .val (.ref b13), .val .null, .val (.ref b66), .unset, .unset, .unset, .unset, .unset, .unset]) rfl k) ?_
        show GoH _ _ _ _ _ _ _ _ _ _  T67 (mkF m 154 #[.val (.int p1), .val (.int p2), .val (.int p3), .val (.int p4), .val (.int (0 : Int32)), .val (.int (1 : Int32)), .val (.int (1 : Int32)), .val (.int f7), .val (.ref b5), .val (.ref b8), .val (.ref b13), .val .null, .val (.ref b66), .unset, .unset, .unset, .unset, .unset, .unset] [])
        rcases ok_f7 with sp68 | sp68
        · rw [sp68]
          show GoH _ _ _ _ _ _ _ _ _ _  T67 (mkF m 154 #[.val (.int p1), .val (.int p2), .val (.int p3), .val (.int p4), .val (.int (0 : Int32)), .val (.int (1 : Int32)), .val (.int (1 : Int32)), .val (.int (0 : Int32)), .val (.ref b5), .val (.ref b8), .val (.ref b13), .val .null, .val (.ref b66), .unset, .unset, .unset, .unset, .unset, .unset] [])
          refine GoH.st (fun t k => XS.iload X67.here hx rfl (hb hby at_154) rfl  k) ?_
          show GoH _ _ _ _ _ _ _ _ _ _  T67 (mkF m 156 #[.val (.int p1), .val (.int p2), .val (.int p3), .val (.int p4), .val (.int (0 : Int32)), .val (.int (1 : Int32)), .val (.int (1 : Int32)), .val (.int (0 : Int32)), .val (.ref b5), .val (.ref b8), .val (.ref b13), .val .null, .val (.ref b66), .unset, .unset, .unset, .unset, .unset, .unset] [(.int (0 : Int32))])
          refine GoH.st (fun t k => XS.ifYes X67.here hx rfl (pc0 := 156) (pc' := 165) rfl (hb hby at_156) rfl ((if0 _ _).trans (teq (rfl : (0 : Int32) = (0 : Int32))).1) (by decide) (by decide) k) ?_
          show GoH _ _ _ _ _ _ _ _ _ _  T67 (mkF m 165 #[.val (.int p1), .val (.int p2), .val (.int p3), .val (.int p4), .val (.int (0 : Int32)), .val (.int (1 : Int32)), .val (.int (1 : Int32)), .val (.int (0 : Int32)), .val (.ref b5), .val (.ref b8), .val (.ref b13), .val .null, .val (.ref b66), .unset, .unset, .unset, .unset, .unset, .unset] [])
          obtain ⟨T69, X69, e69, st69⟩ := getS2 X67 hx hZ hown (host := "") (Or.inl (hw _ (List.mem_of_getElem? (i := 30) rfl))) Via.refl rfl (S_ADMIN.ext O.2) (g := (mkF m 165 #[.val (.int p1), .val (.int p2), .val (.int p3), .val (.int p4), .val (.int (0 : Int32)), .val (.int (1 : Int32)), .val (.int (1 : Int32)), .val (.int (0 : Int32)), .val (.ref b5), .val (.ref b8), .val (.ref b13), .val .null, .val (.ref b66), .unset, .unset, .unset, .unset, .unset, .unset] [])) rfl (hb hby at_165)
          refine GoH.st st69 ?_
          show GoH _ _ _ _ _ _ _ _ _ _  T69 (mkF m 168 #[.val (.int p1), .val (.int p2), .val (.int p3), .val (.int p4), .val (.int (0 : Int32)), .val (.int (1 : Int32)), .val (.int (1 : Int32)), .val (.int (0 : Int32)), .val (.ref b5), .val (.ref b8), .val (.ref b13), .val .null, .val (.ref b66), .unset, .unset, .unset, .unset, .unset, .unset] [(.ref w_ADMIN)])
          refine GoH.st (fun t k => XS.astore X69.here hx rfl (hb hby at_168) rfl rfl (l' := #[.val (.int p1), .val (.int p2), .val (.int p3), .val (.int p4), .val (.int (0 : Int32)), .val (.int (1 : Int32)), .val (.int (1 : Int32)), .val (.int (0 : Int32)), .val (.ref b5), .val (.ref b8), .val (.ref b13), .val .null, .val (.ref b66), .val (.ref w_ADMIN), .unset, .unset, .unset, .unset, .unset]) rfl k) ?_
          show GoH _ _ _ _ _ _ _ _ _ _  T69 (mkF m 170 #[.val (.int p1), .val (.int p2), .val (.int p3), .val (.int p4), .val (.int (0 : Int32)), .val (.int (1 : Int32)), .val (.int (1 : Int32)), .val (.int (0 : Int32)), .val (.ref b5), .val (.ref b8), .val (.ref b13), .val .null, .val (.ref b66), .val (.ref w_ADMIN), .unset, .unset, .unset, .unset, .unset] [])
          obtain ⟨T70, h70, X70, e70, E70, A70, D70, -, st70⟩ := newO X69 hx hZ hown (hw _ (List.mem_of_getElem? (i := 33) rfl)) (hw _ (List.mem_of_getElem? (i := 34) rfl)) (hw _ (List.mem_of_getElem? (i := 35) rfl)) e69 (g := (mkF m 170 #[.val (.int p1), .val (.int p2), .val (.int p3), .val (.int p4), .val (.int (0 : Int32)), .val (.int (1 : Int32)), .val (.int (1 : Int32)), .val (.int (0 : Int32)), .val (.ref b5), .val (.ref b8), .val (.ref b13), .val .null, .val (.ref b66), .val (.ref w_ADMIN), .unset, .unset, .unset, .unset, .unset] [])) rfl (hb hby at_170) (by decide) (by decide)
          obtain ⟨b70, g70⟩ : ∃ z, z = T67.heap.size := ⟨_, rfl⟩
          rw [← g70] at A70 D70 st70
          refine GoH.st st70 ?_
          have g_b70 : n0 ≤ b70 := by rw [g70]; exact own_le O
          have Sf_b70 : Safe Z EL T67.vm T67.heap b70 := Safe.new (Nat.le_of_eq g70.symm)
          have sz_b70 : h0.size ≤ b70 := by rw [g70]; exact KK.1
          have ne_b5_b70 : b5 ≠ b70 := Nat.ne_of_lt (by rw [g70]; exact V_b5.lt)
          have ne_b8_b70 : b8 ≠ b70 := Nat.ne_of_lt (by rw [g70]; exact V_b8.lt)
          have ne_b13_b70 : b13 ≠ b70 := Nat.ne_of_lt (by rw [g70]; exact V_b13.lt)
          have V_b5 := V_b5.ext E70
          have V_b8 := V_b8.ext E70
          have V_b13 := V_b13.ext E70
          have Sf_b5 := Safe.ext E70 HH Sf_b5
          have Sf_b8 := Safe.ext E70 HH Sf_b8
          have Sf_b13 := Safe.ext E70 HH Sf_b13
          have Sf_b70 := Safe.ext E70 HH Sf_b70
          have RR := RR.trans (CHr.ext E70 HH)
          have HH := HH.ext E70
          have hk := Nat.le_trans hk E70.1
          have O := O.ext E70
          have KK := KK.ext E70
          have E_b70 := A70
          have F_id_b70 : Fld Z h70 b70 "com/example/wellness_on_record/wellnessonrecord/apps/App" "id" "Ljava/lang/String;" .null := D70 (Or.inr (hw _ (List.mem_of_getElem? (i := 52) rfl))) (ty := (.object "java/lang/String")) (by decide)
          have F_name_b70 : Fld Z h70 b70 "com/example/wellness_on_record/wellnessonrecord/apps/App" "name" "Ljava/lang/String;" .null := D70 (Or.inr (hw _ (List.mem_of_getElem? (i := 54) rfl))) (ty := (.object "java/lang/String")) (by decide)
          have F_kind_b70 : Fld Z h70 b70 "com/example/wellness_on_record/wellnessonrecord/apps/App" "kind" "Lcom/example/wellness_on_record/wellnessonrecord/apps/App$Kind;" .null := D70 (Or.inr (hw _ (List.mem_of_getElem? (i := 56) rfl))) (ty := (.object "com/example/wellness_on_record/wellnessonrecord/apps/App$Kind")) (by decide)
          have F_consumerKey_b70 : Fld Z h70 b70 "com/example/wellness_on_record/wellnessonrecord/apps/App" "consumerKey" "Ljava/lang/String;" .null := D70 (Or.inr (hw _ (List.mem_of_getElem? (i := 58) rfl))) (ty := (.object "java/lang/String")) (by decide)
          have F_consumerSecret_b70 : Fld Z h70 b70 "com/example/wellness_on_record/wellnessonrecord/apps/App" "consumerSecret" "Ljava/lang/String;" .null := D70 (Or.inr (hw _ (List.mem_of_getElem? (i := 60) rfl))) (ty := (.object "java/lang/String")) (by decide)
          have F_autonomous_b70 : Fld Z h70 b70 "com/example/wellness_on_record/wellnessonrecord/apps/App" "autonomous" "Z" (.int (0 : Int32)) := D70 (Or.inr (hw _ (List.mem_of_getElem? (i := 62) rfl))) (ty := .boolean) (by decide)
          have F_autonomousReason_b70 : Fld Z h70 b70 "com/example/wellness_on_record/wellnessonrecord/apps/App" "autonomousReason" "Ljava/lang/String;" .null := D70 (Or.inr (hw _ (List.mem_of_getElem? (i := 64) rfl))) (ty := (.object "java/lang/String")) (by decide)
          have F_hasUi_b70 : Fld Z h70 b70 "com/example/wellness_on_record/wellnessonrecord/apps/App" "hasUi" "Z" (.int (0 : Int32)) := D70 (Or.inr (hw _ (List.mem_of_getElem? (i := 66) rfl))) (ty := .boolean) (by decide)
          have F_callbackUrl_b70 : Fld Z h70 b70 "com/example/wellness_on_record/wellnessonrecord/apps/App" "callbackUrl" "Ljava/lang/String;" .null := D70 (Or.inr (hw _ (List.mem_of_getElem? (i := 68) rfl))) (ty := (.object "java/lang/String")) (by decide)
          have F_startUrlTemplate_b70 : Fld Z h70 b70 "com/example/wellness_on_record/wellnessonrecord/apps/App" "startUrlTemplate" "Ljava/lang/String;" .null := D70 (Or.inr (hw _ (List.mem_of_getElem? (i := 70) rfl))) (ty := (.object "java/lang/String")) (by decide)
          have F_frameable_b70 : Fld Z h70 b70 "com/example/wellness_on_record/wellnessonrecord/apps/App" "frameable" "Z" (.int (0 : Int32)) := D70 (Or.inr (hw _ (List.mem_of_getElem? (i := 72) rfl))) (ty := .boolean) (by decide)
          show GoH _ _ _ _ _ _ _ _ _ _  T70 (mkF m 173 #[.val (.int p1), .val (.int p2), .val (.int p3), .val (.int p4), .val (.int (0 : Int32)), .val (.int (1 : Int32)), .val (.int (1 : Int32)), .val (.int (0 : Int32)), .val (.ref b5), .val (.ref b8), .val (.ref b13), .val .null, .val (.ref b66), .val (.ref w_ADMIN), .unset, .unset, .unset, .unset, .unset] [(.ref b70)])
          refine GoH.st (fun t k => XS.dup X70.here hx rfl (hb hby at_173) rfl rfl k) ?_
          show GoH _ _ _ _ _ _ _ _ _ _  T70 (mkF m 174 #[.val (.int p1), .val (.int p2), .val (.int p3), .val (.int p4), .val (.int (0 : Int32)), .val (.int (1 : Int32)), .val (.int (1 : Int32)), .val (.int (0 : Int32)), .val (.ref b5), .val (.ref b8), .val (.ref b13), .val .null, .val (.ref b66), .val (.ref w_ADMIN), .unset, .unset, .unset, .unset, .unset] [(.ref b70), (.ref b70)])
          obtain ⟨sa71, T71, h71, kk71, sb71, kb71, X71, e71, E71, hS71, hk71, hZ71, ho71, E_sa71, F_coder_sa71, F_value_sa71, V_sb71, la71, lb71, CR71, Lt71, ns71, st71⟩ := ldcCH X70 hx hZ hown (hw _ (List.mem_of_getElem? (i := 36) rfl)) wS e70 hS hk hEL (List.mem_of_getElem? (i := 0) rfl) HH (vs := [(.int (105 : Int32)), (.int (100 : Int32))]) (z := 2) ⟨by decide, by decide⟩ (by decide) rfl (g := (mkF m 174 #[.val (.int p1), .val (.int p2), .val (.int p3), .val (.int p4), .val (.int (0 : Int32)), .val (.int (1 : Int32)), .val (.int (1 : Int32)), .val (.int (0 : Int32)), .val (.ref b5), .val (.ref b8), .val (.ref b13), .val .null, .val (.ref b66), .val (.ref w_ADMIN), .unset, .unset, .unset, .unset, .unset] [(.ref b70), (.ref b70)])) rfl (hb hby at_174) (n := 8) (by decide) (by decide) (by decide) (by decide)
          refine GoH.st st71 ?_
          have Sf_b5 := CHr.safe CR71 V_b5.lt Sf_b5
          have Sf_b8 := CHr.safe CR71 V_b8.lt Sf_b8
          have Sf_b13 := CHr.safe CR71 V_b13.lt Sf_b13
          have Sf_b70 := CHr.safe CR71 E_b70.lt Sf_b70
          have V_b5 := V_b5.ext E71
          have V_b8 := V_b8.ext E71
          have V_b13 := V_b13.ext E71
          have E_b70 := E_b70.ext E71
          have F_id_b70 := F_id_b70.ext E71
          have F_name_b70 := F_name_b70.ext E71
          have F_kind_b70 := F_kind_b70.ext E71
          have F_consumerKey_b70 := F_consumerKey_b70.ext E71
          have F_consumerSecret_b70 := F_consumerSecret_b70.ext E71
          have F_autonomous_b70 := F_autonomous_b70.ext E71
          have F_autonomousReason_b70 := F_autonomousReason_b70.ext E71
          have F_hasUi_b70 := F_hasUi_b70.ext E71
          have F_callbackUrl_b70 := F_callbackUrl_b70.ext E71
          have F_startUrlTemplate_b70 := F_startUrlTemplate_b70.ext E71
          have F_frameable_b70 := F_frameable_b70.ext E71
          have O := O.ext E71
          have KK := KK.ext E71
          have RR := RR.trans CR71
          have HH := CR71.1
          have hS := hS71
          have hk := hk71
          have hZ := hZ71
          have hown := ho71
          show GoH _ _ _ _ _ _ _ _ _ _  T71 (mkF m 176 #[.val (.int p1), .val (.int p2), .val (.int p3), .val (.int p4), .val (.int (0 : Int32)), .val (.int (1 : Int32)), .val (.int (1 : Int32)), .val (.int (0 : Int32)), .val (.ref b5), .val (.ref b8), .val (.ref b13), .val .null, .val (.ref b66), .val (.ref w_ADMIN), .unset, .unset, .unset, .unset, .unset] [(.ref sa71), (.ref b70), (.ref b70)])
          obtain ⟨sa72, T72, h72, kk72, sb72, kb72, X72, e72, E72, hS72, hk72, hZ72, ho72, E_sa72, F_coder_sa72, F_value_sa72, V_sb72, la72, lb72, CR72, Lt72, ns72, st72⟩ := ldcCH X71 hx hZ hown (hw _ (List.mem_of_getElem? (i := 39) rfl)) wS e71 hS hk hEL (List.mem_of_getElem? (i := 1) rfl) HH (vs := [(.int (110 : Int32)), (.int (97 : Int32)), (.int (109 : Int32)), (.int (101 : Int32))]) (z := 4) ⟨by decide, by decide⟩ (by decide) rfl (g := (mkF m 176 #[.val (.int p1), .val (.int p2), .val (.int p3), .val (.int p4), .val (.int (0 : Int32)), .val (.int (1 : Int32)), .val (.int (1 : Int32)), .val (.int (0 : Int32)), .val (.ref b5), .val (.ref b8), .val (.ref b13), .val .null, .val (.ref b66), .val (.ref w_ADMIN), .unset, .unset, .unset, .unset, .unset] [(.ref sa71), (.ref b70), (.ref b70)])) rfl (hb hby at_176) (n := 16) (by decide) (by decide) (by decide) (by decide)
          refine GoH.st st72 ?_
          have Sf_b5 := CHr.safe CR72 V_b5.lt Sf_b5
          have Sf_b8 := CHr.safe CR72 V_b8.lt Sf_b8
          have Sf_b13 := CHr.safe CR72 V_b13.lt Sf_b13
          have Sf_b70 := CHr.safe CR72 E_b70.lt Sf_b70
          have V_b5 := V_b5.ext E72
          have V_b8 := V_b8.ext E72
          have V_b13 := V_b13.ext E72
          have E_b70 := E_b70.ext E72
          have F_id_b70 := F_id_b70.ext E72
          have F_name_b70 := F_name_b70.ext E72
          have F_kind_b70 := F_kind_b70.ext E72
          have F_consumerKey_b70 := F_consumerKey_b70.ext E72
          have F_consumerSecret_b70 := F_consumerSecret_b70.ext E72
          have F_autonomous_b70 := F_autonomous_b70.ext E72
          have F_autonomousReason_b70 := F_autonomousReason_b70.ext E72
          have F_hasUi_b70 := F_hasUi_b70.ext E72
          have F_callbackUrl_b70 := F_callbackUrl_b70.ext E72
          have F_startUrlTemplate_b70 := F_startUrlTemplate_b70.ext E72
          have F_frameable_b70 := F_frameable_b70.ext E72
          have O := O.ext E72
          have KK := KK.ext E72
          have RR := RR.trans CR72
          have HH := CR72.1
          have hS := hS72
          have hk := hk72
          have hZ := hZ72
          have hown := ho72
          show GoH _ _ _ _ _ _ _ _ _ _  T72 (mkF m 178 #[.val (.int p1), .val (.int p2), .val (.int p3), .val (.int p4), .val (.int (0 : Int32)), .val (.int (1 : Int32)), .val (.int (1 : Int32)), .val (.int (0 : Int32)), .val (.ref b5), .val (.ref b8), .val (.ref b13), .val .null, .val (.ref b66), .val (.ref w_ADMIN), .unset, .unset, .unset, .unset, .unset] [(.ref sa72), (.ref sa71), (.ref b70), (.ref b70)])
          refine GoH.st (fun t k => XS.aload X72.here hx rfl (hb hby at_178) rfl rfl  k) ?_
          show GoH _ _ _ _ _ _ _ _ _ _  T72 (mkF m 180 #[.val (.int p1), .val (.int p2), .val (.int p3), .val (.int p4), .val (.int (0 : Int32)), .val (.int (1 : Int32)), .val (.int (1 : Int32)), .val (.int (0 : Int32)), .val (.ref b5), .val (.ref b8), .val (.ref b13), .val .null, .val (.ref b66), .val (.ref w_ADMIN), .unset, .unset, .unset, .unset, .unset] [(.ref w_ADMIN), (.ref sa72), (.ref sa71), (.ref b70), (.ref b70)])
          obtain ⟨sa73, T73, h73, kk73, sb73, kb73, X73, e73, E73, hS73, hk73, hZ73, ho73, E_sa73, F_coder_sa73, F_value_sa73, V_sb73, la73, lb73, CR73, Lt73, ns73, st73⟩ := ldcCH X72 hx hZ hown (hw _ (List.mem_of_getElem? (i := 40) rfl)) wS e72 hS hk hEL (List.mem_of_getElem? (i := 2) rfl) HH (vs := [(.int (107 : Int32)), (.int (101 : Int32)), (.int (121 : Int32))]) (z := 3) ⟨by decide, by decide⟩ (by decide) rfl (g := (mkF m 180 #[.val (.int p1), .val (.int p2), .val (.int p3), .val (.int p4), .val (.int (0 : Int32)), .val (.int (1 : Int32)), .val (.int (1 : Int32)), .val (.int (0 : Int32)), .val (.ref b5), .val (.ref b8), .val (.ref b13), .val .null, .val (.ref b66), .val (.ref w_ADMIN), .unset, .unset, .unset, .unset, .unset] [(.ref w_ADMIN), (.ref sa72), (.ref sa71), (.ref b70), (.ref b70)])) rfl (hb hby at_180) (n := 12) (by decide) (by decide) (by decide) (by decide)
          refine GoH.st st73 ?_
          have Sf_b5 := CHr.safe CR73 V_b5.lt Sf_b5
          have Sf_b8 := CHr.safe CR73 V_b8.lt Sf_b8
          have Sf_b13 := CHr.safe CR73 V_b13.lt Sf_b13
          have Sf_b70 := CHr.safe CR73 E_b70.lt Sf_b70
          have V_b5 := V_b5.ext E73
          have V_b8 := V_b8.ext E73
          have V_b13 := V_b13.ext E73
          have E_b70 := E_b70.ext E73
          have F_id_b70 := F_id_b70.ext E73
          have F_name_b70 := F_name_b70.ext E73
          have F_kind_b70 := F_kind_b70.ext E73
          have F_consumerKey_b70 := F_consumerKey_b70.ext E73
          have F_consumerSecret_b70 := F_consumerSecret_b70.ext E73
          have F_autonomous_b70 := F_autonomous_b70.ext E73
          have F_autonomousReason_b70 := F_autonomousReason_b70.ext E73
          have F_hasUi_b70 := F_hasUi_b70.ext E73
          have F_callbackUrl_b70 := F_callbackUrl_b70.ext E73
          have F_startUrlTemplate_b70 := F_startUrlTemplate_b70.ext E73
          have F_frameable_b70 := F_frameable_b70.ext E73
          have O := O.ext E73
          have KK := KK.ext E73
          have RR := RR.trans CR73
          have HH := CR73.1
          have hS := hS73
          have hk := hk73
          have hZ := hZ73
          have hown := ho73
          show GoH _ _ _ _ _ _ _ _ _ _  T73 (mkF m 182 #[.val (.int p1), .val (.int p2), .val (.int p3), .val (.int p4), .val (.int (0 : Int32)), .val (.int (1 : Int32)), .val (.int (1 : Int32)), .val (.int (0 : Int32)), .val (.ref b5), .val (.ref b8), .val (.ref b13), .val .null, .val (.ref b66), .val (.ref w_ADMIN), .unset, .unset, .unset, .unset, .unset] [(.ref sa73), (.ref w_ADMIN), (.ref sa72), (.ref sa71), (.ref b70), (.ref b70)])
          obtain ⟨sa74, T74, h74, kk74, sb74, kb74, X74, e74, E74, hS74, hk74, hZ74, ho74, E_sa74, F_coder_sa74, F_value_sa74, V_sb74, la74, lb74, CR74, Lt74, ns74, st74⟩ := ldcCH X73 hx hZ hown (hw _ (List.mem_of_getElem? (i := 41) rfl)) wS e73 hS hk hEL (List.mem_of_getElem? (i := 3) rfl) HH (vs := [(.int (115 : Int32)), (.int (101 : Int32)), (.int (99 : Int32)), (.int (114 : Int32)), (.int (101 : Int32)), (.int (116 : Int32))]) (z := 6) ⟨by decide, by decide⟩ (by decide) rfl (g := (mkF m 182 #[.val (.int p1), .val (.int p2), .val (.int p3), .val (.int p4), .val (.int (0 : Int32)), .val (.int (1 : Int32)), .val (.int (1 : Int32)), .val (.int (0 : Int32)), .val (.ref b5), .val (.ref b8), .val (.ref b13), .val .null, .val (.ref b66), .val (.ref w_ADMIN), .unset, .unset, .unset, .unset, .unset] [(.ref sa73), (.ref w_ADMIN), (.ref sa72), (.ref sa71), (.ref b70), (.ref b70)])) rfl (hb hby at_182) (n := 24) (by decide) (by decide) (by decide) (by decide)
          refine GoH.st st74 ?_
          have Sf_b5 := CHr.safe CR74 V_b5.lt Sf_b5
          have Sf_b8 := CHr.safe CR74 V_b8.lt Sf_b8
          have Sf_b13 := CHr.safe CR74 V_b13.lt Sf_b13
          have Sf_b70 := CHr.safe CR74 E_b70.lt Sf_b70
          have V_b5 := V_b5.ext E74
          have V_b8 := V_b8.ext E74
          have V_b13 := V_b13.ext E74
          have E_b70 := E_b70.ext E74
          have F_id_b70 := F_id_b70.ext E74
          have F_name_b70 := F_name_b70.ext E74
          have F_kind_b70 := F_kind_b70.ext E74
          have F_consumerKey_b70 := F_consumerKey_b70.ext E74
          have F_consumerSecret_b70 := F_consumerSecret_b70.ext E74
          have F_autonomous_b70 := F_autonomous_b70.ext E74
          have F_autonomousReason_b70 := F_autonomousReason_b70.ext E74
          have F_hasUi_b70 := F_hasUi_b70.ext E74
          have F_callbackUrl_b70 := F_callbackUrl_b70.ext E74
          have F_startUrlTemplate_b70 := F_startUrlTemplate_b70.ext E74
          have F_frameable_b70 := F_frameable_b70.ext E74
          have O := O.ext E74
          have KK := KK.ext E74
          have RR := RR.trans CR74
          have HH := CR74.1
          have hS := hS74
          have hk := hk74
          have hZ := hZ74
          have hown := ho74
          show GoH _ _ _ _ _ _ _ _ _ _  T74 (mkF m 184 #[.val (.int p1), .val (.int p2), .val (.int p3), .val (.int p4), .val (.int (0 : Int32)), .val (.int (1 : Int32)), .val (.int (1 : Int32)), .val (.int (0 : Int32)), .val (.ref b5), .val (.ref b8), .val (.ref b13), .val .null, .val (.ref b66), .val (.ref w_ADMIN), .unset, .unset, .unset, .unset, .unset] [(.ref sa74), (.ref sa73), (.ref w_ADMIN), (.ref sa72), (.ref sa71), (.ref b70), (.ref b70)])
          refine GoH.st (fun t k => XS.iconst X74.here hx rfl (hb hby at_184) k) ?_
          show GoH _ _ _ _ _ _ _ _ _ _  T74 (mkF m 185 #[.val (.int p1), .val (.int p2), .val (.int p3), .val (.int p4), .val (.int (0 : Int32)), .val (.int (1 : Int32)), .val (.int (1 : Int32)), .val (.int (0 : Int32)), .val (.ref b5), .val (.ref b8), .val (.ref b13), .val .null, .val (.ref b66), .val (.ref w_ADMIN), .unset, .unset, .unset, .unset, .unset] [(.int (0 : Int32)), (.ref sa74), (.ref sa73), (.ref w_ADMIN), (.ref sa72), (.ref sa71), (.ref b70), (.ref b70)])
          refine GoH.st (fun t k => XS.aconstNull X74.here hx rfl (hb hby at_185) k) ?_
          show GoH _ _ _ _ _ _ _ _ _ _  T74 (mkF m 186 #[.val (.int p1), .val (.int p2), .val (.int p3), .val (.int p4), .val (.int (0 : Int32)), .val (.int (1 : Int32)), .val (.int (1 : Int32)), .val (.int (0 : Int32)), .val (.ref b5), .val (.ref b8), .val (.ref b13), .val .null, .val (.ref b66), .val (.ref w_ADMIN), .unset, .unset, .unset, .unset, .unset] [.null, (.int (0 : Int32)), (.ref sa74), (.ref sa73), (.ref w_ADMIN), (.ref sa72), (.ref sa71), (.ref b70), (.ref b70)])
          refine GoH.st (fun t k => XS.iconst X74.here hx rfl (hb hby at_186) k) ?_
          show GoH _ _ _ _ _ _ _ _ _ _  T74 (mkF m 187 #[.val (.int p1), .val (.int p2), .val (.int p3), .val (.int p4), .val (.int (0 : Int32)), .val (.int (1 : Int32)), .val (.int (1 : Int32)), .val (.int (0 : Int32)), .val (.ref b5), .val (.ref b8), .val (.ref b13), .val .null, .val (.ref b66), .val (.ref w_ADMIN), .unset, .unset, .unset, .unset, .unset] [(.int (0 : Int32)), .null, (.int (0 : Int32)), (.ref sa74), (.ref sa73), (.ref w_ADMIN), (.ref sa72), (.ref sa71), (.ref b70), (.ref b70)])
          refine GoH.st (fun t k => XS.aconstNull X74.here hx rfl (hb hby at_187) k) ?_
          show GoH _ _ _ _ _ _ _ _ _ _  T74 (mkF m 188 #[.val (.int p1), .val (.int p2), .val (.int p3), .val (.int p4), .val (.int (0 : Int32)), .val (.int (1 : Int32)), .val (.int (1 : Int32)), .val (.int (0 : Int32)), .val (.ref b5), .val (.ref b8), .val (.ref b13), .val .null, .val (.ref b66), .val (.ref w_ADMIN), .unset, .unset, .unset, .unset, .unset] [.null, (.int (0 : Int32)), .null, (.int (0 : Int32)), (.ref sa74), (.ref sa73), (.ref w_ADMIN), (.ref sa72), (.ref sa71), (.ref b70), (.ref b70)])
          refine GoH.st (fun t k => XS.aconstNull X74.here hx rfl (hb hby at_188) k) ?_
          show GoH _ _ _ _ _ _ _ _ _ _  T74 (mkF m 189 #[.val (.int p1), .val (.int p2), .val (.int p3), .val (.int p4), .val (.int (0 : Int32)), .val (.int (1 : Int32)), .val (.int (1 : Int32)), .val (.int (0 : Int32)), .val (.ref b5), .val (.ref b8), .val (.ref b13), .val .null, .val (.ref b66), .val (.ref w_ADMIN), .unset, .unset, .unset, .unset, .unset] [.null, .null, (.int (0 : Int32)), .null, (.int (0 : Int32)), (.ref sa74), (.ref sa73), (.ref w_ADMIN), (.ref sa72), (.ref sa71), (.ref b70), (.ref b70)])
          refine GoH.st (fun t k => XS.iconst X74.here hx rfl (hb hby at_189) k) ?_
          show GoH _ _ _ _ _ _ _ _ _ _  T74 (mkF m 190 #[.val (.int p1), .val (.int p2), .val (.int p3), .val (.int p4), .val (.int (0 : Int32)), .val (.int (1 : Int32)), .val (.int (1 : Int32)), .val (.int (0 : Int32)), .val (.ref b5), .val (.ref b8), .val (.ref b13), .val .null, .val (.ref b66), .val (.ref w_ADMIN), .unset, .unset, .unset, .unset, .unset] [(.int (0 : Int32)), .null, .null, (.int (0 : Int32)), .null, (.int (0 : Int32)), (.ref sa74), (.ref sa73), (.ref w_ADMIN), (.ref sa72), (.ref sa71), (.ref b70), (.ref b70)])
          obtain ⟨_, _, ⟨T75, L75, k75, n75⟩, -, X75, ⟨Lc75, hQ75, l75, y75, z75⟩, st75⟩ := X74.specialBack hx (y := (⟨"com/example/wellness_on_record/wellnessonrecord/apps/App", "<init>", "(Ljava/lang/String;Ljava/lang/String;Lcom/example/wellness_on_record/wellnessonrecord/apps/App$Kind;Ljava/lang/String;Ljava/lang/String;ZLjava/lang/String;ZLjava/lang/String;Ljava/lang/String;Z)V"⟩ : MethodName)) rfl hown (mvT hZ (hw _ (List.mem_of_getElem? (i := 42) rfl))) (mvT hZ (hw _ (List.mem_of_getElem? (i := 43) rfl))) (mvT hZ (hw _ (List.mem_of_getElem? (i := 44) rfl))) (by decide) (backOf (W := 1) (rmA l Z a0 hw [] b70 sa71 sa72 w_ADMIN sa73 sa74 h74 n0 O E_b70 F_id_b70 F_name_b70 F_kind_b70 F_consumerKey_b70 F_consumerSecret_b70 F_autonomous_b70 F_autonomousReason_b70 F_hasUi_b70 F_callbackUrl_b70 F_startUrlTemplate_b70 F_frameable_b70 g_b70) hZ (hw _ (List.mem_of_getElem? (i := 44) rfl)) (hw _ (List.mem_of_getElem? (i := 35) rfl)) (by decide) (by decide)) (g := (mkF m 190 #[.val (.int p1), .val (.int p2), .val (.int p3), .val (.int p4), .val (.int (0 : Int32)), .val (.int (1 : Int32)), .val (.int (1 : Int32)), .val (.int (0 : Int32)), .val (.ref b5), .val (.ref b8), .val (.ref b13), .val .null, .val (.ref b66), .val (.ref w_ADMIN), .unset, .unset, .unset, .unset, .unset] [(.int (0 : Int32)), .null, .null, (.int (0 : Int32)), .null, (.int (0 : Int32)), (.ref sa74), (.ref sa73), (.ref w_ADMIN), (.ref sa72), (.ref sa71), (.ref b70), (.ref b70)])) rfl (by rw [hml]; rfl) (Steps.refl _) (a := b70) (argsL := [(.ref sa71), (.ref sa72), (.ref w_ADMIN), (.ref sa73), (.ref sa74), (.int (0 : Int32)), .null, (.int (0 : Int32)), .null, .null, (.int (0 : Int32))]) (rest := [(.ref b70)]) (lenOf pd__Ljava_lang_String_Ljava_lang_String_Lcom_example_wellness_on_record_wellnessonrecord_apps_App_Kind_Ljava_lang_String_Ljava_lang_String_ZLjava_lang_String_ZLjava_lang_String_Ljava_lang_String_Z_V rfl) rfl (by show 2 * 0 + _ ≤ _; exact Nat.le_of_eq rfl) (hb hby at_190) (fun _ _ => ⟨rfl, e74, (by decide : 17 + 0 ≤ _), (by decide : 102 + 0 ≤ _)⟩)
          dsimp only [Pt.U, Pt.locs, Pt.cells, Pt.slots] at X75 l75 y75 z75 st75 hQ75
          subst l75 y75 z75
          obtain ⟨rfl, N75q, K75q, Eq75, Fk75⟩ := hQ75
          have N75 := Fr.app N67 N75q
          refine GoH.tr st75 ?_
          have V_b5 := V_b5.keep K75q (ninS ne_b5_b70 nin0)
          have V_b8 := V_b8.keep K75q (ninS ne_b8_b70 nin0)
          have V_b13 := V_b13.keep K75q (ninS ne_b13_b70 nin0)
          have E_b70 := E_b70.keep K75q
          have sfw75 := (sfS Sf_b70 sf0)
          have Sf_b5 := Safe.keep K75q sfw75 HH Sf_b5
          have Sf_b8 := Safe.keep K75q sfw75 HH Sf_b8
          have Sf_b13 := Safe.keep K75q sfw75 HH Sf_b13
          have Sf_b70 := Safe.keep K75q sfw75 HH Sf_b70
          have RR := RR.trans (CHr.keep K75q sfw75 HH)
          have HH := HH.keep K75q sfw75
          have hk := Nat.le_trans hk K75q.1
          have O := O.keep K75q (allS g_b70 all0)
          have KK := KK.trans K75q (allS (Or.inr sz_b70) all0)
          have E_b70 := Eq75
          show GoH _ _ _ _ _ _ _ _ _ _  T75 (mkF m 193 #[.val (.int p1), .val (.int p2), .val (.int p3), .val (.int p4), .val (.int (0 : Int32)), .val (.int (1 : Int32)), .val (.int (1 : Int32)), .val (.int (0 : Int32)), .val (.ref b5), .val (.ref b8), .val (.ref b13), .val .null, .val (.ref b66), .val (.ref w_ADMIN), .unset, .unset, .unset, .unset, .unset] [(.ref b70)])
          refine GoH.st (fun t k => XS.astore X75.here hx rfl (hb hby at_193) rfl rfl (l' := #[.val (.int p1), .val (.int p2), .val (.int p3), .val (.int p4), .val (.int (0 : Int32)), .val (.int (1 : Int32)), .val (.int (1 : Int32)), .val (.int (0 : Int32)), .val (.ref b5), .val (.ref b8), .val (.ref b13), .val .null, .val (.ref b66), .val (.ref w_ADMIN), .val (.ref b70), .unset, .unset, .unset, .unset]) rfl k) ?_
          show GoH _ _ _ _ _ _ _ _ _ _  T75 (mkF m 195 #[.val (.int p1), .val (.int p2), .val (.int p3), .val (.int p4), .val (.int (0 : Int32)), .val (.int (1 : Int32)), .val (.int (1 : Int32)), .val (.int (0 : Int32)), .val (.ref b5), .val (.ref b8), .val (.ref b13), .val .null, .val (.ref b66), .val (.ref w_ADMIN), .val (.ref b70), .unset, .unset, .unset, .unset] [])
          obtain ⟨T76, h76, X76, e76, E76, A76, D76, -, st76⟩ := newO X75 hx hZ hown (hw _ (List.mem_of_getElem? (i := 73) rfl)) (hw _ (List.mem_of_getElem? (i := 74) rfl)) (hw _ (List.mem_of_getElem? (i := 75) rfl)) rfl (g := (mkF m 195 #[.val (.int p1), .val (.int p2), .val (.int p3), .val (.int p4), .val (.int (0 : Int32)), .val (.int (1 : Int32)), .val (.int (1 : Int32)), .val (.int (0 : Int32)), .val (.ref b5), .val (.ref b8), .val (.ref b13), .val .null, .val (.ref b66), .val (.ref w_ADMIN), .val (.ref b70), .unset, .unset, .unset, .unset] [])) rfl (hb hby at_195) (by decide) (by decide)
          obtain ⟨b76, g76⟩ : ∃ z, z = T75.heap.size := ⟨_, rfl⟩
          rw [← g76] at A76 D76 st76
          refine GoH.st st76 ?_
          have g_b76 : n0 ≤ b76 := by rw [g76]; exact own_le O
          have Sf_b76 : Safe Z EL T74.vm T75.heap b76 := Safe.new (Nat.le_of_eq g76.symm)
          have sz_b76 : h0.size ≤ b76 := by rw [g76]; exact KK.1
          have ne_b5_b76 : b5 ≠ b76 := Nat.ne_of_lt (by rw [g76]; exact V_b5.lt)
          have ne_b8_b76 : b8 ≠ b76 := Nat.ne_of_lt (by rw [g76]; exact V_b8.lt)
          have ne_b13_b76 : b13 ≠ b76 := Nat.ne_of_lt (by rw [g76]; exact V_b13.lt)
          have ne_b70_b76 : b70 ≠ b76 := Nat.ne_of_lt (by rw [g76]; exact E_b70.lt)
          have V_b5 := V_b5.ext E76
          have V_b8 := V_b8.ext E76
          have V_b13 := V_b13.ext E76
          have E_b70 := E_b70.ext E76
          have Fk75 := Fk75.ext E76
          have Sf_b5 := Safe.ext E76 HH Sf_b5
          have Sf_b8 := Safe.ext E76 HH Sf_b8
          have Sf_b13 := Safe.ext E76 HH Sf_b13
          have Sf_b70 := Safe.ext E76 HH Sf_b70
          have Sf_b76 := Safe.ext E76 HH Sf_b76
          have RR := RR.trans (CHr.ext E76 HH)
          have HH := HH.ext E76
          have hk := Nat.le_trans hk E76.1
          have O := O.ext E76
          have KK := KK.ext E76
          have E_b76 := A76
          have F_app_b76 : Fld Z h76 b76 "com/example/wellness_on_record/wellnessonrecord/oauth/Principal" "app" "Lcom/example/wellness_on_record/wellnessonrecord/apps/App;" .null := D76 (Or.inr (hw _ (List.mem_of_getElem? (i := 81) rfl))) (ty := (.object "com/example/wellness_on_record/wellnessonrecord/apps/App")) (by decide)
          have F_recordId_b76 : Fld Z h76 b76 "com/example/wellness_on_record/wellnessonrecord/oauth/Principal" "recordId" "Ljava/lang/String;" .null := D76 (Or.inr (hw _ (List.mem_of_getElem? (i := 83) rfl))) (ty := (.object "java/lang/String")) (by decide)
          have F_requestToken_b76 : Fld Z h76 b76 "com/example/wellness_on_record/wellnessonrecord/oauth/Principal" "requestToken" "Ljava/lang/String;" .null := D76 (Or.inr (hw _ (List.mem_of_getElem? (i := 85) rfl))) (ty := (.object "java/lang/String")) (by decide)
          show GoH _ _ _ _ _ _ _ _ _ _  T76 (mkF m 198 #[.val (.int p1), .val (.int p2), .val (.int p3), .val (.int p4), .val (.int (0 : Int32)), .val (.int (1 : Int32)), .val (.int (1 : Int32)), .val (.int (0 : Int32)), .val (.ref b5), .val (.ref b8), .val (.ref b13), .val .null, .val (.ref b66), .val (.ref w_ADMIN), .val (.ref b70), .unset, .unset, .unset, .unset] [(.ref b76)])
          refine GoH.st (fun t k => XS.dup X76.here hx rfl (hb hby at_198) rfl rfl k) ?_
          show GoH _ _ _ _ _ _ _ _ _ _  T76 (mkF m 199 #[.val (.int p1), .val (.int p2), .val (.int p3), .val (.int p4), .val (.int (0 : Int32)), .val (.int (1 : Int32)), .val (.int (1 : Int32)), .val (.int (0 : Int32)), .val (.ref b5), .val (.ref b8), .val (.ref b13), .val .null, .val (.ref b66), .val (.ref w_ADMIN), .val (.ref b70), .unset, .unset, .unset, .unset] [(.ref b76), (.ref b76)])
          refine GoH.st (fun t k => XS.aload X76.here hx rfl (hb hby at_199) rfl rfl  k) ?_
          show GoH _ _ _ _ _ _ _ _ _ _  T76 (mkF m 201 #[.val (.int p1), .val (.int p2), .val (.int p3), .val (.int p4), .val (.int (0 : Int32)), .val (.int (1 : Int32)), .val (.int (1 : Int32)), .val (.int (0 : Int32)), .val (.ref b5), .val (.ref b8), .val (.ref b13), .val .null, .val (.ref b66), .val (.ref w_ADMIN), .val (.ref b70), .unset, .unset, .unset, .unset] [(.ref b70), (.ref b76), (.ref b76)])
          refine GoH.st (fun t k => XS.aload X76.here hx rfl (hb hby at_201) rfl rfl  k) ?_
          show GoH _ _ _ _ _ _ _ _ _ _  T76 (mkF m 203 #[.val (.int p1), .val (.int p2), .val (.int p3), .val (.int p4), .val (.int (0 : Int32)), .val (.int (1 : Int32)), .val (.int (1 : Int32)), .val (.int (0 : Int32)), .val (.ref b5), .val (.ref b8), .val (.ref b13), .val .null, .val (.ref b66), .val (.ref w_ADMIN), .val (.ref b70), .unset, .unset, .unset, .unset] [.null, (.ref b70), (.ref b76), (.ref b76)])
          refine GoH.st (fun t k => XS.aload X76.here hx rfl (hb hby at_203) rfl rfl  k) ?_
          show GoH _ _ _ _ _ _ _ _ _ _  T76 (mkF m 205 #[.val (.int p1), .val (.int p2), .val (.int p3), .val (.int p4), .val (.int (0 : Int32)), .val (.int (1 : Int32)), .val (.int (1 : Int32)), .val (.int (0 : Int32)), .val (.ref b5), .val (.ref b8), .val (.ref b13), .val .null, .val (.ref b66), .val (.ref w_ADMIN), .val (.ref b70), .unset, .unset, .unset, .unset] [(.ref b66), .null, (.ref b70), (.ref b76), (.ref b76)])
          obtain ⟨_, _, ⟨T77, L77, k77, n77⟩, -, X77, ⟨Lc77, hQ77, l77, y77, z77⟩, st77⟩ := X76.specialBack hx (y := (⟨"com/example/wellness_on_record/wellnessonrecord/oauth/Principal", "<init>", "(Lcom/example/wellness_on_record/wellnessonrecord/apps/App;Ljava/lang/String;Ljava/lang/String;)V"⟩ : MethodName)) rfl hown (mvT hZ (hw _ (List.mem_of_getElem? (i := 76) rfl))) (mvT hZ (hw _ (List.mem_of_getElem? (i := 77) rfl))) (mvT hZ (hw _ (List.mem_of_getElem? (i := 78) rfl))) (by decide) (backOf (W := 1) (rmP l Z a0 hw [] b76 b70 .null (.ref b66) h76 n0 O E_b76 F_app_b76 F_recordId_b76 F_requestToken_b76 g_b76 rfl rfl) hZ (hw _ (List.mem_of_getElem? (i := 78) rfl)) (hw _ (List.mem_of_getElem? (i := 75) rfl)) (by decide) (by decide)) (g := (mkF m 205 #[.val (.int p1), .val (.int p2), .val (.int p3), .val (.int p4), .val (.int (0 : Int32)), .val (.int (1 : Int32)), .val (.int (1 : Int32)), .val (.int (0 : Int32)), .val (.ref b5), .val (.ref b8), .val (.ref b13), .val .null, .val (.ref b66), .val (.ref w_ADMIN), .val (.ref b70), .unset, .unset, .unset, .unset] [(.ref b66), .null, (.ref b70), (.ref b76), (.ref b76)])) rfl (by rw [hml]; rfl) (Steps.refl _) (a := b76) (argsL := [(.ref b70), .null, (.ref b66)]) (rest := [(.ref b76)]) (lenOf pd__Lcom_example_wellness_on_record_wellnessonrecord_apps_App_Ljava_lang_String_Ljava_lang_String__V rfl) rfl (by show 2 * 0 + _ ≤ _; exact Nat.le_of_eq rfl) (hb hby at_205) (fun _ _ => ⟨rfl, e76, (by decide : 18 + 0 ≤ _), (by decide : 105 + 0 ≤ _)⟩)
          dsimp only [Pt.U, Pt.locs, Pt.cells, Pt.slots] at X77 l77 y77 z77 st77 hQ77
          subst l77 y77 z77
          obtain ⟨rfl, N77q, K77q, Eq77, Fa77, Fr77, Ft77⟩ := hQ77
          have N77 := Fr.app N75 N77q
          refine GoH.tr st77 ?_
          have V_b5 := V_b5.keep K77q (ninS ne_b5_b76 nin0)
          have V_b8 := V_b8.keep K77q (ninS ne_b8_b76 nin0)
          have V_b13 := V_b13.keep K77q (ninS ne_b13_b76 nin0)
          have E_b70 := E_b70.keep K77q
          have Fk75 := Fk75.keep K77q (ninS ne_b70_b76 nin0)
          have E_b76 := E_b76.keep K77q
          have sfw77 := (sfS Sf_b76 sf0)
          have Sf_b5 := Safe.keep K77q sfw77 HH Sf_b5
          have Sf_b8 := Safe.keep K77q sfw77 HH Sf_b8
          have Sf_b13 := Safe.keep K77q sfw77 HH Sf_b13
          have Sf_b70 := Safe.keep K77q sfw77 HH Sf_b70
          have Sf_b76 := Safe.keep K77q sfw77 HH Sf_b76
          have RR := RR.trans (CHr.keep K77q sfw77 HH)
          have HH := HH.keep K77q sfw77
          have hk := Nat.le_trans hk K77q.1
          have O := O.keep K77q (allS g_b76 all0)
          have KK := KK.trans K77q (allS (Or.inr sz_b76) all0)
          have E_b76 := Eq77
          show GoH _ _ _ _ _ _ _ _ _ _  T77 (mkF m 208 #[.val (.int p1), .val (.int p2), .val (.int p3), .val (.int p4), .val (.int (0 : Int32)), .val (.int (1 : Int32)), .val (.int (1 : Int32)), .val (.int (0 : Int32)), .val (.ref b5), .val (.ref b8), .val (.ref b13), .val .null, .val (.ref b66), .val (.ref w_ADMIN), .val (.ref b70), .unset, .unset, .unset, .unset] [(.ref b76)])
          refine GoH.st (fun t k => XS.astore X77.here hx rfl (hb hby at_208) rfl rfl (l' := #[.val (.int p1), .val (.int p2), .val (.int p3), .val (.int p4), .val (.int (0 : Int32)), .val (.int (1 : Int32)), .val (.int (1 : Int32)), .val (.int (0 : Int32)), .val (.ref b5), .val (.ref b8), .val (.ref b13), .val .null, .val (.ref b66), .val (.ref w_ADMIN), .val (.ref b70), .val (.ref b76), .unset, .unset, .unset]) rfl k) ?_
          show GoH _ _ _ _ _ _ _ _ _ _  T77 (mkF m 210 #[.val (.int p1), .val (.int p2), .val (.int p3), .val (.int p4), .val (.int (0 : Int32)), .val (.int (1 : Int32)), .val (.int (1 : Int32)), .val (.int (0 : Int32)), .val (.ref b5), .val (.ref b8), .val (.ref b13), .val .null, .val (.ref b66), .val (.ref w_ADMIN), .val (.ref b70), .val (.ref b76), .unset, .unset, .unset] [])
          refine GoH.st (fun t k => XS.aload X77.here hx rfl (hb hby at_210) rfl rfl  k) ?_
          show GoH _ _ _ _ _ _ _ _ _ _  T77 (mkF m 212 #[.val (.int p1), .val (.int p2), .val (.int p3), .val (.int p4), .val (.int (0 : Int32)), .val (.int (1 : Int32)), .val (.int (1 : Int32)), .val (.int (0 : Int32)), .val (.ref b5), .val (.ref b8), .val (.ref b13), .val .null, .val (.ref b66), .val (.ref w_ADMIN), .val (.ref b70), .val (.ref b76), .unset, .unset, .unset] [(.ref b76)])
          obtain ⟨cq78, kq78, q78a, q78b, q78c⟩ := isOf hZ rfl E_b76
          obtain ⟨_, _, ⟨T78, L78, k78, n78⟩, -, X78, ⟨Lc78, hQ78, l78, y78, z78⟩, st78⟩ := X77.virtualBack hx (y := (⟨"com/example/wellness_on_record/wellnessonrecord/oauth/Principal", "holdsRequestToken", "()Z"⟩ : MethodName)) (z := (⟨"com/example/wellness_on_record/wellnessonrecord/oauth/Principal", "holdsRequestToken", "()Z"⟩ : MethodName)) hown (mvT hZ (hw _ (List.mem_of_getElem? (i := 86) rfl))) (mvT hZ (hw _ (List.mem_of_getElem? (i := 87) rfl))) (notFace_of_selects (args := #[]) (mvT hZ (hw _ (List.mem_of_getElem? (i := 89) rfl)))) (mvT hZ (hw _ (List.mem_of_getElem? (i := 89) rfl))) (mvT hZ (hw _ (List.mem_of_getElem? (i := 88) rfl))) (by decide) (backOf (W := 0) (rmH l Z a0 hw [] b76 (.ref b66) T77.heap n0 O Ft77 rfl) hZ (hw _ (List.mem_of_getElem? (i := 90) rfl)) (hw _ (List.mem_of_getElem? (i := 75) rfl)) (by decide) (by decide)) q78a q78c (g := (mkF m 212 #[.val (.int p1), .val (.int p2), .val (.int p3), .val (.int p4), .val (.int (0 : Int32)), .val (.int (1 : Int32)), .val (.int (1 : Int32)), .val (.int (0 : Int32)), .val (.ref b5), .val (.ref b8), .val (.ref b13), .val .null, .val (.ref b66), .val (.ref w_ADMIN), .val (.ref b70), .val (.ref b76), .unset, .unset, .unset] [(.ref b76)])) rfl (by rw [hml]; rfl) (Steps.refl _) (argsL := []) (rest := []) (lenOf pd___Z rfl) rfl (by show 2 * 0 + _ ≤ _; exact Nat.le_of_eq rfl) (hb hby at_212) (fun _ _ => ⟨rfl, rfl, (by decide : 18 + 0 ≤ _), (by decide : 105 + 0 ≤ _)⟩)
          dsimp only [Pt.U, Pt.locs, Pt.cells, Pt.slots] at X78 l78 y78 z78 st78 hQ78
          subst l78 y78 z78
          obtain ⟨rfl, N78q, e78q⟩ := hQ78
          have N78 := Fr.app N77 N78q
          refine GoH.tr st78 ?_
          rw [show (if (.ref b66) = Value.null then (0 : Int32) else 1) = (1 : Int32) from by simp]
          show GoH _ _ _ _ _ _ _ _ _ _  T78 (mkF m 215 #[.val (.int p1), .val (.int p2), .val (.int p3), .val (.int p4), .val (.int (0 : Int32)), .val (.int (1 : Int32)), .val (.int (1 : Int32)), .val (.int (0 : Int32)), .val (.ref b5), .val (.ref b8), .val (.ref b13), .val .null, .val (.ref b66), .val (.ref w_ADMIN), .val (.ref b70), .val (.ref b76), .unset, .unset, .unset] [(.int (1 : Int32))])
          refine GoH.st (fun t k => XS.istore X78.here hx rfl (hb hby at_215) rfl (l' := #[.val (.int p1), .val (.int p2), .val (.int p3), .val (.int p4), .val (.int (0 : Int32)), .val (.int (1 : Int32)), .val (.int (1 : Int32)), .val (.int (0 : Int32)), .val (.ref b5), .val (.ref b8), .val (.ref b13), .val .null, .val (.ref b66), .val (.ref w_ADMIN), .val (.ref b70), .val (.ref b76), .val (.int (1 : Int32)), .unset, .unset]) rfl k) ?_
          show GoH _ _ _ _ _ _ _ _ _ _  T78 (mkF m 217 #[.val (.int p1), .val (.int p2), .val (.int p3), .val (.int p4), .val (.int (0 : Int32)), .val (.int (1 : Int32)), .val (.int (1 : Int32)), .val (.int (0 : Int32)), .val (.ref b5), .val (.ref b8), .val (.ref b13), .val .null, .val (.ref b66), .val (.ref w_ADMIN), .val (.ref b70), .val (.ref b76), .val (.int (1 : Int32)), .unset, .unset] [])
          refine GoH.st (fun t k => XS.iload X78.here hx rfl (hb hby at_217) rfl  k) ?_
          show GoH _ _ _ _ _ _ _ _ _ _  T78 (mkF m 219 #[.val (.int p1), .val (.int p2), .val (.int p3), .val (.int p4), .val (.int (0 : Int32)), .val (.int (1 : Int32)), .val (.int (1 : Int32)), .val (.int (0 : Int32)), .val (.ref b5), .val (.ref b8), .val (.ref b13), .val .null, .val (.ref b66), .val (.ref w_ADMIN), .val (.ref b70), .val (.ref b76), .val (.int (1 : Int32)), .unset, .unset] [(.int (1 : Int32))])
          refine GoH.st (fun t k => XS.iload X78.here hx rfl (hb hby at_219) rfl  k) ?_
          show GoH _ _ _ _ _ _ _ _ _ _  T78 (mkF m 221 #[.val (.int p1), .val (.int p2), .val (.int p3), .val (.int p4), .val (.int (0 : Int32)), .val (.int (1 : Int32)), .val (.int (1 : Int32)), .val (.int (0 : Int32)), .val (.ref b5), .val (.ref b8), .val (.ref b13), .val .null, .val (.ref b66), .val (.ref w_ADMIN), .val (.ref b70), .val (.ref b76), .val (.int (1 : Int32)), .unset, .unset] [(.int (1 : Int32)), (.int (1 : Int32))])
          refine GoH.st (fun t k => XS.icmpYes X78.here hx rfl (pc0 := 221) (pc' := 226) rfl (hb hby at_221) rfl (teq (rfl : (1 : Int32) = (1 : Int32))).1 (by decide) (by decide) k) ?_
          show GoH _ _ _ _ _ _ _ _ _ _  T78 (mkF m 226 #[.val (.int p1), .val (.int p2), .val (.int p3), .val (.int p4), .val (.int (0 : Int32)), .val (.int (1 : Int32)), .val (.int (1 : Int32)), .val (.int (0 : Int32)), .val (.ref b5), .val (.ref b8), .val (.ref b13), .val .null, .val (.ref b66), .val (.ref w_ADMIN), .val (.ref b70), .val (.ref b76), .val (.int (1 : Int32)), .unset, .unset] [])
          refine GoH.st (fun t k => XS.aload X78.here hx rfl (hb hby at_226) rfl rfl  k) ?_
          show GoH _ _ _ _ _ _ _ _ _ _  T78 (mkF m 228 #[.val (.int p1), .val (.int p2), .val (.int p3), .val (.int p4), .val (.int (0 : Int32)), .val (.int (1 : Int32)), .val (.int (1 : Int32)), .val (.int (0 : Int32)), .val (.ref b5), .val (.ref b8), .val (.ref b13), .val .null, .val (.ref b66), .val (.ref w_ADMIN), .val (.ref b70), .val (.ref b76), .val (.int (1 : Int32)), .unset, .unset] [(.ref b76)])
          obtain ⟨cq79, kq79, q79a, q79b, q79c⟩ := isOf hZ e78q E_b76
          obtain ⟨_, _, ⟨T79, L79, k79, n79⟩, -, X79, ⟨Lc79, hQ79, l79, y79, z79⟩, st79⟩ := X78.virtualBack hx (y := (⟨"com/example/wellness_on_record/wellnessonrecord/oauth/Principal", "isUserAppAlone", "()Z"⟩ : MethodName)) (z := (⟨"com/example/wellness_on_record/wellnessonrecord/oauth/Principal", "isUserAppAlone", "()Z"⟩ : MethodName)) hown (mvT hZ (hw _ (List.mem_of_getElem? (i := 91) rfl))) (mvT hZ (hw _ (List.mem_of_getElem? (i := 92) rfl))) (notFace_of_selects (args := #[]) (mvT hZ (hw _ (List.mem_of_getElem? (i := 94) rfl)))) (mvT hZ (hw _ (List.mem_of_getElem? (i := 94) rfl))) (mvT hZ (hw _ (List.mem_of_getElem? (i := 93) rfl))) (by decide) (backOf (W := 0) (rmU l Z a0 hw [] b76 b70 w_ADMIN .null (.ref b66) w_USER T77.heap n0 O Fa77 Fr77 Ft77 rfl rfl Fk75 E_b76 E_b70 S_USER) hZ (hw _ (List.mem_of_getElem? (i := 95) rfl)) (hw _ (List.mem_of_getElem? (i := 75) rfl)) (by decide) (by decide)) q79a q79c (g := (mkF m 228 #[.val (.int p1), .val (.int p2), .val (.int p3), .val (.int p4), .val (.int (0 : Int32)), .val (.int (1 : Int32)), .val (.int (1 : Int32)), .val (.int (0 : Int32)), .val (.ref b5), .val (.ref b8), .val (.ref b13), .val .null, .val (.ref b66), .val (.ref w_ADMIN), .val (.ref b70), .val (.ref b76), .val (.int (1 : Int32)), .unset, .unset] [(.ref b76)])) rfl (by rw [hml]; rfl) (Steps.refl _) (argsL := []) (rest := []) (lenOf pd___Z rfl) rfl (by show 2 * 0 + _ ≤ _; exact Nat.le_of_eq rfl) (hb hby at_228) (fun _ _ => ⟨rfl, e78q, (by decide : 18 + 0 ≤ _), (by decide : 105 + 0 ≤ _)⟩)
          dsimp only [Pt.U, Pt.locs, Pt.cells, Pt.slots] at X79 l79 y79 z79 st79 hQ79
          subst l79 y79 z79
          obtain ⟨rfl, N79q, e79q⟩ := hQ79
          have N79 := Fr.app N78 N79q
          refine GoH.tr st79 ?_
          rw [show (if w_ADMIN = w_USER then (if .null = Value.null then (if (.ref b66) = Value.null then (1 : Int32) else 0) else 0) else 0) = (0 : Int32) from by simp [nAU]]
          show GoH _ _ _ _ _ _ _ _ _ _  T79 (mkF m 231 #[.val (.int p1), .val (.int p2), .val (.int p3), .val (.int p4), .val (.int (0 : Int32)), .val (.int (1 : Int32)), .val (.int (1 : Int32)), .val (.int (0 : Int32)), .val (.ref b5), .val (.ref b8), .val (.ref b13), .val .null, .val (.ref b66), .val (.ref w_ADMIN), .val (.ref b70), .val (.ref b76), .val (.int (1 : Int32)), .unset, .unset] [(.int (0 : Int32))])
          refine GoH.st (fun t k => XS.istore X79.here hx rfl (hb hby at_231) rfl (l' := #[.val (.int p1), .val (.int p2), .val (.int p3), .val (.int p4), .val (.int (0 : Int32)), .val (.int (1 : Int32)), .val (.int (1 : Int32)), .val (.int (0 : Int32)), .val (.ref b5), .val (.ref b8), .val (.ref b13), .val .null, .val (.ref b66), .val (.ref w_ADMIN), .val (.ref b70), .val (.ref b76), .val (.int (1 : Int32)), .val (.int (0 : Int32)), .unset]) rfl k) ?_
          show GoH _ _ _ _ _ _ _ _ _ _  T79 (mkF m 233 #[.val (.int p1), .val (.int p2), .val (.int p3), .val (.int p4), .val (.int (0 : Int32)), .val (.int (1 : Int32)), .val (.int (1 : Int32)), .val (.int (0 : Int32)), .val (.ref b5), .val (.ref b8), .val (.ref b13), .val .null, .val (.ref b66), .val (.ref w_ADMIN), .val (.ref b70), .val (.ref b76), .val (.int (1 : Int32)), .val (.int (0 : Int32)), .unset] [])
          refine GoH.st (fun t k => XS.iload X79.here hx rfl (hb hby at_233) rfl  k) ?_
          show GoH _ _ _ _ _ _ _ _ _ _  T79 (mkF m 235 #[.val (.int p1), .val (.int p2), .val (.int p3), .val (.int p4), .val (.int (0 : Int32)), .val (.int (1 : Int32)), .val (.int (1 : Int32)), .val (.int (0 : Int32)), .val (.ref b5), .val (.ref b8), .val (.ref b13), .val .null, .val (.ref b66), .val (.ref w_ADMIN), .val (.ref b70), .val (.ref b76), .val (.int (1 : Int32)), .val (.int (0 : Int32)), .unset] [(.int (1 : Int32))])
          refine GoH.st (fun t k => XS.ifYes X79.here hx rfl (pc0 := 235) (pc' := 252) rfl (hb hby at_235) rfl ((if0 _ _).trans (feq (by decide : ¬ ((1 : Int32) = (0 : Int32)))).2) (by decide) (by decide) k) ?_
          show GoH _ _ _ _ _ _ _ _ _ _  T79 (mkF m 252 #[.val (.int p1), .val (.int p2), .val (.int p3), .val (.int p4), .val (.int (0 : Int32)), .val (.int (1 : Int32)), .val (.int (1 : Int32)), .val (.int (0 : Int32)), .val (.ref b5), .val (.ref b8), .val (.ref b13), .val .null, .val (.ref b66), .val (.ref w_ADMIN), .val (.ref b70), .val (.ref b76), .val (.int (1 : Int32)), .val (.int (0 : Int32)), .unset] [])
          refine GoH.st (fun t k => XS.iconst X79.here hx rfl (hb hby at_252) k) ?_
          show GoH _ _ _ _ _ _ _ _ _ _  T79 (mkF m 253 #[.val (.int p1), .val (.int p2), .val (.int p3), .val (.int p4), .val (.int (0 : Int32)), .val (.int (1 : Int32)), .val (.int (1 : Int32)), .val (.int (0 : Int32)), .val (.ref b5), .val (.ref b8), .val (.ref b13), .val .null, .val (.ref b66), .val (.ref w_ADMIN), .val (.ref b70), .val (.ref b76), .val (.int (1 : Int32)), .val (.int (0 : Int32)), .unset] [(.int (0 : Int32))])
          refine GoH.st (fun t k => XS.istore X79.here hx rfl (hb hby at_253) rfl (l' := #[.val (.int p1), .val (.int p2), .val (.int p3), .val (.int p4), .val (.int (0 : Int32)), .val (.int (1 : Int32)), .val (.int (1 : Int32)), .val (.int (0 : Int32)), .val (.ref b5), .val (.ref b8), .val (.ref b13), .val .null, .val (.ref b66), .val (.ref w_ADMIN), .val (.ref b70), .val (.ref b76), .val (.int (1 : Int32)), .val (.int (0 : Int32)), .val (.int (0 : Int32))]) rfl k) ?_
          show GoH _ _ _ _ _ _ _ _ _ _  T79 (mkF m 255 #[.val (.int p1), .val (.int p2), .val (.int p3), .val (.int p4), .val (.int (0 : Int32)), .val (.int (1 : Int32)), .val (.int (1 : Int32)), .val (.int (0 : Int32)), .val (.ref b5), .val (.ref b8), .val (.ref b13), .val .null, .val (.ref b66), .val (.ref w_ADMIN), .val (.ref b70), .val (.ref b76), .val (.int (1 : Int32)), .val (.int (0 : Int32)), .val (.int (0 : Int32))] [])
          refine GoH.st (fun t k => XS.iload X79.here hx rfl (hb hby at_255) rfl  k) ?_
          show GoH _ _ _ _ _ _ _ _ _ _  T79 (mkF m 257 #[.val (.int p1), .val (.int p2), .val (.int p3), .val (.int p4), .val (.int (0 : Int32)), .val (.int (1 : Int32)), .val (.int (1 : Int32)), .val (.int (0 : Int32)), .val (.ref b5), .val (.ref b8), .val (.ref b13), .val .null, .val (.ref b66), .val (.ref w_ADMIN), .val (.ref b70), .val (.ref b76), .val (.int (1 : Int32)), .val (.int (0 : Int32)), .val (.int (0 : Int32))] [(.int (0 : Int32))])
          refine GoH.st (fun t k => XS.iload X79.here hx rfl (hb hby at_257) rfl  k) ?_
          show GoH _ _ _ _ _ _ _ _ _ _  T79 (mkF m 259 #[.val (.int p1), .val (.int p2), .val (.int p3), .val (.int p4), .val (.int (0 : Int32)), .val (.int (1 : Int32)), .val (.int (1 : Int32)), .val (.int (0 : Int32)), .val (.ref b5), .val (.ref b8), .val (.ref b13), .val .null, .val (.ref b66), .val (.ref w_ADMIN), .val (.ref b70), .val (.ref b76), .val (.int (1 : Int32)), .val (.int (0 : Int32)), .val (.int (0 : Int32))] [(.int (0 : Int32)), (.int (0 : Int32))])
          refine GoH.st (fun t k => XS.icmpNo X79.here hx rfl (hb hby at_259) rfl (teq (rfl : (0 : Int32) = (0 : Int32))).2 k) ?_
          show GoH _ _ _ _ _ _ _ _ _ _  T79 (mkF m 262 #[.val (.int p1), .val (.int p2), .val (.int p3), .val (.int p4), .val (.int (0 : Int32)), .val (.int (1 : Int32)), .val (.int (1 : Int32)), .val (.int (0 : Int32)), .val (.ref b5), .val (.ref b8), .val (.ref b13), .val .null, .val (.ref b66), .val (.ref w_ADMIN), .val (.ref b70), .val (.ref b76), .val (.int (1 : Int32)), .val (.int (0 : Int32)), .val (.int (0 : Int32))] [])
          refine GoH.st (fun t k => XS.iconst X79.here hx rfl (hb hby at_262) k) ?_
          show GoH _ _ _ _ _ _ _ _ _ _  T79 (mkF m 263 #[.val (.int p1), .val (.int p2), .val (.int p3), .val (.int p4), .val (.int (0 : Int32)), .val (.int (1 : Int32)), .val (.int (1 : Int32)), .val (.int (0 : Int32)), .val (.ref b5), .val (.ref b8), .val (.ref b13), .val .null, .val (.ref b66), .val (.ref w_ADMIN), .val (.ref b70), .val (.ref b76), .val (.int (1 : Int32)), .val (.int (0 : Int32)), .val (.int (0 : Int32))] [(.int (1 : Int32))])
          refine GoH.st (fun t k => XS.goto X79.here hx rfl (pc0 := 263) (pc' := 267) rfl (hb hby at_263) (by decide) (by decide) k) ?_
          show GoH _ _ _ _ _ _ _ _ _ _  T79 (mkF m 267 #[.val (.int p1), .val (.int p2), .val (.int p3), .val (.int p4), .val (.int (0 : Int32)), .val (.int (1 : Int32)), .val (.int (1 : Int32)), .val (.int (0 : Int32)), .val (.ref b5), .val (.ref b8), .val (.ref b13), .val .null, .val (.ref b66), .val (.ref w_ADMIN), .val (.ref b70), .val (.ref b76), .val (.int (1 : Int32)), .val (.int (0 : Int32)), .val (.int (0 : Int32))] [(.int (1 : Int32))])
          refine GoH.retN X79 hS hk e79q hZ hEL HH RR hlk hx (t := .boolean) (z' := (1 : Int32)) Bd.returns (by simp) (hb hby at_267) (by decide) (by decide) rfl ?_
          show Q_rm0 Z _ _ _ _ _ _ _ h0 n0 _ T79.heap _
          rw [e79q]
          exact ⟨rfl, N79⟩
        · rw [sp68]
          show GoH _ _ _ _ _ _ _ _ _ _  T67 (mkF m 154 #[.val (.int p1), .val (.int p2), .val (.int p3), .val (.int p4), .val (.int (0 : Int32)), .val (.int (1 : Int32)), .val (.int (1 : Int32)), .val (.int (1 : Int32)), .val (.ref b5), .val (.ref b8), .val (.ref b13), .val .null, .val (.ref b66), .unset, .unset, .unset, .unset, .unset, .unset] [])
          refine GoH.st (fun t k => XS.iload X67.here hx rfl (hb hby at_154) rfl  k) ?_
          show GoH _ _ _ _ _ _ _ _ _ _  T67 (mkF m 156 #[.val (.int p1), .val (.int p2), .val (.int p3), .val (.int p4), .val (.int (0 : Int32)), .val (.int (1 : Int32)), .val (.int (1 : Int32)), .val (.int (1 : Int32)), .val (.ref b5), .val (.ref b8), .val (.ref b13), .val .null, .val (.ref b66), .unset, .unset, .unset, .unset, .unset, .unset] [(.int (1 : Int32))])
          refine GoH.st (fun t k => XS.ifNo X67.here hx rfl (hb hby at_156) rfl ((if0 _ _).trans (feq (by decide : ¬ ((1 : Int32) = (0 : Int32)))).1) k) ?_
          show GoH _ _ _ _ _ _ _ _ _ _  T67 (mkF m 159 #[.val (.int p1), .val (.int p2), .val (.int p3), .val (.int p4), .val (.int (0 : Int32)), .val (.int (1 : Int32)), .val (.int (1 : Int32)), .val (.int (1 : Int32)), .val (.ref b5), .val (.ref b8), .val (.ref b13), .val .null, .val (.ref b66), .unset, .unset, .unset, .unset, .unset, .unset] [])
          obtain ⟨T80, X80, e80, st80⟩ := getS2 X67 hx hZ hown (host := "") (Or.inl (hw _ (List.mem_of_getElem? (i := 100) rfl))) Via.refl rfl (S_USER.ext O.2) (g := (mkF m 159 #[.val (.int p1), .val (.int p2), .val (.int p3), .val (.int p4), .val (.int (0 : Int32)), .val (.int (1 : Int32)), .val (.int (1 : Int32)), .val (.int (1 : Int32)), .val (.ref b5), .val (.ref b8), .val (.ref b13), .val .null, .val (.ref b66), .unset, .unset, .unset, .unset, .unset, .unset] [])) rfl (hb hby at_159)
          refine GoH.st st80 ?_
          show GoH _ _ _ _ _ _ _ _ _ _  T80 (mkF m 162 #[.val (.int p1), .val (.int p2), .val (.int p3), .val (.int p4), .val (.int (0 : Int32)), .val (.int (1 : Int32)), .val (.int (1 : Int32)), .val (.int (1 : Int32)), .val (.ref b5), .val (.ref b8), .val (.ref b13), .val .null, .val (.ref b66), .unset, .unset, .unset, .unset, .unset, .unset] [(.ref w_USER)])
          refine GoH.st (fun t k => XS.goto X80.here hx rfl (pc0 := 162) (pc' := 168) rfl (hb hby at_162) (by decide) (by decide) k) ?_
          show GoH _ _ _ _ _ _ _ _ _ _  T80 (mkF m 168 #[.val (.int p1), .val (.int p2), .val (.int p3), .val (.int p4), .val (.int (0 : Int32)), .val (.int (1 : Int32)), .val (.int (1 : Int32)), .val (.int (1 : Int32)), .val (.ref b5), .val (.ref b8), .val (.ref b13), .val .null, .val (.ref b66), .unset, .unset, .unset, .unset, .unset, .unset] [(.ref w_USER)])
          refine GoH.st (fun t k => XS.astore X80.here hx rfl (hb hby at_168) rfl rfl (l' := #[.val (.int p1), .val (.int p2), .val (.int p3), .val (.int p4), .val (.int (0 : Int32)), .val (.int (1 : Int32)), .val (.int (1 : Int32)), .val (.int (1 : Int32)), .val (.ref b5), .val (.ref b8), .val (.ref b13), .val .null, .val (.ref b66), .val (.ref w_USER), .unset, .unset, .unset, .unset, .unset]) rfl k) ?_
          show GoH _ _ _ _ _ _ _ _ _ _  T80 (mkF m 170 #[.val (.int p1), .val (.int p2), .val (.int p3), .val (.int p4), .val (.int (0 : Int32)), .val (.int (1 : Int32)), .val (.int (1 : Int32)), .val (.int (1 : Int32)), .val (.ref b5), .val (.ref b8), .val (.ref b13), .val .null, .val (.ref b66), .val (.ref w_USER), .unset, .unset, .unset, .unset, .unset] [])
          obtain ⟨T81, h81, X81, e81, E81, A81, D81, -, st81⟩ := newO X80 hx hZ hown (hw _ (List.mem_of_getElem? (i := 33) rfl)) (hw _ (List.mem_of_getElem? (i := 34) rfl)) (hw _ (List.mem_of_getElem? (i := 35) rfl)) e80 (g := (mkF m 170 #[.val (.int p1), .val (.int p2), .val (.int p3), .val (.int p4), .val (.int (0 : Int32)), .val (.int (1 : Int32)), .val (.int (1 : Int32)), .val (.int (1 : Int32)), .val (.ref b5), .val (.ref b8), .val (.ref b13), .val .null, .val (.ref b66), .val (.ref w_USER), .unset, .unset, .unset, .unset, .unset] [])) rfl (hb hby at_170) (by decide) (by decide)
          obtain ⟨b81, g81⟩ : ∃ z, z = T67.heap.size := ⟨_, rfl⟩
          rw [← g81] at A81 D81 st81
          refine GoH.st st81 ?_
          have g_b81 : n0 ≤ b81 := by rw [g81]; exact own_le O
          have Sf_b81 : Safe Z EL T67.vm T67.heap b81 := Safe.new (Nat.le_of_eq g81.symm)
          have sz_b81 : h0.size ≤ b81 := by rw [g81]; exact KK.1
          have ne_b5_b81 : b5 ≠ b81 := Nat.ne_of_lt (by rw [g81]; exact V_b5.lt)
          have ne_b8_b81 : b8 ≠ b81 := Nat.ne_of_lt (by rw [g81]; exact V_b8.lt)
          have ne_b13_b81 : b13 ≠ b81 := Nat.ne_of_lt (by rw [g81]; exact V_b13.lt)
          have V_b5 := V_b5.ext E81
          have V_b8 := V_b8.ext E81
          have V_b13 := V_b13.ext E81
          have Sf_b5 := Safe.ext E81 HH Sf_b5
          have Sf_b8 := Safe.ext E81 HH Sf_b8
          have Sf_b13 := Safe.ext E81 HH Sf_b13
          have Sf_b81 := Safe.ext E81 HH Sf_b81
          have RR := RR.trans (CHr.ext E81 HH)
          have HH := HH.ext E81
          have hk := Nat.le_trans hk E81.1
          have O := O.ext E81
          have KK := KK.ext E81
          have E_b81 := A81
          have F_id_b81 : Fld Z h81 b81 "com/example/wellness_on_record/wellnessonrecord/apps/App" "id" "Ljava/lang/String;" .null := D81 (Or.inr (hw _ (List.mem_of_getElem? (i := 52) rfl))) (ty := (.object "java/lang/String")) (by decide)
          have F_name_b81 : Fld Z h81 b81 "com/example/wellness_on_record/wellnessonrecord/apps/App" "name" "Ljava/lang/String;" .null := D81 (Or.inr (hw _ (List.mem_of_getElem? (i := 54) rfl))) (ty := (.object "java/lang/String")) (by decide)
          have F_kind_b81 : Fld Z h81 b81 "com/example/wellness_on_record/wellnessonrecord/apps/App" "kind" "Lcom/example/wellness_on_record/wellnessonrecord/apps/App$Kind;" .null := D81 (Or.inr (hw _ (List.mem_of_getElem? (i := 56) rfl))) (ty := (.object "com/example/wellness_on_record/wellnessonrecord/apps/App$Kind")) (by decide)
          have F_consumerKey_b81 : Fld Z h81 b81 "com/example/wellness_on_record/wellnessonrecord/apps/App" "consumerKey" "Ljava/lang/String;" .null := D81 (Or.inr (hw _ (List.mem_of_getElem? (i := 58) rfl))) (ty := (.object "java/lang/String")) (by decide)
          have F_consumerSecret_b81 : Fld Z h81 b81 "com/example/wellness_on_record/wellnessonrecord/apps/App" "consumerSecret" "Ljava/lang/String;" .null := D81 (Or.inr (hw _ (List.mem_of_getElem? (i := 60) rfl))) (ty := (.object "java/lang/String")) (by decide)
          have F_autonomous_b81 : Fld Z h81 b81 "com/example/wellness_on_record/wellnessonrecord/apps/App" "autonomous" "Z" (.int (0 : Int32)) := D81 (Or.inr (hw _ (List.mem_of_getElem? (i := 62) rfl))) (ty := .boolean) (by decide)
          have F_autonomousReason_b81 : Fld Z h81 b81 "com/example/wellness_on_record/wellnessonrecord/apps/App" "autonomousReason" "Ljava/lang/String;" .null := D81 (Or.inr (hw _ (List.mem_of_getElem? (i := 64) rfl))) (ty := (.object "java/lang/String")) (by decide)
          have F_hasUi_b81 : Fld Z h81 b81 "com/example/wellness_on_record/wellnessonrecord/apps/App" "hasUi" "Z" (.int (0 : Int32)) := D81 (Or.inr (hw _ (List.mem_of_getElem? (i := 66) rfl))) (ty := .boolean) (by decide)
          have F_callbackUrl_b81 : Fld Z h81 b81 "com/example/wellness_on_record/wellnessonrecord/apps/App" "callbackUrl" "Ljava/lang/String;" .null := D81 (Or.inr (hw _ (List.mem_of_getElem? (i := 68) rfl))) (ty := (.object "java/lang/String")) (by decide)
          have F_startUrlTemplate_b81 : Fld Z h81 b81 "com/example/wellness_on_record/wellnessonrecord/apps/App" "startUrlTemplate" "Ljava/lang/String;" .null := D81 (Or.inr (hw _ (List.mem_of_getElem? (i := 70) rfl))) (ty := (.object "java/lang/String")) (by decide)
          have F_frameable_b81 : Fld Z h81 b81 "com/example/wellness_on_record/wellnessonrecord/apps/App" "frameable" "Z" (.int (0 : Int32)) := D81 (Or.inr (hw _ (List.mem_of_getElem? (i := 72) rfl))) (ty := .boolean) (by decide)
          show GoH _ _ _ _ _ _ _ _ _ _  T81 (mkF m 173 #[.val (.int p1), .val (.int p2), .val (.int p3), .val (.int p4), .val (.int (0 : Int32)), .val (.int (1 : Int32)), .val (.int (1 : Int32)), .val (.int (1 : Int32)), .val (.ref b5), .val (.ref b8), .val (.ref b13), .val .null, .val (.ref b66), .val (.ref w_USER), .unset, .unset, .unset, .unset, .unset] [(.ref b81)])
          refine GoH.st (fun t k => XS.dup X81.here hx rfl (hb hby at_173) rfl rfl k) ?_
          show GoH _ _ _ _ _ _ _ _ _ _  T81 (mkF m 174 #[.val (.int p1), .val (.int p2), .val (.int p3), .val (.int p4), .val (.int (0 : Int32)), .val (.int (1 : Int32)), .val (.int (1 : Int32)), .val (.int (1 : Int32)), .val (.ref b5), .val (.ref b8), .val (.ref b13), .val .null, .val (.ref b66), .val (.ref w_USER), .unset, .unset, .unset, .unset, .unset] [(.ref b81), (.ref b81)])
          obtain ⟨sa82, T82, h82, kk82, sb82, kb82, X82, e82, E82, hS82, hk82, hZ82, ho82, E_sa82, F_coder_sa82, F_value_sa82, V_sb82, la82, lb82, CR82, Lt82, ns82, st82⟩ := ldcCH X81 hx hZ hown (hw _ (List.mem_of_getElem? (i := 36) rfl)) wS e81 hS hk hEL (List.mem_of_getElem? (i := 0) rfl) HH (vs := [(.int (105 : Int32)), (.int (100 : Int32))]) (z := 2) ⟨by decide, by decide⟩ (by decide) rfl (g := (mkF m 174 #[.val (.int p1), .val (.int p2), .val (.int p3), .val (.int p4), .val (.int (0 : Int32)), .val (.int (1 : Int32)), .val (.int (1 : Int32)), .val (.int (1 : Int32)), .val (.ref b5), .val (.ref b8), .val (.ref b13), .val .null, .val (.ref b66), .val (.ref w_USER), .unset, .unset, .unset, .unset, .unset] [(.ref b81), (.ref b81)])) rfl (hb hby at_174) (n := 8) (by decide) (by decide) (by decide) (by decide)
          refine GoH.st st82 ?_
          have Sf_b5 := CHr.safe CR82 V_b5.lt Sf_b5
          have Sf_b8 := CHr.safe CR82 V_b8.lt Sf_b8
          have Sf_b13 := CHr.safe CR82 V_b13.lt Sf_b13
          have Sf_b81 := CHr.safe CR82 E_b81.lt Sf_b81
          have V_b5 := V_b5.ext E82
          have V_b8 := V_b8.ext E82
          have V_b13 := V_b13.ext E82
          have E_b81 := E_b81.ext E82
          have F_id_b81 := F_id_b81.ext E82
          have F_name_b81 := F_name_b81.ext E82
          have F_kind_b81 := F_kind_b81.ext E82
          have F_consumerKey_b81 := F_consumerKey_b81.ext E82
          have F_consumerSecret_b81 := F_consumerSecret_b81.ext E82
          have F_autonomous_b81 := F_autonomous_b81.ext E82
          have F_autonomousReason_b81 := F_autonomousReason_b81.ext E82
          have F_hasUi_b81 := F_hasUi_b81.ext E82
          have F_callbackUrl_b81 := F_callbackUrl_b81.ext E82
          have F_startUrlTemplate_b81 := F_startUrlTemplate_b81.ext E82
          have F_frameable_b81 := F_frameable_b81.ext E82
          have O := O.ext E82
          have KK := KK.ext E82
          have RR := RR.trans CR82
          have HH := CR82.1
          have hS := hS82
          have hk := hk82
          have hZ := hZ82
          have hown := ho82
          show GoH _ _ _ _ _ _ _ _ _ _  T82 (mkF m 176 #[.val (.int p1), .val (.int p2), .val (.int p3), .val (.int p4), .val (.int (0 : Int32)), .val (.int (1 : Int32)), .val (.int (1 : Int32)), .val (.int (1 : Int32)), .val (.ref b5), .val (.ref b8), .val (.ref b13), .val .null, .val (.ref b66), .val (.ref w_USER), .unset, .unset, .unset, .unset, .unset] [(.ref sa82), (.ref b81), (.ref b81)])
          obtain ⟨sa83, T83, h83, kk83, sb83, kb83, X83, e83, E83, hS83, hk83, hZ83, ho83, E_sa83, F_coder_sa83, F_value_sa83, V_sb83, la83, lb83, CR83, Lt83, ns83, st83⟩ := ldcCH X82 hx hZ hown (hw _ (List.mem_of_getElem? (i := 39) rfl)) wS e82 hS hk hEL (List.mem_of_getElem? (i := 1) rfl) HH (vs := [(.int (110 : Int32)), (.int (97 : Int32)), (.int (109 : Int32)), (.int (101 : Int32))]) (z := 4) ⟨by decide, by decide⟩ (by decide) rfl (g := (mkF m 176 #[.val (.int p1), .val (.int p2), .val (.int p3), .val (.int p4), .val (.int (0 : Int32)), .val (.int (1 : Int32)), .val (.int (1 : Int32)), .val (.int (1 : Int32)), .val (.ref b5), .val (.ref b8), .val (.ref b13), .val .null, .val (.ref b66), .val (.ref w_USER), .unset, .unset, .unset, .unset, .unset] [(.ref sa82), (.ref b81), (.ref b81)])) rfl (hb hby at_176) (n := 16) (by decide) (by decide) (by decide) (by decide)
          refine GoH.st st83 ?_
          have Sf_b5 := CHr.safe CR83 V_b5.lt Sf_b5
          have Sf_b8 := CHr.safe CR83 V_b8.lt Sf_b8
          have Sf_b13 := CHr.safe CR83 V_b13.lt Sf_b13
          have Sf_b81 := CHr.safe CR83 E_b81.lt Sf_b81
          have V_b5 := V_b5.ext E83
          have V_b8 := V_b8.ext E83
          have V_b13 := V_b13.ext E83
          have E_b81 := E_b81.ext E83
          have F_id_b81 := F_id_b81.ext E83
          have F_name_b81 := F_name_b81.ext E83
          have F_kind_b81 := F_kind_b81.ext E83
          have F_consumerKey_b81 := F_consumerKey_b81.ext E83
          have F_consumerSecret_b81 := F_consumerSecret_b81.ext E83
          have F_autonomous_b81 := F_autonomous_b81.ext E83
          have F_autonomousReason_b81 := F_autonomousReason_b81.ext E83
          have F_hasUi_b81 := F_hasUi_b81.ext E83
          have F_callbackUrl_b81 := F_callbackUrl_b81.ext E83
          have F_startUrlTemplate_b81 := F_startUrlTemplate_b81.ext E83
          have F_frameable_b81 := F_frameable_b81.ext E83
          have O := O.ext E83
          have KK := KK.ext E83
          have RR := RR.trans CR83
          have HH := CR83.1
          have hS := hS83
          have hk := hk83
          have hZ := hZ83
          have hown := ho83
          show GoH _ _ _ _ _ _ _ _ _ _  T83 (mkF m 178 #[.val (.int p1), .val (.int p2), .val (.int p3), .val (.int p4), .val (.int (0 : Int32)), .val (.int (1 : Int32)), .val (.int (1 : Int32)), .val (.int (1 : Int32)), .val (.ref b5), .val (.ref b8), .val (.ref b13), .val .null, .val (.ref b66), .val (.ref w_USER), .unset, .unset, .unset, .unset, .unset] [(.ref sa83), (.ref sa82), (.ref b81), (.ref b81)])
          refine GoH.st (fun t k => XS.aload X83.here hx rfl (hb hby at_178) rfl rfl  k) ?_
          show GoH _ _ _ _ _ _ _ _ _ _  T83 (mkF m 180 #[.val (.int p1), .val (.int p2), .val (.int p3), .val (.int p4), .val (.int (0 : Int32)), .val (.int (1 : Int32)), .val (.int (1 : Int32)), .val (.int (1 : Int32)), .val (.ref b5), .val (.ref b8), .val (.ref b13), .val .null, .val (.ref b66), .val (.ref w_USER), .unset, .unset, .unset, .unset, .unset] [(.ref w_USER), (.ref sa83), (.ref sa82), (.ref b81), (.ref b81)])
          obtain ⟨sa84, T84, h84, kk84, sb84, kb84, X84, e84, E84, hS84, hk84, hZ84, ho84, E_sa84, F_coder_sa84, F_value_sa84, V_sb84, la84, lb84, CR84, Lt84, ns84, st84⟩ := ldcCH X83 hx hZ hown (hw _ (List.mem_of_getElem? (i := 40) rfl)) wS e83 hS hk hEL (List.mem_of_getElem? (i := 2) rfl) HH (vs := [(.int (107 : Int32)), (.int (101 : Int32)), (.int (121 : Int32))]) (z := 3) ⟨by decide, by decide⟩ (by decide) rfl (g := (mkF m 180 #[.val (.int p1), .val (.int p2), .val (.int p3), .val (.int p4), .val (.int (0 : Int32)), .val (.int (1 : Int32)), .val (.int (1 : Int32)), .val (.int (1 : Int32)), .val (.ref b5), .val (.ref b8), .val (.ref b13), .val .null, .val (.ref b66), .val (.ref w_USER), .unset, .unset, .unset, .unset, .unset] [(.ref w_USER), (.ref sa83), (.ref sa82), (.ref b81), (.ref b81)])) rfl (hb hby at_180) (n := 12) (by decide) (by decide) (by decide) (by decide)
          refine GoH.st st84 ?_
          have Sf_b5 := CHr.safe CR84 V_b5.lt Sf_b5
          have Sf_b8 := CHr.safe CR84 V_b8.lt Sf_b8
          have Sf_b13 := CHr.safe CR84 V_b13.lt Sf_b13
          have Sf_b81 := CHr.safe CR84 E_b81.lt Sf_b81
          have V_b5 := V_b5.ext E84
          have V_b8 := V_b8.ext E84
          have V_b13 := V_b13.ext E84
          have E_b81 := E_b81.ext E84
          have F_id_b81 := F_id_b81.ext E84
          have F_name_b81 := F_name_b81.ext E84
          have F_kind_b81 := F_kind_b81.ext E84
          have F_consumerKey_b81 := F_consumerKey_b81.ext E84
          have F_consumerSecret_b81 := F_consumerSecret_b81.ext E84
          have F_autonomous_b81 := F_autonomous_b81.ext E84
          have F_autonomousReason_b81 := F_autonomousReason_b81.ext E84
          have F_hasUi_b81 := F_hasUi_b81.ext E84
          have F_callbackUrl_b81 := F_callbackUrl_b81.ext E84
          have F_startUrlTemplate_b81 := F_startUrlTemplate_b81.ext E84
          have F_frameable_b81 := F_frameable_b81.ext E84
          have O := O.ext E84
          have KK := KK.ext E84
          have RR := RR.trans CR84
          have HH := CR84.1
          have hS := hS84
          have hk := hk84
          have hZ := hZ84
          have hown := ho84
          show GoH _ _ _ _ _ _ _ _ _ _  T84 (mkF m 182 #[.val (.int p1), .val (.int p2), .val (.int p3), .val (.int p4), .val (.int (0 : Int32)), .val (.int (1 : Int32)), .val (.int (1 : Int32)), .val (.int (1 : Int32)), .val (.ref b5), .val (.ref b8), .val (.ref b13), .val .null, .val (.ref b66), .val (.ref w_USER), .unset, .unset, .unset, .unset, .unset] [(.ref sa84), (.ref w_USER), (.ref sa83), (.ref sa82), (.ref b81), (.ref b81)])
          obtain ⟨sa85, T85, h85, kk85, sb85, kb85, X85, e85, E85, hS85, hk85, hZ85, ho85, E_sa85, F_coder_sa85, F_value_sa85, V_sb85, la85, lb85, CR85, Lt85, ns85, st85⟩ := ldcCH X84 hx hZ hown (hw _ (List.mem_of_getElem? (i := 41) rfl)) wS e84 hS hk hEL (List.mem_of_getElem? (i := 3) rfl) HH (vs := [(.int (115 : Int32)), (.int (101 : Int32)), (.int (99 : Int32)), (.int (114 : Int32)), (.int (101 : Int32)), (.int (116 : Int32))]) (z := 6) ⟨by decide, by decide⟩ (by decide) rfl (g := (mkF m 182 #[.val (.int p1), .val (.int p2), .val (.int p3), .val (.int p4), .val (.int (0 : Int32)), .val (.int (1 : Int32)), .val (.int (1 : Int32)), .val (.int (1 : Int32)), .val (.ref b5), .val (.ref b8), .val (.ref b13), .val .null, .val (.ref b66), .val (.ref w_USER), .unset, .unset, .unset, .unset, .unset] [(.ref sa84), (.ref w_USER), (.ref sa83), (.ref sa82), (.ref b81), (.ref b81)])) rfl (hb hby at_182) (n := 24) (by decide) (by decide) (by decide) (by decide)
          refine GoH.st st85 ?_
          have Sf_b5 := CHr.safe CR85 V_b5.lt Sf_b5
          have Sf_b8 := CHr.safe CR85 V_b8.lt Sf_b8
          have Sf_b13 := CHr.safe CR85 V_b13.lt Sf_b13
          have Sf_b81 := CHr.safe CR85 E_b81.lt Sf_b81
          have V_b5 := V_b5.ext E85
          have V_b8 := V_b8.ext E85
          have V_b13 := V_b13.ext E85
          have E_b81 := E_b81.ext E85
          have F_id_b81 := F_id_b81.ext E85
          have F_name_b81 := F_name_b81.ext E85
          have F_kind_b81 := F_kind_b81.ext E85
          have F_consumerKey_b81 := F_consumerKey_b81.ext E85
          have F_consumerSecret_b81 := F_consumerSecret_b81.ext E85
          have F_autonomous_b81 := F_autonomous_b81.ext E85
          have F_autonomousReason_b81 := F_autonomousReason_b81.ext E85
          have F_hasUi_b81 := F_hasUi_b81.ext E85
          have F_callbackUrl_b81 := F_callbackUrl_b81.ext E85
          have F_startUrlTemplate_b81 := F_startUrlTemplate_b81.ext E85
          have F_frameable_b81 := F_frameable_b81.ext E85
          have O := O.ext E85
          have KK := KK.ext E85
          have RR := RR.trans CR85
          have HH := CR85.1
          have hS := hS85
          have hk := hk85
          have hZ := hZ85
          have hown := ho85
          show GoH _ _ _ _ _ _ _ _ _ _  T85 (mkF m 184 #[.val (.int p1), .val (.int p2), .val (.int p3), .val (.int p4), .val (.int (0 : Int32)), .val (.int (1 : Int32)), .val (.int (1 : Int32)), .val (.int (1 : Int32)), .val (.ref b5), .val (.ref b8), .val (.ref b13), .val .null, .val (.ref b66), .val (.ref w_USER), .unset, .unset, .unset, .unset, .unset] [(.ref sa85), (.ref sa84), (.ref w_USER), (.ref sa83), (.ref sa82), (.ref b81), (.ref b81)])
          refine GoH.st (fun t k => XS.iconst X85.here hx rfl (hb hby at_184) k) ?_
          show GoH _ _ _ _ _ _ _ _ _ _  T85 (mkF m 185 #[.val (.int p1), .val (.int p2), .val (.int p3), .val (.int p4), .val (.int (0 : Int32)), .val (.int (1 : Int32)), .val (.int (1 : Int32)), .val (.int (1 : Int32)), .val (.ref b5), .val (.ref b8), .val (.ref b13), .val .null, .val (.ref b66), .val (.ref w_USER), .unset, .unset, .unset, .unset, .unset] [(.int (0 : Int32)), (.ref sa85), (.ref sa84), (.ref w_USER), (.ref sa83), (.ref sa82), (.ref b81), (.ref b81)])
          refine GoH.st (fun t k => XS.aconstNull X85.here hx rfl (hb hby at_185) k) ?_
          show GoH _ _ _ _ _ _ _ _ _ _  T85 (mkF m 186 #[.val (.int p1), .val (.int p2), .val (.int p3), .val (.int p4), .val (.int (0 : Int32)), .val (.int (1 : Int32)), .val (.int (1 : Int32)), .val (.int (1 : Int32)), .val (.ref b5), .val (.ref b8), .val (.ref b13), .val .null, .val (.ref b66), .val (.ref w_USER), .unset, .unset, .unset, .unset, .unset] [.null, (.int (0 : Int32)), (.ref sa85), (.ref sa84), (.ref w_USER), (.ref sa83), (.ref sa82), (.ref b81), (.ref b81)])
          refine GoH.st (fun t k => XS.iconst X85.here hx rfl (hb hby at_186) k) ?_
          show GoH _ _ _ _ _ _ _ _ _ _  T85 (mkF m 187 #[.val (.int p1), .val (.int p2), .val (.int p3), .val (.int p4), .val (.int (0 : Int32)), .val (.int (1 : Int32)), .val (.int (1 : Int32)), .val (.int (1 : Int32)), .val (.ref b5), .val (.ref b8), .val (.ref b13), .val .null, .val (.ref b66), .val (.ref w_USER), .unset, .unset, .unset, .unset, .unset] [(.int (0 : Int32)), .null, (.int (0 : Int32)), (.ref sa85), (.ref sa84), (.ref w_USER), (.ref sa83), (.ref sa82), (.ref b81), (.ref b81)])
          refine GoH.st (fun t k => XS.aconstNull X85.here hx rfl (hb hby at_187) k) ?_
          show GoH _ _ _ _ _ _ _ _ _ _  T85 (mkF m 188 #[.val (.int p1), .val (.int p2), .val (.int p3), .val (.int p4), .val (.int (0 : Int32)), .val (.int (1 : Int32)), .val (.int (1 : Int32)), .val (.int (1 : Int32)), .val (.ref b5), .val (.ref b8), .val (.ref b13), .val .null, .val (.ref b66), .val (.ref w_USER), .unset, .unset, .unset, .unset, .unset] [.null, (.int (0 : Int32)), .null, (.int (0 : Int32)), (.ref sa85), (.ref sa84), (.ref w_USER), (.ref sa83), (.ref sa82), (.ref b81), (.ref b81)])
          refine GoH.st (fun t k => XS.aconstNull X85.here hx rfl (hb hby at_188) k) ?_
          show GoH _ _ _ _ _ _ _ _ _ _  T85 (mkF m 189 #[.val (.int p1), .val (.int p2), .val (.int p3), .val (.int p4), .val (.int (0 : Int32)), .val (.int (1 : Int32)), .val (.int (1 : Int32)), .val (.int (1 : Int32)), .val (.ref b5), .val (.ref b8), .val (.ref b13), .val .null, .val (.ref b66), .val (.ref w_USER), .unset, .unset, .unset, .unset, .unset] [.null, .null, (.int (0 : Int32)), .null, (.int (0 : Int32)), (.ref sa85), (.ref sa84), (.ref w_USER), (.ref sa83), (.ref sa82), (.ref b81), (.ref b81)])
          refine GoH.st (fun t k => XS.iconst X85.here hx rfl (hb hby at_189) k) ?_
          show GoH _ _ _ _ _ _ _ _ _ _  T85 (mkF m 190 #[.val (.int p1), .val (.int p2), .val (.int p3), .val (.int p4), .val (.int (0 : Int32)), .val (.int (1 : Int32)), .val (.int (1 : Int32)), .val (.int (1 : Int32)), .val (.ref b5), .val (.ref b8), .val (.ref b13), .val .null, .val (.ref b66), .val (.ref w_USER), .unset, .unset, .unset, .unset, .unset] [(.int (0 : Int32)), .null, .null, (.int (0 : Int32)), .null, (.int (0 : Int32)), (.ref sa85), (.ref sa84), (.ref w_USER), (.ref sa83), (.ref sa82), (.ref b81), (.ref b81)])
          obtain ⟨_, _, ⟨T86, L86, k86, n86⟩, -, X86, ⟨Lc86, hQ86, l86, y86, z86⟩, st86⟩ := X85.specialBack hx (y := (⟨"com/example/wellness_on_record/wellnessonrecord/apps/App", "<init>", "(Ljava/lang/String;Ljava/lang/String;Lcom/example/wellness_on_record/wellnessonrecord/apps/App$Kind;Ljava/lang/String;Ljava/lang/String;ZLjava/lang/String;ZLjava/lang/String;Ljava/lang/String;Z)V"⟩ : MethodName)) rfl hown (mvT hZ (hw _ (List.mem_of_getElem? (i := 42) rfl))) (mvT hZ (hw _ (List.mem_of_getElem? (i := 43) rfl))) (mvT hZ (hw _ (List.mem_of_getElem? (i := 44) rfl))) (by decide) (backOf (W := 1) (rmA l Z a0 hw [] b81 sa82 sa83 w_USER sa84 sa85 h85 n0 O E_b81 F_id_b81 F_name_b81 F_kind_b81 F_consumerKey_b81 F_consumerSecret_b81 F_autonomous_b81 F_autonomousReason_b81 F_hasUi_b81 F_callbackUrl_b81 F_startUrlTemplate_b81 F_frameable_b81 g_b81) hZ (hw _ (List.mem_of_getElem? (i := 44) rfl)) (hw _ (List.mem_of_getElem? (i := 35) rfl)) (by decide) (by decide)) (g := (mkF m 190 #[.val (.int p1), .val (.int p2), .val (.int p3), .val (.int p4), .val (.int (0 : Int32)), .val (.int (1 : Int32)), .val (.int (1 : Int32)), .val (.int (1 : Int32)), .val (.ref b5), .val (.ref b8), .val (.ref b13), .val .null, .val (.ref b66), .val (.ref w_USER), .unset, .unset, .unset, .unset, .unset] [(.int (0 : Int32)), .null, .null, (.int (0 : Int32)), .null, (.int (0 : Int32)), (.ref sa85), (.ref sa84), (.ref w_USER), (.ref sa83), (.ref sa82), (.ref b81), (.ref b81)])) rfl (by rw [hml]; rfl) (Steps.refl _) (a := b81) (argsL := [(.ref sa82), (.ref sa83), (.ref w_USER), (.ref sa84), (.ref sa85), (.int (0 : Int32)), .null, (.int (0 : Int32)), .null, .null, (.int (0 : Int32))]) (rest := [(.ref b81)]) (lenOf pd__Ljava_lang_String_Ljava_lang_String_Lcom_example_wellness_on_record_wellnessonrecord_apps_App_Kind_Ljava_lang_String_Ljava_lang_String_ZLjava_lang_String_ZLjava_lang_String_Ljava_lang_String_Z_V rfl) rfl (by show 2 * 0 + _ ≤ _; exact Nat.le_of_eq rfl) (hb hby at_190) (fun _ _ => ⟨rfl, e85, (by decide : 17 + 0 ≤ _), (by decide : 102 + 0 ≤ _)⟩)
          dsimp only [Pt.U, Pt.locs, Pt.cells, Pt.slots] at X86 l86 y86 z86 st86 hQ86
          subst l86 y86 z86
          obtain ⟨rfl, N86q, K86q, Eq86, Fk86⟩ := hQ86
          have N86 := Fr.app N67 N86q
          refine GoH.tr st86 ?_
          have V_b5 := V_b5.keep K86q (ninS ne_b5_b81 nin0)
          have V_b8 := V_b8.keep K86q (ninS ne_b8_b81 nin0)
          have V_b13 := V_b13.keep K86q (ninS ne_b13_b81 nin0)
          have E_b81 := E_b81.keep K86q
          have sfw86 := (sfS Sf_b81 sf0)
          have Sf_b5 := Safe.keep K86q sfw86 HH Sf_b5
          have Sf_b8 := Safe.keep K86q sfw86 HH Sf_b8
          have Sf_b13 := Safe.keep K86q sfw86 HH Sf_b13
          have Sf_b81 := Safe.keep K86q sfw86 HH Sf_b81
          have RR := RR.trans (CHr.keep K86q sfw86 HH)
          have HH := HH.keep K86q sfw86
          have hk := Nat.le_trans hk K86q.1
          have O := O.keep K86q (allS g_b81 all0)
          have KK := KK.trans K86q (allS (Or.inr sz_b81) all0)
          have E_b81 := Eq86
          show GoH _ _ _ _ _ _ _ _ _ _  T86 (mkF m 193 #[.val (.int p1), .val (.int p2), .val (.int p3), .val (.int p4), .val (.int (0 : Int32)), .val (.int (1 : Int32)), .val (.int (1 : Int32)), .val (.int (1 : Int32)), .val (.ref b5), .val (.ref b8), .val (.ref b13), .val .null, .val (.ref b66), .val (.ref w_USER), .unset, .unset, .unset, .unset, .unset] [(.ref b81)])
          refine GoH.st (fun t k => XS.astore X86.here hx rfl (hb hby at_193) rfl rfl (l' := #[.val (.int p1), .val (.int p2), .val (.int p3), .val (.int p4), .val (.int (0 : Int32)), .val (.int (1 : Int32)), .val (.int (1 : Int32)), .val (.int (1 : Int32)), .val (.ref b5), .val (.ref b8), .val (.ref b13), .val .null, .val (.ref b66), .val (.ref w_USER), .val (.ref b81), .unset, .unset, .unset, .unset]) rfl k) ?_
          show GoH _ _ _ _ _ _ _ _ _ _  T86 (mkF m 195 #[.val (.int p1), .val (.int p2), .val (.int p3), .val (.int p4), .val (.int (0 : Int32)), .val (.int (1 : Int32)), .val (.int (1 : Int32)), .val (.int (1 : Int32)), .val (.ref b5), .val (.ref b8), .val (.ref b13), .val .null, .val (.ref b66), .val (.ref w_USER), .val (.ref b81), .unset, .unset, .unset, .unset] [])
          obtain ⟨T87, h87, X87, e87, E87, A87, D87, -, st87⟩ := newO X86 hx hZ hown (hw _ (List.mem_of_getElem? (i := 73) rfl)) (hw _ (List.mem_of_getElem? (i := 74) rfl)) (hw _ (List.mem_of_getElem? (i := 75) rfl)) rfl (g := (mkF m 195 #[.val (.int p1), .val (.int p2), .val (.int p3), .val (.int p4), .val (.int (0 : Int32)), .val (.int (1 : Int32)), .val (.int (1 : Int32)), .val (.int (1 : Int32)), .val (.ref b5), .val (.ref b8), .val (.ref b13), .val .null, .val (.ref b66), .val (.ref w_USER), .val (.ref b81), .unset, .unset, .unset, .unset] [])) rfl (hb hby at_195) (by decide) (by decide)
          obtain ⟨b87, g87⟩ : ∃ z, z = T86.heap.size := ⟨_, rfl⟩
          rw [← g87] at A87 D87 st87
          refine GoH.st st87 ?_
          have g_b87 : n0 ≤ b87 := by rw [g87]; exact own_le O
          have Sf_b87 : Safe Z EL T85.vm T86.heap b87 := Safe.new (Nat.le_of_eq g87.symm)
          have sz_b87 : h0.size ≤ b87 := by rw [g87]; exact KK.1
          have ne_b5_b87 : b5 ≠ b87 := Nat.ne_of_lt (by rw [g87]; exact V_b5.lt)
          have ne_b8_b87 : b8 ≠ b87 := Nat.ne_of_lt (by rw [g87]; exact V_b8.lt)
          have ne_b13_b87 : b13 ≠ b87 := Nat.ne_of_lt (by rw [g87]; exact V_b13.lt)
          have ne_b81_b87 : b81 ≠ b87 := Nat.ne_of_lt (by rw [g87]; exact E_b81.lt)
          have V_b5 := V_b5.ext E87
          have V_b8 := V_b8.ext E87
          have V_b13 := V_b13.ext E87
          have E_b81 := E_b81.ext E87
          have Fk86 := Fk86.ext E87
          have Sf_b5 := Safe.ext E87 HH Sf_b5
          have Sf_b8 := Safe.ext E87 HH Sf_b8
          have Sf_b13 := Safe.ext E87 HH Sf_b13
          have Sf_b81 := Safe.ext E87 HH Sf_b81
          have Sf_b87 := Safe.ext E87 HH Sf_b87
          have RR := RR.trans (CHr.ext E87 HH)
          have HH := HH.ext E87
          have hk := Nat.le_trans hk E87.1
          have O := O.ext E87
          have KK := KK.ext E87
          have E_b87 := A87
          have F_app_b87 : Fld Z h87 b87 "com/example/wellness_on_record/wellnessonrecord/oauth/Principal" "app" "Lcom/example/wellness_on_record/wellnessonrecord/apps/App;" .null := D87 (Or.inr (hw _ (List.mem_of_getElem? (i := 81) rfl))) (ty := (.object "com/example/wellness_on_record/wellnessonrecord/apps/App")) (by decide)
          have F_recordId_b87 : Fld Z h87 b87 "com/example/wellness_on_record/wellnessonrecord/oauth/Principal" "recordId" "Ljava/lang/String;" .null := D87 (Or.inr (hw _ (List.mem_of_getElem? (i := 83) rfl))) (ty := (.object "java/lang/String")) (by decide)
          have F_requestToken_b87 : Fld Z h87 b87 "com/example/wellness_on_record/wellnessonrecord/oauth/Principal" "requestToken" "Ljava/lang/String;" .null := D87 (Or.inr (hw _ (List.mem_of_getElem? (i := 85) rfl))) (ty := (.object "java/lang/String")) (by decide)
          show GoH _ _ _ _ _ _ _ _ _ _  T87 (mkF m 198 #[.val (.int p1), .val (.int p2), .val (.int p3), .val (.int p4), .val (.int (0 : Int32)), .val (.int (1 : Int32)), .val (.int (1 : Int32)), .val (.int (1 : Int32)), .val (.ref b5), .val (.ref b8), .val (.ref b13), .val .null, .val (.ref b66), .val (.ref w_USER), .val (.ref b81), .unset, .unset, .unset, .unset] [(.ref b87)])
          refine GoH.st (fun t k => XS.dup X87.here hx rfl (hb hby at_198) rfl rfl k) ?_
          show GoH _ _ _ _ _ _ _ _ _ _  T87 (mkF m 199 #[.val (.int p1), .val (.int p2), .val (.int p3), .val (.int p4), .val (.int (0 : Int32)), .val (.int (1 : Int32)), .val (.int (1 : Int32)), .val (.int (1 : Int32)), .val (.ref b5), .val (.ref b8), .val (.ref b13), .val .null, .val (.ref b66), .val (.ref w_USER), .val (.ref b81), .unset, .unset, .unset, .unset] [(.ref b87), (.ref b87)])
          refine GoH.st (fun t k => XS.aload X87.here hx rfl (hb hby at_199) rfl rfl  k) ?_
          show GoH _ _ _ _ _ _ _ _ _ _  T87 (mkF m 201 #[.val (.int p1), .val (.int p2), .val (.int p3), .val (.int p4), .val (.int (0 : Int32)), .val (.int (1 : Int32)), .val (.int (1 : Int32)), .val (.int (1 : Int32)), .val (.ref b5), .val (.ref b8), .val (.ref b13), .val .null, .val (.ref b66), .val (.ref w_USER), .val (.ref b81), .unset, .unset, .unset, .unset] [(.ref b81), (.ref b87), (.ref b87)])
          refine GoH.st (fun t k => XS.aload X87.here hx rfl (hb hby at_201) rfl rfl  k) ?_
          show GoH _ _ _ _ _ _ _ _ _ _  T87 (mkF m 203 #[.val (.int p1), .val (.int p2), .val (.int p3), .val (.int p4), .val (.int (0 : Int32)), .val (.int (1 : Int32)), .val (.int (1 : Int32)), .val (.int (1 : Int32)), .val (.ref b5), .val (.ref b8), .val (.ref b13), .val .null, .val (.ref b66), .val (.ref w_USER), .val (.ref b81), .unset, .unset, .unset, .unset] [.null, (.ref b81), (.ref b87), (.ref b87)])
          refine GoH.st (fun t k => XS.aload X87.here hx rfl (hb hby at_203) rfl rfl  k) ?_
          show GoH _ _ _ _ _ _ _ _ _ _  T87 (mkF m 205 #[.val (.int p1), .val (.int p2), .val (.int p3), .val (.int p4), .val (.int (0 : Int32)), .val (.int (1 : Int32)), .val (.int (1 : Int32)), .val (.int (1 : Int32)), .val (.ref b5), .val (.ref b8), .val (.ref b13), .val .null, .val (.ref b66), .val (.ref w_USER), .val (.ref b81), .unset, .unset, .unset, .unset] [(.ref b66), .null, (.ref b81), (.ref b87), (.ref b87)])
          obtain ⟨_, _, ⟨T88, L88, k88, n88⟩, -, X88, ⟨Lc88, hQ88, l88, y88, z88⟩, st88⟩ := X87.specialBack hx (y := (⟨"com/example/wellness_on_record/wellnessonrecord/oauth/Principal", "<init>", "(Lcom/example/wellness_on_record/wellnessonrecord/apps/App;Ljava/lang/String;Ljava/lang/String;)V"⟩ : MethodName)) rfl hown (mvT hZ (hw _ (List.mem_of_getElem? (i := 76) rfl))) (mvT hZ (hw _ (List.mem_of_getElem? (i := 77) rfl))) (mvT hZ (hw _ (List.mem_of_getElem? (i := 78) rfl))) (by decide) (backOf (W := 1) (rmP l Z a0 hw [] b87 b81 .null (.ref b66) h87 n0 O E_b87 F_app_b87 F_recordId_b87 F_requestToken_b87 g_b87 rfl rfl) hZ (hw _ (List.mem_of_getElem? (i := 78) rfl)) (hw _ (List.mem_of_getElem? (i := 75) rfl)) (by decide) (by decide)) (g := (mkF m 205 #[.val (.int p1), .val (.int p2), .val (.int p3), .val (.int p4), .val (.int (0 : Int32)), .val (.int (1 : Int32)), .val (.int (1 : Int32)), .val (.int (1 : Int32)), .val (.ref b5), .val (.ref b8), .val (.ref b13), .val .null, .val (.ref b66), .val (.ref w_USER), .val (.ref b81), .unset, .unset, .unset, .unset] [(.ref b66), .null, (.ref b81), (.ref b87), (.ref b87)])) rfl (by rw [hml]; rfl) (Steps.refl _) (a := b87) (argsL := [(.ref b81), .null, (.ref b66)]) (rest := [(.ref b87)]) (lenOf pd__Lcom_example_wellness_on_record_wellnessonrecord_apps_App_Ljava_lang_String_Ljava_lang_String__V rfl) rfl (by show 2 * 0 + _ ≤ _; exact Nat.le_of_eq rfl) (hb hby at_205) (fun _ _ => ⟨rfl, e87, (by decide : 18 + 0 ≤ _), (by decide : 105 + 0 ≤ _)⟩)
          dsimp only [Pt.U, Pt.locs, Pt.cells, Pt.slots] at X88 l88 y88 z88 st88 hQ88
          subst l88 y88 z88
          obtain ⟨rfl, N88q, K88q, Eq88, Fa88, Fr88, Ft88⟩ := hQ88
          have N88 := Fr.app N86 N88q
          refine GoH.tr st88 ?_
          have V_b5 := V_b5.keep K88q (ninS ne_b5_b87 nin0)
          have V_b8 := V_b8.keep K88q (ninS ne_b8_b87 nin0)
          have V_b13 := V_b13.keep K88q (ninS ne_b13_b87 nin0)
          have E_b81 := E_b81.keep K88q
          have Fk86 := Fk86.keep K88q (ninS ne_b81_b87 nin0)
          have E_b87 := E_b87.keep K88q
          have sfw88 := (sfS Sf_b87 sf0)
          have Sf_b5 := Safe.keep K88q sfw88 HH Sf_b5
          have Sf_b8 := Safe.keep K88q sfw88 HH Sf_b8
          have Sf_b13 := Safe.keep K88q sfw88 HH Sf_b13
          have Sf_b81 := Safe.keep K88q sfw88 HH Sf_b81
          have Sf_b87 := Safe.keep K88q sfw88 HH Sf_b87
          have RR := RR.trans (CHr.keep K88q sfw88 HH)
          have HH := HH.keep K88q sfw88
          have hk := Nat.le_trans hk K88q.1
          have O := O.keep K88q (allS g_b87 all0)
          have KK := KK.trans K88q (allS (Or.inr sz_b87) all0)
          have E_b87 := Eq88
          show GoH _ _ _ _ _ _ _ _ _ _  T88 (mkF m 208 #[.val (.int p1), .val (.int p2), .val (.int p3), .val (.int p4), .val (.int (0 : Int32)), .val (.int (1 : Int32)), .val (.int (1 : Int32)), .val (.int (1 : Int32)), .val (.ref b5), .val (.ref b8), .val (.ref b13), .val .null, .val (.ref b66), .val (.ref w_USER), .val (.ref b81), .unset, .unset, .unset, .unset] [(.ref b87)])
          refine GoH.st (fun t k => XS.astore X88.here hx rfl (hb hby at_208) rfl rfl (l' := #[.val (.int p1), .val (.int p2), .val (.int p3), .val (.int p4), .val (.int (0 : Int32)), .val (.int (1 : Int32)), .val (.int (1 : Int32)), .val (.int (1 : Int32)), .val (.ref b5), .val (.ref b8), .val (.ref b13), .val .null, .val (.ref b66), .val (.ref w_USER), .val (.ref b81), .val (.ref b87), .unset, .unset, .unset]) rfl k) ?_
          show GoH _ _ _ _ _ _ _ _ _ _  T88 (mkF m 210 #[.val (.int p1), .val (.int p2), .val (.int p3), .val (.int p4), .val (.int (0 : Int32)), .val (.int (1 : Int32)), .val (.int (1 : Int32)), .val (.int (1 : Int32)), .val (.ref b5), .val (.ref b8), .val (.ref b13), .val .null, .val (.ref b66), .val (.ref w_USER), .val (.ref b81), .val (.ref b87), .unset, .unset, .unset] [])
          refine GoH.st (fun t k => XS.aload X88.here hx rfl (hb hby at_210) rfl rfl  k) ?_
          show GoH _ _ _ _ _ _ _ _ _ _  T88 (mkF m 212 #[.val (.int p1), .val (.int p2), .val (.int p3), .val (.int p4), .val (.int (0 : Int32)), .val (.int (1 : Int32)), .val (.int (1 : Int32)), .val (.int (1 : Int32)), .val (.ref b5), .val (.ref b8), .val (.ref b13), .val .null, .val (.ref b66), .val (.ref w_USER), .val (.ref b81), .val (.ref b87), .unset, .unset, .unset] [(.ref b87)])
          obtain ⟨cq89, kq89, q89a, q89b, q89c⟩ := isOf hZ rfl E_b87
          obtain ⟨_, _, ⟨T89, L89, k89, n89⟩, -, X89, ⟨Lc89, hQ89, l89, y89, z89⟩, st89⟩ := X88.virtualBack hx (y := (⟨"com/example/wellness_on_record/wellnessonrecord/oauth/Principal", "holdsRequestToken", "()Z"⟩ : MethodName)) (z := (⟨"com/example/wellness_on_record/wellnessonrecord/oauth/Principal", "holdsRequestToken", "()Z"⟩ : MethodName)) hown (mvT hZ (hw _ (List.mem_of_getElem? (i := 86) rfl))) (mvT hZ (hw _ (List.mem_of_getElem? (i := 87) rfl))) (notFace_of_selects (args := #[]) (mvT hZ (hw _ (List.mem_of_getElem? (i := 89) rfl)))) (mvT hZ (hw _ (List.mem_of_getElem? (i := 89) rfl))) (mvT hZ (hw _ (List.mem_of_getElem? (i := 88) rfl))) (by decide) (backOf (W := 0) (rmH l Z a0 hw [] b87 (.ref b66) T88.heap n0 O Ft88 rfl) hZ (hw _ (List.mem_of_getElem? (i := 90) rfl)) (hw _ (List.mem_of_getElem? (i := 75) rfl)) (by decide) (by decide)) q89a q89c (g := (mkF m 212 #[.val (.int p1), .val (.int p2), .val (.int p3), .val (.int p4), .val (.int (0 : Int32)), .val (.int (1 : Int32)), .val (.int (1 : Int32)), .val (.int (1 : Int32)), .val (.ref b5), .val (.ref b8), .val (.ref b13), .val .null, .val (.ref b66), .val (.ref w_USER), .val (.ref b81), .val (.ref b87), .unset, .unset, .unset] [(.ref b87)])) rfl (by rw [hml]; rfl) (Steps.refl _) (argsL := []) (rest := []) (lenOf pd___Z rfl) rfl (by show 2 * 0 + _ ≤ _; exact Nat.le_of_eq rfl) (hb hby at_212) (fun _ _ => ⟨rfl, rfl, (by decide : 18 + 0 ≤ _), (by decide : 105 + 0 ≤ _)⟩)
          dsimp only [Pt.U, Pt.locs, Pt.cells, Pt.slots] at X89 l89 y89 z89 st89 hQ89
          subst l89 y89 z89
          obtain ⟨rfl, N89q, e89q⟩ := hQ89
          have N89 := Fr.app N88 N89q
          refine GoH.tr st89 ?_
          rw [show (if (.ref b66) = Value.null then (0 : Int32) else 1) = (1 : Int32) from by simp]
          show GoH _ _ _ _ _ _ _ _ _ _  T89 (mkF m 215 #[.val (.int p1), .val (.int p2), .val (.int p3), .val (.int p4), .val (.int (0 : Int32)), .val (.int (1 : Int32)), .val (.int (1 : Int32)), .val (.int (1 : Int32)), .val (.ref b5), .val (.ref b8), .val (.ref b13), .val .null, .val (.ref b66), .val (.ref w_USER), .val (.ref b81), .val (.ref b87), .unset, .unset, .unset] [(.int (1 : Int32))])
          refine GoH.st (fun t k => XS.istore X89.here hx rfl (hb hby at_215) rfl (l' := #[.val (.int p1), .val (.int p2), .val (.int p3), .val (.int p4), .val (.int (0 : Int32)), .val (.int (1 : Int32)), .val (.int (1 : Int32)), .val (.int (1 : Int32)), .val (.ref b5), .val (.ref b8), .val (.ref b13), .val .null, .val (.ref b66), .val (.ref w_USER), .val (.ref b81), .val (.ref b87), .val (.int (1 : Int32)), .unset, .unset]) rfl k) ?_
          show GoH _ _ _ _ _ _ _ _ _ _  T89 (mkF m 217 #[.val (.int p1), .val (.int p2), .val (.int p3), .val (.int p4), .val (.int (0 : Int32)), .val (.int (1 : Int32)), .val (.int (1 : Int32)), .val (.int (1 : Int32)), .val (.ref b5), .val (.ref b8), .val (.ref b13), .val .null, .val (.ref b66), .val (.ref w_USER), .val (.ref b81), .val (.ref b87), .val (.int (1 : Int32)), .unset, .unset] [])
          refine GoH.st (fun t k => XS.iload X89.here hx rfl (hb hby at_217) rfl  k) ?_
          show GoH _ _ _ _ _ _ _ _ _ _  T89 (mkF m 219 #[.val (.int p1), .val (.int p2), .val (.int p3), .val (.int p4), .val (.int (0 : Int32)), .val (.int (1 : Int32)), .val (.int (1 : Int32)), .val (.int (1 : Int32)), .val (.ref b5), .val (.ref b8), .val (.ref b13), .val .null, .val (.ref b66), .val (.ref w_USER), .val (.ref b81), .val (.ref b87), .val (.int (1 : Int32)), .unset, .unset] [(.int (1 : Int32))])
          refine GoH.st (fun t k => XS.iload X89.here hx rfl (hb hby at_219) rfl  k) ?_
          show GoH _ _ _ _ _ _ _ _ _ _  T89 (mkF m 221 #[.val (.int p1), .val (.int p2), .val (.int p3), .val (.int p4), .val (.int (0 : Int32)), .val (.int (1 : Int32)), .val (.int (1 : Int32)), .val (.int (1 : Int32)), .val (.ref b5), .val (.ref b8), .val (.ref b13), .val .null, .val (.ref b66), .val (.ref w_USER), .val (.ref b81), .val (.ref b87), .val (.int (1 : Int32)), .unset, .unset] [(.int (1 : Int32)), (.int (1 : Int32))])
          refine GoH.st (fun t k => XS.icmpYes X89.here hx rfl (pc0 := 221) (pc' := 226) rfl (hb hby at_221) rfl (teq (rfl : (1 : Int32) = (1 : Int32))).1 (by decide) (by decide) k) ?_
          show GoH _ _ _ _ _ _ _ _ _ _  T89 (mkF m 226 #[.val (.int p1), .val (.int p2), .val (.int p3), .val (.int p4), .val (.int (0 : Int32)), .val (.int (1 : Int32)), .val (.int (1 : Int32)), .val (.int (1 : Int32)), .val (.ref b5), .val (.ref b8), .val (.ref b13), .val .null, .val (.ref b66), .val (.ref w_USER), .val (.ref b81), .val (.ref b87), .val (.int (1 : Int32)), .unset, .unset] [])
          refine GoH.st (fun t k => XS.aload X89.here hx rfl (hb hby at_226) rfl rfl  k) ?_
          show GoH _ _ _ _ _ _ _ _ _ _  T89 (mkF m 228 #[.val (.int p1), .val (.int p2), .val (.int p3), .val (.int p4), .val (.int (0 : Int32)), .val (.int (1 : Int32)), .val (.int (1 : Int32)), .val (.int (1 : Int32)), .val (.ref b5), .val (.ref b8), .val (.ref b13), .val .null, .val (.ref b66), .val (.ref w_USER), .val (.ref b81), .val (.ref b87), .val (.int (1 : Int32)), .unset, .unset] [(.ref b87)])
          obtain ⟨cq90, kq90, q90a, q90b, q90c⟩ := isOf hZ e89q E_b87
          obtain ⟨_, _, ⟨T90, L90, k90, n90⟩, -, X90, ⟨Lc90, hQ90, l90, y90, z90⟩, st90⟩ := X89.virtualBack hx (y := (⟨"com/example/wellness_on_record/wellnessonrecord/oauth/Principal", "isUserAppAlone", "()Z"⟩ : MethodName)) (z := (⟨"com/example/wellness_on_record/wellnessonrecord/oauth/Principal", "isUserAppAlone", "()Z"⟩ : MethodName)) hown (mvT hZ (hw _ (List.mem_of_getElem? (i := 91) rfl))) (mvT hZ (hw _ (List.mem_of_getElem? (i := 92) rfl))) (notFace_of_selects (args := #[]) (mvT hZ (hw _ (List.mem_of_getElem? (i := 94) rfl)))) (mvT hZ (hw _ (List.mem_of_getElem? (i := 94) rfl))) (mvT hZ (hw _ (List.mem_of_getElem? (i := 93) rfl))) (by decide) (backOf (W := 0) (rmU l Z a0 hw [] b87 b81 w_USER .null (.ref b66) w_USER T88.heap n0 O Fa88 Fr88 Ft88 rfl rfl Fk86 E_b87 E_b81 S_USER) hZ (hw _ (List.mem_of_getElem? (i := 95) rfl)) (hw _ (List.mem_of_getElem? (i := 75) rfl)) (by decide) (by decide)) q90a q90c (g := (mkF m 228 #[.val (.int p1), .val (.int p2), .val (.int p3), .val (.int p4), .val (.int (0 : Int32)), .val (.int (1 : Int32)), .val (.int (1 : Int32)), .val (.int (1 : Int32)), .val (.ref b5), .val (.ref b8), .val (.ref b13), .val .null, .val (.ref b66), .val (.ref w_USER), .val (.ref b81), .val (.ref b87), .val (.int (1 : Int32)), .unset, .unset] [(.ref b87)])) rfl (by rw [hml]; rfl) (Steps.refl _) (argsL := []) (rest := []) (lenOf pd___Z rfl) rfl (by show 2 * 0 + _ ≤ _; exact Nat.le_of_eq rfl) (hb hby at_228) (fun _ _ => ⟨rfl, e89q, (by decide : 18 + 0 ≤ _), (by decide : 105 + 0 ≤ _)⟩)
          dsimp only [Pt.U, Pt.locs, Pt.cells, Pt.slots] at X90 l90 y90 z90 st90 hQ90
          subst l90 y90 z90
          obtain ⟨rfl, N90q, e90q⟩ := hQ90
          have N90 := Fr.app N89 N90q
          refine GoH.tr st90 ?_
          rw [show (if w_USER = w_USER then (if .null = Value.null then (if (.ref b66) = Value.null then (1 : Int32) else 0) else 0) else 0) = (0 : Int32) from by simp [nAU]]
          show GoH _ _ _ _ _ _ _ _ _ _  T90 (mkF m 231 #[.val (.int p1), .val (.int p2), .val (.int p3), .val (.int p4), .val (.int (0 : Int32)), .val (.int (1 : Int32)), .val (.int (1 : Int32)), .val (.int (1 : Int32)), .val (.ref b5), .val (.ref b8), .val (.ref b13), .val .null, .val (.ref b66), .val (.ref w_USER), .val (.ref b81), .val (.ref b87), .val (.int (1 : Int32)), .unset, .unset] [(.int (0 : Int32))])
          refine GoH.st (fun t k => XS.istore X90.here hx rfl (hb hby at_231) rfl (l' := #[.val (.int p1), .val (.int p2), .val (.int p3), .val (.int p4), .val (.int (0 : Int32)), .val (.int (1 : Int32)), .val (.int (1 : Int32)), .val (.int (1 : Int32)), .val (.ref b5), .val (.ref b8), .val (.ref b13), .val .null, .val (.ref b66), .val (.ref w_USER), .val (.ref b81), .val (.ref b87), .val (.int (1 : Int32)), .val (.int (0 : Int32)), .unset]) rfl k) ?_
          show GoH _ _ _ _ _ _ _ _ _ _  T90 (mkF m 233 #[.val (.int p1), .val (.int p2), .val (.int p3), .val (.int p4), .val (.int (0 : Int32)), .val (.int (1 : Int32)), .val (.int (1 : Int32)), .val (.int (1 : Int32)), .val (.ref b5), .val (.ref b8), .val (.ref b13), .val .null, .val (.ref b66), .val (.ref w_USER), .val (.ref b81), .val (.ref b87), .val (.int (1 : Int32)), .val (.int (0 : Int32)), .unset] [])
          refine GoH.st (fun t k => XS.iload X90.here hx rfl (hb hby at_233) rfl  k) ?_
          show GoH _ _ _ _ _ _ _ _ _ _  T90 (mkF m 235 #[.val (.int p1), .val (.int p2), .val (.int p3), .val (.int p4), .val (.int (0 : Int32)), .val (.int (1 : Int32)), .val (.int (1 : Int32)), .val (.int (1 : Int32)), .val (.ref b5), .val (.ref b8), .val (.ref b13), .val .null, .val (.ref b66), .val (.ref w_USER), .val (.ref b81), .val (.ref b87), .val (.int (1 : Int32)), .val (.int (0 : Int32)), .unset] [(.int (1 : Int32))])
          refine GoH.st (fun t k => XS.ifYes X90.here hx rfl (pc0 := 235) (pc' := 252) rfl (hb hby at_235) rfl ((if0 _ _).trans (feq (by decide : ¬ ((1 : Int32) = (0 : Int32)))).2) (by decide) (by decide) k) ?_
          show GoH _ _ _ _ _ _ _ _ _ _  T90 (mkF m 252 #[.val (.int p1), .val (.int p2), .val (.int p3), .val (.int p4), .val (.int (0 : Int32)), .val (.int (1 : Int32)), .val (.int (1 : Int32)), .val (.int (1 : Int32)), .val (.ref b5), .val (.ref b8), .val (.ref b13), .val .null, .val (.ref b66), .val (.ref w_USER), .val (.ref b81), .val (.ref b87), .val (.int (1 : Int32)), .val (.int (0 : Int32)), .unset] [])
          refine GoH.st (fun t k => XS.iconst X90.here hx rfl (hb hby at_252) k) ?_
          show GoH _ _ _ _ _ _ _ _ _ _  T90 (mkF m 253 #[.val (.int p1), .val (.int p2), .val (.int p3), .val (.int p4), .val (.int (0 : Int32)), .val (.int (1 : Int32)), .val (.int (1 : Int32)), .val (.int (1 : Int32)), .val (.ref b5), .val (.ref b8), .val (.ref b13), .val .null, .val (.ref b66), .val (.ref w_USER), .val (.ref b81), .val (.ref b87), .val (.int (1 : Int32)), .val (.int (0 : Int32)), .unset] [(.int (0 : Int32))])
          refine GoH.st (fun t k => XS.istore X90.here hx rfl (hb hby at_253) rfl (l' := #[.val (.int p1), .val (.int p2), .val (.int p3), .val (.int p4), .val (.int (0 : Int32)), .val (.int (1 : Int32)), .val (.int (1 : Int32)), .val (.int (1 : Int32)), .val (.ref b5), .val (.ref b8), .val (.ref b13), .val .null, .val (.ref b66), .val (.ref w_USER), .val (.ref b81), .val (.ref b87), .val (.int (1 : Int32)), .val (.int (0 : Int32)), .val (.int (0 : Int32))]) rfl k) ?_
          show GoH _ _ _ _ _ _ _ _ _ _  T90 (mkF m 255 #[.val (.int p1), .val (.int p2), .val (.int p3), .val (.int p4), .val (.int (0 : Int32)), .val (.int (1 : Int32)), .val (.int (1 : Int32)), .val (.int (1 : Int32)), .val (.ref b5), .val (.ref b8), .val (.ref b13), .val .null, .val (.ref b66), .val (.ref w_USER), .val (.ref b81), .val (.ref b87), .val (.int (1 : Int32)), .val (.int (0 : Int32)), .val (.int (0 : Int32))] [])
          refine GoH.st (fun t k => XS.iload X90.here hx rfl (hb hby at_255) rfl  k) ?_
          show GoH _ _ _ _ _ _ _ _ _ _  T90 (mkF m 257 #[.val (.int p1), .val (.int p2), .val (.int p3), .val (.int p4), .val (.int (0 : Int32)), .val (.int (1 : Int32)), .val (.int (1 : Int32)), .val (.int (1 : Int32)), .val (.ref b5), .val (.ref b8), .val (.ref b13), .val .null, .val (.ref b66), .val (.ref w_USER), .val (.ref b81), .val (.ref b87), .val (.int (1 : Int32)), .val (.int (0 : Int32)), .val (.int (0 : Int32))] [(.int (0 : Int32))])
          refine GoH.st (fun t k => XS.iload X90.here hx rfl (hb hby at_257) rfl  k) ?_
          show GoH _ _ _ _ _ _ _ _ _ _  T90 (mkF m 259 #[.val (.int p1), .val (.int p2), .val (.int p3), .val (.int p4), .val (.int (0 : Int32)), .val (.int (1 : Int32)), .val (.int (1 : Int32)), .val (.int (1 : Int32)), .val (.ref b5), .val (.ref b8), .val (.ref b13), .val .null, .val (.ref b66), .val (.ref w_USER), .val (.ref b81), .val (.ref b87), .val (.int (1 : Int32)), .val (.int (0 : Int32)), .val (.int (0 : Int32))] [(.int (0 : Int32)), (.int (0 : Int32))])
          refine GoH.st (fun t k => XS.icmpNo X90.here hx rfl (hb hby at_259) rfl (teq (rfl : (0 : Int32) = (0 : Int32))).2 k) ?_
          show GoH _ _ _ _ _ _ _ _ _ _  T90 (mkF m 262 #[.val (.int p1), .val (.int p2), .val (.int p3), .val (.int p4), .val (.int (0 : Int32)), .val (.int (1 : Int32)), .val (.int (1 : Int32)), .val (.int (1 : Int32)), .val (.ref b5), .val (.ref b8), .val (.ref b13), .val .null, .val (.ref b66), .val (.ref w_USER), .val (.ref b81), .val (.ref b87), .val (.int (1 : Int32)), .val (.int (0 : Int32)), .val (.int (0 : Int32))] [])
          refine GoH.st (fun t k => XS.iconst X90.here hx rfl (hb hby at_262) k) ?_
          show GoH _ _ _ _ _ _ _ _ _ _  T90 (mkF m 263 #[.val (.int p1), .val (.int p2), .val (.int p3), .val (.int p4), .val (.int (0 : Int32)), .val (.int (1 : Int32)), .val (.int (1 : Int32)), .val (.int (1 : Int32)), .val (.ref b5), .val (.ref b8), .val (.ref b13), .val .null, .val (.ref b66), .val (.ref w_USER), .val (.ref b81), .val (.ref b87), .val (.int (1 : Int32)), .val (.int (0 : Int32)), .val (.int (0 : Int32))] [(.int (1 : Int32))])
          refine GoH.st (fun t k => XS.goto X90.here hx rfl (pc0 := 263) (pc' := 267) rfl (hb hby at_263) (by decide) (by decide) k) ?_
          show GoH _ _ _ _ _ _ _ _ _ _  T90 (mkF m 267 #[.val (.int p1), .val (.int p2), .val (.int p3), .val (.int p4), .val (.int (0 : Int32)), .val (.int (1 : Int32)), .val (.int (1 : Int32)), .val (.int (1 : Int32)), .val (.ref b5), .val (.ref b8), .val (.ref b13), .val .null, .val (.ref b66), .val (.ref w_USER), .val (.ref b81), .val (.ref b87), .val (.int (1 : Int32)), .val (.int (0 : Int32)), .val (.int (0 : Int32))] [(.int (1 : Int32))])
          refine GoH.retN X90 hS hk e90q hZ hEL HH RR hlk hx (t := .boolean) (z' := (1 : Int32)) Bd.returns (by simp) (hb hby at_267) (by decide) (by decide) rfl ?_
          show Q_rm0 Z _ _ _ _ _ _ _ h0 n0 _ T90.heap _
          rw [e90q]
          exact ⟨rfl, N90⟩
  · rw [sp14]
    show GoH _ _ _ _ _ _ _ _ _ _  T13 (mkF m 98 #[.val (.int p1), .val (.int p2), .val (.int p3), .val (.int p4), .val (.int (1 : Int32)), .val (.int f5), .val (.int f6), .val (.int f7), .val (.ref b5), .val (.ref b8), .val (.ref b13), .unset, .unset, .unset, .unset, .unset, .unset, .unset, .unset] [])
    refine GoH.st (fun t k => XS.iload X13.here hx rfl (hb hby at_98) rfl  k) ?_
    show GoH _ _ _ _ _ _ _ _ _ _  T13 (mkF m 100 #[.val (.int p1), .val (.int p2), .val (.int p3), .val (.int p4), .val (.int (1 : Int32)), .val (.int f5), .val (.int f6), .val (.int f7), .val (.ref b5), .val (.ref b8), .val (.ref b13), .unset, .unset, .unset, .unset, .unset, .unset, .unset, .unset] [(.int (1 : Int32))])
    refine GoH.st (fun t k => XS.ifNo X13.here hx rfl (hb hby at_100) rfl ((if0 _ _).trans (feq (by decide : ¬ ((1 : Int32) = (0 : Int32)))).1) k) ?_
    show GoH _ _ _ _ _ _ _ _ _ _  T13 (mkF m 103 #[.val (.int p1), .val (.int p2), .val (.int p3), .val (.int p4), .val (.int (1 : Int32)), .val (.int f5), .val (.int f6), .val (.int f7), .val (.ref b5), .val (.ref b8), .val (.ref b13), .unset, .unset, .unset, .unset, .unset, .unset, .unset, .unset] [])
    obtain ⟨T91, h91, X91, e91, E91, A91, D91, -, st91⟩ := newO X13 hx hZ hown (hw _ (List.mem_of_getElem? (i := 1) rfl)) (hw _ (List.mem_of_getElem? (i := 2) rfl)) (hw _ (List.mem_of_getElem? (i := 3) rfl)) e13 (g := (mkF m 103 #[.val (.int p1), .val (.int p2), .val (.int p3), .val (.int p4), .val (.int (1 : Int32)), .val (.int f5), .val (.int f6), .val (.int f7), .val (.ref b5), .val (.ref b8), .val (.ref b13), .unset, .unset, .unset, .unset, .unset, .unset, .unset, .unset] [])) rfl (hb hby at_103) (by decide) (by decide)
    obtain ⟨b91, g91⟩ : ∃ z, z = h13.size := ⟨_, rfl⟩
    rw [← g91] at A91 D91 st91
    refine GoH.st st91 ?_
    have g_b91 : n0 ≤ b91 := by rw [g91]; exact own_le O
    have Sf_b91 : Safe Z EL s.vm h13 b91 := Safe.new (Nat.le_of_eq g91.symm)
    have sz_b91 : h0.size ≤ b91 := by rw [g91]; exact KK.1
    have ne_b5_b91 : b5 ≠ b91 := Nat.ne_of_lt (by rw [g91]; exact V_b5.lt)
    have ne_b8_b91 : b8 ≠ b91 := Nat.ne_of_lt (by rw [g91]; exact V_b8.lt)
    have ne_b13_b91 : b13 ≠ b91 := Nat.ne_of_lt (by rw [g91]; exact V_b13.lt)
    have V_b5 := V_b5.ext E91
    have V_b8 := V_b8.ext E91
    have V_b13 := V_b13.ext E91
    have Sf_b5 := Safe.ext E91 HH Sf_b5
    have Sf_b8 := Safe.ext E91 HH Sf_b8
    have Sf_b13 := Safe.ext E91 HH Sf_b13
    have Sf_b91 := Safe.ext E91 HH Sf_b91
    have RR := RR.trans (CHr.ext E91 HH)
    have HH := HH.ext E91
    have hk := Nat.le_trans hk E91.1
    have O := O.ext E91
    have KK := KK.ext E91
    have E_b91 := A91
    have F_coder_b91 : Fld Z h91 b91 "java/lang/String" "coder" "B" (.int (0 : Int32)) := D91 (Or.inr (hw _ (List.mem_of_getElem? (i := 27) rfl))) (ty := .byte) (by decide)
    have F_value_b91 : Fld Z h91 b91 "java/lang/String" "value" "[B" .null := D91 (Or.inr (hw _ (List.mem_of_getElem? (i := 29) rfl))) (ty := (.array .byte)) (by decide)
    show GoH _ _ _ _ _ _ _ _ _ _  T91 (mkF m 106 #[.val (.int p1), .val (.int p2), .val (.int p3), .val (.int p4), .val (.int (1 : Int32)), .val (.int f5), .val (.int f6), .val (.int f7), .val (.ref b5), .val (.ref b8), .val (.ref b13), .unset, .unset, .unset, .unset, .unset, .unset, .unset, .unset] [(.ref b91)])
    refine GoH.st (fun t k => XS.dup X91.here hx rfl (hb hby at_106) rfl rfl k) ?_
    show GoH _ _ _ _ _ _ _ _ _ _  T91 (mkF m 107 #[.val (.int p1), .val (.int p2), .val (.int p3), .val (.int p4), .val (.int (1 : Int32)), .val (.int f5), .val (.int f6), .val (.int f7), .val (.ref b5), .val (.ref b8), .val (.ref b13), .unset, .unset, .unset, .unset, .unset, .unset, .unset, .unset] [(.ref b91), (.ref b91)])
    refine GoH.st (fun t k => XS.aload X91.here hx rfl (hb hby at_107) rfl rfl  k) ?_
    show GoH _ _ _ _ _ _ _ _ _ _  T91 (mkF m 109 #[.val (.int p1), .val (.int p2), .val (.int p3), .val (.int p4), .val (.int (1 : Int32)), .val (.int f5), .val (.int f6), .val (.int f7), .val (.ref b5), .val (.ref b8), .val (.ref b13), .unset, .unset, .unset, .unset, .unset, .unset, .unset, .unset] [(.ref b5), (.ref b91), (.ref b91)])
    have hp92 : ∀ c ∈ ([(nar .char ((p1 &&& (255 : Int32)).toUInt32.toUInt16.toUInt32.toInt32))] : List Int32), ¬ c < 0 ∧ ¬ (255 : Int32) < c := (own_cons (P := fun c => ¬ c < 0 ∧ ¬ (255 : Int32) < c) (own_m255 _) own_nil)
    obtain ⟨_, _, ⟨T93, L93, k93, n93⟩, -, X93, ⟨Lc93, hQ93, l93, y93, z93⟩, st93⟩ := X91.specialBack hx (y := (⟨"java/lang/String", "<init>", "([C)V"⟩ : MethodName)) rfl hown (mvT hZ (hw _ (List.mem_of_getElem? (i := 4) rfl))) (mvT hZ (hw _ (List.mem_of_getElem? (i := 5) rfl))) (mvT hZ (hw _ (List.mem_of_getElem? (i := 6) rfl))) (by decide) (StrChars.Road.backV (W := 1) hZ hws (kI := 4) (hw _ (List.mem_of_getElem? (i := 2) rfl)) (cs := ([(nar .char ((p1 &&& (255 : Int32)).toUInt32.toUInt16.toUInt32.toInt32))] : List Int32)) (bs := ([(nar .char ((p1 &&& (255 : Int32)).toUInt32.toUInt16.toUInt32.toInt32))] : List Int32).map (fun c => c.toInt8.toInt32)) (n := 1) g_b91 (own_le O) E_b91 F_value_b91 F_coder_b91 V_b5 (S_COMPACT.ext O.2) hcs rfl rfl (by decide) (by decide) hp92 rfl (by decide) (by decide)) (g := (mkF m 109 #[.val (.int p1), .val (.int p2), .val (.int p3), .val (.int p4), .val (.int (1 : Int32)), .val (.int f5), .val (.int f6), .val (.int f7), .val (.ref b5), .val (.ref b8), .val (.ref b13), .unset, .unset, .unset, .unset, .unset, .unset, .unset, .unset] [(.ref b5), (.ref b91), (.ref b91)])) rfl (by rw [hml]; rfl) (Steps.refl _) (a := b91) (argsL := [(.ref b5)]) (rest := [(.ref b91)]) (lenOf pd___C_V rfl) rfl (by show 2 * 0 + _ ≤ _; exact Nat.le_of_eq rfl) (hb hby at_109) (fun _ _ => ⟨rfl, e91, (by decide : 4 + 1 ≤ _), (by decide : 7 + 1 ≤ _)⟩)
    dsimp only [Pt.U, Pt.locs, Pt.cells, Pt.slots] at X93 l93 y93 z93 st93 hQ93
    subst l93 y93 z93
    obtain ⟨rfl, N93q, K93q, Eq93, Cq93, t93, kt93, gt93, lt93, nt93, Vq93, Aq93⟩ := hQ93
    have N93 := Fr.app N12 N93q
    refine GoH.tr st93 ?_
    have g_t93 : n0 ≤ t93 := Nat.le_trans (own_le O) lt93
    have Sf_t93 : Safe Z EL s.vm h91 t93 := Safe.new lt93
    have sz_t93 : h0.size ≤ t93 := Nat.le_trans KK.1 lt93
    have ne_b5_t93 : b5 ≠ t93 := Nat.ne_of_lt (Nat.lt_of_lt_of_le V_b5.lt lt93)
    have ne_b8_t93 : b8 ≠ t93 := Nat.ne_of_lt (Nat.lt_of_lt_of_le V_b8.lt lt93)
    have ne_b13_t93 : b13 ≠ t93 := Nat.ne_of_lt (Nat.lt_of_lt_of_le V_b13.lt lt93)
    have ne_b91_t93 : b91 ≠ t93 := Nat.ne_of_lt (Nat.lt_of_lt_of_le E_b91.lt lt93)
    have V_b5 := V_b5.keep K93q (ninS ne_b5_b91 nin0)
    have V_b8 := V_b8.keep K93q (ninS ne_b8_b91 nin0)
    have V_b13 := V_b13.keep K93q (ninS ne_b13_b91 nin0)
    have E_b91 := E_b91.keep K93q
    have sfw93 := (sfS Sf_b91 sf0)
    have Sf_b5 := Safe.keep K93q sfw93 HH Sf_b5
    have Sf_b8 := Safe.keep K93q sfw93 HH Sf_b8
    have Sf_b13 := Safe.keep K93q sfw93 HH Sf_b13
    have Sf_b91 := Safe.keep K93q sfw93 HH Sf_b91
    have Sf_t93 := Safe.keep K93q sfw93 HH Sf_t93
    have RR := RR.trans (CHr.keep K93q sfw93 HH)
    have HH := HH.keep K93q sfw93
    have hk := Nat.le_trans hk K93q.1
    have O := O.keep K93q (allS g_b91 all0)
    have KK := KK.trans K93q (allS (Or.inr sz_b91) all0)
    have E_b91 := Eq93
    show GoH _ _ _ _ _ _ _ _ _ _  T93 (mkF m 112 #[.val (.int p1), .val (.int p2), .val (.int p3), .val (.int p4), .val (.int (1 : Int32)), .val (.int f5), .val (.int f6), .val (.int f7), .val (.ref b5), .val (.ref b8), .val (.ref b13), .unset, .unset, .unset, .unset, .unset, .unset, .unset, .unset] [(.ref b91)])
    refine GoH.st (fun t k => XS.goto X93.here hx rfl (pc0 := 112) (pc' := 116) rfl (hb hby at_112) (by decide) (by decide) k) ?_
    show GoH _ _ _ _ _ _ _ _ _ _  T93 (mkF m 116 #[.val (.int p1), .val (.int p2), .val (.int p3), .val (.int p4), .val (.int (1 : Int32)), .val (.int f5), .val (.int f6), .val (.int f7), .val (.ref b5), .val (.ref b8), .val (.ref b13), .unset, .unset, .unset, .unset, .unset, .unset, .unset, .unset] [(.ref b91)])
    refine GoH.st (fun t k => XS.astore X93.here hx rfl (hb hby at_116) rfl rfl (l' := #[.val (.int p1), .val (.int p2), .val (.int p3), .val (.int p4), .val (.int (1 : Int32)), .val (.int f5), .val (.int f6), .val (.int f7), .val (.ref b5), .val (.ref b8), .val (.ref b13), .val (.ref b91), .unset, .unset, .unset, .unset, .unset, .unset, .unset]) rfl k) ?_
    show GoH _ _ _ _ _ _ _ _ _ _  T93 (mkF m 118 #[.val (.int p1), .val (.int p2), .val (.int p3), .val (.int p4), .val (.int (1 : Int32)), .val (.int f5), .val (.int f6), .val (.int f7), .val (.ref b5), .val (.ref b8), .val (.ref b13), .val (.ref b91), .unset, .unset, .unset, .unset, .unset, .unset, .unset] [])
    refine GoH.st (fun t k => XS.aconstNull X93.here hx rfl (hb hby at_118) k) ?_
    show GoH _ _ _ _ _ _ _ _ _ _  T93 (mkF m 119 #[.val (.int p1), .val (.int p2), .val (.int p3), .val (.int p4), .val (.int (1 : Int32)), .val (.int f5), .val (.int f6), .val (.int f7), .val (.ref b5), .val (.ref b8), .val (.ref b13), .val (.ref b91), .unset, .unset, .unset, .unset, .unset, .unset, .unset] [.null])
    refine GoH.st (fun t k => XS.astore X93.here hx rfl (hb hby at_119) rfl rfl (l' := #[.val (.int p1), .val (.int p2), .val (.int p3), .val (.int p4), .val (.int (1 : Int32)), .val (.int f5), .val (.int f6), .val (.int f7), .val (.ref b5), .val (.ref b8), .val (.ref b13), .val (.ref b91), .val .null, .unset, .unset, .unset, .unset, .unset, .unset]) rfl k) ?_
    show GoH _ _ _ _ _ _ _ _ _ _  T93 (mkF m 121 #[.val (.int p1), .val (.int p2), .val (.int p3), .val (.int p4), .val (.int (1 : Int32)), .val (.int f5), .val (.int f6), .val (.int f7), .val (.ref b5), .val (.ref b8), .val (.ref b13), .val (.ref b91), .val .null, .unset, .unset, .unset, .unset, .unset, .unset] [])
    rcases ok_f5 with sp94 | sp94
    · rw [sp94]
      show GoH _ _ _ _ _ _ _ _ _ _  T93 (mkF m 121 #[.val (.int p1), .val (.int p2), .val (.int p3), .val (.int p4), .val (.int (1 : Int32)), .val (.int (0 : Int32)), .val (.int f6), .val (.int f7), .val (.ref b5), .val (.ref b8), .val (.ref b13), .val (.ref b91), .val .null, .unset, .unset, .unset, .unset, .unset, .unset] [])
      refine GoH.st (fun t k => XS.iload X93.here hx rfl (hb hby at_121) rfl  k) ?_
      show GoH _ _ _ _ _ _ _ _ _ _  T93 (mkF m 123 #[.val (.int p1), .val (.int p2), .val (.int p3), .val (.int p4), .val (.int (1 : Int32)), .val (.int (0 : Int32)), .val (.int f6), .val (.int f7), .val (.ref b5), .val (.ref b8), .val (.ref b13), .val (.ref b91), .val .null, .unset, .unset, .unset, .unset, .unset, .unset] [(.int (0 : Int32))])
      refine GoH.st (fun t k => XS.ifYes X93.here hx rfl (pc0 := 123) (pc' := 154) rfl (hb hby at_123) rfl ((if0 _ _).trans (teq (rfl : (0 : Int32) = (0 : Int32))).1) (by decide) (by decide) k) ?_
      show GoH _ _ _ _ _ _ _ _ _ _  T93 (mkF m 154 #[.val (.int p1), .val (.int p2), .val (.int p3), .val (.int p4), .val (.int (1 : Int32)), .val (.int (0 : Int32)), .val (.int f6), .val (.int f7), .val (.ref b5), .val (.ref b8), .val (.ref b13), .val (.ref b91), .val .null, .unset, .unset, .unset, .unset, .unset, .unset] [])
      rcases ok_f7 with sp95 | sp95
      · rw [sp95]
        show GoH _ _ _ _ _ _ _ _ _ _  T93 (mkF m 154 #[.val (.int p1), .val (.int p2), .val (.int p3), .val (.int p4), .val (.int (1 : Int32)), .val (.int (0 : Int32)), .val (.int f6), .val (.int (0 : Int32)), .val (.ref b5), .val (.ref b8), .val (.ref b13), .val (.ref b91), .val .null, .unset, .unset, .unset, .unset, .unset, .unset] [])
        refine GoH.st (fun t k => XS.iload X93.here hx rfl (hb hby at_154) rfl  k) ?_
        show GoH _ _ _ _ _ _ _ _ _ _  T93 (mkF m 156 #[.val (.int p1), .val (.int p2), .val (.int p3), .val (.int p4), .val (.int (1 : Int32)), .val (.int (0 : Int32)), .val (.int f6), .val (.int (0 : Int32)), .val (.ref b5), .val (.ref b8), .val (.ref b13), .val (.ref b91), .val .null, .unset, .unset, .unset, .unset, .unset, .unset] [(.int (0 : Int32))])
        refine GoH.st (fun t k => XS.ifYes X93.here hx rfl (pc0 := 156) (pc' := 165) rfl (hb hby at_156) rfl ((if0 _ _).trans (teq (rfl : (0 : Int32) = (0 : Int32))).1) (by decide) (by decide) k) ?_
        show GoH _ _ _ _ _ _ _ _ _ _  T93 (mkF m 165 #[.val (.int p1), .val (.int p2), .val (.int p3), .val (.int p4), .val (.int (1 : Int32)), .val (.int (0 : Int32)), .val (.int f6), .val (.int (0 : Int32)), .val (.ref b5), .val (.ref b8), .val (.ref b13), .val (.ref b91), .val .null, .unset, .unset, .unset, .unset, .unset, .unset] [])
        obtain ⟨T96, X96, e96, st96⟩ := getS2 X93 hx hZ hown (host := "") (Or.inl (hw _ (List.mem_of_getElem? (i := 30) rfl))) Via.refl rfl (S_ADMIN.ext O.2) (g := (mkF m 165 #[.val (.int p1), .val (.int p2), .val (.int p3), .val (.int p4), .val (.int (1 : Int32)), .val (.int (0 : Int32)), .val (.int f6), .val (.int (0 : Int32)), .val (.ref b5), .val (.ref b8), .val (.ref b13), .val (.ref b91), .val .null, .unset, .unset, .unset, .unset, .unset, .unset] [])) rfl (hb hby at_165)
        refine GoH.st st96 ?_
        show GoH _ _ _ _ _ _ _ _ _ _  T96 (mkF m 168 #[.val (.int p1), .val (.int p2), .val (.int p3), .val (.int p4), .val (.int (1 : Int32)), .val (.int (0 : Int32)), .val (.int f6), .val (.int (0 : Int32)), .val (.ref b5), .val (.ref b8), .val (.ref b13), .val (.ref b91), .val .null, .unset, .unset, .unset, .unset, .unset, .unset] [(.ref w_ADMIN)])
        refine GoH.st (fun t k => XS.astore X96.here hx rfl (hb hby at_168) rfl rfl (l' := #[.val (.int p1), .val (.int p2), .val (.int p3), .val (.int p4), .val (.int (1 : Int32)), .val (.int (0 : Int32)), .val (.int f6), .val (.int (0 : Int32)), .val (.ref b5), .val (.ref b8), .val (.ref b13), .val (.ref b91), .val .null, .val (.ref w_ADMIN), .unset, .unset, .unset, .unset, .unset]) rfl k) ?_
        show GoH _ _ _ _ _ _ _ _ _ _  T96 (mkF m 170 #[.val (.int p1), .val (.int p2), .val (.int p3), .val (.int p4), .val (.int (1 : Int32)), .val (.int (0 : Int32)), .val (.int f6), .val (.int (0 : Int32)), .val (.ref b5), .val (.ref b8), .val (.ref b13), .val (.ref b91), .val .null, .val (.ref w_ADMIN), .unset, .unset, .unset, .unset, .unset] [])
        obtain ⟨T97, h97, X97, e97, E97, A97, D97, -, st97⟩ := newO X96 hx hZ hown (hw _ (List.mem_of_getElem? (i := 33) rfl)) (hw _ (List.mem_of_getElem? (i := 34) rfl)) (hw _ (List.mem_of_getElem? (i := 35) rfl)) e96 (g := (mkF m 170 #[.val (.int p1), .val (.int p2), .val (.int p3), .val (.int p4), .val (.int (1 : Int32)), .val (.int (0 : Int32)), .val (.int f6), .val (.int (0 : Int32)), .val (.ref b5), .val (.ref b8), .val (.ref b13), .val (.ref b91), .val .null, .val (.ref w_ADMIN), .unset, .unset, .unset, .unset, .unset] [])) rfl (hb hby at_170) (by decide) (by decide)
        obtain ⟨b97, g97⟩ : ∃ z, z = T93.heap.size := ⟨_, rfl⟩
        rw [← g97] at A97 D97 st97
        refine GoH.st st97 ?_
        have g_b97 : n0 ≤ b97 := by rw [g97]; exact own_le O
        have Sf_b97 : Safe Z EL s.vm T93.heap b97 := Safe.new (Nat.le_of_eq g97.symm)
        have sz_b97 : h0.size ≤ b97 := by rw [g97]; exact KK.1
        have ne_b5_b97 : b5 ≠ b97 := Nat.ne_of_lt (by rw [g97]; exact V_b5.lt)
        have ne_b8_b97 : b8 ≠ b97 := Nat.ne_of_lt (by rw [g97]; exact V_b8.lt)
        have ne_b13_b97 : b13 ≠ b97 := Nat.ne_of_lt (by rw [g97]; exact V_b13.lt)
        have V_b5 := V_b5.ext E97
        have V_b8 := V_b8.ext E97
        have V_b13 := V_b13.ext E97
        have Sf_b5 := Safe.ext E97 HH Sf_b5
        have Sf_b8 := Safe.ext E97 HH Sf_b8
        have Sf_b13 := Safe.ext E97 HH Sf_b13
        have Sf_b97 := Safe.ext E97 HH Sf_b97
        have RR := RR.trans (CHr.ext E97 HH)
        have HH := HH.ext E97
        have hk := Nat.le_trans hk E97.1
        have O := O.ext E97
        have KK := KK.ext E97
        have E_b97 := A97
        have F_id_b97 : Fld Z h97 b97 "com/example/wellness_on_record/wellnessonrecord/apps/App" "id" "Ljava/lang/String;" .null := D97 (Or.inr (hw _ (List.mem_of_getElem? (i := 52) rfl))) (ty := (.object "java/lang/String")) (by decide)
        have F_name_b97 : Fld Z h97 b97 "com/example/wellness_on_record/wellnessonrecord/apps/App" "name" "Ljava/lang/String;" .null := D97 (Or.inr (hw _ (List.mem_of_getElem? (i := 54) rfl))) (ty := (.object "java/lang/String")) (by decide)
        have F_kind_b97 : Fld Z h97 b97 "com/example/wellness_on_record/wellnessonrecord/apps/App" "kind" "Lcom/example/wellness_on_record/wellnessonrecord/apps/App$Kind;" .null := D97 (Or.inr (hw _ (List.mem_of_getElem? (i := 56) rfl))) (ty := (.object "com/example/wellness_on_record/wellnessonrecord/apps/App$Kind")) (by decide)
        have F_consumerKey_b97 : Fld Z h97 b97 "com/example/wellness_on_record/wellnessonrecord/apps/App" "consumerKey" "Ljava/lang/String;" .null := D97 (Or.inr (hw _ (List.mem_of_getElem? (i := 58) rfl))) (ty := (.object "java/lang/String")) (by decide)
        have F_consumerSecret_b97 : Fld Z h97 b97 "com/example/wellness_on_record/wellnessonrecord/apps/App" "consumerSecret" "Ljava/lang/String;" .null := D97 (Or.inr (hw _ (List.mem_of_getElem? (i := 60) rfl))) (ty := (.object "java/lang/String")) (by decide)
        have F_autonomous_b97 : Fld Z h97 b97 "com/example/wellness_on_record/wellnessonrecord/apps/App" "autonomous" "Z" (.int (0 : Int32)) := D97 (Or.inr (hw _ (List.mem_of_getElem? (i := 62) rfl))) (ty := .boolean) (by decide)
        have F_autonomousReason_b97 : Fld Z h97 b97 "com/example/wellness_on_record/wellnessonrecord/apps/App" "autonomousReason" "Ljava/lang/String;" .null := D97 (Or.inr (hw _ (List.mem_of_getElem? (i := 64) rfl))) (ty := (.object "java/lang/String")) (by decide)
        have F_hasUi_b97 : Fld Z h97 b97 "com/example/wellness_on_record/wellnessonrecord/apps/App" "hasUi" "Z" (.int (0 : Int32)) := D97 (Or.inr (hw _ (List.mem_of_getElem? (i := 66) rfl))) (ty := .boolean) (by decide)
        have F_callbackUrl_b97 : Fld Z h97 b97 "com/example/wellness_on_record/wellnessonrecord/apps/App" "callbackUrl" "Ljava/lang/String;" .null := D97 (Or.inr (hw _ (List.mem_of_getElem? (i := 68) rfl))) (ty := (.object "java/lang/String")) (by decide)
        have F_startUrlTemplate_b97 : Fld Z h97 b97 "com/example/wellness_on_record/wellnessonrecord/apps/App" "startUrlTemplate" "Ljava/lang/String;" .null := D97 (Or.inr (hw _ (List.mem_of_getElem? (i := 70) rfl))) (ty := (.object "java/lang/String")) (by decide)
        have F_frameable_b97 : Fld Z h97 b97 "com/example/wellness_on_record/wellnessonrecord/apps/App" "frameable" "Z" (.int (0 : Int32)) := D97 (Or.inr (hw _ (List.mem_of_getElem? (i := 72) rfl))) (ty := .boolean) (by decide)
        show GoH _ _ _ _ _ _ _ _ _ _  T97 (mkF m 173 #[.val (.int p1), .val (.int p2), .val (.int p3), .val (.int p4), .val (.int (1 : Int32)), .val (.int (0 : Int32)), .val (.int f6), .val (.int (0 : Int32)), .val (.ref b5), .val (.ref b8), .val (.ref b13), .val (.ref b91), .val .null, .val (.ref w_ADMIN), .unset, .unset, .unset, .unset, .unset] [(.ref b97)])
        refine GoH.st (fun t k => XS.dup X97.here hx rfl (hb hby at_173) rfl rfl k) ?_
        show GoH _ _ _ _ _ _ _ _ _ _  T97 (mkF m 174 #[.val (.int p1), .val (.int p2), .val (.int p3), .val (.int p4), .val (.int (1 : Int32)), .val (.int (0 : Int32)), .val (.int f6), .val (.int (0 : Int32)), .val (.ref b5), .val (.ref b8), .val (.ref b13), .val (.ref b91), .val .null, .val (.ref w_ADMIN), .unset, .unset, .unset, .unset, .unset] [(.ref b97), (.ref b97)])
        obtain ⟨sa98, T98, h98, kk98, sb98, kb98, X98, e98, E98, hS98, hk98, hZ98, ho98, E_sa98, F_coder_sa98, F_value_sa98, V_sb98, la98, lb98, CR98, Lt98, ns98, st98⟩ := ldcCH X97 hx hZ hown (hw _ (List.mem_of_getElem? (i := 36) rfl)) wS e97 hS hk hEL (List.mem_of_getElem? (i := 0) rfl) HH (vs := [(.int (105 : Int32)), (.int (100 : Int32))]) (z := 2) ⟨by decide, by decide⟩ (by decide) rfl (g := (mkF m 174 #[.val (.int p1), .val (.int p2), .val (.int p3), .val (.int p4), .val (.int (1 : Int32)), .val (.int (0 : Int32)), .val (.int f6), .val (.int (0 : Int32)), .val (.ref b5), .val (.ref b8), .val (.ref b13), .val (.ref b91), .val .null, .val (.ref w_ADMIN), .unset, .unset, .unset, .unset, .unset] [(.ref b97), (.ref b97)])) rfl (hb hby at_174) (n := 8) (by decide) (by decide) (by decide) (by decide)
        refine GoH.st st98 ?_
        have Sf_b5 := CHr.safe CR98 V_b5.lt Sf_b5
        have Sf_b8 := CHr.safe CR98 V_b8.lt Sf_b8
        have Sf_b13 := CHr.safe CR98 V_b13.lt Sf_b13
        have Sf_b97 := CHr.safe CR98 E_b97.lt Sf_b97
        have V_b5 := V_b5.ext E98
        have V_b8 := V_b8.ext E98
        have V_b13 := V_b13.ext E98
        have E_b97 := E_b97.ext E98
        have F_id_b97 := F_id_b97.ext E98
        have F_name_b97 := F_name_b97.ext E98
        have F_kind_b97 := F_kind_b97.ext E98
        have F_consumerKey_b97 := F_consumerKey_b97.ext E98
        have F_consumerSecret_b97 := F_consumerSecret_b97.ext E98
        have F_autonomous_b97 := F_autonomous_b97.ext E98
        have F_autonomousReason_b97 := F_autonomousReason_b97.ext E98
        have F_hasUi_b97 := F_hasUi_b97.ext E98
        have F_callbackUrl_b97 := F_callbackUrl_b97.ext E98
        have F_startUrlTemplate_b97 := F_startUrlTemplate_b97.ext E98
        have F_frameable_b97 := F_frameable_b97.ext E98
        have O := O.ext E98
        have KK := KK.ext E98
        have RR := RR.trans CR98
        have HH := CR98.1
        have hS := hS98
        have hk := hk98
        have hZ := hZ98
        have hown := ho98
        show GoH _ _ _ _ _ _ _ _ _ _  T98 (mkF m 176 #[.val (.int p1), .val (.int p2), .val (.int p3), .val (.int p4), .val (.int (1 : Int32)), .val (.int (0 : Int32)), .val (.int f6), .val (.int (0 : Int32)), .val (.ref b5), .val (.ref b8), .val (.ref b13), .val (.ref b91), .val .null, .val (.ref w_ADMIN), .unset, .unset, .unset, .unset, .unset] [(.ref sa98), (.ref b97), (.ref b97)])
        obtain ⟨sa99, T99, h99, kk99, sb99, kb99, X99, e99, E99, hS99, hk99, hZ99, ho99, E_sa99, F_coder_sa99, F_value_sa99, V_sb99, la99, lb99, CR99, Lt99, ns99, st99⟩ := ldcCH X98 hx hZ hown (hw _ (List.mem_of_getElem? (i := 39) rfl)) wS e98 hS hk hEL (List.mem_of_getElem? (i := 1) rfl) HH (vs := [(.int (110 : Int32)), (.int (97 : Int32)), (.int (109 : Int32)), (.int (101 : Int32))]) (z := 4) ⟨by decide, by decide⟩ (by decide) rfl (g := (mkF m 176 #[.val (.int p1), .val (.int p2), .val (.int p3), .val (.int p4), .val (.int (1 : Int32)), .val (.int (0 : Int32)), .val (.int f6), .val (.int (0 : Int32)), .val (.ref b5), .val (.ref b8), .val (.ref b13), .val (.ref b91), .val .null, .val (.ref w_ADMIN), .unset, .unset, .unset, .unset, .unset] [(.ref sa98), (.ref b97), (.ref b97)])) rfl (hb hby at_176) (n := 16) (by decide) (by decide) (by decide) (by decide)
        refine GoH.st st99 ?_
        have Sf_b5 := CHr.safe CR99 V_b5.lt Sf_b5
        have Sf_b8 := CHr.safe CR99 V_b8.lt Sf_b8
        have Sf_b13 := CHr.safe CR99 V_b13.lt Sf_b13
        have Sf_b97 := CHr.safe CR99 E_b97.lt Sf_b97
        have V_b5 := V_b5.ext E99
        have V_b8 := V_b8.ext E99
        have V_b13 := V_b13.ext E99
        have E_b97 := E_b97.ext E99
        have F_id_b97 := F_id_b97.ext E99
        have F_name_b97 := F_name_b97.ext E99
        have F_kind_b97 := F_kind_b97.ext E99
        have F_consumerKey_b97 := F_consumerKey_b97.ext E99
        have F_consumerSecret_b97 := F_consumerSecret_b97.ext E99
        have F_autonomous_b97 := F_autonomous_b97.ext E99
        have F_autonomousReason_b97 := F_autonomousReason_b97.ext E99
        have F_hasUi_b97 := F_hasUi_b97.ext E99
        have F_callbackUrl_b97 := F_callbackUrl_b97.ext E99
        have F_startUrlTemplate_b97 := F_startUrlTemplate_b97.ext E99
        have F_frameable_b97 := F_frameable_b97.ext E99
        have O := O.ext E99
        have KK := KK.ext E99
        have RR := RR.trans CR99
        have HH := CR99.1
        have hS := hS99
        have hk := hk99
        have hZ := hZ99
        have hown := ho99
        show GoH _ _ _ _ _ _ _ _ _ _  T99 (mkF m 178 #[.val (.int p1), .val (.int p2), .val (.int p3), .val (.int p4), .val (.int (1 : Int32)), .val (.int (0 : Int32)), .val (.int f6), .val (.int (0 : Int32)), .val (.ref b5), .val (.ref b8), .val (.ref b13), .val (.ref b91), .val .null, .val (.ref w_ADMIN), .unset, .unset, .unset, .unset, .unset] [(.ref sa99), (.ref sa98), (.ref b97), (.ref b97)])
        refine GoH.st (fun t k => XS.aload X99.here hx rfl (hb hby at_178) rfl rfl  k) ?_
        show GoH _ _ _ _ _ _ _ _ _ _  T99 (mkF m 180 #[.val (.int p1), .val (.int p2), .val (.int p3), .val (.int p4), .val (.int (1 : Int32)), .val (.int (0 : Int32)), .val (.int f6), .val (.int (0 : Int32)), .val (.ref b5), .val (.ref b8), .val (.ref b13), .val (.ref b91), .val .null, .val (.ref w_ADMIN), .unset, .unset, .unset, .unset, .unset] [(.ref w_ADMIN), (.ref sa99), (.ref sa98), (.ref b97), (.ref b97)])
        obtain ⟨sa100, T100, h100, kk100, sb100, kb100, X100, e100, E100, hS100, hk100, hZ100, ho100, E_sa100, F_coder_sa100, F_value_sa100, V_sb100, la100, lb100, CR100, Lt100, ns100, st100⟩ := ldcCH X99 hx hZ hown (hw _ (List.mem_of_getElem? (i := 40) rfl)) wS e99 hS hk hEL (List.mem_of_getElem? (i := 2) rfl) HH (vs := [(.int (107 : Int32)), (.int (101 : Int32)), (.int (121 : Int32))]) (z := 3) ⟨by decide, by decide⟩ (by decide) rfl (g := (mkF m 180 #[.val (.int p1), .val (.int p2), .val (.int p3), .val (.int p4), .val (.int (1 : Int32)), .val (.int (0 : Int32)), .val (.int f6), .val (.int (0 : Int32)), .val (.ref b5), .val (.ref b8), .val (.ref b13), .val (.ref b91), .val .null, .val (.ref w_ADMIN), .unset, .unset, .unset, .unset, .unset] [(.ref w_ADMIN), (.ref sa99), (.ref sa98), (.ref b97), (.ref b97)])) rfl (hb hby at_180) (n := 12) (by decide) (by decide) (by decide) (by decide)
        refine GoH.st st100 ?_
        have Sf_b5 := CHr.safe CR100 V_b5.lt Sf_b5
        have Sf_b8 := CHr.safe CR100 V_b8.lt Sf_b8
        have Sf_b13 := CHr.safe CR100 V_b13.lt Sf_b13
        have Sf_b97 := CHr.safe CR100 E_b97.lt Sf_b97
        have V_b5 := V_b5.ext E100
        have V_b8 := V_b8.ext E100
        have V_b13 := V_b13.ext E100
        have E_b97 := E_b97.ext E100
        have F_id_b97 := F_id_b97.ext E100
        have F_name_b97 := F_name_b97.ext E100
        have F_kind_b97 := F_kind_b97.ext E100
        have F_consumerKey_b97 := F_consumerKey_b97.ext E100
        have F_consumerSecret_b97 := F_consumerSecret_b97.ext E100
        have F_autonomous_b97 := F_autonomous_b97.ext E100
        have F_autonomousReason_b97 := F_autonomousReason_b97.ext E100
        have F_hasUi_b97 := F_hasUi_b97.ext E100
        have F_callbackUrl_b97 := F_callbackUrl_b97.ext E100
        have F_startUrlTemplate_b97 := F_startUrlTemplate_b97.ext E100
        have F_frameable_b97 := F_frameable_b97.ext E100
        have O := O.ext E100
        have KK := KK.ext E100
        have RR := RR.trans CR100
        have HH := CR100.1
        have hS := hS100
        have hk := hk100
        have hZ := hZ100
        have hown := ho100
        show GoH _ _ _ _ _ _ _ _ _ _  T100 (mkF m 182 #[.val (.int p1), .val (.int p2), .val (.int p3), .val (.int p4), .val (.int (1 : Int32)), .val (.int (0 : Int32)), .val (.int f6), .val (.int (0 : Int32)), .val (.ref b5), .val (.ref b8), .val (.ref b13), .val (.ref b91), .val .null, .val (.ref w_ADMIN), .unset, .unset, .unset, .unset, .unset] [(.ref sa100), (.ref w_ADMIN), (.ref sa99), (.ref sa98), (.ref b97), (.ref b97)])
        obtain ⟨sa101, T101, h101, kk101, sb101, kb101, X101, e101, E101, hS101, hk101, hZ101, ho101, E_sa101, F_coder_sa101, F_value_sa101, V_sb101, la101, lb101, CR101, Lt101, ns101, st101⟩ := ldcCH X100 hx hZ hown (hw _ (List.mem_of_getElem? (i := 41) rfl)) wS e100 hS hk hEL (List.mem_of_getElem? (i := 3) rfl) HH (vs := [(.int (115 : Int32)), (.int (101 : Int32)), (.int (99 : Int32)), (.int (114 : Int32)), (.int (101 : Int32)), (.int (116 : Int32))]) (z := 6) ⟨by decide, by decide⟩ (by decide) rfl (g := (mkF m 182 #[.val (.int p1), .val (.int p2), .val (.int p3), .val (.int p4), .val (.int (1 : Int32)), .val (.int (0 : Int32)), .val (.int f6), .val (.int (0 : Int32)), .val (.ref b5), .val (.ref b8), .val (.ref b13), .val (.ref b91), .val .null, .val (.ref w_ADMIN), .unset, .unset, .unset, .unset, .unset] [(.ref sa100), (.ref w_ADMIN), (.ref sa99), (.ref sa98), (.ref b97), (.ref b97)])) rfl (hb hby at_182) (n := 24) (by decide) (by decide) (by decide) (by decide)
        refine GoH.st st101 ?_
        have Sf_b5 := CHr.safe CR101 V_b5.lt Sf_b5
        have Sf_b8 := CHr.safe CR101 V_b8.lt Sf_b8
        have Sf_b13 := CHr.safe CR101 V_b13.lt Sf_b13
        have Sf_b97 := CHr.safe CR101 E_b97.lt Sf_b97
        have V_b5 := V_b5.ext E101
        have V_b8 := V_b8.ext E101
        have V_b13 := V_b13.ext E101
        have E_b97 := E_b97.ext E101
        have F_id_b97 := F_id_b97.ext E101
        have F_name_b97 := F_name_b97.ext E101
        have F_kind_b97 := F_kind_b97.ext E101
        have F_consumerKey_b97 := F_consumerKey_b97.ext E101
        have F_consumerSecret_b97 := F_consumerSecret_b97.ext E101
        have F_autonomous_b97 := F_autonomous_b97.ext E101
        have F_autonomousReason_b97 := F_autonomousReason_b97.ext E101
        have F_hasUi_b97 := F_hasUi_b97.ext E101
        have F_callbackUrl_b97 := F_callbackUrl_b97.ext E101
        have F_startUrlTemplate_b97 := F_startUrlTemplate_b97.ext E101
        have F_frameable_b97 := F_frameable_b97.ext E101
        have O := O.ext E101
        have KK := KK.ext E101
        have RR := RR.trans CR101
        have HH := CR101.1
        have hS := hS101
        have hk := hk101
        have hZ := hZ101
        have hown := ho101
        show GoH _ _ _ _ _ _ _ _ _ _  T101 (mkF m 184 #[.val (.int p1), .val (.int p2), .val (.int p3), .val (.int p4), .val (.int (1 : Int32)), .val (.int (0 : Int32)), .val (.int f6), .val (.int (0 : Int32)), .val (.ref b5), .val (.ref b8), .val (.ref b13), .val (.ref b91), .val .null, .val (.ref w_ADMIN), .unset, .unset, .unset, .unset, .unset] [(.ref sa101), (.ref sa100), (.ref w_ADMIN), (.ref sa99), (.ref sa98), (.ref b97), (.ref b97)])
        refine GoH.st (fun t k => XS.iconst X101.here hx rfl (hb hby at_184) k) ?_
        show GoH _ _ _ _ _ _ _ _ _ _  T101 (mkF m 185 #[.val (.int p1), .val (.int p2), .val (.int p3), .val (.int p4), .val (.int (1 : Int32)), .val (.int (0 : Int32)), .val (.int f6), .val (.int (0 : Int32)), .val (.ref b5), .val (.ref b8), .val (.ref b13), .val (.ref b91), .val .null, .val (.ref w_ADMIN), .unset, .unset, .unset, .unset, .unset] [(.int (0 : Int32)), (.ref sa101), (.ref sa100), (.ref w_ADMIN), (.ref sa99), (.ref sa98), (.ref b97), (.ref b97)])
        refine GoH.st (fun t k => XS.aconstNull X101.here hx rfl (hb hby at_185) k) ?_
        show GoH _ _ _ _ _ _ _ _ _ _  T101 (mkF m 186 #[.val (.int p1), .val (.int p2), .val (.int p3), .val (.int p4), .val (.int (1 : Int32)), .val (.int (0 : Int32)), .val (.int f6), .val (.int (0 : Int32)), .val (.ref b5), .val (.ref b8), .val (.ref b13), .val (.ref b91), .val .null, .val (.ref w_ADMIN), .unset, .unset, .unset, .unset, .unset] [.null, (.int (0 : Int32)), (.ref sa101), (.ref sa100), (.ref w_ADMIN), (.ref sa99), (.ref sa98), (.ref b97), (.ref b97)])
        refine GoH.st (fun t k => XS.iconst X101.here hx rfl (hb hby at_186) k) ?_
        show GoH _ _ _ _ _ _ _ _ _ _  T101 (mkF m 187 #[.val (.int p1), .val (.int p2), .val (.int p3), .val (.int p4), .val (.int (1 : Int32)), .val (.int (0 : Int32)), .val (.int f6), .val (.int (0 : Int32)), .val (.ref b5), .val (.ref b8), .val (.ref b13), .val (.ref b91), .val .null, .val (.ref w_ADMIN), .unset, .unset, .unset, .unset, .unset] [(.int (0 : Int32)), .null, (.int (0 : Int32)), (.ref sa101), (.ref sa100), (.ref w_ADMIN), (.ref sa99), (.ref sa98), (.ref b97), (.ref b97)])
        refine GoH.st (fun t k => XS.aconstNull X101.here hx rfl (hb hby at_187) k) ?_
        show GoH _ _ _ _ _ _ _ _ _ _  T101 (mkF m 188 #[.val (.int p1), .val (.int p2), .val (.int p3), .val (.int p4), .val (.int (1 : Int32)), .val (.int (0 : Int32)), .val (.int f6), .val (.int (0 : Int32)), .val (.ref b5), .val (.ref b8), .val (.ref b13), .val (.ref b91), .val .null, .val (.ref w_ADMIN), .unset, .unset, .unset, .unset, .unset] [.null, (.int (0 : Int32)), .null, (.int (0 : Int32)), (.ref sa101), (.ref sa100), (.ref w_ADMIN), (.ref sa99), (.ref sa98), (.ref b97), (.ref b97)])
        refine GoH.st (fun t k => XS.aconstNull X101.here hx rfl (hb hby at_188) k) ?_
        show GoH _ _ _ _ _ _ _ _ _ _  T101 (mkF m 189 #[.val (.int p1), .val (.int p2), .val (.int p3), .val (.int p4), .val (.int (1 : Int32)), .val (.int (0 : Int32)), .val (.int f6), .val (.int (0 : Int32)), .val (.ref b5), .val (.ref b8), .val (.ref b13), .val (.ref b91), .val .null, .val (.ref w_ADMIN), .unset, .unset, .unset, .unset, .unset] [.null, .null, (.int (0 : Int32)), .null, (.int (0 : Int32)), (.ref sa101), (.ref sa100), (.ref w_ADMIN), (.ref sa99), (.ref sa98), (.ref b97), (.ref b97)])
        refine GoH.st (fun t k => XS.iconst X101.here hx rfl (hb hby at_189) k) ?_
        show GoH _ _ _ _ _ _ _ _ _ _  T101 (mkF m 190 #[.val (.int p1), .val (.int p2), .val (.int p3), .val (.int p4), .val (.int (1 : Int32)), .val (.int (0 : Int32)), .val (.int f6), .val (.int (0 : Int32)), .val (.ref b5), .val (.ref b8), .val (.ref b13), .val (.ref b91), .val .null, .val (.ref w_ADMIN), .unset, .unset, .unset, .unset, .unset] [(.int (0 : Int32)), .null, .null, (.int (0 : Int32)), .null, (.int (0 : Int32)), (.ref sa101), (.ref sa100), (.ref w_ADMIN), (.ref sa99), (.ref sa98), (.ref b97), (.ref b97)])
        obtain ⟨_, _, ⟨T102, L102, k102, n102⟩, -, X102, ⟨Lc102, hQ102, l102, y102, z102⟩, st102⟩ := X101.specialBack hx (y := (⟨"com/example/wellness_on_record/wellnessonrecord/apps/App", "<init>", "(Ljava/lang/String;Ljava/lang/String;Lcom/example/wellness_on_record/wellnessonrecord/apps/App$Kind;Ljava/lang/String;Ljava/lang/String;ZLjava/lang/String;ZLjava/lang/String;Ljava/lang/String;Z)V"⟩ : MethodName)) rfl hown (mvT hZ (hw _ (List.mem_of_getElem? (i := 42) rfl))) (mvT hZ (hw _ (List.mem_of_getElem? (i := 43) rfl))) (mvT hZ (hw _ (List.mem_of_getElem? (i := 44) rfl))) (by decide) (backOf (W := 1) (rmA l Z a0 hw [] b97 sa98 sa99 w_ADMIN sa100 sa101 h101 n0 O E_b97 F_id_b97 F_name_b97 F_kind_b97 F_consumerKey_b97 F_consumerSecret_b97 F_autonomous_b97 F_autonomousReason_b97 F_hasUi_b97 F_callbackUrl_b97 F_startUrlTemplate_b97 F_frameable_b97 g_b97) hZ (hw _ (List.mem_of_getElem? (i := 44) rfl)) (hw _ (List.mem_of_getElem? (i := 35) rfl)) (by decide) (by decide)) (g := (mkF m 190 #[.val (.int p1), .val (.int p2), .val (.int p3), .val (.int p4), .val (.int (1 : Int32)), .val (.int (0 : Int32)), .val (.int f6), .val (.int (0 : Int32)), .val (.ref b5), .val (.ref b8), .val (.ref b13), .val (.ref b91), .val .null, .val (.ref w_ADMIN), .unset, .unset, .unset, .unset, .unset] [(.int (0 : Int32)), .null, .null, (.int (0 : Int32)), .null, (.int (0 : Int32)), (.ref sa101), (.ref sa100), (.ref w_ADMIN), (.ref sa99), (.ref sa98), (.ref b97), (.ref b97)])) rfl (by rw [hml]; rfl) (Steps.refl _) (a := b97) (argsL := [(.ref sa98), (.ref sa99), (.ref w_ADMIN), (.ref sa100), (.ref sa101), (.int (0 : Int32)), .null, (.int (0 : Int32)), .null, .null, (.int (0 : Int32))]) (rest := [(.ref b97)]) (lenOf pd__Ljava_lang_String_Ljava_lang_String_Lcom_example_wellness_on_record_wellnessonrecord_apps_App_Kind_Ljava_lang_String_Ljava_lang_String_ZLjava_lang_String_ZLjava_lang_String_Ljava_lang_String_Z_V rfl) rfl (by show 2 * 0 + _ ≤ _; exact Nat.le_of_eq rfl) (hb hby at_190) (fun _ _ => ⟨rfl, e101, (by decide : 14 + 0 ≤ _), (by decide : 95 + 0 ≤ _)⟩)
        dsimp only [Pt.U, Pt.locs, Pt.cells, Pt.slots] at X102 l102 y102 z102 st102 hQ102
        subst l102 y102 z102
        obtain ⟨rfl, N102q, K102q, Eq102, Fk102⟩ := hQ102
        have N102 := Fr.app N93 N102q
        refine GoH.tr st102 ?_
        have V_b5 := V_b5.keep K102q (ninS ne_b5_b97 nin0)
        have V_b8 := V_b8.keep K102q (ninS ne_b8_b97 nin0)
        have V_b13 := V_b13.keep K102q (ninS ne_b13_b97 nin0)
        have E_b97 := E_b97.keep K102q
        have sfw102 := (sfS Sf_b97 sf0)
        have Sf_b5 := Safe.keep K102q sfw102 HH Sf_b5
        have Sf_b8 := Safe.keep K102q sfw102 HH Sf_b8
        have Sf_b13 := Safe.keep K102q sfw102 HH Sf_b13
        have Sf_b97 := Safe.keep K102q sfw102 HH Sf_b97
        have RR := RR.trans (CHr.keep K102q sfw102 HH)
        have HH := HH.keep K102q sfw102
        have hk := Nat.le_trans hk K102q.1
        have O := O.keep K102q (allS g_b97 all0)
        have KK := KK.trans K102q (allS (Or.inr sz_b97) all0)
        have E_b97 := Eq102
        show GoH _ _ _ _ _ _ _ _ _ _  T102 (mkF m 193 #[.val (.int p1), .val (.int p2), .val (.int p3), .val (.int p4), .val (.int (1 : Int32)), .val (.int (0 : Int32)), .val (.int f6), .val (.int (0 : Int32)), .val (.ref b5), .val (.ref b8), .val (.ref b13), .val (.ref b91), .val .null, .val (.ref w_ADMIN), .unset, .unset, .unset, .unset, .unset] [(.ref b97)])
        refine GoH.st (fun t k => XS.astore X102.here hx rfl (hb hby at_193) rfl rfl (l' := #[.val (.int p1), .val (.int p2), .val (.int p3), .val (.int p4), .val (.int (1 : Int32)), .val (.int (0 : Int32)), .val (.int f6), .val (.int (0 : Int32)), .val (.ref b5), .val (.ref b8), .val (.ref b13), .val (.ref b91), .val .null, .val (.ref w_ADMIN), .val (.ref b97), .unset, .unset, .unset, .unset]) rfl k) ?_
        show GoH _ _ _ _ _ _ _ _ _ _  T102 (mkF m 195 #[.val (.int p1), .val (.int p2), .val (.int p3), .val (.int p4), .val (.int (1 : Int32)), .val (.int (0 : Int32)), .val (.int f6), .val (.int (0 : Int32)), .val (.ref b5), .val (.ref b8), .val (.ref b13), .val (.ref b91), .val .null, .val (.ref w_ADMIN), .val (.ref b97), .unset, .unset, .unset, .unset] [])
        obtain ⟨T103, h103, X103, e103, E103, A103, D103, -, st103⟩ := newO X102 hx hZ hown (hw _ (List.mem_of_getElem? (i := 73) rfl)) (hw _ (List.mem_of_getElem? (i := 74) rfl)) (hw _ (List.mem_of_getElem? (i := 75) rfl)) rfl (g := (mkF m 195 #[.val (.int p1), .val (.int p2), .val (.int p3), .val (.int p4), .val (.int (1 : Int32)), .val (.int (0 : Int32)), .val (.int f6), .val (.int (0 : Int32)), .val (.ref b5), .val (.ref b8), .val (.ref b13), .val (.ref b91), .val .null, .val (.ref w_ADMIN), .val (.ref b97), .unset, .unset, .unset, .unset] [])) rfl (hb hby at_195) (by decide) (by decide)
        obtain ⟨b103, g103⟩ : ∃ z, z = T102.heap.size := ⟨_, rfl⟩
        rw [← g103] at A103 D103 st103
        refine GoH.st st103 ?_
        have g_b103 : n0 ≤ b103 := by rw [g103]; exact own_le O
        have Sf_b103 : Safe Z EL T101.vm T102.heap b103 := Safe.new (Nat.le_of_eq g103.symm)
        have sz_b103 : h0.size ≤ b103 := by rw [g103]; exact KK.1
        have ne_b5_b103 : b5 ≠ b103 := Nat.ne_of_lt (by rw [g103]; exact V_b5.lt)
        have ne_b8_b103 : b8 ≠ b103 := Nat.ne_of_lt (by rw [g103]; exact V_b8.lt)
        have ne_b13_b103 : b13 ≠ b103 := Nat.ne_of_lt (by rw [g103]; exact V_b13.lt)
        have ne_b97_b103 : b97 ≠ b103 := Nat.ne_of_lt (by rw [g103]; exact E_b97.lt)
        have V_b5 := V_b5.ext E103
        have V_b8 := V_b8.ext E103
        have V_b13 := V_b13.ext E103
        have E_b97 := E_b97.ext E103
        have Fk102 := Fk102.ext E103
        have Sf_b5 := Safe.ext E103 HH Sf_b5
        have Sf_b8 := Safe.ext E103 HH Sf_b8
        have Sf_b13 := Safe.ext E103 HH Sf_b13
        have Sf_b97 := Safe.ext E103 HH Sf_b97
        have Sf_b103 := Safe.ext E103 HH Sf_b103
        have RR := RR.trans (CHr.ext E103 HH)
        have HH := HH.ext E103
        have hk := Nat.le_trans hk E103.1
        have O := O.ext E103
        have KK := KK.ext E103
        have E_b103 := A103
        have F_app_b103 : Fld Z h103 b103 "com/example/wellness_on_record/wellnessonrecord/oauth/Principal" "app" "Lcom/example/wellness_on_record/wellnessonrecord/apps/App;" .null := D103 (Or.inr (hw _ (List.mem_of_getElem? (i := 81) rfl))) (ty := (.object "com/example/wellness_on_record/wellnessonrecord/apps/App")) (by decide)
        have F_recordId_b103 : Fld Z h103 b103 "com/example/wellness_on_record/wellnessonrecord/oauth/Principal" "recordId" "Ljava/lang/String;" .null := D103 (Or.inr (hw _ (List.mem_of_getElem? (i := 83) rfl))) (ty := (.object "java/lang/String")) (by decide)
        have F_requestToken_b103 : Fld Z h103 b103 "com/example/wellness_on_record/wellnessonrecord/oauth/Principal" "requestToken" "Ljava/lang/String;" .null := D103 (Or.inr (hw _ (List.mem_of_getElem? (i := 85) rfl))) (ty := (.object "java/lang/String")) (by decide)
        show GoH _ _ _ _ _ _ _ _ _ _  T103 (mkF m 198 #[.val (.int p1), .val (.int p2), .val (.int p3), .val (.int p4), .val (.int (1 : Int32)), .val (.int (0 : Int32)), .val (.int f6), .val (.int (0 : Int32)), .val (.ref b5), .val (.ref b8), .val (.ref b13), .val (.ref b91), .val .null, .val (.ref w_ADMIN), .val (.ref b97), .unset, .unset, .unset, .unset] [(.ref b103)])
        refine GoH.st (fun t k => XS.dup X103.here hx rfl (hb hby at_198) rfl rfl k) ?_
        show GoH _ _ _ _ _ _ _ _ _ _  T103 (mkF m 199 #[.val (.int p1), .val (.int p2), .val (.int p3), .val (.int p4), .val (.int (1 : Int32)), .val (.int (0 : Int32)), .val (.int f6), .val (.int (0 : Int32)), .val (.ref b5), .val (.ref b8), .val (.ref b13), .val (.ref b91), .val .null, .val (.ref w_ADMIN), .val (.ref b97), .unset, .unset, .unset, .unset] [(.ref b103), (.ref b103)])
        refine GoH.st (fun t k => XS.aload X103.here hx rfl (hb hby at_199) rfl rfl  k) ?_
        show GoH _ _ _ _ _ _ _ _ _ _  T103 (mkF m 201 #[.val (.int p1), .val (.int p2), .val (.int p3), .val (.int p4), .val (.int (1 : Int32)), .val (.int (0 : Int32)), .val (.int f6), .val (.int (0 : Int32)), .val (.ref b5), .val (.ref b8), .val (.ref b13), .val (.ref b91), .val .null, .val (.ref w_ADMIN), .val (.ref b97), .unset, .unset, .unset, .unset] [(.ref b97), (.ref b103), (.ref b103)])
        refine GoH.st (fun t k => XS.aload X103.here hx rfl (hb hby at_201) rfl rfl  k) ?_
        show GoH _ _ _ _ _ _ _ _ _ _  T103 (mkF m 203 #[.val (.int p1), .val (.int p2), .val (.int p3), .val (.int p4), .val (.int (1 : Int32)), .val (.int (0 : Int32)), .val (.int f6), .val (.int (0 : Int32)), .val (.ref b5), .val (.ref b8), .val (.ref b13), .val (.ref b91), .val .null, .val (.ref w_ADMIN), .val (.ref b97), .unset, .unset, .unset, .unset] [(.ref b91), (.ref b97), (.ref b103), (.ref b103)])
        refine GoH.st (fun t k => XS.aload X103.here hx rfl (hb hby at_203) rfl rfl  k) ?_
        show GoH _ _ _ _ _ _ _ _ _ _  T103 (mkF m 205 #[.val (.int p1), .val (.int p2), .val (.int p3), .val (.int p4), .val (.int (1 : Int32)), .val (.int (0 : Int32)), .val (.int f6), .val (.int (0 : Int32)), .val (.ref b5), .val (.ref b8), .val (.ref b13), .val (.ref b91), .val .null, .val (.ref w_ADMIN), .val (.ref b97), .unset, .unset, .unset, .unset] [.null, (.ref b91), (.ref b97), (.ref b103), (.ref b103)])
        obtain ⟨_, _, ⟨T104, L104, k104, n104⟩, -, X104, ⟨Lc104, hQ104, l104, y104, z104⟩, st104⟩ := X103.specialBack hx (y := (⟨"com/example/wellness_on_record/wellnessonrecord/oauth/Principal", "<init>", "(Lcom/example/wellness_on_record/wellnessonrecord/apps/App;Ljava/lang/String;Ljava/lang/String;)V"⟩ : MethodName)) rfl hown (mvT hZ (hw _ (List.mem_of_getElem? (i := 76) rfl))) (mvT hZ (hw _ (List.mem_of_getElem? (i := 77) rfl))) (mvT hZ (hw _ (List.mem_of_getElem? (i := 78) rfl))) (by decide) (backOf (W := 1) (rmP l Z a0 hw [] b103 b97 (.ref b91) .null h103 n0 O E_b103 F_app_b103 F_recordId_b103 F_requestToken_b103 g_b103 rfl rfl) hZ (hw _ (List.mem_of_getElem? (i := 78) rfl)) (hw _ (List.mem_of_getElem? (i := 75) rfl)) (by decide) (by decide)) (g := (mkF m 205 #[.val (.int p1), .val (.int p2), .val (.int p3), .val (.int p4), .val (.int (1 : Int32)), .val (.int (0 : Int32)), .val (.int f6), .val (.int (0 : Int32)), .val (.ref b5), .val (.ref b8), .val (.ref b13), .val (.ref b91), .val .null, .val (.ref w_ADMIN), .val (.ref b97), .unset, .unset, .unset, .unset] [.null, (.ref b91), (.ref b97), (.ref b103), (.ref b103)])) rfl (by rw [hml]; rfl) (Steps.refl _) (a := b103) (argsL := [(.ref b97), (.ref b91), .null]) (rest := [(.ref b103)]) (lenOf pd__Lcom_example_wellness_on_record_wellnessonrecord_apps_App_Ljava_lang_String_Ljava_lang_String__V rfl) rfl (by show 2 * 0 + _ ≤ _; exact Nat.le_of_eq rfl) (hb hby at_205) (fun _ _ => ⟨rfl, e103, (by decide : 15 + 0 ≤ _), (by decide : 98 + 0 ≤ _)⟩)
        dsimp only [Pt.U, Pt.locs, Pt.cells, Pt.slots] at X104 l104 y104 z104 st104 hQ104
        subst l104 y104 z104
        obtain ⟨rfl, N104q, K104q, Eq104, Fa104, Fr104, Ft104⟩ := hQ104
        have N104 := Fr.app N102 N104q
        refine GoH.tr st104 ?_
        have V_b5 := V_b5.keep K104q (ninS ne_b5_b103 nin0)
        have V_b8 := V_b8.keep K104q (ninS ne_b8_b103 nin0)
        have V_b13 := V_b13.keep K104q (ninS ne_b13_b103 nin0)
        have E_b97 := E_b97.keep K104q
        have Fk102 := Fk102.keep K104q (ninS ne_b97_b103 nin0)
        have E_b103 := E_b103.keep K104q
        have sfw104 := (sfS Sf_b103 sf0)
        have Sf_b5 := Safe.keep K104q sfw104 HH Sf_b5
        have Sf_b8 := Safe.keep K104q sfw104 HH Sf_b8
        have Sf_b13 := Safe.keep K104q sfw104 HH Sf_b13
        have Sf_b97 := Safe.keep K104q sfw104 HH Sf_b97
        have Sf_b103 := Safe.keep K104q sfw104 HH Sf_b103
        have RR := RR.trans (CHr.keep K104q sfw104 HH)
        have HH := HH.keep K104q sfw104
        have hk := Nat.le_trans hk K104q.1
        have O := O.keep K104q (allS g_b103 all0)
        have KK := KK.trans K104q (allS (Or.inr sz_b103) all0)
        have E_b103 := Eq104
        show GoH _ _ _ _ _ _ _ _ _ _  T104 (mkF m 208 #[.val (.int p1), .val (.int p2), .val (.int p3), .val (.int p4), .val (.int (1 : Int32)), .val (.int (0 : Int32)), .val (.int f6), .val (.int (0 : Int32)), .val (.ref b5), .val (.ref b8), .val (.ref b13), .val (.ref b91), .val .null, .val (.ref w_ADMIN), .val (.ref b97), .unset, .unset, .unset, .unset] [(.ref b103)])
        refine GoH.st (fun t k => XS.astore X104.here hx rfl (hb hby at_208) rfl rfl (l' := #[.val (.int p1), .val (.int p2), .val (.int p3), .val (.int p4), .val (.int (1 : Int32)), .val (.int (0 : Int32)), .val (.int f6), .val (.int (0 : Int32)), .val (.ref b5), .val (.ref b8), .val (.ref b13), .val (.ref b91), .val .null, .val (.ref w_ADMIN), .val (.ref b97), .val (.ref b103), .unset, .unset, .unset]) rfl k) ?_
        show GoH _ _ _ _ _ _ _ _ _ _  T104 (mkF m 210 #[.val (.int p1), .val (.int p2), .val (.int p3), .val (.int p4), .val (.int (1 : Int32)), .val (.int (0 : Int32)), .val (.int f6), .val (.int (0 : Int32)), .val (.ref b5), .val (.ref b8), .val (.ref b13), .val (.ref b91), .val .null, .val (.ref w_ADMIN), .val (.ref b97), .val (.ref b103), .unset, .unset, .unset] [])
        refine GoH.st (fun t k => XS.aload X104.here hx rfl (hb hby at_210) rfl rfl  k) ?_
        show GoH _ _ _ _ _ _ _ _ _ _  T104 (mkF m 212 #[.val (.int p1), .val (.int p2), .val (.int p3), .val (.int p4), .val (.int (1 : Int32)), .val (.int (0 : Int32)), .val (.int f6), .val (.int (0 : Int32)), .val (.ref b5), .val (.ref b8), .val (.ref b13), .val (.ref b91), .val .null, .val (.ref w_ADMIN), .val (.ref b97), .val (.ref b103), .unset, .unset, .unset] [(.ref b103)])
        obtain ⟨cq105, kq105, q105a, q105b, q105c⟩ := isOf hZ rfl E_b103
        obtain ⟨_, _, ⟨T105, L105, k105, n105⟩, -, X105, ⟨Lc105, hQ105, l105, y105, z105⟩, st105⟩ := X104.virtualBack hx (y := (⟨"com/example/wellness_on_record/wellnessonrecord/oauth/Principal", "holdsRequestToken", "()Z"⟩ : MethodName)) (z := (⟨"com/example/wellness_on_record/wellnessonrecord/oauth/Principal", "holdsRequestToken", "()Z"⟩ : MethodName)) hown (mvT hZ (hw _ (List.mem_of_getElem? (i := 86) rfl))) (mvT hZ (hw _ (List.mem_of_getElem? (i := 87) rfl))) (notFace_of_selects (args := #[]) (mvT hZ (hw _ (List.mem_of_getElem? (i := 89) rfl)))) (mvT hZ (hw _ (List.mem_of_getElem? (i := 89) rfl))) (mvT hZ (hw _ (List.mem_of_getElem? (i := 88) rfl))) (by decide) (backOf (W := 0) (rmH l Z a0 hw [] b103 .null T104.heap n0 O Ft104 rfl) hZ (hw _ (List.mem_of_getElem? (i := 90) rfl)) (hw _ (List.mem_of_getElem? (i := 75) rfl)) (by decide) (by decide)) q105a q105c (g := (mkF m 212 #[.val (.int p1), .val (.int p2), .val (.int p3), .val (.int p4), .val (.int (1 : Int32)), .val (.int (0 : Int32)), .val (.int f6), .val (.int (0 : Int32)), .val (.ref b5), .val (.ref b8), .val (.ref b13), .val (.ref b91), .val .null, .val (.ref w_ADMIN), .val (.ref b97), .val (.ref b103), .unset, .unset, .unset] [(.ref b103)])) rfl (by rw [hml]; rfl) (Steps.refl _) (argsL := []) (rest := []) (lenOf pd___Z rfl) rfl (by show 2 * 0 + _ ≤ _; exact Nat.le_of_eq rfl) (hb hby at_212) (fun _ _ => ⟨rfl, rfl, (by decide : 15 + 0 ≤ _), (by decide : 98 + 0 ≤ _)⟩)
        dsimp only [Pt.U, Pt.locs, Pt.cells, Pt.slots] at X105 l105 y105 z105 st105 hQ105
        subst l105 y105 z105
        obtain ⟨rfl, N105q, e105q⟩ := hQ105
        have N105 := Fr.app N104 N105q
        refine GoH.tr st105 ?_
        rw [show (if .null = Value.null then (0 : Int32) else 1) = (0 : Int32) from by simp]
        show GoH _ _ _ _ _ _ _ _ _ _  T105 (mkF m 215 #[.val (.int p1), .val (.int p2), .val (.int p3), .val (.int p4), .val (.int (1 : Int32)), .val (.int (0 : Int32)), .val (.int f6), .val (.int (0 : Int32)), .val (.ref b5), .val (.ref b8), .val (.ref b13), .val (.ref b91), .val .null, .val (.ref w_ADMIN), .val (.ref b97), .val (.ref b103), .unset, .unset, .unset] [(.int (0 : Int32))])
        refine GoH.st (fun t k => XS.istore X105.here hx rfl (hb hby at_215) rfl (l' := #[.val (.int p1), .val (.int p2), .val (.int p3), .val (.int p4), .val (.int (1 : Int32)), .val (.int (0 : Int32)), .val (.int f6), .val (.int (0 : Int32)), .val (.ref b5), .val (.ref b8), .val (.ref b13), .val (.ref b91), .val .null, .val (.ref w_ADMIN), .val (.ref b97), .val (.ref b103), .val (.int (0 : Int32)), .unset, .unset]) rfl k) ?_
        show GoH _ _ _ _ _ _ _ _ _ _  T105 (mkF m 217 #[.val (.int p1), .val (.int p2), .val (.int p3), .val (.int p4), .val (.int (1 : Int32)), .val (.int (0 : Int32)), .val (.int f6), .val (.int (0 : Int32)), .val (.ref b5), .val (.ref b8), .val (.ref b13), .val (.ref b91), .val .null, .val (.ref w_ADMIN), .val (.ref b97), .val (.ref b103), .val (.int (0 : Int32)), .unset, .unset] [])
        refine GoH.st (fun t k => XS.iload X105.here hx rfl (hb hby at_217) rfl  k) ?_
        show GoH _ _ _ _ _ _ _ _ _ _  T105 (mkF m 219 #[.val (.int p1), .val (.int p2), .val (.int p3), .val (.int p4), .val (.int (1 : Int32)), .val (.int (0 : Int32)), .val (.int f6), .val (.int (0 : Int32)), .val (.ref b5), .val (.ref b8), .val (.ref b13), .val (.ref b91), .val .null, .val (.ref w_ADMIN), .val (.ref b97), .val (.ref b103), .val (.int (0 : Int32)), .unset, .unset] [(.int (0 : Int32))])
        refine GoH.st (fun t k => XS.iload X105.here hx rfl (hb hby at_219) rfl  k) ?_
        show GoH _ _ _ _ _ _ _ _ _ _  T105 (mkF m 221 #[.val (.int p1), .val (.int p2), .val (.int p3), .val (.int p4), .val (.int (1 : Int32)), .val (.int (0 : Int32)), .val (.int f6), .val (.int (0 : Int32)), .val (.ref b5), .val (.ref b8), .val (.ref b13), .val (.ref b91), .val .null, .val (.ref w_ADMIN), .val (.ref b97), .val (.ref b103), .val (.int (0 : Int32)), .unset, .unset] [(.int (0 : Int32)), (.int (0 : Int32))])
        refine GoH.st (fun t k => XS.icmpYes X105.here hx rfl (pc0 := 221) (pc' := 226) rfl (hb hby at_221) rfl (teq (rfl : (0 : Int32) = (0 : Int32))).1 (by decide) (by decide) k) ?_
        show GoH _ _ _ _ _ _ _ _ _ _  T105 (mkF m 226 #[.val (.int p1), .val (.int p2), .val (.int p3), .val (.int p4), .val (.int (1 : Int32)), .val (.int (0 : Int32)), .val (.int f6), .val (.int (0 : Int32)), .val (.ref b5), .val (.ref b8), .val (.ref b13), .val (.ref b91), .val .null, .val (.ref w_ADMIN), .val (.ref b97), .val (.ref b103), .val (.int (0 : Int32)), .unset, .unset] [])
        refine GoH.st (fun t k => XS.aload X105.here hx rfl (hb hby at_226) rfl rfl  k) ?_
        show GoH _ _ _ _ _ _ _ _ _ _  T105 (mkF m 228 #[.val (.int p1), .val (.int p2), .val (.int p3), .val (.int p4), .val (.int (1 : Int32)), .val (.int (0 : Int32)), .val (.int f6), .val (.int (0 : Int32)), .val (.ref b5), .val (.ref b8), .val (.ref b13), .val (.ref b91), .val .null, .val (.ref w_ADMIN), .val (.ref b97), .val (.ref b103), .val (.int (0 : Int32)), .unset, .unset] [(.ref b103)])
        obtain ⟨cq106, kq106, q106a, q106b, q106c⟩ := isOf hZ e105q E_b103
        obtain ⟨_, _, ⟨T106, L106, k106, n106⟩, -, X106, ⟨Lc106, hQ106, l106, y106, z106⟩, st106⟩ := X105.virtualBack hx (y := (⟨"com/example/wellness_on_record/wellnessonrecord/oauth/Principal", "isUserAppAlone", "()Z"⟩ : MethodName)) (z := (⟨"com/example/wellness_on_record/wellnessonrecord/oauth/Principal", "isUserAppAlone", "()Z"⟩ : MethodName)) hown (mvT hZ (hw _ (List.mem_of_getElem? (i := 91) rfl))) (mvT hZ (hw _ (List.mem_of_getElem? (i := 92) rfl))) (notFace_of_selects (args := #[]) (mvT hZ (hw _ (List.mem_of_getElem? (i := 94) rfl)))) (mvT hZ (hw _ (List.mem_of_getElem? (i := 94) rfl))) (mvT hZ (hw _ (List.mem_of_getElem? (i := 93) rfl))) (by decide) (backOf (W := 0) (rmU l Z a0 hw [] b103 b97 w_ADMIN (.ref b91) .null w_USER T104.heap n0 O Fa104 Fr104 Ft104 rfl rfl Fk102 E_b103 E_b97 S_USER) hZ (hw _ (List.mem_of_getElem? (i := 95) rfl)) (hw _ (List.mem_of_getElem? (i := 75) rfl)) (by decide) (by decide)) q106a q106c (g := (mkF m 228 #[.val (.int p1), .val (.int p2), .val (.int p3), .val (.int p4), .val (.int (1 : Int32)), .val (.int (0 : Int32)), .val (.int f6), .val (.int (0 : Int32)), .val (.ref b5), .val (.ref b8), .val (.ref b13), .val (.ref b91), .val .null, .val (.ref w_ADMIN), .val (.ref b97), .val (.ref b103), .val (.int (0 : Int32)), .unset, .unset] [(.ref b103)])) rfl (by rw [hml]; rfl) (Steps.refl _) (argsL := []) (rest := []) (lenOf pd___Z rfl) rfl (by show 2 * 0 + _ ≤ _; exact Nat.le_of_eq rfl) (hb hby at_228) (fun _ _ => ⟨rfl, e105q, (by decide : 15 + 0 ≤ _), (by decide : 98 + 0 ≤ _)⟩)
        dsimp only [Pt.U, Pt.locs, Pt.cells, Pt.slots] at X106 l106 y106 z106 st106 hQ106
        subst l106 y106 z106
        obtain ⟨rfl, N106q, e106q⟩ := hQ106
        have N106 := Fr.app N105 N106q
        refine GoH.tr st106 ?_
        rw [show (if w_ADMIN = w_USER then (if (.ref b91) = Value.null then (if .null = Value.null then (1 : Int32) else 0) else 0) else 0) = (0 : Int32) from by simp [nAU]]
        show GoH _ _ _ _ _ _ _ _ _ _  T106 (mkF m 231 #[.val (.int p1), .val (.int p2), .val (.int p3), .val (.int p4), .val (.int (1 : Int32)), .val (.int (0 : Int32)), .val (.int f6), .val (.int (0 : Int32)), .val (.ref b5), .val (.ref b8), .val (.ref b13), .val (.ref b91), .val .null, .val (.ref w_ADMIN), .val (.ref b97), .val (.ref b103), .val (.int (0 : Int32)), .unset, .unset] [(.int (0 : Int32))])
        refine GoH.st (fun t k => XS.istore X106.here hx rfl (hb hby at_231) rfl (l' := #[.val (.int p1), .val (.int p2), .val (.int p3), .val (.int p4), .val (.int (1 : Int32)), .val (.int (0 : Int32)), .val (.int f6), .val (.int (0 : Int32)), .val (.ref b5), .val (.ref b8), .val (.ref b13), .val (.ref b91), .val .null, .val (.ref w_ADMIN), .val (.ref b97), .val (.ref b103), .val (.int (0 : Int32)), .val (.int (0 : Int32)), .unset]) rfl k) ?_
        show GoH _ _ _ _ _ _ _ _ _ _  T106 (mkF m 233 #[.val (.int p1), .val (.int p2), .val (.int p3), .val (.int p4), .val (.int (1 : Int32)), .val (.int (0 : Int32)), .val (.int f6), .val (.int (0 : Int32)), .val (.ref b5), .val (.ref b8), .val (.ref b13), .val (.ref b91), .val .null, .val (.ref w_ADMIN), .val (.ref b97), .val (.ref b103), .val (.int (0 : Int32)), .val (.int (0 : Int32)), .unset] [])
        refine GoH.st (fun t k => XS.iload X106.here hx rfl (hb hby at_233) rfl  k) ?_
        show GoH _ _ _ _ _ _ _ _ _ _  T106 (mkF m 235 #[.val (.int p1), .val (.int p2), .val (.int p3), .val (.int p4), .val (.int (1 : Int32)), .val (.int (0 : Int32)), .val (.int f6), .val (.int (0 : Int32)), .val (.ref b5), .val (.ref b8), .val (.ref b13), .val (.ref b91), .val .null, .val (.ref w_ADMIN), .val (.ref b97), .val (.ref b103), .val (.int (0 : Int32)), .val (.int (0 : Int32)), .unset] [(.int (0 : Int32))])
        refine GoH.st (fun t k => XS.ifNo X106.here hx rfl (hb hby at_235) rfl ((if0 _ _).trans (teq (rfl : (0 : Int32) = (0 : Int32))).2) k) ?_
        show GoH _ _ _ _ _ _ _ _ _ _  T106 (mkF m 238 #[.val (.int p1), .val (.int p2), .val (.int p3), .val (.int p4), .val (.int (1 : Int32)), .val (.int (0 : Int32)), .val (.int f6), .val (.int (0 : Int32)), .val (.ref b5), .val (.ref b8), .val (.ref b13), .val (.ref b91), .val .null, .val (.ref w_ADMIN), .val (.ref b97), .val (.ref b103), .val (.int (0 : Int32)), .val (.int (0 : Int32)), .unset] [])
        refine GoH.st (fun t k => XS.iload X106.here hx rfl (hb hby at_238) rfl  k) ?_
        show GoH _ _ _ _ _ _ _ _ _ _  T106 (mkF m 240 #[.val (.int p1), .val (.int p2), .val (.int p3), .val (.int p4), .val (.int (1 : Int32)), .val (.int (0 : Int32)), .val (.int f6), .val (.int (0 : Int32)), .val (.ref b5), .val (.ref b8), .val (.ref b13), .val (.ref b91), .val .null, .val (.ref w_ADMIN), .val (.ref b97), .val (.ref b103), .val (.int (0 : Int32)), .val (.int (0 : Int32)), .unset] [(.int (1 : Int32))])
        refine GoH.st (fun t k => XS.ifYes X106.here hx rfl (pc0 := 240) (pc' := 252) rfl (hb hby at_240) rfl ((if0 _ _).trans (feq (by decide : ¬ ((1 : Int32) = (0 : Int32)))).2) (by decide) (by decide) k) ?_
        show GoH _ _ _ _ _ _ _ _ _ _  T106 (mkF m 252 #[.val (.int p1), .val (.int p2), .val (.int p3), .val (.int p4), .val (.int (1 : Int32)), .val (.int (0 : Int32)), .val (.int f6), .val (.int (0 : Int32)), .val (.ref b5), .val (.ref b8), .val (.ref b13), .val (.ref b91), .val .null, .val (.ref w_ADMIN), .val (.ref b97), .val (.ref b103), .val (.int (0 : Int32)), .val (.int (0 : Int32)), .unset] [])
        refine GoH.st (fun t k => XS.iconst X106.here hx rfl (hb hby at_252) k) ?_
        show GoH _ _ _ _ _ _ _ _ _ _  T106 (mkF m 253 #[.val (.int p1), .val (.int p2), .val (.int p3), .val (.int p4), .val (.int (1 : Int32)), .val (.int (0 : Int32)), .val (.int f6), .val (.int (0 : Int32)), .val (.ref b5), .val (.ref b8), .val (.ref b13), .val (.ref b91), .val .null, .val (.ref w_ADMIN), .val (.ref b97), .val (.ref b103), .val (.int (0 : Int32)), .val (.int (0 : Int32)), .unset] [(.int (0 : Int32))])
        refine GoH.st (fun t k => XS.istore X106.here hx rfl (hb hby at_253) rfl (l' := #[.val (.int p1), .val (.int p2), .val (.int p3), .val (.int p4), .val (.int (1 : Int32)), .val (.int (0 : Int32)), .val (.int f6), .val (.int (0 : Int32)), .val (.ref b5), .val (.ref b8), .val (.ref b13), .val (.ref b91), .val .null, .val (.ref w_ADMIN), .val (.ref b97), .val (.ref b103), .val (.int (0 : Int32)), .val (.int (0 : Int32)), .val (.int (0 : Int32))]) rfl k) ?_
        show GoH _ _ _ _ _ _ _ _ _ _  T106 (mkF m 255 #[.val (.int p1), .val (.int p2), .val (.int p3), .val (.int p4), .val (.int (1 : Int32)), .val (.int (0 : Int32)), .val (.int f6), .val (.int (0 : Int32)), .val (.ref b5), .val (.ref b8), .val (.ref b13), .val (.ref b91), .val .null, .val (.ref w_ADMIN), .val (.ref b97), .val (.ref b103), .val (.int (0 : Int32)), .val (.int (0 : Int32)), .val (.int (0 : Int32))] [])
        refine GoH.st (fun t k => XS.iload X106.here hx rfl (hb hby at_255) rfl  k) ?_
        show GoH _ _ _ _ _ _ _ _ _ _  T106 (mkF m 257 #[.val (.int p1), .val (.int p2), .val (.int p3), .val (.int p4), .val (.int (1 : Int32)), .val (.int (0 : Int32)), .val (.int f6), .val (.int (0 : Int32)), .val (.ref b5), .val (.ref b8), .val (.ref b13), .val (.ref b91), .val .null, .val (.ref w_ADMIN), .val (.ref b97), .val (.ref b103), .val (.int (0 : Int32)), .val (.int (0 : Int32)), .val (.int (0 : Int32))] [(.int (0 : Int32))])
        refine GoH.st (fun t k => XS.iload X106.here hx rfl (hb hby at_257) rfl  k) ?_
        show GoH _ _ _ _ _ _ _ _ _ _  T106 (mkF m 259 #[.val (.int p1), .val (.int p2), .val (.int p3), .val (.int p4), .val (.int (1 : Int32)), .val (.int (0 : Int32)), .val (.int f6), .val (.int (0 : Int32)), .val (.ref b5), .val (.ref b8), .val (.ref b13), .val (.ref b91), .val .null, .val (.ref w_ADMIN), .val (.ref b97), .val (.ref b103), .val (.int (0 : Int32)), .val (.int (0 : Int32)), .val (.int (0 : Int32))] [(.int (0 : Int32)), (.int (0 : Int32))])
        refine GoH.st (fun t k => XS.icmpNo X106.here hx rfl (hb hby at_259) rfl (teq (rfl : (0 : Int32) = (0 : Int32))).2 k) ?_
        show GoH _ _ _ _ _ _ _ _ _ _  T106 (mkF m 262 #[.val (.int p1), .val (.int p2), .val (.int p3), .val (.int p4), .val (.int (1 : Int32)), .val (.int (0 : Int32)), .val (.int f6), .val (.int (0 : Int32)), .val (.ref b5), .val (.ref b8), .val (.ref b13), .val (.ref b91), .val .null, .val (.ref w_ADMIN), .val (.ref b97), .val (.ref b103), .val (.int (0 : Int32)), .val (.int (0 : Int32)), .val (.int (0 : Int32))] [])
        refine GoH.st (fun t k => XS.iconst X106.here hx rfl (hb hby at_262) k) ?_
        show GoH _ _ _ _ _ _ _ _ _ _  T106 (mkF m 263 #[.val (.int p1), .val (.int p2), .val (.int p3), .val (.int p4), .val (.int (1 : Int32)), .val (.int (0 : Int32)), .val (.int f6), .val (.int (0 : Int32)), .val (.ref b5), .val (.ref b8), .val (.ref b13), .val (.ref b91), .val .null, .val (.ref w_ADMIN), .val (.ref b97), .val (.ref b103), .val (.int (0 : Int32)), .val (.int (0 : Int32)), .val (.int (0 : Int32))] [(.int (1 : Int32))])
        refine GoH.st (fun t k => XS.goto X106.here hx rfl (pc0 := 263) (pc' := 267) rfl (hb hby at_263) (by decide) (by decide) k) ?_
        show GoH _ _ _ _ _ _ _ _ _ _  T106 (mkF m 267 #[.val (.int p1), .val (.int p2), .val (.int p3), .val (.int p4), .val (.int (1 : Int32)), .val (.int (0 : Int32)), .val (.int f6), .val (.int (0 : Int32)), .val (.ref b5), .val (.ref b8), .val (.ref b13), .val (.ref b91), .val .null, .val (.ref w_ADMIN), .val (.ref b97), .val (.ref b103), .val (.int (0 : Int32)), .val (.int (0 : Int32)), .val (.int (0 : Int32))] [(.int (1 : Int32))])
        refine GoH.retN X106 hS hk e106q hZ hEL HH RR hlk hx (t := .boolean) (z' := (1 : Int32)) Bd.returns (by simp) (hb hby at_267) (by decide) (by decide) rfl ?_
        show Q_rm0 Z _ _ _ _ _ _ _ h0 n0 _ T106.heap _
        rw [e106q]
        exact ⟨rfl, N106⟩
      · rw [sp95]
        show GoH _ _ _ _ _ _ _ _ _ _  T93 (mkF m 154 #[.val (.int p1), .val (.int p2), .val (.int p3), .val (.int p4), .val (.int (1 : Int32)), .val (.int (0 : Int32)), .val (.int f6), .val (.int (1 : Int32)), .val (.ref b5), .val (.ref b8), .val (.ref b13), .val (.ref b91), .val .null, .unset, .unset, .unset, .unset, .unset, .unset] [])
        refine GoH.st (fun t k => XS.iload X93.here hx rfl (hb hby at_154) rfl  k) ?_
        show GoH _ _ _ _ _ _ _ _ _ _  T93 (mkF m 156 #[.val (.int p1), .val (.int p2), .val (.int p3), .val (.int p4), .val (.int (1 : Int32)), .val (.int (0 : Int32)), .val (.int f6), .val (.int (1 : Int32)), .val (.ref b5), .val (.ref b8), .val (.ref b13), .val (.ref b91), .val .null, .unset, .unset, .unset, .unset, .unset, .unset] [(.int (1 : Int32))])
        refine GoH.st (fun t k => XS.ifNo X93.here hx rfl (hb hby at_156) rfl ((if0 _ _).trans (feq (by decide : ¬ ((1 : Int32) = (0 : Int32)))).1) k) ?_
        show GoH _ _ _ _ _ _ _ _ _ _  T93 (mkF m 159 #[.val (.int p1), .val (.int p2), .val (.int p3), .val (.int p4), .val (.int (1 : Int32)), .val (.int (0 : Int32)), .val (.int f6), .val (.int (1 : Int32)), .val (.ref b5), .val (.ref b8), .val (.ref b13), .val (.ref b91), .val .null, .unset, .unset, .unset, .unset, .unset, .unset] [])
        obtain ⟨T107, X107, e107, st107⟩ := getS2 X93 hx hZ hown (host := "") (Or.inl (hw _ (List.mem_of_getElem? (i := 100) rfl))) Via.refl rfl (S_USER.ext O.2) (g := (mkF m 159 #[.val (.int p1), .val (.int p2), .val (.int p3), .val (.int p4), .val (.int (1 : Int32)), .val (.int (0 : Int32)), .val (.int f6), .val (.int (1 : Int32)), .val (.ref b5), .val (.ref b8), .val (.ref b13), .val (.ref b91), .val .null, .unset, .unset, .unset, .unset, .unset, .unset] [])) rfl (hb hby at_159)
        refine GoH.st st107 ?_
        show GoH _ _ _ _ _ _ _ _ _ _  T107 (mkF m 162 #[.val (.int p1), .val (.int p2), .val (.int p3), .val (.int p4), .val (.int (1 : Int32)), .val (.int (0 : Int32)), .val (.int f6), .val (.int (1 : Int32)), .val (.ref b5), .val (.ref b8), .val (.ref b13), .val (.ref b91), .val .null, .unset, .unset, .unset, .unset, .unset, .unset] [(.ref w_USER)])
        refine GoH.st (fun t k => XS.goto X107.here hx rfl (pc0 := 162) (pc' := 168) rfl (hb hby at_162) (by decide) (by decide) k) ?_
        show GoH _ _ _ _ _ _ _ _ _ _  T107 (mkF m 168 #[.val (.int p1), .val (.int p2), .val (.int p3), .val (.int p4), .val (.int (1 : Int32)), .val (.int (0 : Int32)), .val (.int f6), .val (.int (1 : Int32)), .val (.ref b5), .val (.ref b8), .val (.ref b13), .val (.ref b91), .val .null, .unset, .unset, .unset, .unset, .unset, .unset] [(.ref w_USER)])
        refine GoH.st (fun t k => XS.astore X107.here hx rfl (hb hby at_168) rfl rfl (l' := #[.val (.int p1), .val (.int p2), .val (.int p3), .val (.int p4), .val (.int (1 : Int32)), .val (.int (0 : Int32)), .val (.int f6), .val (.int (1 : Int32)), .val (.ref b5), .val (.ref b8), .val (.ref b13), .val (.ref b91), .val .null, .val (.ref w_USER), .unset, .unset, .unset, .unset, .unset]) rfl k) ?_
        show GoH _ _ _ _ _ _ _ _ _ _  T107 (mkF m 170 #[.val (.int p1), .val (.int p2), .val (.int p3), .val (.int p4), .val (.int (1 : Int32)), .val (.int (0 : Int32)), .val (.int f6), .val (.int (1 : Int32)), .val (.ref b5), .val (.ref b8), .val (.ref b13), .val (.ref b91), .val .null, .val (.ref w_USER), .unset, .unset, .unset, .unset, .unset] [])
        obtain ⟨T108, h108, X108, e108, E108, A108, D108, -, st108⟩ := newO X107 hx hZ hown (hw _ (List.mem_of_getElem? (i := 33) rfl)) (hw _ (List.mem_of_getElem? (i := 34) rfl)) (hw _ (List.mem_of_getElem? (i := 35) rfl)) e107 (g := (mkF m 170 #[.val (.int p1), .val (.int p2), .val (.int p3), .val (.int p4), .val (.int (1 : Int32)), .val (.int (0 : Int32)), .val (.int f6), .val (.int (1 : Int32)), .val (.ref b5), .val (.ref b8), .val (.ref b13), .val (.ref b91), .val .null, .val (.ref w_USER), .unset, .unset, .unset, .unset, .unset] [])) rfl (hb hby at_170) (by decide) (by decide)
        obtain ⟨b108, g108⟩ : ∃ z, z = T93.heap.size := ⟨_, rfl⟩
        rw [← g108] at A108 D108 st108
        refine GoH.st st108 ?_
        have g_b108 : n0 ≤ b108 := by rw [g108]; exact own_le O
        have Sf_b108 : Safe Z EL s.vm T93.heap b108 := Safe.new (Nat.le_of_eq g108.symm)
        have sz_b108 : h0.size ≤ b108 := by rw [g108]; exact KK.1
        have ne_b5_b108 : b5 ≠ b108 := Nat.ne_of_lt (by rw [g108]; exact V_b5.lt)
        have ne_b8_b108 : b8 ≠ b108 := Nat.ne_of_lt (by rw [g108]; exact V_b8.lt)
        have ne_b13_b108 : b13 ≠ b108 := Nat.ne_of_lt (by rw [g108]; exact V_b13.lt)
        have V_b5 := V_b5.ext E108
        have V_b8 := V_b8.ext E108
        have V_b13 := V_b13.ext E108
        have Sf_b5 := Safe.ext E108 HH Sf_b5
        have Sf_b8 := Safe.ext E108 HH Sf_b8
        have Sf_b13 := Safe.ext E108 HH Sf_b13
        have Sf_b108 := Safe.ext E108 HH Sf_b108
        have RR := RR.trans (CHr.ext E108 HH)
        have HH := HH.ext E108
        have hk := Nat.le_trans hk E108.1
        have O := O.ext E108
        have KK := KK.ext E108
        have E_b108 := A108
        have F_id_b108 : Fld Z h108 b108 "com/example/wellness_on_record/wellnessonrecord/apps/App" "id" "Ljava/lang/String;" .null := D108 (Or.inr (hw _ (List.mem_of_getElem? (i := 52) rfl))) (ty := (.object "java/lang/String")) (by decide)
        have F_name_b108 : Fld Z h108 b108 "com/example/wellness_on_record/wellnessonrecord/apps/App" "name" "Ljava/lang/String;" .null := D108 (Or.inr (hw _ (List.mem_of_getElem? (i := 54) rfl))) (ty := (.object "java/lang/String")) (by decide)
        have F_kind_b108 : Fld Z h108 b108 "com/example/wellness_on_record/wellnessonrecord/apps/App" "kind" "Lcom/example/wellness_on_record/wellnessonrecord/apps/App$Kind;" .null := D108 (Or.inr (hw _ (List.mem_of_getElem? (i := 56) rfl))) (ty := (.object "com/example/wellness_on_record/wellnessonrecord/apps/App$Kind")) (by decide)
        have F_consumerKey_b108 : Fld Z h108 b108 "com/example/wellness_on_record/wellnessonrecord/apps/App" "consumerKey" "Ljava/lang/String;" .null := D108 (Or.inr (hw _ (List.mem_of_getElem? (i := 58) rfl))) (ty := (.object "java/lang/String")) (by decide)
        have F_consumerSecret_b108 : Fld Z h108 b108 "com/example/wellness_on_record/wellnessonrecord/apps/App" "consumerSecret" "Ljava/lang/String;" .null := D108 (Or.inr (hw _ (List.mem_of_getElem? (i := 60) rfl))) (ty := (.object "java/lang/String")) (by decide)
        have F_autonomous_b108 : Fld Z h108 b108 "com/example/wellness_on_record/wellnessonrecord/apps/App" "autonomous" "Z" (.int (0 : Int32)) := D108 (Or.inr (hw _ (List.mem_of_getElem? (i := 62) rfl))) (ty := .boolean) (by decide)
        have F_autonomousReason_b108 : Fld Z h108 b108 "com/example/wellness_on_record/wellnessonrecord/apps/App" "autonomousReason" "Ljava/lang/String;" .null := D108 (Or.inr (hw _ (List.mem_of_getElem? (i := 64) rfl))) (ty := (.object "java/lang/String")) (by decide)
        have F_hasUi_b108 : Fld Z h108 b108 "com/example/wellness_on_record/wellnessonrecord/apps/App" "hasUi" "Z" (.int (0 : Int32)) := D108 (Or.inr (hw _ (List.mem_of_getElem? (i := 66) rfl))) (ty := .boolean) (by decide)
        have F_callbackUrl_b108 : Fld Z h108 b108 "com/example/wellness_on_record/wellnessonrecord/apps/App" "callbackUrl" "Ljava/lang/String;" .null := D108 (Or.inr (hw _ (List.mem_of_getElem? (i := 68) rfl))) (ty := (.object "java/lang/String")) (by decide)
        have F_startUrlTemplate_b108 : Fld Z h108 b108 "com/example/wellness_on_record/wellnessonrecord/apps/App" "startUrlTemplate" "Ljava/lang/String;" .null := D108 (Or.inr (hw _ (List.mem_of_getElem? (i := 70) rfl))) (ty := (.object "java/lang/String")) (by decide)
        have F_frameable_b108 : Fld Z h108 b108 "com/example/wellness_on_record/wellnessonrecord/apps/App" "frameable" "Z" (.int (0 : Int32)) := D108 (Or.inr (hw _ (List.mem_of_getElem? (i := 72) rfl))) (ty := .boolean) (by decide)
        show GoH _ _ _ _ _ _ _ _ _ _  T108 (mkF m 173 #[.val (.int p1), .val (.int p2), .val (.int p3), .val (.int p4), .val (.int (1 : Int32)), .val (.int (0 : Int32)), .val (.int f6), .val (.int (1 : Int32)), .val (.ref b5), .val (.ref b8), .val (.ref b13), .val (.ref b91), .val .null, .val (.ref w_USER), .unset, .unset, .unset, .unset, .unset] [(.ref b108)])
        refine GoH.st (fun t k => XS.dup X108.here hx rfl (hb hby at_173) rfl rfl k) ?_
        show GoH _ _ _ _ _ _ _ _ _ _  T108 (mkF m 174 #[.val (.int p1), .val (.int p2), .val (.int p3), .val (.int p4), .val (.int (1 : Int32)), .val (.int (0 : Int32)), .val (.int f6), .val (.int (1 : Int32)), .val (.ref b5), .val (.ref b8), .val (.ref b13), .val (.ref b91), .val .null, .val (.ref w_USER), .unset, .unset, .unset, .unset, .unset] [(.ref b108), (.ref b108)])
        obtain ⟨sa109, T109, h109, kk109, sb109, kb109, X109, e109, E109, hS109, hk109, hZ109, ho109, E_sa109, F_coder_sa109, F_value_sa109, V_sb109, la109, lb109, CR109, Lt109, ns109, st109⟩ := ldcCH X108 hx hZ hown (hw _ (List.mem_of_getElem? (i := 36) rfl)) wS e108 hS hk hEL (List.mem_of_getElem? (i := 0) rfl) HH (vs := [(.int (105 : Int32)), (.int (100 : Int32))]) (z := 2) ⟨by decide, by decide⟩ (by decide) rfl (g := (mkF m 174 #[.val (.int p1), .val (.int p2), .val (.int p3), .val (.int p4), .val (.int (1 : Int32)), .val (.int (0 : Int32)), .val (.int f6), .val (.int (1 : Int32)), .val (.ref b5), .val (.ref b8), .val (.ref b13), .val (.ref b91), .val .null, .val (.ref w_USER), .unset, .unset, .unset, .unset, .unset] [(.ref b108), (.ref b108)])) rfl (hb hby at_174) (n := 8) (by decide) (by decide) (by decide) (by decide)
        refine GoH.st st109 ?_
        have Sf_b5 := CHr.safe CR109 V_b5.lt Sf_b5
        have Sf_b8 := CHr.safe CR109 V_b8.lt Sf_b8
        have Sf_b13 := CHr.safe CR109 V_b13.lt Sf_b13
        have Sf_b108 := CHr.safe CR109 E_b108.lt Sf_b108
        have V_b5 := V_b5.ext E109
        have V_b8 := V_b8.ext E109
        have V_b13 := V_b13.ext E109
        have E_b108 := E_b108.ext E109
        have F_id_b108 := F_id_b108.ext E109
        have F_name_b108 := F_name_b108.ext E109
        have F_kind_b108 := F_kind_b108.ext E109
        have F_consumerKey_b108 := F_consumerKey_b108.ext E109
        have F_consumerSecret_b108 := F_consumerSecret_b108.ext E109
        have F_autonomous_b108 := F_autonomous_b108.ext E109
        have F_autonomousReason_b108 := F_autonomousReason_b108.ext E109
        have F_hasUi_b108 := F_hasUi_b108.ext E109
        have F_callbackUrl_b108 := F_callbackUrl_b108.ext E109
        have F_startUrlTemplate_b108 := F_startUrlTemplate_b108.ext E109
        have F_frameable_b108 := F_frameable_b108.ext E109
        have O := O.ext E109
        have KK := KK.ext E109
        have RR := RR.trans CR109
        have HH := CR109.1
        have hS := hS109
        have hk := hk109
        have hZ := hZ109
        have hown := ho109
        show GoH _ _ _ _ _ _ _ _ _ _  T109 (mkF m 176 #[.val (.int p1), .val (.int p2), .val (.int p3), .val (.int p4), .val (.int (1 : Int32)), .val (.int (0 : Int32)), .val (.int f6), .val (.int (1 : Int32)), .val (.ref b5), .val (.ref b8), .val (.ref b13), .val (.ref b91), .val .null, .val (.ref w_USER), .unset, .unset, .unset, .unset, .unset] [(.ref sa109), (.ref b108), (.ref b108)])
        obtain ⟨sa110, T110, h110, kk110, sb110, kb110, X110, e110, E110, hS110, hk110, hZ110, ho110, E_sa110, F_coder_sa110, F_value_sa110, V_sb110, la110, lb110, CR110, Lt110, ns110, st110⟩ := ldcCH X109 hx hZ hown (hw _ (List.mem_of_getElem? (i := 39) rfl)) wS e109 hS hk hEL (List.mem_of_getElem? (i := 1) rfl) HH (vs := [(.int (110 : Int32)), (.int (97 : Int32)), (.int (109 : Int32)), (.int (101 : Int32))]) (z := 4) ⟨by decide, by decide⟩ (by decide) rfl (g := (mkF m 176 #[.val (.int p1), .val (.int p2), .val (.int p3), .val (.int p4), .val (.int (1 : Int32)), .val (.int (0 : Int32)), .val (.int f6), .val (.int (1 : Int32)), .val (.ref b5), .val (.ref b8), .val (.ref b13), .val (.ref b91), .val .null, .val (.ref w_USER), .unset, .unset, .unset, .unset, .unset] [(.ref sa109), (.ref b108), (.ref b108)])) rfl (hb hby at_176) (n := 16) (by decide) (by decide) (by decide) (by decide)
        refine GoH.st st110 ?_
        have Sf_b5 := CHr.safe CR110 V_b5.lt Sf_b5
        have Sf_b8 := CHr.safe CR110 V_b8.lt Sf_b8
        have Sf_b13 := CHr.safe CR110 V_b13.lt Sf_b13
        have Sf_b108 := CHr.safe CR110 E_b108.lt Sf_b108
        have V_b5 := V_b5.ext E110
        have V_b8 := V_b8.ext E110
        have V_b13 := V_b13.ext E110
        have E_b108 := E_b108.ext E110
        have F_id_b108 := F_id_b108.ext E110
        have F_name_b108 := F_name_b108.ext E110
        have F_kind_b108 := F_kind_b108.ext E110
        have F_consumerKey_b108 := F_consumerKey_b108.ext E110
        have F_consumerSecret_b108 := F_consumerSecret_b108.ext E110
        have F_autonomous_b108 := F_autonomous_b108.ext E110
        have F_autonomousReason_b108 := F_autonomousReason_b108.ext E110
        have F_hasUi_b108 := F_hasUi_b108.ext E110
        have F_callbackUrl_b108 := F_callbackUrl_b108.ext E110
        have F_startUrlTemplate_b108 := F_startUrlTemplate_b108.ext E110
        have F_frameable_b108 := F_frameable_b108.ext E110
        have O := O.ext E110
        have KK := KK.ext E110
        have RR := RR.trans CR110
        have HH := CR110.1
        have hS := hS110
        have hk := hk110
        have hZ := hZ110
        have hown := ho110
        show GoH _ _ _ _ _ _ _ _ _ _  T110 (mkF m 178 #[.val (.int p1), .val (.int p2), .val (.int p3), .val (.int p4), .val (.int (1 : Int32)), .val (.int (0 : Int32)), .val (.int f6), .val (.int (1 : Int32)), .val (.ref b5), .val (.ref b8), .val (.ref b13), .val (.ref b91), .val .null, .val (.ref w_USER), .unset, .unset, .unset, .unset, .unset] [(.ref sa110), (.ref sa109), (.ref b108), (.ref b108)])
        refine GoH.st (fun t k => XS.aload X110.here hx rfl (hb hby at_178) rfl rfl  k) ?_
        show GoH _ _ _ _ _ _ _ _ _ _  T110 (mkF m 180 #[.val (.int p1), .val (.int p2), .val (.int p3), .val (.int p4), .val (.int (1 : Int32)), .val (.int (0 : Int32)), .val (.int f6), .val (.int (1 : Int32)), .val (.ref b5), .val (.ref b8), .val (.ref b13), .val (.ref b91), .val .null, .val (.ref w_USER), .unset, .unset, .unset, .unset, .unset] [(.ref w_USER), (.ref sa110), (.ref sa109), (.ref b108), (.ref b108)])
        obtain ⟨sa111, T111, h111, kk111, sb111, kb111, X111, e111, E111, hS111, hk111, hZ111, ho111, E_sa111, F_coder_sa111, F_value_sa111, V_sb111, la111, lb111, CR111, Lt111, ns111, st111⟩ := ldcCH X110 hx hZ hown (hw _ (List.mem_of_getElem? (i := 40) rfl)) wS e110 hS hk hEL (List.mem_of_getElem? (i := 2) rfl) HH (vs := [(.int (107 : Int32)), (.int (101 : Int32)), (.int (121 : Int32))]) (z := 3) ⟨by decide, by decide⟩ (by decide) rfl (g := (mkF m 180 #[.val (.int p1), .val (.int p2), .val (.int p3), .val (.int p4), .val (.int (1 : Int32)), .val (.int (0 : Int32)), .val (.int f6), .val (.int (1 : Int32)), .val (.ref b5), .val (.ref b8), .val (.ref b13), .val (.ref b91), .val .null, .val (.ref w_USER), .unset, .unset, .unset, .unset, .unset] [(.ref w_USER), (.ref sa110), (.ref sa109), (.ref b108), (.ref b108)])) rfl (hb hby at_180) (n := 12) (by decide) (by decide) (by decide) (by decide)
        refine GoH.st st111 ?_
        have Sf_b5 := CHr.safe CR111 V_b5.lt Sf_b5
        have Sf_b8 := CHr.safe CR111 V_b8.lt Sf_b8
        have Sf_b13 := CHr.safe CR111 V_b13.lt Sf_b13
        have Sf_b108 := CHr.safe CR111 E_b108.lt Sf_b108
        have V_b5 := V_b5.ext E111
        have V_b8 := V_b8.ext E111
        have V_b13 := V_b13.ext E111
        have E_b108 := E_b108.ext E111
        have F_id_b108 := F_id_b108.ext E111
        have F_name_b108 := F_name_b108.ext E111
        have F_kind_b108 := F_kind_b108.ext E111
        have F_consumerKey_b108 := F_consumerKey_b108.ext E111
        have F_consumerSecret_b108 := F_consumerSecret_b108.ext E111
        have F_autonomous_b108 := F_autonomous_b108.ext E111
        have F_autonomousReason_b108 := F_autonomousReason_b108.ext E111
        have F_hasUi_b108 := F_hasUi_b108.ext E111
        have F_callbackUrl_b108 := F_callbackUrl_b108.ext E111
        have F_startUrlTemplate_b108 := F_startUrlTemplate_b108.ext E111
        have F_frameable_b108 := F_frameable_b108.ext E111
        have O := O.ext E111
        have KK := KK.ext E111
        have RR := RR.trans CR111
        have HH := CR111.1
        have hS := hS111
        have hk := hk111
        have hZ := hZ111
        have hown := ho111
        show GoH _ _ _ _ _ _ _ _ _ _  T111 (mkF m 182 #[.val (.int p1), .val (.int p2), .val (.int p3), .val (.int p4), .val (.int (1 : Int32)), .val (.int (0 : Int32)), .val (.int f6), .val (.int (1 : Int32)), .val (.ref b5), .val (.ref b8), .val (.ref b13), .val (.ref b91), .val .null, .val (.ref w_USER), .unset, .unset, .unset, .unset, .unset] [(.ref sa111), (.ref w_USER), (.ref sa110), (.ref sa109), (.ref b108), (.ref b108)])
        obtain ⟨sa112, T112, h112, kk112, sb112, kb112, X112, e112, E112, hS112, hk112, hZ112, ho112, E_sa112, F_coder_sa112, F_value_sa112, V_sb112, la112, lb112, CR112, Lt112, ns112, st112⟩ := ldcCH X111 hx hZ hown (hw _ (List.mem_of_getElem? (i := 41) rfl)) wS e111 hS hk hEL (List.mem_of_getElem? (i := 3) rfl) HH (vs := [(.int (115 : Int32)), (.int (101 : Int32)), (.int (99 : Int32)), (.int (114 : Int32)), (.int (101 : Int32)), (.int (116 : Int32))]) (z := 6) ⟨by decide, by decide⟩ (by decide) rfl (g := (mkF m 182 #[.val (.int p1), .val (.int p2), .val (.int p3), .val (.int p4), .val (.int (1 : Int32)), .val (.int (0 : Int32)), .val (.int f6), .val (.int (1 : Int32)), .val (.ref b5), .val (.ref b8), .val (.ref b13), .val (.ref b91), .val .null, .val (.ref w_USER), .unset, .unset, .unset, .unset, .unset] [(.ref sa111), (.ref w_USER), (.ref sa110), (.ref sa109), (.ref b108), (.ref b108)])) rfl (hb hby at_182) (n := 24) (by decide) (by decide) (by decide) (by decide)
        refine GoH.st st112 ?_
        have Sf_b5 := CHr.safe CR112 V_b5.lt Sf_b5
        have Sf_b8 := CHr.safe CR112 V_b8.lt Sf_b8
        have Sf_b13 := CHr.safe CR112 V_b13.lt Sf_b13
        have Sf_b108 := CHr.safe CR112 E_b108.lt Sf_b108
        have V_b5 := V_b5.ext E112
        have V_b8 := V_b8.ext E112
        have V_b13 := V_b13.ext E112
        have E_b108 := E_b108.ext E112
        have F_id_b108 := F_id_b108.ext E112
        have F_name_b108 := F_name_b108.ext E112
        have F_kind_b108 := F_kind_b108.ext E112
        have F_consumerKey_b108 := F_consumerKey_b108.ext E112
        have F_consumerSecret_b108 := F_consumerSecret_b108.ext E112
        have F_autonomous_b108 := F_autonomous_b108.ext E112
        have F_autonomousReason_b108 := F_autonomousReason_b108.ext E112
        have F_hasUi_b108 := F_hasUi_b108.ext E112
        have F_callbackUrl_b108 := F_callbackUrl_b108.ext E112
        have F_startUrlTemplate_b108 := F_startUrlTemplate_b108.ext E112
        have F_frameable_b108 := F_frameable_b108.ext E112
        have O := O.ext E112
        have KK := KK.ext E112
        have RR := RR.trans CR112
        have HH := CR112.1
        have hS := hS112
        have hk := hk112
        have hZ := hZ112
        have hown := ho112
        show GoH _ _ _ _ _ _ _ _ _ _  T112 (mkF m 184 #[.val (.int p1), .val (.int p2), .val (.int p3), .val (.int p4), .val (.int (1 : Int32)), .val (.int (0 : Int32)), .val (.int f6), .val (.int (1 : Int32)), .val (.ref b5), .val (.ref b8), .val (.ref b13), .val (.ref b91), .val .null, .val (.ref w_USER), .unset, .unset, .unset, .unset, .unset] [(.ref sa112), (.ref sa111), (.ref w_USER), (.ref sa110), (.ref sa109), (.ref b108), (.ref b108)])
        refine GoH.st (fun t k => XS.iconst X112.here hx rfl (hb hby at_184) k) ?_
        show GoH _ _ _ _ _ _ _ _ _ _  T112 (mkF m 185 #[.val (.int p1), .val (.int p2), .val (.int p3), .val (.int p4), .val (.int (1 : Int32)), .val (.int (0 : Int32)), .val (.int f6), .val (.int (1 : Int32)), .val (.ref b5), .val (.ref b8), .val (.ref b13), .val (.ref b91), .val .null, .val (.ref w_USER), .unset, .unset, .unset, .unset, .unset] [(.int (0 : Int32)), (.ref sa112), (.ref sa111), (.ref w_USER), (.ref sa110), (.ref sa109), (.ref b108), (.ref b108)])
        refine GoH.st (fun t k => XS.aconstNull X112.here hx rfl (hb hby at_185) k) ?_
        show GoH _ _ _ _ _ _ _ _ _ _  T112 (mkF m 186 #[.val (.int p1), .val (.int p2), .val (.int p3), .val (.int p4), .val (.int (1 : Int32)), .val (.int (0 : Int32)), .val (.int f6), .val (.int (1 : Int32)), .val (.ref b5), .val (.ref b8), .val (.ref b13), .val (.ref b91), .val .null, .val (.ref w_USER), .unset, .unset, .unset, .unset, .unset] [.null, (.int (0 : Int32)), (.ref sa112), (.ref sa111), (.ref w_USER), (.ref sa110), (.ref sa109), (.ref b108), (.ref b108)])
        refine GoH.st (fun t k => XS.iconst X112.here hx rfl (hb hby at_186) k) ?_
        show GoH _ _ _ _ _ _ _ _ _ _  T112 (mkF m 187 #[.val (.int p1), .val (.int p2), .val (.int p3), .val (.int p4), .val (.int (1 : Int32)), .val (.int (0 : Int32)), .val (.int f6), .val (.int (1 : Int32)), .val (.ref b5), .val (.ref b8), .val (.ref b13), .val (.ref b91), .val .null, .val (.ref w_USER), .unset, .unset, .unset, .unset, .unset] [(.int (0 : Int32)), .null, (.int (0 : Int32)), (.ref sa112), (.ref sa111), (.ref w_USER), (.ref sa110), (.ref sa109), (.ref b108), (.ref b108)])
        refine GoH.st (fun t k => XS.aconstNull X112.here hx rfl (hb hby at_187) k) ?_
        show GoH _ _ _ _ _ _ _ _ _ _  T112 (mkF m 188 #[.val (.int p1), .val (.int p2), .val (.int p3), .val (.int p4), .val (.int (1 : Int32)), .val (.int (0 : Int32)), .val (.int f6), .val (.int (1 : Int32)), .val (.ref b5), .val (.ref b8), .val (.ref b13), .val (.ref b91), .val .null, .val (.ref w_USER), .unset, .unset, .unset, .unset, .unset] [.null, (.int (0 : Int32)), .null, (.int (0 : Int32)), (.ref sa112), (.ref sa111), (.ref w_USER), (.ref sa110), (.ref sa109), (.ref b108), (.ref b108)])
        refine GoH.st (fun t k => XS.aconstNull X112.here hx rfl (hb hby at_188) k) ?_
        show GoH _ _ _ _ _ _ _ _ _ _  T112 (mkF m 189 #[.val (.int p1), .val (.int p2), .val (.int p3), .val (.int p4), .val (.int (1 : Int32)), .val (.int (0 : Int32)), .val (.int f6), .val (.int (1 : Int32)), .val (.ref b5), .val (.ref b8), .val (.ref b13), .val (.ref b91), .val .null, .val (.ref w_USER), .unset, .unset, .unset, .unset, .unset] [.null, .null, (.int (0 : Int32)), .null, (.int (0 : Int32)), (.ref sa112), (.ref sa111), (.ref w_USER), (.ref sa110), (.ref sa109), (.ref b108), (.ref b108)])
        refine GoH.st (fun t k => XS.iconst X112.here hx rfl (hb hby at_189) k) ?_
        show GoH _ _ _ _ _ _ _ _ _ _  T112 (mkF m 190 #[.val (.int p1), .val (.int p2), .val (.int p3), .val (.int p4), .val (.int (1 : Int32)), .val (.int (0 : Int32)), .val (.int f6), .val (.int (1 : Int32)), .val (.ref b5), .val (.ref b8), .val (.ref b13), .val (.ref b91), .val .null, .val (.ref w_USER), .unset, .unset, .unset, .unset, .unset] [(.int (0 : Int32)), .null, .null, (.int (0 : Int32)), .null, (.int (0 : Int32)), (.ref sa112), (.ref sa111), (.ref w_USER), (.ref sa110), (.ref sa109), (.ref b108), (.ref b108)])
        obtain ⟨_, _, ⟨T113, L113, k113, n113⟩, -, X113, ⟨Lc113, hQ113, l113, y113, z113⟩, st113⟩ := X112.specialBack hx (y := (⟨"com/example/wellness_on_record/wellnessonrecord/apps/App", "<init>", "(Ljava/lang/String;Ljava/lang/String;Lcom/example/wellness_on_record/wellnessonrecord/apps/App$Kind;Ljava/lang/String;Ljava/lang/String;ZLjava/lang/String;ZLjava/lang/String;Ljava/lang/String;Z)V"⟩ : MethodName)) rfl hown (mvT hZ (hw _ (List.mem_of_getElem? (i := 42) rfl))) (mvT hZ (hw _ (List.mem_of_getElem? (i := 43) rfl))) (mvT hZ (hw _ (List.mem_of_getElem? (i := 44) rfl))) (by decide) (backOf (W := 1) (rmA l Z a0 hw [] b108 sa109 sa110 w_USER sa111 sa112 h112 n0 O E_b108 F_id_b108 F_name_b108 F_kind_b108 F_consumerKey_b108 F_consumerSecret_b108 F_autonomous_b108 F_autonomousReason_b108 F_hasUi_b108 F_callbackUrl_b108 F_startUrlTemplate_b108 F_frameable_b108 g_b108) hZ (hw _ (List.mem_of_getElem? (i := 44) rfl)) (hw _ (List.mem_of_getElem? (i := 35) rfl)) (by decide) (by decide)) (g := (mkF m 190 #[.val (.int p1), .val (.int p2), .val (.int p3), .val (.int p4), .val (.int (1 : Int32)), .val (.int (0 : Int32)), .val (.int f6), .val (.int (1 : Int32)), .val (.ref b5), .val (.ref b8), .val (.ref b13), .val (.ref b91), .val .null, .val (.ref w_USER), .unset, .unset, .unset, .unset, .unset] [(.int (0 : Int32)), .null, .null, (.int (0 : Int32)), .null, (.int (0 : Int32)), (.ref sa112), (.ref sa111), (.ref w_USER), (.ref sa110), (.ref sa109), (.ref b108), (.ref b108)])) rfl (by rw [hml]; rfl) (Steps.refl _) (a := b108) (argsL := [(.ref sa109), (.ref sa110), (.ref w_USER), (.ref sa111), (.ref sa112), (.int (0 : Int32)), .null, (.int (0 : Int32)), .null, .null, (.int (0 : Int32))]) (rest := [(.ref b108)]) (lenOf pd__Ljava_lang_String_Ljava_lang_String_Lcom_example_wellness_on_record_wellnessonrecord_apps_App_Kind_Ljava_lang_String_Ljava_lang_String_ZLjava_lang_String_ZLjava_lang_String_Ljava_lang_String_Z_V rfl) rfl (by show 2 * 0 + _ ≤ _; exact Nat.le_of_eq rfl) (hb hby at_190) (fun _ _ => ⟨rfl, e112, (by decide : 14 + 0 ≤ _), (by decide : 95 + 0 ≤ _)⟩)
        dsimp only [Pt.U, Pt.locs, Pt.cells, Pt.slots] at X113 l113 y113 z113 st113 hQ113
        subst l113 y113 z113
        obtain ⟨rfl, N113q, K113q, Eq113, Fk113⟩ := hQ113
        have N113 := Fr.app N93 N113q
        refine GoH.tr st113 ?_
        have V_b5 := V_b5.keep K113q (ninS ne_b5_b108 nin0)
        have V_b8 := V_b8.keep K113q (ninS ne_b8_b108 nin0)
        have V_b13 := V_b13.keep K113q (ninS ne_b13_b108 nin0)
        have E_b108 := E_b108.keep K113q
        have sfw113 := (sfS Sf_b108 sf0)
        have Sf_b5 := Safe.keep K113q sfw113 HH Sf_b5
        have Sf_b8 := Safe.keep K113q sfw113 HH Sf_b8
        have Sf_b13 := Safe.keep K113q sfw113 HH Sf_b13
        have Sf_b108 := Safe.keep K113q sfw113 HH Sf_b108
        have RR := RR.trans (CHr.keep K113q sfw113 HH)
        have HH := HH.keep K113q sfw113
        have hk := Nat.le_trans hk K113q.1
        have O := O.keep K113q (allS g_b108 all0)
        have KK := KK.trans K113q (allS (Or.inr sz_b108) all0)
        have E_b108 := Eq113
        show GoH _ _ _ _ _ _ _ _ _ _  T113 (mkF m 193 #[.val (.int p1), .val (.int p2), .val (.int p3), .val (.int p4), .val (.int (1 : Int32)), .val (.int (0 : Int32)), .val (.int f6), .val (.int (1 : Int32)), .val (.ref b5), .val (.ref b8), .val (.ref b13), .val (.ref b91), .val .null, .val (.ref w_USER), .unset, .unset, .unset, .unset, .unset] [(.ref b108)])
        refine GoH.st (fun t k => XS.astore X113.here hx rfl (hb hby at_193) rfl rfl (l' := #[.val (.int p1), .val (.int p2), .val (.int p3), .val (.int p4), .val (.int (1 : Int32)), .val (.int (0 : Int32)), .val (.int f6), .val (.int (1 : Int32)), .val (.ref b5), .val (.ref b8), .val (.ref b13), .val (.ref b91), .val .null, .val (.ref w_USER), .val (.ref b108), .unset, .unset, .unset, .unset]) rfl k) ?_
        show GoH _ _ _ _ _ _ _ _ _ _  T113 (mkF m 195 #[.val (.int p1), .val (.int p2), .val (.int p3), .val (.int p4), .val (.int (1 : Int32)), .val (.int (0 : Int32)), .val (.int f6), .val (.int (1 : Int32)), .val (.ref b5), .val (.ref b8), .val (.ref b13), .val (.ref b91), .val .null, .val (.ref w_USER), .val (.ref b108), .unset, .unset, .unset, .unset] [])
        obtain ⟨T114, h114, X114, e114, E114, A114, D114, -, st114⟩ := newO X113 hx hZ hown (hw _ (List.mem_of_getElem? (i := 73) rfl)) (hw _ (List.mem_of_getElem? (i := 74) rfl)) (hw _ (List.mem_of_getElem? (i := 75) rfl)) rfl (g := (mkF m 195 #[.val (.int p1), .val (.int p2), .val (.int p3), .val (.int p4), .val (.int (1 : Int32)), .val (.int (0 : Int32)), .val (.int f6), .val (.int (1 : Int32)), .val (.ref b5), .val (.ref b8), .val (.ref b13), .val (.ref b91), .val .null, .val (.ref w_USER), .val (.ref b108), .unset, .unset, .unset, .unset] [])) rfl (hb hby at_195) (by decide) (by decide)
        obtain ⟨b114, g114⟩ : ∃ z, z = T113.heap.size := ⟨_, rfl⟩
        rw [← g114] at A114 D114 st114
        refine GoH.st st114 ?_
        have g_b114 : n0 ≤ b114 := by rw [g114]; exact own_le O
        have Sf_b114 : Safe Z EL T112.vm T113.heap b114 := Safe.new (Nat.le_of_eq g114.symm)
        have sz_b114 : h0.size ≤ b114 := by rw [g114]; exact KK.1
        have ne_b5_b114 : b5 ≠ b114 := Nat.ne_of_lt (by rw [g114]; exact V_b5.lt)
        have ne_b8_b114 : b8 ≠ b114 := Nat.ne_of_lt (by rw [g114]; exact V_b8.lt)
        have ne_b13_b114 : b13 ≠ b114 := Nat.ne_of_lt (by rw [g114]; exact V_b13.lt)
        have ne_b108_b114 : b108 ≠ b114 := Nat.ne_of_lt (by rw [g114]; exact E_b108.lt)
        have V_b5 := V_b5.ext E114
        have V_b8 := V_b8.ext E114
        have V_b13 := V_b13.ext E114
        have E_b108 := E_b108.ext E114
        have Fk113 := Fk113.ext E114
        have Sf_b5 := Safe.ext E114 HH Sf_b5
        have Sf_b8 := Safe.ext E114 HH Sf_b8
        have Sf_b13 := Safe.ext E114 HH Sf_b13
        have Sf_b108 := Safe.ext E114 HH Sf_b108
        have Sf_b114 := Safe.ext E114 HH Sf_b114
        have RR := RR.trans (CHr.ext E114 HH)
        have HH := HH.ext E114
        have hk := Nat.le_trans hk E114.1
        have O := O.ext E114
        have KK := KK.ext E114
        have E_b114 := A114
        have F_app_b114 : Fld Z h114 b114 "com/example/wellness_on_record/wellnessonrecord/oauth/Principal" "app" "Lcom/example/wellness_on_record/wellnessonrecord/apps/App;" .null := D114 (Or.inr (hw _ (List.mem_of_getElem? (i := 81) rfl))) (ty := (.object "com/example/wellness_on_record/wellnessonrecord/apps/App")) (by decide)
        have F_recordId_b114 : Fld Z h114 b114 "com/example/wellness_on_record/wellnessonrecord/oauth/Principal" "recordId" "Ljava/lang/String;" .null := D114 (Or.inr (hw _ (List.mem_of_getElem? (i := 83) rfl))) (ty := (.object "java/lang/String")) (by decide)
        have F_requestToken_b114 : Fld Z h114 b114 "com/example/wellness_on_record/wellnessonrecord/oauth/Principal" "requestToken" "Ljava/lang/String;" .null := D114 (Or.inr (hw _ (List.mem_of_getElem? (i := 85) rfl))) (ty := (.object "java/lang/String")) (by decide)
        show GoH _ _ _ _ _ _ _ _ _ _  T114 (mkF m 198 #[.val (.int p1), .val (.int p2), .val (.int p3), .val (.int p4), .val (.int (1 : Int32)), .val (.int (0 : Int32)), .val (.int f6), .val (.int (1 : Int32)), .val (.ref b5), .val (.ref b8), .val (.ref b13), .val (.ref b91), .val .null, .val (.ref w_USER), .val (.ref b108), .unset, .unset, .unset, .unset] [(.ref b114)])
        refine GoH.st (fun t k => XS.dup X114.here hx rfl (hb hby at_198) rfl rfl k) ?_
        show GoH _ _ _ _ _ _ _ _ _ _  T114 (mkF m 199 #[.val (.int p1), .val (.int p2), .val (.int p3), .val (.int p4), .val (.int (1 : Int32)), .val (.int (0 : Int32)), .val (.int f6), .val (.int (1 : Int32)), .val (.ref b5), .val (.ref b8), .val (.ref b13), .val (.ref b91), .val .null, .val (.ref w_USER), .val (.ref b108), .unset, .unset, .unset, .unset] [(.ref b114), (.ref b114)])
        refine GoH.st (fun t k => XS.aload X114.here hx rfl (hb hby at_199) rfl rfl  k) ?_
        show GoH _ _ _ _ _ _ _ _ _ _  T114 (mkF m 201 #[.val (.int p1), .val (.int p2), .val (.int p3), .val (.int p4), .val (.int (1 : Int32)), .val (.int (0 : Int32)), .val (.int f6), .val (.int (1 : Int32)), .val (.ref b5), .val (.ref b8), .val (.ref b13), .val (.ref b91), .val .null, .val (.ref w_USER), .val (.ref b108), .unset, .unset, .unset, .unset] [(.ref b108), (.ref b114), (.ref b114)])
        refine GoH.st (fun t k => XS.aload X114.here hx rfl (hb hby at_201) rfl rfl  k) ?_
        show GoH _ _ _ _ _ _ _ _ _ _  T114 (mkF m 203 #[.val (.int p1), .val (.int p2), .val (.int p3), .val (.int p4), .val (.int (1 : Int32)), .val (.int (0 : Int32)), .val (.int f6), .val (.int (1 : Int32)), .val (.ref b5), .val (.ref b8), .val (.ref b13), .val (.ref b91), .val .null, .val (.ref w_USER), .val (.ref b108), .unset, .unset, .unset, .unset] [(.ref b91), (.ref b108), (.ref b114), (.ref b114)])
        refine GoH.st (fun t k => XS.aload X114.here hx rfl (hb hby at_203) rfl rfl  k) ?_
        show GoH _ _ _ _ _ _ _ _ _ _  T114 (mkF m 205 #[.val (.int p1), .val (.int p2), .val (.int p3), .val (.int p4), .val (.int (1 : Int32)), .val (.int (0 : Int32)), .val (.int f6), .val (.int (1 : Int32)), .val (.ref b5), .val (.ref b8), .val (.ref b13), .val (.ref b91), .val .null, .val (.ref w_USER), .val (.ref b108), .unset, .unset, .unset, .unset] [.null, (.ref b91), (.ref b108), (.ref b114), (.ref b114)])
        obtain ⟨_, _, ⟨T115, L115, k115, n115⟩, -, X115, ⟨Lc115, hQ115, l115, y115, z115⟩, st115⟩ := X114.specialBack hx (y := (⟨"com/example/wellness_on_record/wellnessonrecord/oauth/Principal", "<init>", "(Lcom/example/wellness_on_record/wellnessonrecord/apps/App;Ljava/lang/String;Ljava/lang/String;)V"⟩ : MethodName)) rfl hown (mvT hZ (hw _ (List.mem_of_getElem? (i := 76) rfl))) (mvT hZ (hw _ (List.mem_of_getElem? (i := 77) rfl))) (mvT hZ (hw _ (List.mem_of_getElem? (i := 78) rfl))) (by decide) (backOf (W := 1) (rmP l Z a0 hw [] b114 b108 (.ref b91) .null h114 n0 O E_b114 F_app_b114 F_recordId_b114 F_requestToken_b114 g_b114 rfl rfl) hZ (hw _ (List.mem_of_getElem? (i := 78) rfl)) (hw _ (List.mem_of_getElem? (i := 75) rfl)) (by decide) (by decide)) (g := (mkF m 205 #[.val (.int p1), .val (.int p2), .val (.int p3), .val (.int p4), .val (.int (1 : Int32)), .val (.int (0 : Int32)), .val (.int f6), .val (.int (1 : Int32)), .val (.ref b5), .val (.ref b8), .val (.ref b13), .val (.ref b91), .val .null, .val (.ref w_USER), .val (.ref b108), .unset, .unset, .unset, .unset] [.null, (.ref b91), (.ref b108), (.ref b114), (.ref b114)])) rfl (by rw [hml]; rfl) (Steps.refl _) (a := b114) (argsL := [(.ref b108), (.ref b91), .null]) (rest := [(.ref b114)]) (lenOf pd__Lcom_example_wellness_on_record_wellnessonrecord_apps_App_Ljava_lang_String_Ljava_lang_String__V rfl) rfl (by show 2 * 0 + _ ≤ _; exact Nat.le_of_eq rfl) (hb hby at_205) (fun _ _ => ⟨rfl, e114, (by decide : 15 + 0 ≤ _), (by decide : 98 + 0 ≤ _)⟩)
        dsimp only [Pt.U, Pt.locs, Pt.cells, Pt.slots] at X115 l115 y115 z115 st115 hQ115
        subst l115 y115 z115
        obtain ⟨rfl, N115q, K115q, Eq115, Fa115, Fr115, Ft115⟩ := hQ115
        have N115 := Fr.app N113 N115q
        refine GoH.tr st115 ?_
        have V_b5 := V_b5.keep K115q (ninS ne_b5_b114 nin0)
        have V_b8 := V_b8.keep K115q (ninS ne_b8_b114 nin0)
        have V_b13 := V_b13.keep K115q (ninS ne_b13_b114 nin0)
        have E_b108 := E_b108.keep K115q
        have Fk113 := Fk113.keep K115q (ninS ne_b108_b114 nin0)
        have E_b114 := E_b114.keep K115q
        have sfw115 := (sfS Sf_b114 sf0)
        have Sf_b5 := Safe.keep K115q sfw115 HH Sf_b5
        have Sf_b8 := Safe.keep K115q sfw115 HH Sf_b8
        have Sf_b13 := Safe.keep K115q sfw115 HH Sf_b13
        have Sf_b108 := Safe.keep K115q sfw115 HH Sf_b108
        have Sf_b114 := Safe.keep K115q sfw115 HH Sf_b114
        have RR := RR.trans (CHr.keep K115q sfw115 HH)
        have HH := HH.keep K115q sfw115
        have hk := Nat.le_trans hk K115q.1
        have O := O.keep K115q (allS g_b114 all0)
        have KK := KK.trans K115q (allS (Or.inr sz_b114) all0)
        have E_b114 := Eq115
        show GoH _ _ _ _ _ _ _ _ _ _  T115 (mkF m 208 #[.val (.int p1), .val (.int p2), .val (.int p3), .val (.int p4), .val (.int (1 : Int32)), .val (.int (0 : Int32)), .val (.int f6), .val (.int (1 : Int32)), .val (.ref b5), .val (.ref b8), .val (.ref b13), .val (.ref b91), .val .null, .val (.ref w_USER), .val (.ref b108), .unset, .unset, .unset, .unset] [(.ref b114)])
        refine GoH.st (fun t k => XS.astore X115.here hx rfl (hb hby at_208) rfl rfl (l' := #[.val (.int p1), .val (.int p2), .val (.int p3), .val (.int p4), .val (.int (1 : Int32)), .val (.int (0 : Int32)), .val (.int f6), .val (.int (1 : Int32)), .val (.ref b5), .val (.ref b8), .val (.ref b13), .val (.ref b91), .val .null, .val (.ref w_USER), .val (.ref b108), .val (.ref b114), .unset, .unset, .unset]) rfl k) ?_
        show GoH _ _ _ _ _ _ _ _ _ _  T115 (mkF m 210 #[.val (.int p1), .val (.int p2), .val (.int p3), .val (.int p4), .val (.int (1 : Int32)), .val (.int (0 : Int32)), .val (.int f6), .val (.int (1 : Int32)), .val (.ref b5), .val (.ref b8), .val (.ref b13), .val (.ref b91), .val .null, .val (.ref w_USER), .val (.ref b108), .val (.ref b114), .unset, .unset, .unset] [])
        refine GoH.st (fun t k => XS.aload X115.here hx rfl (hb hby at_210) rfl rfl  k) ?_
        show GoH _ _ _ _ _ _ _ _ _ _  T115 (mkF m 212 #[.val (.int p1), .val (.int p2), .val (.int p3), .val (.int p4), .val (.int (1 : Int32)), .val (.int (0 : Int32)), .val (.int f6), .val (.int (1 : Int32)), .val (.ref b5), .val (.ref b8), .val (.ref b13), .val (.ref b91), .val .null, .val (.ref w_USER), .val (.ref b108), .val (.ref b114), .unset, .unset, .unset] [(.ref b114)])
        obtain ⟨cq116, kq116, q116a, q116b, q116c⟩ := isOf hZ rfl E_b114
        obtain ⟨_, _, ⟨T116, L116, k116, n116⟩, -, X116, ⟨Lc116, hQ116, l116, y116, z116⟩, st116⟩ := X115.virtualBack hx (y := (⟨"com/example/wellness_on_record/wellnessonrecord/oauth/Principal", "holdsRequestToken", "()Z"⟩ : MethodName)) (z := (⟨"com/example/wellness_on_record/wellnessonrecord/oauth/Principal", "holdsRequestToken", "()Z"⟩ : MethodName)) hown (mvT hZ (hw _ (List.mem_of_getElem? (i := 86) rfl))) (mvT hZ (hw _ (List.mem_of_getElem? (i := 87) rfl))) (notFace_of_selects (args := #[]) (mvT hZ (hw _ (List.mem_of_getElem? (i := 89) rfl)))) (mvT hZ (hw _ (List.mem_of_getElem? (i := 89) rfl))) (mvT hZ (hw _ (List.mem_of_getElem? (i := 88) rfl))) (by decide) (backOf (W := 0) (rmH l Z a0 hw [] b114 .null T115.heap n0 O Ft115 rfl) hZ (hw _ (List.mem_of_getElem? (i := 90) rfl)) (hw _ (List.mem_of_getElem? (i := 75) rfl)) (by decide) (by decide)) q116a q116c (g := (mkF m 212 #[.val (.int p1), .val (.int p2), .val (.int p3), .val (.int p4), .val (.int (1 : Int32)), .val (.int (0 : Int32)), .val (.int f6), .val (.int (1 : Int32)), .val (.ref b5), .val (.ref b8), .val (.ref b13), .val (.ref b91), .val .null, .val (.ref w_USER), .val (.ref b108), .val (.ref b114), .unset, .unset, .unset] [(.ref b114)])) rfl (by rw [hml]; rfl) (Steps.refl _) (argsL := []) (rest := []) (lenOf pd___Z rfl) rfl (by show 2 * 0 + _ ≤ _; exact Nat.le_of_eq rfl) (hb hby at_212) (fun _ _ => ⟨rfl, rfl, (by decide : 15 + 0 ≤ _), (by decide : 98 + 0 ≤ _)⟩)
        dsimp only [Pt.U, Pt.locs, Pt.cells, Pt.slots] at X116 l116 y116 z116 st116 hQ116
        subst l116 y116 z116
        obtain ⟨rfl, N116q, e116q⟩ := hQ116
        have N116 := Fr.app N115 N116q
        refine GoH.tr st116 ?_
        rw [show (if .null = Value.null then (0 : Int32) else 1) = (0 : Int32) from by simp]
        show GoH _ _ _ _ _ _ _ _ _ _  T116 (mkF m 215 #[.val (.int p1), .val (.int p2), .val (.int p3), .val (.int p4), .val (.int (1 : Int32)), .val (.int (0 : Int32)), .val (.int f6), .val (.int (1 : Int32)), .val (.ref b5), .val (.ref b8), .val (.ref b13), .val (.ref b91), .val .null, .val (.ref w_USER), .val (.ref b108), .val (.ref b114), .unset, .unset, .unset] [(.int (0 : Int32))])
        refine GoH.st (fun t k => XS.istore X116.here hx rfl (hb hby at_215) rfl (l' := #[.val (.int p1), .val (.int p2), .val (.int p3), .val (.int p4), .val (.int (1 : Int32)), .val (.int (0 : Int32)), .val (.int f6), .val (.int (1 : Int32)), .val (.ref b5), .val (.ref b8), .val (.ref b13), .val (.ref b91), .val .null, .val (.ref w_USER), .val (.ref b108), .val (.ref b114), .val (.int (0 : Int32)), .unset, .unset]) rfl k) ?_
        show GoH _ _ _ _ _ _ _ _ _ _  T116 (mkF m 217 #[.val (.int p1), .val (.int p2), .val (.int p3), .val (.int p4), .val (.int (1 : Int32)), .val (.int (0 : Int32)), .val (.int f6), .val (.int (1 : Int32)), .val (.ref b5), .val (.ref b8), .val (.ref b13), .val (.ref b91), .val .null, .val (.ref w_USER), .val (.ref b108), .val (.ref b114), .val (.int (0 : Int32)), .unset, .unset] [])
        refine GoH.st (fun t k => XS.iload X116.here hx rfl (hb hby at_217) rfl  k) ?_
        show GoH _ _ _ _ _ _ _ _ _ _  T116 (mkF m 219 #[.val (.int p1), .val (.int p2), .val (.int p3), .val (.int p4), .val (.int (1 : Int32)), .val (.int (0 : Int32)), .val (.int f6), .val (.int (1 : Int32)), .val (.ref b5), .val (.ref b8), .val (.ref b13), .val (.ref b91), .val .null, .val (.ref w_USER), .val (.ref b108), .val (.ref b114), .val (.int (0 : Int32)), .unset, .unset] [(.int (0 : Int32))])
        refine GoH.st (fun t k => XS.iload X116.here hx rfl (hb hby at_219) rfl  k) ?_
        show GoH _ _ _ _ _ _ _ _ _ _  T116 (mkF m 221 #[.val (.int p1), .val (.int p2), .val (.int p3), .val (.int p4), .val (.int (1 : Int32)), .val (.int (0 : Int32)), .val (.int f6), .val (.int (1 : Int32)), .val (.ref b5), .val (.ref b8), .val (.ref b13), .val (.ref b91), .val .null, .val (.ref w_USER), .val (.ref b108), .val (.ref b114), .val (.int (0 : Int32)), .unset, .unset] [(.int (0 : Int32)), (.int (0 : Int32))])
        refine GoH.st (fun t k => XS.icmpYes X116.here hx rfl (pc0 := 221) (pc' := 226) rfl (hb hby at_221) rfl (teq (rfl : (0 : Int32) = (0 : Int32))).1 (by decide) (by decide) k) ?_
        show GoH _ _ _ _ _ _ _ _ _ _  T116 (mkF m 226 #[.val (.int p1), .val (.int p2), .val (.int p3), .val (.int p4), .val (.int (1 : Int32)), .val (.int (0 : Int32)), .val (.int f6), .val (.int (1 : Int32)), .val (.ref b5), .val (.ref b8), .val (.ref b13), .val (.ref b91), .val .null, .val (.ref w_USER), .val (.ref b108), .val (.ref b114), .val (.int (0 : Int32)), .unset, .unset] [])
        refine GoH.st (fun t k => XS.aload X116.here hx rfl (hb hby at_226) rfl rfl  k) ?_
        show GoH _ _ _ _ _ _ _ _ _ _  T116 (mkF m 228 #[.val (.int p1), .val (.int p2), .val (.int p3), .val (.int p4), .val (.int (1 : Int32)), .val (.int (0 : Int32)), .val (.int f6), .val (.int (1 : Int32)), .val (.ref b5), .val (.ref b8), .val (.ref b13), .val (.ref b91), .val .null, .val (.ref w_USER), .val (.ref b108), .val (.ref b114), .val (.int (0 : Int32)), .unset, .unset] [(.ref b114)])
        obtain ⟨cq117, kq117, q117a, q117b, q117c⟩ := isOf hZ e116q E_b114
        obtain ⟨_, _, ⟨T117, L117, k117, n117⟩, -, X117, ⟨Lc117, hQ117, l117, y117, z117⟩, st117⟩ := X116.virtualBack hx (y := (⟨"com/example/wellness_on_record/wellnessonrecord/oauth/Principal", "isUserAppAlone", "()Z"⟩ : MethodName)) (z := (⟨"com/example/wellness_on_record/wellnessonrecord/oauth/Principal", "isUserAppAlone", "()Z"⟩ : MethodName)) hown (mvT hZ (hw _ (List.mem_of_getElem? (i := 91) rfl))) (mvT hZ (hw _ (List.mem_of_getElem? (i := 92) rfl))) (notFace_of_selects (args := #[]) (mvT hZ (hw _ (List.mem_of_getElem? (i := 94) rfl)))) (mvT hZ (hw _ (List.mem_of_getElem? (i := 94) rfl))) (mvT hZ (hw _ (List.mem_of_getElem? (i := 93) rfl))) (by decide) (backOf (W := 0) (rmU l Z a0 hw [] b114 b108 w_USER (.ref b91) .null w_USER T115.heap n0 O Fa115 Fr115 Ft115 rfl rfl Fk113 E_b114 E_b108 S_USER) hZ (hw _ (List.mem_of_getElem? (i := 95) rfl)) (hw _ (List.mem_of_getElem? (i := 75) rfl)) (by decide) (by decide)) q117a q117c (g := (mkF m 228 #[.val (.int p1), .val (.int p2), .val (.int p3), .val (.int p4), .val (.int (1 : Int32)), .val (.int (0 : Int32)), .val (.int f6), .val (.int (1 : Int32)), .val (.ref b5), .val (.ref b8), .val (.ref b13), .val (.ref b91), .val .null, .val (.ref w_USER), .val (.ref b108), .val (.ref b114), .val (.int (0 : Int32)), .unset, .unset] [(.ref b114)])) rfl (by rw [hml]; rfl) (Steps.refl _) (argsL := []) (rest := []) (lenOf pd___Z rfl) rfl (by show 2 * 0 + _ ≤ _; exact Nat.le_of_eq rfl) (hb hby at_228) (fun _ _ => ⟨rfl, e116q, (by decide : 15 + 0 ≤ _), (by decide : 98 + 0 ≤ _)⟩)
        dsimp only [Pt.U, Pt.locs, Pt.cells, Pt.slots] at X117 l117 y117 z117 st117 hQ117
        subst l117 y117 z117
        obtain ⟨rfl, N117q, e117q⟩ := hQ117
        have N117 := Fr.app N116 N117q
        refine GoH.tr st117 ?_
        rw [show (if w_USER = w_USER then (if (.ref b91) = Value.null then (if .null = Value.null then (1 : Int32) else 0) else 0) else 0) = (0 : Int32) from by simp [nAU]]
        show GoH _ _ _ _ _ _ _ _ _ _  T117 (mkF m 231 #[.val (.int p1), .val (.int p2), .val (.int p3), .val (.int p4), .val (.int (1 : Int32)), .val (.int (0 : Int32)), .val (.int f6), .val (.int (1 : Int32)), .val (.ref b5), .val (.ref b8), .val (.ref b13), .val (.ref b91), .val .null, .val (.ref w_USER), .val (.ref b108), .val (.ref b114), .val (.int (0 : Int32)), .unset, .unset] [(.int (0 : Int32))])
        refine GoH.st (fun t k => XS.istore X117.here hx rfl (hb hby at_231) rfl (l' := #[.val (.int p1), .val (.int p2), .val (.int p3), .val (.int p4), .val (.int (1 : Int32)), .val (.int (0 : Int32)), .val (.int f6), .val (.int (1 : Int32)), .val (.ref b5), .val (.ref b8), .val (.ref b13), .val (.ref b91), .val .null, .val (.ref w_USER), .val (.ref b108), .val (.ref b114), .val (.int (0 : Int32)), .val (.int (0 : Int32)), .unset]) rfl k) ?_
        show GoH _ _ _ _ _ _ _ _ _ _  T117 (mkF m 233 #[.val (.int p1), .val (.int p2), .val (.int p3), .val (.int p4), .val (.int (1 : Int32)), .val (.int (0 : Int32)), .val (.int f6), .val (.int (1 : Int32)), .val (.ref b5), .val (.ref b8), .val (.ref b13), .val (.ref b91), .val .null, .val (.ref w_USER), .val (.ref b108), .val (.ref b114), .val (.int (0 : Int32)), .val (.int (0 : Int32)), .unset] [])
        refine GoH.st (fun t k => XS.iload X117.here hx rfl (hb hby at_233) rfl  k) ?_
        show GoH _ _ _ _ _ _ _ _ _ _  T117 (mkF m 235 #[.val (.int p1), .val (.int p2), .val (.int p3), .val (.int p4), .val (.int (1 : Int32)), .val (.int (0 : Int32)), .val (.int f6), .val (.int (1 : Int32)), .val (.ref b5), .val (.ref b8), .val (.ref b13), .val (.ref b91), .val .null, .val (.ref w_USER), .val (.ref b108), .val (.ref b114), .val (.int (0 : Int32)), .val (.int (0 : Int32)), .unset] [(.int (0 : Int32))])
        refine GoH.st (fun t k => XS.ifNo X117.here hx rfl (hb hby at_235) rfl ((if0 _ _).trans (teq (rfl : (0 : Int32) = (0 : Int32))).2) k) ?_
        show GoH _ _ _ _ _ _ _ _ _ _  T117 (mkF m 238 #[.val (.int p1), .val (.int p2), .val (.int p3), .val (.int p4), .val (.int (1 : Int32)), .val (.int (0 : Int32)), .val (.int f6), .val (.int (1 : Int32)), .val (.ref b5), .val (.ref b8), .val (.ref b13), .val (.ref b91), .val .null, .val (.ref w_USER), .val (.ref b108), .val (.ref b114), .val (.int (0 : Int32)), .val (.int (0 : Int32)), .unset] [])
        refine GoH.st (fun t k => XS.iload X117.here hx rfl (hb hby at_238) rfl  k) ?_
        show GoH _ _ _ _ _ _ _ _ _ _  T117 (mkF m 240 #[.val (.int p1), .val (.int p2), .val (.int p3), .val (.int p4), .val (.int (1 : Int32)), .val (.int (0 : Int32)), .val (.int f6), .val (.int (1 : Int32)), .val (.ref b5), .val (.ref b8), .val (.ref b13), .val (.ref b91), .val .null, .val (.ref w_USER), .val (.ref b108), .val (.ref b114), .val (.int (0 : Int32)), .val (.int (0 : Int32)), .unset] [(.int (1 : Int32))])
        refine GoH.st (fun t k => XS.ifYes X117.here hx rfl (pc0 := 240) (pc' := 252) rfl (hb hby at_240) rfl ((if0 _ _).trans (feq (by decide : ¬ ((1 : Int32) = (0 : Int32)))).2) (by decide) (by decide) k) ?_
        show GoH _ _ _ _ _ _ _ _ _ _  T117 (mkF m 252 #[.val (.int p1), .val (.int p2), .val (.int p3), .val (.int p4), .val (.int (1 : Int32)), .val (.int (0 : Int32)), .val (.int f6), .val (.int (1 : Int32)), .val (.ref b5), .val (.ref b8), .val (.ref b13), .val (.ref b91), .val .null, .val (.ref w_USER), .val (.ref b108), .val (.ref b114), .val (.int (0 : Int32)), .val (.int (0 : Int32)), .unset] [])
        refine GoH.st (fun t k => XS.iconst X117.here hx rfl (hb hby at_252) k) ?_
        show GoH _ _ _ _ _ _ _ _ _ _  T117 (mkF m 253 #[.val (.int p1), .val (.int p2), .val (.int p3), .val (.int p4), .val (.int (1 : Int32)), .val (.int (0 : Int32)), .val (.int f6), .val (.int (1 : Int32)), .val (.ref b5), .val (.ref b8), .val (.ref b13), .val (.ref b91), .val .null, .val (.ref w_USER), .val (.ref b108), .val (.ref b114), .val (.int (0 : Int32)), .val (.int (0 : Int32)), .unset] [(.int (0 : Int32))])
        refine GoH.st (fun t k => XS.istore X117.here hx rfl (hb hby at_253) rfl (l' := #[.val (.int p1), .val (.int p2), .val (.int p3), .val (.int p4), .val (.int (1 : Int32)), .val (.int (0 : Int32)), .val (.int f6), .val (.int (1 : Int32)), .val (.ref b5), .val (.ref b8), .val (.ref b13), .val (.ref b91), .val .null, .val (.ref w_USER), .val (.ref b108), .val (.ref b114), .val (.int (0 : Int32)), .val (.int (0 : Int32)), .val (.int (0 : Int32))]) rfl k) ?_
        show GoH _ _ _ _ _ _ _ _ _ _  T117 (mkF m 255 #[.val (.int p1), .val (.int p2), .val (.int p3), .val (.int p4), .val (.int (1 : Int32)), .val (.int (0 : Int32)), .val (.int f6), .val (.int (1 : Int32)), .val (.ref b5), .val (.ref b8), .val (.ref b13), .val (.ref b91), .val .null, .val (.ref w_USER), .val (.ref b108), .val (.ref b114), .val (.int (0 : Int32)), .val (.int (0 : Int32)), .val (.int (0 : Int32))] [])
        refine GoH.st (fun t k => XS.iload X117.here hx rfl (hb hby at_255) rfl  k) ?_
        show GoH _ _ _ _ _ _ _ _ _ _  T117 (mkF m 257 #[.val (.int p1), .val (.int p2), .val (.int p3), .val (.int p4), .val (.int (1 : Int32)), .val (.int (0 : Int32)), .val (.int f6), .val (.int (1 : Int32)), .val (.ref b5), .val (.ref b8), .val (.ref b13), .val (.ref b91), .val .null, .val (.ref w_USER), .val (.ref b108), .val (.ref b114), .val (.int (0 : Int32)), .val (.int (0 : Int32)), .val (.int (0 : Int32))] [(.int (0 : Int32))])
        refine GoH.st (fun t k => XS.iload X117.here hx rfl (hb hby at_257) rfl  k) ?_
        show GoH _ _ _ _ _ _ _ _ _ _  T117 (mkF m 259 #[.val (.int p1), .val (.int p2), .val (.int p3), .val (.int p4), .val (.int (1 : Int32)), .val (.int (0 : Int32)), .val (.int f6), .val (.int (1 : Int32)), .val (.ref b5), .val (.ref b8), .val (.ref b13), .val (.ref b91), .val .null, .val (.ref w_USER), .val (.ref b108), .val (.ref b114), .val (.int (0 : Int32)), .val (.int (0 : Int32)), .val (.int (0 : Int32))] [(.int (0 : Int32)), (.int (0 : Int32))])
        refine GoH.st (fun t k => XS.icmpNo X117.here hx rfl (hb hby at_259) rfl (teq (rfl : (0 : Int32) = (0 : Int32))).2 k) ?_
        show GoH _ _ _ _ _ _ _ _ _ _  T117 (mkF m 262 #[.val (.int p1), .val (.int p2), .val (.int p3), .val (.int p4), .val (.int (1 : Int32)), .val (.int (0 : Int32)), .val (.int f6), .val (.int (1 : Int32)), .val (.ref b5), .val (.ref b8), .val (.ref b13), .val (.ref b91), .val .null, .val (.ref w_USER), .val (.ref b108), .val (.ref b114), .val (.int (0 : Int32)), .val (.int (0 : Int32)), .val (.int (0 : Int32))] [])
        refine GoH.st (fun t k => XS.iconst X117.here hx rfl (hb hby at_262) k) ?_
        show GoH _ _ _ _ _ _ _ _ _ _  T117 (mkF m 263 #[.val (.int p1), .val (.int p2), .val (.int p3), .val (.int p4), .val (.int (1 : Int32)), .val (.int (0 : Int32)), .val (.int f6), .val (.int (1 : Int32)), .val (.ref b5), .val (.ref b8), .val (.ref b13), .val (.ref b91), .val .null, .val (.ref w_USER), .val (.ref b108), .val (.ref b114), .val (.int (0 : Int32)), .val (.int (0 : Int32)), .val (.int (0 : Int32))] [(.int (1 : Int32))])
        refine GoH.st (fun t k => XS.goto X117.here hx rfl (pc0 := 263) (pc' := 267) rfl (hb hby at_263) (by decide) (by decide) k) ?_
        show GoH _ _ _ _ _ _ _ _ _ _  T117 (mkF m 267 #[.val (.int p1), .val (.int p2), .val (.int p3), .val (.int p4), .val (.int (1 : Int32)), .val (.int (0 : Int32)), .val (.int f6), .val (.int (1 : Int32)), .val (.ref b5), .val (.ref b8), .val (.ref b13), .val (.ref b91), .val .null, .val (.ref w_USER), .val (.ref b108), .val (.ref b114), .val (.int (0 : Int32)), .val (.int (0 : Int32)), .val (.int (0 : Int32))] [(.int (1 : Int32))])
        refine GoH.retN X117 hS hk e117q hZ hEL HH RR hlk hx (t := .boolean) (z' := (1 : Int32)) Bd.returns (by simp) (hb hby at_267) (by decide) (by decide) rfl ?_
        show Q_rm0 Z _ _ _ _ _ _ _ h0 n0 _ T117.heap _
        rw [e117q]
        exact ⟨rfl, N117⟩
    · rw [sp94]
      show GoH _ _ _ _ _ _ _ _ _ _  T93 (mkF m 121 #[.val (.int p1), .val (.int p2), .val (.int p3), .val (.int p4), .val (.int (1 : Int32)), .val (.int (1 : Int32)), .val (.int f6), .val (.int f7), .val (.ref b5), .val (.ref b8), .val (.ref b13), .val (.ref b91), .val .null, .unset, .unset, .unset, .unset, .unset, .unset] [])
      refine GoH.st (fun t k => XS.iload X93.here hx rfl (hb hby at_121) rfl  k) ?_
      show GoH _ _ _ _ _ _ _ _ _ _  T93 (mkF m 123 #[.val (.int p1), .val (.int p2), .val (.int p3), .val (.int p4), .val (.int (1 : Int32)), .val (.int (1 : Int32)), .val (.int f6), .val (.int f7), .val (.ref b5), .val (.ref b8), .val (.ref b13), .val (.ref b91), .val .null, .unset, .unset, .unset, .unset, .unset, .unset] [(.int (1 : Int32))])
      refine GoH.st (fun t k => XS.ifNo X93.here hx rfl (hb hby at_123) rfl ((if0 _ _).trans (feq (by decide : ¬ ((1 : Int32) = (0 : Int32)))).1) k) ?_
      show GoH _ _ _ _ _ _ _ _ _ _  T93 (mkF m 126 #[.val (.int p1), .val (.int p2), .val (.int p3), .val (.int p4), .val (.int (1 : Int32)), .val (.int (1 : Int32)), .val (.int f6), .val (.int f7), .val (.ref b5), .val (.ref b8), .val (.ref b13), .val (.ref b91), .val .null, .unset, .unset, .unset, .unset, .unset, .unset] [])
      rcases ok_f6 with sp118 | sp118
      · rw [sp118]
        show GoH _ _ _ _ _ _ _ _ _ _  T93 (mkF m 126 #[.val (.int p1), .val (.int p2), .val (.int p3), .val (.int p4), .val (.int (1 : Int32)), .val (.int (1 : Int32)), .val (.int (0 : Int32)), .val (.int f7), .val (.ref b5), .val (.ref b8), .val (.ref b13), .val (.ref b91), .val .null, .unset, .unset, .unset, .unset, .unset, .unset] [])
        refine GoH.st (fun t k => XS.iload X93.here hx rfl (hb hby at_126) rfl  k) ?_
        show GoH _ _ _ _ _ _ _ _ _ _  T93 (mkF m 128 #[.val (.int p1), .val (.int p2), .val (.int p3), .val (.int p4), .val (.int (1 : Int32)), .val (.int (1 : Int32)), .val (.int (0 : Int32)), .val (.int f7), .val (.ref b5), .val (.ref b8), .val (.ref b13), .val (.ref b91), .val .null, .unset, .unset, .unset, .unset, .unset, .unset] [(.int (0 : Int32))])
        refine GoH.st (fun t k => XS.ifYes X93.here hx rfl (pc0 := 128) (pc' := 143) rfl (hb hby at_128) rfl ((if0 _ _).trans (teq (rfl : (0 : Int32) = (0 : Int32))).1) (by decide) (by decide) k) ?_
        show GoH _ _ _ _ _ _ _ _ _ _  T93 (mkF m 143 #[.val (.int p1), .val (.int p2), .val (.int p3), .val (.int p4), .val (.int (1 : Int32)), .val (.int (1 : Int32)), .val (.int (0 : Int32)), .val (.int f7), .val (.ref b5), .val (.ref b8), .val (.ref b13), .val (.ref b91), .val .null, .unset, .unset, .unset, .unset, .unset, .unset] [])
        obtain ⟨T119, h119, X119, e119, E119, A119, D119, -, st119⟩ := newO X93 hx hZ hown (hw _ (List.mem_of_getElem? (i := 1) rfl)) (hw _ (List.mem_of_getElem? (i := 2) rfl)) (hw _ (List.mem_of_getElem? (i := 3) rfl)) rfl (g := (mkF m 143 #[.val (.int p1), .val (.int p2), .val (.int p3), .val (.int p4), .val (.int (1 : Int32)), .val (.int (1 : Int32)), .val (.int (0 : Int32)), .val (.int f7), .val (.ref b5), .val (.ref b8), .val (.ref b13), .val (.ref b91), .val .null, .unset, .unset, .unset, .unset, .unset, .unset] [])) rfl (hb hby at_143) (by decide) (by decide)
        obtain ⟨b119, g119⟩ : ∃ z, z = T93.heap.size := ⟨_, rfl⟩
        rw [← g119] at A119 D119 st119
        refine GoH.st st119 ?_
        have g_b119 : n0 ≤ b119 := by rw [g119]; exact own_le O
        have Sf_b119 : Safe Z EL s.vm T93.heap b119 := Safe.new (Nat.le_of_eq g119.symm)
        have sz_b119 : h0.size ≤ b119 := by rw [g119]; exact KK.1
        have ne_b5_b119 : b5 ≠ b119 := Nat.ne_of_lt (by rw [g119]; exact V_b5.lt)
        have ne_b8_b119 : b8 ≠ b119 := Nat.ne_of_lt (by rw [g119]; exact V_b8.lt)
        have ne_b13_b119 : b13 ≠ b119 := Nat.ne_of_lt (by rw [g119]; exact V_b13.lt)
        have V_b5 := V_b5.ext E119
        have V_b8 := V_b8.ext E119
        have V_b13 := V_b13.ext E119
        have Sf_b5 := Safe.ext E119 HH Sf_b5
        have Sf_b8 := Safe.ext E119 HH Sf_b8
        have Sf_b13 := Safe.ext E119 HH Sf_b13
        have Sf_b119 := Safe.ext E119 HH Sf_b119
        have RR := RR.trans (CHr.ext E119 HH)
        have HH := HH.ext E119
        have hk := Nat.le_trans hk E119.1
        have O := O.ext E119
        have KK := KK.ext E119
        have E_b119 := A119
        have F_coder_b119 : Fld Z h119 b119 "java/lang/String" "coder" "B" (.int (0 : Int32)) := D119 (Or.inr (hw _ (List.mem_of_getElem? (i := 27) rfl))) (ty := .byte) (by decide)
        have F_value_b119 : Fld Z h119 b119 "java/lang/String" "value" "[B" .null := D119 (Or.inr (hw _ (List.mem_of_getElem? (i := 29) rfl))) (ty := (.array .byte)) (by decide)
        show GoH _ _ _ _ _ _ _ _ _ _  T119 (mkF m 146 #[.val (.int p1), .val (.int p2), .val (.int p3), .val (.int p4), .val (.int (1 : Int32)), .val (.int (1 : Int32)), .val (.int (0 : Int32)), .val (.int f7), .val (.ref b5), .val (.ref b8), .val (.ref b13), .val (.ref b91), .val .null, .unset, .unset, .unset, .unset, .unset, .unset] [(.ref b119)])
        refine GoH.st (fun t k => XS.dup X119.here hx rfl (hb hby at_146) rfl rfl k) ?_
        show GoH _ _ _ _ _ _ _ _ _ _  T119 (mkF m 147 #[.val (.int p1), .val (.int p2), .val (.int p3), .val (.int p4), .val (.int (1 : Int32)), .val (.int (1 : Int32)), .val (.int (0 : Int32)), .val (.int f7), .val (.ref b5), .val (.ref b8), .val (.ref b13), .val (.ref b91), .val .null, .unset, .unset, .unset, .unset, .unset, .unset] [(.ref b119), (.ref b119)])
        refine GoH.st (fun t k => XS.aload X119.here hx rfl (hb hby at_147) rfl rfl  k) ?_
        show GoH _ _ _ _ _ _ _ _ _ _  T119 (mkF m 149 #[.val (.int p1), .val (.int p2), .val (.int p3), .val (.int p4), .val (.int (1 : Int32)), .val (.int (1 : Int32)), .val (.int (0 : Int32)), .val (.int f7), .val (.ref b5), .val (.ref b8), .val (.ref b13), .val (.ref b91), .val .null, .unset, .unset, .unset, .unset, .unset, .unset] [(.ref b8), (.ref b119), (.ref b119)])
        have hp120 : ∀ c ∈ ([(nar .char ((p2 &&& (255 : Int32)).toUInt32.toUInt16.toUInt32.toInt32)), (nar .char ((p3 &&& (255 : Int32)).toUInt32.toUInt16.toUInt32.toInt32))] : List Int32), ¬ c < 0 ∧ ¬ (255 : Int32) < c := (own_cons (P := fun c => ¬ c < 0 ∧ ¬ (255 : Int32) < c) (own_m255 _) (own_cons (P := fun c => ¬ c < 0 ∧ ¬ (255 : Int32) < c) (own_m255 _) own_nil))
        obtain ⟨_, _, ⟨T121, L121, k121, n121⟩, -, X121, ⟨Lc121, hQ121, l121, y121, z121⟩, st121⟩ := X119.specialBack hx (y := (⟨"java/lang/String", "<init>", "([C)V"⟩ : MethodName)) rfl hown (mvT hZ (hw _ (List.mem_of_getElem? (i := 4) rfl))) (mvT hZ (hw _ (List.mem_of_getElem? (i := 5) rfl))) (mvT hZ (hw _ (List.mem_of_getElem? (i := 6) rfl))) (by decide) (StrChars.Road.backV (W := 1) hZ hws (kI := 4) (hw _ (List.mem_of_getElem? (i := 2) rfl)) (cs := ([(nar .char ((p2 &&& (255 : Int32)).toUInt32.toUInt16.toUInt32.toInt32)), (nar .char ((p3 &&& (255 : Int32)).toUInt32.toUInt16.toUInt32.toInt32))] : List Int32)) (bs := ([(nar .char ((p2 &&& (255 : Int32)).toUInt32.toUInt16.toUInt32.toInt32)), (nar .char ((p3 &&& (255 : Int32)).toUInt32.toUInt16.toUInt32.toInt32))] : List Int32).map (fun c => c.toInt8.toInt32)) (n := 2) g_b119 (own_le O) E_b119 F_value_b119 F_coder_b119 V_b8 (S_COMPACT.ext O.2) hcs rfl rfl (by decide) (by decide) hp120 rfl (by decide) (by decide)) (g := (mkF m 149 #[.val (.int p1), .val (.int p2), .val (.int p3), .val (.int p4), .val (.int (1 : Int32)), .val (.int (1 : Int32)), .val (.int (0 : Int32)), .val (.int f7), .val (.ref b5), .val (.ref b8), .val (.ref b13), .val (.ref b91), .val .null, .unset, .unset, .unset, .unset, .unset, .unset] [(.ref b8), (.ref b119), (.ref b119)])) rfl (by rw [hml]; rfl) (Steps.refl _) (a := b119) (argsL := [(.ref b8)]) (rest := [(.ref b119)]) (lenOf pd___C_V rfl) rfl (by show 2 * 0 + _ ≤ _; exact Nat.le_of_eq rfl) (hb hby at_149) (fun _ _ => ⟨rfl, e119, (by decide : 6 + 1 ≤ _), (by decide : 12 + 2 ≤ _)⟩)
        dsimp only [Pt.U, Pt.locs, Pt.cells, Pt.slots] at X121 l121 y121 z121 st121 hQ121
        subst l121 y121 z121
        obtain ⟨rfl, N121q, K121q, Eq121, Cq121, t121, kt121, gt121, lt121, nt121, Vq121, Aq121⟩ := hQ121
        have N121 := Fr.app N93 N121q
        refine GoH.tr st121 ?_
        have g_t121 : n0 ≤ t121 := Nat.le_trans (own_le O) lt121
        have Sf_t121 : Safe Z EL s.vm h119 t121 := Safe.new lt121
        have sz_t121 : h0.size ≤ t121 := Nat.le_trans KK.1 lt121
        have ne_b5_t121 : b5 ≠ t121 := Nat.ne_of_lt (Nat.lt_of_lt_of_le V_b5.lt lt121)
        have ne_b8_t121 : b8 ≠ t121 := Nat.ne_of_lt (Nat.lt_of_lt_of_le V_b8.lt lt121)
        have ne_b13_t121 : b13 ≠ t121 := Nat.ne_of_lt (Nat.lt_of_lt_of_le V_b13.lt lt121)
        have ne_b119_t121 : b119 ≠ t121 := Nat.ne_of_lt (Nat.lt_of_lt_of_le E_b119.lt lt121)
        have V_b5 := V_b5.keep K121q (ninS ne_b5_b119 nin0)
        have V_b8 := V_b8.keep K121q (ninS ne_b8_b119 nin0)
        have V_b13 := V_b13.keep K121q (ninS ne_b13_b119 nin0)
        have E_b119 := E_b119.keep K121q
        have sfw121 := (sfS Sf_b119 sf0)
        have Sf_b5 := Safe.keep K121q sfw121 HH Sf_b5
        have Sf_b8 := Safe.keep K121q sfw121 HH Sf_b8
        have Sf_b13 := Safe.keep K121q sfw121 HH Sf_b13
        have Sf_b119 := Safe.keep K121q sfw121 HH Sf_b119
        have Sf_t121 := Safe.keep K121q sfw121 HH Sf_t121
        have RR := RR.trans (CHr.keep K121q sfw121 HH)
        have HH := HH.keep K121q sfw121
        have hk := Nat.le_trans hk K121q.1
        have O := O.keep K121q (allS g_b119 all0)
        have KK := KK.trans K121q (allS (Or.inr sz_b119) all0)
        have E_b119 := Eq121
        show GoH _ _ _ _ _ _ _ _ _ _  T121 (mkF m 152 #[.val (.int p1), .val (.int p2), .val (.int p3), .val (.int p4), .val (.int (1 : Int32)), .val (.int (1 : Int32)), .val (.int (0 : Int32)), .val (.int f7), .val (.ref b5), .val (.ref b8), .val (.ref b13), .val (.ref b91), .val .null, .unset, .unset, .unset, .unset, .unset, .unset] [(.ref b119)])
        refine GoH.st (fun t k => XS.astore X121.here hx rfl (hb hby at_152) rfl rfl (l' := #[.val (.int p1), .val (.int p2), .val (.int p3), .val (.int p4), .val (.int (1 : Int32)), .val (.int (1 : Int32)), .val (.int (0 : Int32)), .val (.int f7), .val (.ref b5), .val (.ref b8), .val (.ref b13), .val (.ref b91), .val (.ref b119), .unset, .unset, .unset, .unset, .unset, .unset]) rfl k) ?_
        show GoH _ _ _ _ _ _ _ _ _ _  T121 (mkF m 154 #[.val (.int p1), .val (.int p2), .val (.int p3), .val (.int p4), .val (.int (1 : Int32)), .val (.int (1 : Int32)), .val (.int (0 : Int32)), .val (.int f7), .val (.ref b5), .val (.ref b8), .val (.ref b13), .val (.ref b91), .val (.ref b119), .unset, .unset, .unset, .unset, .unset, .unset] [])
        rcases ok_f7 with sp122 | sp122
        · rw [sp122]
          show GoH _ _ _ _ _ _ _ _ _ _  T121 (mkF m 154 #[.val (.int p1), .val (.int p2), .val (.int p3), .val (.int p4), .val (.int (1 : Int32)), .val (.int (1 : Int32)), .val (.int (0 : Int32)), .val (.int (0 : Int32)), .val (.ref b5), .val (.ref b8), .val (.ref b13), .val (.ref b91), .val (.ref b119), .unset, .unset, .unset, .unset, .unset, .unset] [])
          refine GoH.st (fun t k => XS.iload X121.here hx rfl (hb hby at_154) rfl  k) ?_
          show GoH _ _ _ _ _ _ _ _ _ _  T121 (mkF m 156 #[.val (.int p1), .val (.int p2), .val (.int p3), .val (.int p4), .val (.int (1 : Int32)), .val (.int (1 : Int32)), .val (.int (0 : Int32)), .val (.int (0 : Int32)), .val (.ref b5), .val (.ref b8), .val (.ref b13), .val (.ref b91), .val (.ref b119), .unset, .unset, .unset, .unset, .unset, .unset] [(.int (0 : Int32))])
          refine GoH.st (fun t k => XS.ifYes X121.here hx rfl (pc0 := 156) (pc' := 165) rfl (hb hby at_156) rfl ((if0 _ _).trans (teq (rfl : (0 : Int32) = (0 : Int32))).1) (by decide) (by decide) k) ?_
          show GoH _ _ _ _ _ _ _ _ _ _  T121 (mkF m 165 #[.val (.int p1), .val (.int p2), .val (.int p3), .val (.int p4), .val (.int (1 : Int32)), .val (.int (1 : Int32)), .val (.int (0 : Int32)), .val (.int (0 : Int32)), .val (.ref b5), .val (.ref b8), .val (.ref b13), .val (.ref b91), .val (.ref b119), .unset, .unset, .unset, .unset, .unset, .unset] [])
          obtain ⟨T123, X123, e123, st123⟩ := getS2 X121 hx hZ hown (host := "") (Or.inl (hw _ (List.mem_of_getElem? (i := 30) rfl))) Via.refl rfl (S_ADMIN.ext O.2) (g := (mkF m 165 #[.val (.int p1), .val (.int p2), .val (.int p3), .val (.int p4), .val (.int (1 : Int32)), .val (.int (1 : Int32)), .val (.int (0 : Int32)), .val (.int (0 : Int32)), .val (.ref b5), .val (.ref b8), .val (.ref b13), .val (.ref b91), .val (.ref b119), .unset, .unset, .unset, .unset, .unset, .unset] [])) rfl (hb hby at_165)
          refine GoH.st st123 ?_
          show GoH _ _ _ _ _ _ _ _ _ _  T123 (mkF m 168 #[.val (.int p1), .val (.int p2), .val (.int p3), .val (.int p4), .val (.int (1 : Int32)), .val (.int (1 : Int32)), .val (.int (0 : Int32)), .val (.int (0 : Int32)), .val (.ref b5), .val (.ref b8), .val (.ref b13), .val (.ref b91), .val (.ref b119), .unset, .unset, .unset, .unset, .unset, .unset] [(.ref w_ADMIN)])
          refine GoH.st (fun t k => XS.astore X123.here hx rfl (hb hby at_168) rfl rfl (l' := #[.val (.int p1), .val (.int p2), .val (.int p3), .val (.int p4), .val (.int (1 : Int32)), .val (.int (1 : Int32)), .val (.int (0 : Int32)), .val (.int (0 : Int32)), .val (.ref b5), .val (.ref b8), .val (.ref b13), .val (.ref b91), .val (.ref b119), .val (.ref w_ADMIN), .unset, .unset, .unset, .unset, .unset]) rfl k) ?_
          show GoH _ _ _ _ _ _ _ _ _ _  T123 (mkF m 170 #[.val (.int p1), .val (.int p2), .val (.int p3), .val (.int p4), .val (.int (1 : Int32)), .val (.int (1 : Int32)), .val (.int (0 : Int32)), .val (.int (0 : Int32)), .val (.ref b5), .val (.ref b8), .val (.ref b13), .val (.ref b91), .val (.ref b119), .val (.ref w_ADMIN), .unset, .unset, .unset, .unset, .unset] [])
          obtain ⟨T124, h124, X124, e124, E124, A124, D124, -, st124⟩ := newO X123 hx hZ hown (hw _ (List.mem_of_getElem? (i := 33) rfl)) (hw _ (List.mem_of_getElem? (i := 34) rfl)) (hw _ (List.mem_of_getElem? (i := 35) rfl)) e123 (g := (mkF m 170 #[.val (.int p1), .val (.int p2), .val (.int p3), .val (.int p4), .val (.int (1 : Int32)), .val (.int (1 : Int32)), .val (.int (0 : Int32)), .val (.int (0 : Int32)), .val (.ref b5), .val (.ref b8), .val (.ref b13), .val (.ref b91), .val (.ref b119), .val (.ref w_ADMIN), .unset, .unset, .unset, .unset, .unset] [])) rfl (hb hby at_170) (by decide) (by decide)
          obtain ⟨b124, g124⟩ : ∃ z, z = T121.heap.size := ⟨_, rfl⟩
          rw [← g124] at A124 D124 st124
          refine GoH.st st124 ?_
          have g_b124 : n0 ≤ b124 := by rw [g124]; exact own_le O
          have Sf_b124 : Safe Z EL s.vm T121.heap b124 := Safe.new (Nat.le_of_eq g124.symm)
          have sz_b124 : h0.size ≤ b124 := by rw [g124]; exact KK.1
          have ne_b5_b124 : b5 ≠ b124 := Nat.ne_of_lt (by rw [g124]; exact V_b5.lt)
          have ne_b8_b124 : b8 ≠ b124 := Nat.ne_of_lt (by rw [g124]; exact V_b8.lt)
          have ne_b13_b124 : b13 ≠ b124 := Nat.ne_of_lt (by rw [g124]; exact V_b13.lt)
          have V_b5 := V_b5.ext E124
          have V_b8 := V_b8.ext E124
          have V_b13 := V_b13.ext E124
          have Sf_b5 := Safe.ext E124 HH Sf_b5
          have Sf_b8 := Safe.ext E124 HH Sf_b8
          have Sf_b13 := Safe.ext E124 HH Sf_b13
          have Sf_b124 := Safe.ext E124 HH Sf_b124
          have RR := RR.trans (CHr.ext E124 HH)
          have HH := HH.ext E124
          have hk := Nat.le_trans hk E124.1
          have O := O.ext E124
          have KK := KK.ext E124
          have E_b124 := A124
          have F_id_b124 : Fld Z h124 b124 "com/example/wellness_on_record/wellnessonrecord/apps/App" "id" "Ljava/lang/String;" .null := D124 (Or.inr (hw _ (List.mem_of_getElem? (i := 52) rfl))) (ty := (.object "java/lang/String")) (by decide)
          have F_name_b124 : Fld Z h124 b124 "com/example/wellness_on_record/wellnessonrecord/apps/App" "name" "Ljava/lang/String;" .null := D124 (Or.inr (hw _ (List.mem_of_getElem? (i := 54) rfl))) (ty := (.object "java/lang/String")) (by decide)
          have F_kind_b124 : Fld Z h124 b124 "com/example/wellness_on_record/wellnessonrecord/apps/App" "kind" "Lcom/example/wellness_on_record/wellnessonrecord/apps/App$Kind;" .null := D124 (Or.inr (hw _ (List.mem_of_getElem? (i := 56) rfl))) (ty := (.object "com/example/wellness_on_record/wellnessonrecord/apps/App$Kind")) (by decide)
          have F_consumerKey_b124 : Fld Z h124 b124 "com/example/wellness_on_record/wellnessonrecord/apps/App" "consumerKey" "Ljava/lang/String;" .null := D124 (Or.inr (hw _ (List.mem_of_getElem? (i := 58) rfl))) (ty := (.object "java/lang/String")) (by decide)
          have F_consumerSecret_b124 : Fld Z h124 b124 "com/example/wellness_on_record/wellnessonrecord/apps/App" "consumerSecret" "Ljava/lang/String;" .null := D124 (Or.inr (hw _ (List.mem_of_getElem? (i := 60) rfl))) (ty := (.object "java/lang/String")) (by decide)
          have F_autonomous_b124 : Fld Z h124 b124 "com/example/wellness_on_record/wellnessonrecord/apps/App" "autonomous" "Z" (.int (0 : Int32)) := D124 (Or.inr (hw _ (List.mem_of_getElem? (i := 62) rfl))) (ty := .boolean) (by decide)
          have F_autonomousReason_b124 : Fld Z h124 b124 "com/example/wellness_on_record/wellnessonrecord/apps/App" "autonomousReason" "Ljava/lang/String;" .null := D124 (Or.inr (hw _ (List.mem_of_getElem? (i := 64) rfl))) (ty := (.object "java/lang/String")) (by decide)
          have F_hasUi_b124 : Fld Z h124 b124 "com/example/wellness_on_record/wellnessonrecord/apps/App" "hasUi" "Z" (.int (0 : Int32)) := D124 (Or.inr (hw _ (List.mem_of_getElem? (i := 66) rfl))) (ty := .boolean) (by decide)
          have F_callbackUrl_b124 : Fld Z h124 b124 "com/example/wellness_on_record/wellnessonrecord/apps/App" "callbackUrl" "Ljava/lang/String;" .null := D124 (Or.inr (hw _ (List.mem_of_getElem? (i := 68) rfl))) (ty := (.object "java/lang/String")) (by decide)
          have F_startUrlTemplate_b124 : Fld Z h124 b124 "com/example/wellness_on_record/wellnessonrecord/apps/App" "startUrlTemplate" "Ljava/lang/String;" .null := D124 (Or.inr (hw _ (List.mem_of_getElem? (i := 70) rfl))) (ty := (.object "java/lang/String")) (by decide)
          have F_frameable_b124 : Fld Z h124 b124 "com/example/wellness_on_record/wellnessonrecord/apps/App" "frameable" "Z" (.int (0 : Int32)) := D124 (Or.inr (hw _ (List.mem_of_getElem? (i := 72) rfl))) (ty := .boolean) (by decide)
          show GoH _ _ _ _ _ _ _ _ _ _  T124 (mkF m 173 #[.val (.int p1), .val (.int p2), .val (.int p3), .val (.int p4), .val (.int (1 : Int32)), .val (.int (1 : Int32)), .val (.int (0 : Int32)), .val (.int (0 : Int32)), .val (.ref b5), .val (.ref b8), .val (.ref b13), .val (.ref b91), .val (.ref b119), .val (.ref w_ADMIN), .unset, .unset, .unset, .unset, .unset] [(.ref b124)])
          refine GoH.st (fun t k => XS.dup X124.here hx rfl (hb hby at_173) rfl rfl k) ?_
          show GoH _ _ _ _ _ _ _ _ _ _  T124 (mkF m 174 #[.val (.int p1), .val (.int p2), .val (.int p3), .val (.int p4), .val (.int (1 : Int32)), .val (.int (1 : Int32)), .val (.int (0 : Int32)), .val (.int (0 : Int32)), .val (.ref b5), .val (.ref b8), .val (.ref b13), .val (.ref b91), .val (.ref b119), .val (.ref w_ADMIN), .unset, .unset, .unset, .unset, .unset] [(.ref b124), (.ref b124)])
          obtain ⟨sa125, T125, h125, kk125, sb125, kb125, X125, e125, E125, hS125, hk125, hZ125, ho125, E_sa125, F_coder_sa125, F_value_sa125, V_sb125, la125, lb125, CR125, Lt125, ns125, st125⟩ := ldcCH X124 hx hZ hown (hw _ (List.mem_of_getElem? (i := 36) rfl)) wS e124 hS hk hEL (List.mem_of_getElem? (i := 0) rfl) HH (vs := [(.int (105 : Int32)), (.int (100 : Int32))]) (z := 2) ⟨by decide, by decide⟩ (by decide) rfl (g := (mkF m 174 #[.val (.int p1), .val (.int p2), .val (.int p3), .val (.int p4), .val (.int (1 : Int32)), .val (.int (1 : Int32)), .val (.int (0 : Int32)), .val (.int (0 : Int32)), .val (.ref b5), .val (.ref b8), .val (.ref b13), .val (.ref b91), .val (.ref b119), .val (.ref w_ADMIN), .unset, .unset, .unset, .unset, .unset] [(.ref b124), (.ref b124)])) rfl (hb hby at_174) (n := 8) (by decide) (by decide) (by decide) (by decide)
          refine GoH.st st125 ?_
          have Sf_b5 := CHr.safe CR125 V_b5.lt Sf_b5
          have Sf_b8 := CHr.safe CR125 V_b8.lt Sf_b8
          have Sf_b13 := CHr.safe CR125 V_b13.lt Sf_b13
          have Sf_b124 := CHr.safe CR125 E_b124.lt Sf_b124
          have V_b5 := V_b5.ext E125
          have V_b8 := V_b8.ext E125
          have V_b13 := V_b13.ext E125
          have E_b124 := E_b124.ext E125
          have F_id_b124 := F_id_b124.ext E125
          have F_name_b124 := F_name_b124.ext E125
          have F_kind_b124 := F_kind_b124.ext E125
          have F_consumerKey_b124 := F_consumerKey_b124.ext E125
          have F_consumerSecret_b124 := F_consumerSecret_b124.ext E125
          have F_autonomous_b124 := F_autonomous_b124.ext E125
          have F_autonomousReason_b124 := F_autonomousReason_b124.ext E125
          have F_hasUi_b124 := F_hasUi_b124.ext E125
          have F_callbackUrl_b124 := F_callbackUrl_b124.ext E125
          have F_startUrlTemplate_b124 := F_startUrlTemplate_b124.ext E125
          have F_frameable_b124 := F_frameable_b124.ext E125
          have O := O.ext E125
          have KK := KK.ext E125
          have RR := RR.trans CR125
          have HH := CR125.1
          have hS := hS125
          have hk := hk125
          have hZ := hZ125
          have hown := ho125
          show GoH _ _ _ _ _ _ _ _ _ _  T125 (mkF m 176 #[.val (.int p1), .val (.int p2), .val (.int p3), .val (.int p4), .val (.int (1 : Int32)), .val (.int (1 : Int32)), .val (.int (0 : Int32)), .val (.int (0 : Int32)), .val (.ref b5), .val (.ref b8), .val (.ref b13), .val (.ref b91), .val (.ref b119), .val (.ref w_ADMIN), .unset, .unset, .unset, .unset, .unset] [(.ref sa125), (.ref b124), (.ref b124)])
          obtain ⟨sa126, T126, h126, kk126, sb126, kb126, X126, e126, E126, hS126, hk126, hZ126, ho126, E_sa126, F_coder_sa126, F_value_sa126, V_sb126, la126, lb126, CR126, Lt126, ns126, st126⟩ := ldcCH X125 hx hZ hown (hw _ (List.mem_of_getElem? (i := 39) rfl)) wS e125 hS hk hEL (List.mem_of_getElem? (i := 1) rfl) HH (vs := [(.int (110 : Int32)), (.int (97 : Int32)), (.int (109 : Int32)), (.int (101 : Int32))]) (z := 4) ⟨by decide, by decide⟩ (by decide) rfl (g := (mkF m 176 #[.val (.int p1), .val (.int p2), .val (.int p3), .val (.int p4), .val (.int (1 : Int32)), .val (.int (1 : Int32)), .val (.int (0 : Int32)), .val (.int (0 : Int32)), .val (.ref b5), .val (.ref b8), .val (.ref b13), .val (.ref b91), .val (.ref b119), .val (.ref w_ADMIN), .unset, .unset, .unset, .unset, .unset] [(.ref sa125), (.ref b124), (.ref b124)])) rfl (hb hby at_176) (n := 16) (by decide) (by decide) (by decide) (by decide)
          refine GoH.st st126 ?_
          have Sf_b5 := CHr.safe CR126 V_b5.lt Sf_b5
          have Sf_b8 := CHr.safe CR126 V_b8.lt Sf_b8
          have Sf_b13 := CHr.safe CR126 V_b13.lt Sf_b13
          have Sf_b124 := CHr.safe CR126 E_b124.lt Sf_b124
          have V_b5 := V_b5.ext E126
          have V_b8 := V_b8.ext E126
          have V_b13 := V_b13.ext E126
          have E_b124 := E_b124.ext E126
          have F_id_b124 := F_id_b124.ext E126
          have F_name_b124 := F_name_b124.ext E126
          have F_kind_b124 := F_kind_b124.ext E126
          have F_consumerKey_b124 := F_consumerKey_b124.ext E126
          have F_consumerSecret_b124 := F_consumerSecret_b124.ext E126
          have F_autonomous_b124 := F_autonomous_b124.ext E126
          have F_autonomousReason_b124 := F_autonomousReason_b124.ext E126
          have F_hasUi_b124 := F_hasUi_b124.ext E126
          have F_callbackUrl_b124 := F_callbackUrl_b124.ext E126
          have F_startUrlTemplate_b124 := F_startUrlTemplate_b124.ext E126
          have F_frameable_b124 := F_frameable_b124.ext E126
          have O := O.ext E126
          have KK := KK.ext E126
          have RR := RR.trans CR126
          have HH := CR126.1
          have hS := hS126
          have hk := hk126
          have hZ := hZ126
          have hown := ho126
          show GoH _ _ _ _ _ _ _ _ _ _  T126 (mkF m 178 #[.val (.int p1), .val (.int p2), .val (.int p3), .val (.int p4), .val (.int (1 : Int32)), .val (.int (1 : Int32)), .val (.int (0 : Int32)), .val (.int (0 : Int32)), .val (.ref b5), .val (.ref b8), .val (.ref b13), .val (.ref b91), .val (.ref b119), .val (.ref w_ADMIN), .unset, .unset, .unset, .unset, .unset] [(.ref sa126), (.ref sa125), (.ref b124), (.ref b124)])
          refine GoH.st (fun t k => XS.aload X126.here hx rfl (hb hby at_178) rfl rfl  k) ?_
          show GoH _ _ _ _ _ _ _ _ _ _  T126 (mkF m 180 #[.val (.int p1), .val (.int p2), .val (.int p3), .val (.int p4), .val (.int (1 : Int32)), .val (.int (1 : Int32)), .val (.int (0 : Int32)), .val (.int (0 : Int32)), .val (.ref b5), .val (.ref b8), .val (.ref b13), .val (.ref b91), .val (.ref b119), .val (.ref w_ADMIN), .unset, .unset, .unset, .unset, .unset] [(.ref w_ADMIN), (.ref sa126), (.ref sa125), (.ref b124), (.ref b124)])
          obtain ⟨sa127, T127, h127, kk127, sb127, kb127, X127, e127, E127, hS127, hk127, hZ127, ho127, E_sa127, F_coder_sa127, F_value_sa127, V_sb127, la127, lb127, CR127, Lt127, ns127, st127⟩ := ldcCH X126 hx hZ hown (hw _ (List.mem_of_getElem? (i := 40) rfl)) wS e126 hS hk hEL (List.mem_of_getElem? (i := 2) rfl) HH (vs := [(.int (107 : Int32)), (.int (101 : Int32)), (.int (121 : Int32))]) (z := 3) ⟨by decide, by decide⟩ (by decide) rfl (g := (mkF m 180 #[.val (.int p1), .val (.int p2), .val (.int p3), .val (.int p4), .val (.int (1 : Int32)), .val (.int (1 : Int32)), .val (.int (0 : Int32)), .val (.int (0 : Int32)), .val (.ref b5), .val (.ref b8), .val (.ref b13), .val (.ref b91), .val (.ref b119), .val (.ref w_ADMIN), .unset, .unset, .unset, .unset, .unset] [(.ref w_ADMIN), (.ref sa126), (.ref sa125), (.ref b124), (.ref b124)])) rfl (hb hby at_180) (n := 12) (by decide) (by decide) (by decide) (by decide)
          refine GoH.st st127 ?_
          have Sf_b5 := CHr.safe CR127 V_b5.lt Sf_b5
          have Sf_b8 := CHr.safe CR127 V_b8.lt Sf_b8
          have Sf_b13 := CHr.safe CR127 V_b13.lt Sf_b13
          have Sf_b124 := CHr.safe CR127 E_b124.lt Sf_b124
          have V_b5 := V_b5.ext E127
          have V_b8 := V_b8.ext E127
          have V_b13 := V_b13.ext E127
          have E_b124 := E_b124.ext E127
          have F_id_b124 := F_id_b124.ext E127
          have F_name_b124 := F_name_b124.ext E127
          have F_kind_b124 := F_kind_b124.ext E127
          have F_consumerKey_b124 := F_consumerKey_b124.ext E127
          have F_consumerSecret_b124 := F_consumerSecret_b124.ext E127
          have F_autonomous_b124 := F_autonomous_b124.ext E127
          have F_autonomousReason_b124 := F_autonomousReason_b124.ext E127
          have F_hasUi_b124 := F_hasUi_b124.ext E127
          have F_callbackUrl_b124 := F_callbackUrl_b124.ext E127
          have F_startUrlTemplate_b124 := F_startUrlTemplate_b124.ext E127
          have F_frameable_b124 := F_frameable_b124.ext E127
          have O := O.ext E127
          have KK := KK.ext E127
          have RR := RR.trans CR127
          have HH := CR127.1
          have hS := hS127
          have hk := hk127
          have hZ := hZ127
          have hown := ho127
          show GoH _ _ _ _ _ _ _ _ _ _  T127 (mkF m 182 #[.val (.int p1), .val (.int p2), .val (.int p3), .val (.int p4), .val (.int (1 : Int32)), .val (.int (1 : Int32)), .val (.int (0 : Int32)), .val (.int (0 : Int32)), .val (.ref b5), .val (.ref b8), .val (.ref b13), .val (.ref b91), .val (.ref b119), .val (.ref w_ADMIN), .unset, .unset, .unset, .unset, .unset] [(.ref sa127), (.ref w_ADMIN), (.ref sa126), (.ref sa125), (.ref b124), (.ref b124)])
          obtain ⟨sa128, T128, h128, kk128, sb128, kb128, X128, e128, E128, hS128, hk128, hZ128, ho128, E_sa128, F_coder_sa128, F_value_sa128, V_sb128, la128, lb128, CR128, Lt128, ns128, st128⟩ := ldcCH X127 hx hZ hown (hw _ (List.mem_of_getElem? (i := 41) rfl)) wS e127 hS hk hEL (List.mem_of_getElem? (i := 3) rfl) HH (vs := [(.int (115 : Int32)), (.int (101 : Int32)), (.int (99 : Int32)), (.int (114 : Int32)), (.int (101 : Int32)), (.int (116 : Int32))]) (z := 6) ⟨by decide, by decide⟩ (by decide) rfl (g := (mkF m 182 #[.val (.int p1), .val (.int p2), .val (.int p3), .val (.int p4), .val (.int (1 : Int32)), .val (.int (1 : Int32)), .val (.int (0 : Int32)), .val (.int (0 : Int32)), .val (.ref b5), .val (.ref b8), .val (.ref b13), .val (.ref b91), .val (.ref b119), .val (.ref w_ADMIN), .unset, .unset, .unset, .unset, .unset] [(.ref sa127), (.ref w_ADMIN), (.ref sa126), (.ref sa125), (.ref b124), (.ref b124)])) rfl (hb hby at_182) (n := 24) (by decide) (by decide) (by decide) (by decide)
          refine GoH.st st128 ?_
          have Sf_b5 := CHr.safe CR128 V_b5.lt Sf_b5
          have Sf_b8 := CHr.safe CR128 V_b8.lt Sf_b8
          have Sf_b13 := CHr.safe CR128 V_b13.lt Sf_b13
          have Sf_b124 := CHr.safe CR128 E_b124.lt Sf_b124
          have V_b5 := V_b5.ext E128
          have V_b8 := V_b8.ext E128
          have V_b13 := V_b13.ext E128
          have E_b124 := E_b124.ext E128
          have F_id_b124 := F_id_b124.ext E128
          have F_name_b124 := F_name_b124.ext E128
          have F_kind_b124 := F_kind_b124.ext E128
          have F_consumerKey_b124 := F_consumerKey_b124.ext E128
          have F_consumerSecret_b124 := F_consumerSecret_b124.ext E128
          have F_autonomous_b124 := F_autonomous_b124.ext E128
          have F_autonomousReason_b124 := F_autonomousReason_b124.ext E128
          have F_hasUi_b124 := F_hasUi_b124.ext E128
          have F_callbackUrl_b124 := F_callbackUrl_b124.ext E128
          have F_startUrlTemplate_b124 := F_startUrlTemplate_b124.ext E128
          have F_frameable_b124 := F_frameable_b124.ext E128
          have O := O.ext E128
          have KK := KK.ext E128
          have RR := RR.trans CR128
          have HH := CR128.1
          have hS := hS128
          have hk := hk128
          have hZ := hZ128
          have hown := ho128
          show GoH _ _ _ _ _ _ _ _ _ _  T128 (mkF m 184 #[.val (.int p1), .val (.int p2), .val (.int p3), .val (.int p4), .val (.int (1 : Int32)), .val (.int (1 : Int32)), .val (.int (0 : Int32)), .val (.int (0 : Int32)), .val (.ref b5), .val (.ref b8), .val (.ref b13), .val (.ref b91), .val (.ref b119), .val (.ref w_ADMIN), .unset, .unset, .unset, .unset, .unset] [(.ref sa128), (.ref sa127), (.ref w_ADMIN), (.ref sa126), (.ref sa125), (.ref b124), (.ref b124)])
          refine GoH.st (fun t k => XS.iconst X128.here hx rfl (hb hby at_184) k) ?_
          show GoH _ _ _ _ _ _ _ _ _ _  T128 (mkF m 185 #[.val (.int p1), .val (.int p2), .val (.int p3), .val (.int p4), .val (.int (1 : Int32)), .val (.int (1 : Int32)), .val (.int (0 : Int32)), .val (.int (0 : Int32)), .val (.ref b5), .val (.ref b8), .val (.ref b13), .val (.ref b91), .val (.ref b119), .val (.ref w_ADMIN), .unset, .unset, .unset, .unset, .unset] [(.int (0 : Int32)), (.ref sa128), (.ref sa127), (.ref w_ADMIN), (.ref sa126), (.ref sa125), (.ref b124), (.ref b124)])
          refine GoH.st (fun t k => XS.aconstNull X128.here hx rfl (hb hby at_185) k) ?_
          show GoH _ _ _ _ _ _ _ _ _ _  T128 (mkF m 186 #[.val (.int p1), .val (.int p2), .val (.int p3), .val (.int p4), .val (.int (1 : Int32)), .val (.int (1 : Int32)), .val (.int (0 : Int32)), .val (.int (0 : Int32)), .val (.ref b5), .val (.ref b8), .val (.ref b13), .val (.ref b91), .val (.ref b119), .val (.ref w_ADMIN), .unset, .unset, .unset, .unset, .unset] [.null, (.int (0 : Int32)), (.ref sa128), (.ref sa127), (.ref w_ADMIN), (.ref sa126), (.ref sa125), (.ref b124), (.ref b124)])
          refine GoH.st (fun t k => XS.iconst X128.here hx rfl (hb hby at_186) k) ?_
          show GoH _ _ _ _ _ _ _ _ _ _  T128 (mkF m 187 #[.val (.int p1), .val (.int p2), .val (.int p3), .val (.int p4), .val (.int (1 : Int32)), .val (.int (1 : Int32)), .val (.int (0 : Int32)), .val (.int (0 : Int32)), .val (.ref b5), .val (.ref b8), .val (.ref b13), .val (.ref b91), .val (.ref b119), .val (.ref w_ADMIN), .unset, .unset, .unset, .unset, .unset] [(.int (0 : Int32)), .null, (.int (0 : Int32)), (.ref sa128), (.ref sa127), (.ref w_ADMIN), (.ref sa126), (.ref sa125), (.ref b124), (.ref b124)])
          refine GoH.st (fun t k => XS.aconstNull X128.here hx rfl (hb hby at_187) k) ?_
          show GoH _ _ _ _ _ _ _ _ _ _  T128 (mkF m 188 #[.val (.int p1), .val (.int p2), .val (.int p3), .val (.int p4), .val (.int (1 : Int32)), .val (.int (1 : Int32)), .val (.int (0 : Int32)), .val (.int (0 : Int32)), .val (.ref b5), .val (.ref b8), .val (.ref b13), .val (.ref b91), .val (.ref b119), .val (.ref w_ADMIN), .unset, .unset, .unset, .unset, .unset] [.null, (.int (0 : Int32)), .null, (.int (0 : Int32)), (.ref sa128), (.ref sa127), (.ref w_ADMIN), (.ref sa126), (.ref sa125), (.ref b124), (.ref b124)])
          refine GoH.st (fun t k => XS.aconstNull X128.here hx rfl (hb hby at_188) k) ?_
          show GoH _ _ _ _ _ _ _ _ _ _  T128 (mkF m 189 #[.val (.int p1), .val (.int p2), .val (.int p3), .val (.int p4), .val (.int (1 : Int32)), .val (.int (1 : Int32)), .val (.int (0 : Int32)), .val (.int (0 : Int32)), .val (.ref b5), .val (.ref b8), .val (.ref b13), .val (.ref b91), .val (.ref b119), .val (.ref w_ADMIN), .unset, .unset, .unset, .unset, .unset] [.null, .null, (.int (0 : Int32)), .null, (.int (0 : Int32)), (.ref sa128), (.ref sa127), (.ref w_ADMIN), (.ref sa126), (.ref sa125), (.ref b124), (.ref b124)])
          refine GoH.st (fun t k => XS.iconst X128.here hx rfl (hb hby at_189) k) ?_
          show GoH _ _ _ _ _ _ _ _ _ _  T128 (mkF m 190 #[.val (.int p1), .val (.int p2), .val (.int p3), .val (.int p4), .val (.int (1 : Int32)), .val (.int (1 : Int32)), .val (.int (0 : Int32)), .val (.int (0 : Int32)), .val (.ref b5), .val (.ref b8), .val (.ref b13), .val (.ref b91), .val (.ref b119), .val (.ref w_ADMIN), .unset, .unset, .unset, .unset, .unset] [(.int (0 : Int32)), .null, .null, (.int (0 : Int32)), .null, (.int (0 : Int32)), (.ref sa128), (.ref sa127), (.ref w_ADMIN), (.ref sa126), (.ref sa125), (.ref b124), (.ref b124)])
          obtain ⟨_, _, ⟨T129, L129, k129, n129⟩, -, X129, ⟨Lc129, hQ129, l129, y129, z129⟩, st129⟩ := X128.specialBack hx (y := (⟨"com/example/wellness_on_record/wellnessonrecord/apps/App", "<init>", "(Ljava/lang/String;Ljava/lang/String;Lcom/example/wellness_on_record/wellnessonrecord/apps/App$Kind;Ljava/lang/String;Ljava/lang/String;ZLjava/lang/String;ZLjava/lang/String;Ljava/lang/String;Z)V"⟩ : MethodName)) rfl hown (mvT hZ (hw _ (List.mem_of_getElem? (i := 42) rfl))) (mvT hZ (hw _ (List.mem_of_getElem? (i := 43) rfl))) (mvT hZ (hw _ (List.mem_of_getElem? (i := 44) rfl))) (by decide) (backOf (W := 1) (rmA l Z a0 hw [] b124 sa125 sa126 w_ADMIN sa127 sa128 h128 n0 O E_b124 F_id_b124 F_name_b124 F_kind_b124 F_consumerKey_b124 F_consumerSecret_b124 F_autonomous_b124 F_autonomousReason_b124 F_hasUi_b124 F_callbackUrl_b124 F_startUrlTemplate_b124 F_frameable_b124 g_b124) hZ (hw _ (List.mem_of_getElem? (i := 44) rfl)) (hw _ (List.mem_of_getElem? (i := 35) rfl)) (by decide) (by decide)) (g := (mkF m 190 #[.val (.int p1), .val (.int p2), .val (.int p3), .val (.int p4), .val (.int (1 : Int32)), .val (.int (1 : Int32)), .val (.int (0 : Int32)), .val (.int (0 : Int32)), .val (.ref b5), .val (.ref b8), .val (.ref b13), .val (.ref b91), .val (.ref b119), .val (.ref w_ADMIN), .unset, .unset, .unset, .unset, .unset] [(.int (0 : Int32)), .null, .null, (.int (0 : Int32)), .null, (.int (0 : Int32)), (.ref sa128), (.ref sa127), (.ref w_ADMIN), (.ref sa126), (.ref sa125), (.ref b124), (.ref b124)])) rfl (by rw [hml]; rfl) (Steps.refl _) (a := b124) (argsL := [(.ref sa125), (.ref sa126), (.ref w_ADMIN), (.ref sa127), (.ref sa128), (.int (0 : Int32)), .null, (.int (0 : Int32)), .null, .null, (.int (0 : Int32))]) (rest := [(.ref b124)]) (lenOf pd__Ljava_lang_String_Ljava_lang_String_Lcom_example_wellness_on_record_wellnessonrecord_apps_App_Kind_Ljava_lang_String_Ljava_lang_String_ZLjava_lang_String_ZLjava_lang_String_Ljava_lang_String_Z_V rfl) rfl (by show 2 * 0 + _ ≤ _; exact Nat.le_of_eq rfl) (hb hby at_190) (fun _ _ => ⟨rfl, e128, (by decide : 16 + 0 ≤ _), (by decide : 101 + 0 ≤ _)⟩)
          dsimp only [Pt.U, Pt.locs, Pt.cells, Pt.slots] at X129 l129 y129 z129 st129 hQ129
          subst l129 y129 z129
          obtain ⟨rfl, N129q, K129q, Eq129, Fk129⟩ := hQ129
          have N129 := Fr.app N121 N129q
          refine GoH.tr st129 ?_
          have V_b5 := V_b5.keep K129q (ninS ne_b5_b124 nin0)
          have V_b8 := V_b8.keep K129q (ninS ne_b8_b124 nin0)
          have V_b13 := V_b13.keep K129q (ninS ne_b13_b124 nin0)
          have E_b124 := E_b124.keep K129q
          have sfw129 := (sfS Sf_b124 sf0)
          have Sf_b5 := Safe.keep K129q sfw129 HH Sf_b5
          have Sf_b8 := Safe.keep K129q sfw129 HH Sf_b8
          have Sf_b13 := Safe.keep K129q sfw129 HH Sf_b13
          have Sf_b124 := Safe.keep K129q sfw129 HH Sf_b124
          have RR := RR.trans (CHr.keep K129q sfw129 HH)
          have HH := HH.keep K129q sfw129
          have hk := Nat.le_trans hk K129q.1
          have O := O.keep K129q (allS g_b124 all0)
          have KK := KK.trans K129q (allS (Or.inr sz_b124) all0)
          have E_b124 := Eq129
          show GoH _ _ _ _ _ _ _ _ _ _  T129 (mkF m 193 #[.val (.int p1), .val (.int p2), .val (.int p3), .val (.int p4), .val (.int (1 : Int32)), .val (.int (1 : Int32)), .val (.int (0 : Int32)), .val (.int (0 : Int32)), .val (.ref b5), .val (.ref b8), .val (.ref b13), .val (.ref b91), .val (.ref b119), .val (.ref w_ADMIN), .unset, .unset, .unset, .unset, .unset] [(.ref b124)])
          refine GoH.st (fun t k => XS.astore X129.here hx rfl (hb hby at_193) rfl rfl (l' := #[.val (.int p1), .val (.int p2), .val (.int p3), .val (.int p4), .val (.int (1 : Int32)), .val (.int (1 : Int32)), .val (.int (0 : Int32)), .val (.int (0 : Int32)), .val (.ref b5), .val (.ref b8), .val (.ref b13), .val (.ref b91), .val (.ref b119), .val (.ref w_ADMIN), .val (.ref b124), .unset, .unset, .unset, .unset]) rfl k) ?_
          show GoH _ _ _ _ _ _ _ _ _ _  T129 (mkF m 195 #[.val (.int p1), .val (.int p2), .val (.int p3), .val (.int p4), .val (.int (1 : Int32)), .val (.int (1 : Int32)), .val (.int (0 : Int32)), .val (.int (0 : Int32)), .val (.ref b5), .val (.ref b8), .val (.ref b13), .val (.ref b91), .val (.ref b119), .val (.ref w_ADMIN), .val (.ref b124), .unset, .unset, .unset, .unset] [])
          obtain ⟨T130, h130, X130, e130, E130, A130, D130, -, st130⟩ := newO X129 hx hZ hown (hw _ (List.mem_of_getElem? (i := 73) rfl)) (hw _ (List.mem_of_getElem? (i := 74) rfl)) (hw _ (List.mem_of_getElem? (i := 75) rfl)) rfl (g := (mkF m 195 #[.val (.int p1), .val (.int p2), .val (.int p3), .val (.int p4), .val (.int (1 : Int32)), .val (.int (1 : Int32)), .val (.int (0 : Int32)), .val (.int (0 : Int32)), .val (.ref b5), .val (.ref b8), .val (.ref b13), .val (.ref b91), .val (.ref b119), .val (.ref w_ADMIN), .val (.ref b124), .unset, .unset, .unset, .unset] [])) rfl (hb hby at_195) (by decide) (by decide)
          obtain ⟨b130, g130⟩ : ∃ z, z = T129.heap.size := ⟨_, rfl⟩
          rw [← g130] at A130 D130 st130
          refine GoH.st st130 ?_
          have g_b130 : n0 ≤ b130 := by rw [g130]; exact own_le O
          have Sf_b130 : Safe Z EL T128.vm T129.heap b130 := Safe.new (Nat.le_of_eq g130.symm)
          have sz_b130 : h0.size ≤ b130 := by rw [g130]; exact KK.1
          have ne_b5_b130 : b5 ≠ b130 := Nat.ne_of_lt (by rw [g130]; exact V_b5.lt)
          have ne_b8_b130 : b8 ≠ b130 := Nat.ne_of_lt (by rw [g130]; exact V_b8.lt)
          have ne_b13_b130 : b13 ≠ b130 := Nat.ne_of_lt (by rw [g130]; exact V_b13.lt)
          have ne_b124_b130 : b124 ≠ b130 := Nat.ne_of_lt (by rw [g130]; exact E_b124.lt)
          have V_b5 := V_b5.ext E130
          have V_b8 := V_b8.ext E130
          have V_b13 := V_b13.ext E130
          have E_b124 := E_b124.ext E130
          have Fk129 := Fk129.ext E130
          have Sf_b5 := Safe.ext E130 HH Sf_b5
          have Sf_b8 := Safe.ext E130 HH Sf_b8
          have Sf_b13 := Safe.ext E130 HH Sf_b13
          have Sf_b124 := Safe.ext E130 HH Sf_b124
          have Sf_b130 := Safe.ext E130 HH Sf_b130
          have RR := RR.trans (CHr.ext E130 HH)
          have HH := HH.ext E130
          have hk := Nat.le_trans hk E130.1
          have O := O.ext E130
          have KK := KK.ext E130
          have E_b130 := A130
          have F_app_b130 : Fld Z h130 b130 "com/example/wellness_on_record/wellnessonrecord/oauth/Principal" "app" "Lcom/example/wellness_on_record/wellnessonrecord/apps/App;" .null := D130 (Or.inr (hw _ (List.mem_of_getElem? (i := 81) rfl))) (ty := (.object "com/example/wellness_on_record/wellnessonrecord/apps/App")) (by decide)
          have F_recordId_b130 : Fld Z h130 b130 "com/example/wellness_on_record/wellnessonrecord/oauth/Principal" "recordId" "Ljava/lang/String;" .null := D130 (Or.inr (hw _ (List.mem_of_getElem? (i := 83) rfl))) (ty := (.object "java/lang/String")) (by decide)
          have F_requestToken_b130 : Fld Z h130 b130 "com/example/wellness_on_record/wellnessonrecord/oauth/Principal" "requestToken" "Ljava/lang/String;" .null := D130 (Or.inr (hw _ (List.mem_of_getElem? (i := 85) rfl))) (ty := (.object "java/lang/String")) (by decide)
          show GoH _ _ _ _ _ _ _ _ _ _  T130 (mkF m 198 #[.val (.int p1), .val (.int p2), .val (.int p3), .val (.int p4), .val (.int (1 : Int32)), .val (.int (1 : Int32)), .val (.int (0 : Int32)), .val (.int (0 : Int32)), .val (.ref b5), .val (.ref b8), .val (.ref b13), .val (.ref b91), .val (.ref b119), .val (.ref w_ADMIN), .val (.ref b124), .unset, .unset, .unset, .unset] [(.ref b130)])
          refine GoH.st (fun t k => XS.dup X130.here hx rfl (hb hby at_198) rfl rfl k) ?_
          show GoH _ _ _ _ _ _ _ _ _ _  T130 (mkF m 199 #[.val (.int p1), .val (.int p2), .val (.int p3), .val (.int p4), .val (.int (1 : Int32)), .val (.int (1 : Int32)), .val (.int (0 : Int32)), .val (.int (0 : Int32)), .val (.ref b5), .val (.ref b8), .val (.ref b13), .val (.ref b91), .val (.ref b119), .val (.ref w_ADMIN), .val (.ref b124), .unset, .unset, .unset, .unset] [(.ref b130), (.ref b130)])
          refine GoH.st (fun t k => XS.aload X130.here hx rfl (hb hby at_199) rfl rfl  k) ?_
          show GoH _ _ _ _ _ _ _ _ _ _  T130 (mkF m 201 #[.val (.int p1), .val (.int p2), .val (.int p3), .val (.int p4), .val (.int (1 : Int32)), .val (.int (1 : Int32)), .val (.int (0 : Int32)), .val (.int (0 : Int32)), .val (.ref b5), .val (.ref b8), .val (.ref b13), .val (.ref b91), .val (.ref b119), .val (.ref w_ADMIN), .val (.ref b124), .unset, .unset, .unset, .unset] [(.ref b124), (.ref b130), (.ref b130)])
          refine GoH.st (fun t k => XS.aload X130.here hx rfl (hb hby at_201) rfl rfl  k) ?_
          show GoH _ _ _ _ _ _ _ _ _ _  T130 (mkF m 203 #[.val (.int p1), .val (.int p2), .val (.int p3), .val (.int p4), .val (.int (1 : Int32)), .val (.int (1 : Int32)), .val (.int (0 : Int32)), .val (.int (0 : Int32)), .val (.ref b5), .val (.ref b8), .val (.ref b13), .val (.ref b91), .val (.ref b119), .val (.ref w_ADMIN), .val (.ref b124), .unset, .unset, .unset, .unset] [(.ref b91), (.ref b124), (.ref b130), (.ref b130)])
          refine GoH.st (fun t k => XS.aload X130.here hx rfl (hb hby at_203) rfl rfl  k) ?_
          show GoH _ _ _ _ _ _ _ _ _ _  T130 (mkF m 205 #[.val (.int p1), .val (.int p2), .val (.int p3), .val (.int p4), .val (.int (1 : Int32)), .val (.int (1 : Int32)), .val (.int (0 : Int32)), .val (.int (0 : Int32)), .val (.ref b5), .val (.ref b8), .val (.ref b13), .val (.ref b91), .val (.ref b119), .val (.ref w_ADMIN), .val (.ref b124), .unset, .unset, .unset, .unset] [(.ref b119), (.ref b91), (.ref b124), (.ref b130), (.ref b130)])
          obtain ⟨_, _, ⟨T131, L131, k131, n131⟩, -, X131, ⟨Lc131, hQ131, l131, y131, z131⟩, st131⟩ := X130.specialBack hx (y := (⟨"com/example/wellness_on_record/wellnessonrecord/oauth/Principal", "<init>", "(Lcom/example/wellness_on_record/wellnessonrecord/apps/App;Ljava/lang/String;Ljava/lang/String;)V"⟩ : MethodName)) rfl hown (mvT hZ (hw _ (List.mem_of_getElem? (i := 76) rfl))) (mvT hZ (hw _ (List.mem_of_getElem? (i := 77) rfl))) (mvT hZ (hw _ (List.mem_of_getElem? (i := 78) rfl))) (by decide) (backOf (W := 1) (rmP l Z a0 hw [] b130 b124 (.ref b91) (.ref b119) h130 n0 O E_b130 F_app_b130 F_recordId_b130 F_requestToken_b130 g_b130 rfl rfl) hZ (hw _ (List.mem_of_getElem? (i := 78) rfl)) (hw _ (List.mem_of_getElem? (i := 75) rfl)) (by decide) (by decide)) (g := (mkF m 205 #[.val (.int p1), .val (.int p2), .val (.int p3), .val (.int p4), .val (.int (1 : Int32)), .val (.int (1 : Int32)), .val (.int (0 : Int32)), .val (.int (0 : Int32)), .val (.ref b5), .val (.ref b8), .val (.ref b13), .val (.ref b91), .val (.ref b119), .val (.ref w_ADMIN), .val (.ref b124), .unset, .unset, .unset, .unset] [(.ref b119), (.ref b91), (.ref b124), (.ref b130), (.ref b130)])) rfl (by rw [hml]; rfl) (Steps.refl _) (a := b130) (argsL := [(.ref b124), (.ref b91), (.ref b119)]) (rest := [(.ref b130)]) (lenOf pd__Lcom_example_wellness_on_record_wellnessonrecord_apps_App_Ljava_lang_String_Ljava_lang_String__V rfl) rfl (by show 2 * 0 + _ ≤ _; exact Nat.le_of_eq rfl) (hb hby at_205) (fun _ _ => ⟨rfl, e130, (by decide : 17 + 0 ≤ _), (by decide : 104 + 0 ≤ _)⟩)
          dsimp only [Pt.U, Pt.locs, Pt.cells, Pt.slots] at X131 l131 y131 z131 st131 hQ131
          subst l131 y131 z131
          obtain ⟨rfl, N131q, K131q, Eq131, Fa131, Fr131, Ft131⟩ := hQ131
          have N131 := Fr.app N129 N131q
          refine GoH.tr st131 ?_
          have V_b5 := V_b5.keep K131q (ninS ne_b5_b130 nin0)
          have V_b8 := V_b8.keep K131q (ninS ne_b8_b130 nin0)
          have V_b13 := V_b13.keep K131q (ninS ne_b13_b130 nin0)
          have E_b124 := E_b124.keep K131q
          have Fk129 := Fk129.keep K131q (ninS ne_b124_b130 nin0)
          have E_b130 := E_b130.keep K131q
          have sfw131 := (sfS Sf_b130 sf0)
          have Sf_b5 := Safe.keep K131q sfw131 HH Sf_b5
          have Sf_b8 := Safe.keep K131q sfw131 HH Sf_b8
          have Sf_b13 := Safe.keep K131q sfw131 HH Sf_b13
          have Sf_b124 := Safe.keep K131q sfw131 HH Sf_b124
          have Sf_b130 := Safe.keep K131q sfw131 HH Sf_b130
          have RR := RR.trans (CHr.keep K131q sfw131 HH)
          have HH := HH.keep K131q sfw131
          have hk := Nat.le_trans hk K131q.1
          have O := O.keep K131q (allS g_b130 all0)
          have KK := KK.trans K131q (allS (Or.inr sz_b130) all0)
          have E_b130 := Eq131
          show GoH _ _ _ _ _ _ _ _ _ _  T131 (mkF m 208 #[.val (.int p1), .val (.int p2), .val (.int p3), .val (.int p4), .val (.int (1 : Int32)), .val (.int (1 : Int32)), .val (.int (0 : Int32)), .val (.int (0 : Int32)), .val (.ref b5), .val (.ref b8), .val (.ref b13), .val (.ref b91), .val (.ref b119), .val (.ref w_ADMIN), .val (.ref b124), .unset, .unset, .unset, .unset] [(.ref b130)])
          refine GoH.st (fun t k => XS.astore X131.here hx rfl (hb hby at_208) rfl rfl (l' := #[.val (.int p1), .val (.int p2), .val (.int p3), .val (.int p4), .val (.int (1 : Int32)), .val (.int (1 : Int32)), .val (.int (0 : Int32)), .val (.int (0 : Int32)), .val (.ref b5), .val (.ref b8), .val (.ref b13), .val (.ref b91), .val (.ref b119), .val (.ref w_ADMIN), .val (.ref b124), .val (.ref b130), .unset, .unset, .unset]) rfl k) ?_
          show GoH _ _ _ _ _ _ _ _ _ _  T131 (mkF m 210 #[.val (.int p1), .val (.int p2), .val (.int p3), .val (.int p4), .val (.int (1 : Int32)), .val (.int (1 : Int32)), .val (.int (0 : Int32)), .val (.int (0 : Int32)), .val (.ref b5), .val (.ref b8), .val (.ref b13), .val (.ref b91), .val (.ref b119), .val (.ref w_ADMIN), .val (.ref b124), .val (.ref b130), .unset, .unset, .unset] [])
          refine GoH.st (fun t k => XS.aload X131.here hx rfl (hb hby at_210) rfl rfl  k) ?_
          show GoH _ _ _ _ _ _ _ _ _ _  T131 (mkF m 212 #[.val (.int p1), .val (.int p2), .val (.int p3), .val (.int p4), .val (.int (1 : Int32)), .val (.int (1 : Int32)), .val (.int (0 : Int32)), .val (.int (0 : Int32)), .val (.ref b5), .val (.ref b8), .val (.ref b13), .val (.ref b91), .val (.ref b119), .val (.ref w_ADMIN), .val (.ref b124), .val (.ref b130), .unset, .unset, .unset] [(.ref b130)])
          obtain ⟨cq132, kq132, q132a, q132b, q132c⟩ := isOf hZ rfl E_b130
          obtain ⟨_, _, ⟨T132, L132, k132, n132⟩, -, X132, ⟨Lc132, hQ132, l132, y132, z132⟩, st132⟩ := X131.virtualBack hx (y := (⟨"com/example/wellness_on_record/wellnessonrecord/oauth/Principal", "holdsRequestToken", "()Z"⟩ : MethodName)) (z := (⟨"com/example/wellness_on_record/wellnessonrecord/oauth/Principal", "holdsRequestToken", "()Z"⟩ : MethodName)) hown (mvT hZ (hw _ (List.mem_of_getElem? (i := 86) rfl))) (mvT hZ (hw _ (List.mem_of_getElem? (i := 87) rfl))) (notFace_of_selects (args := #[]) (mvT hZ (hw _ (List.mem_of_getElem? (i := 89) rfl)))) (mvT hZ (hw _ (List.mem_of_getElem? (i := 89) rfl))) (mvT hZ (hw _ (List.mem_of_getElem? (i := 88) rfl))) (by decide) (backOf (W := 0) (rmH l Z a0 hw [] b130 (.ref b119) T131.heap n0 O Ft131 rfl) hZ (hw _ (List.mem_of_getElem? (i := 90) rfl)) (hw _ (List.mem_of_getElem? (i := 75) rfl)) (by decide) (by decide)) q132a q132c (g := (mkF m 212 #[.val (.int p1), .val (.int p2), .val (.int p3), .val (.int p4), .val (.int (1 : Int32)), .val (.int (1 : Int32)), .val (.int (0 : Int32)), .val (.int (0 : Int32)), .val (.ref b5), .val (.ref b8), .val (.ref b13), .val (.ref b91), .val (.ref b119), .val (.ref w_ADMIN), .val (.ref b124), .val (.ref b130), .unset, .unset, .unset] [(.ref b130)])) rfl (by rw [hml]; rfl) (Steps.refl _) (argsL := []) (rest := []) (lenOf pd___Z rfl) rfl (by show 2 * 0 + _ ≤ _; exact Nat.le_of_eq rfl) (hb hby at_212) (fun _ _ => ⟨rfl, rfl, (by decide : 17 + 0 ≤ _), (by decide : 104 + 0 ≤ _)⟩)
          dsimp only [Pt.U, Pt.locs, Pt.cells, Pt.slots] at X132 l132 y132 z132 st132 hQ132
          subst l132 y132 z132
          obtain ⟨rfl, N132q, e132q⟩ := hQ132
          have N132 := Fr.app N131 N132q
          refine GoH.tr st132 ?_
          rw [show (if (.ref b119) = Value.null then (0 : Int32) else 1) = (1 : Int32) from by simp]
          show GoH _ _ _ _ _ _ _ _ _ _  T132 (mkF m 215 #[.val (.int p1), .val (.int p2), .val (.int p3), .val (.int p4), .val (.int (1 : Int32)), .val (.int (1 : Int32)), .val (.int (0 : Int32)), .val (.int (0 : Int32)), .val (.ref b5), .val (.ref b8), .val (.ref b13), .val (.ref b91), .val (.ref b119), .val (.ref w_ADMIN), .val (.ref b124), .val (.ref b130), .unset, .unset, .unset] [(.int (1 : Int32))])
          refine GoH.st (fun t k => XS.istore X132.here hx rfl (hb hby at_215) rfl (l' := #[.val (.int p1), .val (.int p2), .val (.int p3), .val (.int p4), .val (.int (1 : Int32)), .val (.int (1 : Int32)), .val (.int (0 : Int32)), .val (.int (0 : Int32)), .val (.ref b5), .val (.ref b8), .val (.ref b13), .val (.ref b91), .val (.ref b119), .val (.ref w_ADMIN), .val (.ref b124), .val (.ref b130), .val (.int (1 : Int32)), .unset, .unset]) rfl k) ?_
          show GoH _ _ _ _ _ _ _ _ _ _  T132 (mkF m 217 #[.val (.int p1), .val (.int p2), .val (.int p3), .val (.int p4), .val (.int (1 : Int32)), .val (.int (1 : Int32)), .val (.int (0 : Int32)), .val (.int (0 : Int32)), .val (.ref b5), .val (.ref b8), .val (.ref b13), .val (.ref b91), .val (.ref b119), .val (.ref w_ADMIN), .val (.ref b124), .val (.ref b130), .val (.int (1 : Int32)), .unset, .unset] [])
          refine GoH.st (fun t k => XS.iload X132.here hx rfl (hb hby at_217) rfl  k) ?_
          show GoH _ _ _ _ _ _ _ _ _ _  T132 (mkF m 219 #[.val (.int p1), .val (.int p2), .val (.int p3), .val (.int p4), .val (.int (1 : Int32)), .val (.int (1 : Int32)), .val (.int (0 : Int32)), .val (.int (0 : Int32)), .val (.ref b5), .val (.ref b8), .val (.ref b13), .val (.ref b91), .val (.ref b119), .val (.ref w_ADMIN), .val (.ref b124), .val (.ref b130), .val (.int (1 : Int32)), .unset, .unset] [(.int (1 : Int32))])
          refine GoH.st (fun t k => XS.iload X132.here hx rfl (hb hby at_219) rfl  k) ?_
          show GoH _ _ _ _ _ _ _ _ _ _  T132 (mkF m 221 #[.val (.int p1), .val (.int p2), .val (.int p3), .val (.int p4), .val (.int (1 : Int32)), .val (.int (1 : Int32)), .val (.int (0 : Int32)), .val (.int (0 : Int32)), .val (.ref b5), .val (.ref b8), .val (.ref b13), .val (.ref b91), .val (.ref b119), .val (.ref w_ADMIN), .val (.ref b124), .val (.ref b130), .val (.int (1 : Int32)), .unset, .unset] [(.int (1 : Int32)), (.int (1 : Int32))])
          refine GoH.st (fun t k => XS.icmpYes X132.here hx rfl (pc0 := 221) (pc' := 226) rfl (hb hby at_221) rfl (teq (rfl : (1 : Int32) = (1 : Int32))).1 (by decide) (by decide) k) ?_
          show GoH _ _ _ _ _ _ _ _ _ _  T132 (mkF m 226 #[.val (.int p1), .val (.int p2), .val (.int p3), .val (.int p4), .val (.int (1 : Int32)), .val (.int (1 : Int32)), .val (.int (0 : Int32)), .val (.int (0 : Int32)), .val (.ref b5), .val (.ref b8), .val (.ref b13), .val (.ref b91), .val (.ref b119), .val (.ref w_ADMIN), .val (.ref b124), .val (.ref b130), .val (.int (1 : Int32)), .unset, .unset] [])
          refine GoH.st (fun t k => XS.aload X132.here hx rfl (hb hby at_226) rfl rfl  k) ?_
          show GoH _ _ _ _ _ _ _ _ _ _  T132 (mkF m 228 #[.val (.int p1), .val (.int p2), .val (.int p3), .val (.int p4), .val (.int (1 : Int32)), .val (.int (1 : Int32)), .val (.int (0 : Int32)), .val (.int (0 : Int32)), .val (.ref b5), .val (.ref b8), .val (.ref b13), .val (.ref b91), .val (.ref b119), .val (.ref w_ADMIN), .val (.ref b124), .val (.ref b130), .val (.int (1 : Int32)), .unset, .unset] [(.ref b130)])
          obtain ⟨cq133, kq133, q133a, q133b, q133c⟩ := isOf hZ e132q E_b130
          obtain ⟨_, _, ⟨T133, L133, k133, n133⟩, -, X133, ⟨Lc133, hQ133, l133, y133, z133⟩, st133⟩ := X132.virtualBack hx (y := (⟨"com/example/wellness_on_record/wellnessonrecord/oauth/Principal", "isUserAppAlone", "()Z"⟩ : MethodName)) (z := (⟨"com/example/wellness_on_record/wellnessonrecord/oauth/Principal", "isUserAppAlone", "()Z"⟩ : MethodName)) hown (mvT hZ (hw _ (List.mem_of_getElem? (i := 91) rfl))) (mvT hZ (hw _ (List.mem_of_getElem? (i := 92) rfl))) (notFace_of_selects (args := #[]) (mvT hZ (hw _ (List.mem_of_getElem? (i := 94) rfl)))) (mvT hZ (hw _ (List.mem_of_getElem? (i := 94) rfl))) (mvT hZ (hw _ (List.mem_of_getElem? (i := 93) rfl))) (by decide) (backOf (W := 0) (rmU l Z a0 hw [] b130 b124 w_ADMIN (.ref b91) (.ref b119) w_USER T131.heap n0 O Fa131 Fr131 Ft131 rfl rfl Fk129 E_b130 E_b124 S_USER) hZ (hw _ (List.mem_of_getElem? (i := 95) rfl)) (hw _ (List.mem_of_getElem? (i := 75) rfl)) (by decide) (by decide)) q133a q133c (g := (mkF m 228 #[.val (.int p1), .val (.int p2), .val (.int p3), .val (.int p4), .val (.int (1 : Int32)), .val (.int (1 : Int32)), .val (.int (0 : Int32)), .val (.int (0 : Int32)), .val (.ref b5), .val (.ref b8), .val (.ref b13), .val (.ref b91), .val (.ref b119), .val (.ref w_ADMIN), .val (.ref b124), .val (.ref b130), .val (.int (1 : Int32)), .unset, .unset] [(.ref b130)])) rfl (by rw [hml]; rfl) (Steps.refl _) (argsL := []) (rest := []) (lenOf pd___Z rfl) rfl (by show 2 * 0 + _ ≤ _; exact Nat.le_of_eq rfl) (hb hby at_228) (fun _ _ => ⟨rfl, e132q, (by decide : 17 + 0 ≤ _), (by decide : 104 + 0 ≤ _)⟩)
          dsimp only [Pt.U, Pt.locs, Pt.cells, Pt.slots] at X133 l133 y133 z133 st133 hQ133
          subst l133 y133 z133
          obtain ⟨rfl, N133q, e133q⟩ := hQ133
          have N133 := Fr.app N132 N133q
          refine GoH.tr st133 ?_
          rw [show (if w_ADMIN = w_USER then (if (.ref b91) = Value.null then (if (.ref b119) = Value.null then (1 : Int32) else 0) else 0) else 0) = (0 : Int32) from by simp [nAU]]
          show GoH _ _ _ _ _ _ _ _ _ _  T133 (mkF m 231 #[.val (.int p1), .val (.int p2), .val (.int p3), .val (.int p4), .val (.int (1 : Int32)), .val (.int (1 : Int32)), .val (.int (0 : Int32)), .val (.int (0 : Int32)), .val (.ref b5), .val (.ref b8), .val (.ref b13), .val (.ref b91), .val (.ref b119), .val (.ref w_ADMIN), .val (.ref b124), .val (.ref b130), .val (.int (1 : Int32)), .unset, .unset] [(.int (0 : Int32))])
          refine GoH.st (fun t k => XS.istore X133.here hx rfl (hb hby at_231) rfl (l' := #[.val (.int p1), .val (.int p2), .val (.int p3), .val (.int p4), .val (.int (1 : Int32)), .val (.int (1 : Int32)), .val (.int (0 : Int32)), .val (.int (0 : Int32)), .val (.ref b5), .val (.ref b8), .val (.ref b13), .val (.ref b91), .val (.ref b119), .val (.ref w_ADMIN), .val (.ref b124), .val (.ref b130), .val (.int (1 : Int32)), .val (.int (0 : Int32)), .unset]) rfl k) ?_
          show GoH _ _ _ _ _ _ _ _ _ _  T133 (mkF m 233 #[.val (.int p1), .val (.int p2), .val (.int p3), .val (.int p4), .val (.int (1 : Int32)), .val (.int (1 : Int32)), .val (.int (0 : Int32)), .val (.int (0 : Int32)), .val (.ref b5), .val (.ref b8), .val (.ref b13), .val (.ref b91), .val (.ref b119), .val (.ref w_ADMIN), .val (.ref b124), .val (.ref b130), .val (.int (1 : Int32)), .val (.int (0 : Int32)), .unset] [])
          refine GoH.st (fun t k => XS.iload X133.here hx rfl (hb hby at_233) rfl  k) ?_
          show GoH _ _ _ _ _ _ _ _ _ _  T133 (mkF m 235 #[.val (.int p1), .val (.int p2), .val (.int p3), .val (.int p4), .val (.int (1 : Int32)), .val (.int (1 : Int32)), .val (.int (0 : Int32)), .val (.int (0 : Int32)), .val (.ref b5), .val (.ref b8), .val (.ref b13), .val (.ref b91), .val (.ref b119), .val (.ref w_ADMIN), .val (.ref b124), .val (.ref b130), .val (.int (1 : Int32)), .val (.int (0 : Int32)), .unset] [(.int (1 : Int32))])
          refine GoH.st (fun t k => XS.ifYes X133.here hx rfl (pc0 := 235) (pc' := 252) rfl (hb hby at_235) rfl ((if0 _ _).trans (feq (by decide : ¬ ((1 : Int32) = (0 : Int32)))).2) (by decide) (by decide) k) ?_
          show GoH _ _ _ _ _ _ _ _ _ _  T133 (mkF m 252 #[.val (.int p1), .val (.int p2), .val (.int p3), .val (.int p4), .val (.int (1 : Int32)), .val (.int (1 : Int32)), .val (.int (0 : Int32)), .val (.int (0 : Int32)), .val (.ref b5), .val (.ref b8), .val (.ref b13), .val (.ref b91), .val (.ref b119), .val (.ref w_ADMIN), .val (.ref b124), .val (.ref b130), .val (.int (1 : Int32)), .val (.int (0 : Int32)), .unset] [])
          refine GoH.st (fun t k => XS.iconst X133.here hx rfl (hb hby at_252) k) ?_
          show GoH _ _ _ _ _ _ _ _ _ _  T133 (mkF m 253 #[.val (.int p1), .val (.int p2), .val (.int p3), .val (.int p4), .val (.int (1 : Int32)), .val (.int (1 : Int32)), .val (.int (0 : Int32)), .val (.int (0 : Int32)), .val (.ref b5), .val (.ref b8), .val (.ref b13), .val (.ref b91), .val (.ref b119), .val (.ref w_ADMIN), .val (.ref b124), .val (.ref b130), .val (.int (1 : Int32)), .val (.int (0 : Int32)), .unset] [(.int (0 : Int32))])
          refine GoH.st (fun t k => XS.istore X133.here hx rfl (hb hby at_253) rfl (l' := #[.val (.int p1), .val (.int p2), .val (.int p3), .val (.int p4), .val (.int (1 : Int32)), .val (.int (1 : Int32)), .val (.int (0 : Int32)), .val (.int (0 : Int32)), .val (.ref b5), .val (.ref b8), .val (.ref b13), .val (.ref b91), .val (.ref b119), .val (.ref w_ADMIN), .val (.ref b124), .val (.ref b130), .val (.int (1 : Int32)), .val (.int (0 : Int32)), .val (.int (0 : Int32))]) rfl k) ?_
          show GoH _ _ _ _ _ _ _ _ _ _  T133 (mkF m 255 #[.val (.int p1), .val (.int p2), .val (.int p3), .val (.int p4), .val (.int (1 : Int32)), .val (.int (1 : Int32)), .val (.int (0 : Int32)), .val (.int (0 : Int32)), .val (.ref b5), .val (.ref b8), .val (.ref b13), .val (.ref b91), .val (.ref b119), .val (.ref w_ADMIN), .val (.ref b124), .val (.ref b130), .val (.int (1 : Int32)), .val (.int (0 : Int32)), .val (.int (0 : Int32))] [])
          refine GoH.st (fun t k => XS.iload X133.here hx rfl (hb hby at_255) rfl  k) ?_
          show GoH _ _ _ _ _ _ _ _ _ _  T133 (mkF m 257 #[.val (.int p1), .val (.int p2), .val (.int p3), .val (.int p4), .val (.int (1 : Int32)), .val (.int (1 : Int32)), .val (.int (0 : Int32)), .val (.int (0 : Int32)), .val (.ref b5), .val (.ref b8), .val (.ref b13), .val (.ref b91), .val (.ref b119), .val (.ref w_ADMIN), .val (.ref b124), .val (.ref b130), .val (.int (1 : Int32)), .val (.int (0 : Int32)), .val (.int (0 : Int32))] [(.int (0 : Int32))])
          refine GoH.st (fun t k => XS.iload X133.here hx rfl (hb hby at_257) rfl  k) ?_
          show GoH _ _ _ _ _ _ _ _ _ _  T133 (mkF m 259 #[.val (.int p1), .val (.int p2), .val (.int p3), .val (.int p4), .val (.int (1 : Int32)), .val (.int (1 : Int32)), .val (.int (0 : Int32)), .val (.int (0 : Int32)), .val (.ref b5), .val (.ref b8), .val (.ref b13), .val (.ref b91), .val (.ref b119), .val (.ref w_ADMIN), .val (.ref b124), .val (.ref b130), .val (.int (1 : Int32)), .val (.int (0 : Int32)), .val (.int (0 : Int32))] [(.int (0 : Int32)), (.int (0 : Int32))])
          refine GoH.st (fun t k => XS.icmpNo X133.here hx rfl (hb hby at_259) rfl (teq (rfl : (0 : Int32) = (0 : Int32))).2 k) ?_
          show GoH _ _ _ _ _ _ _ _ _ _  T133 (mkF m 262 #[.val (.int p1), .val (.int p2), .val (.int p3), .val (.int p4), .val (.int (1 : Int32)), .val (.int (1 : Int32)), .val (.int (0 : Int32)), .val (.int (0 : Int32)), .val (.ref b5), .val (.ref b8), .val (.ref b13), .val (.ref b91), .val (.ref b119), .val (.ref w_ADMIN), .val (.ref b124), .val (.ref b130), .val (.int (1 : Int32)), .val (.int (0 : Int32)), .val (.int (0 : Int32))] [])
          refine GoH.st (fun t k => XS.iconst X133.here hx rfl (hb hby at_262) k) ?_
          show GoH _ _ _ _ _ _ _ _ _ _  T133 (mkF m 263 #[.val (.int p1), .val (.int p2), .val (.int p3), .val (.int p4), .val (.int (1 : Int32)), .val (.int (1 : Int32)), .val (.int (0 : Int32)), .val (.int (0 : Int32)), .val (.ref b5), .val (.ref b8), .val (.ref b13), .val (.ref b91), .val (.ref b119), .val (.ref w_ADMIN), .val (.ref b124), .val (.ref b130), .val (.int (1 : Int32)), .val (.int (0 : Int32)), .val (.int (0 : Int32))] [(.int (1 : Int32))])
          refine GoH.st (fun t k => XS.goto X133.here hx rfl (pc0 := 263) (pc' := 267) rfl (hb hby at_263) (by decide) (by decide) k) ?_
          show GoH _ _ _ _ _ _ _ _ _ _  T133 (mkF m 267 #[.val (.int p1), .val (.int p2), .val (.int p3), .val (.int p4), .val (.int (1 : Int32)), .val (.int (1 : Int32)), .val (.int (0 : Int32)), .val (.int (0 : Int32)), .val (.ref b5), .val (.ref b8), .val (.ref b13), .val (.ref b91), .val (.ref b119), .val (.ref w_ADMIN), .val (.ref b124), .val (.ref b130), .val (.int (1 : Int32)), .val (.int (0 : Int32)), .val (.int (0 : Int32))] [(.int (1 : Int32))])
          refine GoH.retN X133 hS hk e133q hZ hEL HH RR hlk hx (t := .boolean) (z' := (1 : Int32)) Bd.returns (by simp) (hb hby at_267) (by decide) (by decide) rfl ?_
          show Q_rm0 Z _ _ _ _ _ _ _ h0 n0 _ T133.heap _
          rw [e133q]
          exact ⟨rfl, N133⟩
        · rw [sp122]
          show GoH _ _ _ _ _ _ _ _ _ _  T121 (mkF m 154 #[.val (.int p1), .val (.int p2), .val (.int p3), .val (.int p4), .val (.int (1 : Int32)), .val (.int (1 : Int32)), .val (.int (0 : Int32)), .val (.int (1 : Int32)), .val (.ref b5), .val (.ref b8), .val (.ref b13), .val (.ref b91), .val (.ref b119), .unset, .unset, .unset, .unset, .unset, .unset] [])
          refine GoH.st (fun t k => XS.iload X121.here hx rfl (hb hby at_154) rfl  k) ?_
          show GoH _ _ _ _ _ _ _ _ _ _  T121 (mkF m 156 #[.val (.int p1), .val (.int p2), .val (.int p3), .val (.int p4), .val (.int (1 : Int32)), .val (.int (1 : Int32)), .val (.int (0 : Int32)), .val (.int (1 : Int32)), .val (.ref b5), .val (.ref b8), .val (.ref b13), .val (.ref b91), .val (.ref b119), .unset, .unset, .unset, .unset, .unset, .unset] [(.int (1 : Int32))])
          refine GoH.st (fun t k => XS.ifNo X121.here hx rfl (hb hby at_156) rfl ((if0 _ _).trans (feq (by decide : ¬ ((1 : Int32) = (0 : Int32)))).1) k) ?_
          show GoH _ _ _ _ _ _ _ _ _ _  T121 (mkF m 159 #[.val (.int p1), .val (.int p2), .val (.int p3), .val (.int p4), .val (.int (1 : Int32)), .val (.int (1 : Int32)), .val (.int (0 : Int32)), .val (.int (1 : Int32)), .val (.ref b5), .val (.ref b8), .val (.ref b13), .val (.ref b91), .val (.ref b119), .unset, .unset, .unset, .unset, .unset, .unset] [])
          obtain ⟨T134, X134, e134, st134⟩ := getS2 X121 hx hZ hown (host := "") (Or.inl (hw _ (List.mem_of_getElem? (i := 100) rfl))) Via.refl rfl (S_USER.ext O.2) (g := (mkF m 159 #[.val (.int p1), .val (.int p2), .val (.int p3), .val (.int p4), .val (.int (1 : Int32)), .val (.int (1 : Int32)), .val (.int (0 : Int32)), .val (.int (1 : Int32)), .val (.ref b5), .val (.ref b8), .val (.ref b13), .val (.ref b91), .val (.ref b119), .unset, .unset, .unset, .unset, .unset, .unset] [])) rfl (hb hby at_159)
          refine GoH.st st134 ?_
          show GoH _ _ _ _ _ _ _ _ _ _  T134 (mkF m 162 #[.val (.int p1), .val (.int p2), .val (.int p3), .val (.int p4), .val (.int (1 : Int32)), .val (.int (1 : Int32)), .val (.int (0 : Int32)), .val (.int (1 : Int32)), .val (.ref b5), .val (.ref b8), .val (.ref b13), .val (.ref b91), .val (.ref b119), .unset, .unset, .unset, .unset, .unset, .unset] [(.ref w_USER)])
          refine GoH.st (fun t k => XS.goto X134.here hx rfl (pc0 := 162) (pc' := 168) rfl (hb hby at_162) (by decide) (by decide) k) ?_
          show GoH _ _ _ _ _ _ _ _ _ _  T134 (mkF m 168 #[.val (.int p1), .val (.int p2), .val (.int p3), .val (.int p4), .val (.int (1 : Int32)), .val (.int (1 : Int32)), .val (.int (0 : Int32)), .val (.int (1 : Int32)), .val (.ref b5), .val (.ref b8), .val (.ref b13), .val (.ref b91), .val (.ref b119), .unset, .unset, .unset, .unset, .unset, .unset] [(.ref w_USER)])
          refine GoH.st (fun t k => XS.astore X134.here hx rfl (hb hby at_168) rfl rfl (l' := #[.val (.int p1), .val (.int p2), .val (.int p3), .val (.int p4), .val (.int (1 : Int32)), .val (.int (1 : Int32)), .val (.int (0 : Int32)), .val (.int (1 : Int32)), .val (.ref b5), .val (.ref b8), .val (.ref b13), .val (.ref b91), .val (.ref b119), .val (.ref w_USER), .unset, .unset, .unset, .unset, .unset]) rfl k) ?_
          show GoH _ _ _ _ _ _ _ _ _ _  T134 (mkF m 170 #[.val (.int p1), .val (.int p2), .val (.int p3), .val (.int p4), .val (.int (1 : Int32)), .val (.int (1 : Int32)), .val (.int (0 : Int32)), .val (.int (1 : Int32)), .val (.ref b5), .val (.ref b8), .val (.ref b13), .val (.ref b91), .val (.ref b119), .val (.ref w_USER), .unset, .unset, .unset, .unset, .unset] [])
          obtain ⟨T135, h135, X135, e135, E135, A135, D135, -, st135⟩ := newO X134 hx hZ hown (hw _ (List.mem_of_getElem? (i := 33) rfl)) (hw _ (List.mem_of_getElem? (i := 34) rfl)) (hw _ (List.mem_of_getElem? (i := 35) rfl)) e134 (g := (mkF m 170 #[.val (.int p1), .val (.int p2), .val (.int p3), .val (.int p4), .val (.int (1 : Int32)), .val (.int (1 : Int32)), .val (.int (0 : Int32)), .val (.int (1 : Int32)), .val (.ref b5), .val (.ref b8), .val (.ref b13), .val (.ref b91), .val (.ref b119), .val (.ref w_USER), .unset, .unset, .unset, .unset, .unset] [])) rfl (hb hby at_170) (by decide) (by decide)
          obtain ⟨b135, g135⟩ : ∃ z, z = T121.heap.size := ⟨_, rfl⟩
          rw [← g135] at A135 D135 st135
          refine GoH.st st135 ?_
          have g_b135 : n0 ≤ b135 := by rw [g135]; exact own_le O
          have Sf_b135 : Safe Z EL s.vm T121.heap b135 := Safe.new (Nat.le_of_eq g135.symm)
          have sz_b135 : h0.size ≤ b135 := by rw [g135]; exact KK.1
          have ne_b5_b135 : b5 ≠ b135 := Nat.ne_of_lt (by rw [g135]; exact V_b5.lt)
          have ne_b8_b135 : b8 ≠ b135 := Nat.ne_of_lt (by rw [g135]; exact V_b8.lt)
          have ne_b13_b135 : b13 ≠ b135 := Nat.ne_of_lt (by rw [g135]; exact V_b13.lt)
          have V_b5 := V_b5.ext E135
          have V_b8 := V_b8.ext E135
          have V_b13 := V_b13.ext E135
          have Sf_b5 := Safe.ext E135 HH Sf_b5
          have Sf_b8 := Safe.ext E135 HH Sf_b8
          have Sf_b13 := Safe.ext E135 HH Sf_b13
          have Sf_b135 := Safe.ext E135 HH Sf_b135
          have RR := RR.trans (CHr.ext E135 HH)
          have HH := HH.ext E135
          have hk := Nat.le_trans hk E135.1
          have O := O.ext E135
          have KK := KK.ext E135
          have E_b135 := A135
          have F_id_b135 : Fld Z h135 b135 "com/example/wellness_on_record/wellnessonrecord/apps/App" "id" "Ljava/lang/String;" .null := D135 (Or.inr (hw _ (List.mem_of_getElem? (i := 52) rfl))) (ty := (.object "java/lang/String")) (by decide)
          have F_name_b135 : Fld Z h135 b135 "com/example/wellness_on_record/wellnessonrecord/apps/App" "name" "Ljava/lang/String;" .null := D135 (Or.inr (hw _ (List.mem_of_getElem? (i := 54) rfl))) (ty := (.object "java/lang/String")) (by decide)
          have F_kind_b135 : Fld Z h135 b135 "com/example/wellness_on_record/wellnessonrecord/apps/App" "kind" "Lcom/example/wellness_on_record/wellnessonrecord/apps/App$Kind;" .null := D135 (Or.inr (hw _ (List.mem_of_getElem? (i := 56) rfl))) (ty := (.object "com/example/wellness_on_record/wellnessonrecord/apps/App$Kind")) (by decide)
          have F_consumerKey_b135 : Fld Z h135 b135 "com/example/wellness_on_record/wellnessonrecord/apps/App" "consumerKey" "Ljava/lang/String;" .null := D135 (Or.inr (hw _ (List.mem_of_getElem? (i := 58) rfl))) (ty := (.object "java/lang/String")) (by decide)
          have F_consumerSecret_b135 : Fld Z h135 b135 "com/example/wellness_on_record/wellnessonrecord/apps/App" "consumerSecret" "Ljava/lang/String;" .null := D135 (Or.inr (hw _ (List.mem_of_getElem? (i := 60) rfl))) (ty := (.object "java/lang/String")) (by decide)
          have F_autonomous_b135 : Fld Z h135 b135 "com/example/wellness_on_record/wellnessonrecord/apps/App" "autonomous" "Z" (.int (0 : Int32)) := D135 (Or.inr (hw _ (List.mem_of_getElem? (i := 62) rfl))) (ty := .boolean) (by decide)
          have F_autonomousReason_b135 : Fld Z h135 b135 "com/example/wellness_on_record/wellnessonrecord/apps/App" "autonomousReason" "Ljava/lang/String;" .null := D135 (Or.inr (hw _ (List.mem_of_getElem? (i := 64) rfl))) (ty := (.object "java/lang/String")) (by decide)
          have F_hasUi_b135 : Fld Z h135 b135 "com/example/wellness_on_record/wellnessonrecord/apps/App" "hasUi" "Z" (.int (0 : Int32)) := D135 (Or.inr (hw _ (List.mem_of_getElem? (i := 66) rfl))) (ty := .boolean) (by decide)
          have F_callbackUrl_b135 : Fld Z h135 b135 "com/example/wellness_on_record/wellnessonrecord/apps/App" "callbackUrl" "Ljava/lang/String;" .null := D135 (Or.inr (hw _ (List.mem_of_getElem? (i := 68) rfl))) (ty := (.object "java/lang/String")) (by decide)
          have F_startUrlTemplate_b135 : Fld Z h135 b135 "com/example/wellness_on_record/wellnessonrecord/apps/App" "startUrlTemplate" "Ljava/lang/String;" .null := D135 (Or.inr (hw _ (List.mem_of_getElem? (i := 70) rfl))) (ty := (.object "java/lang/String")) (by decide)
          have F_frameable_b135 : Fld Z h135 b135 "com/example/wellness_on_record/wellnessonrecord/apps/App" "frameable" "Z" (.int (0 : Int32)) := D135 (Or.inr (hw _ (List.mem_of_getElem? (i := 72) rfl))) (ty := .boolean) (by decide)
          show GoH _ _ _ _ _ _ _ _ _ _  T135 (mkF m 173 #[.val (.int p1), .val (.int p2), .val (.int p3), .val (.int p4), .val (.int (1 : Int32)), .val (.int (1 : Int32)), .val (.int (0 : Int32)), .val (.int (1 : Int32)), .val (.ref b5), .val (.ref b8), .val (.ref b13), .val (.ref b91), .val (.ref b119), .val (.ref w_USER), .unset, .unset, .unset, .unset, .unset] [(.ref b135)])
          refine GoH.st (fun t k => XS.dup X135.here hx rfl (hb hby at_173) rfl rfl k) ?_
          show GoH _ _ _ _ _ _ _ _ _ _  T135 (mkF m 174 #[.val (.int p1), .val (.int p2), .val (.int p3), .val (.int p4), .val (.int (1 : Int32)), .val (.int (1 : Int32)), .val (.int (0 : Int32)), .val (.int (1 : Int32)), .val (.ref b5), .val (.ref b8), .val (.ref b13), .val (.ref b91), .val (.ref b119), .val (.ref w_USER), .unset, .unset, .unset, .unset, .unset] [(.ref b135), (.ref b135)])
          obtain ⟨sa136, T136, h136, kk136, sb136, kb136, X136, e136, E136, hS136, hk136, hZ136, ho136, E_sa136, F_coder_sa136, F_value_sa136, V_sb136, la136, lb136, CR136, Lt136, ns136, st136⟩ := ldcCH X135 hx hZ hown (hw _ (List.mem_of_getElem? (i := 36) rfl)) wS e135 hS hk hEL (List.mem_of_getElem? (i := 0) rfl) HH (vs := [(.int (105 : Int32)), (.int (100 : Int32))]) (z := 2) ⟨by decide, by decide⟩ (by decide) rfl (g := (mkF m 174 #[.val (.int p1), .val (.int p2), .val (.int p3), .val (.int p4), .val (.int (1 : Int32)), .val (.int (1 : Int32)), .val (.int (0 : Int32)), .val (.int (1 : Int32)), .val (.ref b5), .val (.ref b8), .val (.ref b13), .val (.ref b91), .val (.ref b119), .val (.ref w_USER), .unset, .unset, .unset, .unset, .unset] [(.ref b135), (.ref b135)])) rfl (hb hby at_174) (n := 8) (by decide) (by decide) (by decide) (by decide)
          refine GoH.st st136 ?_
          have Sf_b5 := CHr.safe CR136 V_b5.lt Sf_b5
          have Sf_b8 := CHr.safe CR136 V_b8.lt Sf_b8
          have Sf_b13 := CHr.safe CR136 V_b13.lt Sf_b13
          have Sf_b135 := CHr.safe CR136 E_b135.lt Sf_b135
          have V_b5 := V_b5.ext E136
          have V_b8 := V_b8.ext E136
          have V_b13 := V_b13.ext E136
          have E_b135 := E_b135.ext E136
          have F_id_b135 := F_id_b135.ext E136
          have F_name_b135 := F_name_b135.ext E136
          have F_kind_b135 := F_kind_b135.ext E136
          have F_consumerKey_b135 := F_consumerKey_b135.ext E136
          have F_consumerSecret_b135 := F_consumerSecret_b135.ext E136
          have F_autonomous_b135 := F_autonomous_b135.ext E136
          have F_autonomousReason_b135 := F_autonomousReason_b135.ext E136
          have F_hasUi_b135 := F_hasUi_b135.ext E136
          have F_callbackUrl_b135 := F_callbackUrl_b135.ext E136
          have F_startUrlTemplate_b135 := F_startUrlTemplate_b135.ext E136
          have F_frameable_b135 := F_frameable_b135.ext E136
          have O := O.ext E136
          have KK := KK.ext E136
          have RR := RR.trans CR136
          have HH := CR136.1
          have hS := hS136
          have hk := hk136
          have hZ := hZ136
          have hown := ho136
          show GoH _ _ _ _ _ _ _ _ _ _  T136 (mkF m 176 #[.val (.int p1), .val (.int p2), .val (.int p3), .val (.int p4), .val (.int (1 : Int32)), .val (.int (1 : Int32)), .val (.int (0 : Int32)), .val (.int (1 : Int32)), .val (.ref b5), .val (.ref b8), .val (.ref b13), .val (.ref b91), .val (.ref b119), .val (.ref w_USER), .unset, .unset, .unset, .unset, .unset] [(.ref sa136), (.ref b135), (.ref b135)])
          obtain ⟨sa137, T137, h137, kk137, sb137, kb137, X137, e137, E137, hS137, hk137, hZ137, ho137, E_sa137, F_coder_sa137, F_value_sa137, V_sb137, la137, lb137, CR137, Lt137, ns137, st137⟩ := ldcCH X136 hx hZ hown (hw _ (List.mem_of_getElem? (i := 39) rfl)) wS e136 hS hk hEL (List.mem_of_getElem? (i := 1) rfl) HH (vs := [(.int (110 : Int32)), (.int (97 : Int32)), (.int (109 : Int32)), (.int (101 : Int32))]) (z := 4) ⟨by decide, by decide⟩ (by decide) rfl (g := (mkF m 176 #[.val (.int p1), .val (.int p2), .val (.int p3), .val (.int p4), .val (.int (1 : Int32)), .val (.int (1 : Int32)), .val (.int (0 : Int32)), .val (.int (1 : Int32)), .val (.ref b5), .val (.ref b8), .val (.ref b13), .val (.ref b91), .val (.ref b119), .val (.ref w_USER), .unset, .unset, .unset, .unset, .unset] [(.ref sa136), (.ref b135), (.ref b135)])) rfl (hb hby at_176) (n := 16) (by decide) (by decide) (by decide) (by decide)
          refine GoH.st st137 ?_
          have Sf_b5 := CHr.safe CR137 V_b5.lt Sf_b5
          have Sf_b8 := CHr.safe CR137 V_b8.lt Sf_b8
          have Sf_b13 := CHr.safe CR137 V_b13.lt Sf_b13
          have Sf_b135 := CHr.safe CR137 E_b135.lt Sf_b135
          have V_b5 := V_b5.ext E137
          have V_b8 := V_b8.ext E137
          have V_b13 := V_b13.ext E137
          have E_b135 := E_b135.ext E137
          have F_id_b135 := F_id_b135.ext E137
          have F_name_b135 := F_name_b135.ext E137
          have F_kind_b135 := F_kind_b135.ext E137
          have F_consumerKey_b135 := F_consumerKey_b135.ext E137
          have F_consumerSecret_b135 := F_consumerSecret_b135.ext E137
          have F_autonomous_b135 := F_autonomous_b135.ext E137
          have F_autonomousReason_b135 := F_autonomousReason_b135.ext E137
          have F_hasUi_b135 := F_hasUi_b135.ext E137
          have F_callbackUrl_b135 := F_callbackUrl_b135.ext E137
          have F_startUrlTemplate_b135 := F_startUrlTemplate_b135.ext E137
          have F_frameable_b135 := F_frameable_b135.ext E137
          have O := O.ext E137
          have KK := KK.ext E137
          have RR := RR.trans CR137
          have HH := CR137.1
          have hS := hS137
          have hk := hk137
          have hZ := hZ137
          have hown := ho137
          show GoH _ _ _ _ _ _ _ _ _ _  T137 (mkF m 178 #[.val (.int p1), .val (.int p2), .val (.int p3), .val (.int p4), .val (.int (1 : Int32)), .val (.int (1 : Int32)), .val (.int (0 : Int32)), .val (.int (1 : Int32)), .val (.ref b5), .val (.ref b8), .val (.ref b13), .val (.ref b91), .val (.ref b119), .val (.ref w_USER), .unset, .unset, .unset, .unset, .unset] [(.ref sa137), (.ref sa136), (.ref b135), (.ref b135)])
          refine GoH.st (fun t k => XS.aload X137.here hx rfl (hb hby at_178) rfl rfl  k) ?_
          show GoH _ _ _ _ _ _ _ _ _ _  T137 (mkF m 180 #[.val (.int p1), .val (.int p2), .val (.int p3), .val (.int p4), .val (.int (1 : Int32)), .val (.int (1 : Int32)), .val (.int (0 : Int32)), .val (.int (1 : Int32)), .val (.ref b5), .val (.ref b8), .val (.ref b13), .val (.ref b91), .val (.ref b119), .val (.ref w_USER), .unset, .unset, .unset, .unset, .unset] [(.ref w_USER), (.ref sa137), (.ref sa136), (.ref b135), (.ref b135)])
          obtain ⟨sa138, T138, h138, kk138, sb138, kb138, X138, e138, E138, hS138, hk138, hZ138, ho138, E_sa138, F_coder_sa138, F_value_sa138, V_sb138, la138, lb138, CR138, Lt138, ns138, st138⟩ := ldcCH X137 hx hZ hown (hw _ (List.mem_of_getElem? (i := 40) rfl)) wS e137 hS hk hEL (List.mem_of_getElem? (i := 2) rfl) HH (vs := [(.int (107 : Int32)), (.int (101 : Int32)), (.int (121 : Int32))]) (z := 3) ⟨by decide, by decide⟩ (by decide) rfl (g := (mkF m 180 #[.val (.int p1), .val (.int p2), .val (.int p3), .val (.int p4), .val (.int (1 : Int32)), .val (.int (1 : Int32)), .val (.int (0 : Int32)), .val (.int (1 : Int32)), .val (.ref b5), .val (.ref b8), .val (.ref b13), .val (.ref b91), .val (.ref b119), .val (.ref w_USER), .unset, .unset, .unset, .unset, .unset] [(.ref w_USER), (.ref sa137), (.ref sa136), (.ref b135), (.ref b135)])) rfl (hb hby at_180) (n := 12) (by decide) (by decide) (by decide) (by decide)
          refine GoH.st st138 ?_
          have Sf_b5 := CHr.safe CR138 V_b5.lt Sf_b5
          have Sf_b8 := CHr.safe CR138 V_b8.lt Sf_b8
          have Sf_b13 := CHr.safe CR138 V_b13.lt Sf_b13
          have Sf_b135 := CHr.safe CR138 E_b135.lt Sf_b135
          have V_b5 := V_b5.ext E138
          have V_b8 := V_b8.ext E138
          have V_b13 := V_b13.ext E138
          have E_b135 := E_b135.ext E138
          have F_id_b135 := F_id_b135.ext E138
          have F_name_b135 := F_name_b135.ext E138
          have F_kind_b135 := F_kind_b135.ext E138
          have F_consumerKey_b135 := F_consumerKey_b135.ext E138
          have F_consumerSecret_b135 := F_consumerSecret_b135.ext E138
          have F_autonomous_b135 := F_autonomous_b135.ext E138
          have F_autonomousReason_b135 := F_autonomousReason_b135.ext E138
          have F_hasUi_b135 := F_hasUi_b135.ext E138
          have F_callbackUrl_b135 := F_callbackUrl_b135.ext E138
          have F_startUrlTemplate_b135 := F_startUrlTemplate_b135.ext E138
          have F_frameable_b135 := F_frameable_b135.ext E138
          have O := O.ext E138
          have KK := KK.ext E138
          have RR := RR.trans CR138
          have HH := CR138.1
          have hS := hS138
          have hk := hk138
          have hZ := hZ138
          have hown := ho138
          show GoH _ _ _ _ _ _ _ _ _ _  T138 (mkF m 182 #[.val (.int p1), .val (.int p2), .val (.int p3), .val (.int p4), .val (.int (1 : Int32)), .val (.int (1 : Int32)), .val (.int (0 : Int32)), .val (.int (1 : Int32)), .val (.ref b5), .val (.ref b8), .val (.ref b13), .val (.ref b91), .val (.ref b119), .val (.ref w_USER), .unset, .unset, .unset, .unset, .unset] [(.ref sa138), (.ref w_USER), (.ref sa137), (.ref sa136), (.ref b135), (.ref b135)])
          obtain ⟨sa139, T139, h139, kk139, sb139, kb139, X139, e139, E139, hS139, hk139, hZ139, ho139, E_sa139, F_coder_sa139, F_value_sa139, V_sb139, la139, lb139, CR139, Lt139, ns139, st139⟩ := ldcCH X138 hx hZ hown (hw _ (List.mem_of_getElem? (i := 41) rfl)) wS e138 hS hk hEL (List.mem_of_getElem? (i := 3) rfl) HH (vs := [(.int (115 : Int32)), (.int (101 : Int32)), (.int (99 : Int32)), (.int (114 : Int32)), (.int (101 : Int32)), (.int (116 : Int32))]) (z := 6) ⟨by decide, by decide⟩ (by decide) rfl (g := (mkF m 182 #[.val (.int p1), .val (.int p2), .val (.int p3), .val (.int p4), .val (.int (1 : Int32)), .val (.int (1 : Int32)), .val (.int (0 : Int32)), .val (.int (1 : Int32)), .val (.ref b5), .val (.ref b8), .val (.ref b13), .val (.ref b91), .val (.ref b119), .val (.ref w_USER), .unset, .unset, .unset, .unset, .unset] [(.ref sa138), (.ref w_USER), (.ref sa137), (.ref sa136), (.ref b135), (.ref b135)])) rfl (hb hby at_182) (n := 24) (by decide) (by decide) (by decide) (by decide)
          refine GoH.st st139 ?_
          have Sf_b5 := CHr.safe CR139 V_b5.lt Sf_b5
          have Sf_b8 := CHr.safe CR139 V_b8.lt Sf_b8
          have Sf_b13 := CHr.safe CR139 V_b13.lt Sf_b13
          have Sf_b135 := CHr.safe CR139 E_b135.lt Sf_b135
          have V_b5 := V_b5.ext E139
          have V_b8 := V_b8.ext E139
          have V_b13 := V_b13.ext E139
          have E_b135 := E_b135.ext E139
          have F_id_b135 := F_id_b135.ext E139
          have F_name_b135 := F_name_b135.ext E139
          have F_kind_b135 := F_kind_b135.ext E139
          have F_consumerKey_b135 := F_consumerKey_b135.ext E139
          have F_consumerSecret_b135 := F_consumerSecret_b135.ext E139
          have F_autonomous_b135 := F_autonomous_b135.ext E139
          have F_autonomousReason_b135 := F_autonomousReason_b135.ext E139
          have F_hasUi_b135 := F_hasUi_b135.ext E139
          have F_callbackUrl_b135 := F_callbackUrl_b135.ext E139
          have F_startUrlTemplate_b135 := F_startUrlTemplate_b135.ext E139
          have F_frameable_b135 := F_frameable_b135.ext E139
          have O := O.ext E139
          have KK := KK.ext E139
          have RR := RR.trans CR139
          have HH := CR139.1
          have hS := hS139
          have hk := hk139
          have hZ := hZ139
          have hown := ho139
          show GoH _ _ _ _ _ _ _ _ _ _  T139 (mkF m 184 #[.val (.int p1), .val (.int p2), .val (.int p3), .val (.int p4), .val (.int (1 : Int32)), .val (.int (1 : Int32)), .val (.int (0 : Int32)), .val (.int (1 : Int32)), .val (.ref b5), .val (.ref b8), .val (.ref b13), .val (.ref b91), .val (.ref b119), .val (.ref w_USER), .unset, .unset, .unset, .unset, .unset] [(.ref sa139), (.ref sa138), (.ref w_USER), (.ref sa137), (.ref sa136), (.ref b135), (.ref b135)])
          refine GoH.st (fun t k => XS.iconst X139.here hx rfl (hb hby at_184) k) ?_
          show GoH _ _ _ _ _ _ _ _ _ _  T139 (mkF m 185 #[.val (.int p1), .val (.int p2), .val (.int p3), .val (.int p4), .val (.int (1 : Int32)), .val (.int (1 : Int32)), .val (.int (0 : Int32)), .val (.int (1 : Int32)), .val (.ref b5), .val (.ref b8), .val (.ref b13), .val (.ref b91), .val (.ref b119), .val (.ref w_USER), .unset, .unset, .unset, .unset, .unset] [(.int (0 : Int32)), (.ref sa139), (.ref sa138), (.ref w_USER), (.ref sa137), (.ref sa136), (.ref b135), (.ref b135)])
          refine GoH.st (fun t k => XS.aconstNull X139.here hx rfl (hb hby at_185) k) ?_
          show GoH _ _ _ _ _ _ _ _ _ _  T139 (mkF m 186 #[.val (.int p1), .val (.int p2), .val (.int p3), .val (.int p4), .val (.int (1 : Int32)), .val (.int (1 : Int32)), .val (.int (0 : Int32)), .val (.int (1 : Int32)), .val (.ref b5), .val (.ref b8), .val (.ref b13), .val (.ref b91), .val (.ref b119), .val (.ref w_USER), .unset, .unset, .unset, .unset, .unset] [.null, (.int (0 : Int32)), (.ref sa139), (.ref sa138), (.ref w_USER), (.ref sa137), (.ref sa136), (.ref b135), (.ref b135)])
          refine GoH.st (fun t k => XS.iconst X139.here hx rfl (hb hby at_186) k) ?_
          show GoH _ _ _ _ _ _ _ _ _ _  T139 (mkF m 187 #[.val (.int p1), .val (.int p2), .val (.int p3), .val (.int p4), .val (.int (1 : Int32)), .val (.int (1 : Int32)), .val (.int (0 : Int32)), .val (.int (1 : Int32)), .val (.ref b5), .val (.ref b8), .val (.ref b13), .val (.ref b91), .val (.ref b119), .val (.ref w_USER), .unset, .unset, .unset, .unset, .unset] [(.int (0 : Int32)), .null, (.int (0 : Int32)), (.ref sa139), (.ref sa138), (.ref w_USER), (.ref sa137), (.ref sa136), (.ref b135), (.ref b135)])
          refine GoH.st (fun t k => XS.aconstNull X139.here hx rfl (hb hby at_187) k) ?_
          show GoH _ _ _ _ _ _ _ _ _ _  T139 (mkF m 188 #[.val (.int p1), .val (.int p2), .val (.int p3), .val (.int p4), .val (.int (1 : Int32)), .val (.int (1 : Int32)), .val (.int (0 : Int32)), .val (.int (1 : Int32)), .val (.ref b5), .val (.ref b8), .val (.ref b13), .val (.ref b91), .val (.ref b119), .val (.ref w_USER), .unset, .unset, .unset, .unset, .unset] [.null, (.int (0 : Int32)), .null, (.int (0 : Int32)), (.ref sa139), (.ref sa138), (.ref w_USER), (.ref sa137), (.ref sa136), (.ref b135), (.ref b135)])
          refine GoH.st (fun t k => XS.aconstNull X139.here hx rfl (hb hby at_188) k) ?_
          show GoH _ _ _ _ _ _ _ _ _ _  T139 (mkF m 189 #[.val (.int p1), .val (.int p2), .val (.int p3), .val (.int p4), .val (.int (1 : Int32)), .val (.int (1 : Int32)), .val (.int (0 : Int32)), .val (.int (1 : Int32)), .val (.ref b5), .val (.ref b8), .val (.ref b13), .val (.ref b91), .val (.ref b119), .val (.ref w_USER), .unset, .unset, .unset, .unset, .unset] [.null, .null, (.int (0 : Int32)), .null, (.int (0 : Int32)), (.ref sa139), (.ref sa138), (.ref w_USER), (.ref sa137), (.ref sa136), (.ref b135), (.ref b135)])
          refine GoH.st (fun t k => XS.iconst X139.here hx rfl (hb hby at_189) k) ?_
          show GoH _ _ _ _ _ _ _ _ _ _  T139 (mkF m 190 #[.val (.int p1), .val (.int p2), .val (.int p3), .val (.int p4), .val (.int (1 : Int32)), .val (.int (1 : Int32)), .val (.int (0 : Int32)), .val (.int (1 : Int32)), .val (.ref b5), .val (.ref b8), .val (.ref b13), .val (.ref b91), .val (.ref b119), .val (.ref w_USER), .unset, .unset, .unset, .unset, .unset] [(.int (0 : Int32)), .null, .null, (.int (0 : Int32)), .null, (.int (0 : Int32)), (.ref sa139), (.ref sa138), (.ref w_USER), (.ref sa137), (.ref sa136), (.ref b135), (.ref b135)])
          obtain ⟨_, _, ⟨T140, L140, k140, n140⟩, -, X140, ⟨Lc140, hQ140, l140, y140, z140⟩, st140⟩ := X139.specialBack hx (y := (⟨"com/example/wellness_on_record/wellnessonrecord/apps/App", "<init>", "(Ljava/lang/String;Ljava/lang/String;Lcom/example/wellness_on_record/wellnessonrecord/apps/App$Kind;Ljava/lang/String;Ljava/lang/String;ZLjava/lang/String;ZLjava/lang/String;Ljava/lang/String;Z)V"⟩ : MethodName)) rfl hown (mvT hZ (hw _ (List.mem_of_getElem? (i := 42) rfl))) (mvT hZ (hw _ (List.mem_of_getElem? (i := 43) rfl))) (mvT hZ (hw _ (List.mem_of_getElem? (i := 44) rfl))) (by decide) (backOf (W := 1) (rmA l Z a0 hw [] b135 sa136 sa137 w_USER sa138 sa139 h139 n0 O E_b135 F_id_b135 F_name_b135 F_kind_b135 F_consumerKey_b135 F_consumerSecret_b135 F_autonomous_b135 F_autonomousReason_b135 F_hasUi_b135 F_callbackUrl_b135 F_startUrlTemplate_b135 F_frameable_b135 g_b135) hZ (hw _ (List.mem_of_getElem? (i := 44) rfl)) (hw _ (List.mem_of_getElem? (i := 35) rfl)) (by decide) (by decide)) (g := (mkF m 190 #[.val (.int p1), .val (.int p2), .val (.int p3), .val (.int p4), .val (.int (1 : Int32)), .val (.int (1 : Int32)), .val (.int (0 : Int32)), .val (.int (1 : Int32)), .val (.ref b5), .val (.ref b8), .val (.ref b13), .val (.ref b91), .val (.ref b119), .val (.ref w_USER), .unset, .unset, .unset, .unset, .unset] [(.int (0 : Int32)), .null, .null, (.int (0 : Int32)), .null, (.int (0 : Int32)), (.ref sa139), (.ref sa138), (.ref w_USER), (.ref sa137), (.ref sa136), (.ref b135), (.ref b135)])) rfl (by rw [hml]; rfl) (Steps.refl _) (a := b135) (argsL := [(.ref sa136), (.ref sa137), (.ref w_USER), (.ref sa138), (.ref sa139), (.int (0 : Int32)), .null, (.int (0 : Int32)), .null, .null, (.int (0 : Int32))]) (rest := [(.ref b135)]) (lenOf pd__Ljava_lang_String_Ljava_lang_String_Lcom_example_wellness_on_record_wellnessonrecord_apps_App_Kind_Ljava_lang_String_Ljava_lang_String_ZLjava_lang_String_ZLjava_lang_String_Ljava_lang_String_Z_V rfl) rfl (by show 2 * 0 + _ ≤ _; exact Nat.le_of_eq rfl) (hb hby at_190) (fun _ _ => ⟨rfl, e139, (by decide : 16 + 0 ≤ _), (by decide : 101 + 0 ≤ _)⟩)
          dsimp only [Pt.U, Pt.locs, Pt.cells, Pt.slots] at X140 l140 y140 z140 st140 hQ140
          subst l140 y140 z140
          obtain ⟨rfl, N140q, K140q, Eq140, Fk140⟩ := hQ140
          have N140 := Fr.app N121 N140q
          refine GoH.tr st140 ?_
          have V_b5 := V_b5.keep K140q (ninS ne_b5_b135 nin0)
          have V_b8 := V_b8.keep K140q (ninS ne_b8_b135 nin0)
          have V_b13 := V_b13.keep K140q (ninS ne_b13_b135 nin0)
          have E_b135 := E_b135.keep K140q
          have sfw140 := (sfS Sf_b135 sf0)
          have Sf_b5 := Safe.keep K140q sfw140 HH Sf_b5
          have Sf_b8 := Safe.keep K140q sfw140 HH Sf_b8
          have Sf_b13 := Safe.keep K140q sfw140 HH Sf_b13
          have Sf_b135 := Safe.keep K140q sfw140 HH Sf_b135
          have RR := RR.trans (CHr.keep K140q sfw140 HH)
          have HH := HH.keep K140q sfw140
          have hk := Nat.le_trans hk K140q.1
          have O := O.keep K140q (allS g_b135 all0)
          have KK := KK.trans K140q (allS (Or.inr sz_b135) all0)
          have E_b135 := Eq140
          show GoH _ _ _ _ _ _ _ _ _ _  T140 (mkF m 193 #[.val (.int p1), .val (.int p2), .val (.int p3), .val (.int p4), .val (.int (1 : Int32)), .val (.int (1 : Int32)), .val (.int (0 : Int32)), .val (.int (1 : Int32)), .val (.ref b5), .val (.ref b8), .val (.ref b13), .val (.ref b91), .val (.ref b119), .val (.ref w_USER), .unset, .unset, .unset, .unset, .unset] [(.ref b135)])
          refine GoH.st (fun t k => XS.astore X140.here hx rfl (hb hby at_193) rfl rfl (l' := #[.val (.int p1), .val (.int p2), .val (.int p3), .val (.int p4), .val (.int (1 : Int32)), .val (.int (1 : Int32)), .val (.int (0 : Int32)), .val (.int (1 : Int32)), .val (.ref b5), .val (.ref b8), .val (.ref b13), .val (.ref b91), .val (.ref b119), .val (.ref w_USER), .val (.ref b135), .unset, .unset, .unset, .unset]) rfl k) ?_
          show GoH _ _ _ _ _ _ _ _ _ _  T140 (mkF m 195 #[.val (.int p1), .val (.int p2), .val (.int p3), .val (.int p4), .val (.int (1 : Int32)), .val (.int (1 : Int32)), .val (.int (0 : Int32)), .val (.int (1 : Int32)), .val (.ref b5), .val (.ref b8), .val (.ref b13), .val (.ref b91), .val (.ref b119), .val (.ref w_USER), .val (.ref b135), .unset, .unset, .unset, .unset] [])
          obtain ⟨T141, h141, X141, e141, E141, A141, D141, -, st141⟩ := newO X140 hx hZ hown (hw _ (List.mem_of_getElem? (i := 73) rfl)) (hw _ (List.mem_of_getElem? (i := 74) rfl)) (hw _ (List.mem_of_getElem? (i := 75) rfl)) rfl (g := (mkF m 195 #[.val (.int p1), .val (.int p2), .val (.int p3), .val (.int p4), .val (.int (1 : Int32)), .val (.int (1 : Int32)), .val (.int (0 : Int32)), .val (.int (1 : Int32)), .val (.ref b5), .val (.ref b8), .val (.ref b13), .val (.ref b91), .val (.ref b119), .val (.ref w_USER), .val (.ref b135), .unset, .unset, .unset, .unset] [])) rfl (hb hby at_195) (by decide) (by decide)
          obtain ⟨b141, g141⟩ : ∃ z, z = T140.heap.size := ⟨_, rfl⟩
          rw [← g141] at A141 D141 st141
          refine GoH.st st141 ?_
          have g_b141 : n0 ≤ b141 := by rw [g141]; exact own_le O
          have Sf_b141 : Safe Z EL T139.vm T140.heap b141 := Safe.new (Nat.le_of_eq g141.symm)
          have sz_b141 : h0.size ≤ b141 := by rw [g141]; exact KK.1
          have ne_b5_b141 : b5 ≠ b141 := Nat.ne_of_lt (by rw [g141]; exact V_b5.lt)
          have ne_b8_b141 : b8 ≠ b141 := Nat.ne_of_lt (by rw [g141]; exact V_b8.lt)
          have ne_b13_b141 : b13 ≠ b141 := Nat.ne_of_lt (by rw [g141]; exact V_b13.lt)
          have ne_b135_b141 : b135 ≠ b141 := Nat.ne_of_lt (by rw [g141]; exact E_b135.lt)
          have V_b5 := V_b5.ext E141
          have V_b8 := V_b8.ext E141
          have V_b13 := V_b13.ext E141
          have E_b135 := E_b135.ext E141
          have Fk140 := Fk140.ext E141
          have Sf_b5 := Safe.ext E141 HH Sf_b5
          have Sf_b8 := Safe.ext E141 HH Sf_b8
          have Sf_b13 := Safe.ext E141 HH Sf_b13
          have Sf_b135 := Safe.ext E141 HH Sf_b135
          have Sf_b141 := Safe.ext E141 HH Sf_b141
          have RR := RR.trans (CHr.ext E141 HH)
          have HH := HH.ext E141
          have hk := Nat.le_trans hk E141.1
          have O := O.ext E141
          have KK := KK.ext E141
          have E_b141 := A141
          have F_app_b141 : Fld Z h141 b141 "com/example/wellness_on_record/wellnessonrecord/oauth/Principal" "app" "Lcom/example/wellness_on_record/wellnessonrecord/apps/App;" .null := D141 (Or.inr (hw _ (List.mem_of_getElem? (i := 81) rfl))) (ty := (.object "com/example/wellness_on_record/wellnessonrecord/apps/App")) (by decide)
          have F_recordId_b141 : Fld Z h141 b141 "com/example/wellness_on_record/wellnessonrecord/oauth/Principal" "recordId" "Ljava/lang/String;" .null := D141 (Or.inr (hw _ (List.mem_of_getElem? (i := 83) rfl))) (ty := (.object "java/lang/String")) (by decide)
          have F_requestToken_b141 : Fld Z h141 b141 "com/example/wellness_on_record/wellnessonrecord/oauth/Principal" "requestToken" "Ljava/lang/String;" .null := D141 (Or.inr (hw _ (List.mem_of_getElem? (i := 85) rfl))) (ty := (.object "java/lang/String")) (by decide)
          show GoH _ _ _ _ _ _ _ _ _ _  T141 (mkF m 198 #[.val (.int p1), .val (.int p2), .val (.int p3), .val (.int p4), .val (.int (1 : Int32)), .val (.int (1 : Int32)), .val (.int (0 : Int32)), .val (.int (1 : Int32)), .val (.ref b5), .val (.ref b8), .val (.ref b13), .val (.ref b91), .val (.ref b119), .val (.ref w_USER), .val (.ref b135), .unset, .unset, .unset, .unset] [(.ref b141)])
          refine GoH.st (fun t k => XS.dup X141.here hx rfl (hb hby at_198) rfl rfl k) ?_
          show GoH _ _ _ _ _ _ _ _ _ _  T141 (mkF m 199 #[.val (.int p1), .val (.int p2), .val (.int p3), .val (.int p4), .val (.int (1 : Int32)), .val (.int (1 : Int32)), .val (.int (0 : Int32)), .val (.int (1 : Int32)), .val (.ref b5), .val (.ref b8), .val (.ref b13), .val (.ref b91), .val (.ref b119), .val (.ref w_USER), .val (.ref b135), .unset, .unset, .unset, .unset] [(.ref b141), (.ref b141)])
          refine GoH.st (fun t k => XS.aload X141.here hx rfl (hb hby at_199) rfl rfl  k) ?_
          show GoH _ _ _ _ _ _ _ _ _ _  T141 (mkF m 201 #[.val (.int p1), .val (.int p2), .val (.int p3), .val (.int p4), .val (.int (1 : Int32)), .val (.int (1 : Int32)), .val (.int (0 : Int32)), .val (.int (1 : Int32)), .val (.ref b5), .val (.ref b8), .val (.ref b13), .val (.ref b91), .val (.ref b119), .val (.ref w_USER), .val (.ref b135), .unset, .unset, .unset, .unset] [(.ref b135), (.ref b141), (.ref b141)])
          refine GoH.st (fun t k => XS.aload X141.here hx rfl (hb hby at_201) rfl rfl  k) ?_
          show GoH _ _ _ _ _ _ _ _ _ _  T141 (mkF m 203 #[.val (.int p1), .val (.int p2), .val (.int p3), .val (.int p4), .val (.int (1 : Int32)), .val (.int (1 : Int32)), .val (.int (0 : Int32)), .val (.int (1 : Int32)), .val (.ref b5), .val (.ref b8), .val (.ref b13), .val (.ref b91), .val (.ref b119), .val (.ref w_USER), .val (.ref b135), .unset, .unset, .unset, .unset] [(.ref b91), (.ref b135), (.ref b141), (.ref b141)])
          refine GoH.st (fun t k => XS.aload X141.here hx rfl (hb hby at_203) rfl rfl  k) ?_
          show GoH _ _ _ _ _ _ _ _ _ _  T141 (mkF m 205 #[.val (.int p1), .val (.int p2), .val (.int p3), .val (.int p4), .val (.int (1 : Int32)), .val (.int (1 : Int32)), .val (.int (0 : Int32)), .val (.int (1 : Int32)), .val (.ref b5), .val (.ref b8), .val (.ref b13), .val (.ref b91), .val (.ref b119), .val (.ref w_USER), .val (.ref b135), .unset, .unset, .unset, .unset] [(.ref b119), (.ref b91), (.ref b135), (.ref b141), (.ref b141)])
          obtain ⟨_, _, ⟨T142, L142, k142, n142⟩, -, X142, ⟨Lc142, hQ142, l142, y142, z142⟩, st142⟩ := X141.specialBack hx (y := (⟨"com/example/wellness_on_record/wellnessonrecord/oauth/Principal", "<init>", "(Lcom/example/wellness_on_record/wellnessonrecord/apps/App;Ljava/lang/String;Ljava/lang/String;)V"⟩ : MethodName)) rfl hown (mvT hZ (hw _ (List.mem_of_getElem? (i := 76) rfl))) (mvT hZ (hw _ (List.mem_of_getElem? (i := 77) rfl))) (mvT hZ (hw _ (List.mem_of_getElem? (i := 78) rfl))) (by decide) (backOf (W := 1) (rmP l Z a0 hw [] b141 b135 (.ref b91) (.ref b119) h141 n0 O E_b141 F_app_b141 F_recordId_b141 F_requestToken_b141 g_b141 rfl rfl) hZ (hw _ (List.mem_of_getElem? (i := 78) rfl)) (hw _ (List.mem_of_getElem? (i := 75) rfl)) (by decide) (by decide)) (g := (mkF m 205 #[.val (.int p1), .val (.int p2), .val (.int p3), .val (.int p4), .val (.int (1 : Int32)), .val (.int (1 : Int32)), .val (.int (0 : Int32)), .val (.int (1 : Int32)), .val (.ref b5), .val (.ref b8), .val (.ref b13), .val (.ref b91), .val (.ref b119), .val (.ref w_USER), .val (.ref b135), .unset, .unset, .unset, .unset] [(.ref b119), (.ref b91), (.ref b135), (.ref b141), (.ref b141)])) rfl (by rw [hml]; rfl) (Steps.refl _) (a := b141) (argsL := [(.ref b135), (.ref b91), (.ref b119)]) (rest := [(.ref b141)]) (lenOf pd__Lcom_example_wellness_on_record_wellnessonrecord_apps_App_Ljava_lang_String_Ljava_lang_String__V rfl) rfl (by show 2 * 0 + _ ≤ _; exact Nat.le_of_eq rfl) (hb hby at_205) (fun _ _ => ⟨rfl, e141, (by decide : 17 + 0 ≤ _), (by decide : 104 + 0 ≤ _)⟩)
          dsimp only [Pt.U, Pt.locs, Pt.cells, Pt.slots] at X142 l142 y142 z142 st142 hQ142
          subst l142 y142 z142
          obtain ⟨rfl, N142q, K142q, Eq142, Fa142, Fr142, Ft142⟩ := hQ142
          have N142 := Fr.app N140 N142q
          refine GoH.tr st142 ?_
          have V_b5 := V_b5.keep K142q (ninS ne_b5_b141 nin0)
          have V_b8 := V_b8.keep K142q (ninS ne_b8_b141 nin0)
          have V_b13 := V_b13.keep K142q (ninS ne_b13_b141 nin0)
          have E_b135 := E_b135.keep K142q
          have Fk140 := Fk140.keep K142q (ninS ne_b135_b141 nin0)
          have E_b141 := E_b141.keep K142q
          have sfw142 := (sfS Sf_b141 sf0)
          have Sf_b5 := Safe.keep K142q sfw142 HH Sf_b5
          have Sf_b8 := Safe.keep K142q sfw142 HH Sf_b8
          have Sf_b13 := Safe.keep K142q sfw142 HH Sf_b13
          have Sf_b135 := Safe.keep K142q sfw142 HH Sf_b135
          have Sf_b141 := Safe.keep K142q sfw142 HH Sf_b141
          have RR := RR.trans (CHr.keep K142q sfw142 HH)
          have HH := HH.keep K142q sfw142
          have hk := Nat.le_trans hk K142q.1
          have O := O.keep K142q (allS g_b141 all0)
          have KK := KK.trans K142q (allS (Or.inr sz_b141) all0)
          have E_b141 := Eq142
          show GoH _ _ _ _ _ _ _ _ _ _  T142 (mkF m 208 #[.val (.int p1), .val (.int p2), .val (.int p3), .val (.int p4), .val (.int (1 : Int32)), .val (.int (1 : Int32)), .val (.int (0 : Int32)), .val (.int (1 : Int32)), .val (.ref b5), .val (.ref b8), .val (.ref b13), .val (.ref b91), .val (.ref b119), .val (.ref w_USER), .val (.ref b135), .unset, .unset, .unset, .unset] [(.ref b141)])
          refine GoH.st (fun t k => XS.astore X142.here hx rfl (hb hby at_208) rfl rfl (l' := #[.val (.int p1), .val (.int p2), .val (.int p3), .val (.int p4), .val (.int (1 : Int32)), .val (.int (1 : Int32)), .val (.int (0 : Int32)), .val (.int (1 : Int32)), .val (.ref b5), .val (.ref b8), .val (.ref b13), .val (.ref b91), .val (.ref b119), .val (.ref w_USER), .val (.ref b135), .val (.ref b141), .unset, .unset, .unset]) rfl k) ?_
          show GoH _ _ _ _ _ _ _ _ _ _  T142 (mkF m 210 #[.val (.int p1), .val (.int p2), .val (.int p3), .val (.int p4), .val (.int (1 : Int32)), .val (.int (1 : Int32)), .val (.int (0 : Int32)), .val (.int (1 : Int32)), .val (.ref b5), .val (.ref b8), .val (.ref b13), .val (.ref b91), .val (.ref b119), .val (.ref w_USER), .val (.ref b135), .val (.ref b141), .unset, .unset, .unset] [])
          refine GoH.st (fun t k => XS.aload X142.here hx rfl (hb hby at_210) rfl rfl  k) ?_
          show GoH _ _ _ _ _ _ _ _ _ _  T142 (mkF m 212 #[.val (.int p1), .val (.int p2), .val (.int p3), .val (.int p4), .val (.int (1 : Int32)), .val (.int (1 : Int32)), .val (.int (0 : Int32)), .val (.int (1 : Int32)), .val (.ref b5), .val (.ref b8), .val (.ref b13), .val (.ref b91), .val (.ref b119), .val (.ref w_USER), .val (.ref b135), .val (.ref b141), .unset, .unset, .unset] [(.ref b141)])
          obtain ⟨cq143, kq143, q143a, q143b, q143c⟩ := isOf hZ rfl E_b141
          obtain ⟨_, _, ⟨T143, L143, k143, n143⟩, -, X143, ⟨Lc143, hQ143, l143, y143, z143⟩, st143⟩ := X142.virtualBack hx (y := (⟨"com/example/wellness_on_record/wellnessonrecord/oauth/Principal", "holdsRequestToken", "()Z"⟩ : MethodName)) (z := (⟨"com/example/wellness_on_record/wellnessonrecord/oauth/Principal", "holdsRequestToken", "()Z"⟩ : MethodName)) hown (mvT hZ (hw _ (List.mem_of_getElem? (i := 86) rfl))) (mvT hZ (hw _ (List.mem_of_getElem? (i := 87) rfl))) (notFace_of_selects (args := #[]) (mvT hZ (hw _ (List.mem_of_getElem? (i := 89) rfl)))) (mvT hZ (hw _ (List.mem_of_getElem? (i := 89) rfl))) (mvT hZ (hw _ (List.mem_of_getElem? (i := 88) rfl))) (by decide) (backOf (W := 0) (rmH l Z a0 hw [] b141 (.ref b119) T142.heap n0 O Ft142 rfl) hZ (hw _ (List.mem_of_getElem? (i := 90) rfl)) (hw _ (List.mem_of_getElem? (i := 75) rfl)) (by decide) (by decide)) q143a q143c (g := (mkF m 212 #[.val (.int p1), .val (.int p2), .val (.int p3), .val (.int p4), .val (.int (1 : Int32)), .val (.int (1 : Int32)), .val (.int (0 : Int32)), .val (.int (1 : Int32)), .val (.ref b5), .val (.ref b8), .val (.ref b13), .val (.ref b91), .val (.ref b119), .val (.ref w_USER), .val (.ref b135), .val (.ref b141), .unset, .unset, .unset] [(.ref b141)])) rfl (by rw [hml]; rfl) (Steps.refl _) (argsL := []) (rest := []) (lenOf pd___Z rfl) rfl (by show 2 * 0 + _ ≤ _; exact Nat.le_of_eq rfl) (hb hby at_212) (fun _ _ => ⟨rfl, rfl, (by decide : 17 + 0 ≤ _), (by decide : 104 + 0 ≤ _)⟩)
          dsimp only [Pt.U, Pt.locs, Pt.cells, Pt.slots] at X143 l143 y143 z143 st143 hQ143
          subst l143 y143 z143
          obtain ⟨rfl, N143q, e143q⟩ := hQ143
          have N143 := Fr.app N142 N143q
          refine GoH.tr st143 ?_
          rw [show (if (.ref b119) = Value.null then (0 : Int32) else 1) = (1 : Int32) from by simp]
          show GoH _ _ _ _ _ _ _ _ _ _  T143 (mkF m 215 #[.val (.int p1), .val (.int p2), .val (.int p3), .val (.int p4), .val (.int (1 : Int32)), .val (.int (1 : Int32)), .val (.int (0 : Int32)), .val (.int (1 : Int32)), .val (.ref b5), .val (.ref b8), .val (.ref b13), .val (.ref b91), .val (.ref b119), .val (.ref w_USER), .val (.ref b135), .val (.ref b141), .unset, .unset, .unset] [(.int (1 : Int32))])
          refine GoH.st (fun t k => XS.istore X143.here hx rfl (hb hby at_215) rfl (l' := #[.val (.int p1), .val (.int p2), .val (.int p3), .val (.int p4), .val (.int (1 : Int32)), .val (.int (1 : Int32)), .val (.int (0 : Int32)), .val (.int (1 : Int32)), .val (.ref b5), .val (.ref b8), .val (.ref b13), .val (.ref b91), .val (.ref b119), .val (.ref w_USER), .val (.ref b135), .val (.ref b141), .val (.int (1 : Int32)), .unset, .unset]) rfl k) ?_
          show GoH _ _ _ _ _ _ _ _ _ _  T143 (mkF m 217 #[.val (.int p1), .val (.int p2), .val (.int p3), .val (.int p4), .val (.int (1 : Int32)), .val (.int (1 : Int32)), .val (.int (0 : Int32)), .val (.int (1 : Int32)), .val (.ref b5), .val (.ref b8), .val (.ref b13), .val (.ref b91), .val (.ref b119), .val (.ref w_USER), .val (.ref b135), .val (.ref b141), .val (.int (1 : Int32)), .unset, .unset] [])
          refine GoH.st (fun t k => XS.iload X143.here hx rfl (hb hby at_217) rfl  k) ?_
          show GoH _ _ _ _ _ _ _ _ _ _  T143 (mkF m 219 #[.val (.int p1), .val (.int p2), .val (.int p3), .val (.int p4), .val (.int (1 : Int32)), .val (.int (1 : Int32)), .val (.int (0 : Int32)), .val (.int (1 : Int32)), .val (.ref b5), .val (.ref b8), .val (.ref b13), .val (.ref b91), .val (.ref b119), .val (.ref w_USER), .val (.ref b135), .val (.ref b141), .val (.int (1 : Int32)), .unset, .unset] [(.int (1 : Int32))])
          refine GoH.st (fun t k => XS.iload X143.here hx rfl (hb hby at_219) rfl  k) ?_
          show GoH _ _ _ _ _ _ _ _ _ _  T143 (mkF m 221 #[.val (.int p1), .val (.int p2), .val (.int p3), .val (.int p4), .val (.int (1 : Int32)), .val (.int (1 : Int32)), .val (.int (0 : Int32)), .val (.int (1 : Int32)), .val (.ref b5), .val (.ref b8), .val (.ref b13), .val (.ref b91), .val (.ref b119), .val (.ref w_USER), .val (.ref b135), .val (.ref b141), .val (.int (1 : Int32)), .unset, .unset] [(.int (1 : Int32)), (.int (1 : Int32))])
          refine GoH.st (fun t k => XS.icmpYes X143.here hx rfl (pc0 := 221) (pc' := 226) rfl (hb hby at_221) rfl (teq (rfl : (1 : Int32) = (1 : Int32))).1 (by decide) (by decide) k) ?_
          show GoH _ _ _ _ _ _ _ _ _ _  T143 (mkF m 226 #[.val (.int p1), .val (.int p2), .val (.int p3), .val (.int p4), .val (.int (1 : Int32)), .val (.int (1 : Int32)), .val (.int (0 : Int32)), .val (.int (1 : Int32)), .val (.ref b5), .val (.ref b8), .val (.ref b13), .val (.ref b91), .val (.ref b119), .val (.ref w_USER), .val (.ref b135), .val (.ref b141), .val (.int (1 : Int32)), .unset, .unset] [])
          refine GoH.st (fun t k => XS.aload X143.here hx rfl (hb hby at_226) rfl rfl  k) ?_
          show GoH _ _ _ _ _ _ _ _ _ _  T143 (mkF m 228 #[.val (.int p1), .val (.int p2), .val (.int p3), .val (.int p4), .val (.int (1 : Int32)), .val (.int (1 : Int32)), .val (.int (0 : Int32)), .val (.int (1 : Int32)), .val (.ref b5), .val (.ref b8), .val (.ref b13), .val (.ref b91), .val (.ref b119), .val (.ref w_USER), .val (.ref b135), .val (.ref b141), .val (.int (1 : Int32)), .unset, .unset] [(.ref b141)])
          obtain ⟨cq144, kq144, q144a, q144b, q144c⟩ := isOf hZ e143q E_b141
          obtain ⟨_, _, ⟨T144, L144, k144, n144⟩, -, X144, ⟨Lc144, hQ144, l144, y144, z144⟩, st144⟩ := X143.virtualBack hx (y := (⟨"com/example/wellness_on_record/wellnessonrecord/oauth/Principal", "isUserAppAlone", "()Z"⟩ : MethodName)) (z := (⟨"com/example/wellness_on_record/wellnessonrecord/oauth/Principal", "isUserAppAlone", "()Z"⟩ : MethodName)) hown (mvT hZ (hw _ (List.mem_of_getElem? (i := 91) rfl))) (mvT hZ (hw _ (List.mem_of_getElem? (i := 92) rfl))) (notFace_of_selects (args := #[]) (mvT hZ (hw _ (List.mem_of_getElem? (i := 94) rfl)))) (mvT hZ (hw _ (List.mem_of_getElem? (i := 94) rfl))) (mvT hZ (hw _ (List.mem_of_getElem? (i := 93) rfl))) (by decide) (backOf (W := 0) (rmU l Z a0 hw [] b141 b135 w_USER (.ref b91) (.ref b119) w_USER T142.heap n0 O Fa142 Fr142 Ft142 rfl rfl Fk140 E_b141 E_b135 S_USER) hZ (hw _ (List.mem_of_getElem? (i := 95) rfl)) (hw _ (List.mem_of_getElem? (i := 75) rfl)) (by decide) (by decide)) q144a q144c (g := (mkF m 228 #[.val (.int p1), .val (.int p2), .val (.int p3), .val (.int p4), .val (.int (1 : Int32)), .val (.int (1 : Int32)), .val (.int (0 : Int32)), .val (.int (1 : Int32)), .val (.ref b5), .val (.ref b8), .val (.ref b13), .val (.ref b91), .val (.ref b119), .val (.ref w_USER), .val (.ref b135), .val (.ref b141), .val (.int (1 : Int32)), .unset, .unset] [(.ref b141)])) rfl (by rw [hml]; rfl) (Steps.refl _) (argsL := []) (rest := []) (lenOf pd___Z rfl) rfl (by show 2 * 0 + _ ≤ _; exact Nat.le_of_eq rfl) (hb hby at_228) (fun _ _ => ⟨rfl, e143q, (by decide : 17 + 0 ≤ _), (by decide : 104 + 0 ≤ _)⟩)
          dsimp only [Pt.U, Pt.locs, Pt.cells, Pt.slots] at X144 l144 y144 z144 st144 hQ144
          subst l144 y144 z144
          obtain ⟨rfl, N144q, e144q⟩ := hQ144
          have N144 := Fr.app N143 N144q
          refine GoH.tr st144 ?_
          rw [show (if w_USER = w_USER then (if (.ref b91) = Value.null then (if (.ref b119) = Value.null then (1 : Int32) else 0) else 0) else 0) = (0 : Int32) from by simp [nAU]]
          show GoH _ _ _ _ _ _ _ _ _ _  T144 (mkF m 231 #[.val (.int p1), .val (.int p2), .val (.int p3), .val (.int p4), .val (.int (1 : Int32)), .val (.int (1 : Int32)), .val (.int (0 : Int32)), .val (.int (1 : Int32)), .val (.ref b5), .val (.ref b8), .val (.ref b13), .val (.ref b91), .val (.ref b119), .val (.ref w_USER), .val (.ref b135), .val (.ref b141), .val (.int (1 : Int32)), .unset, .unset] [(.int (0 : Int32))])
          refine GoH.st (fun t k => XS.istore X144.here hx rfl (hb hby at_231) rfl (l' := #[.val (.int p1), .val (.int p2), .val (.int p3), .val (.int p4), .val (.int (1 : Int32)), .val (.int (1 : Int32)), .val (.int (0 : Int32)), .val (.int (1 : Int32)), .val (.ref b5), .val (.ref b8), .val (.ref b13), .val (.ref b91), .val (.ref b119), .val (.ref w_USER), .val (.ref b135), .val (.ref b141), .val (.int (1 : Int32)), .val (.int (0 : Int32)), .unset]) rfl k) ?_
          show GoH _ _ _ _ _ _ _ _ _ _  T144 (mkF m 233 #[.val (.int p1), .val (.int p2), .val (.int p3), .val (.int p4), .val (.int (1 : Int32)), .val (.int (1 : Int32)), .val (.int (0 : Int32)), .val (.int (1 : Int32)), .val (.ref b5), .val (.ref b8), .val (.ref b13), .val (.ref b91), .val (.ref b119), .val (.ref w_USER), .val (.ref b135), .val (.ref b141), .val (.int (1 : Int32)), .val (.int (0 : Int32)), .unset] [])
          refine GoH.st (fun t k => XS.iload X144.here hx rfl (hb hby at_233) rfl  k) ?_
          show GoH _ _ _ _ _ _ _ _ _ _  T144 (mkF m 235 #[.val (.int p1), .val (.int p2), .val (.int p3), .val (.int p4), .val (.int (1 : Int32)), .val (.int (1 : Int32)), .val (.int (0 : Int32)), .val (.int (1 : Int32)), .val (.ref b5), .val (.ref b8), .val (.ref b13), .val (.ref b91), .val (.ref b119), .val (.ref w_USER), .val (.ref b135), .val (.ref b141), .val (.int (1 : Int32)), .val (.int (0 : Int32)), .unset] [(.int (1 : Int32))])
          refine GoH.st (fun t k => XS.ifYes X144.here hx rfl (pc0 := 235) (pc' := 252) rfl (hb hby at_235) rfl ((if0 _ _).trans (feq (by decide : ¬ ((1 : Int32) = (0 : Int32)))).2) (by decide) (by decide) k) ?_
          show GoH _ _ _ _ _ _ _ _ _ _  T144 (mkF m 252 #[.val (.int p1), .val (.int p2), .val (.int p3), .val (.int p4), .val (.int (1 : Int32)), .val (.int (1 : Int32)), .val (.int (0 : Int32)), .val (.int (1 : Int32)), .val (.ref b5), .val (.ref b8), .val (.ref b13), .val (.ref b91), .val (.ref b119), .val (.ref w_USER), .val (.ref b135), .val (.ref b141), .val (.int (1 : Int32)), .val (.int (0 : Int32)), .unset] [])
          refine GoH.st (fun t k => XS.iconst X144.here hx rfl (hb hby at_252) k) ?_
          show GoH _ _ _ _ _ _ _ _ _ _  T144 (mkF m 253 #[.val (.int p1), .val (.int p2), .val (.int p3), .val (.int p4), .val (.int (1 : Int32)), .val (.int (1 : Int32)), .val (.int (0 : Int32)), .val (.int (1 : Int32)), .val (.ref b5), .val (.ref b8), .val (.ref b13), .val (.ref b91), .val (.ref b119), .val (.ref w_USER), .val (.ref b135), .val (.ref b141), .val (.int (1 : Int32)), .val (.int (0 : Int32)), .unset] [(.int (0 : Int32))])
          refine GoH.st (fun t k => XS.istore X144.here hx rfl (hb hby at_253) rfl (l' := #[.val (.int p1), .val (.int p2), .val (.int p3), .val (.int p4), .val (.int (1 : Int32)), .val (.int (1 : Int32)), .val (.int (0 : Int32)), .val (.int (1 : Int32)), .val (.ref b5), .val (.ref b8), .val (.ref b13), .val (.ref b91), .val (.ref b119), .val (.ref w_USER), .val (.ref b135), .val (.ref b141), .val (.int (1 : Int32)), .val (.int (0 : Int32)), .val (.int (0 : Int32))]) rfl k) ?_
          show GoH _ _ _ _ _ _ _ _ _ _  T144 (mkF m 255 #[.val (.int p1), .val (.int p2), .val (.int p3), .val (.int p4), .val (.int (1 : Int32)), .val (.int (1 : Int32)), .val (.int (0 : Int32)), .val (.int (1 : Int32)), .val (.ref b5), .val (.ref b8), .val (.ref b13), .val (.ref b91), .val (.ref b119), .val (.ref w_USER), .val (.ref b135), .val (.ref b141), .val (.int (1 : Int32)), .val (.int (0 : Int32)), .val (.int (0 : Int32))] [])
          refine GoH.st (fun t k => XS.iload X144.here hx rfl (hb hby at_255) rfl  k) ?_
          show GoH _ _ _ _ _ _ _ _ _ _  T144 (mkF m 257 #[.val (.int p1), .val (.int p2), .val (.int p3), .val (.int p4), .val (.int (1 : Int32)), .val (.int (1 : Int32)), .val (.int (0 : Int32)), .val (.int (1 : Int32)), .val (.ref b5), .val (.ref b8), .val (.ref b13), .val (.ref b91), .val (.ref b119), .val (.ref w_USER), .val (.ref b135), .val (.ref b141), .val (.int (1 : Int32)), .val (.int (0 : Int32)), .val (.int (0 : Int32))] [(.int (0 : Int32))])
          refine GoH.st (fun t k => XS.iload X144.here hx rfl (hb hby at_257) rfl  k) ?_
          show GoH _ _ _ _ _ _ _ _ _ _  T144 (mkF m 259 #[.val (.int p1), .val (.int p2), .val (.int p3), .val (.int p4), .val (.int (1 : Int32)), .val (.int (1 : Int32)), .val (.int (0 : Int32)), .val (.int (1 : Int32)), .val (.ref b5), .val (.ref b8), .val (.ref b13), .val (.ref b91), .val (.ref b119), .val (.ref w_USER), .val (.ref b135), .val (.ref b141), .val (.int (1 : Int32)), .val (.int (0 : Int32)), .val (.int (0 : Int32))] [(.int (0 : Int32)), (.int (0 : Int32))])
          refine GoH.st (fun t k => XS.icmpNo X144.here hx rfl (hb hby at_259) rfl (teq (rfl : (0 : Int32) = (0 : Int32))).2 k) ?_
          show GoH _ _ _ _ _ _ _ _ _ _  T144 (mkF m 262 #[.val (.int p1), .val (.int p2), .val (.int p3), .val (.int p4), .val (.int (1 : Int32)), .val (.int (1 : Int32)), .val (.int (0 : Int32)), .val (.int (1 : Int32)), .val (.ref b5), .val (.ref b8), .val (.ref b13), .val (.ref b91), .val (.ref b119), .val (.ref w_USER), .val (.ref b135), .val (.ref b141), .val (.int (1 : Int32)), .val (.int (0 : Int32)), .val (.int (0 : Int32))] [])
          refine GoH.st (fun t k => XS.iconst X144.here hx rfl (hb hby at_262) k) ?_
          show GoH _ _ _ _ _ _ _ _ _ _  T144 (mkF m 263 #[.val (.int p1), .val (.int p2), .val (.int p3), .val (.int p4), .val (.int (1 : Int32)), .val (.int (1 : Int32)), .val (.int (0 : Int32)), .val (.int (1 : Int32)), .val (.ref b5), .val (.ref b8), .val (.ref b13), .val (.ref b91), .val (.ref b119), .val (.ref w_USER), .val (.ref b135), .val (.ref b141), .val (.int (1 : Int32)), .val (.int (0 : Int32)), .val (.int (0 : Int32))] [(.int (1 : Int32))])
          refine GoH.st (fun t k => XS.goto X144.here hx rfl (pc0 := 263) (pc' := 267) rfl (hb hby at_263) (by decide) (by decide) k) ?_
          show GoH _ _ _ _ _ _ _ _ _ _  T144 (mkF m 267 #[.val (.int p1), .val (.int p2), .val (.int p3), .val (.int p4), .val (.int (1 : Int32)), .val (.int (1 : Int32)), .val (.int (0 : Int32)), .val (.int (1 : Int32)), .val (.ref b5), .val (.ref b8), .val (.ref b13), .val (.ref b91), .val (.ref b119), .val (.ref w_USER), .val (.ref b135), .val (.ref b141), .val (.int (1 : Int32)), .val (.int (0 : Int32)), .val (.int (0 : Int32))] [(.int (1 : Int32))])
          refine GoH.retN X144 hS hk e144q hZ hEL HH RR hlk hx (t := .boolean) (z' := (1 : Int32)) Bd.returns (by simp) (hb hby at_267) (by decide) (by decide) rfl ?_
          show Q_rm0 Z _ _ _ _ _ _ _ h0 n0 _ T144.heap _
          rw [e144q]
          exact ⟨rfl, N144⟩
      · rw [sp118]
        show GoH _ _ _ _ _ _ _ _ _ _  T93 (mkF m 126 #[.val (.int p1), .val (.int p2), .val (.int p3), .val (.int p4), .val (.int (1 : Int32)), .val (.int (1 : Int32)), .val (.int (1 : Int32)), .val (.int f7), .val (.ref b5), .val (.ref b8), .val (.ref b13), .val (.ref b91), .val .null, .unset, .unset, .unset, .unset, .unset, .unset] [])
        refine GoH.st (fun t k => XS.iload X93.here hx rfl (hb hby at_126) rfl  k) ?_
        show GoH _ _ _ _ _ _ _ _ _ _  T93 (mkF m 128 #[.val (.int p1), .val (.int p2), .val (.int p3), .val (.int p4), .val (.int (1 : Int32)), .val (.int (1 : Int32)), .val (.int (1 : Int32)), .val (.int f7), .val (.ref b5), .val (.ref b8), .val (.ref b13), .val (.ref b91), .val .null, .unset, .unset, .unset, .unset, .unset, .unset] [(.int (1 : Int32))])
        refine GoH.st (fun t k => XS.ifNo X93.here hx rfl (hb hby at_128) rfl ((if0 _ _).trans (feq (by decide : ¬ ((1 : Int32) = (0 : Int32)))).1) k) ?_
        show GoH _ _ _ _ _ _ _ _ _ _  T93 (mkF m 131 #[.val (.int p1), .val (.int p2), .val (.int p3), .val (.int p4), .val (.int (1 : Int32)), .val (.int (1 : Int32)), .val (.int (1 : Int32)), .val (.int f7), .val (.ref b5), .val (.ref b8), .val (.ref b13), .val (.ref b91), .val .null, .unset, .unset, .unset, .unset, .unset, .unset] [])
        obtain ⟨T145, h145, X145, e145, E145, A145, D145, -, st145⟩ := newO X93 hx hZ hown (hw _ (List.mem_of_getElem? (i := 1) rfl)) (hw _ (List.mem_of_getElem? (i := 2) rfl)) (hw _ (List.mem_of_getElem? (i := 3) rfl)) rfl (g := (mkF m 131 #[.val (.int p1), .val (.int p2), .val (.int p3), .val (.int p4), .val (.int (1 : Int32)), .val (.int (1 : Int32)), .val (.int (1 : Int32)), .val (.int f7), .val (.ref b5), .val (.ref b8), .val (.ref b13), .val (.ref b91), .val .null, .unset, .unset, .unset, .unset, .unset, .unset] [])) rfl (hb hby at_131) (by decide) (by decide)
        obtain ⟨b145, g145⟩ : ∃ z, z = T93.heap.size := ⟨_, rfl⟩
        rw [← g145] at A145 D145 st145
        refine GoH.st st145 ?_
        have g_b145 : n0 ≤ b145 := by rw [g145]; exact own_le O
        have Sf_b145 : Safe Z EL s.vm T93.heap b145 := Safe.new (Nat.le_of_eq g145.symm)
        have sz_b145 : h0.size ≤ b145 := by rw [g145]; exact KK.1
        have ne_b5_b145 : b5 ≠ b145 := Nat.ne_of_lt (by rw [g145]; exact V_b5.lt)
        have ne_b8_b145 : b8 ≠ b145 := Nat.ne_of_lt (by rw [g145]; exact V_b8.lt)
        have ne_b13_b145 : b13 ≠ b145 := Nat.ne_of_lt (by rw [g145]; exact V_b13.lt)
        have V_b5 := V_b5.ext E145
        have V_b8 := V_b8.ext E145
        have V_b13 := V_b13.ext E145
        have Sf_b5 := Safe.ext E145 HH Sf_b5
        have Sf_b8 := Safe.ext E145 HH Sf_b8
        have Sf_b13 := Safe.ext E145 HH Sf_b13
        have Sf_b145 := Safe.ext E145 HH Sf_b145
        have RR := RR.trans (CHr.ext E145 HH)
        have HH := HH.ext E145
        have hk := Nat.le_trans hk E145.1
        have O := O.ext E145
        have KK := KK.ext E145
        have E_b145 := A145
        have F_coder_b145 : Fld Z h145 b145 "java/lang/String" "coder" "B" (.int (0 : Int32)) := D145 (Or.inr (hw _ (List.mem_of_getElem? (i := 27) rfl))) (ty := .byte) (by decide)
        have F_value_b145 : Fld Z h145 b145 "java/lang/String" "value" "[B" .null := D145 (Or.inr (hw _ (List.mem_of_getElem? (i := 29) rfl))) (ty := (.array .byte)) (by decide)
        show GoH _ _ _ _ _ _ _ _ _ _  T145 (mkF m 134 #[.val (.int p1), .val (.int p2), .val (.int p3), .val (.int p4), .val (.int (1 : Int32)), .val (.int (1 : Int32)), .val (.int (1 : Int32)), .val (.int f7), .val (.ref b5), .val (.ref b8), .val (.ref b13), .val (.ref b91), .val .null, .unset, .unset, .unset, .unset, .unset, .unset] [(.ref b145)])
        refine GoH.st (fun t k => XS.dup X145.here hx rfl (hb hby at_134) rfl rfl k) ?_
        show GoH _ _ _ _ _ _ _ _ _ _  T145 (mkF m 135 #[.val (.int p1), .val (.int p2), .val (.int p3), .val (.int p4), .val (.int (1 : Int32)), .val (.int (1 : Int32)), .val (.int (1 : Int32)), .val (.int f7), .val (.ref b5), .val (.ref b8), .val (.ref b13), .val (.ref b91), .val .null, .unset, .unset, .unset, .unset, .unset, .unset] [(.ref b145), (.ref b145)])
        refine GoH.st (fun t k => XS.aload X145.here hx rfl (hb hby at_135) rfl rfl  k) ?_
        show GoH _ _ _ _ _ _ _ _ _ _  T145 (mkF m 137 #[.val (.int p1), .val (.int p2), .val (.int p3), .val (.int p4), .val (.int (1 : Int32)), .val (.int (1 : Int32)), .val (.int (1 : Int32)), .val (.int f7), .val (.ref b5), .val (.ref b8), .val (.ref b13), .val (.ref b91), .val .null, .unset, .unset, .unset, .unset, .unset, .unset] [(.ref b13), (.ref b145), (.ref b145)])
        obtain ⟨_, _, ⟨T146, L146, k146, n146⟩, -, X146, hSn146, hgn146, ⟨Lc146, hQ146, l146, y146, z146, CR146⟩, st146⟩ := X145.specialBackS hx (y := (⟨"java/lang/String", "<init>", "([C)V"⟩ : MethodName)) rfl hown (mvT hZ (hw _ (List.mem_of_getElem? (i := 4) rfl))) (mvT hZ (hw _ (List.mem_of_getElem? (i := 5) rfl))) (mvT hZ (hw _ (List.mem_of_getElem? (i := 6) rfl))) (by decide) (own_backSH (sf := [b145]) (W := 1) (rmE l Z a0 hw [] b145 b13 .null (.int (0 : Int32)) k13 h145 n0 O hEL wS E_b145 F_value_b145 F_coder_b145 g_b145 V_b13 ne_b13_b145) hZ (hw _ (List.mem_of_getElem? (i := 6) rfl)) (hw _ (List.mem_of_getElem? (i := 3) rfl)) (by decide) (by decide) hEL HH (allS (P := fun x => Safe Z EL s.vm h145 x ∧ x < Array.size h145) ⟨Sf_b145, E_b145.lt⟩ all0)) (g := (mkF m 137 #[.val (.int p1), .val (.int p2), .val (.int p3), .val (.int p4), .val (.int (1 : Int32)), .val (.int (1 : Int32)), .val (.int (1 : Int32)), .val (.int f7), .val (.ref b5), .val (.ref b8), .val (.ref b13), .val (.ref b91), .val .null, .unset, .unset, .unset, .unset, .unset, .unset] [(.ref b13), (.ref b145), (.ref b145)])) rfl (by rw [hml]; rfl) (Steps.refl _) (a := b145) (argsL := [(.ref b13)]) (rest := [(.ref b145)]) (lenOf pd___C_V rfl) rfl (by show 2 * 0 + _ ≤ _; exact Nat.le_of_eq rfl) (hb hby at_137) (fun _ _ => ⟨rfl, e145, (by decide : 6 + 4 ≤ _), (by decide : 12 + 8 ≤ _)⟩)
        dsimp only [Pt.U, Pt.locs, Pt.cells, Pt.slots] at X146 l146 y146 z146 st146 hQ146 hSn146 hgn146 CR146
        subst l146 y146 z146
        obtain ⟨rfl, N146q, K146q, Eq146, Cq146, t146, kt146, Vq146, Aq146⟩ := hQ146
        have X146 : Stand p l e _ (s.setVm T146.vm) m _ below meth c T146 _ _ _ := X146
        have N146 := Fr.app N93 N146q
        refine GoH.tr st146 ?_
        have hS146 := Jvm.RoadKit.foldS hS (by rw [e145]; exact hk) hSn146 hgn146
        have hZ146 := State.Warmed39.trans (t := s.setVm s.vm) hZ hSn146.1
        have hk146 := Nat.le_refl T146.heap.size
        have hown146 : T146.vm.findClass "com/example/wellness_on_record/wellnessonrecord/oauth/PrincipalHoldsRequestTokenPinLaw" = some m.cls := by rw [hSn146.1.alike.findClass]; exact hown
        have Sf_b5 := CHr.safe CR146 V_b5.lt Sf_b5
        have Sf_b8 := CHr.safe CR146 V_b8.lt Sf_b8
        have Sf_b13 := CHr.safe CR146 V_b13.lt Sf_b13
        have Sf_b145 := CHr.safe CR146 E_b145.lt Sf_b145
        have V_b5 := V_b5.keep K146q (ninS ne_b5_b145 nin0)
        have V_b8 := V_b8.keep K146q (ninS ne_b8_b145 nin0)
        have V_b13 := V_b13.keep K146q (ninS ne_b13_b145 nin0)
        have E_b145 := E_b145.keep K146q
        have O := O.keep K146q (allS g_b145 all0)
        have KK := KK.trans K146q (allS (Or.inr sz_b145) all0)
        have RR := RR.trans CR146
        have HH := CR146.1
        have hS := hS146
        have hk := hk146
        have hZ := hZ146
        have hown := hown146
        have E_b145 := Eq146
        show GoH _ _ _ _ _ _ _ _ _ _  T146 (mkF m 140 #[.val (.int p1), .val (.int p2), .val (.int p3), .val (.int p4), .val (.int (1 : Int32)), .val (.int (1 : Int32)), .val (.int (1 : Int32)), .val (.int f7), .val (.ref b5), .val (.ref b8), .val (.ref b13), .val (.ref b91), .val .null, .unset, .unset, .unset, .unset, .unset, .unset] [(.ref b145)])
        refine GoH.st (fun t k => XS.goto X146.here hx rfl (pc0 := 140) (pc' := 152) rfl (hb hby at_140) (by decide) (by decide) k) ?_
        show GoH _ _ _ _ _ _ _ _ _ _  T146 (mkF m 152 #[.val (.int p1), .val (.int p2), .val (.int p3), .val (.int p4), .val (.int (1 : Int32)), .val (.int (1 : Int32)), .val (.int (1 : Int32)), .val (.int f7), .val (.ref b5), .val (.ref b8), .val (.ref b13), .val (.ref b91), .val .null, .unset, .unset, .unset, .unset, .unset, .unset] [(.ref b145)])
        refine GoH.st (fun t k => XS.astore X146.here hx rfl (hb hby at_152) rfl rfl (l' := #[.val (.int p1), .val (.int p2), .val (.int p3), .val (.int p4), .val (.int (1 : Int32)), .val (.int (1 : Int32)), .val (.int (1 : Int32)), .val (.int f7), .val (.ref b5), .val (.ref b8), .val (.ref b13), .val (.ref b91), .val (.ref b145), .unset, .unset, .unset, .unset, .unset, .unset]) rfl k) ?_
        show GoH _ _ _ _ _ _ _ _ _ _  T146 (mkF m 154 #[.val (.int p1), .val (.int p2), .val (.int p3), .val (.int p4), .val (.int (1 : Int32)), .val (.int (1 : Int32)), .val (.int (1 : Int32)), .val (.int f7), .val (.ref b5), .val (.ref b8), .val (.ref b13), .val (.ref b91), .val (.ref b145), .unset, .unset, .unset, .unset, .unset, .unset] [])
        rcases ok_f7 with sp147 | sp147
        · rw [sp147]
          show GoH _ _ _ _ _ _ _ _ _ _  T146 (mkF m 154 #[.val (.int p1), .val (.int p2), .val (.int p3), .val (.int p4), .val (.int (1 : Int32)), .val (.int (1 : Int32)), .val (.int (1 : Int32)), .val (.int (0 : Int32)), .val (.ref b5), .val (.ref b8), .val (.ref b13), .val (.ref b91), .val (.ref b145), .unset, .unset, .unset, .unset, .unset, .unset] [])
          refine GoH.st (fun t k => XS.iload X146.here hx rfl (hb hby at_154) rfl  k) ?_
          show GoH _ _ _ _ _ _ _ _ _ _  T146 (mkF m 156 #[.val (.int p1), .val (.int p2), .val (.int p3), .val (.int p4), .val (.int (1 : Int32)), .val (.int (1 : Int32)), .val (.int (1 : Int32)), .val (.int (0 : Int32)), .val (.ref b5), .val (.ref b8), .val (.ref b13), .val (.ref b91), .val (.ref b145), .unset, .unset, .unset, .unset, .unset, .unset] [(.int (0 : Int32))])
          refine GoH.st (fun t k => XS.ifYes X146.here hx rfl (pc0 := 156) (pc' := 165) rfl (hb hby at_156) rfl ((if0 _ _).trans (teq (rfl : (0 : Int32) = (0 : Int32))).1) (by decide) (by decide) k) ?_
          show GoH _ _ _ _ _ _ _ _ _ _  T146 (mkF m 165 #[.val (.int p1), .val (.int p2), .val (.int p3), .val (.int p4), .val (.int (1 : Int32)), .val (.int (1 : Int32)), .val (.int (1 : Int32)), .val (.int (0 : Int32)), .val (.ref b5), .val (.ref b8), .val (.ref b13), .val (.ref b91), .val (.ref b145), .unset, .unset, .unset, .unset, .unset, .unset] [])
          obtain ⟨T148, X148, e148, st148⟩ := getS2 X146 hx hZ hown (host := "") (Or.inl (hw _ (List.mem_of_getElem? (i := 30) rfl))) Via.refl rfl (S_ADMIN.ext O.2) (g := (mkF m 165 #[.val (.int p1), .val (.int p2), .val (.int p3), .val (.int p4), .val (.int (1 : Int32)), .val (.int (1 : Int32)), .val (.int (1 : Int32)), .val (.int (0 : Int32)), .val (.ref b5), .val (.ref b8), .val (.ref b13), .val (.ref b91), .val (.ref b145), .unset, .unset, .unset, .unset, .unset, .unset] [])) rfl (hb hby at_165)
          refine GoH.st st148 ?_
          show GoH _ _ _ _ _ _ _ _ _ _  T148 (mkF m 168 #[.val (.int p1), .val (.int p2), .val (.int p3), .val (.int p4), .val (.int (1 : Int32)), .val (.int (1 : Int32)), .val (.int (1 : Int32)), .val (.int (0 : Int32)), .val (.ref b5), .val (.ref b8), .val (.ref b13), .val (.ref b91), .val (.ref b145), .unset, .unset, .unset, .unset, .unset, .unset] [(.ref w_ADMIN)])
          refine GoH.st (fun t k => XS.astore X148.here hx rfl (hb hby at_168) rfl rfl (l' := #[.val (.int p1), .val (.int p2), .val (.int p3), .val (.int p4), .val (.int (1 : Int32)), .val (.int (1 : Int32)), .val (.int (1 : Int32)), .val (.int (0 : Int32)), .val (.ref b5), .val (.ref b8), .val (.ref b13), .val (.ref b91), .val (.ref b145), .val (.ref w_ADMIN), .unset, .unset, .unset, .unset, .unset]) rfl k) ?_
          show GoH _ _ _ _ _ _ _ _ _ _  T148 (mkF m 170 #[.val (.int p1), .val (.int p2), .val (.int p3), .val (.int p4), .val (.int (1 : Int32)), .val (.int (1 : Int32)), .val (.int (1 : Int32)), .val (.int (0 : Int32)), .val (.ref b5), .val (.ref b8), .val (.ref b13), .val (.ref b91), .val (.ref b145), .val (.ref w_ADMIN), .unset, .unset, .unset, .unset, .unset] [])
          obtain ⟨T149, h149, X149, e149, E149, A149, D149, -, st149⟩ := newO X148 hx hZ hown (hw _ (List.mem_of_getElem? (i := 33) rfl)) (hw _ (List.mem_of_getElem? (i := 34) rfl)) (hw _ (List.mem_of_getElem? (i := 35) rfl)) e148 (g := (mkF m 170 #[.val (.int p1), .val (.int p2), .val (.int p3), .val (.int p4), .val (.int (1 : Int32)), .val (.int (1 : Int32)), .val (.int (1 : Int32)), .val (.int (0 : Int32)), .val (.ref b5), .val (.ref b8), .val (.ref b13), .val (.ref b91), .val (.ref b145), .val (.ref w_ADMIN), .unset, .unset, .unset, .unset, .unset] [])) rfl (hb hby at_170) (by decide) (by decide)
          obtain ⟨b149, g149⟩ : ∃ z, z = T146.heap.size := ⟨_, rfl⟩
          rw [← g149] at A149 D149 st149
          refine GoH.st st149 ?_
          have g_b149 : n0 ≤ b149 := by rw [g149]; exact own_le O
          have Sf_b149 : Safe Z EL T146.vm T146.heap b149 := Safe.new (Nat.le_of_eq g149.symm)
          have sz_b149 : h0.size ≤ b149 := by rw [g149]; exact KK.1
          have ne_b5_b149 : b5 ≠ b149 := Nat.ne_of_lt (by rw [g149]; exact V_b5.lt)
          have ne_b8_b149 : b8 ≠ b149 := Nat.ne_of_lt (by rw [g149]; exact V_b8.lt)
          have ne_b13_b149 : b13 ≠ b149 := Nat.ne_of_lt (by rw [g149]; exact V_b13.lt)
          have V_b5 := V_b5.ext E149
          have V_b8 := V_b8.ext E149
          have V_b13 := V_b13.ext E149
          have Sf_b5 := Safe.ext E149 HH Sf_b5
          have Sf_b8 := Safe.ext E149 HH Sf_b8
          have Sf_b13 := Safe.ext E149 HH Sf_b13
          have Sf_b149 := Safe.ext E149 HH Sf_b149
          have RR := RR.trans (CHr.ext E149 HH)
          have HH := HH.ext E149
          have hk := Nat.le_trans hk E149.1
          have O := O.ext E149
          have KK := KK.ext E149
          have E_b149 := A149
          have F_id_b149 : Fld Z h149 b149 "com/example/wellness_on_record/wellnessonrecord/apps/App" "id" "Ljava/lang/String;" .null := D149 (Or.inr (hw _ (List.mem_of_getElem? (i := 52) rfl))) (ty := (.object "java/lang/String")) (by decide)
          have F_name_b149 : Fld Z h149 b149 "com/example/wellness_on_record/wellnessonrecord/apps/App" "name" "Ljava/lang/String;" .null := D149 (Or.inr (hw _ (List.mem_of_getElem? (i := 54) rfl))) (ty := (.object "java/lang/String")) (by decide)
          have F_kind_b149 : Fld Z h149 b149 "com/example/wellness_on_record/wellnessonrecord/apps/App" "kind" "Lcom/example/wellness_on_record/wellnessonrecord/apps/App$Kind;" .null := D149 (Or.inr (hw _ (List.mem_of_getElem? (i := 56) rfl))) (ty := (.object "com/example/wellness_on_record/wellnessonrecord/apps/App$Kind")) (by decide)
          have F_consumerKey_b149 : Fld Z h149 b149 "com/example/wellness_on_record/wellnessonrecord/apps/App" "consumerKey" "Ljava/lang/String;" .null := D149 (Or.inr (hw _ (List.mem_of_getElem? (i := 58) rfl))) (ty := (.object "java/lang/String")) (by decide)
          have F_consumerSecret_b149 : Fld Z h149 b149 "com/example/wellness_on_record/wellnessonrecord/apps/App" "consumerSecret" "Ljava/lang/String;" .null := D149 (Or.inr (hw _ (List.mem_of_getElem? (i := 60) rfl))) (ty := (.object "java/lang/String")) (by decide)
          have F_autonomous_b149 : Fld Z h149 b149 "com/example/wellness_on_record/wellnessonrecord/apps/App" "autonomous" "Z" (.int (0 : Int32)) := D149 (Or.inr (hw _ (List.mem_of_getElem? (i := 62) rfl))) (ty := .boolean) (by decide)
          have F_autonomousReason_b149 : Fld Z h149 b149 "com/example/wellness_on_record/wellnessonrecord/apps/App" "autonomousReason" "Ljava/lang/String;" .null := D149 (Or.inr (hw _ (List.mem_of_getElem? (i := 64) rfl))) (ty := (.object "java/lang/String")) (by decide)
          have F_hasUi_b149 : Fld Z h149 b149 "com/example/wellness_on_record/wellnessonrecord/apps/App" "hasUi" "Z" (.int (0 : Int32)) := D149 (Or.inr (hw _ (List.mem_of_getElem? (i := 66) rfl))) (ty := .boolean) (by decide)
          have F_callbackUrl_b149 : Fld Z h149 b149 "com/example/wellness_on_record/wellnessonrecord/apps/App" "callbackUrl" "Ljava/lang/String;" .null := D149 (Or.inr (hw _ (List.mem_of_getElem? (i := 68) rfl))) (ty := (.object "java/lang/String")) (by decide)
          have F_startUrlTemplate_b149 : Fld Z h149 b149 "com/example/wellness_on_record/wellnessonrecord/apps/App" "startUrlTemplate" "Ljava/lang/String;" .null := D149 (Or.inr (hw _ (List.mem_of_getElem? (i := 70) rfl))) (ty := (.object "java/lang/String")) (by decide)
          have F_frameable_b149 : Fld Z h149 b149 "com/example/wellness_on_record/wellnessonrecord/apps/App" "frameable" "Z" (.int (0 : Int32)) := D149 (Or.inr (hw _ (List.mem_of_getElem? (i := 72) rfl))) (ty := .boolean) (by decide)
          show GoH _ _ _ _ _ _ _ _ _ _  T149 (mkF m 173 #[.val (.int p1), .val (.int p2), .val (.int p3), .val (.int p4), .val (.int (1 : Int32)), .val (.int (1 : Int32)), .val (.int (1 : Int32)), .val (.int (0 : Int32)), .val (.ref b5), .val (.ref b8), .val (.ref b13), .val (.ref b91), .val (.ref b145), .val (.ref w_ADMIN), .unset, .unset, .unset, .unset, .unset] [(.ref b149)])
          refine GoH.st (fun t k => XS.dup X149.here hx rfl (hb hby at_173) rfl rfl k) ?_
          show GoH _ _ _ _ _ _ _ _ _ _  T149 (mkF m 174 #[.val (.int p1), .val (.int p2), .val (.int p3), .val (.int p4), .val (.int (1 : Int32)), .val (.int (1 : Int32)), .val (.int (1 : Int32)), .val (.int (0 : Int32)), .val (.ref b5), .val (.ref b8), .val (.ref b13), .val (.ref b91), .val (.ref b145), .val (.ref w_ADMIN), .unset, .unset, .unset, .unset, .unset] [(.ref b149), (.ref b149)])
          obtain ⟨sa150, T150, h150, kk150, sb150, kb150, X150, e150, E150, hS150, hk150, hZ150, ho150, E_sa150, F_coder_sa150, F_value_sa150, V_sb150, la150, lb150, CR150, Lt150, ns150, st150⟩ := ldcCH X149 hx hZ hown (hw _ (List.mem_of_getElem? (i := 36) rfl)) wS e149 hS hk hEL (List.mem_of_getElem? (i := 0) rfl) HH (vs := [(.int (105 : Int32)), (.int (100 : Int32))]) (z := 2) ⟨by decide, by decide⟩ (by decide) rfl (g := (mkF m 174 #[.val (.int p1), .val (.int p2), .val (.int p3), .val (.int p4), .val (.int (1 : Int32)), .val (.int (1 : Int32)), .val (.int (1 : Int32)), .val (.int (0 : Int32)), .val (.ref b5), .val (.ref b8), .val (.ref b13), .val (.ref b91), .val (.ref b145), .val (.ref w_ADMIN), .unset, .unset, .unset, .unset, .unset] [(.ref b149), (.ref b149)])) rfl (hb hby at_174) (n := 8) (by decide) (by decide) (by decide) (by decide)
          refine GoH.st st150 ?_
          have Sf_b5 := CHr.safe CR150 V_b5.lt Sf_b5
          have Sf_b8 := CHr.safe CR150 V_b8.lt Sf_b8
          have Sf_b13 := CHr.safe CR150 V_b13.lt Sf_b13
          have Sf_b149 := CHr.safe CR150 E_b149.lt Sf_b149
          have V_b5 := V_b5.ext E150
          have V_b8 := V_b8.ext E150
          have V_b13 := V_b13.ext E150
          have E_b149 := E_b149.ext E150
          have F_id_b149 := F_id_b149.ext E150
          have F_name_b149 := F_name_b149.ext E150
          have F_kind_b149 := F_kind_b149.ext E150
          have F_consumerKey_b149 := F_consumerKey_b149.ext E150
          have F_consumerSecret_b149 := F_consumerSecret_b149.ext E150
          have F_autonomous_b149 := F_autonomous_b149.ext E150
          have F_autonomousReason_b149 := F_autonomousReason_b149.ext E150
          have F_hasUi_b149 := F_hasUi_b149.ext E150
          have F_callbackUrl_b149 := F_callbackUrl_b149.ext E150
          have F_startUrlTemplate_b149 := F_startUrlTemplate_b149.ext E150
          have F_frameable_b149 := F_frameable_b149.ext E150
          have O := O.ext E150
          have KK := KK.ext E150
          have RR := RR.trans CR150
          have HH := CR150.1
          have hS := hS150
          have hk := hk150
          have hZ := hZ150
          have hown := ho150
          show GoH _ _ _ _ _ _ _ _ _ _  T150 (mkF m 176 #[.val (.int p1), .val (.int p2), .val (.int p3), .val (.int p4), .val (.int (1 : Int32)), .val (.int (1 : Int32)), .val (.int (1 : Int32)), .val (.int (0 : Int32)), .val (.ref b5), .val (.ref b8), .val (.ref b13), .val (.ref b91), .val (.ref b145), .val (.ref w_ADMIN), .unset, .unset, .unset, .unset, .unset] [(.ref sa150), (.ref b149), (.ref b149)])
          obtain ⟨sa151, T151, h151, kk151, sb151, kb151, X151, e151, E151, hS151, hk151, hZ151, ho151, E_sa151, F_coder_sa151, F_value_sa151, V_sb151, la151, lb151, CR151, Lt151, ns151, st151⟩ := ldcCH X150 hx hZ hown (hw _ (List.mem_of_getElem? (i := 39) rfl)) wS e150 hS hk hEL (List.mem_of_getElem? (i := 1) rfl) HH (vs := [(.int (110 : Int32)), (.int (97 : Int32)), (.int (109 : Int32)), (.int (101 : Int32))]) (z := 4) ⟨by decide, by decide⟩ (by decide) rfl (g := (mkF m 176 #[.val (.int p1), .val (.int p2), .val (.int p3), .val (.int p4), .val (.int (1 : Int32)), .val (.int (1 : Int32)), .val (.int (1 : Int32)), .val (.int (0 : Int32)), .val (.ref b5), .val (.ref b8), .val (.ref b13), .val (.ref b91), .val (.ref b145), .val (.ref w_ADMIN), .unset, .unset, .unset, .unset, .unset] [(.ref sa150), (.ref b149), (.ref b149)])) rfl (hb hby at_176) (n := 16) (by decide) (by decide) (by decide) (by decide)
          refine GoH.st st151 ?_
          have Sf_b5 := CHr.safe CR151 V_b5.lt Sf_b5
          have Sf_b8 := CHr.safe CR151 V_b8.lt Sf_b8
          have Sf_b13 := CHr.safe CR151 V_b13.lt Sf_b13
          have Sf_b149 := CHr.safe CR151 E_b149.lt Sf_b149
          have V_b5 := V_b5.ext E151
          have V_b8 := V_b8.ext E151
          have V_b13 := V_b13.ext E151
          have E_b149 := E_b149.ext E151
          have F_id_b149 := F_id_b149.ext E151
          have F_name_b149 := F_name_b149.ext E151
          have F_kind_b149 := F_kind_b149.ext E151
          have F_consumerKey_b149 := F_consumerKey_b149.ext E151
          have F_consumerSecret_b149 := F_consumerSecret_b149.ext E151
          have F_autonomous_b149 := F_autonomous_b149.ext E151
          have F_autonomousReason_b149 := F_autonomousReason_b149.ext E151
          have F_hasUi_b149 := F_hasUi_b149.ext E151
          have F_callbackUrl_b149 := F_callbackUrl_b149.ext E151
          have F_startUrlTemplate_b149 := F_startUrlTemplate_b149.ext E151
          have F_frameable_b149 := F_frameable_b149.ext E151
          have O := O.ext E151
          have KK := KK.ext E151
          have RR := RR.trans CR151
          have HH := CR151.1
          have hS := hS151
          have hk := hk151
          have hZ := hZ151
          have hown := ho151
          show GoH _ _ _ _ _ _ _ _ _ _  T151 (mkF m 178 #[.val (.int p1), .val (.int p2), .val (.int p3), .val (.int p4), .val (.int (1 : Int32)), .val (.int (1 : Int32)), .val (.int (1 : Int32)), .val (.int (0 : Int32)), .val (.ref b5), .val (.ref b8), .val (.ref b13), .val (.ref b91), .val (.ref b145), .val (.ref w_ADMIN), .unset, .unset, .unset, .unset, .unset] [(.ref sa151), (.ref sa150), (.ref b149), (.ref b149)])
          refine GoH.st (fun t k => XS.aload X151.here hx rfl (hb hby at_178) rfl rfl  k) ?_
          show GoH _ _ _ _ _ _ _ _ _ _  T151 (mkF m 180 #[.val (.int p1), .val (.int p2), .val (.int p3), .val (.int p4), .val (.int (1 : Int32)), .val (.int (1 : Int32)), .val (.int (1 : Int32)), .val (.int (0 : Int32)), .val (.ref b5), .val (.ref b8), .val (.ref b13), .val (.ref b91), .val (.ref b145), .val (.ref w_ADMIN), .unset, .unset, .unset, .unset, .unset] [(.ref w_ADMIN), (.ref sa151), (.ref sa150), (.ref b149), (.ref b149)])
          obtain ⟨sa152, T152, h152, kk152, sb152, kb152, X152, e152, E152, hS152, hk152, hZ152, ho152, E_sa152, F_coder_sa152, F_value_sa152, V_sb152, la152, lb152, CR152, Lt152, ns152, st152⟩ := ldcCH X151 hx hZ hown (hw _ (List.mem_of_getElem? (i := 40) rfl)) wS e151 hS hk hEL (List.mem_of_getElem? (i := 2) rfl) HH (vs := [(.int (107 : Int32)), (.int (101 : Int32)), (.int (121 : Int32))]) (z := 3) ⟨by decide, by decide⟩ (by decide) rfl (g := (mkF m 180 #[.val (.int p1), .val (.int p2), .val (.int p3), .val (.int p4), .val (.int (1 : Int32)), .val (.int (1 : Int32)), .val (.int (1 : Int32)), .val (.int (0 : Int32)), .val (.ref b5), .val (.ref b8), .val (.ref b13), .val (.ref b91), .val (.ref b145), .val (.ref w_ADMIN), .unset, .unset, .unset, .unset, .unset] [(.ref w_ADMIN), (.ref sa151), (.ref sa150), (.ref b149), (.ref b149)])) rfl (hb hby at_180) (n := 12) (by decide) (by decide) (by decide) (by decide)
          refine GoH.st st152 ?_
          have Sf_b5 := CHr.safe CR152 V_b5.lt Sf_b5
          have Sf_b8 := CHr.safe CR152 V_b8.lt Sf_b8
          have Sf_b13 := CHr.safe CR152 V_b13.lt Sf_b13
          have Sf_b149 := CHr.safe CR152 E_b149.lt Sf_b149
          have V_b5 := V_b5.ext E152
          have V_b8 := V_b8.ext E152
          have V_b13 := V_b13.ext E152
          have E_b149 := E_b149.ext E152
          have F_id_b149 := F_id_b149.ext E152
          have F_name_b149 := F_name_b149.ext E152
          have F_kind_b149 := F_kind_b149.ext E152
          have F_consumerKey_b149 := F_consumerKey_b149.ext E152
          have F_consumerSecret_b149 := F_consumerSecret_b149.ext E152
          have F_autonomous_b149 := F_autonomous_b149.ext E152
          have F_autonomousReason_b149 := F_autonomousReason_b149.ext E152
          have F_hasUi_b149 := F_hasUi_b149.ext E152
          have F_callbackUrl_b149 := F_callbackUrl_b149.ext E152
          have F_startUrlTemplate_b149 := F_startUrlTemplate_b149.ext E152
          have F_frameable_b149 := F_frameable_b149.ext E152
          have O := O.ext E152
          have KK := KK.ext E152
          have RR := RR.trans CR152
          have HH := CR152.1
          have hS := hS152
          have hk := hk152
          have hZ := hZ152
          have hown := ho152
          show GoH _ _ _ _ _ _ _ _ _ _  T152 (mkF m 182 #[.val (.int p1), .val (.int p2), .val (.int p3), .val (.int p4), .val (.int (1 : Int32)), .val (.int (1 : Int32)), .val (.int (1 : Int32)), .val (.int (0 : Int32)), .val (.ref b5), .val (.ref b8), .val (.ref b13), .val (.ref b91), .val (.ref b145), .val (.ref w_ADMIN), .unset, .unset, .unset, .unset, .unset] [(.ref sa152), (.ref w_ADMIN), (.ref sa151), (.ref sa150), (.ref b149), (.ref b149)])
          obtain ⟨sa153, T153, h153, kk153, sb153, kb153, X153, e153, E153, hS153, hk153, hZ153, ho153, E_sa153, F_coder_sa153, F_value_sa153, V_sb153, la153, lb153, CR153, Lt153, ns153, st153⟩ := ldcCH X152 hx hZ hown (hw _ (List.mem_of_getElem? (i := 41) rfl)) wS e152 hS hk hEL (List.mem_of_getElem? (i := 3) rfl) HH (vs := [(.int (115 : Int32)), (.int (101 : Int32)), (.int (99 : Int32)), (.int (114 : Int32)), (.int (101 : Int32)), (.int (116 : Int32))]) (z := 6) ⟨by decide, by decide⟩ (by decide) rfl (g := (mkF m 182 #[.val (.int p1), .val (.int p2), .val (.int p3), .val (.int p4), .val (.int (1 : Int32)), .val (.int (1 : Int32)), .val (.int (1 : Int32)), .val (.int (0 : Int32)), .val (.ref b5), .val (.ref b8), .val (.ref b13), .val (.ref b91), .val (.ref b145), .val (.ref w_ADMIN), .unset, .unset, .unset, .unset, .unset] [(.ref sa152), (.ref w_ADMIN), (.ref sa151), (.ref sa150), (.ref b149), (.ref b149)])) rfl (hb hby at_182) (n := 24) (by decide) (by decide) (by decide) (by decide)
          refine GoH.st st153 ?_
          have Sf_b5 := CHr.safe CR153 V_b5.lt Sf_b5
          have Sf_b8 := CHr.safe CR153 V_b8.lt Sf_b8
          have Sf_b13 := CHr.safe CR153 V_b13.lt Sf_b13
          have Sf_b149 := CHr.safe CR153 E_b149.lt Sf_b149
          have V_b5 := V_b5.ext E153
          have V_b8 := V_b8.ext E153
          have V_b13 := V_b13.ext E153
          have E_b149 := E_b149.ext E153
          have F_id_b149 := F_id_b149.ext E153
          have F_name_b149 := F_name_b149.ext E153
          have F_kind_b149 := F_kind_b149.ext E153
          have F_consumerKey_b149 := F_consumerKey_b149.ext E153
          have F_consumerSecret_b149 := F_consumerSecret_b149.ext E153
          have F_autonomous_b149 := F_autonomous_b149.ext E153
          have F_autonomousReason_b149 := F_autonomousReason_b149.ext E153
          have F_hasUi_b149 := F_hasUi_b149.ext E153
          have F_callbackUrl_b149 := F_callbackUrl_b149.ext E153
          have F_startUrlTemplate_b149 := F_startUrlTemplate_b149.ext E153
          have F_frameable_b149 := F_frameable_b149.ext E153
          have O := O.ext E153
          have KK := KK.ext E153
          have RR := RR.trans CR153
          have HH := CR153.1
          have hS := hS153
          have hk := hk153
          have hZ := hZ153
          have hown := ho153
          show GoH _ _ _ _ _ _ _ _ _ _  T153 (mkF m 184 #[.val (.int p1), .val (.int p2), .val (.int p3), .val (.int p4), .val (.int (1 : Int32)), .val (.int (1 : Int32)), .val (.int (1 : Int32)), .val (.int (0 : Int32)), .val (.ref b5), .val (.ref b8), .val (.ref b13), .val (.ref b91), .val (.ref b145), .val (.ref w_ADMIN), .unset, .unset, .unset, .unset, .unset] [(.ref sa153), (.ref sa152), (.ref w_ADMIN), (.ref sa151), (.ref sa150), (.ref b149), (.ref b149)])
          refine GoH.st (fun t k => XS.iconst X153.here hx rfl (hb hby at_184) k) ?_
          show GoH _ _ _ _ _ _ _ _ _ _  T153 (mkF m 185 #[.val (.int p1), .val (.int p2), .val (.int p3), .val (.int p4), .val (.int (1 : Int32)), .val (.int (1 : Int32)), .val (.int (1 : Int32)), .val (.int (0 : Int32)), .val (.ref b5), .val (.ref b8), .val (.ref b13), .val (.ref b91), .val (.ref b145), .val (.ref w_ADMIN), .unset, .unset, .unset, .unset, .unset] [(.int (0 : Int32)), (.ref sa153), (.ref sa152), (.ref w_ADMIN), (.ref sa151), (.ref sa150), (.ref b149), (.ref b149)])
          refine GoH.st (fun t k => XS.aconstNull X153.here hx rfl (hb hby at_185) k) ?_
          show GoH _ _ _ _ _ _ _ _ _ _  T153 (mkF m 186 #[.val (.int p1), .val (.int p2), .val (.int p3), .val (.int p4), .val (.int (1 : Int32)), .val (.int (1 : Int32)), .val (.int (1 : Int32)), .val (.int (0 : Int32)), .val (.ref b5), .val (.ref b8), .val (.ref b13), .val (.ref b91), .val (.ref b145), .val (.ref w_ADMIN), .unset, .unset, .unset, .unset, .unset] [.null, (.int (0 : Int32)), (.ref sa153), (.ref sa152), (.ref w_ADMIN), (.ref sa151), (.ref sa150), (.ref b149), (.ref b149)])
          refine GoH.st (fun t k => XS.iconst X153.here hx rfl (hb hby at_186) k) ?_
          show GoH _ _ _ _ _ _ _ _ _ _  T153 (mkF m 187 #[.val (.int p1), .val (.int p2), .val (.int p3), .val (.int p4), .val (.int (1 : Int32)), .val (.int (1 : Int32)), .val (.int (1 : Int32)), .val (.int (0 : Int32)), .val (.ref b5), .val (.ref b8), .val (.ref b13), .val (.ref b91), .val (.ref b145), .val (.ref w_ADMIN), .unset, .unset, .unset, .unset, .unset] [(.int (0 : Int32)), .null, (.int (0 : Int32)), (.ref sa153), (.ref sa152), (.ref w_ADMIN), (.ref sa151), (.ref sa150), (.ref b149), (.ref b149)])
          refine GoH.st (fun t k => XS.aconstNull X153.here hx rfl (hb hby at_187) k) ?_
          show GoH _ _ _ _ _ _ _ _ _ _  T153 (mkF m 188 #[.val (.int p1), .val (.int p2), .val (.int p3), .val (.int p4), .val (.int (1 : Int32)), .val (.int (1 : Int32)), .val (.int (1 : Int32)), .val (.int (0 : Int32)), .val (.ref b5), .val (.ref b8), .val (.ref b13), .val (.ref b91), .val (.ref b145), .val (.ref w_ADMIN), .unset, .unset, .unset, .unset, .unset] [.null, (.int (0 : Int32)), .null, (.int (0 : Int32)), (.ref sa153), (.ref sa152), (.ref w_ADMIN), (.ref sa151), (.ref sa150), (.ref b149), (.ref b149)])
          refine GoH.st (fun t k => XS.aconstNull X153.here hx rfl (hb hby at_188) k) ?_
          show GoH _ _ _ _ _ _ _ _ _ _  T153 (mkF m 189 #[.val (.int p1), .val (.int p2), .val (.int p3), .val (.int p4), .val (.int (1 : Int32)), .val (.int (1 : Int32)), .val (.int (1 : Int32)), .val (.int (0 : Int32)), .val (.ref b5), .val (.ref b8), .val (.ref b13), .val (.ref b91), .val (.ref b145), .val (.ref w_ADMIN), .unset, .unset, .unset, .unset, .unset] [.null, .null, (.int (0 : Int32)), .null, (.int (0 : Int32)), (.ref sa153), (.ref sa152), (.ref w_ADMIN), (.ref sa151), (.ref sa150), (.ref b149), (.ref b149)])
          refine GoH.st (fun t k => XS.iconst X153.here hx rfl (hb hby at_189) k) ?_
          show GoH _ _ _ _ _ _ _ _ _ _  T153 (mkF m 190 #[.val (.int p1), .val (.int p2), .val (.int p3), .val (.int p4), .val (.int (1 : Int32)), .val (.int (1 : Int32)), .val (.int (1 : Int32)), .val (.int (0 : Int32)), .val (.ref b5), .val (.ref b8), .val (.ref b13), .val (.ref b91), .val (.ref b145), .val (.ref w_ADMIN), .unset, .unset, .unset, .unset, .unset] [(.int (0 : Int32)), .null, .null, (.int (0 : Int32)), .null, (.int (0 : Int32)), (.ref sa153), (.ref sa152), (.ref w_ADMIN), (.ref sa151), (.ref sa150), (.ref b149), (.ref b149)])
          obtain ⟨_, _, ⟨T154, L154, k154, n154⟩, -, X154, ⟨Lc154, hQ154, l154, y154, z154⟩, st154⟩ := X153.specialBack hx (y := (⟨"com/example/wellness_on_record/wellnessonrecord/apps/App", "<init>", "(Ljava/lang/String;Ljava/lang/String;Lcom/example/wellness_on_record/wellnessonrecord/apps/App$Kind;Ljava/lang/String;Ljava/lang/String;ZLjava/lang/String;ZLjava/lang/String;Ljava/lang/String;Z)V"⟩ : MethodName)) rfl hown (mvT hZ (hw _ (List.mem_of_getElem? (i := 42) rfl))) (mvT hZ (hw _ (List.mem_of_getElem? (i := 43) rfl))) (mvT hZ (hw _ (List.mem_of_getElem? (i := 44) rfl))) (by decide) (backOf (W := 1) (rmA l Z a0 hw [] b149 sa150 sa151 w_ADMIN sa152 sa153 h153 n0 O E_b149 F_id_b149 F_name_b149 F_kind_b149 F_consumerKey_b149 F_consumerSecret_b149 F_autonomous_b149 F_autonomousReason_b149 F_hasUi_b149 F_callbackUrl_b149 F_startUrlTemplate_b149 F_frameable_b149 g_b149) hZ (hw _ (List.mem_of_getElem? (i := 44) rfl)) (hw _ (List.mem_of_getElem? (i := 35) rfl)) (by decide) (by decide)) (g := (mkF m 190 #[.val (.int p1), .val (.int p2), .val (.int p3), .val (.int p4), .val (.int (1 : Int32)), .val (.int (1 : Int32)), .val (.int (1 : Int32)), .val (.int (0 : Int32)), .val (.ref b5), .val (.ref b8), .val (.ref b13), .val (.ref b91), .val (.ref b145), .val (.ref w_ADMIN), .unset, .unset, .unset, .unset, .unset] [(.int (0 : Int32)), .null, .null, (.int (0 : Int32)), .null, (.int (0 : Int32)), (.ref sa153), (.ref sa152), (.ref w_ADMIN), (.ref sa151), (.ref sa150), (.ref b149), (.ref b149)])) rfl (by rw [hml]; rfl) (Steps.refl _) (a := b149) (argsL := [(.ref sa150), (.ref sa151), (.ref w_ADMIN), (.ref sa152), (.ref sa153), (.int (0 : Int32)), .null, (.int (0 : Int32)), .null, .null, (.int (0 : Int32))]) (rest := [(.ref b149)]) (lenOf pd__Ljava_lang_String_Ljava_lang_String_Lcom_example_wellness_on_record_wellnessonrecord_apps_App_Kind_Ljava_lang_String_Ljava_lang_String_ZLjava_lang_String_ZLjava_lang_String_Ljava_lang_String_Z_V rfl) rfl (by show 2 * 0 + _ ≤ _; exact Nat.le_of_eq rfl) (hb hby at_190) (fun _ _ => ⟨rfl, e153, (by decide : 19 + 0 ≤ _), (by decide : 107 + 0 ≤ _)⟩)
          dsimp only [Pt.U, Pt.locs, Pt.cells, Pt.slots] at X154 l154 y154 z154 st154 hQ154
          subst l154 y154 z154
          obtain ⟨rfl, N154q, K154q, Eq154, Fk154⟩ := hQ154
          have N154 := Fr.app N146 N154q
          refine GoH.tr st154 ?_
          have V_b5 := V_b5.keep K154q (ninS ne_b5_b149 nin0)
          have V_b8 := V_b8.keep K154q (ninS ne_b8_b149 nin0)
          have V_b13 := V_b13.keep K154q (ninS ne_b13_b149 nin0)
          have E_b149 := E_b149.keep K154q
          have sfw154 := (sfS Sf_b149 sf0)
          have Sf_b5 := Safe.keep K154q sfw154 HH Sf_b5
          have Sf_b8 := Safe.keep K154q sfw154 HH Sf_b8
          have Sf_b13 := Safe.keep K154q sfw154 HH Sf_b13
          have Sf_b149 := Safe.keep K154q sfw154 HH Sf_b149
          have RR := RR.trans (CHr.keep K154q sfw154 HH)
          have HH := HH.keep K154q sfw154
          have hk := Nat.le_trans hk K154q.1
          have O := O.keep K154q (allS g_b149 all0)
          have KK := KK.trans K154q (allS (Or.inr sz_b149) all0)
          have E_b149 := Eq154
          show GoH _ _ _ _ _ _ _ _ _ _  T154 (mkF m 193 #[.val (.int p1), .val (.int p2), .val (.int p3), .val (.int p4), .val (.int (1 : Int32)), .val (.int (1 : Int32)), .val (.int (1 : Int32)), .val (.int (0 : Int32)), .val (.ref b5), .val (.ref b8), .val (.ref b13), .val (.ref b91), .val (.ref b145), .val (.ref w_ADMIN), .unset, .unset, .unset, .unset, .unset] [(.ref b149)])
          refine GoH.st (fun t k => XS.astore X154.here hx rfl (hb hby at_193) rfl rfl (l' := #[.val (.int p1), .val (.int p2), .val (.int p3), .val (.int p4), .val (.int (1 : Int32)), .val (.int (1 : Int32)), .val (.int (1 : Int32)), .val (.int (0 : Int32)), .val (.ref b5), .val (.ref b8), .val (.ref b13), .val (.ref b91), .val (.ref b145), .val (.ref w_ADMIN), .val (.ref b149), .unset, .unset, .unset, .unset]) rfl k) ?_
          show GoH _ _ _ _ _ _ _ _ _ _  T154 (mkF m 195 #[.val (.int p1), .val (.int p2), .val (.int p3), .val (.int p4), .val (.int (1 : Int32)), .val (.int (1 : Int32)), .val (.int (1 : Int32)), .val (.int (0 : Int32)), .val (.ref b5), .val (.ref b8), .val (.ref b13), .val (.ref b91), .val (.ref b145), .val (.ref w_ADMIN), .val (.ref b149), .unset, .unset, .unset, .unset] [])
          obtain ⟨T155, h155, X155, e155, E155, A155, D155, -, st155⟩ := newO X154 hx hZ hown (hw _ (List.mem_of_getElem? (i := 73) rfl)) (hw _ (List.mem_of_getElem? (i := 74) rfl)) (hw _ (List.mem_of_getElem? (i := 75) rfl)) rfl (g := (mkF m 195 #[.val (.int p1), .val (.int p2), .val (.int p3), .val (.int p4), .val (.int (1 : Int32)), .val (.int (1 : Int32)), .val (.int (1 : Int32)), .val (.int (0 : Int32)), .val (.ref b5), .val (.ref b8), .val (.ref b13), .val (.ref b91), .val (.ref b145), .val (.ref w_ADMIN), .val (.ref b149), .unset, .unset, .unset, .unset] [])) rfl (hb hby at_195) (by decide) (by decide)
          obtain ⟨b155, g155⟩ : ∃ z, z = T154.heap.size := ⟨_, rfl⟩
          rw [← g155] at A155 D155 st155
          refine GoH.st st155 ?_
          have g_b155 : n0 ≤ b155 := by rw [g155]; exact own_le O
          have Sf_b155 : Safe Z EL T153.vm T154.heap b155 := Safe.new (Nat.le_of_eq g155.symm)
          have sz_b155 : h0.size ≤ b155 := by rw [g155]; exact KK.1
          have ne_b5_b155 : b5 ≠ b155 := Nat.ne_of_lt (by rw [g155]; exact V_b5.lt)
          have ne_b8_b155 : b8 ≠ b155 := Nat.ne_of_lt (by rw [g155]; exact V_b8.lt)
          have ne_b13_b155 : b13 ≠ b155 := Nat.ne_of_lt (by rw [g155]; exact V_b13.lt)
          have ne_b149_b155 : b149 ≠ b155 := Nat.ne_of_lt (by rw [g155]; exact E_b149.lt)
          have V_b5 := V_b5.ext E155
          have V_b8 := V_b8.ext E155
          have V_b13 := V_b13.ext E155
          have E_b149 := E_b149.ext E155
          have Fk154 := Fk154.ext E155
          have Sf_b5 := Safe.ext E155 HH Sf_b5
          have Sf_b8 := Safe.ext E155 HH Sf_b8
          have Sf_b13 := Safe.ext E155 HH Sf_b13
          have Sf_b149 := Safe.ext E155 HH Sf_b149
          have Sf_b155 := Safe.ext E155 HH Sf_b155
          have RR := RR.trans (CHr.ext E155 HH)
          have HH := HH.ext E155
          have hk := Nat.le_trans hk E155.1
          have O := O.ext E155
          have KK := KK.ext E155
          have E_b155 := A155
          have F_app_b155 : Fld Z h155 b155 "com/example/wellness_on_record/wellnessonrecord/oauth/Principal" "app" "Lcom/example/wellness_on_record/wellnessonrecord/apps/App;" .null := D155 (Or.inr (hw _ (List.mem_of_getElem? (i := 81) rfl))) (ty := (.object "com/example/wellness_on_record/wellnessonrecord/apps/App")) (by decide)
          have F_recordId_b155 : Fld Z h155 b155 "com/example/wellness_on_record/wellnessonrecord/oauth/Principal" "recordId" "Ljava/lang/String;" .null := D155 (Or.inr (hw _ (List.mem_of_getElem? (i := 83) rfl))) (ty := (.object "java/lang/String")) (by decide)
          have F_requestToken_b155 : Fld Z h155 b155 "com/example/wellness_on_record/wellnessonrecord/oauth/Principal" "requestToken" "Ljava/lang/String;" .null := D155 (Or.inr (hw _ (List.mem_of_getElem? (i := 85) rfl))) (ty := (.object "java/lang/String")) (by decide)
          show GoH _ _ _ _ _ _ _ _ _ _  T155 (mkF m 198 #[.val (.int p1), .val (.int p2), .val (.int p3), .val (.int p4), .val (.int (1 : Int32)), .val (.int (1 : Int32)), .val (.int (1 : Int32)), .val (.int (0 : Int32)), .val (.ref b5), .val (.ref b8), .val (.ref b13), .val (.ref b91), .val (.ref b145), .val (.ref w_ADMIN), .val (.ref b149), .unset, .unset, .unset, .unset] [(.ref b155)])
          refine GoH.st (fun t k => XS.dup X155.here hx rfl (hb hby at_198) rfl rfl k) ?_
          show GoH _ _ _ _ _ _ _ _ _ _  T155 (mkF m 199 #[.val (.int p1), .val (.int p2), .val (.int p3), .val (.int p4), .val (.int (1 : Int32)), .val (.int (1 : Int32)), .val (.int (1 : Int32)), .val (.int (0 : Int32)), .val (.ref b5), .val (.ref b8), .val (.ref b13), .val (.ref b91), .val (.ref b145), .val (.ref w_ADMIN), .val (.ref b149), .unset, .unset, .unset, .unset] [(.ref b155), (.ref b155)])
          refine GoH.st (fun t k => XS.aload X155.here hx rfl (hb hby at_199) rfl rfl  k) ?_
          show GoH _ _ _ _ _ _ _ _ _ _  T155 (mkF m 201 #[.val (.int p1), .val (.int p2), .val (.int p3), .val (.int p4), .val (.int (1 : Int32)), .val (.int (1 : Int32)), .val (.int (1 : Int32)), .val (.int (0 : Int32)), .val (.ref b5), .val (.ref b8), .val (.ref b13), .val (.ref b91), .val (.ref b145), .val (.ref w_ADMIN), .val (.ref b149), .unset, .unset, .unset, .unset] [(.ref b149), (.ref b155), (.ref b155)])
          refine GoH.st (fun t k => XS.aload X155.here hx rfl (hb hby at_201) rfl rfl  k) ?_
          show GoH _ _ _ _ _ _ _ _ _ _  T155 (mkF m 203 #[.val (.int p1), .val (.int p2), .val (.int p3), .val (.int p4), .val (.int (1 : Int32)), .val (.int (1 : Int32)), .val (.int (1 : Int32)), .val (.int (0 : Int32)), .val (.ref b5), .val (.ref b8), .val (.ref b13), .val (.ref b91), .val (.ref b145), .val (.ref w_ADMIN), .val (.ref b149), .unset, .unset, .unset, .unset] [(.ref b91), (.ref b149), (.ref b155), (.ref b155)])
          refine GoH.st (fun t k => XS.aload X155.here hx rfl (hb hby at_203) rfl rfl  k) ?_
          show GoH _ _ _ _ _ _ _ _ _ _  T155 (mkF m 205 #[.val (.int p1), .val (.int p2), .val (.int p3), .val (.int p4), .val (.int (1 : Int32)), .val (.int (1 : Int32)), .val (.int (1 : Int32)), .val (.int (0 : Int32)), .val (.ref b5), .val (.ref b8), .val (.ref b13), .val (.ref b91), .val (.ref b145), .val (.ref w_ADMIN), .val (.ref b149), .unset, .unset, .unset, .unset] [(.ref b145), (.ref b91), (.ref b149), (.ref b155), (.ref b155)])
          obtain ⟨_, _, ⟨T156, L156, k156, n156⟩, -, X156, ⟨Lc156, hQ156, l156, y156, z156⟩, st156⟩ := X155.specialBack hx (y := (⟨"com/example/wellness_on_record/wellnessonrecord/oauth/Principal", "<init>", "(Lcom/example/wellness_on_record/wellnessonrecord/apps/App;Ljava/lang/String;Ljava/lang/String;)V"⟩ : MethodName)) rfl hown (mvT hZ (hw _ (List.mem_of_getElem? (i := 76) rfl))) (mvT hZ (hw _ (List.mem_of_getElem? (i := 77) rfl))) (mvT hZ (hw _ (List.mem_of_getElem? (i := 78) rfl))) (by decide) (backOf (W := 1) (rmP l Z a0 hw [] b155 b149 (.ref b91) (.ref b145) h155 n0 O E_b155 F_app_b155 F_recordId_b155 F_requestToken_b155 g_b155 rfl rfl) hZ (hw _ (List.mem_of_getElem? (i := 78) rfl)) (hw _ (List.mem_of_getElem? (i := 75) rfl)) (by decide) (by decide)) (g := (mkF m 205 #[.val (.int p1), .val (.int p2), .val (.int p3), .val (.int p4), .val (.int (1 : Int32)), .val (.int (1 : Int32)), .val (.int (1 : Int32)), .val (.int (0 : Int32)), .val (.ref b5), .val (.ref b8), .val (.ref b13), .val (.ref b91), .val (.ref b145), .val (.ref w_ADMIN), .val (.ref b149), .unset, .unset, .unset, .unset] [(.ref b145), (.ref b91), (.ref b149), (.ref b155), (.ref b155)])) rfl (by rw [hml]; rfl) (Steps.refl _) (a := b155) (argsL := [(.ref b149), (.ref b91), (.ref b145)]) (rest := [(.ref b155)]) (lenOf pd__Lcom_example_wellness_on_record_wellnessonrecord_apps_App_Ljava_lang_String_Ljava_lang_String__V rfl) rfl (by show 2 * 0 + _ ≤ _; exact Nat.le_of_eq rfl) (hb hby at_205) (fun _ _ => ⟨rfl, e155, (by decide : 20 + 0 ≤ _), (by decide : 110 + 0 ≤ _)⟩)
          dsimp only [Pt.U, Pt.locs, Pt.cells, Pt.slots] at X156 l156 y156 z156 st156 hQ156
          subst l156 y156 z156
          obtain ⟨rfl, N156q, K156q, Eq156, Fa156, Fr156, Ft156⟩ := hQ156
          have N156 := Fr.app N154 N156q
          refine GoH.tr st156 ?_
          have V_b5 := V_b5.keep K156q (ninS ne_b5_b155 nin0)
          have V_b8 := V_b8.keep K156q (ninS ne_b8_b155 nin0)
          have V_b13 := V_b13.keep K156q (ninS ne_b13_b155 nin0)
          have E_b149 := E_b149.keep K156q
          have Fk154 := Fk154.keep K156q (ninS ne_b149_b155 nin0)
          have E_b155 := E_b155.keep K156q
          have sfw156 := (sfS Sf_b155 sf0)
          have Sf_b5 := Safe.keep K156q sfw156 HH Sf_b5
          have Sf_b8 := Safe.keep K156q sfw156 HH Sf_b8
          have Sf_b13 := Safe.keep K156q sfw156 HH Sf_b13
          have Sf_b149 := Safe.keep K156q sfw156 HH Sf_b149
          have Sf_b155 := Safe.keep K156q sfw156 HH Sf_b155
          have RR := RR.trans (CHr.keep K156q sfw156 HH)
          have HH := HH.keep K156q sfw156
          have hk := Nat.le_trans hk K156q.1
          have O := O.keep K156q (allS g_b155 all0)
          have KK := KK.trans K156q (allS (Or.inr sz_b155) all0)
          have E_b155 := Eq156
          show GoH _ _ _ _ _ _ _ _ _ _  T156 (mkF m 208 #[.val (.int p1), .val (.int p2), .val (.int p3), .val (.int p4), .val (.int (1 : Int32)), .val (.int (1 : Int32)), .val (.int (1 : Int32)), .val (.int (0 : Int32)), .val (.ref b5), .val (.ref b8), .val (.ref b13), .val (.ref b91), .val (.ref b145), .val (.ref w_ADMIN), .val (.ref b149), .unset, .unset, .unset, .unset] [(.ref b155)])
          refine GoH.st (fun t k => XS.astore X156.here hx rfl (hb hby at_208) rfl rfl (l' := #[.val (.int p1), .val (.int p2), .val (.int p3), .val (.int p4), .val (.int (1 : Int32)), .val (.int (1 : Int32)), .val (.int (1 : Int32)), .val (.int (0 : Int32)), .val (.ref b5), .val (.ref b8), .val (.ref b13), .val (.ref b91), .val (.ref b145), .val (.ref w_ADMIN), .val (.ref b149), .val (.ref b155), .unset, .unset, .unset]) rfl k) ?_
          show GoH _ _ _ _ _ _ _ _ _ _  T156 (mkF m 210 #[.val (.int p1), .val (.int p2), .val (.int p3), .val (.int p4), .val (.int (1 : Int32)), .val (.int (1 : Int32)), .val (.int (1 : Int32)), .val (.int (0 : Int32)), .val (.ref b5), .val (.ref b8), .val (.ref b13), .val (.ref b91), .val (.ref b145), .val (.ref w_ADMIN), .val (.ref b149), .val (.ref b155), .unset, .unset, .unset] [])
          refine GoH.st (fun t k => XS.aload X156.here hx rfl (hb hby at_210) rfl rfl  k) ?_
          show GoH _ _ _ _ _ _ _ _ _ _  T156 (mkF m 212 #[.val (.int p1), .val (.int p2), .val (.int p3), .val (.int p4), .val (.int (1 : Int32)), .val (.int (1 : Int32)), .val (.int (1 : Int32)), .val (.int (0 : Int32)), .val (.ref b5), .val (.ref b8), .val (.ref b13), .val (.ref b91), .val (.ref b145), .val (.ref w_ADMIN), .val (.ref b149), .val (.ref b155), .unset, .unset, .unset] [(.ref b155)])
          obtain ⟨cq157, kq157, q157a, q157b, q157c⟩ := isOf hZ rfl E_b155
          obtain ⟨_, _, ⟨T157, L157, k157, n157⟩, -, X157, ⟨Lc157, hQ157, l157, y157, z157⟩, st157⟩ := X156.virtualBack hx (y := (⟨"com/example/wellness_on_record/wellnessonrecord/oauth/Principal", "holdsRequestToken", "()Z"⟩ : MethodName)) (z := (⟨"com/example/wellness_on_record/wellnessonrecord/oauth/Principal", "holdsRequestToken", "()Z"⟩ : MethodName)) hown (mvT hZ (hw _ (List.mem_of_getElem? (i := 86) rfl))) (mvT hZ (hw _ (List.mem_of_getElem? (i := 87) rfl))) (notFace_of_selects (args := #[]) (mvT hZ (hw _ (List.mem_of_getElem? (i := 89) rfl)))) (mvT hZ (hw _ (List.mem_of_getElem? (i := 89) rfl))) (mvT hZ (hw _ (List.mem_of_getElem? (i := 88) rfl))) (by decide) (backOf (W := 0) (rmH l Z a0 hw [] b155 (.ref b145) T156.heap n0 O Ft156 rfl) hZ (hw _ (List.mem_of_getElem? (i := 90) rfl)) (hw _ (List.mem_of_getElem? (i := 75) rfl)) (by decide) (by decide)) q157a q157c (g := (mkF m 212 #[.val (.int p1), .val (.int p2), .val (.int p3), .val (.int p4), .val (.int (1 : Int32)), .val (.int (1 : Int32)), .val (.int (1 : Int32)), .val (.int (0 : Int32)), .val (.ref b5), .val (.ref b8), .val (.ref b13), .val (.ref b91), .val (.ref b145), .val (.ref w_ADMIN), .val (.ref b149), .val (.ref b155), .unset, .unset, .unset] [(.ref b155)])) rfl (by rw [hml]; rfl) (Steps.refl _) (argsL := []) (rest := []) (lenOf pd___Z rfl) rfl (by show 2 * 0 + _ ≤ _; exact Nat.le_of_eq rfl) (hb hby at_212) (fun _ _ => ⟨rfl, rfl, (by decide : 20 + 0 ≤ _), (by decide : 110 + 0 ≤ _)⟩)
          dsimp only [Pt.U, Pt.locs, Pt.cells, Pt.slots] at X157 l157 y157 z157 st157 hQ157
          subst l157 y157 z157
          obtain ⟨rfl, N157q, e157q⟩ := hQ157
          have N157 := Fr.app N156 N157q
          refine GoH.tr st157 ?_
          rw [show (if (.ref b145) = Value.null then (0 : Int32) else 1) = (1 : Int32) from by simp]
          show GoH _ _ _ _ _ _ _ _ _ _  T157 (mkF m 215 #[.val (.int p1), .val (.int p2), .val (.int p3), .val (.int p4), .val (.int (1 : Int32)), .val (.int (1 : Int32)), .val (.int (1 : Int32)), .val (.int (0 : Int32)), .val (.ref b5), .val (.ref b8), .val (.ref b13), .val (.ref b91), .val (.ref b145), .val (.ref w_ADMIN), .val (.ref b149), .val (.ref b155), .unset, .unset, .unset] [(.int (1 : Int32))])
          refine GoH.st (fun t k => XS.istore X157.here hx rfl (hb hby at_215) rfl (l' := #[.val (.int p1), .val (.int p2), .val (.int p3), .val (.int p4), .val (.int (1 : Int32)), .val (.int (1 : Int32)), .val (.int (1 : Int32)), .val (.int (0 : Int32)), .val (.ref b5), .val (.ref b8), .val (.ref b13), .val (.ref b91), .val (.ref b145), .val (.ref w_ADMIN), .val (.ref b149), .val (.ref b155), .val (.int (1 : Int32)), .unset, .unset]) rfl k) ?_
          show GoH _ _ _ _ _ _ _ _ _ _  T157 (mkF m 217 #[.val (.int p1), .val (.int p2), .val (.int p3), .val (.int p4), .val (.int (1 : Int32)), .val (.int (1 : Int32)), .val (.int (1 : Int32)), .val (.int (0 : Int32)), .val (.ref b5), .val (.ref b8), .val (.ref b13), .val (.ref b91), .val (.ref b145), .val (.ref w_ADMIN), .val (.ref b149), .val (.ref b155), .val (.int (1 : Int32)), .unset, .unset] [])
          refine GoH.st (fun t k => XS.iload X157.here hx rfl (hb hby at_217) rfl  k) ?_
          show GoH _ _ _ _ _ _ _ _ _ _  T157 (mkF m 219 #[.val (.int p1), .val (.int p2), .val (.int p3), .val (.int p4), .val (.int (1 : Int32)), .val (.int (1 : Int32)), .val (.int (1 : Int32)), .val (.int (0 : Int32)), .val (.ref b5), .val (.ref b8), .val (.ref b13), .val (.ref b91), .val (.ref b145), .val (.ref w_ADMIN), .val (.ref b149), .val (.ref b155), .val (.int (1 : Int32)), .unset, .unset] [(.int (1 : Int32))])
          refine GoH.st (fun t k => XS.iload X157.here hx rfl (hb hby at_219) rfl  k) ?_
          show GoH _ _ _ _ _ _ _ _ _ _  T157 (mkF m 221 #[.val (.int p1), .val (.int p2), .val (.int p3), .val (.int p4), .val (.int (1 : Int32)), .val (.int (1 : Int32)), .val (.int (1 : Int32)), .val (.int (0 : Int32)), .val (.ref b5), .val (.ref b8), .val (.ref b13), .val (.ref b91), .val (.ref b145), .val (.ref w_ADMIN), .val (.ref b149), .val (.ref b155), .val (.int (1 : Int32)), .unset, .unset] [(.int (1 : Int32)), (.int (1 : Int32))])
          refine GoH.st (fun t k => XS.icmpYes X157.here hx rfl (pc0 := 221) (pc' := 226) rfl (hb hby at_221) rfl (teq (rfl : (1 : Int32) = (1 : Int32))).1 (by decide) (by decide) k) ?_
          show GoH _ _ _ _ _ _ _ _ _ _  T157 (mkF m 226 #[.val (.int p1), .val (.int p2), .val (.int p3), .val (.int p4), .val (.int (1 : Int32)), .val (.int (1 : Int32)), .val (.int (1 : Int32)), .val (.int (0 : Int32)), .val (.ref b5), .val (.ref b8), .val (.ref b13), .val (.ref b91), .val (.ref b145), .val (.ref w_ADMIN), .val (.ref b149), .val (.ref b155), .val (.int (1 : Int32)), .unset, .unset] [])
          refine GoH.st (fun t k => XS.aload X157.here hx rfl (hb hby at_226) rfl rfl  k) ?_
          show GoH _ _ _ _ _ _ _ _ _ _  T157 (mkF m 228 #[.val (.int p1), .val (.int p2), .val (.int p3), .val (.int p4), .val (.int (1 : Int32)), .val (.int (1 : Int32)), .val (.int (1 : Int32)), .val (.int (0 : Int32)), .val (.ref b5), .val (.ref b8), .val (.ref b13), .val (.ref b91), .val (.ref b145), .val (.ref w_ADMIN), .val (.ref b149), .val (.ref b155), .val (.int (1 : Int32)), .unset, .unset] [(.ref b155)])
          obtain ⟨cq158, kq158, q158a, q158b, q158c⟩ := isOf hZ e157q E_b155
          obtain ⟨_, _, ⟨T158, L158, k158, n158⟩, -, X158, ⟨Lc158, hQ158, l158, y158, z158⟩, st158⟩ := X157.virtualBack hx (y := (⟨"com/example/wellness_on_record/wellnessonrecord/oauth/Principal", "isUserAppAlone", "()Z"⟩ : MethodName)) (z := (⟨"com/example/wellness_on_record/wellnessonrecord/oauth/Principal", "isUserAppAlone", "()Z"⟩ : MethodName)) hown (mvT hZ (hw _ (List.mem_of_getElem? (i := 91) rfl))) (mvT hZ (hw _ (List.mem_of_getElem? (i := 92) rfl))) (notFace_of_selects (args := #[]) (mvT hZ (hw _ (List.mem_of_getElem? (i := 94) rfl)))) (mvT hZ (hw _ (List.mem_of_getElem? (i := 94) rfl))) (mvT hZ (hw _ (List.mem_of_getElem? (i := 93) rfl))) (by decide) (backOf (W := 0) (rmU l Z a0 hw [] b155 b149 w_ADMIN (.ref b91) (.ref b145) w_USER T156.heap n0 O Fa156 Fr156 Ft156 rfl rfl Fk154 E_b155 E_b149 S_USER) hZ (hw _ (List.mem_of_getElem? (i := 95) rfl)) (hw _ (List.mem_of_getElem? (i := 75) rfl)) (by decide) (by decide)) q158a q158c (g := (mkF m 228 #[.val (.int p1), .val (.int p2), .val (.int p3), .val (.int p4), .val (.int (1 : Int32)), .val (.int (1 : Int32)), .val (.int (1 : Int32)), .val (.int (0 : Int32)), .val (.ref b5), .val (.ref b8), .val (.ref b13), .val (.ref b91), .val (.ref b145), .val (.ref w_ADMIN), .val (.ref b149), .val (.ref b155), .val (.int (1 : Int32)), .unset, .unset] [(.ref b155)])) rfl (by rw [hml]; rfl) (Steps.refl _) (argsL := []) (rest := []) (lenOf pd___Z rfl) rfl (by show 2 * 0 + _ ≤ _; exact Nat.le_of_eq rfl) (hb hby at_228) (fun _ _ => ⟨rfl, e157q, (by decide : 20 + 0 ≤ _), (by decide : 110 + 0 ≤ _)⟩)
          dsimp only [Pt.U, Pt.locs, Pt.cells, Pt.slots] at X158 l158 y158 z158 st158 hQ158
          subst l158 y158 z158
          obtain ⟨rfl, N158q, e158q⟩ := hQ158
          have N158 := Fr.app N157 N158q
          refine GoH.tr st158 ?_
          rw [show (if w_ADMIN = w_USER then (if (.ref b91) = Value.null then (if (.ref b145) = Value.null then (1 : Int32) else 0) else 0) else 0) = (0 : Int32) from by simp [nAU]]
          show GoH _ _ _ _ _ _ _ _ _ _  T158 (mkF m 231 #[.val (.int p1), .val (.int p2), .val (.int p3), .val (.int p4), .val (.int (1 : Int32)), .val (.int (1 : Int32)), .val (.int (1 : Int32)), .val (.int (0 : Int32)), .val (.ref b5), .val (.ref b8), .val (.ref b13), .val (.ref b91), .val (.ref b145), .val (.ref w_ADMIN), .val (.ref b149), .val (.ref b155), .val (.int (1 : Int32)), .unset, .unset] [(.int (0 : Int32))])
          refine GoH.st (fun t k => XS.istore X158.here hx rfl (hb hby at_231) rfl (l' := #[.val (.int p1), .val (.int p2), .val (.int p3), .val (.int p4), .val (.int (1 : Int32)), .val (.int (1 : Int32)), .val (.int (1 : Int32)), .val (.int (0 : Int32)), .val (.ref b5), .val (.ref b8), .val (.ref b13), .val (.ref b91), .val (.ref b145), .val (.ref w_ADMIN), .val (.ref b149), .val (.ref b155), .val (.int (1 : Int32)), .val (.int (0 : Int32)), .unset]) rfl k) ?_
          show GoH _ _ _ _ _ _ _ _ _ _  T158 (mkF m 233 #[.val (.int p1), .val (.int p2), .val (.int p3), .val (.int p4), .val (.int (1 : Int32)), .val (.int (1 : Int32)), .val (.int (1 : Int32)), .val (.int (0 : Int32)), .val (.ref b5), .val (.ref b8), .val (.ref b13), .val (.ref b91), .val (.ref b145), .val (.ref w_ADMIN), .val (.ref b149), .val (.ref b155), .val (.int (1 : Int32)), .val (.int (0 : Int32)), .unset] [])
          refine GoH.st (fun t k => XS.iload X158.here hx rfl (hb hby at_233) rfl  k) ?_
          show GoH _ _ _ _ _ _ _ _ _ _  T158 (mkF m 235 #[.val (.int p1), .val (.int p2), .val (.int p3), .val (.int p4), .val (.int (1 : Int32)), .val (.int (1 : Int32)), .val (.int (1 : Int32)), .val (.int (0 : Int32)), .val (.ref b5), .val (.ref b8), .val (.ref b13), .val (.ref b91), .val (.ref b145), .val (.ref w_ADMIN), .val (.ref b149), .val (.ref b155), .val (.int (1 : Int32)), .val (.int (0 : Int32)), .unset] [(.int (1 : Int32))])
          refine GoH.st (fun t k => XS.ifYes X158.here hx rfl (pc0 := 235) (pc' := 252) rfl (hb hby at_235) rfl ((if0 _ _).trans (feq (by decide : ¬ ((1 : Int32) = (0 : Int32)))).2) (by decide) (by decide) k) ?_
          show GoH _ _ _ _ _ _ _ _ _ _  T158 (mkF m 252 #[.val (.int p1), .val (.int p2), .val (.int p3), .val (.int p4), .val (.int (1 : Int32)), .val (.int (1 : Int32)), .val (.int (1 : Int32)), .val (.int (0 : Int32)), .val (.ref b5), .val (.ref b8), .val (.ref b13), .val (.ref b91), .val (.ref b145), .val (.ref w_ADMIN), .val (.ref b149), .val (.ref b155), .val (.int (1 : Int32)), .val (.int (0 : Int32)), .unset] [])
          refine GoH.st (fun t k => XS.iconst X158.here hx rfl (hb hby at_252) k) ?_
          show GoH _ _ _ _ _ _ _ _ _ _  T158 (mkF m 253 #[.val (.int p1), .val (.int p2), .val (.int p3), .val (.int p4), .val (.int (1 : Int32)), .val (.int (1 : Int32)), .val (.int (1 : Int32)), .val (.int (0 : Int32)), .val (.ref b5), .val (.ref b8), .val (.ref b13), .val (.ref b91), .val (.ref b145), .val (.ref w_ADMIN), .val (.ref b149), .val (.ref b155), .val (.int (1 : Int32)), .val (.int (0 : Int32)), .unset] [(.int (0 : Int32))])
          refine GoH.st (fun t k => XS.istore X158.here hx rfl (hb hby at_253) rfl (l' := #[.val (.int p1), .val (.int p2), .val (.int p3), .val (.int p4), .val (.int (1 : Int32)), .val (.int (1 : Int32)), .val (.int (1 : Int32)), .val (.int (0 : Int32)), .val (.ref b5), .val (.ref b8), .val (.ref b13), .val (.ref b91), .val (.ref b145), .val (.ref w_ADMIN), .val (.ref b149), .val (.ref b155), .val (.int (1 : Int32)), .val (.int (0 : Int32)), .val (.int (0 : Int32))]) rfl k) ?_
          show GoH _ _ _ _ _ _ _ _ _ _  T158 (mkF m 255 #[.val (.int p1), .val (.int p2), .val (.int p3), .val (.int p4), .val (.int (1 : Int32)), .val (.int (1 : Int32)), .val (.int (1 : Int32)), .val (.int (0 : Int32)), .val (.ref b5), .val (.ref b8), .val (.ref b13), .val (.ref b91), .val (.ref b145), .val (.ref w_ADMIN), .val (.ref b149), .val (.ref b155), .val (.int (1 : Int32)), .val (.int (0 : Int32)), .val (.int (0 : Int32))] [])
          refine GoH.st (fun t k => XS.iload X158.here hx rfl (hb hby at_255) rfl  k) ?_
          show GoH _ _ _ _ _ _ _ _ _ _  T158 (mkF m 257 #[.val (.int p1), .val (.int p2), .val (.int p3), .val (.int p4), .val (.int (1 : Int32)), .val (.int (1 : Int32)), .val (.int (1 : Int32)), .val (.int (0 : Int32)), .val (.ref b5), .val (.ref b8), .val (.ref b13), .val (.ref b91), .val (.ref b145), .val (.ref w_ADMIN), .val (.ref b149), .val (.ref b155), .val (.int (1 : Int32)), .val (.int (0 : Int32)), .val (.int (0 : Int32))] [(.int (0 : Int32))])
          refine GoH.st (fun t k => XS.iload X158.here hx rfl (hb hby at_257) rfl  k) ?_
          show GoH _ _ _ _ _ _ _ _ _ _  T158 (mkF m 259 #[.val (.int p1), .val (.int p2), .val (.int p3), .val (.int p4), .val (.int (1 : Int32)), .val (.int (1 : Int32)), .val (.int (1 : Int32)), .val (.int (0 : Int32)), .val (.ref b5), .val (.ref b8), .val (.ref b13), .val (.ref b91), .val (.ref b145), .val (.ref w_ADMIN), .val (.ref b149), .val (.ref b155), .val (.int (1 : Int32)), .val (.int (0 : Int32)), .val (.int (0 : Int32))] [(.int (0 : Int32)), (.int (0 : Int32))])
          refine GoH.st (fun t k => XS.icmpNo X158.here hx rfl (hb hby at_259) rfl (teq (rfl : (0 : Int32) = (0 : Int32))).2 k) ?_
          show GoH _ _ _ _ _ _ _ _ _ _  T158 (mkF m 262 #[.val (.int p1), .val (.int p2), .val (.int p3), .val (.int p4), .val (.int (1 : Int32)), .val (.int (1 : Int32)), .val (.int (1 : Int32)), .val (.int (0 : Int32)), .val (.ref b5), .val (.ref b8), .val (.ref b13), .val (.ref b91), .val (.ref b145), .val (.ref w_ADMIN), .val (.ref b149), .val (.ref b155), .val (.int (1 : Int32)), .val (.int (0 : Int32)), .val (.int (0 : Int32))] [])
          refine GoH.st (fun t k => XS.iconst X158.here hx rfl (hb hby at_262) k) ?_
          show GoH _ _ _ _ _ _ _ _ _ _  T158 (mkF m 263 #[.val (.int p1), .val (.int p2), .val (.int p3), .val (.int p4), .val (.int (1 : Int32)), .val (.int (1 : Int32)), .val (.int (1 : Int32)), .val (.int (0 : Int32)), .val (.ref b5), .val (.ref b8), .val (.ref b13), .val (.ref b91), .val (.ref b145), .val (.ref w_ADMIN), .val (.ref b149), .val (.ref b155), .val (.int (1 : Int32)), .val (.int (0 : Int32)), .val (.int (0 : Int32))] [(.int (1 : Int32))])
          refine GoH.st (fun t k => XS.goto X158.here hx rfl (pc0 := 263) (pc' := 267) rfl (hb hby at_263) (by decide) (by decide) k) ?_
          show GoH _ _ _ _ _ _ _ _ _ _  T158 (mkF m 267 #[.val (.int p1), .val (.int p2), .val (.int p3), .val (.int p4), .val (.int (1 : Int32)), .val (.int (1 : Int32)), .val (.int (1 : Int32)), .val (.int (0 : Int32)), .val (.ref b5), .val (.ref b8), .val (.ref b13), .val (.ref b91), .val (.ref b145), .val (.ref w_ADMIN), .val (.ref b149), .val (.ref b155), .val (.int (1 : Int32)), .val (.int (0 : Int32)), .val (.int (0 : Int32))] [(.int (1 : Int32))])
          refine GoH.retN X158 hS hk e158q hZ hEL HH RR hlk hx (t := .boolean) (z' := (1 : Int32)) Bd.returns (by simp) (hb hby at_267) (by decide) (by decide) rfl ?_
          show Q_rm0 Z _ _ _ _ _ _ _ h0 n0 _ T158.heap _
          rw [e158q]
          exact ⟨rfl, N158⟩
        · rw [sp147]
          show GoH _ _ _ _ _ _ _ _ _ _  T146 (mkF m 154 #[.val (.int p1), .val (.int p2), .val (.int p3), .val (.int p4), .val (.int (1 : Int32)), .val (.int (1 : Int32)), .val (.int (1 : Int32)), .val (.int (1 : Int32)), .val (.ref b5), .val (.ref b8), .val (.ref b13), .val (.ref b91), .val (.ref b145), .unset, .unset, .unset, .unset, .unset, .unset] [])
          refine GoH.st (fun t k => XS.iload X146.here hx rfl (hb hby at_154) rfl  k) ?_
          show GoH _ _ _ _ _ _ _ _ _ _  T146 (mkF m 156 #[.val (.int p1), .val (.int p2), .val (.int p3), .val (.int p4), .val (.int (1 : Int32)), .val (.int (1 : Int32)), .val (.int (1 : Int32)), .val (.int (1 : Int32)), .val (.ref b5), .val (.ref b8), .val (.ref b13), .val (.ref b91), .val (.ref b145), .unset, .unset, .unset, .unset, .unset, .unset] [(.int (1 : Int32))])
          refine GoH.st (fun t k => XS.ifNo X146.here hx rfl (hb hby at_156) rfl ((if0 _ _).trans (feq (by decide : ¬ ((1 : Int32) = (0 : Int32)))).1) k) ?_
          show GoH _ _ _ _ _ _ _ _ _ _  T146 (mkF m 159 #[.val (.int p1), .val (.int p2), .val (.int p3), .val (.int p4), .val (.int (1 : Int32)), .val (.int (1 : Int32)), .val (.int (1 : Int32)), .val (.int (1 : Int32)), .val (.ref b5), .val (.ref b8), .val (.ref b13), .val (.ref b91), .val (.ref b145), .unset, .unset, .unset, .unset, .unset, .unset] [])
          obtain ⟨T159, X159, e159, st159⟩ := getS2 X146 hx hZ hown (host := "") (Or.inl (hw _ (List.mem_of_getElem? (i := 100) rfl))) Via.refl rfl (S_USER.ext O.2) (g := (mkF m 159 #[.val (.int p1), .val (.int p2), .val (.int p3), .val (.int p4), .val (.int (1 : Int32)), .val (.int (1 : Int32)), .val (.int (1 : Int32)), .val (.int (1 : Int32)), .val (.ref b5), .val (.ref b8), .val (.ref b13), .val (.ref b91), .val (.ref b145), .unset, .unset, .unset, .unset, .unset, .unset] [])) rfl (hb hby at_159)
          refine GoH.st st159 ?_
          show GoH _ _ _ _ _ _ _ _ _ _  T159 (mkF m 162 #[.val (.int p1), .val (.int p2), .val (.int p3), .val (.int p4), .val (.int (1 : Int32)), .val (.int (1 : Int32)), .val (.int (1 : Int32)), .val (.int (1 : Int32)), .val (.ref b5), .val (.ref b8), .val (.ref b13), .val (.ref b91), .val (.ref b145), .unset, .unset, .unset, .unset, .unset, .unset] [(.ref w_USER)])
          refine GoH.st (fun t k => XS.goto X159.here hx rfl (pc0 := 162) (pc' := 168) rfl (hb hby at_162) (by decide) (by decide) k) ?_
          show GoH _ _ _ _ _ _ _ _ _ _  T159 (mkF m 168 #[.val (.int p1), .val (.int p2), .val (.int p3), .val (.int p4), .val (.int (1 : Int32)), .val (.int (1 : Int32)), .val (.int (1 : Int32)), .val (.int (1 : Int32)), .val (.ref b5), .val (.ref b8), .val (.ref b13), .val (.ref b91), .val (.ref b145), .unset, .unset, .unset, .unset, .unset, .unset] [(.ref w_USER)])
          refine GoH.st (fun t k => XS.astore X159.here hx rfl (hb hby at_168) rfl rfl (l' := #[.val (.int p1), .val (.int p2), .val (.int p3), .val (.int p4), .val (.int (1 : Int32)), .val (.int (1 : Int32)), .val (.int (1 : Int32)), .val (.int (1 : Int32)), .val (.ref b5), .val (.ref b8), .val (.ref b13), .val (.ref b91), .val (.ref b145), .val (.ref w_USER), .unset, .unset, .unset, .unset, .unset]) rfl k) ?_
          show GoH _ _ _ _ _ _ _ _ _ _  T159 (mkF m 170 #[.val (.int p1), .val (.int p2), .val (.int p3), .val (.int p4), .val (.int (1 : Int32)), .val (.int (1 : Int32)), .val (.int (1 : Int32)), .val (.int (1 : Int32)), .val (.ref b5), .val (.ref b8), .val (.ref b13), .val (.ref b91), .val (.ref b145), .val (.ref w_USER), .unset, .unset, .unset, .unset, .unset] [])
          obtain ⟨T160, h160, X160, e160, E160, A160, D160, -, st160⟩ := newO X159 hx hZ hown (hw _ (List.mem_of_getElem? (i := 33) rfl)) (hw _ (List.mem_of_getElem? (i := 34) rfl)) (hw _ (List.mem_of_getElem? (i := 35) rfl)) e159 (g := (mkF m 170 #[.val (.int p1), .val (.int p2), .val (.int p3), .val (.int p4), .val (.int (1 : Int32)), .val (.int (1 : Int32)), .val (.int (1 : Int32)), .val (.int (1 : Int32)), .val (.ref b5), .val (.ref b8), .val (.ref b13), .val (.ref b91), .val (.ref b145), .val (.ref w_USER), .unset, .unset, .unset, .unset, .unset] [])) rfl (hb hby at_170) (by decide) (by decide)
          obtain ⟨b160, g160⟩ : ∃ z, z = T146.heap.size := ⟨_, rfl⟩
          rw [← g160] at A160 D160 st160
          refine GoH.st st160 ?_
          have g_b160 : n0 ≤ b160 := by rw [g160]; exact own_le O
          have Sf_b160 : Safe Z EL T146.vm T146.heap b160 := Safe.new (Nat.le_of_eq g160.symm)
          have sz_b160 : h0.size ≤ b160 := by rw [g160]; exact KK.1
          have ne_b5_b160 : b5 ≠ b160 := Nat.ne_of_lt (by rw [g160]; exact V_b5.lt)
          have ne_b8_b160 : b8 ≠ b160 := Nat.ne_of_lt (by rw [g160]; exact V_b8.lt)
          have ne_b13_b160 : b13 ≠ b160 := Nat.ne_of_lt (by rw [g160]; exact V_b13.lt)
          have V_b5 := V_b5.ext E160
          have V_b8 := V_b8.ext E160
          have V_b13 := V_b13.ext E160
          have Sf_b5 := Safe.ext E160 HH Sf_b5
          have Sf_b8 := Safe.ext E160 HH Sf_b8
          have Sf_b13 := Safe.ext E160 HH Sf_b13
          have Sf_b160 := Safe.ext E160 HH Sf_b160
          have RR := RR.trans (CHr.ext E160 HH)
          have HH := HH.ext E160
          have hk := Nat.le_trans hk E160.1
          have O := O.ext E160
          have KK := KK.ext E160
          have E_b160 := A160
          have F_id_b160 : Fld Z h160 b160 "com/example/wellness_on_record/wellnessonrecord/apps/App" "id" "Ljava/lang/String;" .null := D160 (Or.inr (hw _ (List.mem_of_getElem? (i := 52) rfl))) (ty := (.object "java/lang/String")) (by decide)
          have F_name_b160 : Fld Z h160 b160 "com/example/wellness_on_record/wellnessonrecord/apps/App" "name" "Ljava/lang/String;" .null := D160 (Or.inr (hw _ (List.mem_of_getElem? (i := 54) rfl))) (ty := (.object "java/lang/String")) (by decide)
          have F_kind_b160 : Fld Z h160 b160 "com/example/wellness_on_record/wellnessonrecord/apps/App" "kind" "Lcom/example/wellness_on_record/wellnessonrecord/apps/App$Kind;" .null := D160 (Or.inr (hw _ (List.mem_of_getElem? (i := 56) rfl))) (ty := (.object "com/example/wellness_on_record/wellnessonrecord/apps/App$Kind")) (by decide)
          have F_consumerKey_b160 : Fld Z h160 b160 "com/example/wellness_on_record/wellnessonrecord/apps/App" "consumerKey" "Ljava/lang/String;" .null := D160 (Or.inr (hw _ (List.mem_of_getElem? (i := 58) rfl))) (ty := (.object "java/lang/String")) (by decide)
          have F_consumerSecret_b160 : Fld Z h160 b160 "com/example/wellness_on_record/wellnessonrecord/apps/App" "consumerSecret" "Ljava/lang/String;" .null := D160 (Or.inr (hw _ (List.mem_of_getElem? (i := 60) rfl))) (ty := (.object "java/lang/String")) (by decide)
          have F_autonomous_b160 : Fld Z h160 b160 "com/example/wellness_on_record/wellnessonrecord/apps/App" "autonomous" "Z" (.int (0 : Int32)) := D160 (Or.inr (hw _ (List.mem_of_getElem? (i := 62) rfl))) (ty := .boolean) (by decide)
          have F_autonomousReason_b160 : Fld Z h160 b160 "com/example/wellness_on_record/wellnessonrecord/apps/App" "autonomousReason" "Ljava/lang/String;" .null := D160 (Or.inr (hw _ (List.mem_of_getElem? (i := 64) rfl))) (ty := (.object "java/lang/String")) (by decide)
          have F_hasUi_b160 : Fld Z h160 b160 "com/example/wellness_on_record/wellnessonrecord/apps/App" "hasUi" "Z" (.int (0 : Int32)) := D160 (Or.inr (hw _ (List.mem_of_getElem? (i := 66) rfl))) (ty := .boolean) (by decide)
          have F_callbackUrl_b160 : Fld Z h160 b160 "com/example/wellness_on_record/wellnessonrecord/apps/App" "callbackUrl" "Ljava/lang/String;" .null := D160 (Or.inr (hw _ (List.mem_of_getElem? (i := 68) rfl))) (ty := (.object "java/lang/String")) (by decide)
          have F_startUrlTemplate_b160 : Fld Z h160 b160 "com/example/wellness_on_record/wellnessonrecord/apps/App" "startUrlTemplate" "Ljava/lang/String;" .null := D160 (Or.inr (hw _ (List.mem_of_getElem? (i := 70) rfl))) (ty := (.object "java/lang/String")) (by decide)
          have F_frameable_b160 : Fld Z h160 b160 "com/example/wellness_on_record/wellnessonrecord/apps/App" "frameable" "Z" (.int (0 : Int32)) := D160 (Or.inr (hw _ (List.mem_of_getElem? (i := 72) rfl))) (ty := .boolean) (by decide)
          show GoH _ _ _ _ _ _ _ _ _ _  T160 (mkF m 173 #[.val (.int p1), .val (.int p2), .val (.int p3), .val (.int p4), .val (.int (1 : Int32)), .val (.int (1 : Int32)), .val (.int (1 : Int32)), .val (.int (1 : Int32)), .val (.ref b5), .val (.ref b8), .val (.ref b13), .val (.ref b91), .val (.ref b145), .val (.ref w_USER), .unset, .unset, .unset, .unset, .unset] [(.ref b160)])
          refine GoH.st (fun t k => XS.dup X160.here hx rfl (hb hby at_173) rfl rfl k) ?_
          show GoH _ _ _ _ _ _ _ _ _ _  T160 (mkF m 174 #[.val (.int p1), .val (.int p2), .val (.int p3), .val (.int p4), .val (.int (1 : Int32)), .val (.int (1 : Int32)), .val (.int (1 : Int32)), .val (.int (1 : Int32)), .val (.ref b5), .val (.ref b8), .val (.ref b13), .val (.ref b91), .val (.ref b145), .val (.ref w_USER), .unset, .unset, .unset, .unset, .unset] [(.ref b160), (.ref b160)])
          obtain ⟨sa161, T161, h161, kk161, sb161, kb161, X161, e161, E161, hS161, hk161, hZ161, ho161, E_sa161, F_coder_sa161, F_value_sa161, V_sb161, la161, lb161, CR161, Lt161, ns161, st161⟩ := ldcCH X160 hx hZ hown (hw _ (List.mem_of_getElem? (i := 36) rfl)) wS e160 hS hk hEL (List.mem_of_getElem? (i := 0) rfl) HH (vs := [(.int (105 : Int32)), (.int (100 : Int32))]) (z := 2) ⟨by decide, by decide⟩ (by decide) rfl (g := (mkF m 174 #[.val (.int p1), .val (.int p2), .val (.int p3), .val (.int p4), .val (.int (1 : Int32)), .val (.int (1 : Int32)), .val (.int (1 : Int32)), .val (.int (1 : Int32)), .val (.ref b5), .val (.ref b8), .val (.ref b13), .val (.ref b91), .val (.ref b145), .val (.ref w_USER), .unset, .unset, .unset, .unset, .unset] [(.ref b160), (.ref b160)])) rfl (hb hby at_174) (n := 8) (by decide) (by decide) (by decide) (by decide)
          refine GoH.st st161 ?_
          have Sf_b5 := CHr.safe CR161 V_b5.lt Sf_b5
          have Sf_b8 := CHr.safe CR161 V_b8.lt Sf_b8
          have Sf_b13 := CHr.safe CR161 V_b13.lt Sf_b13
          have Sf_b160 := CHr.safe CR161 E_b160.lt Sf_b160
          have V_b5 := V_b5.ext E161
          have V_b8 := V_b8.ext E161
          have V_b13 := V_b13.ext E161
          have E_b160 := E_b160.ext E161
          have F_id_b160 := F_id_b160.ext E161
          have F_name_b160 := F_name_b160.ext E161
          have F_kind_b160 := F_kind_b160.ext E161
          have F_consumerKey_b160 := F_consumerKey_b160.ext E161
          have F_consumerSecret_b160 := F_consumerSecret_b160.ext E161
          have F_autonomous_b160 := F_autonomous_b160.ext E161
          have F_autonomousReason_b160 := F_autonomousReason_b160.ext E161
          have F_hasUi_b160 := F_hasUi_b160.ext E161
          have F_callbackUrl_b160 := F_callbackUrl_b160.ext E161
          have F_startUrlTemplate_b160 := F_startUrlTemplate_b160.ext E161
          have F_frameable_b160 := F_frameable_b160.ext E161
          have O := O.ext E161
          have KK := KK.ext E161
          have RR := RR.trans CR161
          have HH := CR161.1
          have hS := hS161
          have hk := hk161
          have hZ := hZ161
          have hown := ho161
          show GoH _ _ _ _ _ _ _ _ _ _  T161 (mkF m 176 #[.val (.int p1), .val (.int p2), .val (.int p3), .val (.int p4), .val (.int (1 : Int32)), .val (.int (1 : Int32)), .val (.int (1 : Int32)), .val (.int (1 : Int32)), .val (.ref b5), .val (.ref b8), .val (.ref b13), .val (.ref b91), .val (.ref b145), .val (.ref w_USER), .unset, .unset, .unset, .unset, .unset] [(.ref sa161), (.ref b160), (.ref b160)])
          obtain ⟨sa162, T162, h162, kk162, sb162, kb162, X162, e162, E162, hS162, hk162, hZ162, ho162, E_sa162, F_coder_sa162, F_value_sa162, V_sb162, la162, lb162, CR162, Lt162, ns162, st162⟩ := ldcCH X161 hx hZ hown (hw _ (List.mem_of_getElem? (i := 39) rfl)) wS e161 hS hk hEL (List.mem_of_getElem? (i := 1) rfl) HH (vs := [(.int (110 : Int32)), (.int (97 : Int32)), (.int (109 : Int32)), (.int (101 : Int32))]) (z := 4) ⟨by decide, by decide⟩ (by decide) rfl (g := (mkF m 176 #[.val (.int p1), .val (.int p2), .val (.int p3), .val (.int p4), .val (.int (1 : Int32)), .val (.int (1 : Int32)), .val (.int (1 : Int32)), .val (.int (1 : Int32)), .val (.ref b5), .val (.ref b8), .val (.ref b13), .val (.ref b91), .val (.ref b145), .val (.ref w_USER), .unset, .unset, .unset, .unset, .unset] [(.ref sa161), (.ref b160), (.ref b160)])) rfl (hb hby at_176) (n := 16) (by decide) (by decide) (by decide) (by decide)
          refine GoH.st st162 ?_
          have Sf_b5 := CHr.safe CR162 V_b5.lt Sf_b5
          have Sf_b8 := CHr.safe CR162 V_b8.lt Sf_b8
          have Sf_b13 := CHr.safe CR162 V_b13.lt Sf_b13
          have Sf_b160 := CHr.safe CR162 E_b160.lt Sf_b160
          have V_b5 := V_b5.ext E162
          have V_b8 := V_b8.ext E162
          have V_b13 := V_b13.ext E162
          have E_b160 := E_b160.ext E162
          have F_id_b160 := F_id_b160.ext E162
          have F_name_b160 := F_name_b160.ext E162
          have F_kind_b160 := F_kind_b160.ext E162
          have F_consumerKey_b160 := F_consumerKey_b160.ext E162
          have F_consumerSecret_b160 := F_consumerSecret_b160.ext E162
          have F_autonomous_b160 := F_autonomous_b160.ext E162
          have F_autonomousReason_b160 := F_autonomousReason_b160.ext E162
          have F_hasUi_b160 := F_hasUi_b160.ext E162
          have F_callbackUrl_b160 := F_callbackUrl_b160.ext E162
          have F_startUrlTemplate_b160 := F_startUrlTemplate_b160.ext E162
          have F_frameable_b160 := F_frameable_b160.ext E162
          have O := O.ext E162
          have KK := KK.ext E162
          have RR := RR.trans CR162
          have HH := CR162.1
          have hS := hS162
          have hk := hk162
          have hZ := hZ162
          have hown := ho162
          show GoH _ _ _ _ _ _ _ _ _ _  T162 (mkF m 178 #[.val (.int p1), .val (.int p2), .val (.int p3), .val (.int p4), .val (.int (1 : Int32)), .val (.int (1 : Int32)), .val (.int (1 : Int32)), .val (.int (1 : Int32)), .val (.ref b5), .val (.ref b8), .val (.ref b13), .val (.ref b91), .val (.ref b145), .val (.ref w_USER), .unset, .unset, .unset, .unset, .unset] [(.ref sa162), (.ref sa161), (.ref b160), (.ref b160)])
          refine GoH.st (fun t k => XS.aload X162.here hx rfl (hb hby at_178) rfl rfl  k) ?_
          show GoH _ _ _ _ _ _ _ _ _ _  T162 (mkF m 180 #[.val (.int p1), .val (.int p2), .val (.int p3), .val (.int p4), .val (.int (1 : Int32)), .val (.int (1 : Int32)), .val (.int (1 : Int32)), .val (.int (1 : Int32)), .val (.ref b5), .val (.ref b8), .val (.ref b13), .val (.ref b91), .val (.ref b145), .val (.ref w_USER), .unset, .unset, .unset, .unset, .unset] [(.ref w_USER), (.ref sa162), (.ref sa161), (.ref b160), (.ref b160)])
          obtain ⟨sa163, T163, h163, kk163, sb163, kb163, X163, e163, E163, hS163, hk163, hZ163, ho163, E_sa163, F_coder_sa163, F_value_sa163, V_sb163, la163, lb163, CR163, Lt163, ns163, st163⟩ := ldcCH X162 hx hZ hown (hw _ (List.mem_of_getElem? (i := 40) rfl)) wS e162 hS hk hEL (List.mem_of_getElem? (i := 2) rfl) HH (vs := [(.int (107 : Int32)), (.int (101 : Int32)), (.int (121 : Int32))]) (z := 3) ⟨by decide, by decide⟩ (by decide) rfl (g := (mkF m 180 #[.val (.int p1), .val (.int p2), .val (.int p3), .val (.int p4), .val (.int (1 : Int32)), .val (.int (1 : Int32)), .val (.int (1 : Int32)), .val (.int (1 : Int32)), .val (.ref b5), .val (.ref b8), .val (.ref b13), .val (.ref b91), .val (.ref b145), .val (.ref w_USER), .unset, .unset, .unset, .unset, .unset] [(.ref w_USER), (.ref sa162), (.ref sa161), (.ref b160), (.ref b160)])) rfl (hb hby at_180) (n := 12) (by decide) (by decide) (by decide) (by decide)
          refine GoH.st st163 ?_
          have Sf_b5 := CHr.safe CR163 V_b5.lt Sf_b5
          have Sf_b8 := CHr.safe CR163 V_b8.lt Sf_b8
          have Sf_b13 := CHr.safe CR163 V_b13.lt Sf_b13
          have Sf_b160 := CHr.safe CR163 E_b160.lt Sf_b160
          have V_b5 := V_b5.ext E163
          have V_b8 := V_b8.ext E163
          have V_b13 := V_b13.ext E163
          have E_b160 := E_b160.ext E163
          have F_id_b160 := F_id_b160.ext E163
          have F_name_b160 := F_name_b160.ext E163
          have F_kind_b160 := F_kind_b160.ext E163
          have F_consumerKey_b160 := F_consumerKey_b160.ext E163
          have F_consumerSecret_b160 := F_consumerSecret_b160.ext E163
          have F_autonomous_b160 := F_autonomous_b160.ext E163
          have F_autonomousReason_b160 := F_autonomousReason_b160.ext E163
          have F_hasUi_b160 := F_hasUi_b160.ext E163
          have F_callbackUrl_b160 := F_callbackUrl_b160.ext E163
          have F_startUrlTemplate_b160 := F_startUrlTemplate_b160.ext E163
          have F_frameable_b160 := F_frameable_b160.ext E163
          have O := O.ext E163
          have KK := KK.ext E163
          have RR := RR.trans CR163
          have HH := CR163.1
          have hS := hS163
          have hk := hk163
          have hZ := hZ163
          have hown := ho163
          show GoH _ _ _ _ _ _ _ _ _ _  T163 (mkF m 182 #[.val (.int p1), .val (.int p2), .val (.int p3), .val (.int p4), .val (.int (1 : Int32)), .val (.int (1 : Int32)), .val (.int (1 : Int32)), .val (.int (1 : Int32)), .val (.ref b5), .val (.ref b8), .val (.ref b13), .val (.ref b91), .val (.ref b145), .val (.ref w_USER), .unset, .unset, .unset, .unset, .unset] [(.ref sa163), (.ref w_USER), (.ref sa162), (.ref sa161), (.ref b160), (.ref b160)])
          obtain ⟨sa164, T164, h164, kk164, sb164, kb164, X164, e164, E164, hS164, hk164, hZ164, ho164, E_sa164, F_coder_sa164, F_value_sa164, V_sb164, la164, lb164, CR164, Lt164, ns164, st164⟩ := ldcCH X163 hx hZ hown (hw _ (List.mem_of_getElem? (i := 41) rfl)) wS e163 hS hk hEL (List.mem_of_getElem? (i := 3) rfl) HH (vs := [(.int (115 : Int32)), (.int (101 : Int32)), (.int (99 : Int32)), (.int (114 : Int32)), (.int (101 : Int32)), (.int (116 : Int32))]) (z := 6) ⟨by decide, by decide⟩ (by decide) rfl (g := (mkF m 182 #[.val (.int p1), .val (.int p2), .val (.int p3), .val (.int p4), .val (.int (1 : Int32)), .val (.int (1 : Int32)), .val (.int (1 : Int32)), .val (.int (1 : Int32)), .val (.ref b5), .val (.ref b8), .val (.ref b13), .val (.ref b91), .val (.ref b145), .val (.ref w_USER), .unset, .unset, .unset, .unset, .unset] [(.ref sa163), (.ref w_USER), (.ref sa162), (.ref sa161), (.ref b160), (.ref b160)])) rfl (hb hby at_182) (n := 24) (by decide) (by decide) (by decide) (by decide)
          refine GoH.st st164 ?_
          have Sf_b5 := CHr.safe CR164 V_b5.lt Sf_b5
          have Sf_b8 := CHr.safe CR164 V_b8.lt Sf_b8
          have Sf_b13 := CHr.safe CR164 V_b13.lt Sf_b13
          have Sf_b160 := CHr.safe CR164 E_b160.lt Sf_b160
          have V_b5 := V_b5.ext E164
          have V_b8 := V_b8.ext E164
          have V_b13 := V_b13.ext E164
          have E_b160 := E_b160.ext E164
          have F_id_b160 := F_id_b160.ext E164
          have F_name_b160 := F_name_b160.ext E164
          have F_kind_b160 := F_kind_b160.ext E164
          have F_consumerKey_b160 := F_consumerKey_b160.ext E164
          have F_consumerSecret_b160 := F_consumerSecret_b160.ext E164
          have F_autonomous_b160 := F_autonomous_b160.ext E164
          have F_autonomousReason_b160 := F_autonomousReason_b160.ext E164
          have F_hasUi_b160 := F_hasUi_b160.ext E164
          have F_callbackUrl_b160 := F_callbackUrl_b160.ext E164
          have F_startUrlTemplate_b160 := F_startUrlTemplate_b160.ext E164
          have F_frameable_b160 := F_frameable_b160.ext E164
          have O := O.ext E164
          have KK := KK.ext E164
          have RR := RR.trans CR164
          have HH := CR164.1
          have hS := hS164
          have hk := hk164
          have hZ := hZ164
          have hown := ho164
          show GoH _ _ _ _ _ _ _ _ _ _  T164 (mkF m 184 #[.val (.int p1), .val (.int p2), .val (.int p3), .val (.int p4), .val (.int (1 : Int32)), .val (.int (1 : Int32)), .val (.int (1 : Int32)), .val (.int (1 : Int32)), .val (.ref b5), .val (.ref b8), .val (.ref b13), .val (.ref b91), .val (.ref b145), .val (.ref w_USER), .unset, .unset, .unset, .unset, .unset] [(.ref sa164), (.ref sa163), (.ref w_USER), (.ref sa162), (.ref sa161), (.ref b160), (.ref b160)])
          refine GoH.st (fun t k => XS.iconst X164.here hx rfl (hb hby at_184) k) ?_
          show GoH _ _ _ _ _ _ _ _ _ _  T164 (mkF m 185 #[.val (.int p1), .val (.int p2), .val (.int p3), .val (.int p4), .val (.int (1 : Int32)), .val (.int (1 : Int32)), .val (.int (1 : Int32)), .val (.int (1 : Int32)), .val (.ref b5), .val (.ref b8), .val (.ref b13), .val (.ref b91), .val (.ref b145), .val (.ref w_USER), .unset, .unset, .unset, .unset, .unset] [(.int (0 : Int32)), (.ref sa164), (.ref sa163), (.ref w_USER), (.ref sa162), (.ref sa161), (.ref b160), (.ref b160)])
          refine GoH.st (fun t k => XS.aconstNull X164.here hx rfl (hb hby at_185) k) ?_
          show GoH _ _ _ _ _ _ _ _ _ _  T164 (mkF m 186 #[.val (.int p1), .val (.int p2), .val (.int p3), .val (.int p4), .val (.int (1 : Int32)), .val (.int (1 : Int32)), .val (.int (1 : Int32)), .val (.int (1 : Int32)), .val (.ref b5), .val (.ref b8), .val (.ref b13), .val (.ref b91), .val (.ref b145), .val (.ref w_USER), .unset, .unset, .unset, .unset, .unset] [.null, (.int (0 : Int32)), (.ref sa164), (.ref sa163), (.ref w_USER), (.ref sa162), (.ref sa161), (.ref b160), (.ref b160)])
          refine GoH.st (fun t k => XS.iconst X164.here hx rfl (hb hby at_186) k) ?_
          show GoH _ _ _ _ _ _ _ _ _ _  T164 (mkF m 187 #[.val (.int p1), .val (.int p2), .val (.int p3), .val (.int p4), .val (.int (1 : Int32)), .val (.int (1 : Int32)), .val (.int (1 : Int32)), .val (.int (1 : Int32)), .val (.ref b5), .val (.ref b8), .val (.ref b13), .val (.ref b91), .val (.ref b145), .val (.ref w_USER), .unset, .unset, .unset, .unset, .unset] [(.int (0 : Int32)), .null, (.int (0 : Int32)), (.ref sa164), (.ref sa163), (.ref w_USER), (.ref sa162), (.ref sa161), (.ref b160), (.ref b160)])
          refine GoH.st (fun t k => XS.aconstNull X164.here hx rfl (hb hby at_187) k) ?_
          show GoH _ _ _ _ _ _ _ _ _ _  T164 (mkF m 188 #[.val (.int p1), .val (.int p2), .val (.int p3), .val (.int p4), .val (.int (1 : Int32)), .val (.int (1 : Int32)), .val (.int (1 : Int32)), .val (.int (1 : Int32)), .val (.ref b5), .val (.ref b8), .val (.ref b13), .val (.ref b91), .val (.ref b145), .val (.ref w_USER), .unset, .unset, .unset, .unset, .unset] [.null, (.int (0 : Int32)), .null, (.int (0 : Int32)), (.ref sa164), (.ref sa163), (.ref w_USER), (.ref sa162), (.ref sa161), (.ref b160), (.ref b160)])
          refine GoH.st (fun t k => XS.aconstNull X164.here hx rfl (hb hby at_188) k) ?_
          show GoH _ _ _ _ _ _ _ _ _ _  T164 (mkF m 189 #[.val (.int p1), .val (.int p2), .val (.int p3), .val (.int p4), .val (.int (1 : Int32)), .val (.int (1 : Int32)), .val (.int (1 : Int32)), .val (.int (1 : Int32)), .val (.ref b5), .val (.ref b8), .val (.ref b13), .val (.ref b91), .val (.ref b145), .val (.ref w_USER), .unset, .unset, .unset, .unset, .unset] [.null, .null, (.int (0 : Int32)), .null, (.int (0 : Int32)), (.ref sa164), (.ref sa163), (.ref w_USER), (.ref sa162), (.ref sa161), (.ref b160), (.ref b160)])
          refine GoH.st (fun t k => XS.iconst X164.here hx rfl (hb hby at_189) k) ?_
          show GoH _ _ _ _ _ _ _ _ _ _  T164 (mkF m 190 #[.val (.int p1), .val (.int p2), .val (.int p3), .val (.int p4), .val (.int (1 : Int32)), .val (.int (1 : Int32)), .val (.int (1 : Int32)), .val (.int (1 : Int32)), .val (.ref b5), .val (.ref b8), .val (.ref b13), .val (.ref b91), .val (.ref b145), .val (.ref w_USER), .unset, .unset, .unset, .unset, .unset] [(.int (0 : Int32)), .null, .null, (.int (0 : Int32)), .null, (.int (0 : Int32)), (.ref sa164), (.ref sa163), (.ref w_USER), (.ref sa162), (.ref sa161), (.ref b160), (.ref b160)])
          obtain ⟨_, _, ⟨T165, L165, k165, n165⟩, -, X165, ⟨Lc165, hQ165, l165, y165, z165⟩, st165⟩ := X164.specialBack hx (y := (⟨"com/example/wellness_on_record/wellnessonrecord/apps/App", "<init>", "(Ljava/lang/String;Ljava/lang/String;Lcom/example/wellness_on_record/wellnessonrecord/apps/App$Kind;Ljava/lang/String;Ljava/lang/String;ZLjava/lang/String;ZLjava/lang/String;Ljava/lang/String;Z)V"⟩ : MethodName)) rfl hown (mvT hZ (hw _ (List.mem_of_getElem? (i := 42) rfl))) (mvT hZ (hw _ (List.mem_of_getElem? (i := 43) rfl))) (mvT hZ (hw _ (List.mem_of_getElem? (i := 44) rfl))) (by decide) (backOf (W := 1) (rmA l Z a0 hw [] b160 sa161 sa162 w_USER sa163 sa164 h164 n0 O E_b160 F_id_b160 F_name_b160 F_kind_b160 F_consumerKey_b160 F_consumerSecret_b160 F_autonomous_b160 F_autonomousReason_b160 F_hasUi_b160 F_callbackUrl_b160 F_startUrlTemplate_b160 F_frameable_b160 g_b160) hZ (hw _ (List.mem_of_getElem? (i := 44) rfl)) (hw _ (List.mem_of_getElem? (i := 35) rfl)) (by decide) (by decide)) (g := (mkF m 190 #[.val (.int p1), .val (.int p2), .val (.int p3), .val (.int p4), .val (.int (1 : Int32)), .val (.int (1 : Int32)), .val (.int (1 : Int32)), .val (.int (1 : Int32)), .val (.ref b5), .val (.ref b8), .val (.ref b13), .val (.ref b91), .val (.ref b145), .val (.ref w_USER), .unset, .unset, .unset, .unset, .unset] [(.int (0 : Int32)), .null, .null, (.int (0 : Int32)), .null, (.int (0 : Int32)), (.ref sa164), (.ref sa163), (.ref w_USER), (.ref sa162), (.ref sa161), (.ref b160), (.ref b160)])) rfl (by rw [hml]; rfl) (Steps.refl _) (a := b160) (argsL := [(.ref sa161), (.ref sa162), (.ref w_USER), (.ref sa163), (.ref sa164), (.int (0 : Int32)), .null, (.int (0 : Int32)), .null, .null, (.int (0 : Int32))]) (rest := [(.ref b160)]) (lenOf pd__Ljava_lang_String_Ljava_lang_String_Lcom_example_wellness_on_record_wellnessonrecord_apps_App_Kind_Ljava_lang_String_Ljava_lang_String_ZLjava_lang_String_ZLjava_lang_String_Ljava_lang_String_Z_V rfl) rfl (by show 2 * 0 + _ ≤ _; exact Nat.le_of_eq rfl) (hb hby at_190) (fun _ _ => ⟨rfl, e164, (by decide : 19 + 0 ≤ _), (by decide : 107 + 0 ≤ _)⟩)
          dsimp only [Pt.U, Pt.locs, Pt.cells, Pt.slots] at X165 l165 y165 z165 st165 hQ165
          subst l165 y165 z165
          obtain ⟨rfl, N165q, K165q, Eq165, Fk165⟩ := hQ165
          have N165 := Fr.app N146 N165q
          refine GoH.tr st165 ?_
          have V_b5 := V_b5.keep K165q (ninS ne_b5_b160 nin0)
          have V_b8 := V_b8.keep K165q (ninS ne_b8_b160 nin0)
          have V_b13 := V_b13.keep K165q (ninS ne_b13_b160 nin0)
          have E_b160 := E_b160.keep K165q
          have sfw165 := (sfS Sf_b160 sf0)
          have Sf_b5 := Safe.keep K165q sfw165 HH Sf_b5
          have Sf_b8 := Safe.keep K165q sfw165 HH Sf_b8
          have Sf_b13 := Safe.keep K165q sfw165 HH Sf_b13
          have Sf_b160 := Safe.keep K165q sfw165 HH Sf_b160
          have RR := RR.trans (CHr.keep K165q sfw165 HH)
          have HH := HH.keep K165q sfw165
          have hk := Nat.le_trans hk K165q.1
          have O := O.keep K165q (allS g_b160 all0)
          have KK := KK.trans K165q (allS (Or.inr sz_b160) all0)
          have E_b160 := Eq165
          show GoH _ _ _ _ _ _ _ _ _ _  T165 (mkF m 193 #[.val (.int p1), .val (.int p2), .val (.int p3), .val (.int p4), .val (.int (1 : Int32)), .val (.int (1 : Int32)), .val (.int (1 : Int32)), .val (.int (1 : Int32)), .val (.ref b5), .val (.ref b8), .val (.ref b13), .val (.ref b91), .val (.ref b145), .val (.ref w_USER), .unset, .unset, .unset, .unset, .unset] [(.ref b160)])
          refine GoH.st (fun t k => XS.astore X165.here hx rfl (hb hby at_193) rfl rfl (l' := #[.val (.int p1), .val (.int p2), .val (.int p3), .val (.int p4), .val (.int (1 : Int32)), .val (.int (1 : Int32)), .val (.int (1 : Int32)), .val (.int (1 : Int32)), .val (.ref b5), .val (.ref b8), .val (.ref b13), .val (.ref b91), .val (.ref b145), .val (.ref w_USER), .val (.ref b160), .unset, .unset, .unset, .unset]) rfl k) ?_
          show GoH _ _ _ _ _ _ _ _ _ _  T165 (mkF m 195 #[.val (.int p1), .val (.int p2), .val (.int p3), .val (.int p4), .val (.int (1 : Int32)), .val (.int (1 : Int32)), .val (.int (1 : Int32)), .val (.int (1 : Int32)), .val (.ref b5), .val (.ref b8), .val (.ref b13), .val (.ref b91), .val (.ref b145), .val (.ref w_USER), .val (.ref b160), .unset, .unset, .unset, .unset] [])
          obtain ⟨T166, h166, X166, e166, E166, A166, D166, -, st166⟩ := newO X165 hx hZ hown (hw _ (List.mem_of_getElem? (i := 73) rfl)) (hw _ (List.mem_of_getElem? (i := 74) rfl)) (hw _ (List.mem_of_getElem? (i := 75) rfl)) rfl (g := (mkF m 195 #[.val (.int p1), .val (.int p2), .val (.int p3), .val (.int p4), .val (.int (1 : Int32)), .val (.int (1 : Int32)), .val (.int (1 : Int32)), .val (.int (1 : Int32)), .val (.ref b5), .val (.ref b8), .val (.ref b13), .val (.ref b91), .val (.ref b145), .val (.ref w_USER), .val (.ref b160), .unset, .unset, .unset, .unset] [])) rfl (hb hby at_195) (by decide) (by decide)
          obtain ⟨b166, g166⟩ : ∃ z, z = T165.heap.size := ⟨_, rfl⟩
          rw [← g166] at A166 D166 st166
          refine GoH.st st166 ?_
          have g_b166 : n0 ≤ b166 := by rw [g166]; exact own_le O
          have Sf_b166 : Safe Z EL T164.vm T165.heap b166 := Safe.new (Nat.le_of_eq g166.symm)
          have sz_b166 : h0.size ≤ b166 := by rw [g166]; exact KK.1
          have ne_b5_b166 : b5 ≠ b166 := Nat.ne_of_lt (by rw [g166]; exact V_b5.lt)
          have ne_b8_b166 : b8 ≠ b166 := Nat.ne_of_lt (by rw [g166]; exact V_b8.lt)
          have ne_b13_b166 : b13 ≠ b166 := Nat.ne_of_lt (by rw [g166]; exact V_b13.lt)
          have ne_b160_b166 : b160 ≠ b166 := Nat.ne_of_lt (by rw [g166]; exact E_b160.lt)
          have V_b5 := V_b5.ext E166
          have V_b8 := V_b8.ext E166
          have V_b13 := V_b13.ext E166
          have E_b160 := E_b160.ext E166
          have Fk165 := Fk165.ext E166
          have Sf_b5 := Safe.ext E166 HH Sf_b5
          have Sf_b8 := Safe.ext E166 HH Sf_b8
          have Sf_b13 := Safe.ext E166 HH Sf_b13
          have Sf_b160 := Safe.ext E166 HH Sf_b160
          have Sf_b166 := Safe.ext E166 HH Sf_b166
          have RR := RR.trans (CHr.ext E166 HH)
          have HH := HH.ext E166
          have hk := Nat.le_trans hk E166.1
          have O := O.ext E166
          have KK := KK.ext E166
          have E_b166 := A166
          have F_app_b166 : Fld Z h166 b166 "com/example/wellness_on_record/wellnessonrecord/oauth/Principal" "app" "Lcom/example/wellness_on_record/wellnessonrecord/apps/App;" .null := D166 (Or.inr (hw _ (List.mem_of_getElem? (i := 81) rfl))) (ty := (.object "com/example/wellness_on_record/wellnessonrecord/apps/App")) (by decide)
          have F_recordId_b166 : Fld Z h166 b166 "com/example/wellness_on_record/wellnessonrecord/oauth/Principal" "recordId" "Ljava/lang/String;" .null := D166 (Or.inr (hw _ (List.mem_of_getElem? (i := 83) rfl))) (ty := (.object "java/lang/String")) (by decide)
          have F_requestToken_b166 : Fld Z h166 b166 "com/example/wellness_on_record/wellnessonrecord/oauth/Principal" "requestToken" "Ljava/lang/String;" .null := D166 (Or.inr (hw _ (List.mem_of_getElem? (i := 85) rfl))) (ty := (.object "java/lang/String")) (by decide)
          show GoH _ _ _ _ _ _ _ _ _ _  T166 (mkF m 198 #[.val (.int p1), .val (.int p2), .val (.int p3), .val (.int p4), .val (.int (1 : Int32)), .val (.int (1 : Int32)), .val (.int (1 : Int32)), .val (.int (1 : Int32)), .val (.ref b5), .val (.ref b8), .val (.ref b13), .val (.ref b91), .val (.ref b145), .val (.ref w_USER), .val (.ref b160), .unset, .unset, .unset, .unset] [(.ref b166)])
          refine GoH.st (fun t k => XS.dup X166.here hx rfl (hb hby at_198) rfl rfl k) ?_
          show GoH _ _ _ _ _ _ _ _ _ _  T166 (mkF m 199 #[.val (.int p1), .val (.int p2), .val (.int p3), .val (.int p4), .val (.int (1 : Int32)), .val (.int (1 : Int32)), .val (.int (1 : Int32)), .val (.int (1 : Int32)), .val (.ref b5), .val (.ref b8), .val (.ref b13), .val (.ref b91), .val (.ref b145), .val (.ref w_USER), .val (.ref b160), .unset, .unset, .unset, .unset] [(.ref b166), (.ref b166)])
          refine GoH.st (fun t k => XS.aload X166.here hx rfl (hb hby at_199) rfl rfl  k) ?_
          show GoH _ _ _ _ _ _ _ _ _ _  T166 (mkF m 201 #[.val (.int p1), .val (.int p2), .val (.int p3), .val (.int p4), .val (.int (1 : Int32)), .val (.int (1 : Int32)), .val (.int (1 : Int32)), .val (.int (1 : Int32)), .val (.ref b5), .val (.ref b8), .val (.ref b13), .val (.ref b91), .val (.ref b145), .val (.ref w_USER), .val (.ref b160), .unset, .unset, .unset, .unset] [(.ref b160), (.ref b166), (.ref b166)])
          refine GoH.st (fun t k => XS.aload X166.here hx rfl (hb hby at_201) rfl rfl  k) ?_
          show GoH _ _ _ _ _ _ _ _ _ _  T166 (mkF m 203 #[.val (.int p1), .val (.int p2), .val (.int p3), .val (.int p4), .val (.int (1 : Int32)), .val (.int (1 : Int32)), .val (.int (1 : Int32)), .val (.int (1 : Int32)), .val (.ref b5), .val (.ref b8), .val (.ref b13), .val (.ref b91), .val (.ref b145), .val (.ref w_USER), .val (.ref b160), .unset, .unset, .unset, .unset] [(.ref b91), (.ref b160), (.ref b166), (.ref b166)])
          refine GoH.st (fun t k => XS.aload X166.here hx rfl (hb hby at_203) rfl rfl  k) ?_
          show GoH _ _ _ _ _ _ _ _ _ _  T166 (mkF m 205 #[.val (.int p1), .val (.int p2), .val (.int p3), .val (.int p4), .val (.int (1 : Int32)), .val (.int (1 : Int32)), .val (.int (1 : Int32)), .val (.int (1 : Int32)), .val (.ref b5), .val (.ref b8), .val (.ref b13), .val (.ref b91), .val (.ref b145), .val (.ref w_USER), .val (.ref b160), .unset, .unset, .unset, .unset] [(.ref b145), (.ref b91), (.ref b160), (.ref b166), (.ref b166)])
          obtain ⟨_, _, ⟨T167, L167, k167, n167⟩, -, X167, ⟨Lc167, hQ167, l167, y167, z167⟩, st167⟩ := X166.specialBack hx (y := (⟨"com/example/wellness_on_record/wellnessonrecord/oauth/Principal", "<init>", "(Lcom/example/wellness_on_record/wellnessonrecord/apps/App;Ljava/lang/String;Ljava/lang/String;)V"⟩ : MethodName)) rfl hown (mvT hZ (hw _ (List.mem_of_getElem? (i := 76) rfl))) (mvT hZ (hw _ (List.mem_of_getElem? (i := 77) rfl))) (mvT hZ (hw _ (List.mem_of_getElem? (i := 78) rfl))) (by decide) (backOf (W := 1) (rmP l Z a0 hw [] b166 b160 (.ref b91) (.ref b145) h166 n0 O E_b166 F_app_b166 F_recordId_b166 F_requestToken_b166 g_b166 rfl rfl) hZ (hw _ (List.mem_of_getElem? (i := 78) rfl)) (hw _ (List.mem_of_getElem? (i := 75) rfl)) (by decide) (by decide)) (g := (mkF m 205 #[.val (.int p1), .val (.int p2), .val (.int p3), .val (.int p4), .val (.int (1 : Int32)), .val (.int (1 : Int32)), .val (.int (1 : Int32)), .val (.int (1 : Int32)), .val (.ref b5), .val (.ref b8), .val (.ref b13), .val (.ref b91), .val (.ref b145), .val (.ref w_USER), .val (.ref b160), .unset, .unset, .unset, .unset] [(.ref b145), (.ref b91), (.ref b160), (.ref b166), (.ref b166)])) rfl (by rw [hml]; rfl) (Steps.refl _) (a := b166) (argsL := [(.ref b160), (.ref b91), (.ref b145)]) (rest := [(.ref b166)]) (lenOf pd__Lcom_example_wellness_on_record_wellnessonrecord_apps_App_Ljava_lang_String_Ljava_lang_String__V rfl) rfl (by show 2 * 0 + _ ≤ _; exact Nat.le_of_eq rfl) (hb hby at_205) (fun _ _ => ⟨rfl, e166, (by decide : 20 + 0 ≤ _), (by decide : 110 + 0 ≤ _)⟩)
          dsimp only [Pt.U, Pt.locs, Pt.cells, Pt.slots] at X167 l167 y167 z167 st167 hQ167
          subst l167 y167 z167
          obtain ⟨rfl, N167q, K167q, Eq167, Fa167, Fr167, Ft167⟩ := hQ167
          have N167 := Fr.app N165 N167q
          refine GoH.tr st167 ?_
          have V_b5 := V_b5.keep K167q (ninS ne_b5_b166 nin0)
          have V_b8 := V_b8.keep K167q (ninS ne_b8_b166 nin0)
          have V_b13 := V_b13.keep K167q (ninS ne_b13_b166 nin0)
          have E_b160 := E_b160.keep K167q
          have Fk165 := Fk165.keep K167q (ninS ne_b160_b166 nin0)
          have E_b166 := E_b166.keep K167q
          have sfw167 := (sfS Sf_b166 sf0)
          have Sf_b5 := Safe.keep K167q sfw167 HH Sf_b5
          have Sf_b8 := Safe.keep K167q sfw167 HH Sf_b8
          have Sf_b13 := Safe.keep K167q sfw167 HH Sf_b13
          have Sf_b160 := Safe.keep K167q sfw167 HH Sf_b160
          have Sf_b166 := Safe.keep K167q sfw167 HH Sf_b166
          have RR := RR.trans (CHr.keep K167q sfw167 HH)
          have HH := HH.keep K167q sfw167
          have hk := Nat.le_trans hk K167q.1
          have O := O.keep K167q (allS g_b166 all0)
          have KK := KK.trans K167q (allS (Or.inr sz_b166) all0)
          have E_b166 := Eq167
          show GoH _ _ _ _ _ _ _ _ _ _  T167 (mkF m 208 #[.val (.int p1), .val (.int p2), .val (.int p3), .val (.int p4), .val (.int (1 : Int32)), .val (.int (1 : Int32)), .val (.int (1 : Int32)), .val (.int (1 : Int32)), .val (.ref b5), .val (.ref b8), .val (.ref b13), .val (.ref b91), .val (.ref b145), .val (.ref w_USER), .val (.ref b160), .unset, .unset, .unset, .unset] [(.ref b166)])
          refine GoH.st (fun t k => XS.astore X167.here hx rfl (hb hby at_208) rfl rfl (l' := #[.val (.int p1), .val (.int p2), .val (.int p3), .val (.int p4), .val (.int (1 : Int32)), .val (.int (1 : Int32)), .val (.int (1 : Int32)), .val (.int (1 : Int32)), .val (.ref b5), .val (.ref b8), .val (.ref b13), .val (.ref b91), .val (.ref b145), .val (.ref w_USER), .val (.ref b160), .val (.ref b166), .unset, .unset, .unset]) rfl k) ?_
          show GoH _ _ _ _ _ _ _ _ _ _  T167 (mkF m 210 #[.val (.int p1), .val (.int p2), .val (.int p3), .val (.int p4), .val (.int (1 : Int32)), .val (.int (1 : Int32)), .val (.int (1 : Int32)), .val (.int (1 : Int32)), .val (.ref b5), .val (.ref b8), .val (.ref b13), .val (.ref b91), .val (.ref b145), .val (.ref w_USER), .val (.ref b160), .val (.ref b166), .unset, .unset, .unset] [])
          refine GoH.st (fun t k => XS.aload X167.here hx rfl (hb hby at_210) rfl rfl  k) ?_
          show GoH _ _ _ _ _ _ _ _ _ _  T167 (mkF m 212 #[.val (.int p1), .val (.int p2), .val (.int p3), .val (.int p4), .val (.int (1 : Int32)), .val (.int (1 : Int32)), .val (.int (1 : Int32)), .val (.int (1 : Int32)), .val (.ref b5), .val (.ref b8), .val (.ref b13), .val (.ref b91), .val (.ref b145), .val (.ref w_USER), .val (.ref b160), .val (.ref b166), .unset, .unset, .unset] [(.ref b166)])
          obtain ⟨cq168, kq168, q168a, q168b, q168c⟩ := isOf hZ rfl E_b166
          obtain ⟨_, _, ⟨T168, L168, k168, n168⟩, -, X168, ⟨Lc168, hQ168, l168, y168, z168⟩, st168⟩ := X167.virtualBack hx (y := (⟨"com/example/wellness_on_record/wellnessonrecord/oauth/Principal", "holdsRequestToken", "()Z"⟩ : MethodName)) (z := (⟨"com/example/wellness_on_record/wellnessonrecord/oauth/Principal", "holdsRequestToken", "()Z"⟩ : MethodName)) hown (mvT hZ (hw _ (List.mem_of_getElem? (i := 86) rfl))) (mvT hZ (hw _ (List.mem_of_getElem? (i := 87) rfl))) (notFace_of_selects (args := #[]) (mvT hZ (hw _ (List.mem_of_getElem? (i := 89) rfl)))) (mvT hZ (hw _ (List.mem_of_getElem? (i := 89) rfl))) (mvT hZ (hw _ (List.mem_of_getElem? (i := 88) rfl))) (by decide) (backOf (W := 0) (rmH l Z a0 hw [] b166 (.ref b145) T167.heap n0 O Ft167 rfl) hZ (hw _ (List.mem_of_getElem? (i := 90) rfl)) (hw _ (List.mem_of_getElem? (i := 75) rfl)) (by decide) (by decide)) q168a q168c (g := (mkF m 212 #[.val (.int p1), .val (.int p2), .val (.int p3), .val (.int p4), .val (.int (1 : Int32)), .val (.int (1 : Int32)), .val (.int (1 : Int32)), .val (.int (1 : Int32)), .val (.ref b5), .val (.ref b8), .val (.ref b13), .val (.ref b91), .val (.ref b145), .val (.ref w_USER), .val (.ref b160), .val (.ref b166), .unset, .unset, .unset] [(.ref b166)])) rfl (by rw [hml]; rfl) (Steps.refl _) (argsL := []) (rest := []) (lenOf pd___Z rfl) rfl (by show 2 * 0 + _ ≤ _; exact Nat.le_of_eq rfl) (hb hby at_212) (fun _ _ => ⟨rfl, rfl, (by decide : 20 + 0 ≤ _), (by decide : 110 + 0 ≤ _)⟩)
          dsimp only [Pt.U, Pt.locs, Pt.cells, Pt.slots] at X168 l168 y168 z168 st168 hQ168
          subst l168 y168 z168
          obtain ⟨rfl, N168q, e168q⟩ := hQ168
          have N168 := Fr.app N167 N168q
          refine GoH.tr st168 ?_
          rw [show (if (.ref b145) = Value.null then (0 : Int32) else 1) = (1 : Int32) from by simp]
          show GoH _ _ _ _ _ _ _ _ _ _  T168 (mkF m 215 #[.val (.int p1), .val (.int p2), .val (.int p3), .val (.int p4), .val (.int (1 : Int32)), .val (.int (1 : Int32)), .val (.int (1 : Int32)), .val (.int (1 : Int32)), .val (.ref b5), .val (.ref b8), .val (.ref b13), .val (.ref b91), .val (.ref b145), .val (.ref w_USER), .val (.ref b160), .val (.ref b166), .unset, .unset, .unset] [(.int (1 : Int32))])
          refine GoH.st (fun t k => XS.istore X168.here hx rfl (hb hby at_215) rfl (l' := #[.val (.int p1), .val (.int p2), .val (.int p3), .val (.int p4), .val (.int (1 : Int32)), .val (.int (1 : Int32)), .val (.int (1 : Int32)), .val (.int (1 : Int32)), .val (.ref b5), .val (.ref b8), .val (.ref b13), .val (.ref b91), .val (.ref b145), .val (.ref w_USER), .val (.ref b160), .val (.ref b166), .val (.int (1 : Int32)), .unset, .unset]) rfl k) ?_
          show GoH _ _ _ _ _ _ _ _ _ _  T168 (mkF m 217 #[.val (.int p1), .val (.int p2), .val (.int p3), .val (.int p4), .val (.int (1 : Int32)), .val (.int (1 : Int32)), .val (.int (1 : Int32)), .val (.int (1 : Int32)), .val (.ref b5), .val (.ref b8), .val (.ref b13), .val (.ref b91), .val (.ref b145), .val (.ref w_USER), .val (.ref b160), .val (.ref b166), .val (.int (1 : Int32)), .unset, .unset] [])
          refine GoH.st (fun t k => XS.iload X168.here hx rfl (hb hby at_217) rfl  k) ?_
          show GoH _ _ _ _ _ _ _ _ _ _  T168 (mkF m 219 #[.val (.int p1), .val (.int p2), .val (.int p3), .val (.int p4), .val (.int (1 : Int32)), .val (.int (1 : Int32)), .val (.int (1 : Int32)), .val (.int (1 : Int32)), .val (.ref b5), .val (.ref b8), .val (.ref b13), .val (.ref b91), .val (.ref b145), .val (.ref w_USER), .val (.ref b160), .val (.ref b166), .val (.int (1 : Int32)), .unset, .unset] [(.int (1 : Int32))])
          refine GoH.st (fun t k => XS.iload X168.here hx rfl (hb hby at_219) rfl  k) ?_
          show GoH _ _ _ _ _ _ _ _ _ _  T168 (mkF m 221 #[.val (.int p1), .val (.int p2), .val (.int p3), .val (.int p4), .val (.int (1 : Int32)), .val (.int (1 : Int32)), .val (.int (1 : Int32)), .val (.int (1 : Int32)), .val (.ref b5), .val (.ref b8), .val (.ref b13), .val (.ref b91), .val (.ref b145), .val (.ref w_USER), .val (.ref b160), .val (.ref b166), .val (.int (1 : Int32)), .unset, .unset] [(.int (1 : Int32)), (.int (1 : Int32))])
          refine GoH.st (fun t k => XS.icmpYes X168.here hx rfl (pc0 := 221) (pc' := 226) rfl (hb hby at_221) rfl (teq (rfl : (1 : Int32) = (1 : Int32))).1 (by decide) (by decide) k) ?_
          show GoH _ _ _ _ _ _ _ _ _ _  T168 (mkF m 226 #[.val (.int p1), .val (.int p2), .val (.int p3), .val (.int p4), .val (.int (1 : Int32)), .val (.int (1 : Int32)), .val (.int (1 : Int32)), .val (.int (1 : Int32)), .val (.ref b5), .val (.ref b8), .val (.ref b13), .val (.ref b91), .val (.ref b145), .val (.ref w_USER), .val (.ref b160), .val (.ref b166), .val (.int (1 : Int32)), .unset, .unset] [])
          refine GoH.st (fun t k => XS.aload X168.here hx rfl (hb hby at_226) rfl rfl  k) ?_
          show GoH _ _ _ _ _ _ _ _ _ _  T168 (mkF m 228 #[.val (.int p1), .val (.int p2), .val (.int p3), .val (.int p4), .val (.int (1 : Int32)), .val (.int (1 : Int32)), .val (.int (1 : Int32)), .val (.int (1 : Int32)), .val (.ref b5), .val (.ref b8), .val (.ref b13), .val (.ref b91), .val (.ref b145), .val (.ref w_USER), .val (.ref b160), .val (.ref b166), .val (.int (1 : Int32)), .unset, .unset] [(.ref b166)])
          obtain ⟨cq169, kq169, q169a, q169b, q169c⟩ := isOf hZ e168q E_b166
          obtain ⟨_, _, ⟨T169, L169, k169, n169⟩, -, X169, ⟨Lc169, hQ169, l169, y169, z169⟩, st169⟩ := X168.virtualBack hx (y := (⟨"com/example/wellness_on_record/wellnessonrecord/oauth/Principal", "isUserAppAlone", "()Z"⟩ : MethodName)) (z := (⟨"com/example/wellness_on_record/wellnessonrecord/oauth/Principal", "isUserAppAlone", "()Z"⟩ : MethodName)) hown (mvT hZ (hw _ (List.mem_of_getElem? (i := 91) rfl))) (mvT hZ (hw _ (List.mem_of_getElem? (i := 92) rfl))) (notFace_of_selects (args := #[]) (mvT hZ (hw _ (List.mem_of_getElem? (i := 94) rfl)))) (mvT hZ (hw _ (List.mem_of_getElem? (i := 94) rfl))) (mvT hZ (hw _ (List.mem_of_getElem? (i := 93) rfl))) (by decide) (backOf (W := 0) (rmU l Z a0 hw [] b166 b160 w_USER (.ref b91) (.ref b145) w_USER T167.heap n0 O Fa167 Fr167 Ft167 rfl rfl Fk165 E_b166 E_b160 S_USER) hZ (hw _ (List.mem_of_getElem? (i := 95) rfl)) (hw _ (List.mem_of_getElem? (i := 75) rfl)) (by decide) (by decide)) q169a q169c (g := (mkF m 228 #[.val (.int p1), .val (.int p2), .val (.int p3), .val (.int p4), .val (.int (1 : Int32)), .val (.int (1 : Int32)), .val (.int (1 : Int32)), .val (.int (1 : Int32)), .val (.ref b5), .val (.ref b8), .val (.ref b13), .val (.ref b91), .val (.ref b145), .val (.ref w_USER), .val (.ref b160), .val (.ref b166), .val (.int (1 : Int32)), .unset, .unset] [(.ref b166)])) rfl (by rw [hml]; rfl) (Steps.refl _) (argsL := []) (rest := []) (lenOf pd___Z rfl) rfl (by show 2 * 0 + _ ≤ _; exact Nat.le_of_eq rfl) (hb hby at_228) (fun _ _ => ⟨rfl, e168q, (by decide : 20 + 0 ≤ _), (by decide : 110 + 0 ≤ _)⟩)
          dsimp only [Pt.U, Pt.locs, Pt.cells, Pt.slots] at X169 l169 y169 z169 st169 hQ169
          subst l169 y169 z169
          obtain ⟨rfl, N169q, e169q⟩ := hQ169
          have N169 := Fr.app N168 N169q
          refine GoH.tr st169 ?_
          rw [show (if w_USER = w_USER then (if (.ref b91) = Value.null then (if (.ref b145) = Value.null then (1 : Int32) else 0) else 0) else 0) = (0 : Int32) from by simp [nAU]]
          show GoH _ _ _ _ _ _ _ _ _ _  T169 (mkF m 231 #[.val (.int p1), .val (.int p2), .val (.int p3), .val (.int p4), .val (.int (1 : Int32)), .val (.int (1 : Int32)), .val (.int (1 : Int32)), .val (.int (1 : Int32)), .val (.ref b5), .val (.ref b8), .val (.ref b13), .val (.ref b91), .val (.ref b145), .val (.ref w_USER), .val (.ref b160), .val (.ref b166), .val (.int (1 : Int32)), .unset, .unset] [(.int (0 : Int32))])
          refine GoH.st (fun t k => XS.istore X169.here hx rfl (hb hby at_231) rfl (l' := #[.val (.int p1), .val (.int p2), .val (.int p3), .val (.int p4), .val (.int (1 : Int32)), .val (.int (1 : Int32)), .val (.int (1 : Int32)), .val (.int (1 : Int32)), .val (.ref b5), .val (.ref b8), .val (.ref b13), .val (.ref b91), .val (.ref b145), .val (.ref w_USER), .val (.ref b160), .val (.ref b166), .val (.int (1 : Int32)), .val (.int (0 : Int32)), .unset]) rfl k) ?_
          show GoH _ _ _ _ _ _ _ _ _ _  T169 (mkF m 233 #[.val (.int p1), .val (.int p2), .val (.int p3), .val (.int p4), .val (.int (1 : Int32)), .val (.int (1 : Int32)), .val (.int (1 : Int32)), .val (.int (1 : Int32)), .val (.ref b5), .val (.ref b8), .val (.ref b13), .val (.ref b91), .val (.ref b145), .val (.ref w_USER), .val (.ref b160), .val (.ref b166), .val (.int (1 : Int32)), .val (.int (0 : Int32)), .unset] [])
          refine GoH.st (fun t k => XS.iload X169.here hx rfl (hb hby at_233) rfl  k) ?_
          show GoH _ _ _ _ _ _ _ _ _ _  T169 (mkF m 235 #[.val (.int p1), .val (.int p2), .val (.int p3), .val (.int p4), .val (.int (1 : Int32)), .val (.int (1 : Int32)), .val (.int (1 : Int32)), .val (.int (1 : Int32)), .val (.ref b5), .val (.ref b8), .val (.ref b13), .val (.ref b91), .val (.ref b145), .val (.ref w_USER), .val (.ref b160), .val (.ref b166), .val (.int (1 : Int32)), .val (.int (0 : Int32)), .unset] [(.int (1 : Int32))])
          refine GoH.st (fun t k => XS.ifYes X169.here hx rfl (pc0 := 235) (pc' := 252) rfl (hb hby at_235) rfl ((if0 _ _).trans (feq (by decide : ¬ ((1 : Int32) = (0 : Int32)))).2) (by decide) (by decide) k) ?_
          show GoH _ _ _ _ _ _ _ _ _ _  T169 (mkF m 252 #[.val (.int p1), .val (.int p2), .val (.int p3), .val (.int p4), .val (.int (1 : Int32)), .val (.int (1 : Int32)), .val (.int (1 : Int32)), .val (.int (1 : Int32)), .val (.ref b5), .val (.ref b8), .val (.ref b13), .val (.ref b91), .val (.ref b145), .val (.ref w_USER), .val (.ref b160), .val (.ref b166), .val (.int (1 : Int32)), .val (.int (0 : Int32)), .unset] [])
          refine GoH.st (fun t k => XS.iconst X169.here hx rfl (hb hby at_252) k) ?_
          show GoH _ _ _ _ _ _ _ _ _ _  T169 (mkF m 253 #[.val (.int p1), .val (.int p2), .val (.int p3), .val (.int p4), .val (.int (1 : Int32)), .val (.int (1 : Int32)), .val (.int (1 : Int32)), .val (.int (1 : Int32)), .val (.ref b5), .val (.ref b8), .val (.ref b13), .val (.ref b91), .val (.ref b145), .val (.ref w_USER), .val (.ref b160), .val (.ref b166), .val (.int (1 : Int32)), .val (.int (0 : Int32)), .unset] [(.int (0 : Int32))])
          refine GoH.st (fun t k => XS.istore X169.here hx rfl (hb hby at_253) rfl (l' := #[.val (.int p1), .val (.int p2), .val (.int p3), .val (.int p4), .val (.int (1 : Int32)), .val (.int (1 : Int32)), .val (.int (1 : Int32)), .val (.int (1 : Int32)), .val (.ref b5), .val (.ref b8), .val (.ref b13), .val (.ref b91), .val (.ref b145), .val (.ref w_USER), .val (.ref b160), .val (.ref b166), .val (.int (1 : Int32)), .val (.int (0 : Int32)), .val (.int (0 : Int32))]) rfl k) ?_
          show GoH _ _ _ _ _ _ _ _ _ _  T169 (mkF m 255 #[.val (.int p1), .val (.int p2), .val (.int p3), .val (.int p4), .val (.int (1 : Int32)), .val (.int (1 : Int32)), .val (.int (1 : Int32)), .val (.int (1 : Int32)), .val (.ref b5), .val (.ref b8), .val (.ref b13), .val (.ref b91), .val (.ref b145), .val (.ref w_USER), .val (.ref b160), .val (.ref b166), .val (.int (1 : Int32)), .val (.int (0 : Int32)), .val (.int (0 : Int32))] [])
          refine GoH.st (fun t k => XS.iload X169.here hx rfl (hb hby at_255) rfl  k) ?_
          show GoH _ _ _ _ _ _ _ _ _ _  T169 (mkF m 257 #[.val (.int p1), .val (.int p2), .val (.int p3), .val (.int p4), .val (.int (1 : Int32)), .val (.int (1 : Int32)), .val (.int (1 : Int32)), .val (.int (1 : Int32)), .val (.ref b5), .val (.ref b8), .val (.ref b13), .val (.ref b91), .val (.ref b145), .val (.ref w_USER), .val (.ref b160), .val (.ref b166), .val (.int (1 : Int32)), .val (.int (0 : Int32)), .val (.int (0 : Int32))] [(.int (0 : Int32))])
          refine GoH.st (fun t k => XS.iload X169.here hx rfl (hb hby at_257) rfl  k) ?_
          show GoH _ _ _ _ _ _ _ _ _ _  T169 (mkF m 259 #[.val (.int p1), .val (.int p2), .val (.int p3), .val (.int p4), .val (.int (1 : Int32)), .val (.int (1 : Int32)), .val (.int (1 : Int32)), .val (.int (1 : Int32)), .val (.ref b5), .val (.ref b8), .val (.ref b13), .val (.ref b91), .val (.ref b145), .val (.ref w_USER), .val (.ref b160), .val (.ref b166), .val (.int (1 : Int32)), .val (.int (0 : Int32)), .val (.int (0 : Int32))] [(.int (0 : Int32)), (.int (0 : Int32))])
          refine GoH.st (fun t k => XS.icmpNo X169.here hx rfl (hb hby at_259) rfl (teq (rfl : (0 : Int32) = (0 : Int32))).2 k) ?_
          show GoH _ _ _ _ _ _ _ _ _ _  T169 (mkF m 262 #[.val (.int p1), .val (.int p2), .val (.int p3), .val (.int p4), .val (.int (1 : Int32)), .val (.int (1 : Int32)), .val (.int (1 : Int32)), .val (.int (1 : Int32)), .val (.ref b5), .val (.ref b8), .val (.ref b13), .val (.ref b91), .val (.ref b145), .val (.ref w_USER), .val (.ref b160), .val (.ref b166), .val (.int (1 : Int32)), .val (.int (0 : Int32)), .val (.int (0 : Int32))] [])
          refine GoH.st (fun t k => XS.iconst X169.here hx rfl (hb hby at_262) k) ?_
          show GoH _ _ _ _ _ _ _ _ _ _  T169 (mkF m 263 #[.val (.int p1), .val (.int p2), .val (.int p3), .val (.int p4), .val (.int (1 : Int32)), .val (.int (1 : Int32)), .val (.int (1 : Int32)), .val (.int (1 : Int32)), .val (.ref b5), .val (.ref b8), .val (.ref b13), .val (.ref b91), .val (.ref b145), .val (.ref w_USER), .val (.ref b160), .val (.ref b166), .val (.int (1 : Int32)), .val (.int (0 : Int32)), .val (.int (0 : Int32))] [(.int (1 : Int32))])
          refine GoH.st (fun t k => XS.goto X169.here hx rfl (pc0 := 263) (pc' := 267) rfl (hb hby at_263) (by decide) (by decide) k) ?_
          show GoH _ _ _ _ _ _ _ _ _ _  T169 (mkF m 267 #[.val (.int p1), .val (.int p2), .val (.int p3), .val (.int p4), .val (.int (1 : Int32)), .val (.int (1 : Int32)), .val (.int (1 : Int32)), .val (.int (1 : Int32)), .val (.ref b5), .val (.ref b8), .val (.ref b13), .val (.ref b91), .val (.ref b145), .val (.ref w_USER), .val (.ref b160), .val (.ref b166), .val (.int (1 : Int32)), .val (.int (0 : Int32)), .val (.int (0 : Int32))] [(.int (1 : Int32))])
          refine GoH.retN X169 hS hk e169q hZ hEL HH RR hlk hx (t := .boolean) (z' := (1 : Int32)) Bd.returns (by simp) (hb hby at_267) (by decide) (by decide) rfl ?_
          show Q_rm0 Z _ _ _ _ _ _ _ h0 n0 _ T169.heap _
          rw [e169q]
          exact ⟨rfl, N169⟩
set_option maxRecDepth 65536 in
set_option maxHeartbeats 40000000 in
theorem comes_1 {Post : Tables → Env → Array Value → State → Outcome → State → Prop} (hpost : ∀ tb e args s v u, (limb_1_1.after args s (.returned v) u = true ∧ limb_1_2.after args s (.returned v) u = true ∧ True) → ReturnedEndW s (.returned v) u (Jvm.fieldLocs frame_1_writes args s ++ Jvm.arrayLocs frame_1_arrays args s ++ Jvm.staticLocs frame_1_statics s) 40 5312 → Post tb e args s (.returned v) u) :
    ArmFor flags0 classFile x code maxLocals ret World_1 tables_1 room_1 Calls_1 rest_1 Pre_1 Post := by
  intro l hfl _ _ p e ha hc hk s m args below hf hA hF happ hP
  obtain ⟨hcalls, hrest, hpre⟩ := hP
  obtain ⟨-, -, -, hnamed, -, -, -, hat⟩ := (Spec.applies_iff hf).mp happ
  obtain ⟨hg, hn⟩ := and_e (Cond.before_iff.mp (show (Jvm.Cond.and given_1 narrow_1).before args s = true from hpre))
  obtain ⟨g1, g2⟩ := and_e hg
  obtain ⟨g3, g4⟩ := and_e g2
  obtain ⟨g5, g6⟩ := and_e g4
  obtain ⟨g7, g8⟩ := and_e g6
  obtain ⟨w0, w1, w2, w3, rfl⟩ : ∃ w0 w1 w2 w3 : Value, args = #[w0, w1, w2, w3] := by
    have hs : args.size = 4 := by simpa [Cond.value, given_1] using g1
    obtain ⟨L⟩ := args
    match L, hs with
    | [w0, w1, w2, w3], _ => exact ⟨w0, w1, w2, w3, rfl⟩
  have hw := fun d (hd : d ∈ tables_1) => atoms_spec (ws := Jvm.Cond.code x code maxLocals ret :: tables_1) hat d (List.mem_cons_of_mem _ hd)
  have hfit : Fit s := fun {y c} hc i hi => by
    obtain ⟨ha, rfl⟩ := Array.getElem?_eq_some_iff.mp hc
    have q := List.all_eq_true.mp ((Array.all_eq_true_iff_forall_mem.mp hF) _ (Array.getElem_mem ha)) i (List.mem_range.mpr hi)
    simpa [Array.getElem?_eq_getElem hi] using q
  obtain ⟨hsets, hown0⟩ := atoms_of _ (rest_1_c_eq ▸ (show rest_1_c.before _ s = true from hrest))
  obtain ⟨i0, ei0⟩ := is_v g3
  obtain rfl : w0 = (.int i0) := Option.some.inj ei0
  obtain ⟨i1, ei1⟩ := is_v g5
  obtain rfl : w1 = (.int i1) := Option.some.inj ei1
  obtain ⟨i2, ei2⟩ := is_v g7
  obtain rfl : w2 = (.int i2) := Option.some.inj ei2
  obtain ⟨i3, ei3⟩ := is_v g8
  obtain rfl : w3 = (.int i3) := Option.some.inj ei3
  obtain ⟨zc, ezc⟩ := is_v (Cond.before_iff.mp (hsets _ (List.mem_of_getElem? (i := 1) rfl)))
  have S_COMPACT : Sta s s.heap "java/lang/String" "COMPACT_STRINGS" "Z" (.int zc) := Sta.start ezc (Or.inl (hsets _ (List.mem_of_getElem? (i := 0) rfl)))
  have hcs : ¬ (zc = (0 : Int32)) := gotF (Cond.eq_ints ezc (Term.int_eval (0))) (not_v (Cond.before_iff.mp (hsets _ (List.mem_of_getElem? (i := 2) rfl))))
  obtain ⟨fm, efm, ref_fm⟩ := isR_v (Cond.before_iff.mp (hsets _ (List.mem_of_getElem? (i := 8) rfl)))
  have S_SIO : Sta s s.heap "jdk/internal/util/Preconditions" "SIOOBE_FORMATTER" "Ljava/util/function/BiFunction;" fm := Sta.start efm (Or.inl (hsets _ (List.mem_of_getElem? (i := 7) rfl)))
  obtain ⟨nr1, nr2⟩ := and_e hn
  obtain ⟨nr3, nr4⟩ := and_e nr2
  obtain ⟨nr5, nr6⟩ := and_e nr4
  obtain ⟨w_ADMIN, S_ADMIN, E_ADMIN, O_ADMIN⟩ := own_en nr1 nr5 (hw _ (List.mem_of_getElem? (i := 31) rfl)) (hw _ (List.mem_of_getElem? (i := 32) rfl))
  obtain ⟨w_USER, S_USER, E_USER, O_USER⟩ := own_en nr3 nr6 (hw _ (List.mem_of_getElem? (i := 31) rfl)) (hw _ (List.mem_of_getElem? (i := 101) rfl))
  have hEL : EW s _ EL := (EW.cons (hw _ (List.mem_of_getElem? (i := 36) rfl)) (by decide) (EW.cons (hw _ (List.mem_of_getElem? (i := 39) rfl)) (by decide) (EW.cons (hw _ (List.mem_of_getElem? (i := 40) rfl)) (by decide) (EW.cons (hw _ (List.mem_of_getElem? (i := 41) rfl)) (by decide) (EW.cons (hw _ (List.mem_of_getElem? (i := 108) rfl)) (by decide) EW.nil)))))
  have wS : ∀ a ∈ Bundle.stringAtoms, a.before _ s = true := fun d hd => hw d ((by decide +kernel : ∀ d ∈ Bundle.stringAtoms, d ∈ tables_1) d hd)
  have HH : CHv s EL s.vm s.heap := CHv.start hEL (fun q hq => hcalls.1 q hq) (hsets _ (List.mem_of_getElem? (i := 2) rfl)) (hw _ (List.mem_of_getElem? (i := 19) rfl)) (hw _ (List.mem_of_getElem? (i := 2) rfl))
  obtain ⟨n, o, h1, h2, h3, _, L, rfl, ⟨rfl, N⟩, hcr, hq⟩ := rm0 l s _ hw tables_1 i0 i1 i2 i3 zc w_ADMIN w_USER s.heap s.heap.size (Old.start s) hEL wS S_COMPACT hcs S_ADMIN S_USER (O_ADMIN.ne O_USER (by simp)) p e ha hc hk s m _ below hf ((Spec.applies_iff_loose hf).mp happ).1 ⟨rfl, State.Warmed39.refl s, rfl, HH, fun _ q => nomatch q⟩ trivial
  refine ⟨n, _, h1, h2, h3, hpost _ _ _ _ _ _ ⟨Cond.after_iff.mpr rfl, Cond.after_iff.mpr (eq_i res_at (Term.int_eval (1)) rfl), trivial⟩ ⟨hq.1, hq.2.1, hq.2.2.1, (hq.2.2.2.sift fun y hy => Or.inr (N y hy)).mono (by decide) (by decide)⟩⟩
theorem main_1_1 : Claimed_1_1 := comes_1 fun _ _ _ _ _ _ h hF => ⟨h.1, hF⟩
theorem main_1_2 : Claimed_1_2 := comes_1 fun _ _ _ _ _ _ h hF => ⟨h.2.1, hF⟩
end Jvm.Pilot.@@N@@
namespace Jvm.Pilot.@@N@@
open Jvm Jvm.ClassFile Sem Op Lib Jvm.Free Jvm.Stand Jvm.Pilot.@@N@@.Jvm.D
/-! MADE BY PROGRAM (witnessworld.py) out of the Statement's table words and the real class files: 24 classes; the members and pool entries that the words name. The judged class is class 1, her method 1. -/
namespace start1
open Jvm.ClassFile
def u (s : String) : CpInfo := .utf8 (stringToUtf16 s)
/-- a pool by its gaps: so many unusable entries, then the entry; so many at the end -/
def gap : Nat → List CpInfo → List CpInfo
  | 0, r => r
  | n + 1, r => .unusable :: gap n r
def poolList (es : List (Nat × CpInfo)) (last : Nat) : List CpInfo := es.foldr (fun e r => gap e.1 (e.2 :: r)) (gap last [])
def pool (es : List (Nat × CpInfo)) (last : Nat) : Array CpInfo := ⟨poolList es last⟩
def fileOf (pool : Array CpInfo) (this : Nat) (attrs : Array Attribute := #[]) (ms : Array MethodInfo := #[]) (fl : Nat := 33) (sup : Nat := 0) (ifs : Array Nat := #[]) (fds : Array FieldInfo := #[]) : ClassFile where
  minorVersion := 0
  majorVersion := 65
  constantPool := pool
  accessFlags := fl
  thisClass := this
  superClass := sup
  interfaces := ifs
  fields := fds
  methods := ms
  attributes := attrs
def plain (name : String) (sup : Option ClassId) : Class where
  name := name
  kind := .ordinary
  loader := none
  accessFlags := 33
  super := sup
  interfaces := #[]
  cf := none
  fields := #[]
  methods := #[]
  instanceTypes := #[]
  staticTypes := #[]
  resolved := #[]
  callSites := []
  init := .initialized
  statics := none
  mirror := none

def pool0 : Array CpInfo := pool [(5, u "<init>"), (0, u "()V"), (1, .class_ 10), (1, u "java/lang/Object")] 113

def k0c0 : Code := { maxStack := 0, maxLocals := 1, code := object_method_1_code, exceptionTable := #[], attributes := #[] }
def k0m0 : Method := { name := "<init>", desc := "()V", sig := { parameters := [], returnType := none }, accessFlags := 1, code := some k0c0 }
/-- java/lang/Object -/
def k0 : Class := { plain "java/lang/Object" none with
  accessFlags := 33
  interfaces := #[]
  cf := some (fileOf pool0 8 #[] #[{ accessFlags := 1, nameIndex := 5, descriptorIndex := 6, attributes := #[] }] 33 0 #[] #[])
  fields := #[]
  methods := #[k0m0]
  instanceTypes := #[]
  staticTypes := #[]
  resolved := Array.replicate 124 none
  statics := none }

def pool1 : Array CpInfo := pool [(2, .class_ 4), (1, u "java/lang/Object"), (0, u "<init>"), (0, u "()V"), (0, .class_ 8), (0, u "java/lang/String"), (0, .methodref 7 10), (0, .nameAndType 5 11), (0, u "([C)V"), (0, .fieldref 13 14), (0, .class_ 15), (0, .nameAndType 16 17), (0, u "com/example/wellness_on_record/wellnessonrecord/apps/App$Kind"), (0, u "USER"), (0, u "Lcom/example/wellness_on_record/wellnessonrecord/apps/App$Kind;"), (0, .fieldref 13 19), (0, .nameAndType 20 17), (0, u "ADMIN"), (0, .class_ 22), (0, u "com/example/wellness_on_record/wellnessonrecord/apps/App"), (0, .string 24), (0, u "id"), (0, .string 26), (0, u "name"), (0, .string 28), (0, u "key"), (0, .string 30), (0, u "secret"), (0, .methodref 21 32), (0, .nameAndType 5 33), (0, u "(Ljava/lang/String;Ljava/lang/String;Lcom/example/wellness_on_record/wellnessonrecord/apps/App$Kind;Ljava/lang/String;Ljava/lang/String;ZLjava/lang/String;ZLjava/lang/String;Ljava/lang/String;Z)V"), (0, .class_ 35), (0, u "com/example/wellness_on_record/wellnessonrecord/oauth/Principal"), (0, .methodref 34 37), (0, .nameAndType 5 38), (0, u "(Lcom/example/wellness_on_record/wellnessonrecord/apps/App;Ljava/lang/String;Ljava/lang/String;)V"), (0, .methodref 34 40), (0, .nameAndType 41 42), (0, u "holdsRequestToken"), (0, u "()Z"), (0, .methodref 34 44), (0, .nameAndType 45 42), (0, u "isUserAppAlone"), (0, .class_ 47), (0, u "com/example/wellness_on_record/wellnessonrecord/oauth/PrincipalHoldsRequestTokenPinLaw"), (2, u "law"), (0, u "(IIII)Z")] 7

def k1m0 : Method := { name := "<init>", desc := "()V", sig := { parameters := [], returnType := none }, accessFlags := 1, code := none }
def k1c1 : Code := { maxStack := 13, maxLocals := 19, code := code, exceptionTable := #[], attributes := #[] }
def k1m1 : Method := { name := "law", desc := "(IIII)Z", sig := { parameters := [.int, .int, .int, .int], returnType := some .boolean }, accessFlags := 9, code := some k1c1 }
/-- com/example/wellness_on_record/wellnessonrecord/oauth/PrincipalHoldsRequestTokenPinLaw -/
def k1 : Class := { plain "com/example/wellness_on_record/wellnessonrecord/oauth/PrincipalHoldsRequestTokenPinLaw" (some 0) with
  accessFlags := 49
  interfaces := #[]
  cf := some (fileOf pool1 46 #[] #[{ accessFlags := 1, nameIndex := 5, descriptorIndex := 6, attributes := #[] }, { accessFlags := 9, nameIndex := 50, descriptorIndex := 51, attributes := #[] }] 49 2 #[] #[])
  fields := #[]
  methods := #[k1m0, k1m1]
  instanceTypes := #[]
  staticTypes := #[]
  resolved := Array.replicate 59 none
  statics := none }

def pool2 : Array CpInfo := pool [(1, .class_ 2), (0, u "java/io/Serializable"), (0, .class_ 4), (0, u "java/lang/Object")] 2

/-- java/io/Serializable -/
def k2 : Class := { plain "java/io/Serializable" (some 0) with
  accessFlags := 1537
  interfaces := #[]
  cf := some (fileOf pool2 1 #[] #[] 1537 3 #[] #[])
  fields := #[]
  methods := #[]
  instanceTypes := #[]
  staticTypes := #[]
  resolved := Array.replicate 7 none
  statics := none }

def pool3 : Array CpInfo := pool [(1, .class_ 2), (0, u "java/lang/Comparable"), (0, .class_ 4), (0, u "java/lang/Object")] 7

/-- java/lang/Comparable -/
def k3 : Class := { plain "java/lang/Comparable" (some 0) with
  accessFlags := 1537
  interfaces := #[]
  cf := some (fileOf pool3 1 #[] #[] 1537 3 #[] #[])
  fields := #[]
  methods := #[]
  instanceTypes := #[]
  staticTypes := #[]
  resolved := Array.replicate 12 none
  statics := none }

def pool4 : Array CpInfo := pool [(2, .class_ 4), (1, u "java/lang/CharSequence"), (42, .class_ 48), (0, u "java/lang/CharSequence$1CodePointIterator"), (10, .class_ 60), (0, u "java/lang/CharSequence$1CharIterator"), (5, .class_ 67), (0, u "java/lang/Object")] 63

/-- java/lang/CharSequence -/
def k4 : Class := { plain "java/lang/CharSequence" (some 0) with
  accessFlags := 1537
  interfaces := #[]
  cf := some (fileOf pool4 2 #[.nestMembers #[47, 59]] #[] 1537 66 #[] #[])
  fields := #[]
  methods := #[]
  instanceTypes := #[]
  staticTypes := #[]
  resolved := Array.replicate 131 none
  statics := none }

def pool5 : Array CpInfo := pool [(1, .class_ 2), (0, u "java/lang/constant/Constable"), (0, .class_ 4), (0, u "java/lang/Object")] 6

/-- java/lang/constant/Constable -/
def k5 : Class := { plain "java/lang/constant/Constable" (some 0) with
  accessFlags := 1537
  interfaces := #[]
  cf := some (fileOf pool5 1 #[] #[] 1537 3 #[] #[])
  fields := #[]
  methods := #[]
  instanceTypes := #[]
  staticTypes := #[]
  resolved := Array.replicate 11 none
  statics := none }

def pool6 : Array CpInfo := pool [(1, .class_ 2), (0, u "java/lang/constant/ConstantDesc"), (0, .class_ 4), (0, u "java/lang/Object")] 32

/-- java/lang/constant/ConstantDesc -/
def k6 : Class := { plain "java/lang/constant/ConstantDesc" (some 0) with
  accessFlags := 1537
  interfaces := #[]
  cf := some (fileOf pool6 1 #[] #[] 1537 3 #[] #[])
  fields := #[]
  methods := #[]
  instanceTypes := #[]
  staticTypes := #[]
  resolved := Array.replicate 37 none
  statics := none }

def pool7 : Array CpInfo := pool [(1, .methodref 2 3), (0, .class_ 4), (0, .nameAndType 5 6), (0, u "java/lang/Object"), (0, u "<init>"), (0, u "()V"), (0, .string 8), (0, u ""), (0, .fieldref 10 11), (0, .class_ 12), (0, .nameAndType 13 14), (0, u "java/lang/String"), (0, u "value"), (0, u "[B"), (0, .fieldref 10 16), (0, .nameAndType 17 18), (0, u "coder"), (0, u "B"), (2, u "hash"), (0, u "I"), (2, u "hashIsZero"), (0, u "Z"), (0, .methodref 10 28), (0, .nameAndType 5 29), (0, u "([CIILjava/lang/Void;)V"), (8, .fieldref 10 39), (0, .nameAndType 40 26), (0, u "COMPACT_STRINGS"), (1, .class_ 44), (1, u "java/lang/StringUTF16"), (0, u "compress"), (1, .methodref 42 48), (0, .nameAndType 49 50), (0, u "coderFromArrayLen"), (0, u "([BI)B"), (126, .methodref 42 178), (0, .nameAndType 45 179), (0, u "([CII)[B"), (395, .class_ 576), (0, u "java/lang/CharSequence"), (22, u "CASE_INSENSITIVE_ORDER"), (0, u "Ljava/util/Comparator;"), (409, u "([C)V"), (90, u "serialPersistentFields"), (0, u "[Ljava/io/ObjectStreamField;"), (0, .class_ 1104), (0, u "java/lang/String$CaseInsensitiveComparator"), (1, .class_ 1107), (0, u "java/io/Serializable"), (0, .class_ 1109), (0, u "java/lang/Comparable"), (0, .class_ 1111), (0, u "java/lang/constant/Constable"), (0, .class_ 1113), (0, u "java/lang/constant/ConstantDesc"), (2, u "serialVersionUID"), (0, u "J"), (3, u "REPL"), (0, u "C"), (2, u "LATIN1"), (1, u "UTF16")] 323

def k7m0 : Method := { name := "<init>", desc := "()V", sig := { parameters := [], returnType := none }, accessFlags := 1, code := none }
def k7c1 : Code := { maxStack := 5, maxLocals := 2, code := jdk_42_method_3_code, exceptionTable := #[], attributes := #[] }
def k7m1 : Method := { name := "<init>", desc := "([C)V", sig := { parameters := [(.array .char)], returnType := none }, accessFlags := 1, code := some k7c1 }
def k7c2 : Code := { maxStack := 4, maxLocals := 6, code := jdk_42_method_149_code, exceptionTable := #[], attributes := #[] }
def k7m2 : Method := { name := "<init>", desc := "([CIILjava/lang/Void;)V", sig := { parameters := [(.array .char), .int, .int, (.object "java/lang/Void")], returnType := none }, accessFlags := 2, code := some k7c2 }
/-- java/lang/String -/
def k7 : Class := { plain "java/lang/String" (some 0) with
  accessFlags := 49
  interfaces := #[2, 3, 4, 5, 6]
  cf := some (fileOf pool7 10 #[.nestMembers #[1103]] #[{ accessFlags := 1, nameIndex := 5, descriptorIndex := 6, attributes := #[] }, { accessFlags := 1, nameIndex := 5, descriptorIndex := 1010, attributes := #[] }, { accessFlags := 2, nameIndex := 5, descriptorIndex := 29, attributes := #[] }] 49 2 #[1106, 1108, 575, 1110, 1112] #[{ accessFlags := 18, nameIndex := 13, descriptorIndex := 14, attributes := #[] }, { accessFlags := 18, nameIndex := 17, descriptorIndex := 18, attributes := #[] }, { accessFlags := 2, nameIndex := 21, descriptorIndex := 22, attributes := #[] }, { accessFlags := 2, nameIndex := 25, descriptorIndex := 26, attributes := #[] }, { accessFlags := 26, nameIndex := 1116, descriptorIndex := 1117, attributes := #[] }, { accessFlags := 24, nameIndex := 40, descriptorIndex := 26, attributes := #[] }, { accessFlags := 26, nameIndex := 1101, descriptorIndex := 1102, attributes := #[] }, { accessFlags := 26, nameIndex := 1121, descriptorIndex := 1122, attributes := #[] }, { accessFlags := 25, nameIndex := 599, descriptorIndex := 600, attributes := #[] }, { accessFlags := 24, nameIndex := 1125, descriptorIndex := 18, attributes := #[] }, { accessFlags := 24, nameIndex := 1127, descriptorIndex := 18, attributes := #[] }])
  fields := #[{ name := "value", type := (.array .byte), accessFlags := 18, slot := 0, constantValue := 0 }, { name := "coder", type := .byte, accessFlags := 18, slot := 1, constantValue := 0 }, { name := "hash", type := .int, accessFlags := 2, slot := 2, constantValue := 0 }, { name := "hashIsZero", type := .boolean, accessFlags := 2, slot := 3, constantValue := 0 }, { name := "serialVersionUID", type := .long, accessFlags := 26, slot := 0, constantValue := 0 }, { name := "COMPACT_STRINGS", type := .boolean, accessFlags := 24, slot := 1, constantValue := 0 }, { name := "serialPersistentFields", type := (.array (.object "java/io/ObjectStreamField")), accessFlags := 26, slot := 2, constantValue := 0 }, { name := "REPL", type := .char, accessFlags := 26, slot := 3, constantValue := 0 }, { name := "CASE_INSENSITIVE_ORDER", type := (.object "java/util/Comparator"), accessFlags := 25, slot := 4, constantValue := 0 }, { name := "LATIN1", type := .byte, accessFlags := 24, slot := 5, constantValue := 0 }, { name := "UTF16", type := .byte, accessFlags := 24, slot := 6, constantValue := 0 }]
  methods := #[k7m0, k7m1, k7m2]
  instanceTypes := #[(.array .byte), .byte, .int, .boolean]
  staticTypes := #[.long, .boolean, (.array (.object "java/io/ObjectStreamField")), .char, (.object "java/util/Comparator"), .byte, .byte]
  resolved := Array.replicate 1451 none
  statics := some 0 }

def pool8 : Array CpInfo := pool [(6, .class_ 8), (1, u "java/lang/Object"), (0, u "<init>"), (0, u "()V"), (1, .class_ 14), (1, u "java/lang/StringUTF16"), (31, u "$assertionsDisabled"), (0, u "Z"), (13, u "HI_BYTE_SHIFT"), (0, u "I"), (2, u "LO_BYTE_SHIFT"), (49, .methodref 12 116), (0, .nameAndType 117 118), (0, u "compress"), (0, u "([CI[BII)I"), (3, u "([CII)[B"), (138, u "coderFromArrayLen"), (0, u "([BI)B"), (106, .class_ 371), (1, u "java/lang/StringUTF16$LinesSpliterator"), (58, u "MAX_LENGTH"), (196, .class_ 628), (0, u "java/lang/StringUTF16$CodePointsSpliterator"), (0, .class_ 630), (0, u "java/lang/StringUTF16$CharsSpliterator")] 4

def k8m0 : Method := { name := "<init>", desc := "()V", sig := { parameters := [], returnType := none }, accessFlags := 0, code := none }
def k8c1 : Code := { maxStack := 2, maxLocals := 2, code := jdk_52_method_15_code, exceptionTable := #[], attributes := #[] }
def k8m1 : Method := { name := "coderFromArrayLen", desc := "([BI)B", sig := { parameters := [(.array .byte), .int], returnType := some .byte }, accessFlags := 8, code := some k8c1 }
def k8c2 : Code := { maxStack := 5, maxLocals := 6, code := jdk_52_method_16_code, exceptionTable := #[], attributes := #[] }
def k8m2 : Method := { name := "compress", desc := "([CII)[B", sig := { parameters := [(.array .char), .int, .int], returnType := some (.array .byte) }, accessFlags := 9, code := some k8c2 }
def k8c3 : Code := { maxStack := 3, maxLocals := 7, code := jdk_52_method_21_code, exceptionTable := #[], attributes := #[] }
def k8m3 : Method := { name := "compress", desc := "([CI[BII)I", sig := { parameters := [(.array .char), .int, (.array .byte), .int, .int], returnType := some .int }, accessFlags := 9, code := some k8c3 }
/-- java/lang/StringUTF16 -/
def k8 : Class := { plain "java/lang/StringUTF16" (some 0) with
  accessFlags := 48
  interfaces := #[]
  cf := some (fileOf pool8 12 #[.nestMembers #[627, 629, 369]] #[{ accessFlags := 0, nameIndex := 9, descriptorIndex := 10, attributes := #[] }, { accessFlags := 8, nameIndex := 261, descriptorIndex := 262, attributes := #[] }, { accessFlags := 9, nameIndex := 117, descriptorIndex := 122, attributes := #[] }, { accessFlags := 9, nameIndex := 117, descriptorIndex := 118, attributes := #[] }] 48 6 #[] #[{ accessFlags := 26, nameIndex := 61, descriptorIndex := 62, attributes := #[] }, { accessFlags := 26, nameIndex := 65, descriptorIndex := 62, attributes := #[] }, { accessFlags := 24, nameIndex := 430, descriptorIndex := 62, attributes := #[] }, { accessFlags := 4120, nameIndex := 46, descriptorIndex := 47, attributes := #[] }])
  fields := #[{ name := "HI_BYTE_SHIFT", type := .int, accessFlags := 26, slot := 0, constantValue := 0 }, { name := "LO_BYTE_SHIFT", type := .int, accessFlags := 26, slot := 1, constantValue := 0 }, { name := "MAX_LENGTH", type := .int, accessFlags := 24, slot := 2, constantValue := 0 }, { name := "$assertionsDisabled", type := .boolean, accessFlags := 4120, slot := 3, constantValue := 0 }]
  methods := #[k8m0, k8m1, k8m2, k8m3]
  instanceTypes := #[]
  staticTypes := #[.int, .int, .int, .boolean]
  resolved := Array.replicate 635 none
  statics := none }

def pool9 : Array CpInfo := pool [(2, .class_ 4), (1, u "java/lang/Enum"), (0, u "name"), (0, u "Ljava/lang/String;"), (2, u "ordinal"), (0, u "I"), (1, .class_ 14), (1, u "java/lang/Object"), (4, u "hash"), (86, .class_ 108), (1, u "java/lang/Enum$EnumDesc"), (2, .class_ 112), (0, u "java/lang/constant/Constable"), (0, .class_ 114), (0, u "java/lang/Comparable"), (0, .class_ 116), (0, u "java/io/Serializable")] 87

/-- java/lang/Enum -/
def k9 : Class := { plain "java/lang/Enum" (some 0) with
  accessFlags := 1057
  interfaces := #[5, 3, 2]
  cf := some (fileOf pool9 2 #[.nestMembers #[106]] #[] 1057 12 #[111, 113, 115] #[{ accessFlags := 18, nameIndex := 5, descriptorIndex := 6, attributes := #[] }, { accessFlags := 18, nameIndex := 9, descriptorIndex := 10, attributes := #[] }, { accessFlags := 2, nameIndex := 19, descriptorIndex := 10, attributes := #[] }])
  fields := #[{ name := "name", type := (.object "java/lang/String"), accessFlags := 18, slot := 0, constantValue := 0 }, { name := "ordinal", type := .int, accessFlags := 18, slot := 1, constantValue := 0 }, { name := "hash", type := .int, accessFlags := 2, slot := 2, constantValue := 0 }]
  methods := #[]
  instanceTypes := #[(.object "java/lang/String"), .int, .int]
  staticTypes := #[]
  resolved := Array.replicate 204 none
  statics := none }

def pool10 : Array CpInfo := pool [(1, .class_ 2), (0, u "com/example/wellness_on_record/wellnessonrecord/apps/App$Kind"), (2, u "ADMIN"), (0, u "Lcom/example/wellness_on_record/wellnessonrecord/apps/App$Kind;"), (2, u "USER"), (2, u "$VALUES"), (0, u "[Lcom/example/wellness_on_record/wellnessonrecord/apps/App$Kind;"), (6, .class_ 22), (1, u "java/lang/Enum"), (8, u "fileName"), (0, u "Ljava/lang/String;"), (27, .class_ 61), (0, u "com/example/wellness_on_record/wellnessonrecord/apps/App")] 2

/-- com/example/wellness_on_record/wellnessonrecord/apps/App$Kind -/
def k10 : Class := { plain "com/example/wellness_on_record/wellnessonrecord/apps/App$Kind" (some 9) with
  accessFlags := 16433
  interfaces := #[]
  cf := some (fileOf pool10 1 #[.nestHost 60] #[] 16433 20 #[] #[{ accessFlags := 16409, nameIndex := 5, descriptorIndex := 6, attributes := #[] }, { accessFlags := 16409, nameIndex := 9, descriptorIndex := 6, attributes := #[] }, { accessFlags := 18, nameIndex := 31, descriptorIndex := 32, attributes := #[] }, { accessFlags := 4122, nameIndex := 12, descriptorIndex := 13, attributes := #[] }])
  fields := #[{ name := "ADMIN", type := (.object "com/example/wellness_on_record/wellnessonrecord/apps/App$Kind"), accessFlags := 16409, slot := 0, constantValue := 0 }, { name := "USER", type := (.object "com/example/wellness_on_record/wellnessonrecord/apps/App$Kind"), accessFlags := 16409, slot := 1, constantValue := 0 }, { name := "fileName", type := (.object "java/lang/String"), accessFlags := 18, slot := 3, constantValue := 0 }, { name := "$VALUES", type := (.array (.object "com/example/wellness_on_record/wellnessonrecord/apps/App$Kind")), accessFlags := 4122, slot := 2, constantValue := 0 }]
  methods := #[]
  instanceTypes := #[(.object "java/lang/String"), .int, .int, (.object "java/lang/String")]
  staticTypes := #[(.object "com/example/wellness_on_record/wellnessonrecord/apps/App$Kind"), (.object "com/example/wellness_on_record/wellnessonrecord/apps/App$Kind"), (.array (.object "com/example/wellness_on_record/wellnessonrecord/apps/App$Kind"))]
  resolved := Array.replicate 64 none
  statics := some 1 }

def pool11 : Array CpInfo := pool [(1, .methodref 2 3), (0, .class_ 4), (0, .nameAndType 5 6), (0, u "java/lang/Object"), (0, u "<init>"), (0, u "()V"), (0, .class_ 8), (0, u "java/lang/Record")] 13

def k11c0 : Code := { maxStack := 1, maxLocals := 1, code := jdk_30_method_1_code, exceptionTable := #[], attributes := #[] }
def k11m0 : Method := { name := "<init>", desc := "()V", sig := { parameters := [], returnType := none }, accessFlags := 4, code := some k11c0 }
/-- java/lang/Record -/
def k11 : Class := { plain "java/lang/Record" (some 0) with
  accessFlags := 1057
  interfaces := #[]
  cf := some (fileOf pool11 7 #[] #[{ accessFlags := 4, nameIndex := 5, descriptorIndex := 6, attributes := #[] }] 1057 2 #[] #[])
  fields := #[]
  methods := #[k11m0]
  instanceTypes := #[]
  staticTypes := #[]
  resolved := Array.replicate 22 none
  statics := none }

def pool12 : Array CpInfo := pool [(1, .methodref 2 3), (0, .class_ 4), (0, .nameAndType 5 6), (0, u "java/lang/Record"), (0, u "<init>"), (0, u "()V"), (0, .fieldref 8 9), (0, .class_ 10), (0, .nameAndType 11 12), (0, u "com/example/wellness_on_record/wellnessonrecord/apps/App"), (0, u "id"), (0, u "Ljava/lang/String;"), (0, .fieldref 8 14), (0, .nameAndType 15 12), (0, u "name"), (0, .fieldref 8 17), (0, .nameAndType 18 19), (0, u "kind"), (0, u "Lcom/example/wellness_on_record/wellnessonrecord/apps/App$Kind;"), (0, .fieldref 8 21), (0, .nameAndType 22 12), (0, u "consumerKey"), (0, .fieldref 8 24), (0, .nameAndType 25 12), (0, u "consumerSecret"), (0, .fieldref 8 27), (0, .nameAndType 28 29), (0, u "autonomous"), (0, u "Z"), (0, .fieldref 8 31), (0, .nameAndType 32 12), (0, u "autonomousReason"), (0, .fieldref 8 34), (0, .nameAndType 35 29), (0, u "hasUi"), (0, .fieldref 8 37), (0, .nameAndType 38 12), (0, u "callbackUrl"), (0, .fieldref 8 40), (0, .nameAndType 41 12), (0, u "startUrlTemplate"), (0, .fieldref 8 43), (0, .nameAndType 44 29), (0, u "frameable"), (1, .class_ 48), (1, u "com/example/wellness_on_record/wellnessonrecord/apps/App$Kind"), (14, u "(Ljava/lang/String;Ljava/lang/String;Lcom/example/wellness_on_record/wellnessonrecord/apps/App$Kind;Ljava/lang/String;Ljava/lang/String;ZLjava/lang/String;ZLjava/lang/String;Ljava/lang/String;Z)V"), (6, u "()Lcom/example/wellness_on_record/wellnessonrecord/apps/App$Kind;")] 41

def k12c0 : Code := { maxStack := 2, maxLocals := 12, code := prog_13_method_1_code, exceptionTable := #[], attributes := #[] }
def k12m0 : Method := { name := "<init>", desc := "(Ljava/lang/String;Ljava/lang/String;Lcom/example/wellness_on_record/wellnessonrecord/apps/App$Kind;Ljava/lang/String;Ljava/lang/String;ZLjava/lang/String;ZLjava/lang/String;Ljava/lang/String;Z)V", sig := { parameters := [(.object "java/lang/String"), (.object "java/lang/String"), (.object "com/example/wellness_on_record/wellnessonrecord/apps/App$Kind"), (.object "java/lang/String"), (.object "java/lang/String"), .boolean, (.object "java/lang/String"), .boolean, (.object "java/lang/String"), (.object "java/lang/String"), .boolean], returnType := none }, accessFlags := 1, code := some k12c0 }
def k12c1 : Code := { maxStack := 1, maxLocals := 1, code := prog_13_method_7_code, exceptionTable := #[], attributes := #[] }
def k12m1 : Method := { name := "kind", desc := "()Lcom/example/wellness_on_record/wellnessonrecord/apps/App$Kind;", sig := { parameters := [], returnType := some (.object "com/example/wellness_on_record/wellnessonrecord/apps/App$Kind") }, accessFlags := 1, code := some k12c1 }
/-- com/example/wellness_on_record/wellnessonrecord/apps/App -/
def k12 : Class := { plain "com/example/wellness_on_record/wellnessonrecord/apps/App" (some 11) with
  accessFlags := 49
  interfaces := #[]
  cf := some (fileOf pool12 8 #[.nestMembers #[46]] #[{ accessFlags := 1, nameIndex := 5, descriptorIndex := 63, attributes := #[] }, { accessFlags := 1, nameIndex := 18, descriptorIndex := 70, attributes := #[] }] 49 2 #[] #[{ accessFlags := 18, nameIndex := 11, descriptorIndex := 12, attributes := #[] }, { accessFlags := 18, nameIndex := 15, descriptorIndex := 12, attributes := #[] }, { accessFlags := 18, nameIndex := 18, descriptorIndex := 19, attributes := #[] }, { accessFlags := 18, nameIndex := 22, descriptorIndex := 12, attributes := #[] }, { accessFlags := 18, nameIndex := 25, descriptorIndex := 12, attributes := #[] }, { accessFlags := 18, nameIndex := 28, descriptorIndex := 29, attributes := #[] }, { accessFlags := 18, nameIndex := 32, descriptorIndex := 12, attributes := #[] }, { accessFlags := 18, nameIndex := 35, descriptorIndex := 29, attributes := #[] }, { accessFlags := 18, nameIndex := 38, descriptorIndex := 12, attributes := #[] }, { accessFlags := 18, nameIndex := 41, descriptorIndex := 12, attributes := #[] }, { accessFlags := 18, nameIndex := 44, descriptorIndex := 29, attributes := #[] }])
  fields := #[{ name := "id", type := (.object "java/lang/String"), accessFlags := 18, slot := 0, constantValue := 0 }, { name := "name", type := (.object "java/lang/String"), accessFlags := 18, slot := 1, constantValue := 0 }, { name := "kind", type := (.object "com/example/wellness_on_record/wellnessonrecord/apps/App$Kind"), accessFlags := 18, slot := 2, constantValue := 0 }, { name := "consumerKey", type := (.object "java/lang/String"), accessFlags := 18, slot := 3, constantValue := 0 }, { name := "consumerSecret", type := (.object "java/lang/String"), accessFlags := 18, slot := 4, constantValue := 0 }, { name := "autonomous", type := .boolean, accessFlags := 18, slot := 5, constantValue := 0 }, { name := "autonomousReason", type := (.object "java/lang/String"), accessFlags := 18, slot := 6, constantValue := 0 }, { name := "hasUi", type := .boolean, accessFlags := 18, slot := 7, constantValue := 0 }, { name := "callbackUrl", type := (.object "java/lang/String"), accessFlags := 18, slot := 8, constantValue := 0 }, { name := "startUrlTemplate", type := (.object "java/lang/String"), accessFlags := 18, slot := 9, constantValue := 0 }, { name := "frameable", type := .boolean, accessFlags := 18, slot := 10, constantValue := 0 }]
  methods := #[k12m0, k12m1]
  instanceTypes := #[(.object "java/lang/String"), (.object "java/lang/String"), (.object "com/example/wellness_on_record/wellnessonrecord/apps/App$Kind"), (.object "java/lang/String"), (.object "java/lang/String"), .boolean, (.object "java/lang/String"), .boolean, (.object "java/lang/String"), (.object "java/lang/String"), .boolean]
  staticTypes := #[]
  resolved := Array.replicate 112 none
  statics := none }

def pool13 : Array CpInfo := pool [(1, .methodref 2 3), (0, .class_ 4), (0, .nameAndType 5 6), (0, u "java/lang/Record"), (0, u "<init>"), (0, u "()V"), (0, .fieldref 8 9), (0, .class_ 10), (0, .nameAndType 11 12), (0, u "com/example/wellness_on_record/wellnessonrecord/oauth/Principal"), (0, u "app"), (0, u "Lcom/example/wellness_on_record/wellnessonrecord/apps/App;"), (0, .fieldref 8 14), (0, .nameAndType 15 16), (0, u "recordId"), (0, u "Ljava/lang/String;"), (0, .fieldref 8 18), (0, .nameAndType 19 16), (0, u "requestToken"), (0, .methodref 21 22), (0, .class_ 23), (0, .nameAndType 24 25), (0, u "com/example/wellness_on_record/wellnessonrecord/apps/App"), (0, u "kind"), (0, u "()Lcom/example/wellness_on_record/wellnessonrecord/apps/App$Kind;"), (1, .class_ 29), (1, u "com/example/wellness_on_record/wellnessonrecord/apps/App$Kind"), (1, u "Lcom/example/wellness_on_record/wellnessonrecord/apps/App$Kind;"), (0, .methodref 8 33), (0, .nameAndType 34 35), (0, u "isAlone"), (0, u "()Z"), (10, .fieldref 27 47), (0, .nameAndType 48 31), (0, u "USER"), (11, u "(Lcom/example/wellness_on_record/wellnessonrecord/apps/App;Ljava/lang/String;Ljava/lang/String;)V"), (7, u "isUserAppAlone"), (1, u "holdsRequestToken")] 25

def k13c0 : Code := { maxStack := 2, maxLocals := 4, code := prog_39_method_1_code, exceptionTable := #[], attributes := #[] }
def k13m0 : Method := { name := "<init>", desc := "(Lcom/example/wellness_on_record/wellnessonrecord/apps/App;Ljava/lang/String;Ljava/lang/String;)V", sig := { parameters := [(.object "com/example/wellness_on_record/wellnessonrecord/apps/App"), (.object "java/lang/String"), (.object "java/lang/String")], returnType := none }, accessFlags := 1, code := some k13c0 }
def k13c1 : Code := { maxStack := 2, maxLocals := 1, code := prog_39_method_4_code, exceptionTable := #[], attributes := #[] }
def k13m1 : Method := { name := "isUserAppAlone", desc := "()Z", sig := { parameters := [], returnType := some .boolean }, accessFlags := 1, code := some k13c1 }
def k13c2 : Code := { maxStack := 1, maxLocals := 1, code := prog_39_method_6_code, exceptionTable := #[], attributes := #[] }
def k13m2 : Method := { name := "holdsRequestToken", desc := "()Z", sig := { parameters := [], returnType := some .boolean }, accessFlags := 1, code := some k13c2 }
def k13c3 : Code := { maxStack := 1, maxLocals := 1, code := prog_39_method_7_code, exceptionTable := #[], attributes := #[] }
def k13m3 : Method := { name := "isAlone", desc := "()Z", sig := { parameters := [], returnType := some .boolean }, accessFlags := 2, code := some k13c3 }
/-- com/example/wellness_on_record/wellnessonrecord/oauth/Principal -/
def k13 : Class := { plain "com/example/wellness_on_record/wellnessonrecord/oauth/Principal" (some 11) with
  accessFlags := 49
  interfaces := #[]
  cf := some (fileOf pool13 8 #[] #[{ accessFlags := 1, nameIndex := 5, descriptorIndex := 60, attributes := #[] }, { accessFlags := 1, nameIndex := 68, descriptorIndex := 35, attributes := #[] }, { accessFlags := 1, nameIndex := 70, descriptorIndex := 35, attributes := #[] }, { accessFlags := 2, nameIndex := 34, descriptorIndex := 35, attributes := #[] }] 49 2 #[] #[{ accessFlags := 18, nameIndex := 11, descriptorIndex := 12, attributes := #[] }, { accessFlags := 18, nameIndex := 15, descriptorIndex := 16, attributes := #[] }, { accessFlags := 18, nameIndex := 19, descriptorIndex := 16, attributes := #[] }])
  fields := #[{ name := "app", type := (.object "com/example/wellness_on_record/wellnessonrecord/apps/App"), accessFlags := 18, slot := 0, constantValue := 0 }, { name := "recordId", type := (.object "java/lang/String"), accessFlags := 18, slot := 1, constantValue := 0 }, { name := "requestToken", type := (.object "java/lang/String"), accessFlags := 18, slot := 2, constantValue := 0 }]
  methods := #[k13m0, k13m1, k13m2, k13m3]
  instanceTypes := #[(.object "com/example/wellness_on_record/wellnessonrecord/apps/App"), (.object "java/lang/String"), (.object "java/lang/String")]
  staticTypes := #[]
  resolved := Array.replicate 96 none
  statics := none }

def pool14 : Array CpInfo := pool [(4, .class_ 6), (1, u "java/lang/Object"), (0, u "<init>"), (0, u "()V"), (5, .class_ 16), (1, u "java/lang/StringLatin1"), (104, u "$assertionsDisabled"), (0, u "Z"), (98, .class_ 223), (1, u "java/lang/StringLatin1$LinesSpliterator"), (166, .class_ 391), (0, u "java/lang/StringLatin1$CharsSpliterator")] 3

def k14m0 : Method := { name := "<init>", desc := "()V", sig := { parameters := [], returnType := none }, accessFlags := 0, code := none }
/-- java/lang/StringLatin1 -/
def k14 : Class := { plain "java/lang/StringLatin1" (some 0) with
  accessFlags := 48
  interfaces := #[]
  cf := some (fileOf pool14 14 #[.nestMembers #[390, 221]] #[{ accessFlags := 0, nameIndex := 7, descriptorIndex := 8, attributes := #[] }] 48 4 #[] #[{ accessFlags := 4120, nameIndex := 121, descriptorIndex := 122, attributes := #[] }])
  fields := #[{ name := "$assertionsDisabled", type := .boolean, accessFlags := 4120, slot := 0, constantValue := 0 }]
  methods := #[k14m0]
  instanceTypes := #[]
  staticTypes := #[.boolean]
  resolved := Array.replicate 395 none
  statics := none }

def pool15 : Array CpInfo := pool [(2, .class_ 4), (1, u "java/lang/Object"), (0, u "<init>"), (0, u "()V"), (17, .class_ 26), (1, u "jdk/internal/util/Preconditions"), (28, .class_ 56), (0, u "jdk/internal/util/Preconditions$4"), (57, .class_ 115), (0, u "jdk/internal/util/Preconditions$1"), (7, u "SIOOBE_FORMATTER"), (0, u "Ljava/util/function/BiFunction;"), (0, .class_ 126), (0, u "jdk/internal/util/Preconditions$2"), (3, u "AIOOBE_FORMATTER"), (0, .class_ 132), (0, u "jdk/internal/util/Preconditions$3"), (3, u "IOOBE_FORMATTER")] 57

def k15m0 : Method := { name := "<init>", desc := "()V", sig := { parameters := [], returnType := none }, accessFlags := 1, code := none }
/-- jdk/internal/util/Preconditions -/
def k15 : Class := { plain "jdk/internal/util/Preconditions" (some 0) with
  accessFlags := 33
  interfaces := #[]
  cf := some (fileOf pool15 24 #[.nestMembers #[55, 131, 125, 114]] #[{ accessFlags := 1, nameIndex := 5, descriptorIndex := 6, attributes := #[] }] 33 2 #[] #[{ accessFlags := 25, nameIndex := 123, descriptorIndex := 124, attributes := #[] }, { accessFlags := 25, nameIndex := 130, descriptorIndex := 124, attributes := #[] }, { accessFlags := 25, nameIndex := 136, descriptorIndex := 124, attributes := #[] }])
  fields := #[{ name := "SIOOBE_FORMATTER", type := (.object "java/util/function/BiFunction"), accessFlags := 25, slot := 0, constantValue := 0 }, { name := "AIOOBE_FORMATTER", type := (.object "java/util/function/BiFunction"), accessFlags := 25, slot := 1, constantValue := 0 }, { name := "IOOBE_FORMATTER", type := (.object "java/util/function/BiFunction"), accessFlags := 25, slot := 2, constantValue := 0 }]
  methods := #[k15m0]
  instanceTypes := #[]
  staticTypes := #[(.object "java/util/function/BiFunction"), (.object "java/util/function/BiFunction"), (.object "java/util/function/BiFunction")]
  resolved := Array.replicate 194 none
  statics := some 2 }

def pool16 : Array CpInfo := pool [(9, u "<init>"), (6, .class_ 18), (1, u "java/lang/Object"), (0, u "()V"), (1, .class_ 23), (1, u "jdk/internal/util/ArraysSupport"), (0, u "LOG2_ARRAY_LONG_INDEX_SCALE"), (0, u "I"), (2, u "U"), (0, u "Ljdk/internal/misc/Unsafe;"), (8, u "BIG_ENDIAN"), (0, u "Z"), (8, u "LOG2_BYTE_BIT_SIZE"), (4, u "LOG2_ARRAY_INT_INDEX_SCALE"), (54, u "JLA"), (0, u "Ljdk/internal/access/JavaLangAccess;"), (11, u "LOG2_ARRAY_BOOLEAN_INDEX_SCALE"), (9, u "LOG2_ARRAY_BYTE_INDEX_SCALE"), (5, u "LOG2_ARRAY_CHAR_INDEX_SCALE"), (5, u "LOG2_ARRAY_SHORT_INDEX_SCALE"), (18, u "LOG2_ARRAY_FLOAT_INDEX_SCALE"), (24, u "LOG2_ARRAY_DOUBLE_INDEX_SCALE"), (89, u "T_BOOLEAN"), (2, u "T_CHAR"), (1, u "T_FLOAT"), (1, u "T_DOUBLE"), (1, u "T_BYTE"), (1, u "T_SHORT"), (1, u "T_INT"), (1, u "T_LONG"), (1, u "SOFT_MAX_ARRAY_LENGTH")] 83

def k16m0 : Method := { name := "<init>", desc := "()V", sig := { parameters := [], returnType := none }, accessFlags := 2, code := none }
/-- jdk/internal/util/ArraysSupport -/
def k16 : Class := { plain "jdk/internal/util/ArraysSupport" (some 0) with
  accessFlags := 33
  interfaces := #[]
  cf := some (fileOf pool16 21 #[] #[{ accessFlags := 2, nameIndex := 9, descriptorIndex := 19, attributes := #[] }] 33 16 #[] #[{ accessFlags := 24, nameIndex := 28, descriptorIndex := 29, attributes := #[] }, { accessFlags := 26, nameIndex := 38, descriptorIndex := 39, attributes := #[] }, { accessFlags := 25, nameIndex := 121, descriptorIndex := 25, attributes := #[] }, { accessFlags := 25, nameIndex := 131, descriptorIndex := 25, attributes := #[] }, { accessFlags := 25, nameIndex := 137, descriptorIndex := 25, attributes := #[] }, { accessFlags := 25, nameIndex := 143, descriptorIndex := 25, attributes := #[] }, { accessFlags := 25, nameIndex := 53, descriptorIndex := 25, attributes := #[] }, { accessFlags := 25, nameIndex := 24, descriptorIndex := 25, attributes := #[] }, { accessFlags := 25, nameIndex := 162, descriptorIndex := 25, attributes := #[] }, { accessFlags := 25, nameIndex := 187, descriptorIndex := 25, attributes := #[] }, { accessFlags := 26, nameIndex := 48, descriptorIndex := 25, attributes := #[] }, { accessFlags := 25, nameIndex := 277, descriptorIndex := 25, attributes := #[] }, { accessFlags := 25, nameIndex := 280, descriptorIndex := 25, attributes := #[] }, { accessFlags := 25, nameIndex := 282, descriptorIndex := 25, attributes := #[] }, { accessFlags := 25, nameIndex := 284, descriptorIndex := 25, attributes := #[] }, { accessFlags := 25, nameIndex := 286, descriptorIndex := 25, attributes := #[] }, { accessFlags := 25, nameIndex := 288, descriptorIndex := 25, attributes := #[] }, { accessFlags := 25, nameIndex := 290, descriptorIndex := 25, attributes := #[] }, { accessFlags := 25, nameIndex := 292, descriptorIndex := 25, attributes := #[] }, { accessFlags := 26, nameIndex := 108, descriptorIndex := 109, attributes := #[] }, { accessFlags := 25, nameIndex := 294, descriptorIndex := 25, attributes := #[] }])
  fields := #[{ name := "U", type := (.object "jdk/internal/misc/Unsafe"), accessFlags := 24, slot := 0, constantValue := 0 }, { name := "BIG_ENDIAN", type := .boolean, accessFlags := 26, slot := 1, constantValue := 0 }, { name := "LOG2_ARRAY_BOOLEAN_INDEX_SCALE", type := .int, accessFlags := 25, slot := 2, constantValue := 0 }, { name := "LOG2_ARRAY_BYTE_INDEX_SCALE", type := .int, accessFlags := 25, slot := 3, constantValue := 0 }, { name := "LOG2_ARRAY_CHAR_INDEX_SCALE", type := .int, accessFlags := 25, slot := 4, constantValue := 0 }, { name := "LOG2_ARRAY_SHORT_INDEX_SCALE", type := .int, accessFlags := 25, slot := 5, constantValue := 0 }, { name := "LOG2_ARRAY_INT_INDEX_SCALE", type := .int, accessFlags := 25, slot := 6, constantValue := 0 }, { name := "LOG2_ARRAY_LONG_INDEX_SCALE", type := .int, accessFlags := 25, slot := 7, constantValue := 0 }, { name := "LOG2_ARRAY_FLOAT_INDEX_SCALE", type := .int, accessFlags := 25, slot := 8, constantValue := 0 }, { name := "LOG2_ARRAY_DOUBLE_INDEX_SCALE", type := .int, accessFlags := 25, slot := 9, constantValue := 0 }, { name := "LOG2_BYTE_BIT_SIZE", type := .int, accessFlags := 26, slot := 10, constantValue := 0 }, { name := "T_BOOLEAN", type := .int, accessFlags := 25, slot := 11, constantValue := 0 }, { name := "T_CHAR", type := .int, accessFlags := 25, slot := 12, constantValue := 0 }, { name := "T_FLOAT", type := .int, accessFlags := 25, slot := 13, constantValue := 0 }, { name := "T_DOUBLE", type := .int, accessFlags := 25, slot := 14, constantValue := 0 }, { name := "T_BYTE", type := .int, accessFlags := 25, slot := 15, constantValue := 0 }, { name := "T_SHORT", type := .int, accessFlags := 25, slot := 16, constantValue := 0 }, { name := "T_INT", type := .int, accessFlags := 25, slot := 17, constantValue := 0 }, { name := "T_LONG", type := .int, accessFlags := 25, slot := 18, constantValue := 0 }, { name := "JLA", type := (.object "jdk/internal/access/JavaLangAccess"), accessFlags := 26, slot := 19, constantValue := 0 }, { name := "SOFT_MAX_ARRAY_LENGTH", type := .int, accessFlags := 25, slot := 20, constantValue := 0 }]
  methods := #[k16m0]
  instanceTypes := #[]
  staticTypes := #[(.object "jdk/internal/misc/Unsafe"), .boolean, .int, .int, .int, .int, .int, .int, .int, .int, .int, .int, .int, .int, .int, .int, .int, .int, .int, (.object "jdk/internal/access/JavaLangAccess"), .int]
  resolved := Array.replicate 378 none
  statics := none }

def pool17 : Array CpInfo := pool [(1, u "java/lang/Cloneable"), (0, .class_ 1), (0, u "java/lang/Object"), (0, .class_ 3)] 3

/-- java/lang/Cloneable -/
def k17 : Class := { plain "java/lang/Cloneable" (some 0) with
  accessFlags := 1537
  interfaces := #[]
  cf := some (fileOf pool17 2 #[] #[] 1537 4 #[] #[])
  fields := #[]
  methods := #[]
  instanceTypes := #[]
  staticTypes := #[]
  resolved := Array.replicate 8 none
  statics := none }

/-- the primitive byte -/
def k18 : Class := { plain "byte" none with kind := .primitive 'B', accessFlags := 0x411 }
/-- [B -/
def k19 : Class := { plain "[B" (some 0) with kind := .array 18 .byte, interfaces := #[17, 2], accessFlags := 1041 }

/-- the primitive char -/
def k20 : Class := { plain "char" none with kind := .primitive 'C', accessFlags := 0x411 }
/-- [C -/
def k21 : Class := { plain "[C" (some 0) with kind := .array 20 .char, interfaces := #[17, 2], accessFlags := 1041 }

/-- the primitive int -/
def k22 : Class := { plain "int" none with kind := .primitive 'I', accessFlags := 0x411 }
/-- [I -/
def k23 : Class := { plain "[I" (some 0) with kind := .array 22 .int, interfaces := #[17, 2], accessFlags := 1041 }

def heap : Heap := #[{ cls := 7, slots := #[.long 0, .int 1, .null, .int 0, .null, .int 0, .int 0], vm := .statics 7 },
  { cls := 10, slots := #[.ref 3, .ref 4, .null], vm := .statics 10 },
  { cls := 15, slots := #[.null, .null, .null], vm := .statics 15 },
  { cls := 10, slots := #[.null, .int 0, .int 0, .null], vm := .none },
  { cls := 10, slots := #[.null, .int 1, .int 0, .null], vm := .none }]
def classes : Array Class := #[k0, k1, k2, k3, k4, k5, k6, k7, k8, k9, k10, k11, k12, k13, k14, k15, k16, k17, k18, k19, k20, k21, k22, k23]
def interned : List (Array UInt16 × Addr) := []
def slotsUsed : Nat := 21
def theMethod : MethodId := ⟨1, 1⟩
def args0 : Array Value := #[.int 5, .int 7, .int 9, .int 11]
def aboutOver (below : List Frame) : State where
  vm := { classes := classes, interned := interned.toArray }
  heap := heap
  slotsUsed := slotsUsed
  threads := #[{ frames := .invoking theMethod args0 :: below }]
def below0 : List Frame := [.native { method := ⟨0, 0⟩, args := #[] }]
def about1 : State := aboutOver below0
def p0 : Program := .bare "" "" ""
def e0 : Env := launch0.env 0 0 0
theorem w_frames : about1.frames = Frame.invoking theMethod args0 :: below0 := rfl
set_option maxRecDepth 65536 in
theorem w_args : argsFit about1.vm theMethod args0 = true := by decide +kernel
set_option maxRecDepth 65536 in
theorem w_heap : heapFits about1 = true := by decide +kernel
set_option maxRecDepth 65536 in
theorem w_runnable : about1.curStatus? = some .runnable := by decide +kernel
set_option maxRecDepth 65536 in
theorem w_alone : about1.alone = true := by decide +kernel
set_option maxRecDepth 65536 in
theorem w_named : about1.methodNamed? x = some theMethod := by decide +kernel
set_option maxRecDepth 65536 in
theorem w_hears : about1.hears theMethod below0 = true := by decide +kernel
set_option maxRecDepth 65536 in
theorem w_ripe : about1.ripe theMethod args0 below0 = true := by decide +kernel
theorem w_running : about1.status = .running := rfl
set_option maxRecDepth 65536 in
theorem w_room : about1.hasRoom e0.platform room_1 = true :=
  launch0.hasRoom_least _ room_1 (by decide +kernel) (by decide +kernel) (by decide +kernel) (by decide +kernel) (by decide +kernel) (by decide +kernel)
theorem allAtoms_all (ts : List Jvm.Cond) (a : Array Jvm.Value) (st : Jvm.State) : (allAtoms ts).before a st = ts.all (fun c => c.before a st) := by
  induction ts with
  | nil => rfl
  | cons c t ih =>
    show (Jvm.Cond.and c (allAtoms t)).before a st = _
    rw [Jvm.Cond.before_and, ih, List.all_cons]
def words1 : List Jvm.Cond := Jvm.Cond.code x code maxLocals ret :: tables_1
/-- a 'code' word, met by the world's own term for the bytes: nothing is compared byte by byte -/
theorem code_word {y : MethodName} {bytes : ByteArray} {mx : Nat} {rt : Option FieldType} {a : Array Value} {s : State} {m : MethodId} {meth : Method} {c : Code} (h1 : s.methodNamed? y = some m) (h2 : s.vm.method? m = some meth) (h3 : meth.code = some c) (h4 : c.code = bytes)
    (h5 : (c.maxLocals == mx && c.exceptionTable.isEmpty && decide (c.maxStack ≤ mostOperands) && decide (meth.sig.returnType = rt) && !meth.locks && decide (parseMethodDescriptor y.desc = some meth.sig)) = true) : (Jvm.Cond.code y bytes mx rt).before a s = true := by
  simp only [Bool.and_eq_true, beq_iff_eq, Bool.not_eq_true', decide_eq_true_eq] at h5
  obtain ⟨⟨⟨⟨⟨g1, g2⟩, g3⟩, g4⟩, g5⟩, g6⟩ := h5
  simp [Cond.before, Cond.holds, Cond.value, h1, h2, h3, h4, g1, g2, g3, g4, g5, g6]
def isCode : Jvm.Cond → Bool
  | .code _ _ _ _ => true
  | _ => false
theorem all_split {L : List Jvm.Cond} {P : Jvm.Cond → Bool} (h1 : L.all (fun c => isCode c || P c) = true) (h2 : ∀ c ∈ L.filter isCode, P c = true) : L.all P = true := by
  refine List.all_eq_true.mpr fun c hc => ?_
  have h := List.all_eq_true.mp h1 c hc
  rcases Bool.eq_false_or_eq_true (isCode c) with hi | hi
  · exact h2 c (List.mem_filter.mpr ⟨hc, hi⟩)
  · simpa [hi] using h
set_option maxRecDepth 65536 in
theorem w_c0 : (Jvm.Cond.code x code maxLocals ret).before args0 about1 = true := code_word (m := ⟨1, 1⟩) (meth := k1m1) (c := k1c1) (by decide +kernel) rfl rfl rfl (by decide +kernel)
set_option maxRecDepth 65536 in
theorem w_c1 : (Jvm.Cond.code ({ cls := "java/lang/String", name := "<init>", desc := "([C)V" } : Jvm.MethodName) jdk_42_method_3_code (2 : Nat) (Option.none : Option Jvm.ClassFile.FieldType)).before args0 about1 = true := code_word (m := ⟨7, 1⟩) (meth := k7m1) (c := k7c1) (by decide +kernel) rfl rfl rfl (by decide +kernel)
set_option maxRecDepth 65536 in
theorem w_c2 : (Jvm.Cond.code ({ cls := "java/lang/String", name := "<init>", desc := "([CIILjava/lang/Void;)V" } : Jvm.MethodName) jdk_42_method_149_code (6 : Nat) (Option.none : Option Jvm.ClassFile.FieldType)).before args0 about1 = true := code_word (m := ⟨7, 2⟩) (meth := k7m2) (c := k7c2) (by decide +kernel) rfl rfl rfl (by decide +kernel)
set_option maxRecDepth 65536 in
theorem w_c3 : (Jvm.Cond.code ({ cls := "java/lang/Object", name := "<init>", desc := "()V" } : Jvm.MethodName) object_method_1_code (1 : Nat) (Option.none : Option Jvm.ClassFile.FieldType)).before args0 about1 = true := code_word (m := ⟨0, 0⟩) (meth := k0m0) (c := k0c0) (by decide +kernel) rfl rfl rfl (by decide +kernel)
set_option maxRecDepth 65536 in
theorem w_c4 : (Jvm.Cond.code ({ cls := "java/lang/StringUTF16", name := "compress", desc := "([CII)[B" } : Jvm.MethodName) jdk_52_method_16_code (6 : Nat) (Option.some (Jvm.ClassFile.FieldType.array Jvm.ClassFile.FieldType.byte))).before args0 about1 = true := code_word (m := ⟨8, 2⟩) (meth := k8m2) (c := k8c2) (by decide +kernel) rfl rfl rfl (by decide +kernel)
set_option maxRecDepth 65536 in
theorem w_c5 : (Jvm.Cond.code ({ cls := "java/lang/StringUTF16", name := "compress", desc := "([CI[BII)I" } : Jvm.MethodName) jdk_52_method_21_code (7 : Nat) (Option.some Jvm.ClassFile.FieldType.int)).before args0 about1 = true := code_word (m := ⟨8, 3⟩) (meth := k8m3) (c := k8c3) (by decide +kernel) rfl rfl rfl (by decide +kernel)
set_option maxRecDepth 65536 in
theorem w_c6 : (Jvm.Cond.code ({ cls := "java/lang/StringUTF16", name := "coderFromArrayLen", desc := "([BI)B" } : Jvm.MethodName) jdk_52_method_15_code (2 : Nat) (Option.some Jvm.ClassFile.FieldType.byte)).before args0 about1 = true := code_word (m := ⟨8, 1⟩) (meth := k8m1) (c := k8c1) (by decide +kernel) rfl rfl rfl (by decide +kernel)
set_option maxRecDepth 65536 in
theorem w_c7 : (Jvm.Cond.code ({ cls := "com/example/wellness_on_record/wellnessonrecord/apps/App", name := "<init>", desc := "(Ljava/lang/String;Ljava/lang/String;Lcom/example/wellness_on_record/wellnessonrecord/apps/App$Kind;Ljava/lang/String;Ljava/lang/String;ZLjava/lang/String;ZLjava/lang/String;Ljava/lang/String;Z)V" } : Jvm.MethodName) prog_13_method_1_code (12 : Nat) (Option.none : Option Jvm.ClassFile.FieldType)).before args0 about1 = true := code_word (m := ⟨12, 0⟩) (meth := k12m0) (c := k12c0) (by decide +kernel) rfl rfl rfl (by decide +kernel)
set_option maxRecDepth 65536 in
theorem w_c8 : (Jvm.Cond.code ({ cls := "java/lang/Record", name := "<init>", desc := "()V" } : Jvm.MethodName) jdk_30_method_1_code (1 : Nat) (Option.none : Option Jvm.ClassFile.FieldType)).before args0 about1 = true := code_word (m := ⟨11, 0⟩) (meth := k11m0) (c := k11c0) (by decide +kernel) rfl rfl rfl (by decide +kernel)
set_option maxRecDepth 65536 in
theorem w_c9 : (Jvm.Cond.code ({ cls := "com/example/wellness_on_record/wellnessonrecord/oauth/Principal", name := "<init>", desc := "(Lcom/example/wellness_on_record/wellnessonrecord/apps/App;Ljava/lang/String;Ljava/lang/String;)V" } : Jvm.MethodName) prog_39_method_1_code (4 : Nat) (Option.none : Option Jvm.ClassFile.FieldType)).before args0 about1 = true := code_word (m := ⟨13, 0⟩) (meth := k13m0) (c := k13c0) (by decide +kernel) rfl rfl rfl (by decide +kernel)
set_option maxRecDepth 65536 in
theorem w_c10 : (Jvm.Cond.code ({ cls := "com/example/wellness_on_record/wellnessonrecord/oauth/Principal", name := "holdsRequestToken", desc := "()Z" } : Jvm.MethodName) prog_39_method_6_code (1 : Nat) (Option.some Jvm.ClassFile.FieldType.boolean)).before args0 about1 = true := code_word (m := ⟨13, 2⟩) (meth := k13m2) (c := k13c2) (by decide +kernel) rfl rfl rfl (by decide +kernel)
set_option maxRecDepth 65536 in
theorem w_c11 : (Jvm.Cond.code ({ cls := "com/example/wellness_on_record/wellnessonrecord/oauth/Principal", name := "isUserAppAlone", desc := "()Z" } : Jvm.MethodName) prog_39_method_4_code (1 : Nat) (Option.some Jvm.ClassFile.FieldType.boolean)).before args0 about1 = true := code_word (m := ⟨13, 1⟩) (meth := k13m1) (c := k13c1) (by decide +kernel) rfl rfl rfl (by decide +kernel)
set_option maxRecDepth 65536 in
theorem w_c12 : (Jvm.Cond.code ({ cls := "com/example/wellness_on_record/wellnessonrecord/oauth/Principal", name := "isAlone", desc := "()Z" } : Jvm.MethodName) prog_39_method_7_code (1 : Nat) (Option.some Jvm.ClassFile.FieldType.boolean)).before args0 about1 = true := code_word (m := ⟨13, 3⟩) (meth := k13m3) (c := k13c3) (by decide +kernel) rfl rfl rfl (by decide +kernel)
set_option maxRecDepth 65536 in
theorem w_c13 : (Jvm.Cond.code ({ cls := "com/example/wellness_on_record/wellnessonrecord/apps/App", name := "kind", desc := "()Lcom/example/wellness_on_record/wellnessonrecord/apps/App$Kind;" } : Jvm.MethodName) prog_13_method_7_code (1 : Nat) (Option.some (Jvm.ClassFile.FieldType.object "com/example/wellness_on_record/wellnessonrecord/apps/App$Kind"))).before args0 about1 = true := code_word (m := ⟨12, 1⟩) (meth := k12m1) (c := k12c1) (by decide +kernel) rfl rfl rfl (by decide +kernel)
def codes1 : List Jvm.Cond := [Jvm.Cond.code x code maxLocals ret, Jvm.Cond.code ({ cls := "java/lang/String", name := "<init>", desc := "([C)V" } : Jvm.MethodName) jdk_42_method_3_code (2 : Nat) (Option.none : Option Jvm.ClassFile.FieldType), Jvm.Cond.code ({ cls := "java/lang/String", name := "<init>", desc := "([CIILjava/lang/Void;)V" } : Jvm.MethodName) jdk_42_method_149_code (6 : Nat) (Option.none : Option Jvm.ClassFile.FieldType), Jvm.Cond.code ({ cls := "java/lang/Object", name := "<init>", desc := "()V" } : Jvm.MethodName) object_method_1_code (1 : Nat) (Option.none : Option Jvm.ClassFile.FieldType), Jvm.Cond.code ({ cls := "java/lang/StringUTF16", name := "compress", desc := "([CII)[B" } : Jvm.MethodName) jdk_52_method_16_code (6 : Nat) (Option.some (Jvm.ClassFile.FieldType.array Jvm.ClassFile.FieldType.byte)), Jvm.Cond.code ({ cls := "java/lang/StringUTF16", name := "compress", desc := "([CI[BII)I" } : Jvm.MethodName) jdk_52_method_21_code (7 : Nat) (Option.some Jvm.ClassFile.FieldType.int), Jvm.Cond.code ({ cls := "java/lang/StringUTF16", name := "coderFromArrayLen", desc := "([BI)B" } : Jvm.MethodName) jdk_52_method_15_code (2 : Nat) (Option.some Jvm.ClassFile.FieldType.byte), Jvm.Cond.code ({ cls := "com/example/wellness_on_record/wellnessonrecord/apps/App", name := "<init>", desc := "(Ljava/lang/String;Ljava/lang/String;Lcom/example/wellness_on_record/wellnessonrecord/apps/App$Kind;Ljava/lang/String;Ljava/lang/String;ZLjava/lang/String;ZLjava/lang/String;Ljava/lang/String;Z)V" } : Jvm.MethodName) prog_13_method_1_code (12 : Nat) (Option.none : Option Jvm.ClassFile.FieldType), Jvm.Cond.code ({ cls := "java/lang/Record", name := "<init>", desc := "()V" } : Jvm.MethodName) jdk_30_method_1_code (1 : Nat) (Option.none : Option Jvm.ClassFile.FieldType), Jvm.Cond.code ({ cls := "com/example/wellness_on_record/wellnessonrecord/oauth/Principal", name := "<init>", desc := "(Lcom/example/wellness_on_record/wellnessonrecord/apps/App;Ljava/lang/String;Ljava/lang/String;)V" } : Jvm.MethodName) prog_39_method_1_code (4 : Nat) (Option.none : Option Jvm.ClassFile.FieldType), Jvm.Cond.code ({ cls := "com/example/wellness_on_record/wellnessonrecord/oauth/Principal", name := "holdsRequestToken", desc := "()Z" } : Jvm.MethodName) prog_39_method_6_code (1 : Nat) (Option.some Jvm.ClassFile.FieldType.boolean), Jvm.Cond.code ({ cls := "com/example/wellness_on_record/wellnessonrecord/oauth/Principal", name := "isUserAppAlone", desc := "()Z" } : Jvm.MethodName) prog_39_method_4_code (1 : Nat) (Option.some Jvm.ClassFile.FieldType.boolean), Jvm.Cond.code ({ cls := "com/example/wellness_on_record/wellnessonrecord/oauth/Principal", name := "isAlone", desc := "()Z" } : Jvm.MethodName) prog_39_method_7_code (1 : Nat) (Option.some Jvm.ClassFile.FieldType.boolean), Jvm.Cond.code ({ cls := "com/example/wellness_on_record/wellnessonrecord/apps/App", name := "kind", desc := "()Lcom/example/wellness_on_record/wellnessonrecord/apps/App$Kind;" } : Jvm.MethodName) prog_13_method_7_code (1 : Nat) (Option.some (Jvm.ClassFile.FieldType.object "com/example/wellness_on_record/wellnessonrecord/apps/App$Kind"))]
set_option maxRecDepth 65536 in
theorem codes_eq : words1.filter isCode = codes1 := rfl
theorem w_codes : ∀ c ∈ words1.filter isCode, c.before args0 about1 = true := by
  rw [codes_eq]
  intro c hc
  simp only [codes1, List.mem_cons, List.not_mem_nil, or_false] at hc
  rcases hc with rfl | rfl | rfl | rfl | rfl | rfl | rfl | rfl | rfl | rfl | rfl | rfl | rfl | rfl
  · exact w_c0
  · exact w_c1
  · exact w_c2
  · exact w_c3
  · exact w_c4
  · exact w_c5
  · exact w_c6
  · exact w_c7
  · exact w_c8
  · exact w_c9
  · exact w_c10
  · exact w_c11
  · exact w_c12
  · exact w_c13
set_option maxRecDepth 65536 in
theorem w_t1 : (words1.take 24).all (fun c => isCode c || c.before args0 about1) = true := by decide +kernel
set_option maxRecDepth 65536 in
theorem w_t2 : ((words1.drop 24).take 24).all (fun c => isCode c || c.before args0 about1) = true := by decide +kernel
set_option maxRecDepth 65536 in
theorem w_t3 : (((words1.drop 24).drop 24).take 24).all (fun c => isCode c || c.before args0 about1) = true := by decide +kernel
set_option maxRecDepth 65536 in
theorem w_t4 : ((((words1.drop 24).drop 24).drop 24).take 24).all (fun c => isCode c || c.before args0 about1) = true := by decide +kernel
set_option maxRecDepth 65536 in
theorem w_t5 : ((((words1.drop 24).drop 24).drop 24).drop 24).all (fun c => isCode c || c.before args0 about1) = true := by decide +kernel
theorem w_tables : (allAtoms (Jvm.Cond.code x code maxLocals ret :: tables_1)).before args0 about1 = true := by
  rw [allAtoms_all]
  show words1.all (fun c => c.before args0 about1) = true
  refine all_split ?_ w_codes
  rw [← List.take_append_drop 24 words1, List.all_append, w_t1, ← List.take_append_drop 24 (words1.drop 24), List.all_append, w_t2, ← List.take_append_drop 24 ((words1.drop 24).drop 24), List.all_append, w_t3, ← List.take_append_drop 24 (((words1.drop 24).drop 24).drop 24), List.all_append, w_t4, w_t5]
  rfl
set_option maxRecDepth 65536 in
theorem w_rest : rest_1_c.before args0 about1 = true := by decide +kernel
set_option maxRecDepth 65536 in
theorem w_case : (Jvm.Cond.and given_1 narrow_1).before args0 about1 = true := by decide +kernel
set_option maxRecDepth 65536 in
theorem w_consts : constsHeld consts_1 about1 := Jvm.Lit.constsHeldB_iff.mp (by decide +kernel)
theorem w_applies : (headSpec (Jvm.Cond.code x code maxLocals ret :: tables_1) room_1).applies x e0.platform about1 = true :=
  (Spec.applies_iff w_frames).mpr ⟨w_running, w_runnable, w_alone, w_named, w_hears, w_ripe, w_room, w_tables⟩
theorem atStart : AtStart classFile x code maxLocals ret World_1 tables_1 room_1 Calls_1 rest_1 Pre_1 launch0 p0 e0 about1 theMethod args0 below0 :=
  ⟨lists_1, trivial, launch0.admits_env _ _ _, launch0.least_env, fairChoices_fair.cas, fairChoices_fair.clock, w_frames, w_args, w_heap, w_applies, ⟨w_consts, trivial⟩, w_rest, w_case⟩
end start1
theorem witness_1 : WitnessClaimed_1 := ⟨start1.p0, start1.e0, start1.about1, start1.theMethod, start1.args0, start1.below0, start1.atStart⟩
end Jvm.Pilot.@@N@@
