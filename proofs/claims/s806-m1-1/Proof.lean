import JvmDerived
import JvmDerived.Pilot.@@N@@Statement
import JvmDerived.Pilot.@@N@@Code
set_option linter.unusedVariables false
set_option linter.unusedSimpArgs false
/- laws to paste: Road.backV (cut by pick.py; bodies as the Statement names them) -/
namespace Jvm.Pilot.@@N@@
namespace StrChars
open Jvm Sem ClassFile Op Lib Jvm.Stand Jvm.Free.XT Jvm.Free.ALB Jvm.Free.JM Jvm.Free
open Jvm.Lib.Cold (StaticIs)
/-- a char array whose places are chars -/
def Ch (a : Addr) (A : Cell) (U : State) : Prop := Arr .char a A U ∧ Typed .char A
theorem Ch.mv {a : Addr} {A : Cell} {U U' : State} (h : Ch a A U) (hal : U.vm.Alike U'.vm) (hh : U'.heap = U.heap) : Ch a A U' := ⟨h.1.mv hal hh, h.2⟩
theorem Ch.keep {a : Addr} {A : Cell} {U U' : State} (h : Ch a A U) (hal : U.vm.Alike U'.vm) (hk : U'.heap[a]? = some A) : Ch a A U' := ⟨h.1.keep hal hk, h.2⟩
/-- what place i of a char[]'s cell holds -/
def cv (A : Cell) (i : Nat) : Int32 := match A.slots[i]? with | some (.int x) => x | _ => 0
theorem Ch.get {a : Addr} {A : Cell} {U : State} (h : Ch a A U) {i : Nat} (hi : i < A.slots.size) : A.slots[i]? = some (.int (cv A i)) := by
  have e := Array.getElem?_eq_getElem hi
  have f := h.2 i _ e
  unfold cv; rw [e]
  generalize A.slots[i] = v at f
  cases v <;> simp [fits] at f ⊢
/-- the byte that i2b leaves of a char -/
def lo8 (x : Int32) : Int32 := x.toInt8.toInt32
theorem fits_lo8 (y : Int32) : fits .byte (.int (lo8 y)) = true := by
  have h1 := y.toInt8.le_toInt
  have h2 := y.toInt8.toInt_lt
  simp only [lo8, fits, Bool.and_eq_true, decide_eq_true_eq, Int32.le_iff_toInt_le, Int8.toInt_toInt32, show (-128 : Int32).toInt = -128 from by decide, show (127 : Int32).toInt = 127 from by decide]
  omega
/-- A' is A but that each place j of lo .. hi - 1 holds f j -/
def Laid (A A' : Cell) (lo hi : Nat) (f : Nat → Value) : Prop := A'.cls = A.cls ∧ A'.vm = A.vm ∧ A'.slots.size = A.slots.size ∧ ∀ i, A'.slots[i]? = if lo ≤ i ∧ i < hi then some (f i) else A.slots[i]?
theorem Laid.zero (A : Cell) (lo : Nat) (f : Nat → Value) : Laid A A lo (lo + 0) f := ⟨rfl, rfl, rfl, fun i => by rw [if_neg (by omega)]⟩
theorem Laid.step {A Ak : Cell} {lo k : Nat} {f : Nat → Value} {v : Value} (h : Laid A Ak lo k f) (hlo : lo ≤ k) (hk : k < Ak.slots.size) (hv : v = f k) : Laid A (Ak.setSlot k v) lo (k + 1) f := by
  refine ⟨h.1, h.2.1, by simpa [Cell.setSlot] using h.2.2.1, fun i => ?_⟩
  by_cases e : k = i
  · subst e; rw [Cell.slots_setSlot_self v hk, if_pos (by omega), hv]
  · rw [Cell.slots_setSlot_ne v e, h.2.2.2 i]
    by_cases q : lo ≤ i ∧ i < k
    · rw [if_pos q, if_pos (by omega)]
    · rw [if_neg q, if_neg (by omega)]
def U16 : String := "java/lang/StringUTF16"
namespace Cmp5
def yN : MethodName := ⟨"java/lang/StringUTF16", "compress", "([CI[BII)I"⟩
abbrev yB : ByteArray := jdk_52_method_21_code
theorem d0 : decode yB 0 = .ok (.iconst 0, 1) := by decide +kernel
theorem d1 : decode yB 1 = .ok (.istore 5, 2) := by decide +kernel
theorem d3 : decode yB 3 = .ok (.iload 5, 2) := by decide +kernel
theorem d5 : decode yB 5 = .ok (.iload 4, 2) := by decide +kernel
theorem d7 : decode yB 7 = .ok (.if_icmp (.ge) 37, 3) := by decide +kernel
theorem d10 : decode yB 10 = .ok (.aload_n 0, 1) := by decide +kernel
theorem d11 : decode yB 11 = .ok (.iload_n 1, 1) := by decide +kernel
theorem d12 : decode yB 12 = .ok (.caload, 1) := by decide +kernel
theorem d13 : decode yB 13 = .ok (.istore 6, 2) := by decide +kernel
theorem d15 : decode yB 15 = .ok (.iload 6, 2) := by decide +kernel
theorem d17 : decode yB 17 = .ok (.sipush 255, 3) := by decide +kernel
theorem d20 : decode yB 20 = .ok (.if_icmp (.le) 6, 3) := by decide +kernel
theorem d26 : decode yB 26 = .ok (.aload_n 2, 1) := by decide +kernel
theorem d27 : decode yB 27 = .ok (.iload_n 3, 1) := by decide +kernel
theorem d28 : decode yB 28 = .ok (.iload 6, 2) := by decide +kernel
theorem d30 : decode yB 30 = .ok (.i2b, 1) := by decide +kernel
theorem d31 : decode yB 31 = .ok (.bastore, 1) := by decide +kernel
theorem d32 : decode yB 32 = .ok (.iinc 1 1, 3) := by decide +kernel
theorem d35 : decode yB 35 = .ok (.iinc 3 1, 3) := by decide +kernel
theorem d38 : decode yB 38 = .ok (.iinc 5 1, 3) := by decide +kernel
theorem d41 : decode yB 41 = .ok (.goto (-38), 3) := by decide +kernel
theorem d44 : decode yB 44 = .ok (.iload 4, 2) := by decide +kernel
theorem d46 : decode yB 46 = .ok (.ireturn, 1) := by decide +kernel
def site : List Cond := []
def tab : Cond := tabOf yN yB 7 (some .int) site
def P (b : Addr) (A : Cell) (d : Addr) (B : Cell) (o q len : Nat) (args : Array Value) (s : State) : Prop := args = #[.ref b, .int (Int32.ofNat o), .ref d, .int (Int32.ofNat q), .int (Int32.ofNat len)] ∧ Ch b A s ∧ Arr .byte d B s ∧ b ≠ d ∧ o + len ≤ A.slots.size ∧ q + len ≤ B.slots.size ∧ ∀ i, i < len → ¬ 255 < cv A (o + i)
def E (b : Addr) (A : Cell) (d : Addr) (B : Cell) (o q len : Nat) (r : Option Value) (s u : State) : Prop := r = some (.int (Int32.ofNat len)) ∧ ∃ B', Put d B' s u ∧ Laid B B' q (q + len) (fun j => Value.int (lo8 (cv A (o + (j - q)))))
/-- no char of the range above 255: len; the places written hold each char's low byte -/
theorem law (l : Launch) (b : Addr) (A : Cell) (d : Addr) (B : Cell) (o q len : Nat) : Law l yN 5 5 0 0 yB 7 (some .int) site (P b A d B o q len) (E b A d B o q len) (copyLocs d q len) 0 0 := by
  refine Law.of_walk (plainFor_of_name (by decide +kernel)) (by decide +kernel) (by decide +kernel) (by decide) (fun _ _ h => by rw [h.1]; rfl) (fun _ U U' hal hh h => ⟨h.1, h.2.1.mv hal hh, h.2.2.1.mv hal hh, h.2.2.2⟩) (fun r U U' V V' h1 hal h2 h => ⟨h.1, h.2.elim fun B' q => ⟨B', q.1.mv h1 h2, q.2⟩⟩) ?_
  intro p e s m args below meth c s₁ X0 hexec hbytes hml hret hlk hnm hown hh0 W hP
  obtain ⟨rfl, hA, hB, hne, l1, l2, hp⟩ := hP
  have c1 : Steps p.tables e below (s₁.setTop (entryFrame m #[.ref b, .int (Int32.ofNat o), .ref d, .int (Int32.ofNat q), .int (Int32.ofNat len)] 7)) (s₁.setTop (mkF m 0 #[.val (.ref b), .val (.int (Int32.ofNat o)), .val (.ref d), .val (.int (Int32.ofNat q)), .val (.int (Int32.ofNat len)), .unset, .unset] [])) := entry rfl
  have hA0 := hA.1.mv X0.warmed.alike hh0
  have hB0 := hB.mv X0.warmed.alike hh0
  have a31 := hA.1.2.2.2
  have c2 : Steps p.tables e below (s₁.setTop (entryFrame m #[.ref b, .int (Int32.ofNat o), .ref d, .int (Int32.ofNat q), .int (Int32.ofNat len)] 7)) (s₁.setTop (mkF m 3 #[.val (.ref b), .val (.int (Int32.ofNat o)), .val (.ref d), .val (.int (Int32.ofNat q)), .val (.int (Int32.ofNat len)), .val (.int 0), .unset] [])) := c1.trans (by
    refine iconstV X0.here hexec rfl 0 (hb hbytes d0) (by decide) ?_
    refine XS.istore X0.here hexec rfl (hb hbytes d1) rfl rfl ?_
    exact Steps.refl _)
  have loop : ∀ (r i : Nat), i + r = len → ∀ (z : Slot), (z = .unset ∨ ∃ w, z = .val w ∧ w.category = 1) → ∀ (Tl : State) (Bk : Cell), Stand p l e { frames := 0, locals := 0, cells := 0, slots := 0 } s m #[.ref b, .int (Int32.ofNat o), .ref d, .int (Int32.ofNat q), .int (Int32.ofNat len)] below meth c Tl ([] ++ copyLocs d q i) 0 0 → Put d Bk s₁ Tl → Laid B Bk q (q + i) (fun j => Value.int (lo8 (cv A (o + (j - q))))) →
      Steps p.tables e below (s₁.setTop (entryFrame m #[.ref b, .int (Int32.ofNat o), .ref d, .int (Int32.ofNat q), .int (Int32.ofNat len)] 7)) (Tl.setTop (mkF m 3 #[.val (.ref b), .val (.int (Int32.ofNat (o + i))), .val (.ref d), .val (.int (Int32.ofNat (q + i))), .val (.int (Int32.ofNat len)), .val (.int (Int32.ofNat i)), z] [])) → ∃ (T' : State) (B' : Cell) (z' : Slot), Stand p l e { frames := 0, locals := 0, cells := 0, slots := 0 } s m #[.ref b, .int (Int32.ofNat o), .ref d, .int (Int32.ofNat q), .int (Int32.ofNat len)] below meth c T' ([] ++ copyLocs d q len) 0 0 ∧ Put d B' s₁ T' ∧ Laid B B' q (q + len) (fun j => Value.int (lo8 (cv A (o + (j - q))))) ∧
      Steps p.tables e below (s₁.setTop (entryFrame m #[.ref b, .int (Int32.ofNat o), .ref d, .int (Int32.ofNat q), .int (Int32.ofNat len)] 7)) (T'.setTop (mkF m 3 #[.val (.ref b), .val (.int (Int32.ofNat (o + len))), .val (.ref d), .val (.int (Int32.ofNat (q + len))), .val (.int (Int32.ofNat len)), .val (.int (Int32.ofNat len)), z'] [])) := by
    intro r
    induction r with
    | zero =>
      intro i hi z hz Tl Bk Xl pl fl cl
      have hil : i = len := by omega
      rw [hil] at Xl fl cl
      exact ⟨Tl, Bk, z, Xl, pl, fl, cl⟩
    | succ r ih =>
      intro i hi z hz Tl Bk Xl pl fl cl
      have all := X0.warmed.alike.symm.trans Xl.warmed.alike
      have hAl := hA0.keep all (pl.other hne hA0.1)
      have hBk := hB0.like all pl.1 fl.1 fl.2.1 fl.2.2.1
      have hlt : q + i < Bk.slots.size := by rw [fl.2.2.1]; omega
      have c3 : Steps p.tables e below (s₁.setTop (entryFrame m #[.ref b, .int (Int32.ofNat o), .ref d, .int (Int32.ofNat q), .int (Int32.ofNat len)] 7)) (Tl.setTop (mkF m 12 #[.val (.ref b), .val (.int (Int32.ofNat (o + i))), .val (.ref d), .val (.int (Int32.ofNat (q + i))), .val (.int (Int32.ofNat len)), .val (.int (Int32.ofNat i)), z] [.int (Int32.ofNat (o + i)), .ref b])) := cl.trans (by
        refine XS.iload Xl.here hexec rfl (hb hbytes d3) rfl ?_
        refine XS.iload Xl.here hexec rfl (hb hbytes d5) rfl ?_
        refine XS.icmpNo Xl.here hexec rfl (hb hbytes d7) rfl (ii_ge_f (lt32 (by omega) (by omega))) ?_
        refine XS.aloadN Xl.here hexec rfl (hb hbytes d10) rfl rfl ?_
        refine XS.iloadN Xl.here hexec rfl (hb hbytes d11) rfl ?_
        exact Steps.refl _)
      have c4 : Steps p.tables e below (s₁.setTop (entryFrame m #[.ref b, .int (Int32.ofNat o), .ref d, .int (Int32.ofNat q), .int (Int32.ofNat len)] 7)) (Tl.setTop (mkF m 13 #[.val (.ref b), .val (.int (Int32.ofNat (o + i))), .val (.ref d), .val (.int (Int32.ofNat (q + i))), .val (.int (Int32.ofNat len)), .val (.int (Int32.ofNat i)), z] [.int (cv A (o + i))])) := c3.trans (by
        refine Xl.aget hexec hAl rfl (hA.get (i := o + i) (by omega)) rfl rfl (hb hbytes d12) ?_
        exact Steps.refl _)
      have c5 : Steps p.tables e below (s₁.setTop (entryFrame m #[.ref b, .int (Int32.ofNat o), .ref d, .int (Int32.ofNat q), .int (Int32.ofNat len)] 7)) (Tl.setTop (mkF m 15 #[.val (.ref b), .val (.int (Int32.ofNat (o + i))), .val (.ref d), .val (.int (Int32.ofNat (q + i))), .val (.int (Int32.ofNat len)), .val (.int (Int32.ofNat i)), .val (.int (cv A (o + i)))] [])) := c4.trans (by
        refine XS.istoreS Xl.here hexec rfl (hb hbytes d13) rfl rfl hz ?_
        exact Steps.refl _)
      have c6 : Steps p.tables e below (s₁.setTop (entryFrame m #[.ref b, .int (Int32.ofNat o), .ref d, .int (Int32.ofNat q), .int (Int32.ofNat len)] 7)) (Tl.setTop (mkF m 31 #[.val (.ref b), .val (.int (Int32.ofNat (o + i))), .val (.ref d), .val (.int (Int32.ofNat (q + i))), .val (.int (Int32.ofNat len)), .val (.int (Int32.ofNat i)), .val (.int (cv A (o + i)))] [.int (lo8 (cv A (o + i))), .int (Int32.ofNat (q + i)), .ref d])) := c5.trans (by
        refine XS.iload Xl.here hexec rfl (hb hbytes d15) rfl ?_
        refine sipushV Xl.here hexec rfl 255 (hb hbytes d17) (by decide) ?_
        refine XS.icmpYes Xl.here hexec rfl (pc0 := 20) rfl (hb hbytes d20) rfl (ii_le_t (hp i (by omega))) (by decide) rfl ?_
        refine XS.aloadN Xl.here hexec rfl (hb hbytes d26) rfl rfl ?_
        refine XS.iloadN Xl.here hexec rfl (hb hbytes d27) rfl ?_
        refine XS.iload Xl.here hexec rfl (hb hbytes d28) rfl ?_
        refine i2b Xl.here hexec rfl (hb hbytes d30) rfl ?_
        exact Steps.refl _)
      obtain ⟨T7, X7, p7, st7⟩ := Xl.aput hexec hBk rfl hlt rfl (fits_lo8 (cv A (o + i))) (g := (mkF m 31 #[.val (.ref b), .val (.int (Int32.ofNat (o + i))), .val (.ref d), .val (.int (Int32.ofNat (q + i))), .val (.int (Int32.ofNat len)), .val (.int (Int32.ofNat i)), .val (.int (cv A (o + i)))] [.int (lo8 (cv A (o + i))), .int (Int32.ofNat (q + i)), .ref d])) rfl (rest := []) rfl (hb hbytes d31)
      have c8 : Steps p.tables e below (s₁.setTop (entryFrame m #[.ref b, .int (Int32.ofNat o), .ref d, .int (Int32.ofNat q), .int (Int32.ofNat len)] 7)) (T7.setTop (mkF m 32 #[.val (.ref b), .val (.int (Int32.ofNat (o + i))), .val (.ref d), .val (.int (Int32.ofNat (q + i))), .val (.int (Int32.ofNat len)), .val (.int (Int32.ofNat i)), .val (.int (cv A (o + i)))] [])) := c6.trans (st7 _ (Steps.refl _))
      have c9 : Steps p.tables e below (s₁.setTop (entryFrame m #[.ref b, .int (Int32.ofNat o), .ref d, .int (Int32.ofNat q), .int (Int32.ofNat len)] 7)) (T7.setTop (mkF m 3 #[.val (.ref b), .val (.int (Int32.ofNat (o + i) + 1)), .val (.ref d), .val (.int (Int32.ofNat (q + i) + 1)), .val (.int (Int32.ofNat len)), .val (.int (Int32.ofNat i + 1)), .val (.int (cv A (o + i)))] [])) := c8.trans (by
        refine iincV X7.here hexec rfl 1 (hb hbytes d32) (by decide) rfl rfl ?_
        refine iincV X7.here hexec rfl 1 (hb hbytes d35) (by decide) rfl rfl ?_
        refine iincV X7.here hexec rfl 1 (hb hbytes d38) (by decide) rfl rfl ?_
        refine XS.goto X7.here hexec rfl (pc0 := 41) rfl (hb hbytes d41) (by decide) rfl ?_
        exact Steps.refl _)
      have c10 : Steps p.tables e below (s₁.setTop (entryFrame m #[.ref b, .int (Int32.ofNat o), .ref d, .int (Int32.ofNat q), .int (Int32.ofNat len)] 7)) (T7.setTop (mkF m 3 #[.val (.ref b), .val (.int (Int32.ofNat (o + (i + 1)))), .val (.ref d), .val (.int (Int32.ofNat (q + (i + 1)))), .val (.int (Int32.ofNat len)), .val (.int (Int32.ofNat (i + 1))), .val (.int (cv A (o + i)))] [])) := by
        have := c9
        rw [succ32, succ32, succ32] at this
        exact this
      exact ih (i + 1) (by omega) _ (Or.inr ⟨_, rfl, rfl⟩) T7 _ (by rw [copyLocs_step, ← List.append_assoc]; exact X7) (pl.trans p7) (fl.step (by omega) hlt (by simp)) c10
  obtain ⟨T9, B9, z9, X9, p9, f9, g9⟩ := loop len 0 (by omega) .unset (Or.inl rfl) s₁ B (by simpa [copyLocs] using X0) ⟨hB0.1, fun _ _ => rfl, rfl⟩ (Laid.zero _ _ _) c2
  have c11 : Steps p.tables e below (s₁.setTop (entryFrame m #[.ref b, .int (Int32.ofNat o), .ref d, .int (Int32.ofNat q), .int (Int32.ofNat len)] 7)) (T9.setTop (mkF m 46 #[.val (.ref b), .val (.int (Int32.ofNat (o + len))), .val (.ref d), .val (.int (Int32.ofNat (q + len))), .val (.int (Int32.ofNat len)), .val (.int (Int32.ofNat len)), z9] [.int (Int32.ofNat len)])) := g9.trans (by
    refine XS.iload X9.here hexec rfl (hb hbytes d3) rfl ?_
    refine XS.iload X9.here hexec rfl (hb hbytes d5) rfl ?_
    refine XS.icmpYes X9.here hexec rfl (pc0 := 7) rfl (hb hbytes d7) rfl (ii_ge_t (nlt32 (by omega) (Nat.le_refl _))) (by decide) rfl ?_
    refine XS.iload X9.here hexec rfl (hb hbytes d44) rfl ?_
    exact Steps.refl _)
  exact ⟨T9, some (.int (Int32.ofNat len)), _, _, _, X9, by simp, rfl, rfl, (fun h => by cases h), ⟨rfl, B9, p9.from hh0, f9⟩, fun fs hl => c11.trans (X9.ireturnOut hexec hret rfl (Or.inl rfl) (hb hbytes d46) hl)⟩
end Cmp5
namespace Cmp3
def yN : MethodName := ⟨"java/lang/StringUTF16", "compress", "([CII)[B"⟩
abbrev yB : ByteArray := jdk_52_method_16_code
theorem d0 : decode yB 0 = .ok (.iload_n 2, 1) := by decide +kernel
theorem d1 : decode yB 1 = .ok (.newarray .byte, 2) := by decide +kernel
theorem d3 : decode yB 3 = .ok (.astore_n 3, 1) := by decide +kernel
theorem d4 : decode yB 4 = .ok (.aload_n 0, 1) := by decide +kernel
theorem d5 : decode yB 5 = .ok (.iload_n 1, 1) := by decide +kernel
theorem d6 : decode yB 6 = .ok (.aload_n 3, 1) := by decide +kernel
theorem d7 : decode yB 7 = .ok (.iconst 0, 1) := by decide +kernel
theorem d8 : decode yB 8 = .ok (.iload_n 2, 1) := by decide +kernel
theorem d9 : decode yB 9 = .ok (.invokestatic 115, 3) := by decide +kernel
theorem d12 : decode yB 12 = .ok (.istore 4, 2) := by decide +kernel
theorem d14 : decode yB 14 = .ok (.iload 4, 2) := by decide +kernel
theorem d16 : decode yB 16 = .ok (.iload_n 2, 1) := by decide +kernel
theorem d17 : decode yB 17 = .ok (.if_icmp (.eq) 40, 3) := by decide +kernel
theorem d57 : decode yB 57 = .ok (.aload_n 3, 1) := by decide +kernel
theorem d58 : decode yB 58 = .ok (.areturn, 1) := by decide +kernel
def site : List Cond := [.arrayClass .byte, Cmp5.tab] ++ staticW U16 115 Cmp5.yN
def tab : Cond := tabOf yN yB 6 (some (.array .byte)) site
def P (b : Addr) (A : Cell) (o len : Nat) (args : Array Value) (s : State) : Prop := args = #[.ref b, .int (Int32.ofNat o), .int (Int32.ofNat len)] ∧ Ch b A s ∧ o + len ≤ A.slots.size ∧ len ≤ 536870912 ∧ ∀ i, i < len → ¬ 255 < cv A (o + i)
def E (b : Addr) (A : Cell) (o len : Nat) (r : Option Value) (s u : State) : Prop := NewArr .byte "[B" len (fun j => .int (lo8 (cv A (o + j)))) r s u ∧ u.heap.size = s.heap.size + 1
/-- no char of the range above 255: a new byte[] of their low bytes -/
theorem law (l : Launch) (b : Addr) (A : Cell) (o len : Nat) : Law l yN 3 3 1 18 yB 6 (some (.array .byte)) site (P b A o len) (E b A o len) [] 1 len := by
  refine Law.of_walk (plainFor_of_name (by decide +kernel)) (by decide +kernel) (by decide +kernel) (by decide) (fun _ _ h => by rw [h.1]; rfl) (fun _ U U' hal hh h => ⟨h.1, h.2.1.mv hal hh, h.2.2⟩) (fun r U U' V V' h1 hal h2 h => ⟨NewArr.mv r U U' V V' h1 hal h2 h.1, by rw [h1, h2]; exact h.2⟩) ?_
  intro p e s m args below meth c s₁ X0 hexec hbytes hml hret hlk hnm hown hh0 W hP
  obtain ⟨rfl, hA, l1, l2, hp⟩ := hP
  have a31 := hA.1.2.2.2
  have c1 : Steps p.tables e below (s₁.setTop (entryFrame m #[.ref b, .int (Int32.ofNat o), .int (Int32.ofNat len)] 6)) (s₁.setTop (mkF m 0 #[.val (.ref b), .val (.int (Int32.ofNat o)), .val (.int (Int32.ofNat len)), .unset, .unset, .unset] [])) := entry rfl
  have c2 : Steps p.tables e below (s₁.setTop (entryFrame m #[.ref b, .int (Int32.ofNat o), .int (Int32.ofNat len)] 6)) (s₁.setTop (mkF m 1 #[.val (.ref b), .val (.int (Int32.ofNat o)), .val (.int (Int32.ofNat len)), .unset, .unset, .unset] [.int (Int32.ofNat len)])) := c1.trans (by
    refine XS.iloadN X0.here hexec rfl (hb hbytes d0) rfl ?_
    exact Steps.refl _)
  obtain ⟨T3, B3, X3, ba3, bs3, bv3, bh3, bf3, st3⟩ := X0.anew hexec (atype := .byte) (wk W (.arrayClass .byte)) rfl (by show len * 1 ≤ _; omega) (by omega) (g := (mkF m 1 #[.val (.ref b), .val (.int (Int32.ofNat o)), .val (.int (Int32.ofNat len)), .unset, .unset, .unset] [.int (Int32.ofNat len)])) rfl (hb hbytes d1) (rest := []) rfl (Nat.le_refl _) (by show 0 + len ≤ len; omega)
  rw [hh0] at ba3 st3
  have kp3 : XT.Kept s T3 := (XT.Kept.of_eq hh0).push bh3
  have hA3 := hA.keep X3.warmed.alike (kp3 _ _ hA.1.1)
  have hne : b ≠ s.heap.size := hA.1.ne
  have c4 : Steps p.tables e below (s₁.setTop (entryFrame m #[.ref b, .int (Int32.ofNat o), .int (Int32.ofNat len)] 6)) (T3.setTop (mkF m 3 #[.val (.ref b), .val (.int (Int32.ofNat o)), .val (.int (Int32.ofNat len)), .unset, .unset, .unset] [.ref s.heap.size])) := c2.trans (st3 _ (Steps.refl _))
  have c5 : Steps p.tables e below (s₁.setTop (entryFrame m #[.ref b, .int (Int32.ofNat o), .int (Int32.ofNat len)] 6)) (T3.setTop (mkF m 9 #[.val (.ref b), .val (.int (Int32.ofNat o)), .val (.int (Int32.ofNat len)), .val (.ref s.heap.size), .unset, .unset] [.int (Int32.ofNat len), .int 0, .ref s.heap.size, .int (Int32.ofNat o), .ref b])) := c4.trans (by
    refine XS.astoreN X3.here hexec rfl (hb hbytes d3) rfl rfl rfl ?_
    refine XS.aloadN X3.here hexec rfl (hb hbytes d4) rfl rfl ?_
    refine XS.iloadN X3.here hexec rfl (hb hbytes d5) rfl ?_
    refine XS.aloadN X3.here hexec rfl (hb hbytes d6) rfl rfl ?_
    refine iconstV X3.here hexec rfl 0 (hb hbytes d7) (by decide) ?_
    refine XS.iloadN X3.here hexec rfl (hb hbytes d8) rfl ?_
    exact Steps.refl _)
  obtain ⟨v6, T6, X6, E6, g6⟩ := X3.callS hexec (Cmp5.law l b A s.heap.size B3 o 0 len) hown (wks W (staticW U16 115 Cmp5.yN)) (wk W Cmp5.tab) (W := 0) (Nat.le_of_ble_eq_true rfl) (Nat.le_of_ble_eq_true rfl) (Nat.le_refl _) (by show 0 + len + 0 ≤ len; omega) (g := (mkF m 9 #[.val (.ref b), .val (.int (Int32.ofNat o)), .val (.int (Int32.ofNat len)), .val (.ref s.heap.size), .unset, .unset] [.int (Int32.ofNat len), .int (Int32.ofNat 0), .ref s.heap.size, .int (Int32.ofNat o), .ref b])) rfl (by rw [hml]; rfl) c5 (argsL := [.ref b, .int (Int32.ofNat o), .ref s.heap.size, .int (Int32.ofNat 0), .int (Int32.ofNat len)]) (rest := []) rfl rfl (by show 2 * 0 + 0 ≤ _; decide) (hb hbytes d9) (⟨rfl, hA3, ba3, hne, l1, by rw [bs3]; simp, hp⟩)
  obtain ⟨rfl, B6, p6, f6⟩ := E6
  have c7 : Steps p.tables e below (s₁.setTop (entryFrame m #[.ref b, .int (Int32.ofNat o), .int (Int32.ofNat len)] 6)) (T6.setTop (mkF m 12 #[.val (.ref b), .val (.int (Int32.ofNat o)), .val (.int (Int32.ofNat len)), .val (.ref s.heap.size), .unset, .unset] [.int (Int32.ofNat len)])) := g6
  have c8 : Steps p.tables e below (s₁.setTop (entryFrame m #[.ref b, .int (Int32.ofNat o), .int (Int32.ofNat len)] 6)) (T6.setTop (mkF m 58 #[.val (.ref b), .val (.int (Int32.ofNat o)), .val (.int (Int32.ofNat len)), .val (.ref s.heap.size), .val (.int (Int32.ofNat len)), .unset] [.ref s.heap.size])) := c7.trans (by
    refine XS.istore X6.here hexec rfl (hb hbytes d12) rfl rfl ?_
    refine XS.iload X6.here hexec rfl (hb hbytes d14) rfl ?_
    refine XS.iloadN X6.here hexec rfl (hb hbytes d16) rfl ?_
    refine XS.icmpYes X6.here hexec rfl (pc0 := 17) rfl (hb hbytes d17) rfl (ii_eq_t rfl) (by decide) rfl ?_
    refine XS.aloadN X6.here hexec rfl (hb hbytes d57) rfl rfl ?_
    exact Steps.refl _)
  have X8 := X6.wide (L' := []) (cells' := 1) (slots' := len) (fun x hx hlt => by
    simp only [List.nil_append, copyLocs, List.mem_map, List.mem_range] at hx
    obtain ⟨i, -, rfl⟩ := hx
    exact absurd hlt (Nat.lt_irrefl _)) (Nat.le_refl _) (by omega)
  exact ⟨T6, some (.ref s.heap.size), _, _, _, X8, rfl, rfl, rfl, (fun h => by cases h), ⟨⟨rfl, B6, ba3.like (X3.warmed.alike.symm.trans X6.warmed.alike) p6.1 f6.1 f6.2.1 f6.2.2.1, f6.2.1.trans bv3, by rw [X6.warmed.alike.findClass, f6.1]; exact bf3, by rw [f6.2.2.1, bs3]; simp, fun j hj => by rw [f6.2.2.2 j, if_pos (by omega)]; rfl, kp3.put p6 (Nat.le_refl _)⟩, by rw [p6.2.2, bh3, hh0]; simp⟩, fun fs hl => c8.trans (X8.areturnOut hexec rfl hret rfl (hb hbytes d58) hl)⟩
end Cmp3
namespace CodL
def yN : MethodName := ⟨"java/lang/StringUTF16", "coderFromArrayLen", "([BI)B"⟩
abbrev yB : ByteArray := jdk_52_method_15_code
theorem d0 : decode yB 0 = .ok (.iload_n 1, 1) := by decide +kernel
theorem d1 : decode yB 1 = .ok (.aload_n 0, 1) := by decide +kernel
theorem d2 : decode yB 2 = .ok (.arraylength, 1) := by decide +kernel
theorem d3 : decode yB 3 = .ok (.isub, 1) := by decide +kernel
theorem d4 : decode yB 4 = .ok (.bipush 31, 2) := by decide +kernel
theorem d6 : decode yB 6 = .ok (.iushr, 1) := by decide +kernel
theorem d7 : decode yB 7 = .ok (.i2b, 1) := by decide +kernel
theorem d8 : decode yB 8 = .ok (.ireturn, 1) := by decide +kernel
def site : List Cond := []
def tab : Cond := tabOf yN yB 2 (some .byte) site
def P (d : Addr) (B : Cell) (args : Array Value) (s : State) : Prop := args = #[.ref d, .int (Int32.ofNat B.slots.size)] ∧ Arr .byte d B s
def E (r : Option Value) (s u : State) : Prop := XT.PureE (some (.int 0)) r s u
/-- an array as long as the number of chars: LATIN1 -/
theorem law (l : Launch) (d : Addr) (B : Cell) : Law l yN 2 2 0 0 yB 2 (some .byte) site (P d B) E [] 0 0 := by
  refine Law.of_walk (plainFor_of_name (by decide +kernel)) (by decide +kernel) (by decide +kernel) (by decide) (fun _ _ h => by rw [h.1]; rfl) (fun _ U U' hal hh h => ⟨h.1, h.2.mv hal hh⟩) (fun r U U' V V' h1 hal h2 h => XT.PureE.mv r U U' V V' h1 hal h2 h) ?_
  intro p e s m args below meth c s₁ X0 hexec hbytes hml hret hlk hnm hown hh0 W hP
  obtain ⟨rfl, hB⟩ := hP
  have hB0 := hB.mv X0.warmed.alike hh0
  have c1 : Steps p.tables e below (s₁.setTop (entryFrame m #[.ref d, .int (Int32.ofNat B.slots.size)] 2)) (s₁.setTop (mkF m 0 #[.val (.ref d), .val (.int (Int32.ofNat B.slots.size))] [])) := entry rfl
  have c2 : Steps p.tables e below (s₁.setTop (entryFrame m #[.ref d, .int (Int32.ofNat B.slots.size)] 2)) (s₁.setTop (mkF m 2 #[.val (.ref d), .val (.int (Int32.ofNat B.slots.size))] [.ref d, .int (Int32.ofNat B.slots.size)])) := c1.trans (by
    refine XS.iloadN X0.here hexec rfl (hb hbytes d0) rfl ?_
    refine XS.aloadN X0.here hexec rfl (hb hbytes d1) rfl rfl ?_
    exact Steps.refl _)
  have c3 : Steps p.tables e below (s₁.setTop (entryFrame m #[.ref d, .int (Int32.ofNat B.slots.size)] 2)) (s₁.setTop (mkF m 8 #[.val (.ref d), .val (.int (Int32.ofNat B.slots.size))] [.int (lo8 (ushr (Int32.ofNat B.slots.size - Int32.ofNat B.slots.size) 31))])) := c2.trans (by
    refine X0.alen hexec hB0 rfl rfl (hb hbytes d2) ?_
    refine XS.isub X0.here hexec rfl (hb hbytes d3) rfl ?_
    refine bipushV X0.here hexec rfl 31 (hb hbytes d4) (by decide) ?_
    refine iushr X0.here hexec rfl (hb hbytes d6) rfl ?_
    refine i2b X0.here hexec rfl (hb hbytes d7) rfl ?_
    exact Steps.refl _)
  have e0 : lo8 (ushr (Int32.ofNat B.slots.size - Int32.ofNat B.slots.size) 31) = 0 := by rw [Int32.sub_self]; decide
  rw [e0] at c3
  exact ⟨s₁, some (.int 0), _, _, _, X0, rfl, rfl, rfl, (fun h => by cases h), ⟨rfl, hh0⟩, fun fs hl => c3.trans (X0.ireturnOut hexec hret rfl (Or.inr (Or.inr (Or.inl rfl))) (hb hbytes d8) hl)⟩
end CodL
/-- the String at a is Latin-1 over a new byte[] (the heap's one new cell): the low bytes of the len chars of A from o on; every cell but a is kept -/
def Got (a : Addr) (D : Cell) (fV fC : Field) (A : Cell) (o len : Nat) (r : Option Value) (s u : State) : Prop := r = none ∧ ∃ D' V : Cell, Blank "java/lang/String" a D' u ∧ Same D D' [fV.slot, fC.slot] ∧ D'.slots[fV.slot]? = some (.ref s.heap.size) ∧ D'.slots[fC.slot]? = some (.int 0) ∧ Arr .byte s.heap.size V u ∧ V.vm = .none ∧ u.vm.findClass "[B" = some V.cls ∧ V.slots.size = len ∧ (∀ j, j < len → V.slots[j]? = some (.int (lo8 (cv A (o + j))))) ∧ (∀ (y : Addr) (c : Cell), y ≠ a → s.heap[y]? = some c → u.heap[y]? = some c) ∧ u.heap.size = s.heap.size + 1
theorem Got.mv {a : Addr} {D A : Cell} {fV fC : Field} {o len : Nat} : ∀ r (U U' V V' : State), U'.heap = U.heap → V.vm.Alike V'.vm → V'.heap = V.heap → Got a D fV fC A o len r U V → Got a D fV fC A o len r U' V' :=
  fun r U U' V V' h1 hal h2 ⟨e0, D', X, a1, a2, a3, a4, a5, a6, a7, a8, a9, a10, a11⟩ => ⟨e0, D', X, a1.mv hal h2, a2, by rw [h1]; exact a3, a4, by rw [h1]; exact a5.mv hal h2, a6, by rw [hal.findClass]; exact a7, a8, a9, by rw [h1, h2]; exact a10, by rw [h1, h2]; exact a11⟩
namespace New4
def yN : MethodName := ⟨"java/lang/String", "<init>", "([CIILjava/lang/Void;)V"⟩
abbrev yB : ByteArray := jdk_42_method_149_code
theorem d0 : decode yB 0 = .ok (.aload_n 0, 1) := by decide +kernel
theorem d1 : decode yB 1 = .ok (.invokespecial 1, 3) := by decide +kernel
theorem d4 : decode yB 4 = .ok (.iload_n 3, 1) := by decide +kernel
theorem d5 : decode yB 5 = .ok (.ifCond (.ne) 22, 3) := by decide +kernel
theorem d27 : decode yB 27 = .ok (.getstatic 38, 3) := by decide +kernel
theorem d30 : decode yB 30 = .ok (.ifCond (.eq) 28, 3) := by decide +kernel
theorem d33 : decode yB 33 = .ok (.aload_n 1, 1) := by decide +kernel
theorem d34 : decode yB 34 = .ok (.iload_n 2, 1) := by decide +kernel
theorem d35 : decode yB 35 = .ok (.iload_n 3, 1) := by decide +kernel
theorem d36 : decode yB 36 = .ok (.invokestatic 177, 3) := by decide +kernel
theorem d39 : decode yB 39 = .ok (.astore 5, 2) := by decide +kernel
theorem d41 : decode yB 41 = .ok (.aload_n 0, 1) := by decide +kernel
theorem d42 : decode yB 42 = .ok (.aload 5, 2) := by decide +kernel
theorem d44 : decode yB 44 = .ok (.iload_n 3, 1) := by decide +kernel
theorem d45 : decode yB 45 = .ok (.invokestatic 47, 3) := by decide +kernel
theorem d48 : decode yB 48 = .ok (.putfield 15, 3) := by decide +kernel
theorem d51 : decode yB 51 = .ok (.aload_n 0, 1) := by decide +kernel
theorem d52 : decode yB 52 = .ok (.aload 5, 2) := by decide +kernel
theorem d54 : decode yB 54 = .ok (.putfield 9, 3) := by decide +kernel
theorem d57 : decode yB 57 = .ok (.return_, 1) := by decide +kernel
def site : List Cond := [.fieldLink "java/lang/String" 38 "java/lang/String" "COMPACT_STRINGS" "Z", Cmp3.tab, CodL.tab, .laysFinal "java/lang/String" "java/lang/String" "value" "[B", .fieldLink "java/lang/String" 9 "java/lang/String" "value" "[B", .laysFinal "java/lang/String" "java/lang/String" "coder" "B", .fieldLink "java/lang/String" 15 "java/lang/String" "coder" "B"] ++ objW "java/lang/String" 1 ++ staticW "java/lang/String" 177 Cmp3.yN ++ staticW "java/lang/String" 47 CodL.yN
def tab : Cond := tabOf yN yB 6 none site
def P (a : Addr) (D : Cell) (fV fC : Field) (b : Addr) (A : Cell) (z : Int32) (o len : Nat) (args : Array Value) (s : State) : Prop := args = #[.ref a, .ref b, .int (Int32.ofNat o), .int (Int32.ofNat len), .null] ∧ Blank "java/lang/String" a D s ∧ Found "java/lang/String" "value" "[B" fV s ∧ Found "java/lang/String" "coder" "B" fC s ∧ Ch b A s ∧ StaticIs s "java/lang/String" "COMPACT_STRINGS" "Z" (.int z) ∧ ¬ z = 0 ∧ 0 < len ∧ o + len ≤ A.slots.size ∧ len ≤ 536870912 ∧ ∀ i, i < len → ¬ 255 < cv A (o + i)
def E (a : Addr) (D : Cell) (fV fC : Field) (A : Cell) (o len : Nat) (r : Option Value) (s u : State) : Prop := Got a D fV fC A o len r s u
/-- len > 0, no char of the range above 255: a Latin-1 String of their low bytes -/
theorem law (l : Launch) (a : Addr) (D : Cell) (fV fC : Field) (b : Addr) (A : Cell) (z : Int32) (o len : Nat) : Law l yN 5 4 2 35 yB 6 none site (P a D fV fC b A z o len) (E a D fV fC A o len) [⟨a, fC.slot⟩, ⟨a, fV.slot⟩] 1 len := by
  refine Law.of_walk (plainFor_of_name (by decide +kernel)) (by decide +kernel) (by decide +kernel) (by decide) (fun _ _ h => by rw [h.1]; rfl) (fun _ U U' hal hh h => ⟨h.1, h.2.1.mv hal hh, h.2.2.1.al hal, h.2.2.2.1.al hal, h.2.2.2.2.1.mv hal hh, h.2.2.2.2.2.1.there hal hh, h.2.2.2.2.2.2⟩) (fun r U U' V V' h1 hal h2 h => Got.mv r U U' V V' h1 hal h2 h) ?_
  intro p e s m args below meth c s₁ X0 hexec hbytes hml hret hlk hnm hown hh0 W hP
  obtain ⟨rfl, hB, f1, f2, hA, s1, hz, l0, l1, l2, hp⟩ := hP
  have a31 := hA.1.2.2.2
  have c1 : Steps p.tables e below (s₁.setTop (entryFrame m #[.ref a, .ref b, .int (Int32.ofNat o), .int (Int32.ofNat len), .null] 6)) (s₁.setTop (mkF m 0 #[.val (.ref a), .val (.ref b), .val (.int (Int32.ofNat o)), .val (.int (Int32.ofNat len)), .val .null, .unset] [])) := entry rfl
  have c2 : Steps p.tables e below (s₁.setTop (entryFrame m #[.ref a, .ref b, .int (Int32.ofNat o), .int (Int32.ofNat len), .null] 6)) (s₁.setTop (mkF m 1 #[.val (.ref a), .val (.ref b), .val (.int (Int32.ofNat o)), .val (.int (Int32.ofNat len)), .val .null, .unset] [.ref a])) := c1.trans (by
    refine XS.aloadN X0.here hexec rfl (hb hbytes d0) rfl rfl ?_
    exact Steps.refl _)
  obtain ⟨T3, X3, q3, st3⟩ := X0.oinit hexec hown (wks W (objW "java/lang/String" 1)) (g := (mkF m 1 #[.val (.ref a), .val (.ref b), .val (.int (Int32.ofNat o)), .val (.int (Int32.ofNat len)), .val .null, .unset] [.ref a])) rfl (by rw [hml]; rfl) (rest := []) rfl (hb hbytes d1) (W := 0) (by show 2 * 0 + 0 ≤ _; decide) (Nat.le_of_ble_eq_true rfl) (Nat.le_of_ble_eq_true rfl)
  have hh3 := q3.trans hh0
  have c4 : Steps p.tables e below (s₁.setTop (entryFrame m #[.ref a, .ref b, .int (Int32.ofNat o), .int (Int32.ofNat len), .null] 6)) (T3.setTop (mkF m 27 #[.val (.ref a), .val (.ref b), .val (.int (Int32.ofNat o)), .val (.int (Int32.ofNat len)), .val .null, .unset] [])) := (c2.trans (st3 _ (Steps.refl _))).trans (by
    refine XS.iloadN X3.here hexec rfl (hb hbytes d4) rfl ?_
    refine XS.ifYes X3.here hexec rfl (pc0 := 5) rfl (hb hbytes d5) rfl (i0_ne_t (nz32 (by omega) l0)) (by decide) rfl ?_
    exact Steps.refl _)
  obtain ⟨T5, X5, q5, st5⟩ := X3.sget hexec hown (wk W (.fieldLink "java/lang/String" 38 "java/lang/String" "COMPACT_STRINGS" "Z")) s1 (fun _ _ h => by rw [hh3]; exact h) (g := (mkF m 27 #[.val (.ref a), .val (.ref b), .val (.int (Int32.ofNat o)), .val (.int (Int32.ofNat len)), .val .null, .unset] [])) rfl (hb hbytes d27)
  have hh5 := q5.trans hh3
  have c6 : Steps p.tables e below (s₁.setTop (entryFrame m #[.ref a, .ref b, .int (Int32.ofNat o), .int (Int32.ofNat len), .null] 6)) (T5.setTop (mkF m 30 #[.val (.ref a), .val (.ref b), .val (.int (Int32.ofNat o)), .val (.int (Int32.ofNat len)), .val .null, .unset] [.int z])) := c4.trans (st5 _ (Steps.refl _))
  have c7 : Steps p.tables e below (s₁.setTop (entryFrame m #[.ref a, .ref b, .int (Int32.ofNat o), .int (Int32.ofNat len), .null] 6)) (T5.setTop (mkF m 36 #[.val (.ref a), .val (.ref b), .val (.int (Int32.ofNat o)), .val (.int (Int32.ofNat len)), .val .null, .unset] [.int (Int32.ofNat len), .int (Int32.ofNat o), .ref b])) := c6.trans (by
    refine XS.ifNo X5.here hexec rfl (hb hbytes d30) rfl (i0_eq_f hz) ?_
    refine XS.aloadN X5.here hexec rfl (hb hbytes d33) rfl rfl ?_
    refine XS.iloadN X5.here hexec rfl (hb hbytes d34) rfl ?_
    refine XS.iloadN X5.here hexec rfl (hb hbytes d35) rfl ?_
    exact Steps.refl _)
  obtain ⟨v8, T8, X8, E8, g8⟩ := X5.callS hexec (Cmp3.law l b A o len) hown (wks W (staticW "java/lang/String" 177 Cmp3.yN)) (wk W Cmp3.tab) (W := 0) (Nat.le_of_ble_eq_true rfl) (Nat.le_of_ble_eq_true rfl) (Nat.le_refl _) (by show 0 + len ≤ len; omega) (g := (mkF m 36 #[.val (.ref a), .val (.ref b), .val (.int (Int32.ofNat o)), .val (.int (Int32.ofNat len)), .val .null, .unset] [.int (Int32.ofNat len), .int (Int32.ofNat o), .ref b])) rfl (by rw [hml]; rfl) c7 (argsL := [.ref b, .int (Int32.ofNat o), .int (Int32.ofNat len)]) (rest := []) rfl rfl (by show 2 * 0 + 0 ≤ _; decide) (hb hbytes d36) (⟨rfl, hA.mv X5.warmed.alike hh5, l1, l2, hp⟩)
  obtain ⟨e8, z8⟩ := E8
  obtain ⟨rfl, N, n1, n2, n3, n4, n5, n6⟩ := NewArr.mv _ T5 s _ _ hh5.symm (Vm.Alike.refl _) rfl e8
  rw [hh5] at z8
  have hB1 := hB.keep X8.warmed.alike (n6 _ _ hB.1)
  have hne : s.heap.size ≠ a := (Nat.ne_of_lt (Array.getElem?_eq_some_iff.mp hB.1).1).symm
  have c9 : Steps p.tables e below (s₁.setTop (entryFrame m #[.ref a, .ref b, .int (Int32.ofNat o), .int (Int32.ofNat len), .null] 6)) (T8.setTop (mkF m 39 #[.val (.ref a), .val (.ref b), .val (.int (Int32.ofNat o)), .val (.int (Int32.ofNat len)), .val .null, .unset] [.ref s.heap.size])) := g8
  have c10 : Steps p.tables e below (s₁.setTop (entryFrame m #[.ref a, .ref b, .int (Int32.ofNat o), .int (Int32.ofNat len), .null] 6)) (T8.setTop (mkF m 45 #[.val (.ref a), .val (.ref b), .val (.int (Int32.ofNat o)), .val (.int (Int32.ofNat len)), .val .null, .val (.ref s.heap.size)] [.int (Int32.ofNat N.slots.size), .ref s.heap.size, .ref a])) := by
    have hc : Steps p.tables e below (s₁.setTop (entryFrame m #[.ref a, .ref b, .int (Int32.ofNat o), .int (Int32.ofNat len), .null] 6)) (T8.setTop (mkF m 45 #[.val (.ref a), .val (.ref b), .val (.int (Int32.ofNat o)), .val (.int (Int32.ofNat len)), .val .null, .val (.ref s.heap.size)] [.int (Int32.ofNat len), .ref s.heap.size, .ref a])) := c9.trans (by
      refine XS.astore X8.here hexec rfl (hb hbytes d39) rfl rfl rfl ?_
      refine XS.aloadN X8.here hexec rfl (hb hbytes d41) rfl rfl ?_
      refine XS.aload X8.here hexec rfl (hb hbytes d42) rfl rfl ?_
      refine XS.iloadN X8.here hexec rfl (hb hbytes d44) rfl ?_
      exact Steps.refl _)
    rw [n4]; exact hc
  obtain ⟨v11, T11, X11, E11, g11⟩ := X8.callS hexec (CodL.law l s.heap.size N) hown (wks W (staticW "java/lang/String" 47 CodL.yN)) (wk W CodL.tab) (W := 1) (Nat.le_of_ble_eq_true rfl) (Nat.le_of_ble_eq_true rfl) (Nat.le_refl _) (by show 0 + len + 0 ≤ len; omega) (g := (mkF m 45 #[.val (.ref a), .val (.ref b), .val (.int (Int32.ofNat o)), .val (.int (Int32.ofNat len)), .val .null, .val (.ref s.heap.size)] [.int (Int32.ofNat N.slots.size), .ref s.heap.size, .ref a])) rfl (by rw [hml]; rfl) c10 (argsL := [.ref s.heap.size, .int (Int32.ofNat N.slots.size)]) (rest := [.ref a]) rfl rfl (by show 2 * 0 + (1 + 0) ≤ _; decide) (hb hbytes d45) (⟨rfl, n1⟩)
  obtain ⟨rfl, q11⟩ := E11
  have hB11 := hB1.mv (X8.warmed.alike.symm.trans X11.warmed.alike) q11
  have c12 : Steps p.tables e below (s₁.setTop (entryFrame m #[.ref a, .ref b, .int (Int32.ofNat o), .int (Int32.ofNat len), .null] 6)) (T11.setTop (mkF m 48 #[.val (.ref a), .val (.ref b), .val (.int (Int32.ofNat o)), .val (.int (Int32.ofNat len)), .val .null, .val (.ref s.heap.size)] [.int 0, .ref a])) := g11
  obtain ⟨T13, X13, p13, bl13, sl13, st13⟩ := X11.finit hexec hown (wk W (.fieldLink "java/lang/String" 15 "java/lang/String" "coder" "B")) (Or.inr ⟨_, (wk W (.laysFinal "java/lang/String" "java/lang/String" "coder" "B"))⟩) (Or.inl ⟨rfl, hnm⟩) f2 (Or.inl rfl) hB11 (t := .byte) (by decide +kernel) rfl (g := (mkF m 48 #[.val (.ref a), .val (.ref b), .val (.int (Int32.ofNat o)), .val (.int (Int32.ofNat len)), .val .null, .val (.ref s.heap.size)] [.int 0, .ref a])) rfl (rest := []) rfl (hb hbytes d48)
  have c14 : Steps p.tables e below (s₁.setTop (entryFrame m #[.ref a, .ref b, .int (Int32.ofNat o), .int (Int32.ofNat len), .null] 6)) (T13.setTop (mkF m 54 #[.val (.ref a), .val (.ref b), .val (.int (Int32.ofNat o)), .val (.int (Int32.ofNat len)), .val .null, .val (.ref s.heap.size)] [.ref s.heap.size, .ref a])) := (c12.trans (st13 _ (Steps.refl _))).trans (by
    refine XS.aloadN X13.here hexec rfl (hb hbytes d51) rfl rfl ?_
    refine XS.aload X13.here hexec rfl (hb hbytes d52) rfl rfl ?_
    exact Steps.refl _)
  obtain ⟨T15, X15, p15, bl15, sl15, st15⟩ := X13.finit hexec hown (wk W (.fieldLink "java/lang/String" 9 "java/lang/String" "value" "[B")) (Or.inr ⟨_, (wk W (.laysFinal "java/lang/String" "java/lang/String" "value" "[B"))⟩) (Or.inl ⟨rfl, hnm⟩) f1 (Or.inl rfl) bl13 (t := (.array .byte)) (by decide +kernel) rfl (g := (mkF m 54 #[.val (.ref a), .val (.ref b), .val (.int (Int32.ofNat o)), .val (.int (Int32.ofNat len)), .val .null, .val (.ref s.heap.size)] [.ref s.heap.size, .ref a])) rfl (rest := []) rfl (hb hbytes d54)
  have c16 : Steps p.tables e below (s₁.setTop (entryFrame m #[.ref a, .ref b, .int (Int32.ofNat o), .int (Int32.ofNat len), .null] 6)) (T15.setTop (mkF m 57 #[.val (.ref a), .val (.ref b), .val (.int (Int32.ofNat o)), .val (.int (Int32.ofNat len)), .val .null, .val (.ref s.heap.size)] [])) := c14.trans (st15 _ (Steps.refl _))
  have ap := apart (Or.inr ⟨_, (wk W (.laysFinal "java/lang/String" "java/lang/String" "value" "[B"))⟩) (Or.inr ⟨_, (wk W (.laysFinal "java/lang/String" "java/lang/String" "coder" "B"))⟩) f1 f2 (t₁ := .array .byte) (t₂ := .byte) (by decide +kernel) (by decide +kernel) (by decide)
  have al := X8.warmed.alike.symm.trans X15.warmed.alike
  have n7 : T11.heap[s.heap.size]? = some N := by rw [q11]; exact n1.1
  exact ⟨T15, none, _, _, _, X15, by simp, rfl, by omega, (fun _ => rfl), ⟨rfl, _, N, bl15, ((Same.refl D _).set _ (by simp)).set _ (by simp), sl15, (Cell.slots_setSlot_ne _ ap).trans sl13, n1.keep al (p15.other hne (p13.other hne n7)), n2, by rw [al.findClass]; exact n3, n4, n5, fun y c h1 h2 => p15.other h1 (p13.other h1 (by rw [q11]; exact n6 y c h2)), by rw [p15.2.2, p13.2.2, q11]; exact z8⟩, fun fs hl => c16.trans (X15.returnOut hexec hret (hb hbytes d57) hl)⟩
end New4
namespace New1
def yN : MethodName := ⟨"java/lang/String", "<init>", "([C)V"⟩
abbrev yB : ByteArray := jdk_42_method_3_code
theorem d0 : decode yB 0 = .ok (.aload_n 0, 1) := by decide +kernel
theorem d1 : decode yB 1 = .ok (.aload_n 1, 1) := by decide +kernel
theorem d2 : decode yB 2 = .ok (.iconst 0, 1) := by decide +kernel
theorem d3 : decode yB 3 = .ok (.aload_n 1, 1) := by decide +kernel
theorem d4 : decode yB 4 = .ok (.arraylength, 1) := by decide +kernel
theorem d5 : decode yB 5 = .ok (.aconst_null, 1) := by decide +kernel
theorem d6 : decode yB 6 = .ok (.invokespecial 27, 3) := by decide +kernel
theorem d9 : decode yB 9 = .ok (.return_, 1) := by decide +kernel
def site : List Cond := [New4.tab] ++ initW "java/lang/String" 27 New4.yN
def tab : Cond := tabOf yN yB 2 none site
def P (a : Addr) (D : Cell) (fV fC : Field) (b : Addr) (A : Cell) (z : Int32) (args : Array Value) (s : State) : Prop := args = #[.ref a, .ref b] ∧ Blank "java/lang/String" a D s ∧ Found "java/lang/String" "value" "[B" fV s ∧ Found "java/lang/String" "coder" "B" fC s ∧ Ch b A s ∧ StaticIs s "java/lang/String" "COMPACT_STRINGS" "Z" (.int z) ∧ ¬ z = 0 ∧ 0 < A.slots.size ∧ A.slots.size ≤ 536870912 ∧ ∀ i, i < A.slots.size → ¬ 255 < cv A i
def E (a : Addr) (D : Cell) (fV fC : Field) (A : Cell) (r : Option Value) (s u : State) : Prop := Got a D fV fC A 0 A.slots.size r s u
/-- new String(chars), not empty, no char above 255: a Latin-1 String of their low bytes -/
theorem law (l : Launch) (a : Addr) (D : Cell) (fV fC : Field) (b : Addr) (A : Cell) (z : Int32) : Law l yN 2 1 3 52 yB 2 none site (P a D fV fC b A z) (E a D fV fC A) [⟨a, fC.slot⟩, ⟨a, fV.slot⟩] 1 A.slots.size := by
  refine Law.of_walk (plainFor_of_name (by decide +kernel)) (by decide +kernel) (by decide +kernel) (by decide) (fun _ _ h => by rw [h.1]; rfl) (fun _ U U' hal hh h => ⟨h.1, h.2.1.mv hal hh, h.2.2.1.al hal, h.2.2.2.1.al hal, h.2.2.2.2.1.mv hal hh, h.2.2.2.2.2.1.there hal hh, h.2.2.2.2.2.2⟩) (fun r U U' V V' h1 hal h2 h => Got.mv r U U' V V' h1 hal h2 h) ?_
  intro p e s m args below meth c s₁ X0 hexec hbytes hml hret hlk hnm hown hh0 W hP
  obtain ⟨rfl, hB, f1, f2, hA, s1, hz, l0, l2, hp⟩ := hP
  have c1 : Steps p.tables e below (s₁.setTop (entryFrame m #[.ref a, .ref b] 2)) (s₁.setTop (mkF m 0 #[.val (.ref a), .val (.ref b)] [])) := entry rfl
  have c2 : Steps p.tables e below (s₁.setTop (entryFrame m #[.ref a, .ref b] 2)) (s₁.setTop (mkF m 6 #[.val (.ref a), .val (.ref b)] [.null, .int (Int32.ofNat A.slots.size), .int 0, .ref b, .ref a])) := c1.trans (by
    refine XS.aloadN X0.here hexec rfl (hb hbytes d0) rfl rfl ?_
    refine XS.aloadN X0.here hexec rfl (hb hbytes d1) rfl rfl ?_
    refine iconstV X0.here hexec rfl 0 (hb hbytes d2) (by decide) ?_
    refine XS.aloadN X0.here hexec rfl (hb hbytes d3) rfl rfl ?_
    refine X0.alen hexec (hA.1.mv X0.warmed.alike hh0) rfl rfl (hb hbytes d4) ?_
    refine XS.aconstNull X0.here hexec rfl (hb hbytes d5) ?_
    exact Steps.refl _)
  obtain ⟨v3, T3, X3, E3, g3⟩ := X0.callN hexec (New4.law l a D fV fC b A z 0 A.slots.size) rfl hown (wks W (initW "java/lang/String" 27 New4.yN)) (W New4.tab (by simp only [site, List.mem_cons, List.mem_append, true_or, or_true])) (W := 0) (Nat.le_of_ble_eq_true rfl) (Nat.le_of_ble_eq_true rfl) (Nat.le_refl _) (by show 0 + A.slots.size ≤ A.slots.size; omega) (g := (mkF m 6 #[.val (.ref a), .val (.ref b)] [.null, .int (Int32.ofNat A.slots.size), .int (Int32.ofNat 0), .ref b, .ref a])) rfl (by rw [hml]; rfl) c2 (argsL := [.ref b, .int (Int32.ofNat 0), .int (Int32.ofNat A.slots.size), .null]) (rest := []) rfl rfl (by show 2 * 0 + 0 ≤ _; decide) (hb hbytes d6) (⟨rfl, hB.mv X0.warmed.alike hh0, f1.al X0.warmed.alike, f2.al X0.warmed.alike, hA.mv X0.warmed.alike hh0, s1.there X0.warmed.alike hh0, hz, l0, by omega, l2, fun i hi => by rw [Nat.zero_add]; exact hp i hi⟩)
  have e0 := Got.mv _ s₁ s _ _ hh0.symm (Vm.Alike.refl _) rfl E3
  obtain rfl := e0.1
  have c4 : Steps p.tables e below (s₁.setTop (entryFrame m #[.ref a, .ref b] 2)) (T3.setTop (mkF m 9 #[.val (.ref a), .val (.ref b)] [])) := g3
  exact ⟨T3, none, _, _, _, X3, by simp, rfl, by omega, (fun _ => rfl), e0, fun fs hl => c4.trans (X3.returnOut hexec hret (hb hbytes d9) hl)⟩
theorem pays {l : Launch} {R : Room} {p : Program} {e : Env} {below : List Frame} {s : State} {sargs : Array Value} {len W : Nat} (a : Addr) (D : Cell) (fV fC : Field) (b : Addr) (A : Cell) (z : Int32) (htab : tab.before sargs s = true) (hfr : 4 ≤ R.frames) (hlo : W + 65 ≤ R.locals) :
    Back l R p e below s sargs yN len W (fun A₁ a₁ => A₁.cells + 1 ≤ R.cells ∧ A₁.slots + A.slots.size ≤ R.slots ∧ P a D fV fC b A z a₁ A₁.U) (fun A₁ _ v₁ B₁ => E a D fV fC A v₁ A₁.U B₁.U ∧ B₁.locs = A₁.locs ++ [⟨a, fC.slot⟩, ⟨a, fV.slot⟩] ∧ B₁.cells = A₁.cells + 1 ∧ B₁.slots = A₁.slots + A.slots.size) :=
  (law l a D fV fC b A z).pays htab hfr (by omega)
end New1
end StrChars
namespace StrChars.Road
open Jvm Sem ClassFile Op Lib Jvm.Stand Jvm.Free Jvm.Free.XT
open Jvm.Lib.Cold (StaticIs)
abbrev ST : String := "java/lang/String"
/-- every table word that New1's law asks, flat -/
abbrev words : List Jvm.Cond := [.code New1.yN New1.yB 2 none, .initialized ST, .methodLink ST 27 New4.yN, .instanceMethod New4.yN,
  .code New4.yN New4.yB 6 none, .fieldLink ST 38 ST "COMPACT_STRINGS" "Z", .laysFinal ST ST "value" "[B", .fieldLink ST 9 ST "value" "[B", .laysFinal ST ST "coder" "B", .fieldLink ST 15 ST "coder" "B",
  .methodLink ST 1 Lib.objectInit, .instanceMethod Lib.objectInit, .code Lib.objectInit ⟨#[0xb1]⟩ 1 none, .methodLink ST 177 Cmp3.yN, .static Cmp3.yN, .methodLink ST 47 CodL.yN, .static CodL.yN,
  .code Cmp3.yN Cmp3.yB 6 (some (.array .byte)), .initialized U16, .arrayClass .byte, .methodLink U16 115 Cmp5.yN, .static Cmp5.yN, .code Cmp5.yN Cmp5.yB 7 (some .int), .code CodL.yN CodL.yB 2 (some .byte)]
theorem tab_of {a : Array Value} {s : State} (h : ∀ w ∈ words, w.before a s = true) : New1.tab.before a s = true := by
  have h5 : Cmp5.tab.before a s = true := unparts (wk h (.code Cmp5.yN Cmp5.yB 7 (some .int))) (wks h (.initialized Cmp5.yN.cls :: Cmp5.site))
  have hc : CodL.tab.before a s = true := unparts (wk h (.code CodL.yN CodL.yB 2 (some .byte))) (wks h (.initialized CodL.yN.cls :: CodL.site))
  have q5 : ∀ w ∈ Cmp5.tab :: words, w.before a s = true := fun w hw => (List.mem_cons.mp hw).elim (fun e => e ▸ h5) (h w)
  have h3 : Cmp3.tab.before a s = true := unparts (wk q5 (.code Cmp3.yN Cmp3.yB 6 (some (.array .byte)))) (wks q5 (.initialized Cmp3.yN.cls :: Cmp3.site))
  have q3 : ∀ w ∈ Cmp3.tab :: CodL.tab :: words, w.before a s = true := fun w hw => (List.mem_cons.mp hw).elim (fun e => e ▸ h3) fun hw => (List.mem_cons.mp hw).elim (fun e => e ▸ hc) (h w)
  have h4 : New4.tab.before a s = true := unparts (wk q3 (.code New4.yN New4.yB 6 none)) (wks q3 (.initialized New4.yN.cls :: New4.site))
  have q4 : ∀ w ∈ New4.tab :: words, w.before a s = true := fun w hw => (List.mem_cons.mp hw).elim (fun e => e ▸ h4) (h w)
  exact unparts (wk q4 (.code New1.yN New1.yB 2 none)) (wks q4 (.initialized New1.yN.cls :: New1.site))
/-- the words ride from the start Z to the walk's own state -/
theorem moved {Z s : State} {a0 args : Array Value} (hZ : Z.Warmed39 s.vm) (hw : ∀ d ∈ words, d.before a0 Z = true) : ∀ d ∈ words, d.before args s = true := fun d hd => by
  have q := hw d hd
  have t : ∀ d ∈ words, d = .arrayClass .byte ∨ (d.onTables && d.keepsFace) = true := by decide +kernel
  rcases t d hd with rfl | t
  · exact RoadKit.mvA hZ q
  · exact RoadKit.mv hZ q t
/-- WHAT COMES BACK, over the tables of the start Z: h the heap at the call, h' behind it -/
def Q (Z : State) (x : Addr) (A : Cell) (h : Heap) (v : Option Value) (h' : Heap) (L : List Loc) : Prop := v = none ∧ (∀ y ∈ L, y.base = x) ∧ RoadKit.Keep h h' [x] ∧ h'.size = h.size + 1 ∧ RoadKit.Exa Z h' x ST ∧ RoadKit.Fld Z h' x ST "value" "[B" (.ref h.size) ∧ RoadKit.Fld Z h' x ST "coder" "B" (.int 0) ∧
  (∃ V : Cell, RoadKit.Arr Z h' h.size V .byte ∧ V.vm = .none ∧ Z.vm.findClass "[B" = some V.cls ∧ V.slots.size = A.slots.size ∧ ∀ j, j < A.slots.size → V.slots[j]? = some (.int (lo8 (cv A j)))) ∧
  ∀ (O n d : String) (w : Value), RoadKit.Fld Z h x O n d w → RoadKit.slotOf Z O n d ≠ RoadKit.slotOf Z ST "value" "[B" → RoadKit.slotOf Z O n d ≠ RoadKit.slotOf Z ST "coder" "B" → RoadKit.Fld Z h' x O n d w
/-- **new String(chars) AT A CALL, IN THE ROAD'S FORM**: for specialBack behind newO: x the fresh String, b the char[] with the cell A -/
theorem back {p : Program} {l : Launch} {e : Env} {R : Room} {s : State} {args : Array Value} {below : List Frame} {len W : Nat} {Z : State} {a0 : Array Value} {h : Heap} (hZ : Z.Warmed39 s.vm) (hw : ∀ d ∈ words, d.before a0 Z = true) {kI : Nat} (wi : (Jvm.Cond.instantiable ST kI).before a0 Z = true)
    {x b : Addr} {A : Cell} {z : Int32} {v0 c0 : Value} (E : RoadKit.Exa Z h x ST) (V : RoadKit.Fld Z h x ST "value" "[B" v0) (C : RoadKit.Fld Z h x ST "coder" "B" c0) (K : RoadKit.Arr Z h b A .char) (hty : Typed .char A) (S : RoadKit.Sta Z h ST "COMPACT_STRINGS" "Z" (.int z)) (hz : ¬ z = 0)
    (l0 : 0 < A.slots.size) (l2 : A.slots.size ≤ 536870912) (hp : ∀ i, i < A.slots.size → ¬ 255 < cv A i) (hfr : 4 ≤ R.frames) (hlo : W + 65 ≤ R.locals) :
    Back l R p e below s args New1.yN len W (fun P a => a = #[.ref x, .ref b] ∧ P.U.heap = h ∧ P.cells + 1 ≤ R.cells ∧ P.slots + A.slots.size ≤ R.slots)
      (fun P _ v B => ∃ L, Q Z x A h v B.U.heap L ∧ B.locs = P.locs ++ L ∧ B.cells = P.cells + 1 ∧ B.slots = P.slots + A.slots.size) := by
  intro m meth c P g ig mk a X hg hsize hdg hW hn hp'
  obtain ⟨rfl, rfl, r1, r2⟩ := hp'
  have al : Z.vm.Alike P.U.vm := hZ.alike.trans X.warmed.alike
  obtain ⟨D, cfV, kV, iV, fV, hD, gV, stV, knV, obV, asV, slV⟩ := id V
  obtain ⟨D', cfC, kC, iC, fC, hD', gC, stC, -, -, asC, slC⟩ := id C
  cases hD.symm.trans hD'
  obtain ⟨D2, kD, e1, e2, e3, e4, e5⟩ := id E
  cases hD.symm.trans e1
  obtain ⟨c2, k2, i1, i2, i3, -⟩ := Cond.instantiable_spec wi
  cases e2.symm.trans i1
  cases e3.symm.trans i2
  obtain ⟨kU, u1, u2⟩ := al.2.2 _ _ e3
  have hB : Blank ST x D P.U := ⟨hD, ⟨knV, fun q hq => by rw [hq] at obV; cases obV⟩, by rw [al.findClass]; exact e2, kU, u1, by rw [u2]; exact i3, by rw [u2]; exact e5 i3⟩
  have F1 : Found ST "value" "[B" fV P.U := ⟨SBG.found_only al ⟨cfV, kV, iV, gV⟩, stV⟩
  have F2 : Found ST "coder" "B" fC P.U := ⟨SBG.found_only al ⟨cfC, kC, iC, gC⟩, stC⟩
  have hA : Ch b A P.U := ⟨⟨K.1, State.isArrayOf_alike al K.2.1, K.2.2, by omega⟩, hty⟩
  have hS : StaticIs P.U ST "COMPACT_STRINGS" "Z" (.int z) := by
    obtain ⟨cfS, iS, kS, fS, st, cS, t1, t2, t3, t4, t5, t6, t7⟩ := S
    exact StaticIs.there (s := { Z with heap := P.U.heap }) ⟨cfS, iS, kS, fS, st, cS, t1, t2, t3, t4, t5, (fun q => by rw [q] at t6; cases t6), t7⟩ al rfl
  obtain ⟨v, B, X', ⟨⟨hv, E', V', q1, q2, q3, q4, q5, q6, q7, q8, q9, q10, q11⟩, hl, hc, hs⟩, st⟩ := New1.pays x D fV fC b A z (tab_of (moved hZ hw)) hfr hlo m meth c P g ig mk _ X hg hsize hdg hW hn ⟨r1, r2, rfl, hB, F1, F2, hA, hS, hz, l0, l2, hp⟩
  have al' : Z.vm.Alike B.U.vm := hZ.alike.trans X'.warmed.alike
  have hsz : E'.slots.size = D.slots.size := by
    obtain ⟨-, -, -, kB, w1, w2, w3⟩ := q1
    obtain ⟨kB', y1, y2⟩ := al'.2.2 _ _ e3
    rw [q2.2.1] at w1
    cases w1.symm.trans y1
    rw [w3, e5 i3, y2]
  refine ⟨v, B, X', ⟨_, ⟨hv, ?_, ⟨by omega, fun y cy hy hn' => q10 y cy (by simpa using hn') hy, fun y cy hy => ?_⟩, q11, ⟨E', _, q1.1, by rw [q2.2.1]; exact e2, by rw [q2.2.1]; exact e3, by rw [q2.1]; exact obV, fun _ => by rw [hsz]; exact e5 i3⟩,
    ⟨E', cfV, kV, iV, fV, q1.1, gV, stV, by rw [q2.1]; exact knV, by rw [q2.1]; exact obV, by rw [q2.2.1]; exact asV, q3⟩, ⟨E', cfC, kC, iC, fC, q1.1, gC, stC, by rw [q2.1]; exact knV, by rw [q2.1]; exact obV, by rw [q2.2.1]; exact asC, q4⟩,
    ⟨V', ⟨q5.1, State.isArrayOf_alike al'.symm q5.2.1, q5.2.2.1⟩, q6, by rw [← al'.findClass]; exact q7, q8, fun j hj => by have := q9 j hj; rwa [Nat.zero_add] at this⟩, fun O n d w F n1 n2 => ?_⟩, hl, hc, hs⟩, st⟩
  · intro y hy
    simp only [List.mem_cons, List.not_mem_nil, or_false] at hy
    rcases hy with rfl | rfl <;> rfl
  · by_cases q : y = x
    · subst q
      cases hD.symm.trans hy
      exact ⟨E', q1.1, q2.2.1, q2.1, hsz⟩
    · exact ⟨cy, q10 y cy q hy, rfl, rfl, rfl⟩
  · obtain ⟨D3, cf, k, i, f, g1, g2, g3, g4, g5, g6, g7⟩ := F
    cases hD.symm.trans g1
    simp only [RoadKit.slotOf, g2, gV, gC, Option.map_some, Option.getD_some] at n1 n2
    exact ⟨E', cf, k, i, f, q1.1, g2, g3, by rw [q2.1]; exact g4, by rw [q2.1]; exact g5, by rw [q2.2.1]; exact g6, by rw [q2.2.2 f.slot (by simp [n1, n2])]; exact g7⟩
end StrChars.Road
namespace StrChars.Road
open Jvm Sem ClassFile Op Lib Jvm.Stand Jvm.Free Jvm.Free.XT
/-- WHAT COMES BACK, the byte[] as a list of values -/
def QA (Z : State) (x : Addr) (zn : Int32) (cs : List Int32) (h : Heap) (v : Option Value) (h' : Heap) (L : List Loc) : Prop := v = none ∧ (∀ y ∈ L, y.base = x) ∧ RoadKit.Keep h h' [x] ∧ h'.size = h.size + 1 ∧ RoadKit.Exa Z h' x ST ∧ RoadKit.Fld Z h' x ST "value" "[B" (.ref h.size) ∧ RoadKit.Fld Z h' x ST "coder" "B" (.int 0) ∧
  (∃ kb, Z.vm.findClass "[B" = some kb ∧ RoadKit.Arv Z h' h.size kb .byte zn (cs.map fun c => .int (lo8 c)) (.int 0)) ∧
  ∀ (O n d : String) (w : Value), RoadKit.Fld Z h x O n d w → RoadKit.slotOf Z O n d ≠ RoadKit.slotOf Z ST "value" "[B" → RoadKit.slotOf Z O n d ≠ RoadKit.slotOf Z ST "coder" "B" → RoadKit.Fld Z h' x O n d w
/-- **new String(chars) AT A CALL, THE ARRAYS AS LISTS**: the char[] at b holds cs, not empty, no char above 255 -/
theorem backArv {p : Program} {l : Launch} {e : Env} {R : Room} {s : State} {args : Array Value} {below : List Frame} {len W : Nat} {Z : State} {a0 : Array Value} {h : Heap} (hZ : Z.Warmed39 s.vm) (hw : ∀ d ∈ words, d.before a0 Z = true) {kI : Nat} (wi : (Jvm.Cond.instantiable ST kI).before a0 Z = true)
    {x b : Addr} {k : ClassId} {zn z : Int32} {cs : List Int32} {dv v0 c0 : Value} (E : RoadKit.Exa Z h x ST) (V : RoadKit.Fld Z h x ST "value" "[B" v0) (C : RoadKit.Fld Z h x ST "coder" "B" c0) (K : RoadKit.Arv Z h b k .char zn (cs.map Value.int) dv) (S : RoadKit.Sta Z h ST "COMPACT_STRINGS" "Z" (.int z)) (hz : ¬ z = 0)
    (hlen : zn.toNatClampNeg = cs.length) (h0 : 0 < cs.length) (hbig : cs.length ≤ 536870912) (hall : ∀ c ∈ cs, ¬ 255 < c) (hfr : 4 ≤ R.frames) (hlo : W + 65 ≤ R.locals) :
    Back l R p e below s args New1.yN len W (fun P a => a = #[.ref x, .ref b] ∧ P.U.heap = h ∧ P.cells + 1 ≤ R.cells ∧ P.slots + cs.length ≤ R.slots)
      (fun P _ v B => ∃ L, QA Z x zn cs h v B.U.heap L ∧ B.locs = P.locs ++ L ∧ B.cells = P.cells + 1 ∧ B.slots = P.slots + cs.length) := by
  obtain ⟨A, K1, K2, K3, K4, K5, K6⟩ := K
  have e : A.slots.size = cs.length := K3.trans hlen
  have hat : ∀ (i : Nat) (hi : i < cs.length), A.slots[i]? = some (.int cs[i]) := fun i hi => by rw [K5 i (by omega)]; simp [List.getD_eq_getElem?_getD, hi]
  have hcv : ∀ (i : Nat) (hi : i < cs.length), cv A i = cs[i] := fun i hi => by unfold cv; rw [hat i hi]
  have hty : Typed .char A := fun i v hv => by
    have hi : i < A.slots.size := (Array.getElem?_eq_some_iff.mp hv).1
    have q := K5 i hi
    rw [hv] at q
    rw [Option.some.inj q]
    exact K6 i hi
  refine Back.mono (back hZ hw wi E V C K1 hty S hz (by omega) (by omega) (fun i hi => by rw [hcv i (by omega)]; exact hall _ (List.getElem_mem _)) hfr hlo) (fun P a hp => ⟨hp.1, hp.2.1, hp.2.2.1, by rw [e]; exact hp.2.2.2⟩) (fun P a v B hp hq => ?_)
  obtain ⟨L, ⟨q1, q2, q3, q4, q5, q6, q7, ⟨V', v1, v2, v3, v4, v5⟩, q9⟩, hl, hc, hs⟩ := hq
  refine ⟨L, ⟨q1, q2, q3, q4, q5, q6, q7, ⟨V'.cls, v3, V', v1, rfl, by rw [v4, e, hlen], K4, fun i hi => ?_, fun i hi => ?_⟩, q9⟩, hl, hc, by rw [hs, e]⟩
  · have hi' : i < cs.length := by omega
    rw [v5 i (by omega), hcv i hi']; simp [List.getD_eq_getElem?_getD, hi']
  · have hi' : i < cs.length := by omega
    simp only [List.getD_eq_getElem?_getD, List.getElem?_map, List.getElem?_eq_getElem hi', Option.map_some, Option.getD_some]
    exact fits_lo8 _
end StrChars.Road
namespace StrChars.Road
open Jvm Sem ClassFile Op Lib Jvm.Stand Jvm.Free Jvm.Free.XT
/-- WHAT COMES BACK, in the writer's own shape -/
def QV (Z : State) (x : Addr) (N : Int32) (bs : List Int32) (h : Heap) (n0 : Nat) (v : Option Value) (h' : Heap) (L : List Loc) : Prop := v = none ∧ RoadKit.Fr n0 L ∧ RoadKit.Keep h h' [x] ∧ RoadKit.Exa Z h' x ST ∧ RoadKit.Fld Z h' x ST "coder" "B" (.int 0) ∧
  ∃ (t : Addr) (kb : ClassId), n0 ≤ t ∧ h.size ≤ t ∧ ¬ t = x ∧ RoadKit.Fld Z h' x ST "value" "[B" (.ref t) ∧ RoadKit.Arv Z h' t kb .byte N (bs.map Value.int) (.int 0)
/-- **new String(chars) AT A CALL, FOR THE WRITER**: a char[] of n known ints, each 0 to 255 -/
theorem backV {p : Program} {l : Launch} {e : Env} {R : Room} {s : State} {args : Array Value} {below : List Frame} {len W : Nat} {Z : State} {a0 : Array Value} {h : Heap} (hZ : Z.Warmed39 s.vm) (hw : ∀ d ∈ words, d.before a0 Z = true) {kI : Nat} (wi : (Jvm.Cond.instantiable ST kI).before a0 Z = true)
    {x b : Addr} {kC : ClassId} {cs bs : List Int32} {d v0 c0 : Value} {z N : Int32} {n n0 : Nat} (hx0 : n0 ≤ x) (hh0 : n0 ≤ h.size) (E : RoadKit.Exa Z h x ST) (V : RoadKit.Fld Z h x ST "value" "[B" v0) (C : RoadKit.Fld Z h x ST "coder" "B" c0) (K : RoadKit.Arv Z h b kC .char N (cs.map Value.int) d) (S : RoadKit.Sta Z h ST "COMPACT_STRINGS" "Z" (.int z)) (hz : ¬ z = 0)
    (hn : cs.length = n) (hN : N = Int32.ofNat n) (l0 : 0 < n) (l2 : n ≤ 4000) (hp : ∀ c ∈ cs, ¬ c < 0 ∧ ¬ (255 : Int32) < c) (hb : bs = cs.map (fun c => c.toInt8.toInt32)) (hfr : 4 ≤ R.frames) (hlo : W + 65 ≤ R.locals) :
    Back l R p e below s args (⟨"java/lang/String", "<init>", "([C)V"⟩ : MethodName) len W (fun P a => a = #[.ref x, .ref b] ∧ P.U.heap = h ∧ P.cells + 1 ≤ R.cells ∧ P.slots + n ≤ R.slots)
      (fun P _ v B => ∃ L, QV Z x N bs h n0 v B.U.heap L ∧ B.locs = P.locs ++ L ∧ B.cells = P.cells + 1 ∧ B.slots = P.slots + n) := by
  subst hn hN hb
  refine Back.mono (backArv hZ hw wi E V C K S hz (n32 (by omega)) l0 (by omega) (fun c hc => (hp c hc).2) hfr hlo) (fun P a hp => hp) (fun P a v B hp hq => ?_)
  obtain ⟨L, ⟨q1, q2, q3, q4, q5, q6, q7, ⟨kb, v1, v2⟩, q9⟩, hl, hc, hs⟩ := hq
  exact ⟨L, ⟨q1, fun y hy => by rw [q2 y hy]; exact hx0, q3, q5, q7, h.size, kb, hh0, Nat.le_refl _, Nat.ne_of_gt E.lt, q6, by rw [List.map_map]; exact v2⟩, hl, hc, hs⟩
end StrChars.Road
end Jvm.Pilot.@@N@@

namespace Jvm.Pilot.@@N@@
open Jvm Jvm.ClassFile Sem Op Lib Jvm.Free Jvm.Stand Jvm.LawKit Jvm.RoadKit Bundle Jvm.Pilot.@@N@@.Jvm.D
/-! the walk in continuation form: from T with the frame g on top the run comes to an end that says Q -/
def Go (p : Program) (e : Env) (below : List Frame) (s : State) (C S : Nat) (Q : Option Value → Heap → List Loc → Prop) (T : State) (g : JFrame) : Prop :=
  ∃ s₂ o, Steps p.tables e below (T.setTop g) s₂ ∧ s₂.status = .running ∧ Ended s₂ below o ∧ ∃ v L, o = .returned v ∧ Q v s₂.heap L ∧ FrameEnd s o s₂ L C S
section GoKit
variable {p : Program} {l : Launch} {e : Env} {R : Room} {s : State} {m : MethodId} {args : Array Value} {below : List Frame} {meth : Method} {c : Code} {T T' : State} {g g' : JFrame} {locs : List Loc} {cells slots C S : Nat} {Q : Option Value → Heap → List Loc → Prop} {Z : State} {h h' : Heap} {n0 : Nat}
theorem Go.st (st : ∀ t, Steps p.tables e below (T'.setTop g') t → Steps p.tables e below (T.setTop g) t) (k : Go p e below s C S Q T' g') : Go p e below s C S Q T g := by
  obtain ⟨s₂, o, h1, h2⟩ := k; exact ⟨s₂, o, st _ h1, h2⟩
theorem Go.tr (st : Steps p.tables e below (T.setTop g) (T'.setTop g')) (k : Go p e below s C S Q T' g') : Go p e below s C S Q T g := by
  obtain ⟨s₂, o, h1, h2⟩ := k; exact ⟨s₂, o, st.trans h1, h2⟩
theorem Go.eq (q : g = g') (k : Go p e below s C S Q T g') : Go p e below s C S Q T g := q ▸ k
theorem Go.fin (X : Stand p l e R s m args below meth c T locs cells slots) (hlk : meth.locks = false) {v : Option Value} (hv : meth.sig.returnType = none → v = none) (hc : cells ≤ C) (hs : slots ≤ S) (q : Q v T.heap locs)
    (k : ∀ fs, (∀ (f : JFrame) (acts : List Action), f.method = m → f.locked = none → f.entered = [] → (doReturn e (T.setTop f) acts v).1 = T.setFrames fs) → Steps p.tables e below (T.setTop g) (T.setFrames fs)) : Go p e below s C S Q T g := by
  obtain ⟨fs, hr, hrun, hended, hW, hsame⟩ := X.leave (v := v) hv hlk
  exact ⟨_, _, k fs hr, hrun, hended, _, _, rfl, q, ⟨_, rfl⟩, hW, hsame.mono hc hs⟩
theorem Go.retN (X : Stand p l e R s m args below meth c T locs cells slots) (hlk : meth.locks = false) (hx : p.tables.exec = Jvm.exec) {pc : Nat} {Ls : Array Slot} {z z' : Int32} {t : FieldType} {rest : List Value} (hret : meth.sig.returnType = some t) (ht : t = .boolean ∨ t = .byte ∨ t = .char ∨ t = .short)
    (hd : decode c.code pc = .ok (.ireturn, 1)) (hc : cells ≤ C) (hs : slots ≤ S) (hz : nar t z = z') (q : Q (some (.int z')) T.heap locs) : Go p e below s C S Q T (mkF m pc Ls (.int z :: rest)) := by
  subst hz
  exact Go.fin X hlk (fun h => by rw [hret] at h; cases h) hc hs q fun fs hr => Jvm.RoadKit.retN X hx hret ht hd hr
theorem Go.retV (X : Stand p l e R s m args below meth c T locs cells slots) (hlk : meth.locks = false) (hx : p.tables.exec = Jvm.exec) {pc : Nat} {Ls : Array Slot} {w : Value} {t : FieldType} {i : Instr} {rest : List Value} (hret : meth.sig.returnType = some t) (hn : narrow t w = w)
    (hi : (i = .ireturn ∧ (t = .int ∨ t = .boolean ∨ t = .byte ∨ t = .char ∨ t = .short) ∧ ∃ z, w = .int z) ∨ (i = .lreturn ∧ t = .long ∧ ∃ z, w = .long z) ∨ (i = .dreturn ∧ t = .double ∧ ∃ z, w = .double z) ∨ (i = .freturn ∧ t = .float ∧ ∃ z, w = .float z) ∨ (i = .areturn ∧ t.isReference = true ∧ w.isRef = true))
    (hd : decode c.code pc = .ok (i, 1)) (hc : cells ≤ C) (hs : slots ≤ S) (q : Q (some w) T.heap locs) : Go p e below s C S Q T (mkF m pc Ls (w :: rest)) :=
  Go.fin X hlk (fun h => by rw [hret] at h; cases h) hc hs q fun fs hr => Jvm.RoadKit.retOut X hx hret hn hi hd hr
theorem Go.retR (X : Stand p l e R s m args below meth c T locs cells slots) (hlk : meth.locks = false) (hx : p.tables.exec = Jvm.exec) {pc : Nat} {Ls : Array Slot} {w : Value} {t : FieldType} {rest : List Value} (hret : meth.sig.returnType = some t) (ht : t.isReference = true) (hw : w.isRef = true) (hn : narrow t w = w)
    (hd : decode c.code pc = .ok (.areturn, 1)) (hc : cells ≤ C) (hs : slots ≤ S) (q : Q (some w) T.heap locs) : Go p e below s C S Q T (mkF m pc Ls (w :: rest)) :=
  Go.retV X hlk hx hret hn (Or.inr (Or.inr (Or.inr (Or.inr ⟨rfl, ht, hw⟩)))) hd hc hs q
theorem Go.retI (X : Stand p l e R s m args below meth c T locs cells slots) (hlk : meth.locks = false) (hx : p.tables.exec = Jvm.exec) {pc : Nat} {Ls : Array Slot} {z : Int32} {rest : List Value} (hret : meth.sig.returnType = some .int)
    (hd : decode c.code pc = .ok (.ireturn, 1)) (hc : cells ≤ C) (hs : slots ≤ S) (q : Q (some (.int z)) T.heap locs) : Go p e below s C S Q T (mkF m pc Ls (.int z :: rest)) :=
  Go.retV X hlk hx hret rfl (Or.inl ⟨rfl, Or.inl rfl, z, rfl⟩) hd hc hs q
theorem Go.retJ (X : Stand p l e R s m args below meth c T locs cells slots) (hlk : meth.locks = false) (hx : p.tables.exec = Jvm.exec) {pc : Nat} {Ls : Array Slot} {z : Int64} {rest : List Value} (hret : meth.sig.returnType = some .long)
    (hd : decode c.code pc = .ok (.lreturn, 1)) (hc : cells ≤ C) (hs : slots ≤ S) (q : Q (some (.long z)) T.heap locs) : Go p e below s C S Q T (mkF m pc Ls (.long z :: rest)) :=
  Go.retV X hlk hx hret rfl (Or.inr (Or.inl ⟨rfl, rfl, z, rfl⟩)) hd hc hs q
theorem Go.ret0 (X : Stand p l e R s m args below meth c T locs cells slots) (hlk : meth.locks = false) (hx : p.tables.exec = Jvm.exec) {pc : Nat} {Ls : Array Slot} (hret : meth.sig.returnType = none)
    (hd : decode c.code pc = .ok (.return_, 1)) (hc : cells ≤ C) (hs : slots ≤ S) (q : Q none T.heap locs) : Go p e below s C S Q T (mkF m pc Ls []) :=
  Go.fin X hlk (fun _ => rfl) hc hs q fun fs hr => X.returnOut hx hret hd hr
theorem own_le (O : Old Z n0 h) : n0 ≤ h.size := O.1 ▸ O.2.1
theorem own_ext {ws : List Addr} (K : Keep h h' ws) (q : ∀ x ∈ ws, h.size ≤ x) : Ext h h' := ⟨K.1, fun x c r => K.2.1 x c r fun z => absurd (Array.getElem?_eq_some_iff.mp r).1 (Nat.not_lt.mpr (q x z))⟩
theorem own_ext0 (K : Keep h h' []) : Ext h h' := own_ext K all0
theorem own_exr (h : Heap) : Ext h h := ⟨Nat.le_refl _, fun _ _ q => q⟩
theorem own_ext_t {h'' : Heap} (E : Ext h h') (E' : Ext h' h'') : Ext h h'' := ⟨Nat.le_trans E.1 E'.1, fun x c r => E'.2 x c (E.2 x c r)⟩
end GoKit
theorem pn_4 : plainName "java/lang/String" = true := by first | (simp [plainName, overriddenIn]; done) | decide +kernel
theorem ef_rmE4 (m : MethodId) (a1 : Addr) (a2 : Addr) : entryFrame m #[(.ref a1), (.ref a2), (.int (0 : Int32)), (.int (0 : Int32)), .null] 6 = mkF m 0 #[.val (.ref a1), .val (.ref a2), .val (.int (0 : Int32)), .val (.int (0 : Int32)), .val .null, .unset] [] := by first | (simp [entryFrame, mkF, argsToLocals, Value.category]; done) | rfl
theorem d4_0 : decode jdk_42_method_149_code 0 = .ok (.aload_n 0, 1) := by decide +kernel
theorem d4_1 : decode jdk_42_method_149_code 1 = .ok (.invokespecial 1, 3) := by decide +kernel
theorem d4_4 : decode jdk_42_method_149_code 4 = .ok (.iload_n 3, 1) := by decide +kernel
theorem d4_5 : decode jdk_42_method_149_code 5 = .ok (.ifCond .ne 22, 3) := by decide +kernel
theorem d4_8 : decode jdk_42_method_149_code 8 = .ok (.aload_n 0, 1) := by decide +kernel
theorem d4_9 : decode jdk_42_method_149_code 9 = .ok (.ldc 7, 2) := by decide +kernel
theorem d4_11 : decode jdk_42_method_149_code 11 = .ok (.getfield 9, 3) := by decide +kernel
theorem d4_14 : decode jdk_42_method_149_code 14 = .ok (.putfield 9, 3) := by decide +kernel
theorem d4_17 : decode jdk_42_method_149_code 17 = .ok (.aload_n 0, 1) := by decide +kernel
theorem d4_18 : decode jdk_42_method_149_code 18 = .ok (.ldc 7, 2) := by decide +kernel
theorem d4_20 : decode jdk_42_method_149_code 20 = .ok (.getfield 15, 3) := by decide +kernel
theorem d4_23 : decode jdk_42_method_149_code 23 = .ok (.putfield 15, 3) := by decide +kernel
theorem d4_26 : decode jdk_42_method_149_code 26 = .ok (.return_, 1) := by decide +kernel
theorem pn_3 : plainName "java/lang/String" = true := by first | (simp [plainName, overriddenIn]; done) | decide +kernel
theorem ef_rmE (m : MethodId) (a1 : Addr) (a2 : Addr) : entryFrame m #[(.ref a1), (.ref a2)] 2 = mkF m 0 #[.val (.ref a1), .val (.ref a2)] [] := by first | (simp [entryFrame, mkF, argsToLocals, Value.category]; done) | rfl
theorem d3_0 : decode jdk_42_method_3_code 0 = .ok (.aload_n 0, 1) := by decide +kernel
theorem d3_1 : decode jdk_42_method_3_code 1 = .ok (.aload_n 1, 1) := by decide +kernel
theorem d3_2 : decode jdk_42_method_3_code 2 = .ok (.iconst 0, 1) := by decide +kernel
theorem d3_3 : decode jdk_42_method_3_code 3 = .ok (.aload_n 1, 1) := by decide +kernel
theorem d3_4 : decode jdk_42_method_3_code 4 = .ok (.arraylength, 1) := by decide +kernel
theorem d3_5 : decode jdk_42_method_3_code 5 = .ok (.aconst_null, 1) := by decide +kernel
theorem d3_6 : decode jdk_42_method_3_code 6 = .ok (.invokespecial 27, 3) := by decide +kernel
theorem pd___CIILjava_lang_Void__V : parseMethodDescriptor "([CIILjava/lang/Void;)V" = some ⟨[(.array .char), .int, .int, (.object "java/lang/Void")], none⟩ := by decide +kernel
theorem d3_9 : decode jdk_42_method_3_code 9 = .ok (.return_, 1) := by decide +kernel
theorem pn_1 : plainName "com/example/nodewell/nodewell/store/ConditionIsNumericPinLaw" = true := by first | (simp [plainName, overriddenIn]; done) | decide +kernel
theorem ef_rmK (m : MethodId) (p1 : Int32) : entryFrame m #[(.int p1)] 2 = mkF m 0 #[.val (.int p1), .unset] [] := by first | (simp [entryFrame, mkF, argsToLocals, Value.category]; done) | rfl
theorem d1_0 : decode method_2_code 0 = .ok (.iload_n 0, 1) := by decide +kernel
theorem d1_1 : decode method_2_code 1 = .ok (.ldc 7, 2) := by decide +kernel
theorem d1_3 : decode method_2_code 3 = .ok (.iand, 1) := by decide +kernel
theorem d1_4 : decode method_2_code 4 = .ok (.iconst 5, 1) := by decide +kernel
theorem d1_5 : decode method_2_code 5 = .ok (.irem, 1) := by decide +kernel
theorem d1_6 : decode method_2_code 6 = .ok (.istore_n 1, 1) := by decide +kernel
theorem d1_7 : decode method_2_code 7 = .ok (.iload_n 1, 1) := by decide +kernel
theorem d1_8 : decode method_2_code 8 = .ok (.ifCond .ne 7, 3) := by decide +kernel
theorem d1_11 : decode method_2_code 11 = .ok (.getstatic 8, 3) := by decide +kernel
theorem d1_14 : decode method_2_code 14 = .ok (.areturn, 1) := by decide +kernel
theorem d1_15 : decode method_2_code 15 = .ok (.iload_n 1, 1) := by decide +kernel
theorem d1_16 : decode method_2_code 16 = .ok (.iconst 1, 1) := by decide +kernel
theorem d1_17 : decode method_2_code 17 = .ok (.if_icmp .ne 7, 3) := by decide +kernel
theorem d1_20 : decode method_2_code 20 = .ok (.getstatic 14, 3) := by decide +kernel
theorem d1_23 : decode method_2_code 23 = .ok (.areturn, 1) := by decide +kernel
theorem d1_24 : decode method_2_code 24 = .ok (.iload_n 1, 1) := by decide +kernel
theorem d1_25 : decode method_2_code 25 = .ok (.iconst 2, 1) := by decide +kernel
theorem d1_26 : decode method_2_code 26 = .ok (.if_icmp .ne 7, 3) := by decide +kernel
theorem d1_29 : decode method_2_code 29 = .ok (.getstatic 17, 3) := by decide +kernel
theorem d1_32 : decode method_2_code 32 = .ok (.areturn, 1) := by decide +kernel
theorem d1_33 : decode method_2_code 33 = .ok (.iload_n 1, 1) := by decide +kernel
theorem d1_34 : decode method_2_code 34 = .ok (.iconst 3, 1) := by decide +kernel
theorem d1_35 : decode method_2_code 35 = .ok (.if_icmp .ne 7, 3) := by decide +kernel
theorem d1_38 : decode method_2_code 38 = .ok (.getstatic 20, 3) := by decide +kernel
theorem d1_41 : decode method_2_code 41 = .ok (.areturn, 1) := by decide +kernel
theorem d1_42 : decode method_2_code 42 = .ok (.getstatic 23, 3) := by decide +kernel
theorem d1_45 : decode method_2_code 45 = .ok (.areturn, 1) := by decide +kernel
theorem pn_10 : plainName "java/lang/Record" = true := by first | (simp [plainName, overriddenIn]; done) | decide +kernel
theorem ef_rmR (m : MethodId) (a1 : Addr) : entryFrame m #[(.ref a1)] 1 = mkF m 0 #[.val (.ref a1)] [] := by first | (simp [entryFrame, mkF, argsToLocals, Value.category]; done) | rfl
theorem d10_0 : decode jdk_30_method_1_code 0 = .ok (.aload_n 0, 1) := by decide +kernel
theorem d10_1 : decode jdk_30_method_1_code 1 = .ok (.invokespecial 1, 3) := by decide +kernel
theorem d10_4 : decode jdk_30_method_1_code 4 = .ok (.return_, 1) := by decide +kernel
theorem pn_2 : plainName "com/example/nodewell/nodewell/store/ConditionIsNumericPinLaw" = true := by first | (simp [plainName, overriddenIn]; done) | decide +kernel
theorem ef_rmD (m : MethodId) (p1 : Int32) (p2 : Int32) : entryFrame m #[(.int p1), (.int p2)] 5 = mkF m 0 #[.val (.int p1), .val (.int p2), .unset, .unset, .unset] [] := by first | (simp [entryFrame, mkF, argsToLocals, Value.category]; done) | rfl
theorem d2_0 : decode method_3_code 0 = .ok (.iload_n 1, 1) := by decide +kernel
theorem d2_1 : decode method_3_code 1 = .ok (.sipush 255, 3) := by decide +kernel
theorem d2_4 : decode method_3_code 4 = .ok (.iand, 1) := by decide +kernel
theorem d2_5 : decode method_3_code 5 = .ok (.i2c, 1) := by decide +kernel
theorem d2_6 : decode method_3_code 6 = .ok (.istore_n 2, 1) := by decide +kernel
theorem d2_7 : decode method_3_code 7 = .ok (.iload_n 1, 1) := by decide +kernel
theorem d2_8 : decode method_3_code 8 = .ok (.bipush 8, 2) := by decide +kernel
theorem d2_10 : decode method_3_code 10 = .ok (.iushr, 1) := by decide +kernel
theorem d2_11 : decode method_3_code 11 = .ok (.sipush 255, 3) := by decide +kernel
theorem d2_14 : decode method_3_code 14 = .ok (.iand, 1) := by decide +kernel
theorem d2_15 : decode method_3_code 15 = .ok (.i2c, 1) := by decide +kernel
theorem d2_16 : decode method_3_code 16 = .ok (.istore_n 3, 1) := by decide +kernel
theorem d2_17 : decode method_3_code 17 = .ok (.iload_n 1, 1) := by decide +kernel
theorem d2_18 : decode method_3_code 18 = .ok (.bipush 16, 2) := by decide +kernel
theorem d2_20 : decode method_3_code 20 = .ok (.iushr, 1) := by decide +kernel
theorem d2_21 : decode method_3_code 21 = .ok (.sipush 255, 3) := by decide +kernel
theorem d2_24 : decode method_3_code 24 = .ok (.iand, 1) := by decide +kernel
theorem d2_25 : decode method_3_code 25 = .ok (.i2c, 1) := by decide +kernel
theorem d2_26 : decode method_3_code 26 = .ok (.istore 4, 2) := by decide +kernel
theorem d2_28 : decode method_3_code 28 = .ok (.iload_n 0, 1) := by decide +kernel
theorem d2_29 : decode method_3_code 29 = .ok (.ifCond .ne 14, 3) := by decide +kernel
theorem d2_32 : decode method_3_code 32 = .ok (.new 26, 3) := by decide +kernel
theorem d2_35 : decode method_3_code 35 = .ok (.dup, 1) := by decide +kernel
theorem d2_36 : decode method_3_code 36 = .ok (.iconst 0, 1) := by decide +kernel
theorem d2_37 : decode method_3_code 37 = .ok (.newarray .char, 2) := by decide +kernel
theorem d2_39 : decode method_3_code 39 = .ok (.invokespecial 28, 3) := by decide +kernel
theorem pd___C_V : parseMethodDescriptor "([C)V" = some ⟨[(.array .char)], none⟩ := by decide +kernel
theorem d2_42 : decode method_3_code 42 = .ok (.areturn, 1) := by decide +kernel
theorem d2_43 : decode method_3_code 43 = .ok (.iload_n 0, 1) := by decide +kernel
theorem d2_44 : decode method_3_code 44 = .ok (.iconst 1, 1) := by decide +kernel
theorem d2_45 : decode method_3_code 45 = .ok (.if_icmp .ne 18, 3) := by decide +kernel
theorem d2_48 : decode method_3_code 48 = .ok (.new 26, 3) := by decide +kernel
theorem d2_51 : decode method_3_code 51 = .ok (.dup, 1) := by decide +kernel
theorem d2_52 : decode method_3_code 52 = .ok (.iconst 1, 1) := by decide +kernel
theorem d2_53 : decode method_3_code 53 = .ok (.newarray .char, 2) := by decide +kernel
theorem d2_55 : decode method_3_code 55 = .ok (.dup, 1) := by decide +kernel
theorem d2_56 : decode method_3_code 56 = .ok (.iconst 0, 1) := by decide +kernel
theorem d2_57 : decode method_3_code 57 = .ok (.iload_n 2, 1) := by decide +kernel
theorem d2_58 : decode method_3_code 58 = .ok (.castore, 1) := by decide +kernel
theorem d2_59 : decode method_3_code 59 = .ok (.invokespecial 28, 3) := by decide +kernel
theorem d2_62 : decode method_3_code 62 = .ok (.areturn, 1) := by decide +kernel
theorem d2_63 : decode method_3_code 63 = .ok (.iload_n 0, 1) := by decide +kernel
theorem d2_64 : decode method_3_code 64 = .ok (.iconst 2, 1) := by decide +kernel
theorem d2_65 : decode method_3_code 65 = .ok (.if_icmp .ne 22, 3) := by decide +kernel
theorem d2_68 : decode method_3_code 68 = .ok (.new 26, 3) := by decide +kernel
theorem d2_71 : decode method_3_code 71 = .ok (.dup, 1) := by decide +kernel
theorem d2_72 : decode method_3_code 72 = .ok (.iconst 2, 1) := by decide +kernel
theorem d2_73 : decode method_3_code 73 = .ok (.newarray .char, 2) := by decide +kernel
theorem d2_75 : decode method_3_code 75 = .ok (.dup, 1) := by decide +kernel
theorem d2_76 : decode method_3_code 76 = .ok (.iconst 0, 1) := by decide +kernel
theorem d2_77 : decode method_3_code 77 = .ok (.iload_n 2, 1) := by decide +kernel
theorem d2_78 : decode method_3_code 78 = .ok (.castore, 1) := by decide +kernel
theorem d2_79 : decode method_3_code 79 = .ok (.dup, 1) := by decide +kernel
theorem d2_80 : decode method_3_code 80 = .ok (.iconst 1, 1) := by decide +kernel
theorem d2_81 : decode method_3_code 81 = .ok (.iload_n 3, 1) := by decide +kernel
theorem d2_82 : decode method_3_code 82 = .ok (.castore, 1) := by decide +kernel
theorem d2_83 : decode method_3_code 83 = .ok (.invokespecial 28, 3) := by decide +kernel
theorem d2_86 : decode method_3_code 86 = .ok (.areturn, 1) := by decide +kernel
theorem d2_87 : decode method_3_code 87 = .ok (.new 26, 3) := by decide +kernel
theorem d2_90 : decode method_3_code 90 = .ok (.dup, 1) := by decide +kernel
theorem d2_91 : decode method_3_code 91 = .ok (.iconst 3, 1) := by decide +kernel
theorem d2_92 : decode method_3_code 92 = .ok (.newarray .char, 2) := by decide +kernel
theorem d2_94 : decode method_3_code 94 = .ok (.dup, 1) := by decide +kernel
theorem d2_95 : decode method_3_code 95 = .ok (.iconst 0, 1) := by decide +kernel
theorem d2_96 : decode method_3_code 96 = .ok (.iload_n 2, 1) := by decide +kernel
theorem d2_97 : decode method_3_code 97 = .ok (.castore, 1) := by decide +kernel
theorem d2_98 : decode method_3_code 98 = .ok (.dup, 1) := by decide +kernel
theorem d2_99 : decode method_3_code 99 = .ok (.iconst 1, 1) := by decide +kernel
theorem d2_100 : decode method_3_code 100 = .ok (.iload_n 3, 1) := by decide +kernel
theorem d2_101 : decode method_3_code 101 = .ok (.castore, 1) := by decide +kernel
theorem d2_102 : decode method_3_code 102 = .ok (.dup, 1) := by decide +kernel
theorem d2_103 : decode method_3_code 103 = .ok (.iconst 2, 1) := by decide +kernel
theorem d2_104 : decode method_3_code 104 = .ok (.iload 4, 2) := by decide +kernel
theorem d2_106 : decode method_3_code 106 = .ok (.castore, 1) := by decide +kernel
theorem d2_107 : decode method_3_code 107 = .ok (.invokespecial 28, 3) := by decide +kernel
theorem d2_110 : decode method_3_code 110 = .ok (.areturn, 1) := by decide +kernel
theorem pn_9 : plainName "com/example/nodewell/nodewell/store/ValueTest$Condition" = true := by first | (simp [plainName, overriddenIn]; done) | decide +kernel
theorem ef_rmC (m : MethodId) (a1 : Addr) (a2 : Addr) (x3 : Value) (q4 : UInt64) (ref_x3 : x3.isRef = true) : entryFrame m #[(.ref a1), (.ref a2), x3, (.double q4)] 5 = mkF m 0 #[.val (.ref a1), .val (.ref a2), .val x3, .val (.double q4), .second] [] := by
  rcases ref_cases ref_x3 with rfl | ⟨_, rfl⟩ <;> rfl
theorem d9_0 : decode prog_114_method_1_code 0 = .ok (.aload_n 0, 1) := by decide +kernel
theorem d9_1 : decode prog_114_method_1_code 1 = .ok (.invokespecial 1, 3) := by decide +kernel
theorem pd___V : parseMethodDescriptor "()V" = some ⟨[], none⟩ := by decide +kernel
theorem d9_4 : decode prog_114_method_1_code 4 = .ok (.aload_n 0, 1) := by decide +kernel
theorem d9_5 : decode prog_114_method_1_code 5 = .ok (.aload_n 1, 1) := by decide +kernel
theorem d9_6 : decode prog_114_method_1_code 6 = .ok (.putfield 7, 3) := by decide +kernel
theorem d9_9 : decode prog_114_method_1_code 9 = .ok (.aload_n 0, 1) := by decide +kernel
theorem d9_10 : decode prog_114_method_1_code 10 = .ok (.aload_n 2, 1) := by decide +kernel
theorem d9_11 : decode prog_114_method_1_code 11 = .ok (.putfield 13, 3) := by decide +kernel
theorem d9_14 : decode prog_114_method_1_code 14 = .ok (.aload_n 0, 1) := by decide +kernel
theorem d9_15 : decode prog_114_method_1_code 15 = .ok (.dload_n 3, 1) := by decide +kernel
theorem d9_16 : decode prog_114_method_1_code 16 = .ok (.putfield 17, 3) := by decide +kernel
theorem d9_19 : decode prog_114_method_1_code 19 = .ok (.return_, 1) := by decide +kernel
theorem pn_11 : plainName "com/example/nodewell/nodewell/store/ValueTest$Condition" = true := by first | (simp [plainName, overriddenIn]; done) | decide +kernel
theorem ef_rmO1 (m : MethodId) (a1 : Addr) (a2 : Addr) : entryFrame m #[(.ref a1), (.ref a2)] 2 = mkF m 0 #[.val (.ref a1), .val (.ref a2)] [] := by first | (simp [entryFrame, mkF, argsToLocals, Value.category]; done) | rfl
theorem d11_0 : decode prog_114_method_2_code 0 = .ok (.new 8, 3) := by decide +kernel
theorem d11_3 : decode prog_114_method_2_code 3 = .ok (.dup, 1) := by decide +kernel
theorem d11_4 : decode prog_114_method_2_code 4 = .ok (.aload_n 0, 1) := by decide +kernel
theorem d11_5 : decode prog_114_method_2_code 5 = .ok (.aload_n 1, 1) := by decide +kernel
theorem d11_6 : decode prog_114_method_2_code 6 = .ok (.ldc2_w 23, 3) := by decide +kernel
theorem d11_9 : decode prog_114_method_2_code 9 = .ok (.invokespecial 25, 3) := by decide +kernel
theorem pd__Lcom_example_nodewell_nodewell_store_ValueTest_Comparison_Ljava_lang_String_D_V : parseMethodDescriptor "(Lcom/example/nodewell/nodewell/store/ValueTest$Comparison;Ljava/lang/String;D)V" = some ⟨[(.object "com/example/nodewell/nodewell/store/ValueTest$Comparison"), (.object "java/lang/String"), .double], none⟩ := by decide +kernel
theorem d11_12 : decode prog_114_method_2_code 12 = .ok (.areturn, 1) := by decide +kernel
theorem pn_12 : plainName "com/example/nodewell/nodewell/store/ValueTest$Condition" = true := by first | (simp [plainName, overriddenIn]; done) | decide +kernel
theorem ef_rmO2 (m : MethodId) (a1 : Addr) (q2 : UInt64) : entryFrame m #[(.ref a1), (.double q2)] 3 = mkF m 0 #[.val (.ref a1), .val (.double q2), .second] [] := by first | (simp [entryFrame, mkF, argsToLocals, Value.category]; done) | rfl
theorem d12_0 : decode prog_114_method_3_code 0 = .ok (.new 8, 3) := by decide +kernel
theorem d12_3 : decode prog_114_method_3_code 3 = .ok (.dup, 1) := by decide +kernel
theorem d12_4 : decode prog_114_method_3_code 4 = .ok (.aload_n 0, 1) := by decide +kernel
theorem d12_5 : decode prog_114_method_3_code 5 = .ok (.aconst_null, 1) := by decide +kernel
theorem d12_6 : decode prog_114_method_3_code 6 = .ok (.dload_n 1, 1) := by decide +kernel
theorem d12_7 : decode prog_114_method_3_code 7 = .ok (.invokespecial 25, 3) := by decide +kernel
theorem d12_10 : decode prog_114_method_3_code 10 = .ok (.areturn, 1) := by decide +kernel
theorem pn_13 : plainName "com/example/nodewell/nodewell/store/ValueTest$Condition" = true := by first | (simp [plainName, overriddenIn]; done) | decide +kernel
theorem ef_rmN (m : MethodId) (a1 : Addr) : entryFrame m #[(.ref a1)] 1 = mkF m 0 #[.val (.ref a1)] [] := by first | (simp [entryFrame, mkF, argsToLocals, Value.category]; done) | rfl
theorem d13_0 : decode prog_114_method_4_code 0 = .ok (.aload_n 0, 1) := by decide +kernel
theorem d13_1 : decode prog_114_method_4_code 1 = .ok (.getfield 13, 3) := by decide +kernel
theorem d13_4 : decode prog_114_method_4_code 4 = .ok (.ifnonnull 7, 3) := by decide +kernel
theorem d13_7 : decode prog_114_method_4_code 7 = .ok (.iconst 1, 1) := by decide +kernel
theorem d13_8 : decode prog_114_method_4_code 8 = .ok (.goto 4, 3) := by decide +kernel
theorem d13_12 : decode prog_114_method_4_code 12 = .ok (.ireturn, 1) := by decide +kernel
theorem d13_11 : decode prog_114_method_4_code 11 = .ok (.iconst 0, 1) := by decide +kernel
theorem pn_0 : plainName "com/example/nodewell/nodewell/store/ConditionIsNumericPinLaw" = true := by first | (simp [plainName, overriddenIn]; done) | decide +kernel
theorem ef_rm0 (m : MethodId) (p1 : Int32) (p2 : Int32) (p3 : Int32) (p4 : Int32) : entryFrame m #[(.int p1), (.int p2), (.int p3), (.int p4)] maxLocals = mkF m 0 #[.val (.int p1), .val (.int p2), .val (.int p3), .val (.int p4), .unset, .unset, .unset, .unset, .unset, .unset, .unset, .unset, .unset, .unset, .unset, .unset, .unset] [] := by first | (simp [entryFrame, mkF, argsToLocals, Value.category, maxLocals]; done) | rfl
theorem pd__I_Lcom_example_nodewell_nodewell_store_ValueTest_Comparison_ : parseMethodDescriptor "(I)Lcom/example/nodewell/nodewell/store/ValueTest$Comparison;" = some ⟨[.int], some (.object "com/example/nodewell/nodewell/store/ValueTest$Comparison")⟩ := by decide +kernel
theorem pd__II_Ljava_lang_String_ : parseMethodDescriptor "(II)Ljava/lang/String;" = some ⟨[.int, .int], some (.object "java/lang/String")⟩ := by decide +kernel
theorem pd__Lcom_example_nodewell_nodewell_store_ValueTest_Comparison_Ljava_lang_String__Lcom_example_nodewell_nodewell_store_ValueTest_Condition_ : parseMethodDescriptor "(Lcom/example/nodewell/nodewell/store/ValueTest$Comparison;Ljava/lang/String;)Lcom/example/nodewell/nodewell/store/ValueTest$Condition;" = some ⟨[(.object "com/example/nodewell/nodewell/store/ValueTest$Comparison"), (.object "java/lang/String")], some (.object "com/example/nodewell/nodewell/store/ValueTest$Condition")⟩ := by decide +kernel
theorem pd__Lcom_example_nodewell_nodewell_store_ValueTest_Comparison_D_Lcom_example_nodewell_nodewell_store_ValueTest_Condition_ : parseMethodDescriptor "(Lcom/example/nodewell/nodewell/store/ValueTest$Comparison;D)Lcom/example/nodewell/nodewell/store/ValueTest$Condition;" = some ⟨[(.object "com/example/nodewell/nodewell/store/ValueTest$Comparison"), .double], some (.object "com/example/nodewell/nodewell/store/ValueTest$Condition")⟩ := by decide +kernel
theorem pd___Z : parseMethodDescriptor "()Z" = some ⟨[], some .boolean⟩ := by decide +kernel
/-! the same, where String constants may be loaded on the way (the library's LawHeld: CHv, CHr, Safe) -/
def GoH (p : Program) (e : Env) (below : List Frame) (s : State) (C S : Nat) (Z : State) (h0 : Heap) (EL : List (String × Nat)) (Q : Option Value → Heap → List Loc → Prop) (T : State) (g : JFrame) : Prop :=
  ∃ s₂ o, Steps p.tables e below (T.setTop g) s₂ ∧ s₂.status = .running ∧ Ended s₂ below o ∧ ∃ v L, o = .returned v ∧ Q v s₂.heap L ∧ CHr Z EL s.vm h0 s₂.vm s₂.heap ∧ ReturnedEndW s o s₂ L C S
section GoHKit
variable {p : Program} {l : Launch} {e : Env} {R : Room} {s : State} {vm0 : Vm} {m : MethodId} {args : Array Value} {below : List Frame} {meth : Method} {c : Code} {T T' : State} {g g' : JFrame} {locs : List Loc} {cells slots C S k0 : Nat} {Q : Option Value → Heap → List Loc → Prop} {Z : State} {a0 : Array Value} {h h0 h' : Heap} {n0 : Nat} {EL : List (String × Nat)}
theorem GoH.st (st : ∀ t, Steps p.tables e below (T'.setTop g') t → Steps p.tables e below (T.setTop g) t) (k : GoH p e below s C S Z h0 EL Q T' g') : GoH p e below s C S Z h0 EL Q T g := by
  obtain ⟨s₂, o, h1, h2⟩ := k; exact ⟨s₂, o, st _ h1, h2⟩
theorem GoH.tr (st : Steps p.tables e below (T.setTop g) (T'.setTop g')) (k : GoH p e below s C S Z h0 EL Q T' g') : GoH p e below s C S Z h0 EL Q T g := by
  obtain ⟨s₂, o, h1, h2⟩ := k; exact ⟨s₂, o, st.trans h1, h2⟩
theorem GoH.eq (q : g = g') (k : GoH p e below s C S Z h0 EL Q T g') : GoH p e below s C S Z h0 EL Q T g := q ▸ k
theorem GoH.fin (X : Stand p l e R (s.setVm vm0) m args below meth c T locs cells slots) (hS : s.Since vm0 k0) (hk : k0 ≤ h.size) (eT : T.heap = h) (hZ : Z.Warmed39 vm0) (hEL : EW Z a0 EL) (H : CHv Z EL vm0 h) (RR : CHr Z EL s.vm h0 vm0 h) (hlk : meth.locks = false) {v : Option Value} (hv : meth.sig.returnType = none → v = none) (hc : cells ≤ C) (hs : slots ≤ S) (q : Q v T.heap locs)
    (k : ∀ fs, (∀ (f : JFrame) (acts : List Action), f.method = m → f.locked = none → f.entered = [] → (doReturn e (T.setTop f) acts v).1 = T.setFrames fs) → Steps p.tables e below (T.setTop g) (T.setFrames fs)) : GoH p e below s C S Z h0 EL Q T g := by
  obtain ⟨fs, hr, hrun, hended, hW⟩ := X.leaveW hS (eT ▸ hk) (v := v) hv hlk
  refine ⟨_, _, k fs hr, hrun, hended, _, _, rfl, q, ?_, hW.1, hW.2.1, hW.2.2.1, hW.2.2.2.mono hc hs⟩
  show CHr Z EL s.vm h0 T.vm T.heap
  rw [eT]; exact RR.trans (CHv.at X hZ hEL H)
theorem GoH.retN (X : Stand p l e R (s.setVm vm0) m args below meth c T locs cells slots) (hS : s.Since vm0 k0) (hk : k0 ≤ h.size) (eT : T.heap = h) (hZ : Z.Warmed39 vm0) (hEL : EW Z a0 EL) (H : CHv Z EL vm0 h) (RR : CHr Z EL s.vm h0 vm0 h) (hlk : meth.locks = false) (hx : p.tables.exec = Jvm.exec) {pc : Nat} {Ls : Array Slot} {z z' : Int32} {t : FieldType} {rest : List Value} (hret : meth.sig.returnType = some t) (ht : t = .boolean ∨ t = .byte ∨ t = .char ∨ t = .short)
    (hd : decode c.code pc = .ok (.ireturn, 1)) (hc : cells ≤ C) (hs : slots ≤ S) (hz : nar t z = z') (q : Q (some (.int z')) T.heap locs) : GoH p e below s C S Z h0 EL Q T (mkF m pc Ls (.int z :: rest)) := by
  subst hz
  exact GoH.fin X hS hk eT hZ hEL H RR hlk (fun h => by rw [hret] at h; cases h) hc hs q fun fs hr => Jvm.RoadKit.retN X hx hret ht hd hr
theorem GoH.retV (X : Stand p l e R (s.setVm vm0) m args below meth c T locs cells slots) (hS : s.Since vm0 k0) (hk : k0 ≤ h.size) (eT : T.heap = h) (hZ : Z.Warmed39 vm0) (hEL : EW Z a0 EL) (H : CHv Z EL vm0 h) (RR : CHr Z EL s.vm h0 vm0 h) (hlk : meth.locks = false) (hx : p.tables.exec = Jvm.exec) {pc : Nat} {Ls : Array Slot} {w : Value} {t : FieldType} {i : Instr} {rest : List Value} (hret : meth.sig.returnType = some t) (hn : narrow t w = w)
    (hi : (i = .ireturn ∧ (t = .int ∨ t = .boolean ∨ t = .byte ∨ t = .char ∨ t = .short) ∧ ∃ z, w = .int z) ∨ (i = .lreturn ∧ t = .long ∧ ∃ z, w = .long z) ∨ (i = .dreturn ∧ t = .double ∧ ∃ z, w = .double z) ∨ (i = .freturn ∧ t = .float ∧ ∃ z, w = .float z) ∨ (i = .areturn ∧ t.isReference = true ∧ w.isRef = true))
    (hd : decode c.code pc = .ok (i, 1)) (hc : cells ≤ C) (hs : slots ≤ S) (q : Q (some w) T.heap locs) : GoH p e below s C S Z h0 EL Q T (mkF m pc Ls (w :: rest)) :=
  GoH.fin X hS hk eT hZ hEL H RR hlk (fun h => by rw [hret] at h; cases h) hc hs q fun fs hr => Jvm.RoadKit.retOut X hx hret hn hi hd hr
theorem GoH.retR (X : Stand p l e R (s.setVm vm0) m args below meth c T locs cells slots) (hS : s.Since vm0 k0) (hk : k0 ≤ h.size) (eT : T.heap = h) (hZ : Z.Warmed39 vm0) (hEL : EW Z a0 EL) (H : CHv Z EL vm0 h) (RR : CHr Z EL s.vm h0 vm0 h) (hlk : meth.locks = false) (hx : p.tables.exec = Jvm.exec) {pc : Nat} {Ls : Array Slot} {w : Value} {t : FieldType} {rest : List Value} (hret : meth.sig.returnType = some t) (ht : t.isReference = true) (hw : w.isRef = true) (hn : narrow t w = w)
    (hd : decode c.code pc = .ok (.areturn, 1)) (hc : cells ≤ C) (hs : slots ≤ S) (q : Q (some w) T.heap locs) : GoH p e below s C S Z h0 EL Q T (mkF m pc Ls (w :: rest)) :=
  GoH.retV X hS hk eT hZ hEL H RR hlk hx hret hn (Or.inr (Or.inr (Or.inr (Or.inr ⟨rfl, ht, hw⟩)))) hd hc hs q
theorem GoH.retI (X : Stand p l e R (s.setVm vm0) m args below meth c T locs cells slots) (hS : s.Since vm0 k0) (hk : k0 ≤ h.size) (eT : T.heap = h) (hZ : Z.Warmed39 vm0) (hEL : EW Z a0 EL) (H : CHv Z EL vm0 h) (RR : CHr Z EL s.vm h0 vm0 h) (hlk : meth.locks = false) (hx : p.tables.exec = Jvm.exec) {pc : Nat} {Ls : Array Slot} {z : Int32} {rest : List Value} (hret : meth.sig.returnType = some .int)
    (hd : decode c.code pc = .ok (.ireturn, 1)) (hc : cells ≤ C) (hs : slots ≤ S) (q : Q (some (.int z)) T.heap locs) : GoH p e below s C S Z h0 EL Q T (mkF m pc Ls (.int z :: rest)) :=
  GoH.retV X hS hk eT hZ hEL H RR hlk hx hret rfl (Or.inl ⟨rfl, Or.inl rfl, z, rfl⟩) hd hc hs q
theorem GoH.ret0 (X : Stand p l e R (s.setVm vm0) m args below meth c T locs cells slots) (hS : s.Since vm0 k0) (hk : k0 ≤ h.size) (eT : T.heap = h) (hZ : Z.Warmed39 vm0) (hEL : EW Z a0 EL) (H : CHv Z EL vm0 h) (RR : CHr Z EL s.vm h0 vm0 h) (hlk : meth.locks = false) (hx : p.tables.exec = Jvm.exec) {pc : Nat} {Ls : Array Slot} (hret : meth.sig.returnType = none)
    (hd : decode c.code pc = .ok (.return_, 1)) (hc : cells ≤ C) (hs : slots ≤ S) (q : Q none T.heap locs) : GoH p e below s C S Z h0 EL Q T (mkF m pc Ls []) :=
  GoH.fin X hS hk eT hZ hEL H RR hlk (fun _ => rfl) hc hs q fun fs hr => X.returnOut hx hret hd hr
theorem own_backSH {y : MethodName} {bytes : ByteArray} {maxL : Nat} {ret : Option FieldType} {rm : Room} {len W : Nat} {as' : Array Value} {sf : List Addr}
    (hM : MetFree l y (head1 [Cond.code y bytes maxL ret] rm) (fun a U => a = as' ∧ Z.Warmed39 U.vm ∧ U.heap = h ∧ CHv Z EL U.vm h ∧ ∀ x ∈ sf, Safe Z EL U.vm h x) (fun _ _ _ _ _ => True) (fun _ U o U' => ∃ v L, o = .returned v ∧ Q v U'.heap L ∧ CHr Z EL U.vm U.heap U'.vm U'.heap ∧ ReturnedEndW U o U' L rm.cells rm.slots))
    (hZ : Z.Warmed39 vm0) (wc : (Cond.code y bytes maxL ret).before a0 Z = true) (wz : (Cond.initialized y.cls).before a0 Z = true) (hf : rm.frames + 1 ≤ R.frames) (hl : W + (maxL + 11) + rm.locals ≤ R.locals) (hEL : EW Z a0 EL) (H : CHv Z EL vm0 h) (hsf : ∀ x ∈ sf, Safe Z EL vm0 h x ∧ x < Array.size h) :
    BackS l R p e below (s.setVm vm0) args y len W (fun A a => a = as' ∧ A.U.heap = h ∧ A.cells + rm.cells ≤ R.cells ∧ A.slots + rm.slots ≤ R.slots)
      (fun A _ v B => ∃ L, Q v B.U.heap L ∧ B.locs = A.locs ++ L ∧ B.cells = A.cells + rm.cells ∧ B.slots = A.slots + rm.slots ∧ CHr Z EL vm0 h B.U.vm B.U.heap) := by
  have up : ∀ {m meth c} {A : Pt}, Stand p l e R (s.setVm vm0) m args below meth c A.U A.locs A.cells A.slots → Z.Warmed39 A.U.vm := fun Y => wtrans (s := s.setVm vm0) hZ Y.warmed
  refine BackS.of_freeW (bytes := bytes) (maxL := maxL) (ret := ret) (E := fun _ first o t L k n => (k = rm.cells ∧ n = rm.slots) ∧ (∃ v, o = .returned v ∧ Q v t.heap L) ∧ CHr Z EL first.vm first.heap t.vm t.heap) hM hf hl ?_ ?_ ?_ ?_ ?_
  · intro m meth c A a Y hp
    refine ⟨?_, mv (up Y) wc, mv (up Y) wz, hp.2.2.1, hp.2.2.2⟩
    show (Cond.and _ .tt).before a A.U = true
    rw [Cond.before_and, mv (up Y) wc]; rfl
  · intro m meth c A a g mk Y hp
    have q := CHv.at Y hZ hEL H
    exact ⟨hp.1, up Y, hp.2.1, q.1, fun x hx => q.safe (hsf x hx).2 (hsf x hx).1⟩
  · intro _ _ _ _ _ _ _ _ _; trivial
  · intro _ _ _ _ hq
    obtain ⟨v, L, h1, h2, h3, h4⟩ := hq
    exact ⟨L, _, _, h4, ⟨rfl, rfl⟩, ⟨v, h1, h2⟩, h3⟩
  · intro m meth c A a g mk v t L k n Y hp _ _ hq
    obtain ⟨⟨e1, e2⟩, ⟨v', e3, e4⟩, e5⟩ := hq
    cases e3; subst e1 e2
    refine ⟨L, e4, rfl, rfl, rfl, (CHv.at Y hZ hEL H).trans ?_⟩
    rw [← hp.2.1]; exact e5
theorem own_since (s : State) (n : Nat) : s.Since s.vm n := (State.WarmedH.since (s := s) (vm₁ := s.vm) (State.WarmedH.refl s) n)
end GoHKit

abbrev EL : List (String × Nat) := consts_1
theorem own_m255 (z : Int32) : ¬ nar .char ((z &&& (255 : Int32)).toUInt32.toUInt16.toUInt32.toInt32) < 0 ∧ ¬ (255 : Int32) < nar .char ((z &&& (255 : Int32)).toUInt32.toUInt16.toUInt32.toInt32) := by
  have small : ∀ k : Fin 256, ¬ nar .char ((Int32.ofNat k.val).toUInt32.toUInt16.toUInt32.toInt32) < 0 ∧ ¬ (255 : Int32) < nar .char ((Int32.ofNat k.val).toUInt32.toUInt16.toUInt32.toInt32) := by decide +kernel
  have lt : (z &&& 255).toBitVec.toNat < 256 := by
    rw [Int32.toBitVec_and, BitVec.toNat_and]; exact Nat.lt_succ_of_le Nat.and_le_right
  have eq : (z &&& 255) = Int32.ofNat (z &&& 255).toBitVec.toNat := by
    apply Int32.toBitVec_inj.mp
    show _ = BitVec.ofNat 32 _
    rw [BitVec.ofNat_toNat]; simp
  rw [eq]; exact small ⟨_, lt⟩
theorem own_nil {P : Int32 → Prop} : ∀ c ∈ ([] : List Int32), P c := fun _ q => nomatch q
theorem own_cons {P : Int32 → Prop} {y : Int32} {L : List Int32} (q : P y) (r : ∀ c ∈ L, P c) : ∀ c ∈ y :: L, P c := fun x z => (List.mem_cons.mp z).elim (fun u => u ▸ q) (r x)
theorem own_narrow {x : Value} {c : String} (h : x.isRef = true) : narrow (.object c) x = x := by cases x <;> first | rfl | simp [Value.isRef] at h
theorem own_fits {x : Value} {c : String} (h : x.isRef = true) : fits (.object c) x = true := by cases x <;> first | rfl | simp [Value.isRef] at h

theorem own_eqi {args : Array Value} {Z : State} {t : Term} {k : Int32} (h : (Cond.eq t (Term.int k)).value args Z none Z [] = some true) : t.eval args Z none [] Z = some (.int k) := by
  cases ht : t.eval args Z none [] Z with
  | none => simp [Cond.value, Term.eval, ht] at h
  | some v => cases v <;> simp [Cond.value, Term.eval, ht] at h <;> (try rw [h])
theorem own_en {args : Array Value} {Z : State} {C n d : String} {k : Int32} (hx : (Cond.exactly (Term.static C n d) C).value args Z none Z [] = some true) (hk : (Cond.eq (Term.field (Term.static C n d) "java/lang/Enum" "ordinal" "I") (Term.int k)).value args Z none Z [] = some true)
    (hi : (Cond.initialized C).before args Z = true) (hl : (Cond.laysStatic C n d).before args Z = true) : ∃ w, Sta Z Z.heap C n d (.ref w) ∧ Exa Z Z.heap w C ∧ Fld Z Z.heap w "java/lang/Enum" "ordinal" "I" (.int k) := by
  obtain ⟨w, ew⟩ := exa_v hx
  exact ⟨w, Sta.start ew (Or.inr ⟨hi, hl⟩), Exa.start ew hx, Fld.start (by rw [← fld_at ew]; exact own_eqi hk)⟩
theorem own_en0 {args : Array Value} {Z : State} {C n d : String} (hx : (Cond.exactly (Term.static C n d) C).value args Z none Z [] = some true)
    (hi : (Cond.initialized C).before args Z = true) (hl : (Cond.laysStatic C n d).before args Z = true) : ∃ w, Sta Z Z.heap C n d (.ref w) ∧ Exa Z Z.heap w C := by
  obtain ⟨w, ew⟩ := exa_v hx
  exact ⟨w, Sta.start ew (Or.inr ⟨hi, hl⟩), Exa.start ew hx⟩

def Q_rmE4 (Z : State) (a1 : Addr) (a2 : Addr) (u1 : Value) (u2 : Value) (h0 : Heap) (n0 : Nat) (v : Option Value) (h : Heap) (L : List Loc) : Prop := v = none ∧ Fr n0 L ∧ Keep h0 h [a1] ∧ Exa Z h a1 "java/lang/String" ∧ Fld Z h a1 "java/lang/String" "coder" "B" (.int 0) ∧ ∃ (t : Addr) (kb : ClassId), Fld Z h a1 "java/lang/String" "value" "[B" (.ref t) ∧ Arv Z h t kb .byte 0 [] (.int 0)
set_option maxRecDepth 65536 in
set_option maxHeartbeats 40000000 in
theorem rmE4 (l : Launch) (Z : State) (a0 : Array Value) (hw : ∀ d ∈ tables_1, d.before a0 Z = true) (ws : List Jvm.Cond) (a1 : Addr) (a2 : Addr) (u1 : Value) (u2 : Value) (h0 : Heap) (n0 : Nat) (O : Old Z n0 h0) (hEL : EW Z a0 EL) (wS : ∀ a ∈ Bundle.stringAtoms, a.before a0 Z = true) (E_a1 : Exa Z h0 a1 "java/lang/String") (F_value_a1 : Fld Z h0 a1 "java/lang/String" "value" "[B" u1) (F_coder_a1 : Fld Z h0 a1 "java/lang/String" "coder" "B" u2) (g_a1 : n0 ≤ a1) :
    MetFree l (⟨"java/lang/String", "<init>", "([CIILjava/lang/Void;)V"⟩ : MethodName) (head1 (Jvm.Cond.code (⟨"java/lang/String", "<init>", "([CIILjava/lang/Void;)V"⟩ : MethodName) jdk_42_method_149_code 6 none :: ws) ({ frames := 1, cells := 4, slots := 8, locals := 12 } : Room)) (fun a U => a = #[(.ref a1), (.ref a2), (.int (0 : Int32)), (.int (0 : Int32)), .null] ∧ Z.Warmed39 U.vm ∧ U.heap = h0 ∧ CHv Z EL U.vm h0 ∧ ∀ x ∈ ([a1] : List Addr), Safe Z EL U.vm h0 x) (fun _ _ _ _ _ => True) (fun _ U o U' => ∃ v L, o = .returned v ∧ Q_rmE4 Z a1 a2 u1 u2 h0 n0 v U'.heap L ∧ CHr Z EL U.vm U.heap U'.vm U'.heap ∧ ReturnedEndW U o U' L ({ frames := 1, cells := 4, slots := 8, locals := 12 } : Room).cells ({ frames := 1, cells := 4, slots := 8, locals := 12 } : Room).slots) := by
  refine MetFree.of_bodySF (plainFor_of_name pn_4) hisR ?_
  intro p e s m args below meth c s₁ Bd hml0 hP hK
  obtain ⟨rfl, hZ, hh, HH, hSF⟩ := hP
  have hx := Bd.exec
  have hby := Bd.bytes
  have hml : c.maxLocals = 6 := hml0
  have hown : s.vm.findClass "java/lang/String" = some m.cls := findClass_of_methodNamed Bd.named
  have hnm := (name_of_methodNamed Bd.named Bd.method).1
  have hlk : meth.locks = false := BodyLoose.notSynchronized Bd
  have X0 : Stand p l e ({ frames := 1, cells := 4, slots := 8, locals := 12 } : Room) (s.setVm s.vm) m #[(.ref a1), (.ref a2), (.int (0 : Int32)), (.int (0 : Int32)), .null] below meth c s₁ [] 0 0 := Stand.of_body Bd
  have e0 : s₁.heap = h0 := by rw [← hh, Bd.state]; rfl
  have N0 := Fr.nil n0
  have KK : Keep h0 h0 [a1] := Keep.refl h0 _
  have hS : s.Since s.vm h0.size := own_since s _
  have hk : h0.size ≤ h0.size := Nat.le_refl _
  have RR : CHr Z EL s.vm h0 s.vm h0 := CHr.refl HH
  have Sf_a1 : Safe Z EL s.vm h0 a1 := hSF _ (List.mem_of_getElem? (i := 0) rfl)
  suffices hgo : GoH p e below s ({ frames := 1, cells := 4, slots := 8, locals := 12 } : Room).cells ({ frames := 1, cells := 4, slots := 8, locals := 12 } : Room).slots Z h0 EL (Q_rmE4 Z a1 a2 u1 u2 h0 n0) s₁ (entryFrame m #[(.ref a1), (.ref a2), (.int (0 : Int32)), (.int (0 : Int32)), .null] 6) by
    obtain ⟨s₂, o, q1, q2, q3, v, L, q4, q5, q6, q7⟩ := hgo; exact ⟨s₂, o, q1, q2, q3, v, L, q4, q5, hh ▸ q6, q7⟩
  refine GoH.eq (ef_rmE4 m a1 a2) ?_
  show GoH _ _ _ _ _ _ _ _ _ _  s₁ (mkF m 0 #[.val (.ref a1), .val (.ref a2), .val (.int (0 : Int32)), .val (.int (0 : Int32)), .val .null, .unset] [])
  refine GoH.st (fun t k => XS.aloadN X0.here hx rfl (hb hby d4_0) rfl rfl  k) ?_
  show GoH _ _ _ _ _ _ _ _ _ _  s₁ (mkF m 1 #[.val (.ref a1), .val (.ref a2), .val (.int (0 : Int32)), .val (.int (0 : Int32)), .val .null, .unset] [(.ref a1)])
  obtain ⟨T1, X1, e1, st1⟩ := initO X0 hx hZ hown (hw _ (List.mem_of_getElem? (i := 22) rfl)) (hw _ (List.mem_of_getElem? (i := 23) rfl)) (hw _ (List.mem_of_getElem? (i := 24) rfl)) e0 (g := (mkF m 1 #[.val (.ref a1), .val (.ref a2), .val (.int (0 : Int32)), .val (.int (0 : Int32)), .val .null, .unset] [(.ref a1)])) rfl (by rw [hml]; rfl) rfl (hb hby d4_1) (by decide) (W := 0) (by show 2 * 0 + _ ≤ _; exact Nat.le_of_eq rfl) (by decide)
  refine GoH.st st1 ?_
  show GoH _ _ _ _ _ _ _ _ _ _  T1 (mkF m 4 #[.val (.ref a1), .val (.ref a2), .val (.int (0 : Int32)), .val (.int (0 : Int32)), .val .null, .unset] [])
  refine GoH.st (fun t k => XS.iloadN X1.here hx rfl (hb hby d4_4) rfl  k) ?_
  show GoH _ _ _ _ _ _ _ _ _ _  T1 (mkF m 5 #[.val (.ref a1), .val (.ref a2), .val (.int (0 : Int32)), .val (.int (0 : Int32)), .val .null, .unset] [(.int (0 : Int32))])
  refine GoH.st (fun t k => XS.ifNo X1.here hx rfl (hb hby d4_5) rfl ((if0 _ _).trans (teq (rfl : (0 : Int32) = (0 : Int32))).2) k) ?_
  show GoH _ _ _ _ _ _ _ _ _ _  T1 (mkF m 8 #[.val (.ref a1), .val (.ref a2), .val (.int (0 : Int32)), .val (.int (0 : Int32)), .val .null, .unset] [])
  refine GoH.st (fun t k => XS.aloadN X1.here hx rfl (hb hby d4_8) rfl rfl  k) ?_
  show GoH _ _ _ _ _ _ _ _ _ _  T1 (mkF m 9 #[.val (.ref a1), .val (.ref a2), .val (.int (0 : Int32)), .val (.int (0 : Int32)), .val .null, .unset] [(.ref a1)])
  obtain ⟨sa2, T2, h2, kk2, sb2, kb2, X2, e2, E2, hS2, hk2, hZ2, ho2, E_sa2, F_coder_sa2, F_value_sa2, V_sb2, la2, lb2, CR2, Lt2, ns2, st2⟩ := ldcCH X1 hx hZ hown (hw _ (List.mem_of_getElem? (i := 79) rfl)) wS e1 hS hk hEL (List.mem_of_getElem? (i := 0) rfl) HH (vs := []) (z := 0) ⟨by decide, by decide⟩ (by decide) rfl (g := (mkF m 9 #[.val (.ref a1), .val (.ref a2), .val (.int (0 : Int32)), .val (.int (0 : Int32)), .val .null, .unset] [(.ref a1)])) rfl (hb hby d4_9) (n := 0) (by decide) (by decide) (by decide) (by decide)
  refine GoH.st st2 ?_
  have Sf_a1 := CHr.safe CR2 E_a1.lt Sf_a1
  have E_a1 := E_a1.ext E2
  have F_value_a1 := F_value_a1.ext E2
  have F_coder_a1 := F_coder_a1.ext E2
  have O := O.ext E2
  have KK := KK.ext E2
  have RR := RR.trans CR2
  have HH := CR2.1
  have hS := hS2
  have hk := hk2
  have hZ := hZ2
  have hown := ho2
  obtain ⟨ne_a1_sa2, ne_a1_sb2⟩ := ns2 _ Sf_a1
  show GoH _ _ _ _ _ _ _ _ _ _  T2 (mkF m 11 #[.val (.ref a1), .val (.ref a2), .val (.int (0 : Int32)), .val (.int (0 : Int32)), .val .null, .unset] [(.ref sa2), (.ref a1)])
  obtain ⟨T3, X3, e3, st3⟩ := getF X2 hx hZ hown (host := "") (Or.inl (hw _ (List.mem_of_getElem? (i := 39) rfl))) Via.refl e2 F_value_sa2 (g := (mkF m 11 #[.val (.ref a1), .val (.ref a2), .val (.int (0 : Int32)), .val (.int (0 : Int32)), .val .null, .unset] [(.ref sa2), (.ref a1)])) rfl rfl (hb hby d4_11)
  refine GoH.st st3 ?_
  show GoH _ _ _ _ _ _ _ _ _ _  T3 (mkF m 14 #[.val (.ref a1), .val (.ref a2), .val (.int (0 : Int32)), .val (.int (0 : Int32)), .val .null, .unset] [(.ref sb2), (.ref a1)])
  obtain ⟨T4, h4, X4, e4, W4, st4⟩ := putF X3 hx hZ hown (host := "") (Or.inl (hw _ (List.mem_of_getElem? (i := 39) rfl))) Via.refl e3 F_value_a1 E_a1 (Or.inr ⟨(hw _ (List.mem_of_getElem? (i := 40) rfl)), rfl, hnm⟩) (hw _ (List.mem_of_getElem? (i := 12) rfl)) (ty := (.array .byte)) (by decide) rfl rfl (g := (mkF m 14 #[.val (.ref a1), .val (.ref a2), .val (.int (0 : Int32)), .val (.int (0 : Int32)), .val .null, .unset] [(.ref sb2), (.ref a1)])) rfl rfl (hb hby d4_14)
  refine GoH.st st4 ?_
  have F_value_a1 : Fld Z h4 a1 "java/lang/String" "value" "[B" (.ref sb2) := F_value_a1.same W4
  have N4 := Fr.snoc X4 N0 g_a1
  have E_a1 := E_a1.wr W4
  have F_coder_a1 := F_coder_a1.other W4 (Or.inr (slot_ne (Or.inr (hw _ (List.mem_of_getElem? (i := 38) rfl))) (Or.inr (hw _ (List.mem_of_getElem? (i := 40) rfl))) (by decide) (t := .byte) (t' := (.array .byte)) (by decide) (by decide)))
  have E_sa2 := E_sa2.wr W4
  have V_sb2 := V_sb2.other W4 (Ne.symm ne_a1_sb2)
  have F_coder_sa2 := F_coder_sa2.other W4 (Or.inl (Ne.symm ne_a1_sa2))
  have F_value_sa2 := F_value_sa2.other W4 (Or.inl (Ne.symm ne_a1_sa2))
  have Sf'_a1 := Safe.wr W4 Sf_a1 HH Sf_a1
  have RR := RR.trans (CHr.wr W4 Sf_a1 HH)
  have HH := HH.wr W4 Sf_a1
  have Sf_a1 := Sf'_a1
  have hk := Nat.le_trans hk (Nat.le_of_eq W4.size.symm)
  have O := O.wr W4 g_a1
  have KK := KK.wr W4 (Or.inl (List.mem_of_getElem? (i := 0) rfl))
  show GoH _ _ _ _ _ _ _ _ _ _  T4 (mkF m 17 #[.val (.ref a1), .val (.ref a2), .val (.int (0 : Int32)), .val (.int (0 : Int32)), .val .null, .unset] [])
  refine GoH.st (fun t k => XS.aloadN X4.here hx rfl (hb hby d4_17) rfl rfl  k) ?_
  show GoH _ _ _ _ _ _ _ _ _ _  T4 (mkF m 18 #[.val (.ref a1), .val (.ref a2), .val (.int (0 : Int32)), .val (.int (0 : Int32)), .val .null, .unset] [(.ref a1)])
  obtain ⟨sa5, T5, h5, kk5, sb5, kb5, X5, e5, E5, hS5, hk5, hZ5, ho5, E_sa5, F_coder_sa5, F_value_sa5, V_sb5, la5, lb5, CR5, Lt5, ns5, st5⟩ := ldcCH X4 hx hZ hown (hw _ (List.mem_of_getElem? (i := 79) rfl)) wS e4 hS hk hEL (List.mem_of_getElem? (i := 0) rfl) HH (vs := []) (z := 0) ⟨by decide, by decide⟩ (by decide) rfl (g := (mkF m 18 #[.val (.ref a1), .val (.ref a2), .val (.int (0 : Int32)), .val (.int (0 : Int32)), .val .null, .unset] [(.ref a1)])) rfl (hb hby d4_18) (n := 0) (by decide) (by decide) (by decide) (by decide)
  refine GoH.st st5 ?_
  have Sf_a1 := CHr.safe CR5 E_a1.lt Sf_a1
  have E_a1 := E_a1.ext E5
  have F_value_a1 := F_value_a1.ext E5
  have F_coder_a1 := F_coder_a1.ext E5
  have E_sa2 := E_sa2.ext E5
  have V_sb2 := V_sb2.ext E5
  have F_coder_sa2 := F_coder_sa2.ext E5
  have F_value_sa2 := F_value_sa2.ext E5
  have O := O.ext E5
  have KK := KK.ext E5
  have RR := RR.trans CR5
  have HH := CR5.1
  have hS := hS5
  have hk := hk5
  have hZ := hZ5
  have hown := ho5
  obtain ⟨ne_a1_sa5, ne_a1_sb5⟩ := ns5 _ Sf_a1
  show GoH _ _ _ _ _ _ _ _ _ _  T5 (mkF m 20 #[.val (.ref a1), .val (.ref a2), .val (.int (0 : Int32)), .val (.int (0 : Int32)), .val .null, .unset] [(.ref sa5), (.ref a1)])
  obtain ⟨T6, X6, e6, st6⟩ := getF X5 hx hZ hown (host := "") (Or.inl (hw _ (List.mem_of_getElem? (i := 37) rfl))) Via.refl e5 F_coder_sa5 (g := (mkF m 20 #[.val (.ref a1), .val (.ref a2), .val (.int (0 : Int32)), .val (.int (0 : Int32)), .val .null, .unset] [(.ref sa5), (.ref a1)])) rfl rfl (hb hby d4_20)
  refine GoH.st st6 ?_
  show GoH _ _ _ _ _ _ _ _ _ _  T6 (mkF m 23 #[.val (.ref a1), .val (.ref a2), .val (.int (0 : Int32)), .val (.int (0 : Int32)), .val .null, .unset] [(.int (0 : Int32)), (.ref a1)])
  obtain ⟨T7, h7, X7, e7, W7, st7⟩ := putFN X6 hx hZ hown (hw _ (List.mem_of_getElem? (i := 37) rfl)) Via.refl e6 F_coder_a1 E_a1 (Or.inr ⟨(hw _ (List.mem_of_getElem? (i := 38) rfl)), rfl, hnm⟩) (hw _ (List.mem_of_getElem? (i := 12) rfl)) (ty := .byte) (v' := .int (0 : Int32)) (by decide) rfl rfl (g := (mkF m 23 #[.val (.ref a1), .val (.ref a2), .val (.int (0 : Int32)), .val (.int (0 : Int32)), .val .null, .unset] [(.int (0 : Int32)), (.ref a1)])) rfl rfl (hb hby d4_23)
  refine GoH.st st7 ?_
  have F_coder_a1 : Fld Z h7 a1 "java/lang/String" "coder" "B" (.int (0 : Int32)) := F_coder_a1.same W7
  have N7 := Fr.snoc X7 N4 g_a1
  have E_a1 := E_a1.wr W7
  have F_value_a1 := F_value_a1.other W7 (Or.inr (slot_ne (Or.inr (hw _ (List.mem_of_getElem? (i := 40) rfl))) (Or.inr (hw _ (List.mem_of_getElem? (i := 38) rfl))) (by decide) (t := (.array .byte)) (t' := .byte) (by decide) (by decide)))
  have E_sa2 := E_sa2.wr W7
  have V_sb2 := V_sb2.other W7 (Ne.symm ne_a1_sb2)
  have F_coder_sa2 := F_coder_sa2.other W7 (Or.inl (Ne.symm ne_a1_sa2))
  have F_value_sa2 := F_value_sa2.other W7 (Or.inl (Ne.symm ne_a1_sa2))
  have E_sa5 := E_sa5.wr W7
  have V_sb5 := V_sb5.other W7 (Ne.symm ne_a1_sb5)
  have F_coder_sa5 := F_coder_sa5.other W7 (Or.inl (Ne.symm ne_a1_sa5))
  have F_value_sa5 := F_value_sa5.other W7 (Or.inl (Ne.symm ne_a1_sa5))
  have Sf'_a1 := Safe.wr W7 Sf_a1 HH Sf_a1
  have RR := RR.trans (CHr.wr W7 Sf_a1 HH)
  have HH := HH.wr W7 Sf_a1
  have Sf_a1 := Sf'_a1
  have hk := Nat.le_trans hk (Nat.le_of_eq W7.size.symm)
  have O := O.wr W7 g_a1
  have KK := KK.wr W7 (Or.inl (List.mem_of_getElem? (i := 0) rfl))
  show GoH _ _ _ _ _ _ _ _ _ _  T7 (mkF m 26 #[.val (.ref a1), .val (.ref a2), .val (.int (0 : Int32)), .val (.int (0 : Int32)), .val .null, .unset] [])
  refine GoH.ret0 X7 hS hk e7 hZ hEL HH RR hlk hx Bd.returns (hb hby d4_26) (by decide) (by decide) ?_
  show Q_rmE4 Z _ _ _ _ h0 n0 _ T7.heap _
  rw [e7]
  exact ⟨rfl, N7, KK, E_a1, F_coder_a1, sb2, _, F_value_a1, V_sb2⟩
def Q_rmE (Z : State) (a1 : Addr) (a2 : Addr) (u1 : Value) (u2 : Value) (kC : ClassId) (h0 : Heap) (n0 : Nat) (v : Option Value) (h : Heap) (L : List Loc) : Prop := v = none ∧ Fr n0 L ∧ Keep h0 h [a1] ∧ Exa Z h a1 "java/lang/String" ∧ Fld Z h a1 "java/lang/String" "coder" "B" (.int 0) ∧ ∃ (t : Addr) (kb : ClassId), Fld Z h a1 "java/lang/String" "value" "[B" (.ref t) ∧ Arv Z h t kb .byte 0 [] (.int 0)
set_option maxRecDepth 65536 in
set_option maxHeartbeats 40000000 in
theorem rmE (l : Launch) (Z : State) (a0 : Array Value) (hw : ∀ d ∈ tables_1, d.before a0 Z = true) (ws : List Jvm.Cond) (a1 : Addr) (a2 : Addr) (u1 : Value) (u2 : Value) (kC : ClassId) (h0 : Heap) (n0 : Nat) (O : Old Z n0 h0) (hEL : EW Z a0 EL) (wS : ∀ a ∈ Bundle.stringAtoms, a.before a0 Z = true) (E_a1 : Exa Z h0 a1 "java/lang/String") (F_value_a1 : Fld Z h0 a1 "java/lang/String" "value" "[B" u1) (F_coder_a1 : Fld Z h0 a1 "java/lang/String" "coder" "B" u2) (g_a1 : n0 ≤ a1) (V_a2 : Arv Z h0 a2 kC .char 0 [] (.int 0)) (ne_a2_a1 : a2 ≠ a1) :
    MetFree l (⟨"java/lang/String", "<init>", "([C)V"⟩ : MethodName) (head1 (Jvm.Cond.code (⟨"java/lang/String", "<init>", "([C)V"⟩ : MethodName) jdk_42_method_3_code 2 none :: ws) ({ frames := 2, cells := 4, slots := 8, locals := 29 } : Room)) (fun a U => a = #[(.ref a1), (.ref a2)] ∧ Z.Warmed39 U.vm ∧ U.heap = h0 ∧ CHv Z EL U.vm h0 ∧ ∀ x ∈ ([a1] : List Addr), Safe Z EL U.vm h0 x) (fun _ _ _ _ _ => True) (fun _ U o U' => ∃ v L, o = .returned v ∧ Q_rmE Z a1 a2 u1 u2 kC h0 n0 v U'.heap L ∧ CHr Z EL U.vm U.heap U'.vm U'.heap ∧ ReturnedEndW U o U' L ({ frames := 2, cells := 4, slots := 8, locals := 29 } : Room).cells ({ frames := 2, cells := 4, slots := 8, locals := 29 } : Room).slots) := by
  refine MetFree.of_bodySF (plainFor_of_name pn_3) hisR ?_
  intro p e s m args below meth c s₁ Bd hml0 hP hK
  obtain ⟨rfl, hZ, hh, HH, hSF⟩ := hP
  have hx := Bd.exec
  have hby := Bd.bytes
  have hml : c.maxLocals = 2 := hml0
  have hown : s.vm.findClass "java/lang/String" = some m.cls := findClass_of_methodNamed Bd.named
  have hnm := (name_of_methodNamed Bd.named Bd.method).1
  have hlk : meth.locks = false := BodyLoose.notSynchronized Bd
  have X0 : Stand p l e ({ frames := 2, cells := 4, slots := 8, locals := 29 } : Room) (s.setVm s.vm) m #[(.ref a1), (.ref a2)] below meth c s₁ [] 0 0 := Stand.of_body Bd
  have e0 : s₁.heap = h0 := by rw [← hh, Bd.state]; rfl
  have N0 := Fr.nil n0
  have KK : Keep h0 h0 [a1] := Keep.refl h0 _
  have hS : s.Since s.vm h0.size := own_since s _
  have hk : h0.size ≤ h0.size := Nat.le_refl _
  have RR : CHr Z EL s.vm h0 s.vm h0 := CHr.refl HH
  have Sf_a1 : Safe Z EL s.vm h0 a1 := hSF _ (List.mem_of_getElem? (i := 0) rfl)
  suffices hgo : GoH p e below s ({ frames := 2, cells := 4, slots := 8, locals := 29 } : Room).cells ({ frames := 2, cells := 4, slots := 8, locals := 29 } : Room).slots Z h0 EL (Q_rmE Z a1 a2 u1 u2 kC h0 n0) s₁ (entryFrame m #[(.ref a1), (.ref a2)] 2) by
    obtain ⟨s₂, o, q1, q2, q3, v, L, q4, q5, q6, q7⟩ := hgo; exact ⟨s₂, o, q1, q2, q3, v, L, q4, q5, hh ▸ q6, q7⟩
  refine GoH.eq (ef_rmE m a1 a2) ?_
  show GoH _ _ _ _ _ _ _ _ _ _  s₁ (mkF m 0 #[.val (.ref a1), .val (.ref a2)] [])
  refine GoH.st (fun t k => XS.aloadN X0.here hx rfl (hb hby d3_0) rfl rfl  k) ?_
  show GoH _ _ _ _ _ _ _ _ _ _  s₁ (mkF m 1 #[.val (.ref a1), .val (.ref a2)] [(.ref a1)])
  refine GoH.st (fun t k => XS.aloadN X0.here hx rfl (hb hby d3_1) rfl rfl  k) ?_
  show GoH _ _ _ _ _ _ _ _ _ _  s₁ (mkF m 2 #[.val (.ref a1), .val (.ref a2)] [(.ref a2), (.ref a1)])
  refine GoH.st (fun t k => XS.iconst X0.here hx rfl (hb hby d3_2) k) ?_
  show GoH _ _ _ _ _ _ _ _ _ _  s₁ (mkF m 3 #[.val (.ref a1), .val (.ref a2)] [(.int (0 : Int32)), (.ref a2), (.ref a1)])
  refine GoH.st (fun t k => XS.aloadN X0.here hx rfl (hb hby d3_3) rfl rfl  k) ?_
  show GoH _ _ _ _ _ _ _ _ _ _  s₁ (mkF m 4 #[.val (.ref a1), .val (.ref a2)] [(.ref a2), (.int (0 : Int32)), (.ref a2), (.ref a1)])
  obtain ⟨cl1, Ar1, q1, S1, M1, Hh1, G1⟩ := id V_a2
  refine GoH.st (X0.arraylength hx (by rw [e0]; exact Ar1.1) (State.isArrayOf_alike hZ.alike Ar1.2.1) (g := (mkF m 4 #[.val (.ref a1), .val (.ref a2)] [(.ref a2), (.int (0 : Int32)), (.ref a2), (.ref a1)])) rfl rfl (hb hby d3_4)) ?_
  rw [len_of S1 M1]
  show GoH _ _ _ _ _ _ _ _ _ _  s₁ (mkF m 5 #[.val (.ref a1), .val (.ref a2)] [(.int (0 : Int32)), (.int (0 : Int32)), (.ref a2), (.ref a1)])
  refine GoH.st (fun t k => XS.aconstNull X0.here hx rfl (hb hby d3_5) k) ?_
  show GoH _ _ _ _ _ _ _ _ _ _  s₁ (mkF m 6 #[.val (.ref a1), .val (.ref a2)] [.null, (.int (0 : Int32)), (.int (0 : Int32)), (.ref a2), (.ref a1)])
  obtain ⟨_, _, ⟨T2, L2, k2, n2⟩, -, X2, hSn2, hgn2, ⟨Lc2, hQ2, l2, y2, z2, CR2⟩, st2⟩ := X0.specialBackS hx (y := (⟨"java/lang/String", "<init>", "([CIILjava/lang/Void;)V"⟩ : MethodName)) rfl hown (mvT hZ (hw _ (List.mem_of_getElem? (i := 18) rfl))) (mvT hZ (hw _ (List.mem_of_getElem? (i := 19) rfl))) (mvT hZ (hw _ (List.mem_of_getElem? (i := 21) rfl))) (by decide) (own_backSH (sf := [a1]) (W := 0) (rmE4 l Z a0 hw [] a1 a2 u1 u2 h0 n0 O hEL wS E_a1 F_value_a1 F_coder_a1 g_a1) hZ (hw _ (List.mem_of_getElem? (i := 21) rfl)) (hw _ (List.mem_of_getElem? (i := 13) rfl)) (by decide) (by decide) hEL HH (allS (P := fun x => Safe Z EL s.vm h0 x ∧ x < Array.size h0) ⟨Sf_a1, E_a1.lt⟩ all0)) (g := (mkF m 6 #[.val (.ref a1), .val (.ref a2)] [.null, (.int (0 : Int32)), (.int (0 : Int32)), (.ref a2), (.ref a1)])) rfl (by rw [hml]; rfl) (Steps.refl _) (a := a1) (argsL := [(.ref a2), (.int (0 : Int32)), (.int (0 : Int32)), .null]) (rest := []) (lenOf pd___CIILjava_lang_Void__V rfl) rfl (by show 2 * 0 + _ ≤ _; exact Nat.le_of_eq rfl) (hb hby d3_6) (fun _ _ => ⟨rfl, e0, (by decide : 0 + 4 ≤ _), (by decide : 0 + 8 ≤ _)⟩)
  dsimp only [Pt.U, Pt.locs, Pt.cells, Pt.slots] at X2 l2 y2 z2 st2 hQ2 hSn2 hgn2 CR2
  subst l2 y2 z2
  obtain ⟨rfl, N2q, K2q, Eq2, Cq2, t2, kt2, Vq2, Aq2⟩ := hQ2
  have X2 : Stand p l e _ (s.setVm T2.vm) m _ below meth c T2 _ _ _ := X2
  have N2 := Fr.app N0 N2q
  refine GoH.tr st2 ?_
  have hS2 := Jvm.RoadKit.foldS hS (by rw [e0]; exact hk) hSn2 hgn2
  have hZ2 := State.Warmed39.trans (t := s.setVm s.vm) hZ hSn2.1
  have hk2 := Nat.le_refl T2.heap.size
  have hown2 : T2.vm.findClass "java/lang/String" = some m.cls := by rw [hSn2.1.alike.findClass]; exact hown
  have Sf_a1 := CHr.safe CR2 E_a1.lt Sf_a1
  have E_a1 := E_a1.keep K2q
  have V_a2 := V_a2.keep K2q (ninS ne_a2_a1 nin0)
  have O := O.keep K2q (allS g_a1 all0)
  have KK := KK.trans K2q (allS (Or.inl (List.mem_of_getElem? (i := 0) rfl)) all0)
  have RR := RR.trans CR2
  have HH := CR2.1
  have hS := hS2
  have hk := hk2
  have hZ := hZ2
  have hown := hown2
  show GoH _ _ _ _ _ _ _ _ _ _  T2 (mkF m 9 #[.val (.ref a1), .val (.ref a2)] [])
  refine GoH.ret0 X2 hS hk rfl hZ hEL HH RR hlk hx Bd.returns (hb hby d3_9) (by decide) (by decide) ?_
  show Q_rmE Z _ _ _ _ _ h0 n0 _ T2.heap _
  exact ⟨rfl, N2, KK, Eq2, Cq2, _, _, Vq2, Aq2⟩
def Q_rmK (Z : State) (p1 : Int32) (w_EQUAL : Addr) (w_LESS : Addr) (w_LESS_OR_EQUAL : Addr) (w_GREATER : Addr) (w_GREATER_OR_EQUAL : Addr) (h0 : Heap) (n0 : Nat) (v : Option Value) (h : Heap) (L : List Loc) : Prop := ∃ w : Addr, v = some (.ref w) ∧ Fr n0 L ∧ h = h0
set_option maxRecDepth 65536 in
set_option maxHeartbeats 40000000 in
theorem rmK (l : Launch) (Z : State) (a0 : Array Value) (hw : ∀ d ∈ tables_1, d.before a0 Z = true) (ws : List Jvm.Cond) (p1 : Int32) (w_EQUAL : Addr) (w_LESS : Addr) (w_LESS_OR_EQUAL : Addr) (w_GREATER : Addr) (w_GREATER_OR_EQUAL : Addr) (h0 : Heap) (n0 : Nat) (O : Old Z n0 h0) (S_EQUAL : Sta Z Z.heap "com/example/nodewell/nodewell/store/ValueTest$Comparison" "EQUAL" "Lcom/example/nodewell/nodewell/store/ValueTest$Comparison;" (.ref w_EQUAL)) (S_LESS : Sta Z Z.heap "com/example/nodewell/nodewell/store/ValueTest$Comparison" "LESS" "Lcom/example/nodewell/nodewell/store/ValueTest$Comparison;" (.ref w_LESS)) (S_LESS_OR_EQUAL : Sta Z Z.heap "com/example/nodewell/nodewell/store/ValueTest$Comparison" "LESS_OR_EQUAL" "Lcom/example/nodewell/nodewell/store/ValueTest$Comparison;" (.ref w_LESS_OR_EQUAL)) (S_GREATER : Sta Z Z.heap "com/example/nodewell/nodewell/store/ValueTest$Comparison" "GREATER" "Lcom/example/nodewell/nodewell/store/ValueTest$Comparison;" (.ref w_GREATER)) (S_GREATER_OR_EQUAL : Sta Z Z.heap "com/example/nodewell/nodewell/store/ValueTest$Comparison" "GREATER_OR_EQUAL" "Lcom/example/nodewell/nodewell/store/ValueTest$Comparison;" (.ref w_GREATER_OR_EQUAL)) :
    MetFree l (⟨"com/example/nodewell/nodewell/store/ConditionIsNumericPinLaw", "pick", "(I)Lcom/example/nodewell/nodewell/store/ValueTest$Comparison;"⟩ : MethodName) (head1 (Jvm.Cond.code (⟨"com/example/nodewell/nodewell/store/ConditionIsNumericPinLaw", "pick", "(I)Lcom/example/nodewell/nodewell/store/ValueTest$Comparison;"⟩ : MethodName) method_2_code 2 (some (.object "com/example/nodewell/nodewell/store/ValueTest$Comparison")) :: ws) ({ frames := 0, cells := 0, slots := 0, locals := 0 } : Room)) (fun a U => a = #[(.int p1)] ∧ Z.Warmed39 U.vm ∧ U.heap = h0) (fun _ _ _ _ _ => True) (fun _ U o U' => ∃ v L, o = .returned v ∧ Q_rmK Z p1 w_EQUAL w_LESS w_LESS_OR_EQUAL w_GREATER w_GREATER_OR_EQUAL h0 n0 v U'.heap L ∧ FrameEnd U o U' L ({ frames := 0, cells := 0, slots := 0, locals := 0 } : Room).cells ({ frames := 0, cells := 0, slots := 0, locals := 0 } : Room).slots) := by
  refine MetFree.of_bodySF (plainFor_of_name pn_1) hisR ?_
  intro p e s m args below meth c s₁ Bd hml0 hP hK
  obtain ⟨rfl, hZ, hh⟩ := hP
  have hx := Bd.exec
  have hby := Bd.bytes
  have hml : c.maxLocals = 2 := hml0
  have hown : s.vm.findClass "com/example/nodewell/nodewell/store/ConditionIsNumericPinLaw" = some m.cls := findClass_of_methodNamed Bd.named
  have hnm := (name_of_methodNamed Bd.named Bd.method).1
  have hlk : meth.locks = false := BodyLoose.notSynchronized Bd
  have X0 : Stand p l e ({ frames := 0, cells := 0, slots := 0, locals := 0 } : Room) s m #[(.int p1)] below meth c s₁ [] 0 0 := Stand.of_body Bd
  have e0 : s₁.heap = h0 := by rw [← hh, Bd.state]; rfl
  have N0 := Fr.nil n0
  show Go p e below s ({ frames := 0, cells := 0, slots := 0, locals := 0 } : Room).cells ({ frames := 0, cells := 0, slots := 0, locals := 0 } : Room).slots (Q_rmK Z p1 w_EQUAL w_LESS w_LESS_OR_EQUAL w_GREATER w_GREATER_OR_EQUAL h0 n0) s₁ (entryFrame m #[(.int p1)] 2)
  refine Go.eq (ef_rmK m p1) ?_
  show Go _ _ _ _ _ _ _  s₁ (mkF m 0 #[.val (.int p1), .unset] [])
  refine Go.st (fun t k => XS.iloadN X0.here hx rfl (hb hby d1_0) rfl  k) ?_
  show Go _ _ _ _ _ _ _  s₁ (mkF m 1 #[.val (.int p1), .unset] [(.int p1)])
  refine Go.st (X0.ldcInt hx hown (mvT hZ (hw _ (List.mem_of_getElem? (i := 4) rfl))) (g := (mkF m 1 #[.val (.int p1), .unset] [(.int p1)])) rfl (hb hby d1_1)) ?_
  show Go _ _ _ _ _ _ _  s₁ (mkF m 3 #[.val (.int p1), .unset] [(.int (2147483647 : Int32)), (.int p1)])
  refine Go.st (fun t k => XS.iand X0.here hx rfl (hb hby d1_3) rfl k) ?_
  show Go _ _ _ _ _ _ _  s₁ (mkF m 4 #[.val (.int p1), .unset] [(.int (p1 &&& (2147483647 : Int32)))])
  refine Go.st (fun t k => XS.iconst X0.here hx rfl (hb hby d1_4) k) ?_
  show Go _ _ _ _ _ _ _  s₁ (mkF m 5 #[.val (.int p1), .unset] [(.int (5 : Int32)), (.int (p1 &&& (2147483647 : Int32)))])
  refine Go.st (fun t k => Jvm.RoadKit.iremM X0 hx rfl (hb hby d1_5) rfl (by decide) k) ?_
  show Go _ _ _ _ _ _ _  s₁ (mkF m 6 #[.val (.int p1), .unset] [(.int ((p1 &&& (2147483647 : Int32)) % (5 : Int32)))])
  refine Go.st (fun t k => XS.istoreN X0.here hx rfl (hb hby d1_6) rfl (l' := #[.val (.int p1), .val (.int ((p1 &&& (2147483647 : Int32)) % (5 : Int32)))]) rfl k) ?_
  show Go _ _ _ _ _ _ _  s₁ (mkF m 7 #[.val (.int p1), .val (.int ((p1 &&& (2147483647 : Int32)) % (5 : Int32)))] [])
  refine Go.st (fun t k => XS.iloadN X0.here hx rfl (hb hby d1_7) rfl  k) ?_
  show Go _ _ _ _ _ _ _  s₁ (mkF m 8 #[.val (.int p1), .val (.int ((p1 &&& (2147483647 : Int32)) % (5 : Int32)))] [(.int ((p1 &&& (2147483647 : Int32)) % (5 : Int32)))])
  by_cases c8_1 : ((p1 &&& (2147483647 : Int32)) % (5 : Int32)) = (0 : Int32)
  · refine Go.st (fun t k => XS.ifNo X0.here hx rfl (hb hby d1_8) rfl ((if0 _ _).trans (teq c8_1).2) k) ?_
    show Go _ _ _ _ _ _ _  s₁ (mkF m 11 #[.val (.int p1), .val (.int ((p1 &&& (2147483647 : Int32)) % (5 : Int32)))] [])
    obtain ⟨T2, X2, e2, st2⟩ := getS2 X0 hx hZ hown (host := "") (Or.inl (hw _ (List.mem_of_getElem? (i := 5) rfl))) Via.refl e0 (S_EQUAL.ext O.2) (g := (mkF m 11 #[.val (.int p1), .val (.int ((p1 &&& (2147483647 : Int32)) % (5 : Int32)))] [])) rfl (hb hby d1_11)
    refine Go.st st2 ?_
    show Go _ _ _ _ _ _ _  T2 (mkF m 14 #[.val (.int p1), .val (.int ((p1 &&& (2147483647 : Int32)) % (5 : Int32)))] [(.ref w_EQUAL)])
    refine Go.retR X2 hlk hx Bd.returns rfl rfl rfl (hb hby d1_14) (by decide) (by decide) ?_
    show Q_rmK Z _ _ _ _ _ _ h0 n0 _ T2.heap _
    rw [e2]
    exact ⟨_, rfl, N0, rfl⟩
  · refine Go.st (fun t k => XS.ifYes X0.here hx rfl (pc0 := 8) (pc' := 15) rfl (hb hby d1_8) rfl ((if0 _ _).trans (feq c8_1).2) (by decide) (by decide) k) ?_
    show Go _ _ _ _ _ _ _  s₁ (mkF m 15 #[.val (.int p1), .val (.int ((p1 &&& (2147483647 : Int32)) % (5 : Int32)))] [])
    refine Go.st (fun t k => XS.iloadN X0.here hx rfl (hb hby d1_15) rfl  k) ?_
    show Go _ _ _ _ _ _ _  s₁ (mkF m 16 #[.val (.int p1), .val (.int ((p1 &&& (2147483647 : Int32)) % (5 : Int32)))] [(.int ((p1 &&& (2147483647 : Int32)) % (5 : Int32)))])
    refine Go.st (fun t k => XS.iconst X0.here hx rfl (hb hby d1_16) k) ?_
    show Go _ _ _ _ _ _ _  s₁ (mkF m 17 #[.val (.int p1), .val (.int ((p1 &&& (2147483647 : Int32)) % (5 : Int32)))] [(.int (1 : Int32)), (.int ((p1 &&& (2147483647 : Int32)) % (5 : Int32)))])
    by_cases c17_3 : ((p1 &&& (2147483647 : Int32)) % (5 : Int32)) = (1 : Int32)
    · refine Go.st (fun t k => XS.icmpNo X0.here hx rfl (hb hby d1_17) rfl (teq c17_3).2 k) ?_
      show Go _ _ _ _ _ _ _  s₁ (mkF m 20 #[.val (.int p1), .val (.int ((p1 &&& (2147483647 : Int32)) % (5 : Int32)))] [])
      obtain ⟨T4, X4, e4, st4⟩ := getS2 X0 hx hZ hown (host := "") (Or.inl (hw _ (List.mem_of_getElem? (i := 77) rfl))) Via.refl e0 (S_LESS.ext O.2) (g := (mkF m 20 #[.val (.int p1), .val (.int ((p1 &&& (2147483647 : Int32)) % (5 : Int32)))] [])) rfl (hb hby d1_20)
      refine Go.st st4 ?_
      show Go _ _ _ _ _ _ _  T4 (mkF m 23 #[.val (.int p1), .val (.int ((p1 &&& (2147483647 : Int32)) % (5 : Int32)))] [(.ref w_LESS)])
      refine Go.retR X4 hlk hx Bd.returns rfl rfl rfl (hb hby d1_23) (by decide) (by decide) ?_
      show Q_rmK Z _ _ _ _ _ _ h0 n0 _ T4.heap _
      rw [e4]
      exact ⟨_, rfl, N0, rfl⟩
    · refine Go.st (fun t k => XS.icmpYes X0.here hx rfl (pc0 := 17) (pc' := 24) rfl (hb hby d1_17) rfl (feq c17_3).2 (by decide) (by decide) k) ?_
      show Go _ _ _ _ _ _ _  s₁ (mkF m 24 #[.val (.int p1), .val (.int ((p1 &&& (2147483647 : Int32)) % (5 : Int32)))] [])
      refine Go.st (fun t k => XS.iloadN X0.here hx rfl (hb hby d1_24) rfl  k) ?_
      show Go _ _ _ _ _ _ _  s₁ (mkF m 25 #[.val (.int p1), .val (.int ((p1 &&& (2147483647 : Int32)) % (5 : Int32)))] [(.int ((p1 &&& (2147483647 : Int32)) % (5 : Int32)))])
      refine Go.st (fun t k => XS.iconst X0.here hx rfl (hb hby d1_25) k) ?_
      show Go _ _ _ _ _ _ _  s₁ (mkF m 26 #[.val (.int p1), .val (.int ((p1 &&& (2147483647 : Int32)) % (5 : Int32)))] [(.int (2 : Int32)), (.int ((p1 &&& (2147483647 : Int32)) % (5 : Int32)))])
      by_cases c26_5 : ((p1 &&& (2147483647 : Int32)) % (5 : Int32)) = (2 : Int32)
      · refine Go.st (fun t k => XS.icmpNo X0.here hx rfl (hb hby d1_26) rfl (teq c26_5).2 k) ?_
        show Go _ _ _ _ _ _ _  s₁ (mkF m 29 #[.val (.int p1), .val (.int ((p1 &&& (2147483647 : Int32)) % (5 : Int32)))] [])
        obtain ⟨T6, X6, e6, st6⟩ := getS2 X0 hx hZ hown (host := "") (Or.inl (hw _ (List.mem_of_getElem? (i := 73) rfl))) Via.refl e0 (S_LESS_OR_EQUAL.ext O.2) (g := (mkF m 29 #[.val (.int p1), .val (.int ((p1 &&& (2147483647 : Int32)) % (5 : Int32)))] [])) rfl (hb hby d1_29)
        refine Go.st st6 ?_
        show Go _ _ _ _ _ _ _  T6 (mkF m 32 #[.val (.int p1), .val (.int ((p1 &&& (2147483647 : Int32)) % (5 : Int32)))] [(.ref w_LESS_OR_EQUAL)])
        refine Go.retR X6 hlk hx Bd.returns rfl rfl rfl (hb hby d1_32) (by decide) (by decide) ?_
        show Q_rmK Z _ _ _ _ _ _ h0 n0 _ T6.heap _
        rw [e6]
        exact ⟨_, rfl, N0, rfl⟩
      · refine Go.st (fun t k => XS.icmpYes X0.here hx rfl (pc0 := 26) (pc' := 33) rfl (hb hby d1_26) rfl (feq c26_5).2 (by decide) (by decide) k) ?_
        show Go _ _ _ _ _ _ _  s₁ (mkF m 33 #[.val (.int p1), .val (.int ((p1 &&& (2147483647 : Int32)) % (5 : Int32)))] [])
        refine Go.st (fun t k => XS.iloadN X0.here hx rfl (hb hby d1_33) rfl  k) ?_
        show Go _ _ _ _ _ _ _  s₁ (mkF m 34 #[.val (.int p1), .val (.int ((p1 &&& (2147483647 : Int32)) % (5 : Int32)))] [(.int ((p1 &&& (2147483647 : Int32)) % (5 : Int32)))])
        refine Go.st (fun t k => XS.iconst X0.here hx rfl (hb hby d1_34) k) ?_
        show Go _ _ _ _ _ _ _  s₁ (mkF m 35 #[.val (.int p1), .val (.int ((p1 &&& (2147483647 : Int32)) % (5 : Int32)))] [(.int (3 : Int32)), (.int ((p1 &&& (2147483647 : Int32)) % (5 : Int32)))])
        by_cases c35_7 : ((p1 &&& (2147483647 : Int32)) % (5 : Int32)) = (3 : Int32)
        · refine Go.st (fun t k => XS.icmpNo X0.here hx rfl (hb hby d1_35) rfl (teq c35_7).2 k) ?_
          show Go _ _ _ _ _ _ _  s₁ (mkF m 38 #[.val (.int p1), .val (.int ((p1 &&& (2147483647 : Int32)) % (5 : Int32)))] [])
          obtain ⟨T8, X8, e8, st8⟩ := getS2 X0 hx hZ hown (host := "") (Or.inl (hw _ (List.mem_of_getElem? (i := 82) rfl))) Via.refl e0 (S_GREATER.ext O.2) (g := (mkF m 38 #[.val (.int p1), .val (.int ((p1 &&& (2147483647 : Int32)) % (5 : Int32)))] [])) rfl (hb hby d1_38)
          refine Go.st st8 ?_
          show Go _ _ _ _ _ _ _  T8 (mkF m 41 #[.val (.int p1), .val (.int ((p1 &&& (2147483647 : Int32)) % (5 : Int32)))] [(.ref w_GREATER)])
          refine Go.retR X8 hlk hx Bd.returns rfl rfl rfl (hb hby d1_41) (by decide) (by decide) ?_
          show Q_rmK Z _ _ _ _ _ _ h0 n0 _ T8.heap _
          rw [e8]
          exact ⟨_, rfl, N0, rfl⟩
        · refine Go.st (fun t k => XS.icmpYes X0.here hx rfl (pc0 := 35) (pc' := 42) rfl (hb hby d1_35) rfl (feq c35_7).2 (by decide) (by decide) k) ?_
          show Go _ _ _ _ _ _ _  s₁ (mkF m 42 #[.val (.int p1), .val (.int ((p1 &&& (2147483647 : Int32)) % (5 : Int32)))] [])
          obtain ⟨T9, X9, e9, st9⟩ := getS2 X0 hx hZ hown (host := "") (Or.inl (hw _ (List.mem_of_getElem? (i := 75) rfl))) Via.refl e0 (S_GREATER_OR_EQUAL.ext O.2) (g := (mkF m 42 #[.val (.int p1), .val (.int ((p1 &&& (2147483647 : Int32)) % (5 : Int32)))] [])) rfl (hb hby d1_42)
          refine Go.st st9 ?_
          show Go _ _ _ _ _ _ _  T9 (mkF m 45 #[.val (.int p1), .val (.int ((p1 &&& (2147483647 : Int32)) % (5 : Int32)))] [(.ref w_GREATER_OR_EQUAL)])
          refine Go.retR X9 hlk hx Bd.returns rfl rfl rfl (hb hby d1_45) (by decide) (by decide) ?_
          show Q_rmK Z _ _ _ _ _ _ h0 n0 _ T9.heap _
          rw [e9]
          exact ⟨_, rfl, N0, rfl⟩
def Q_rmR (Z : State) (a1 : Addr) (h0 : Heap) (n0 : Nat) (v : Option Value) (h : Heap) (L : List Loc) : Prop := v = none ∧ Fr n0 L ∧ h = h0
set_option maxRecDepth 65536 in
set_option maxHeartbeats 40000000 in
theorem rmR (l : Launch) (Z : State) (a0 : Array Value) (hw : ∀ d ∈ tables_1, d.before a0 Z = true) (ws : List Jvm.Cond) (a1 : Addr) (h0 : Heap) (n0 : Nat) (O : Old Z n0 h0) :
    MetFree l (⟨"java/lang/Record", "<init>", "()V"⟩ : MethodName) (head1 (Jvm.Cond.code (⟨"java/lang/Record", "<init>", "()V"⟩ : MethodName) jdk_30_method_1_code 1 none :: ws) ({ frames := 1, cells := 0, slots := 0, locals := 12 } : Room)) (fun a U => a = #[(.ref a1)] ∧ Z.Warmed39 U.vm ∧ U.heap = h0) (fun _ _ _ _ _ => True) (fun _ U o U' => ∃ v L, o = .returned v ∧ Q_rmR Z a1 h0 n0 v U'.heap L ∧ FrameEnd U o U' L ({ frames := 1, cells := 0, slots := 0, locals := 12 } : Room).cells ({ frames := 1, cells := 0, slots := 0, locals := 12 } : Room).slots) := by
  refine MetFree.of_bodySF (plainFor_of_name pn_10) hisR ?_
  intro p e s m args below meth c s₁ Bd hml0 hP hK
  obtain ⟨rfl, hZ, hh⟩ := hP
  have hx := Bd.exec
  have hby := Bd.bytes
  have hml : c.maxLocals = 1 := hml0
  have hown : s.vm.findClass "java/lang/Record" = some m.cls := findClass_of_methodNamed Bd.named
  have hnm := (name_of_methodNamed Bd.named Bd.method).1
  have hlk : meth.locks = false := BodyLoose.notSynchronized Bd
  have X0 : Stand p l e ({ frames := 1, cells := 0, slots := 0, locals := 12 } : Room) s m #[(.ref a1)] below meth c s₁ [] 0 0 := Stand.of_body Bd
  have e0 : s₁.heap = h0 := by rw [← hh, Bd.state]; rfl
  have N0 := Fr.nil n0
  show Go p e below s ({ frames := 1, cells := 0, slots := 0, locals := 12 } : Room).cells ({ frames := 1, cells := 0, slots := 0, locals := 12 } : Room).slots (Q_rmR Z a1 h0 n0) s₁ (entryFrame m #[(.ref a1)] 1)
  refine Go.eq (ef_rmR m a1) ?_
  show Go _ _ _ _ _ _ _  s₁ (mkF m 0 #[.val (.ref a1)] [])
  refine Go.st (fun t k => XS.aloadN X0.here hx rfl (hb hby d10_0) rfl rfl  k) ?_
  show Go _ _ _ _ _ _ _  s₁ (mkF m 1 #[.val (.ref a1)] [(.ref a1)])
  obtain ⟨T1, X1, e1, st1⟩ := initO X0 hx hZ hown (hw _ (List.mem_of_getElem? (i := 52) rfl)) (hw _ (List.mem_of_getElem? (i := 23) rfl)) (hw _ (List.mem_of_getElem? (i := 24) rfl)) e0 (g := (mkF m 1 #[.val (.ref a1)] [(.ref a1)])) rfl (by rw [hml]; rfl) rfl (hb hby d10_1) (by decide) (W := 0) (by show 2 * 0 + _ ≤ _; exact Nat.le_of_eq rfl) (by decide)
  refine Go.st st1 ?_
  show Go _ _ _ _ _ _ _  T1 (mkF m 4 #[.val (.ref a1)] [])
  refine Go.ret0 X1 hlk hx Bd.returns (hb hby d10_4) (by decide) (by decide) ?_
  show Q_rmR Z _ h0 n0 _ T1.heap _
  rw [e1]
  exact ⟨rfl, N0, rfl⟩
def Q_rmD (Z : State) (p1 : Int32) (p2 : Int32) (zc : Int32) (h0 : Heap) (n0 : Nat) (v : Option Value) (h : Heap) (L : List Loc) : Prop := ∃ b : Addr, v = some (.ref b) ∧ Fr n0 L ∧ Ext h0 h
set_option maxRecDepth 65536 in
set_option maxHeartbeats 40000000 in
theorem rmD (l : Launch) (Z : State) (a0 : Array Value) (hw : ∀ d ∈ tables_1, d.before a0 Z = true) (ws : List Jvm.Cond) (p1 : Int32) (p2 : Int32) (zc : Int32) (h0 : Heap) (n0 : Nat) (O : Old Z n0 h0) (hEL : EW Z a0 EL) (wS : ∀ a ∈ Bundle.stringAtoms, a.before a0 Z = true) (S_COMPACT : Sta Z Z.heap "java/lang/String" "COMPACT_STRINGS" "Z" (.int zc)) (hcs : ¬ zc = 0) :
    MetFree l (⟨"com/example/nodewell/nodewell/store/ConditionIsNumericPinLaw", "draw", "(II)Ljava/lang/String;"⟩ : MethodName) (head1 (Jvm.Cond.code (⟨"com/example/nodewell/nodewell/store/ConditionIsNumericPinLaw", "draw", "(II)Ljava/lang/String;"⟩ : MethodName) method_3_code 5 (some (.object "java/lang/String")) :: ws) ({ frames := 4, cells := 6, slots := 16, locals := 72 } : Room)) (fun a U => a = #[(.int p1), (.int p2)] ∧ Z.Warmed39 U.vm ∧ U.heap = h0 ∧ CHv Z EL U.vm h0 ∧ ∀ x ∈ ([] : List Addr), Safe Z EL U.vm h0 x) (fun _ _ _ _ _ => True) (fun _ U o U' => ∃ v L, o = .returned v ∧ Q_rmD Z p1 p2 zc h0 n0 v U'.heap L ∧ CHr Z EL U.vm U.heap U'.vm U'.heap ∧ ReturnedEndW U o U' L ({ frames := 4, cells := 6, slots := 16, locals := 72 } : Room).cells ({ frames := 4, cells := 6, slots := 16, locals := 72 } : Room).slots) := by
  refine MetFree.of_bodySF (plainFor_of_name pn_2) hisR ?_
  intro p e s m args below meth c s₁ Bd hml0 hP hK
  obtain ⟨rfl, hZ, hh, HH, hSF⟩ := hP
  have hx := Bd.exec
  have hby := Bd.bytes
  have hml : c.maxLocals = 5 := hml0
  have hown : s.vm.findClass "com/example/nodewell/nodewell/store/ConditionIsNumericPinLaw" = some m.cls := findClass_of_methodNamed Bd.named
  have hnm := (name_of_methodNamed Bd.named Bd.method).1
  have hlk : meth.locks = false := BodyLoose.notSynchronized Bd
  have X0 : Stand p l e ({ frames := 4, cells := 6, slots := 16, locals := 72 } : Room) (s.setVm s.vm) m #[(.int p1), (.int p2)] below meth c s₁ [] 0 0 := Stand.of_body Bd
  have e0 : s₁.heap = h0 := by rw [← hh, Bd.state]; rfl
  have N0 := Fr.nil n0
  have KK : Keep h0 h0 [] := Keep.refl h0 _
  have hS : s.Since s.vm h0.size := own_since s _
  have hk : h0.size ≤ h0.size := Nat.le_refl _
  have RR : CHr Z EL s.vm h0 s.vm h0 := CHr.refl HH
  suffices hgo : GoH p e below s ({ frames := 4, cells := 6, slots := 16, locals := 72 } : Room).cells ({ frames := 4, cells := 6, slots := 16, locals := 72 } : Room).slots Z h0 EL (Q_rmD Z p1 p2 zc h0 n0) s₁ (entryFrame m #[(.int p1), (.int p2)] 5) by
    obtain ⟨s₂, o, q1, q2, q3, v, L, q4, q5, q6, q7⟩ := hgo; exact ⟨s₂, o, q1, q2, q3, v, L, q4, q5, hh ▸ q6, q7⟩
  refine GoH.eq (ef_rmD m p1 p2) ?_
  have hws : ∀ d ∈ StrChars.Road.words, d.before a0 Z = true := fun d hd => hw d ((by decide +kernel : ∀ d ∈ StrChars.Road.words, d ∈ tables_1) d hd)
  show GoH _ _ _ _ _ _ _ _ _ _  s₁ (mkF m 0 #[.val (.int p1), .val (.int p2), .unset, .unset, .unset] [])
  refine GoH.st (fun t k => XS.iloadN X0.here hx rfl (hb hby d2_0) rfl  k) ?_
  show GoH _ _ _ _ _ _ _ _ _ _  s₁ (mkF m 1 #[.val (.int p1), .val (.int p2), .unset, .unset, .unset] [(.int p2)])
  refine GoH.st (fun t k => XS.sipush X0.here hx rfl (hb hby d2_1) k) ?_
  show GoH _ _ _ _ _ _ _ _ _ _  s₁ (mkF m 4 #[.val (.int p1), .val (.int p2), .unset, .unset, .unset] [(.int (255 : Int32)), (.int p2)])
  refine GoH.st (fun t k => XS.iand X0.here hx rfl (hb hby d2_4) rfl k) ?_
  show GoH _ _ _ _ _ _ _ _ _ _  s₁ (mkF m 5 #[.val (.int p1), .val (.int p2), .unset, .unset, .unset] [(.int (p2 &&& (255 : Int32)))])
  refine GoH.st (fun t k => XS.i2c X0.here hx rfl (hb hby d2_5) rfl k) ?_
  show GoH _ _ _ _ _ _ _ _ _ _  s₁ (mkF m 6 #[.val (.int p1), .val (.int p2), .unset, .unset, .unset] [(.int ((p2 &&& (255 : Int32)).toUInt32.toUInt16.toUInt32.toInt32))])
  refine GoH.st (fun t k => XS.istoreN X0.here hx rfl (hb hby d2_6) rfl (l' := #[.val (.int p1), .val (.int p2), .val (.int ((p2 &&& (255 : Int32)).toUInt32.toUInt16.toUInt32.toInt32)), .unset, .unset]) rfl k) ?_
  show GoH _ _ _ _ _ _ _ _ _ _  s₁ (mkF m 7 #[.val (.int p1), .val (.int p2), .val (.int ((p2 &&& (255 : Int32)).toUInt32.toUInt16.toUInt32.toInt32)), .unset, .unset] [])
  refine GoH.st (fun t k => XS.iloadN X0.here hx rfl (hb hby d2_7) rfl  k) ?_
  show GoH _ _ _ _ _ _ _ _ _ _  s₁ (mkF m 8 #[.val (.int p1), .val (.int p2), .val (.int ((p2 &&& (255 : Int32)).toUInt32.toUInt16.toUInt32.toInt32)), .unset, .unset] [(.int p2)])
  refine GoH.st (fun t k => XS.bipush X0.here hx rfl (hb hby d2_8) k) ?_
  show GoH _ _ _ _ _ _ _ _ _ _  s₁ (mkF m 10 #[.val (.int p1), .val (.int p2), .val (.int ((p2 &&& (255 : Int32)).toUInt32.toUInt16.toUInt32.toInt32)), .unset, .unset] [(.int (8 : Int32)), (.int p2)])
  refine GoH.st (fun t k => XS.iushr X0.here hx rfl (hb hby d2_10) rfl k) ?_
  show GoH _ _ _ _ _ _ _ _ _ _  s₁ (mkF m 11 #[.val (.int p1), .val (.int p2), .val (.int ((p2 &&& (255 : Int32)).toUInt32.toUInt16.toUInt32.toInt32)), .unset, .unset] [(.int ((p2.toUInt32 >>> ((8 : Int32) &&& 31).toUInt32).toInt32))])
  refine GoH.st (fun t k => XS.sipush X0.here hx rfl (hb hby d2_11) k) ?_
  show GoH _ _ _ _ _ _ _ _ _ _  s₁ (mkF m 14 #[.val (.int p1), .val (.int p2), .val (.int ((p2 &&& (255 : Int32)).toUInt32.toUInt16.toUInt32.toInt32)), .unset, .unset] [(.int (255 : Int32)), (.int ((p2.toUInt32 >>> ((8 : Int32) &&& 31).toUInt32).toInt32))])
  refine GoH.st (fun t k => XS.iand X0.here hx rfl (hb hby d2_14) rfl k) ?_
  show GoH _ _ _ _ _ _ _ _ _ _  s₁ (mkF m 15 #[.val (.int p1), .val (.int p2), .val (.int ((p2 &&& (255 : Int32)).toUInt32.toUInt16.toUInt32.toInt32)), .unset, .unset] [(.int (((p2.toUInt32 >>> ((8 : Int32) &&& 31).toUInt32).toInt32) &&& (255 : Int32)))])
  refine GoH.st (fun t k => XS.i2c X0.here hx rfl (hb hby d2_15) rfl k) ?_
  show GoH _ _ _ _ _ _ _ _ _ _  s₁ (mkF m 16 #[.val (.int p1), .val (.int p2), .val (.int ((p2 &&& (255 : Int32)).toUInt32.toUInt16.toUInt32.toInt32)), .unset, .unset] [(.int ((((p2.toUInt32 >>> ((8 : Int32) &&& 31).toUInt32).toInt32) &&& (255 : Int32)).toUInt32.toUInt16.toUInt32.toInt32))])
  refine GoH.st (fun t k => XS.istoreN X0.here hx rfl (hb hby d2_16) rfl (l' := #[.val (.int p1), .val (.int p2), .val (.int ((p2 &&& (255 : Int32)).toUInt32.toUInt16.toUInt32.toInt32)), .val (.int ((((p2.toUInt32 >>> ((8 : Int32) &&& 31).toUInt32).toInt32) &&& (255 : Int32)).toUInt32.toUInt16.toUInt32.toInt32)), .unset]) rfl k) ?_
  show GoH _ _ _ _ _ _ _ _ _ _  s₁ (mkF m 17 #[.val (.int p1), .val (.int p2), .val (.int ((p2 &&& (255 : Int32)).toUInt32.toUInt16.toUInt32.toInt32)), .val (.int ((((p2.toUInt32 >>> ((8 : Int32) &&& 31).toUInt32).toInt32) &&& (255 : Int32)).toUInt32.toUInt16.toUInt32.toInt32)), .unset] [])
  refine GoH.st (fun t k => XS.iloadN X0.here hx rfl (hb hby d2_17) rfl  k) ?_
  show GoH _ _ _ _ _ _ _ _ _ _  s₁ (mkF m 18 #[.val (.int p1), .val (.int p2), .val (.int ((p2 &&& (255 : Int32)).toUInt32.toUInt16.toUInt32.toInt32)), .val (.int ((((p2.toUInt32 >>> ((8 : Int32) &&& 31).toUInt32).toInt32) &&& (255 : Int32)).toUInt32.toUInt16.toUInt32.toInt32)), .unset] [(.int p2)])
  refine GoH.st (fun t k => XS.bipush X0.here hx rfl (hb hby d2_18) k) ?_
  show GoH _ _ _ _ _ _ _ _ _ _  s₁ (mkF m 20 #[.val (.int p1), .val (.int p2), .val (.int ((p2 &&& (255 : Int32)).toUInt32.toUInt16.toUInt32.toInt32)), .val (.int ((((p2.toUInt32 >>> ((8 : Int32) &&& 31).toUInt32).toInt32) &&& (255 : Int32)).toUInt32.toUInt16.toUInt32.toInt32)), .unset] [(.int (16 : Int32)), (.int p2)])
  refine GoH.st (fun t k => XS.iushr X0.here hx rfl (hb hby d2_20) rfl k) ?_
  show GoH _ _ _ _ _ _ _ _ _ _  s₁ (mkF m 21 #[.val (.int p1), .val (.int p2), .val (.int ((p2 &&& (255 : Int32)).toUInt32.toUInt16.toUInt32.toInt32)), .val (.int ((((p2.toUInt32 >>> ((8 : Int32) &&& 31).toUInt32).toInt32) &&& (255 : Int32)).toUInt32.toUInt16.toUInt32.toInt32)), .unset] [(.int ((p2.toUInt32 >>> ((16 : Int32) &&& 31).toUInt32).toInt32))])
  refine GoH.st (fun t k => XS.sipush X0.here hx rfl (hb hby d2_21) k) ?_
  show GoH _ _ _ _ _ _ _ _ _ _  s₁ (mkF m 24 #[.val (.int p1), .val (.int p2), .val (.int ((p2 &&& (255 : Int32)).toUInt32.toUInt16.toUInt32.toInt32)), .val (.int ((((p2.toUInt32 >>> ((8 : Int32) &&& 31).toUInt32).toInt32) &&& (255 : Int32)).toUInt32.toUInt16.toUInt32.toInt32)), .unset] [(.int (255 : Int32)), (.int ((p2.toUInt32 >>> ((16 : Int32) &&& 31).toUInt32).toInt32))])
  refine GoH.st (fun t k => XS.iand X0.here hx rfl (hb hby d2_24) rfl k) ?_
  show GoH _ _ _ _ _ _ _ _ _ _  s₁ (mkF m 25 #[.val (.int p1), .val (.int p2), .val (.int ((p2 &&& (255 : Int32)).toUInt32.toUInt16.toUInt32.toInt32)), .val (.int ((((p2.toUInt32 >>> ((8 : Int32) &&& 31).toUInt32).toInt32) &&& (255 : Int32)).toUInt32.toUInt16.toUInt32.toInt32)), .unset] [(.int (((p2.toUInt32 >>> ((16 : Int32) &&& 31).toUInt32).toInt32) &&& (255 : Int32)))])
  refine GoH.st (fun t k => XS.i2c X0.here hx rfl (hb hby d2_25) rfl k) ?_
  show GoH _ _ _ _ _ _ _ _ _ _  s₁ (mkF m 26 #[.val (.int p1), .val (.int p2), .val (.int ((p2 &&& (255 : Int32)).toUInt32.toUInt16.toUInt32.toInt32)), .val (.int ((((p2.toUInt32 >>> ((8 : Int32) &&& 31).toUInt32).toInt32) &&& (255 : Int32)).toUInt32.toUInt16.toUInt32.toInt32)), .unset] [(.int ((((p2.toUInt32 >>> ((16 : Int32) &&& 31).toUInt32).toInt32) &&& (255 : Int32)).toUInt32.toUInt16.toUInt32.toInt32))])
  refine GoH.st (fun t k => XS.istore X0.here hx rfl (hb hby d2_26) rfl (l' := #[.val (.int p1), .val (.int p2), .val (.int ((p2 &&& (255 : Int32)).toUInt32.toUInt16.toUInt32.toInt32)), .val (.int ((((p2.toUInt32 >>> ((8 : Int32) &&& 31).toUInt32).toInt32) &&& (255 : Int32)).toUInt32.toUInt16.toUInt32.toInt32)), .val (.int ((((p2.toUInt32 >>> ((16 : Int32) &&& 31).toUInt32).toInt32) &&& (255 : Int32)).toUInt32.toUInt16.toUInt32.toInt32))]) rfl k) ?_
  show GoH _ _ _ _ _ _ _ _ _ _  s₁ (mkF m 28 #[.val (.int p1), .val (.int p2), .val (.int ((p2 &&& (255 : Int32)).toUInt32.toUInt16.toUInt32.toInt32)), .val (.int ((((p2.toUInt32 >>> ((8 : Int32) &&& 31).toUInt32).toInt32) &&& (255 : Int32)).toUInt32.toUInt16.toUInt32.toInt32)), .val (.int ((((p2.toUInt32 >>> ((16 : Int32) &&& 31).toUInt32).toInt32) &&& (255 : Int32)).toUInt32.toUInt16.toUInt32.toInt32))] [])
  refine GoH.st (fun t k => XS.iloadN X0.here hx rfl (hb hby d2_28) rfl  k) ?_
  show GoH _ _ _ _ _ _ _ _ _ _  s₁ (mkF m 29 #[.val (.int p1), .val (.int p2), .val (.int ((p2 &&& (255 : Int32)).toUInt32.toUInt16.toUInt32.toInt32)), .val (.int ((((p2.toUInt32 >>> ((8 : Int32) &&& 31).toUInt32).toInt32) &&& (255 : Int32)).toUInt32.toUInt16.toUInt32.toInt32)), .val (.int ((((p2.toUInt32 >>> ((16 : Int32) &&& 31).toUInt32).toInt32) &&& (255 : Int32)).toUInt32.toUInt16.toUInt32.toInt32))] [(.int p1)])
  by_cases c29_1 : p1 = (0 : Int32)
  · refine GoH.st (fun t k => XS.ifNo X0.here hx rfl (hb hby d2_29) rfl ((if0 _ _).trans (teq c29_1).2) k) ?_
    show GoH _ _ _ _ _ _ _ _ _ _  s₁ (mkF m 32 #[.val (.int p1), .val (.int p2), .val (.int ((p2 &&& (255 : Int32)).toUInt32.toUInt16.toUInt32.toInt32)), .val (.int ((((p2.toUInt32 >>> ((8 : Int32) &&& 31).toUInt32).toInt32) &&& (255 : Int32)).toUInt32.toUInt16.toUInt32.toInt32)), .val (.int ((((p2.toUInt32 >>> ((16 : Int32) &&& 31).toUInt32).toInt32) &&& (255 : Int32)).toUInt32.toUInt16.toUInt32.toInt32))] [])
    obtain ⟨T2, h2, X2, e2, E2, A2, D2, -, st2⟩ := newO X0 hx hZ hown (hw _ (List.mem_of_getElem? (i := 11) rfl)) (hw _ (List.mem_of_getElem? (i := 12) rfl)) (hw _ (List.mem_of_getElem? (i := 13) rfl)) e0 (g := (mkF m 32 #[.val (.int p1), .val (.int p2), .val (.int ((p2 &&& (255 : Int32)).toUInt32.toUInt16.toUInt32.toInt32)), .val (.int ((((p2.toUInt32 >>> ((8 : Int32) &&& 31).toUInt32).toInt32) &&& (255 : Int32)).toUInt32.toUInt16.toUInt32.toInt32)), .val (.int ((((p2.toUInt32 >>> ((16 : Int32) &&& 31).toUInt32).toInt32) &&& (255 : Int32)).toUInt32.toUInt16.toUInt32.toInt32))] [])) rfl (hb hby d2_32) (by decide) (by decide)
    obtain ⟨b2, g2⟩ : ∃ z, z = h0.size := ⟨_, rfl⟩
    rw [← g2] at A2 D2 st2
    refine GoH.st st2 ?_
    have g_b2 : n0 ≤ b2 := by rw [g2]; exact own_le O
    have Sf_b2 : Safe Z EL s.vm h0 b2 := Safe.new (Nat.le_of_eq g2.symm)
    have sz_b2 : h0.size ≤ b2 := by rw [g2]; exact KK.1
    have Sf_b2 := Safe.ext E2 HH Sf_b2
    have RR := RR.trans (CHr.ext E2 HH)
    have HH := HH.ext E2
    have hk := Nat.le_trans hk E2.1
    have O := O.ext E2
    have KK := KK.ext E2
    have E_b2 := A2
    have F_coder_b2 : Fld Z h2 b2 "java/lang/String" "coder" "B" (.int (0 : Int32)) := D2 (Or.inr (hw _ (List.mem_of_getElem? (i := 38) rfl))) (ty := .byte) (by decide)
    have F_value_b2 : Fld Z h2 b2 "java/lang/String" "value" "[B" .null := D2 (Or.inr (hw _ (List.mem_of_getElem? (i := 40) rfl))) (ty := (.array .byte)) (by decide)
    show GoH _ _ _ _ _ _ _ _ _ _  T2 (mkF m 35 #[.val (.int p1), .val (.int p2), .val (.int ((p2 &&& (255 : Int32)).toUInt32.toUInt16.toUInt32.toInt32)), .val (.int ((((p2.toUInt32 >>> ((8 : Int32) &&& 31).toUInt32).toInt32) &&& (255 : Int32)).toUInt32.toUInt16.toUInt32.toInt32)), .val (.int ((((p2.toUInt32 >>> ((16 : Int32) &&& 31).toUInt32).toInt32) &&& (255 : Int32)).toUInt32.toUInt16.toUInt32.toInt32))] [(.ref b2)])
    refine GoH.st (fun t k => XS.dup X2.here hx rfl (hb hby d2_35) rfl rfl k) ?_
    show GoH _ _ _ _ _ _ _ _ _ _  T2 (mkF m 36 #[.val (.int p1), .val (.int p2), .val (.int ((p2 &&& (255 : Int32)).toUInt32.toUInt16.toUInt32.toInt32)), .val (.int ((((p2.toUInt32 >>> ((8 : Int32) &&& 31).toUInt32).toInt32) &&& (255 : Int32)).toUInt32.toUInt16.toUInt32.toInt32)), .val (.int ((((p2.toUInt32 >>> ((16 : Int32) &&& 31).toUInt32).toInt32) &&& (255 : Int32)).toUInt32.toUInt16.toUInt32.toInt32))] [(.ref b2), (.ref b2)])
    refine GoH.st (fun t k => XS.iconst X2.here hx rfl (hb hby d2_36) k) ?_
    show GoH _ _ _ _ _ _ _ _ _ _  T2 (mkF m 37 #[.val (.int p1), .val (.int p2), .val (.int ((p2 &&& (255 : Int32)).toUInt32.toUInt16.toUInt32.toInt32)), .val (.int ((((p2.toUInt32 >>> ((8 : Int32) &&& 31).toUInt32).toInt32) &&& (255 : Int32)).toUInt32.toUInt16.toUInt32.toInt32)), .val (.int ((((p2.toUInt32 >>> ((16 : Int32) &&& 31).toUInt32).toInt32) &&& (255 : Int32)).toUInt32.toUInt16.toUInt32.toInt32))] [(.int (0 : Int32)), (.ref b2), (.ref b2)])
    obtain ⟨T3, h3, k3, X3, e3, E3, A3, st3⟩ := newP X2 hx hZ (hw _ (List.mem_of_getElem? (i := 14) rfl)) e2 (g := (mkF m 37 #[.val (.int p1), .val (.int p2), .val (.int ((p2 &&& (255 : Int32)).toUInt32.toUInt16.toUInt32.toInt32)), .val (.int ((((p2.toUInt32 >>> ((8 : Int32) &&& 31).toUInt32).toInt32) &&& (255 : Int32)).toUInt32.toUInt16.toUInt32.toInt32)), .val (.int ((((p2.toUInt32 >>> ((16 : Int32) &&& 31).toUInt32).toInt32) &&& (255 : Int32)).toUInt32.toUInt16.toUInt32.toInt32))] [(.int (0 : Int32)), (.ref b2), (.ref b2)])) rfl (hb hby d2_37) rfl (by decide) (cap := 0) (by decide) (by decide) (by decide) (by decide)
    obtain ⟨b3, g3⟩ : ∃ z, z = h2.size := ⟨_, rfl⟩
    rw [← g3] at A3 st3
    refine GoH.st st3 ?_
    have g_b3 : n0 ≤ b3 := by rw [g3]; exact own_le O
    have Sf_b3 : Safe Z EL s.vm h2 b3 := Safe.new (Nat.le_of_eq g3.symm)
    have sz_b3 : h0.size ≤ b3 := by rw [g3]; exact KK.1
    have ne_b2_b3 : b2 ≠ b3 := Nat.ne_of_lt (by rw [g3]; exact E_b2.lt)
    have E_b2 := E_b2.ext E3
    have F_coder_b2 := F_coder_b2.ext E3
    have F_value_b2 := F_value_b2.ext E3
    have Sf_b2 := Safe.ext E3 HH Sf_b2
    have Sf_b3 := Safe.ext E3 HH Sf_b3
    have RR := RR.trans (CHr.ext E3 HH)
    have HH := HH.ext E3
    have hk := Nat.le_trans hk E3.1
    have O := O.ext E3
    have KK := KK.ext E3
    have V_b3 : Arv Z h3 b3 k3 .char (0 : Int32) [] (.int (0 : Int32)) := (Arv.new A3 (by decide)).pad (pad_rep [] (.int (0 : Int32)) 0)
    show GoH _ _ _ _ _ _ _ _ _ _  T3 (mkF m 39 #[.val (.int p1), .val (.int p2), .val (.int ((p2 &&& (255 : Int32)).toUInt32.toUInt16.toUInt32.toInt32)), .val (.int ((((p2.toUInt32 >>> ((8 : Int32) &&& 31).toUInt32).toInt32) &&& (255 : Int32)).toUInt32.toUInt16.toUInt32.toInt32)), .val (.int ((((p2.toUInt32 >>> ((16 : Int32) &&& 31).toUInt32).toInt32) &&& (255 : Int32)).toUInt32.toUInt16.toUInt32.toInt32))] [(.ref b3), (.ref b2), (.ref b2)])
    obtain ⟨_, _, ⟨T4, L4, k4, n4⟩, -, X4, hSn4, hgn4, ⟨Lc4, hQ4, l4, y4, z4, CR4⟩, st4⟩ := X3.specialBackS hx (y := (⟨"java/lang/String", "<init>", "([C)V"⟩ : MethodName)) rfl hown (mvT hZ (hw _ (List.mem_of_getElem? (i := 15) rfl))) (mvT hZ (hw _ (List.mem_of_getElem? (i := 16) rfl))) (mvT hZ (hw _ (List.mem_of_getElem? (i := 17) rfl))) (by decide) (own_backSH (sf := [b2]) (W := 1) (rmE l Z a0 hw [] b2 b3 .null (.int (0 : Int32)) k3 h3 n0 O hEL wS E_b2 F_value_b2 F_coder_b2 g_b2 V_b3 (Ne.symm ne_b2_b3)) hZ (hw _ (List.mem_of_getElem? (i := 17) rfl)) (hw _ (List.mem_of_getElem? (i := 13) rfl)) (by decide) (by decide) hEL HH (allS (P := fun x => Safe Z EL s.vm h3 x ∧ x < Array.size h3) ⟨Sf_b2, E_b2.lt⟩ all0)) (g := (mkF m 39 #[.val (.int p1), .val (.int p2), .val (.int ((p2 &&& (255 : Int32)).toUInt32.toUInt16.toUInt32.toInt32)), .val (.int ((((p2.toUInt32 >>> ((8 : Int32) &&& 31).toUInt32).toInt32) &&& (255 : Int32)).toUInt32.toUInt16.toUInt32.toInt32)), .val (.int ((((p2.toUInt32 >>> ((16 : Int32) &&& 31).toUInt32).toInt32) &&& (255 : Int32)).toUInt32.toUInt16.toUInt32.toInt32))] [(.ref b3), (.ref b2), (.ref b2)])) rfl (by rw [hml]; rfl) (Steps.refl _) (a := b2) (argsL := [(.ref b3)]) (rest := [(.ref b2)]) (lenOf pd___C_V rfl) rfl (by show 2 * 0 + _ ≤ _; exact Nat.le_of_eq rfl) (hb hby d2_39) (fun _ _ => ⟨rfl, e3, (by decide : 2 + 4 ≤ _), (by decide : 4 + 8 ≤ _)⟩)
    dsimp only [Pt.U, Pt.locs, Pt.cells, Pt.slots] at X4 l4 y4 z4 st4 hQ4 hSn4 hgn4 CR4
    subst l4 y4 z4
    obtain ⟨rfl, N4q, K4q, Eq4, Cq4, t4, kt4, Vq4, Aq4⟩ := hQ4
    have X4 : Stand p l e _ (s.setVm T4.vm) m _ below meth c T4 _ _ _ := X4
    have N4 := Fr.app N0 N4q
    refine GoH.tr st4 ?_
    have hS4 := Jvm.RoadKit.foldS hS (by rw [e3]; exact hk) hSn4 hgn4
    have hZ4 := State.Warmed39.trans (t := s.setVm s.vm) hZ hSn4.1
    have hk4 := Nat.le_refl T4.heap.size
    have hown4 : T4.vm.findClass "com/example/nodewell/nodewell/store/ConditionIsNumericPinLaw" = some m.cls := by rw [hSn4.1.alike.findClass]; exact hown
    have Sf_b2 := CHr.safe CR4 E_b2.lt Sf_b2
    have Sf_b3 := CHr.safe CR4 V_b3.lt Sf_b3
    have E_b2 := E_b2.keep K4q
    have V_b3 := V_b3.keep K4q (ninS (Ne.symm ne_b2_b3) nin0)
    have O := O.keep K4q (allS g_b2 all0)
    have KK := KK.trans K4q (allS (Or.inr sz_b2) all0)
    have RR := RR.trans CR4
    have HH := CR4.1
    have hS := hS4
    have hk := hk4
    have hZ := hZ4
    have hown := hown4
    have E_b2 := Eq4
    show GoH _ _ _ _ _ _ _ _ _ _  T4 (mkF m 42 #[.val (.int p1), .val (.int p2), .val (.int ((p2 &&& (255 : Int32)).toUInt32.toUInt16.toUInt32.toInt32)), .val (.int ((((p2.toUInt32 >>> ((8 : Int32) &&& 31).toUInt32).toInt32) &&& (255 : Int32)).toUInt32.toUInt16.toUInt32.toInt32)), .val (.int ((((p2.toUInt32 >>> ((16 : Int32) &&& 31).toUInt32).toInt32) &&& (255 : Int32)).toUInt32.toUInt16.toUInt32.toInt32))] [(.ref b2)])
    refine GoH.retR X4 hS hk rfl hZ hEL HH RR hlk hx Bd.returns rfl rfl rfl (hb hby d2_42) (by decide) (by decide) ?_
    show Q_rmD Z _ _ _ h0 n0 _ T4.heap _
    exact ⟨_, rfl, N4, own_ext0 KK⟩
  · refine GoH.st (fun t k => XS.ifYes X0.here hx rfl (pc0 := 29) (pc' := 43) rfl (hb hby d2_29) rfl ((if0 _ _).trans (feq c29_1).2) (by decide) (by decide) k) ?_
    show GoH _ _ _ _ _ _ _ _ _ _  s₁ (mkF m 43 #[.val (.int p1), .val (.int p2), .val (.int ((p2 &&& (255 : Int32)).toUInt32.toUInt16.toUInt32.toInt32)), .val (.int ((((p2.toUInt32 >>> ((8 : Int32) &&& 31).toUInt32).toInt32) &&& (255 : Int32)).toUInt32.toUInt16.toUInt32.toInt32)), .val (.int ((((p2.toUInt32 >>> ((16 : Int32) &&& 31).toUInt32).toInt32) &&& (255 : Int32)).toUInt32.toUInt16.toUInt32.toInt32))] [])
    refine GoH.st (fun t k => XS.iloadN X0.here hx rfl (hb hby d2_43) rfl  k) ?_
    show GoH _ _ _ _ _ _ _ _ _ _  s₁ (mkF m 44 #[.val (.int p1), .val (.int p2), .val (.int ((p2 &&& (255 : Int32)).toUInt32.toUInt16.toUInt32.toInt32)), .val (.int ((((p2.toUInt32 >>> ((8 : Int32) &&& 31).toUInt32).toInt32) &&& (255 : Int32)).toUInt32.toUInt16.toUInt32.toInt32)), .val (.int ((((p2.toUInt32 >>> ((16 : Int32) &&& 31).toUInt32).toInt32) &&& (255 : Int32)).toUInt32.toUInt16.toUInt32.toInt32))] [(.int p1)])
    refine GoH.st (fun t k => XS.iconst X0.here hx rfl (hb hby d2_44) k) ?_
    show GoH _ _ _ _ _ _ _ _ _ _  s₁ (mkF m 45 #[.val (.int p1), .val (.int p2), .val (.int ((p2 &&& (255 : Int32)).toUInt32.toUInt16.toUInt32.toInt32)), .val (.int ((((p2.toUInt32 >>> ((8 : Int32) &&& 31).toUInt32).toInt32) &&& (255 : Int32)).toUInt32.toUInt16.toUInt32.toInt32)), .val (.int ((((p2.toUInt32 >>> ((16 : Int32) &&& 31).toUInt32).toInt32) &&& (255 : Int32)).toUInt32.toUInt16.toUInt32.toInt32))] [(.int (1 : Int32)), (.int p1)])
    by_cases c45_5 : p1 = (1 : Int32)
    · refine GoH.st (fun t k => XS.icmpNo X0.here hx rfl (hb hby d2_45) rfl (teq c45_5).2 k) ?_
      show GoH _ _ _ _ _ _ _ _ _ _  s₁ (mkF m 48 #[.val (.int p1), .val (.int p2), .val (.int ((p2 &&& (255 : Int32)).toUInt32.toUInt16.toUInt32.toInt32)), .val (.int ((((p2.toUInt32 >>> ((8 : Int32) &&& 31).toUInt32).toInt32) &&& (255 : Int32)).toUInt32.toUInt16.toUInt32.toInt32)), .val (.int ((((p2.toUInt32 >>> ((16 : Int32) &&& 31).toUInt32).toInt32) &&& (255 : Int32)).toUInt32.toUInt16.toUInt32.toInt32))] [])
      obtain ⟨T6, h6, X6, e6, E6, A6, D6, -, st6⟩ := newO X0 hx hZ hown (hw _ (List.mem_of_getElem? (i := 11) rfl)) (hw _ (List.mem_of_getElem? (i := 12) rfl)) (hw _ (List.mem_of_getElem? (i := 13) rfl)) e0 (g := (mkF m 48 #[.val (.int p1), .val (.int p2), .val (.int ((p2 &&& (255 : Int32)).toUInt32.toUInt16.toUInt32.toInt32)), .val (.int ((((p2.toUInt32 >>> ((8 : Int32) &&& 31).toUInt32).toInt32) &&& (255 : Int32)).toUInt32.toUInt16.toUInt32.toInt32)), .val (.int ((((p2.toUInt32 >>> ((16 : Int32) &&& 31).toUInt32).toInt32) &&& (255 : Int32)).toUInt32.toUInt16.toUInt32.toInt32))] [])) rfl (hb hby d2_48) (by decide) (by decide)
      obtain ⟨b6, g6⟩ : ∃ z, z = h0.size := ⟨_, rfl⟩
      rw [← g6] at A6 D6 st6
      refine GoH.st st6 ?_
      have g_b6 : n0 ≤ b6 := by rw [g6]; exact own_le O
      have Sf_b6 : Safe Z EL s.vm h0 b6 := Safe.new (Nat.le_of_eq g6.symm)
      have sz_b6 : h0.size ≤ b6 := by rw [g6]; exact KK.1
      have Sf_b6 := Safe.ext E6 HH Sf_b6
      have RR := RR.trans (CHr.ext E6 HH)
      have HH := HH.ext E6
      have hk := Nat.le_trans hk E6.1
      have O := O.ext E6
      have KK := KK.ext E6
      have E_b6 := A6
      have F_coder_b6 : Fld Z h6 b6 "java/lang/String" "coder" "B" (.int (0 : Int32)) := D6 (Or.inr (hw _ (List.mem_of_getElem? (i := 38) rfl))) (ty := .byte) (by decide)
      have F_value_b6 : Fld Z h6 b6 "java/lang/String" "value" "[B" .null := D6 (Or.inr (hw _ (List.mem_of_getElem? (i := 40) rfl))) (ty := (.array .byte)) (by decide)
      show GoH _ _ _ _ _ _ _ _ _ _  T6 (mkF m 51 #[.val (.int p1), .val (.int p2), .val (.int ((p2 &&& (255 : Int32)).toUInt32.toUInt16.toUInt32.toInt32)), .val (.int ((((p2.toUInt32 >>> ((8 : Int32) &&& 31).toUInt32).toInt32) &&& (255 : Int32)).toUInt32.toUInt16.toUInt32.toInt32)), .val (.int ((((p2.toUInt32 >>> ((16 : Int32) &&& 31).toUInt32).toInt32) &&& (255 : Int32)).toUInt32.toUInt16.toUInt32.toInt32))] [(.ref b6)])
      refine GoH.st (fun t k => XS.dup X6.here hx rfl (hb hby d2_51) rfl rfl k) ?_
      show GoH _ _ _ _ _ _ _ _ _ _  T6 (mkF m 52 #[.val (.int p1), .val (.int p2), .val (.int ((p2 &&& (255 : Int32)).toUInt32.toUInt16.toUInt32.toInt32)), .val (.int ((((p2.toUInt32 >>> ((8 : Int32) &&& 31).toUInt32).toInt32) &&& (255 : Int32)).toUInt32.toUInt16.toUInt32.toInt32)), .val (.int ((((p2.toUInt32 >>> ((16 : Int32) &&& 31).toUInt32).toInt32) &&& (255 : Int32)).toUInt32.toUInt16.toUInt32.toInt32))] [(.ref b6), (.ref b6)])
      refine GoH.st (fun t k => XS.iconst X6.here hx rfl (hb hby d2_52) k) ?_
      show GoH _ _ _ _ _ _ _ _ _ _  T6 (mkF m 53 #[.val (.int p1), .val (.int p2), .val (.int ((p2 &&& (255 : Int32)).toUInt32.toUInt16.toUInt32.toInt32)), .val (.int ((((p2.toUInt32 >>> ((8 : Int32) &&& 31).toUInt32).toInt32) &&& (255 : Int32)).toUInt32.toUInt16.toUInt32.toInt32)), .val (.int ((((p2.toUInt32 >>> ((16 : Int32) &&& 31).toUInt32).toInt32) &&& (255 : Int32)).toUInt32.toUInt16.toUInt32.toInt32))] [(.int (1 : Int32)), (.ref b6), (.ref b6)])
      obtain ⟨T7, h7, k7, X7, e7, E7, A7, st7⟩ := newP X6 hx hZ (hw _ (List.mem_of_getElem? (i := 14) rfl)) e6 (g := (mkF m 53 #[.val (.int p1), .val (.int p2), .val (.int ((p2 &&& (255 : Int32)).toUInt32.toUInt16.toUInt32.toInt32)), .val (.int ((((p2.toUInt32 >>> ((8 : Int32) &&& 31).toUInt32).toInt32) &&& (255 : Int32)).toUInt32.toUInt16.toUInt32.toInt32)), .val (.int ((((p2.toUInt32 >>> ((16 : Int32) &&& 31).toUInt32).toInt32) &&& (255 : Int32)).toUInt32.toUInt16.toUInt32.toInt32))] [(.int (1 : Int32)), (.ref b6), (.ref b6)])) rfl (hb hby d2_53) rfl (by decide) (cap := 1) (by decide) (by decide) (by decide) (by decide)
      obtain ⟨b7, g7⟩ : ∃ z, z = h6.size := ⟨_, rfl⟩
      rw [← g7] at A7 st7
      refine GoH.st st7 ?_
      have g_b7 : n0 ≤ b7 := by rw [g7]; exact own_le O
      have Sf_b7 : Safe Z EL s.vm h6 b7 := Safe.new (Nat.le_of_eq g7.symm)
      have sz_b7 : h0.size ≤ b7 := by rw [g7]; exact KK.1
      have ne_b6_b7 : b6 ≠ b7 := Nat.ne_of_lt (by rw [g7]; exact E_b6.lt)
      have E_b6 := E_b6.ext E7
      have F_coder_b6 := F_coder_b6.ext E7
      have F_value_b6 := F_value_b6.ext E7
      have Sf_b6 := Safe.ext E7 HH Sf_b6
      have Sf_b7 := Safe.ext E7 HH Sf_b7
      have RR := RR.trans (CHr.ext E7 HH)
      have HH := HH.ext E7
      have hk := Nat.le_trans hk E7.1
      have O := O.ext E7
      have KK := KK.ext E7
      have V_b7 : Arv Z h7 b7 k7 .char (1 : Int32) [(.int (0 : Int32))] (.int (0 : Int32)) := (Arv.new A7 (by decide)).pad (pad_rep [] (.int (0 : Int32)) 1)
      show GoH _ _ _ _ _ _ _ _ _ _  T7 (mkF m 55 #[.val (.int p1), .val (.int p2), .val (.int ((p2 &&& (255 : Int32)).toUInt32.toUInt16.toUInt32.toInt32)), .val (.int ((((p2.toUInt32 >>> ((8 : Int32) &&& 31).toUInt32).toInt32) &&& (255 : Int32)).toUInt32.toUInt16.toUInt32.toInt32)), .val (.int ((((p2.toUInt32 >>> ((16 : Int32) &&& 31).toUInt32).toInt32) &&& (255 : Int32)).toUInt32.toUInt16.toUInt32.toInt32))] [(.ref b7), (.ref b6), (.ref b6)])
      refine GoH.st (fun t k => XS.dup X7.here hx rfl (hb hby d2_55) rfl rfl k) ?_
      show GoH _ _ _ _ _ _ _ _ _ _  T7 (mkF m 56 #[.val (.int p1), .val (.int p2), .val (.int ((p2 &&& (255 : Int32)).toUInt32.toUInt16.toUInt32.toInt32)), .val (.int ((((p2.toUInt32 >>> ((8 : Int32) &&& 31).toUInt32).toInt32) &&& (255 : Int32)).toUInt32.toUInt16.toUInt32.toInt32)), .val (.int ((((p2.toUInt32 >>> ((16 : Int32) &&& 31).toUInt32).toInt32) &&& (255 : Int32)).toUInt32.toUInt16.toUInt32.toInt32))] [(.ref b7), (.ref b7), (.ref b6), (.ref b6)])
      refine GoH.st (fun t k => XS.iconst X7.here hx rfl (hb hby d2_56) k) ?_
      show GoH _ _ _ _ _ _ _ _ _ _  T7 (mkF m 57 #[.val (.int p1), .val (.int p2), .val (.int ((p2 &&& (255 : Int32)).toUInt32.toUInt16.toUInt32.toInt32)), .val (.int ((((p2.toUInt32 >>> ((8 : Int32) &&& 31).toUInt32).toInt32) &&& (255 : Int32)).toUInt32.toUInt16.toUInt32.toInt32)), .val (.int ((((p2.toUInt32 >>> ((16 : Int32) &&& 31).toUInt32).toInt32) &&& (255 : Int32)).toUInt32.toUInt16.toUInt32.toInt32))] [(.int (0 : Int32)), (.ref b7), (.ref b7), (.ref b6), (.ref b6)])
      refine GoH.st (fun t k => XS.iloadN X7.here hx rfl (hb hby d2_57) rfl  k) ?_
      show GoH _ _ _ _ _ _ _ _ _ _  T7 (mkF m 58 #[.val (.int p1), .val (.int p2), .val (.int ((p2 &&& (255 : Int32)).toUInt32.toUInt16.toUInt32.toInt32)), .val (.int ((((p2.toUInt32 >>> ((8 : Int32) &&& 31).toUInt32).toInt32) &&& (255 : Int32)).toUInt32.toUInt16.toUInt32.toInt32)), .val (.int ((((p2.toUInt32 >>> ((16 : Int32) &&& 31).toUInt32).toInt32) &&& (255 : Int32)).toUInt32.toUInt16.toUInt32.toInt32))] [(.int ((p2 &&& (255 : Int32)).toUInt32.toUInt16.toUInt32.toInt32)), (.int (0 : Int32)), (.ref b7), (.ref b7), (.ref b6), (.ref b6)])
      obtain ⟨cl8, Ar8, q8, S8, M8, Hh8, G8⟩ := V_b7
      obtain ⟨T9, h9, X9, e9, W9, st9⟩ := stC X7 hx hZ e7 Ar8 (j := (0 : Int32)) (inb_of S8 ⟨by decide, by decide⟩) (g := (mkF m 58 #[.val (.int p1), .val (.int p2), .val (.int ((p2 &&& (255 : Int32)).toUInt32.toUInt16.toUInt32.toInt32)), .val (.int ((((p2.toUInt32 >>> ((8 : Int32) &&& 31).toUInt32).toInt32) &&& (255 : Int32)).toUInt32.toUInt16.toUInt32.toInt32)), .val (.int ((((p2.toUInt32 >>> ((16 : Int32) &&& 31).toUInt32).toInt32) &&& (255 : Int32)).toUInt32.toUInt16.toUInt32.toInt32))] [(.int ((p2 &&& (255 : Int32)).toUInt32.toUInt16.toUInt32.toInt32)), (.int (0 : Int32)), (.ref b7), (.ref b7), (.ref b6), (.ref b6)])) rfl rfl (hb hby d2_58)
      refine GoH.st st9 ?_
      have V_b7 : Arv Z h9 b7 k7 .char (1 : Int32) [(.int (nar .char ((p2 &&& (255 : Int32)).toUInt32.toUInt16.toUInt32.toInt32)))] (.int (0 : Int32)) := Arv.set Ar8 q8 S8 M8 Hh8 G8 (fits_nar_char _) W9 0 rfl (Nat.le_of_ble_eq_true rfl)
      have N9 := Fr.snoc X9 N0 g_b7
      have E_b6 := E_b6.wr W9
      have F_coder_b6 := F_coder_b6.other W9 (Or.inl ne_b6_b7)
      have F_value_b6 := F_value_b6.other W9 (Or.inl ne_b6_b7)
      have Sf_b6 := Safe.wr W9 Sf_b7 HH Sf_b6
      have Sf'_b7 := Safe.wr W9 Sf_b7 HH Sf_b7
      have RR := RR.trans (CHr.wr W9 Sf_b7 HH)
      have HH := HH.wr W9 Sf_b7
      have Sf_b7 := Sf'_b7
      have hk := Nat.le_trans hk (Nat.le_of_eq W9.size.symm)
      have O := O.wr W9 g_b7
      have KK := KK.wr W9 (Or.inr sz_b7)
      show GoH _ _ _ _ _ _ _ _ _ _  T9 (mkF m 59 #[.val (.int p1), .val (.int p2), .val (.int ((p2 &&& (255 : Int32)).toUInt32.toUInt16.toUInt32.toInt32)), .val (.int ((((p2.toUInt32 >>> ((8 : Int32) &&& 31).toUInt32).toInt32) &&& (255 : Int32)).toUInt32.toUInt16.toUInt32.toInt32)), .val (.int ((((p2.toUInt32 >>> ((16 : Int32) &&& 31).toUInt32).toInt32) &&& (255 : Int32)).toUInt32.toUInt16.toUInt32.toInt32))] [(.ref b7), (.ref b6), (.ref b6)])
      have hp10 : ∀ c ∈ ([(nar .char ((p2 &&& (255 : Int32)).toUInt32.toUInt16.toUInt32.toInt32))] : List Int32), ¬ c < 0 ∧ ¬ (255 : Int32) < c := (own_cons (P := fun c => ¬ c < 0 ∧ ¬ (255 : Int32) < c) (own_m255 _) own_nil)
      obtain ⟨_, _, ⟨T11, L11, k11, n11⟩, -, X11, ⟨Lc11, hQ11, l11, y11, z11⟩, st11⟩ := X9.specialBack hx (y := (⟨"java/lang/String", "<init>", "([C)V"⟩ : MethodName)) rfl hown (mvT hZ (hw _ (List.mem_of_getElem? (i := 15) rfl))) (mvT hZ (hw _ (List.mem_of_getElem? (i := 16) rfl))) (mvT hZ (hw _ (List.mem_of_getElem? (i := 17) rfl))) (by decide) (StrChars.Road.backV (W := 1) hZ hws (kI := 4) (hw _ (List.mem_of_getElem? (i := 12) rfl)) (cs := ([(nar .char ((p2 &&& (255 : Int32)).toUInt32.toUInt16.toUInt32.toInt32))] : List Int32)) (bs := ([(nar .char ((p2 &&& (255 : Int32)).toUInt32.toUInt16.toUInt32.toInt32))] : List Int32).map (fun c => c.toInt8.toInt32)) (n := 1) g_b6 (own_le O) E_b6 F_value_b6 F_coder_b6 V_b7 (S_COMPACT.ext O.2) hcs rfl rfl (by decide) (by decide) hp10 rfl (by decide) (by decide)) (g := (mkF m 59 #[.val (.int p1), .val (.int p2), .val (.int ((p2 &&& (255 : Int32)).toUInt32.toUInt16.toUInt32.toInt32)), .val (.int ((((p2.toUInt32 >>> ((8 : Int32) &&& 31).toUInt32).toInt32) &&& (255 : Int32)).toUInt32.toUInt16.toUInt32.toInt32)), .val (.int ((((p2.toUInt32 >>> ((16 : Int32) &&& 31).toUInt32).toInt32) &&& (255 : Int32)).toUInt32.toUInt16.toUInt32.toInt32))] [(.ref b7), (.ref b6), (.ref b6)])) rfl (by rw [hml]; rfl) (Steps.refl _) (a := b6) (argsL := [(.ref b7)]) (rest := [(.ref b6)]) (lenOf pd___C_V rfl) rfl (by show 2 * 0 + _ ≤ _; exact Nat.le_of_eq rfl) (hb hby d2_59) (fun _ _ => ⟨rfl, e9, (by decide : 2 + 1 ≤ _), (by decide : 5 + 1 ≤ _)⟩)
      dsimp only [Pt.U, Pt.locs, Pt.cells, Pt.slots] at X11 l11 y11 z11 st11 hQ11
      subst l11 y11 z11
      obtain ⟨rfl, N11q, K11q, Eq11, Cq11, t11, kt11, gt11, lt11, nt11, Vq11, Aq11⟩ := hQ11
      have N11 := Fr.app N9 N11q
      refine GoH.tr st11 ?_
      have g_t11 : n0 ≤ t11 := Nat.le_trans (own_le O) lt11
      have Sf_t11 : Safe Z EL s.vm h9 t11 := Safe.new lt11
      have sz_t11 : h0.size ≤ t11 := Nat.le_trans KK.1 lt11
      have ne_b6_t11 : b6 ≠ t11 := Nat.ne_of_lt (Nat.lt_of_lt_of_le E_b6.lt lt11)
      have ne_b7_t11 : b7 ≠ t11 := Nat.ne_of_lt (Nat.lt_of_lt_of_le V_b7.lt lt11)
      have E_b6 := E_b6.keep K11q
      have V_b7 := V_b7.keep K11q (ninS (Ne.symm ne_b6_b7) nin0)
      have sfw11 := (sfS Sf_b6 sf0)
      have Sf_b6 := Safe.keep K11q sfw11 HH Sf_b6
      have Sf_b7 := Safe.keep K11q sfw11 HH Sf_b7
      have Sf_t11 := Safe.keep K11q sfw11 HH Sf_t11
      have RR := RR.trans (CHr.keep K11q sfw11 HH)
      have HH := HH.keep K11q sfw11
      have hk := Nat.le_trans hk K11q.1
      have O := O.keep K11q (allS g_b6 all0)
      have KK := KK.trans K11q (allS (Or.inr sz_b6) all0)
      have E_b6 := Eq11
      show GoH _ _ _ _ _ _ _ _ _ _  T11 (mkF m 62 #[.val (.int p1), .val (.int p2), .val (.int ((p2 &&& (255 : Int32)).toUInt32.toUInt16.toUInt32.toInt32)), .val (.int ((((p2.toUInt32 >>> ((8 : Int32) &&& 31).toUInt32).toInt32) &&& (255 : Int32)).toUInt32.toUInt16.toUInt32.toInt32)), .val (.int ((((p2.toUInt32 >>> ((16 : Int32) &&& 31).toUInt32).toInt32) &&& (255 : Int32)).toUInt32.toUInt16.toUInt32.toInt32))] [(.ref b6)])
      refine GoH.retR X11 hS hk rfl hZ hEL HH RR hlk hx Bd.returns rfl rfl rfl (hb hby d2_62) (by decide) (by decide) ?_
      show Q_rmD Z _ _ _ h0 n0 _ T11.heap _
      exact ⟨_, rfl, N11, own_ext0 KK⟩
    · refine GoH.st (fun t k => XS.icmpYes X0.here hx rfl (pc0 := 45) (pc' := 63) rfl (hb hby d2_45) rfl (feq c45_5).2 (by decide) (by decide) k) ?_
      show GoH _ _ _ _ _ _ _ _ _ _  s₁ (mkF m 63 #[.val (.int p1), .val (.int p2), .val (.int ((p2 &&& (255 : Int32)).toUInt32.toUInt16.toUInt32.toInt32)), .val (.int ((((p2.toUInt32 >>> ((8 : Int32) &&& 31).toUInt32).toInt32) &&& (255 : Int32)).toUInt32.toUInt16.toUInt32.toInt32)), .val (.int ((((p2.toUInt32 >>> ((16 : Int32) &&& 31).toUInt32).toInt32) &&& (255 : Int32)).toUInt32.toUInt16.toUInt32.toInt32))] [])
      refine GoH.st (fun t k => XS.iloadN X0.here hx rfl (hb hby d2_63) rfl  k) ?_
      show GoH _ _ _ _ _ _ _ _ _ _  s₁ (mkF m 64 #[.val (.int p1), .val (.int p2), .val (.int ((p2 &&& (255 : Int32)).toUInt32.toUInt16.toUInt32.toInt32)), .val (.int ((((p2.toUInt32 >>> ((8 : Int32) &&& 31).toUInt32).toInt32) &&& (255 : Int32)).toUInt32.toUInt16.toUInt32.toInt32)), .val (.int ((((p2.toUInt32 >>> ((16 : Int32) &&& 31).toUInt32).toInt32) &&& (255 : Int32)).toUInt32.toUInt16.toUInt32.toInt32))] [(.int p1)])
      refine GoH.st (fun t k => XS.iconst X0.here hx rfl (hb hby d2_64) k) ?_
      show GoH _ _ _ _ _ _ _ _ _ _  s₁ (mkF m 65 #[.val (.int p1), .val (.int p2), .val (.int ((p2 &&& (255 : Int32)).toUInt32.toUInt16.toUInt32.toInt32)), .val (.int ((((p2.toUInt32 >>> ((8 : Int32) &&& 31).toUInt32).toInt32) &&& (255 : Int32)).toUInt32.toUInt16.toUInt32.toInt32)), .val (.int ((((p2.toUInt32 >>> ((16 : Int32) &&& 31).toUInt32).toInt32) &&& (255 : Int32)).toUInt32.toUInt16.toUInt32.toInt32))] [(.int (2 : Int32)), (.int p1)])
      by_cases c65_12 : p1 = (2 : Int32)
      · refine GoH.st (fun t k => XS.icmpNo X0.here hx rfl (hb hby d2_65) rfl (teq c65_12).2 k) ?_
        show GoH _ _ _ _ _ _ _ _ _ _  s₁ (mkF m 68 #[.val (.int p1), .val (.int p2), .val (.int ((p2 &&& (255 : Int32)).toUInt32.toUInt16.toUInt32.toInt32)), .val (.int ((((p2.toUInt32 >>> ((8 : Int32) &&& 31).toUInt32).toInt32) &&& (255 : Int32)).toUInt32.toUInt16.toUInt32.toInt32)), .val (.int ((((p2.toUInt32 >>> ((16 : Int32) &&& 31).toUInt32).toInt32) &&& (255 : Int32)).toUInt32.toUInt16.toUInt32.toInt32))] [])
        obtain ⟨T13, h13, X13, e13, E13, A13, D13, -, st13⟩ := newO X0 hx hZ hown (hw _ (List.mem_of_getElem? (i := 11) rfl)) (hw _ (List.mem_of_getElem? (i := 12) rfl)) (hw _ (List.mem_of_getElem? (i := 13) rfl)) e0 (g := (mkF m 68 #[.val (.int p1), .val (.int p2), .val (.int ((p2 &&& (255 : Int32)).toUInt32.toUInt16.toUInt32.toInt32)), .val (.int ((((p2.toUInt32 >>> ((8 : Int32) &&& 31).toUInt32).toInt32) &&& (255 : Int32)).toUInt32.toUInt16.toUInt32.toInt32)), .val (.int ((((p2.toUInt32 >>> ((16 : Int32) &&& 31).toUInt32).toInt32) &&& (255 : Int32)).toUInt32.toUInt16.toUInt32.toInt32))] [])) rfl (hb hby d2_68) (by decide) (by decide)
        obtain ⟨b13, g13⟩ : ∃ z, z = h0.size := ⟨_, rfl⟩
        rw [← g13] at A13 D13 st13
        refine GoH.st st13 ?_
        have g_b13 : n0 ≤ b13 := by rw [g13]; exact own_le O
        have Sf_b13 : Safe Z EL s.vm h0 b13 := Safe.new (Nat.le_of_eq g13.symm)
        have sz_b13 : h0.size ≤ b13 := by rw [g13]; exact KK.1
        have Sf_b13 := Safe.ext E13 HH Sf_b13
        have RR := RR.trans (CHr.ext E13 HH)
        have HH := HH.ext E13
        have hk := Nat.le_trans hk E13.1
        have O := O.ext E13
        have KK := KK.ext E13
        have E_b13 := A13
        have F_coder_b13 : Fld Z h13 b13 "java/lang/String" "coder" "B" (.int (0 : Int32)) := D13 (Or.inr (hw _ (List.mem_of_getElem? (i := 38) rfl))) (ty := .byte) (by decide)
        have F_value_b13 : Fld Z h13 b13 "java/lang/String" "value" "[B" .null := D13 (Or.inr (hw _ (List.mem_of_getElem? (i := 40) rfl))) (ty := (.array .byte)) (by decide)
        show GoH _ _ _ _ _ _ _ _ _ _  T13 (mkF m 71 #[.val (.int p1), .val (.int p2), .val (.int ((p2 &&& (255 : Int32)).toUInt32.toUInt16.toUInt32.toInt32)), .val (.int ((((p2.toUInt32 >>> ((8 : Int32) &&& 31).toUInt32).toInt32) &&& (255 : Int32)).toUInt32.toUInt16.toUInt32.toInt32)), .val (.int ((((p2.toUInt32 >>> ((16 : Int32) &&& 31).toUInt32).toInt32) &&& (255 : Int32)).toUInt32.toUInt16.toUInt32.toInt32))] [(.ref b13)])
        refine GoH.st (fun t k => XS.dup X13.here hx rfl (hb hby d2_71) rfl rfl k) ?_
        show GoH _ _ _ _ _ _ _ _ _ _  T13 (mkF m 72 #[.val (.int p1), .val (.int p2), .val (.int ((p2 &&& (255 : Int32)).toUInt32.toUInt16.toUInt32.toInt32)), .val (.int ((((p2.toUInt32 >>> ((8 : Int32) &&& 31).toUInt32).toInt32) &&& (255 : Int32)).toUInt32.toUInt16.toUInt32.toInt32)), .val (.int ((((p2.toUInt32 >>> ((16 : Int32) &&& 31).toUInt32).toInt32) &&& (255 : Int32)).toUInt32.toUInt16.toUInt32.toInt32))] [(.ref b13), (.ref b13)])
        refine GoH.st (fun t k => XS.iconst X13.here hx rfl (hb hby d2_72) k) ?_
        show GoH _ _ _ _ _ _ _ _ _ _  T13 (mkF m 73 #[.val (.int p1), .val (.int p2), .val (.int ((p2 &&& (255 : Int32)).toUInt32.toUInt16.toUInt32.toInt32)), .val (.int ((((p2.toUInt32 >>> ((8 : Int32) &&& 31).toUInt32).toInt32) &&& (255 : Int32)).toUInt32.toUInt16.toUInt32.toInt32)), .val (.int ((((p2.toUInt32 >>> ((16 : Int32) &&& 31).toUInt32).toInt32) &&& (255 : Int32)).toUInt32.toUInt16.toUInt32.toInt32))] [(.int (2 : Int32)), (.ref b13), (.ref b13)])
        obtain ⟨T14, h14, k14, X14, e14, E14, A14, st14⟩ := newP X13 hx hZ (hw _ (List.mem_of_getElem? (i := 14) rfl)) e13 (g := (mkF m 73 #[.val (.int p1), .val (.int p2), .val (.int ((p2 &&& (255 : Int32)).toUInt32.toUInt16.toUInt32.toInt32)), .val (.int ((((p2.toUInt32 >>> ((8 : Int32) &&& 31).toUInt32).toInt32) &&& (255 : Int32)).toUInt32.toUInt16.toUInt32.toInt32)), .val (.int ((((p2.toUInt32 >>> ((16 : Int32) &&& 31).toUInt32).toInt32) &&& (255 : Int32)).toUInt32.toUInt16.toUInt32.toInt32))] [(.int (2 : Int32)), (.ref b13), (.ref b13)])) rfl (hb hby d2_73) rfl (by decide) (cap := 2) (by decide) (by decide) (by decide) (by decide)
        obtain ⟨b14, g14⟩ : ∃ z, z = h13.size := ⟨_, rfl⟩
        rw [← g14] at A14 st14
        refine GoH.st st14 ?_
        have g_b14 : n0 ≤ b14 := by rw [g14]; exact own_le O
        have Sf_b14 : Safe Z EL s.vm h13 b14 := Safe.new (Nat.le_of_eq g14.symm)
        have sz_b14 : h0.size ≤ b14 := by rw [g14]; exact KK.1
        have ne_b13_b14 : b13 ≠ b14 := Nat.ne_of_lt (by rw [g14]; exact E_b13.lt)
        have E_b13 := E_b13.ext E14
        have F_coder_b13 := F_coder_b13.ext E14
        have F_value_b13 := F_value_b13.ext E14
        have Sf_b13 := Safe.ext E14 HH Sf_b13
        have Sf_b14 := Safe.ext E14 HH Sf_b14
        have RR := RR.trans (CHr.ext E14 HH)
        have HH := HH.ext E14
        have hk := Nat.le_trans hk E14.1
        have O := O.ext E14
        have KK := KK.ext E14
        have V_b14 : Arv Z h14 b14 k14 .char (2 : Int32) [(.int (0 : Int32)), (.int (0 : Int32))] (.int (0 : Int32)) := (Arv.new A14 (by decide)).pad (pad_rep [] (.int (0 : Int32)) 2)
        show GoH _ _ _ _ _ _ _ _ _ _  T14 (mkF m 75 #[.val (.int p1), .val (.int p2), .val (.int ((p2 &&& (255 : Int32)).toUInt32.toUInt16.toUInt32.toInt32)), .val (.int ((((p2.toUInt32 >>> ((8 : Int32) &&& 31).toUInt32).toInt32) &&& (255 : Int32)).toUInt32.toUInt16.toUInt32.toInt32)), .val (.int ((((p2.toUInt32 >>> ((16 : Int32) &&& 31).toUInt32).toInt32) &&& (255 : Int32)).toUInt32.toUInt16.toUInt32.toInt32))] [(.ref b14), (.ref b13), (.ref b13)])
        refine GoH.st (fun t k => XS.dup X14.here hx rfl (hb hby d2_75) rfl rfl k) ?_
        show GoH _ _ _ _ _ _ _ _ _ _  T14 (mkF m 76 #[.val (.int p1), .val (.int p2), .val (.int ((p2 &&& (255 : Int32)).toUInt32.toUInt16.toUInt32.toInt32)), .val (.int ((((p2.toUInt32 >>> ((8 : Int32) &&& 31).toUInt32).toInt32) &&& (255 : Int32)).toUInt32.toUInt16.toUInt32.toInt32)), .val (.int ((((p2.toUInt32 >>> ((16 : Int32) &&& 31).toUInt32).toInt32) &&& (255 : Int32)).toUInt32.toUInt16.toUInt32.toInt32))] [(.ref b14), (.ref b14), (.ref b13), (.ref b13)])
        refine GoH.st (fun t k => XS.iconst X14.here hx rfl (hb hby d2_76) k) ?_
        show GoH _ _ _ _ _ _ _ _ _ _  T14 (mkF m 77 #[.val (.int p1), .val (.int p2), .val (.int ((p2 &&& (255 : Int32)).toUInt32.toUInt16.toUInt32.toInt32)), .val (.int ((((p2.toUInt32 >>> ((8 : Int32) &&& 31).toUInt32).toInt32) &&& (255 : Int32)).toUInt32.toUInt16.toUInt32.toInt32)), .val (.int ((((p2.toUInt32 >>> ((16 : Int32) &&& 31).toUInt32).toInt32) &&& (255 : Int32)).toUInt32.toUInt16.toUInt32.toInt32))] [(.int (0 : Int32)), (.ref b14), (.ref b14), (.ref b13), (.ref b13)])
        refine GoH.st (fun t k => XS.iloadN X14.here hx rfl (hb hby d2_77) rfl  k) ?_
        show GoH _ _ _ _ _ _ _ _ _ _  T14 (mkF m 78 #[.val (.int p1), .val (.int p2), .val (.int ((p2 &&& (255 : Int32)).toUInt32.toUInt16.toUInt32.toInt32)), .val (.int ((((p2.toUInt32 >>> ((8 : Int32) &&& 31).toUInt32).toInt32) &&& (255 : Int32)).toUInt32.toUInt16.toUInt32.toInt32)), .val (.int ((((p2.toUInt32 >>> ((16 : Int32) &&& 31).toUInt32).toInt32) &&& (255 : Int32)).toUInt32.toUInt16.toUInt32.toInt32))] [(.int ((p2 &&& (255 : Int32)).toUInt32.toUInt16.toUInt32.toInt32)), (.int (0 : Int32)), (.ref b14), (.ref b14), (.ref b13), (.ref b13)])
        obtain ⟨cl15, Ar15, q15, S15, M15, Hh15, G15⟩ := V_b14
        obtain ⟨T16, h16, X16, e16, W16, st16⟩ := stC X14 hx hZ e14 Ar15 (j := (0 : Int32)) (inb_of S15 ⟨by decide, by decide⟩) (g := (mkF m 78 #[.val (.int p1), .val (.int p2), .val (.int ((p2 &&& (255 : Int32)).toUInt32.toUInt16.toUInt32.toInt32)), .val (.int ((((p2.toUInt32 >>> ((8 : Int32) &&& 31).toUInt32).toInt32) &&& (255 : Int32)).toUInt32.toUInt16.toUInt32.toInt32)), .val (.int ((((p2.toUInt32 >>> ((16 : Int32) &&& 31).toUInt32).toInt32) &&& (255 : Int32)).toUInt32.toUInt16.toUInt32.toInt32))] [(.int ((p2 &&& (255 : Int32)).toUInt32.toUInt16.toUInt32.toInt32)), (.int (0 : Int32)), (.ref b14), (.ref b14), (.ref b13), (.ref b13)])) rfl rfl (hb hby d2_78)
        refine GoH.st st16 ?_
        have V_b14 : Arv Z h16 b14 k14 .char (2 : Int32) [(.int (nar .char ((p2 &&& (255 : Int32)).toUInt32.toUInt16.toUInt32.toInt32))), (.int (0 : Int32))] (.int (0 : Int32)) := Arv.set Ar15 q15 S15 M15 Hh15 G15 (fits_nar_char _) W16 0 rfl (Nat.le_of_ble_eq_true rfl)
        have N16 := Fr.snoc X16 N0 g_b14
        have E_b13 := E_b13.wr W16
        have F_coder_b13 := F_coder_b13.other W16 (Or.inl ne_b13_b14)
        have F_value_b13 := F_value_b13.other W16 (Or.inl ne_b13_b14)
        have Sf_b13 := Safe.wr W16 Sf_b14 HH Sf_b13
        have Sf'_b14 := Safe.wr W16 Sf_b14 HH Sf_b14
        have RR := RR.trans (CHr.wr W16 Sf_b14 HH)
        have HH := HH.wr W16 Sf_b14
        have Sf_b14 := Sf'_b14
        have hk := Nat.le_trans hk (Nat.le_of_eq W16.size.symm)
        have O := O.wr W16 g_b14
        have KK := KK.wr W16 (Or.inr sz_b14)
        show GoH _ _ _ _ _ _ _ _ _ _  T16 (mkF m 79 #[.val (.int p1), .val (.int p2), .val (.int ((p2 &&& (255 : Int32)).toUInt32.toUInt16.toUInt32.toInt32)), .val (.int ((((p2.toUInt32 >>> ((8 : Int32) &&& 31).toUInt32).toInt32) &&& (255 : Int32)).toUInt32.toUInt16.toUInt32.toInt32)), .val (.int ((((p2.toUInt32 >>> ((16 : Int32) &&& 31).toUInt32).toInt32) &&& (255 : Int32)).toUInt32.toUInt16.toUInt32.toInt32))] [(.ref b14), (.ref b13), (.ref b13)])
        refine GoH.st (fun t k => XS.dup X16.here hx rfl (hb hby d2_79) rfl rfl k) ?_
        show GoH _ _ _ _ _ _ _ _ _ _  T16 (mkF m 80 #[.val (.int p1), .val (.int p2), .val (.int ((p2 &&& (255 : Int32)).toUInt32.toUInt16.toUInt32.toInt32)), .val (.int ((((p2.toUInt32 >>> ((8 : Int32) &&& 31).toUInt32).toInt32) &&& (255 : Int32)).toUInt32.toUInt16.toUInt32.toInt32)), .val (.int ((((p2.toUInt32 >>> ((16 : Int32) &&& 31).toUInt32).toInt32) &&& (255 : Int32)).toUInt32.toUInt16.toUInt32.toInt32))] [(.ref b14), (.ref b14), (.ref b13), (.ref b13)])
        refine GoH.st (fun t k => XS.iconst X16.here hx rfl (hb hby d2_80) k) ?_
        show GoH _ _ _ _ _ _ _ _ _ _  T16 (mkF m 81 #[.val (.int p1), .val (.int p2), .val (.int ((p2 &&& (255 : Int32)).toUInt32.toUInt16.toUInt32.toInt32)), .val (.int ((((p2.toUInt32 >>> ((8 : Int32) &&& 31).toUInt32).toInt32) &&& (255 : Int32)).toUInt32.toUInt16.toUInt32.toInt32)), .val (.int ((((p2.toUInt32 >>> ((16 : Int32) &&& 31).toUInt32).toInt32) &&& (255 : Int32)).toUInt32.toUInt16.toUInt32.toInt32))] [(.int (1 : Int32)), (.ref b14), (.ref b14), (.ref b13), (.ref b13)])
        refine GoH.st (fun t k => XS.iloadN X16.here hx rfl (hb hby d2_81) rfl  k) ?_
        show GoH _ _ _ _ _ _ _ _ _ _  T16 (mkF m 82 #[.val (.int p1), .val (.int p2), .val (.int ((p2 &&& (255 : Int32)).toUInt32.toUInt16.toUInt32.toInt32)), .val (.int ((((p2.toUInt32 >>> ((8 : Int32) &&& 31).toUInt32).toInt32) &&& (255 : Int32)).toUInt32.toUInt16.toUInt32.toInt32)), .val (.int ((((p2.toUInt32 >>> ((16 : Int32) &&& 31).toUInt32).toInt32) &&& (255 : Int32)).toUInt32.toUInt16.toUInt32.toInt32))] [(.int ((((p2.toUInt32 >>> ((8 : Int32) &&& 31).toUInt32).toInt32) &&& (255 : Int32)).toUInt32.toUInt16.toUInt32.toInt32)), (.int (1 : Int32)), (.ref b14), (.ref b14), (.ref b13), (.ref b13)])
        obtain ⟨cl17, Ar17, q17, S17, M17, Hh17, G17⟩ := V_b14
        obtain ⟨T18, h18, X18, e18, W18, st18⟩ := stC X16 hx hZ e16 Ar17 (j := (1 : Int32)) (inb_of S17 ⟨by decide, by decide⟩) (g := (mkF m 82 #[.val (.int p1), .val (.int p2), .val (.int ((p2 &&& (255 : Int32)).toUInt32.toUInt16.toUInt32.toInt32)), .val (.int ((((p2.toUInt32 >>> ((8 : Int32) &&& 31).toUInt32).toInt32) &&& (255 : Int32)).toUInt32.toUInt16.toUInt32.toInt32)), .val (.int ((((p2.toUInt32 >>> ((16 : Int32) &&& 31).toUInt32).toInt32) &&& (255 : Int32)).toUInt32.toUInt16.toUInt32.toInt32))] [(.int ((((p2.toUInt32 >>> ((8 : Int32) &&& 31).toUInt32).toInt32) &&& (255 : Int32)).toUInt32.toUInt16.toUInt32.toInt32)), (.int (1 : Int32)), (.ref b14), (.ref b14), (.ref b13), (.ref b13)])) rfl rfl (hb hby d2_82)
        refine GoH.st st18 ?_
        have V_b14 : Arv Z h18 b14 k14 .char (2 : Int32) [(.int (nar .char ((p2 &&& (255 : Int32)).toUInt32.toUInt16.toUInt32.toInt32))), (.int (nar .char ((((p2.toUInt32 >>> ((8 : Int32) &&& 31).toUInt32).toInt32) &&& (255 : Int32)).toUInt32.toUInt16.toUInt32.toInt32)))] (.int (0 : Int32)) := Arv.set Ar17 q17 S17 M17 Hh17 G17 (fits_nar_char _) W18 1 rfl (Nat.le_of_ble_eq_true rfl)
        have N18 := Fr.snoc X18 N16 g_b14
        have E_b13 := E_b13.wr W18
        have F_coder_b13 := F_coder_b13.other W18 (Or.inl ne_b13_b14)
        have F_value_b13 := F_value_b13.other W18 (Or.inl ne_b13_b14)
        have Sf_b13 := Safe.wr W18 Sf_b14 HH Sf_b13
        have Sf'_b14 := Safe.wr W18 Sf_b14 HH Sf_b14
        have RR := RR.trans (CHr.wr W18 Sf_b14 HH)
        have HH := HH.wr W18 Sf_b14
        have Sf_b14 := Sf'_b14
        have hk := Nat.le_trans hk (Nat.le_of_eq W18.size.symm)
        have O := O.wr W18 g_b14
        have KK := KK.wr W18 (Or.inr sz_b14)
        show GoH _ _ _ _ _ _ _ _ _ _  T18 (mkF m 83 #[.val (.int p1), .val (.int p2), .val (.int ((p2 &&& (255 : Int32)).toUInt32.toUInt16.toUInt32.toInt32)), .val (.int ((((p2.toUInt32 >>> ((8 : Int32) &&& 31).toUInt32).toInt32) &&& (255 : Int32)).toUInt32.toUInt16.toUInt32.toInt32)), .val (.int ((((p2.toUInt32 >>> ((16 : Int32) &&& 31).toUInt32).toInt32) &&& (255 : Int32)).toUInt32.toUInt16.toUInt32.toInt32))] [(.ref b14), (.ref b13), (.ref b13)])
        have hp19 : ∀ c ∈ ([(nar .char ((p2 &&& (255 : Int32)).toUInt32.toUInt16.toUInt32.toInt32)), (nar .char ((((p2.toUInt32 >>> ((8 : Int32) &&& 31).toUInt32).toInt32) &&& (255 : Int32)).toUInt32.toUInt16.toUInt32.toInt32))] : List Int32), ¬ c < 0 ∧ ¬ (255 : Int32) < c := (own_cons (P := fun c => ¬ c < 0 ∧ ¬ (255 : Int32) < c) (own_m255 _) (own_cons (P := fun c => ¬ c < 0 ∧ ¬ (255 : Int32) < c) (own_m255 _) own_nil))
        obtain ⟨_, _, ⟨T20, L20, k20, n20⟩, -, X20, ⟨Lc20, hQ20, l20, y20, z20⟩, st20⟩ := X18.specialBack hx (y := (⟨"java/lang/String", "<init>", "([C)V"⟩ : MethodName)) rfl hown (mvT hZ (hw _ (List.mem_of_getElem? (i := 15) rfl))) (mvT hZ (hw _ (List.mem_of_getElem? (i := 16) rfl))) (mvT hZ (hw _ (List.mem_of_getElem? (i := 17) rfl))) (by decide) (StrChars.Road.backV (W := 1) hZ hws (kI := 4) (hw _ (List.mem_of_getElem? (i := 12) rfl)) (cs := ([(nar .char ((p2 &&& (255 : Int32)).toUInt32.toUInt16.toUInt32.toInt32)), (nar .char ((((p2.toUInt32 >>> ((8 : Int32) &&& 31).toUInt32).toInt32) &&& (255 : Int32)).toUInt32.toUInt16.toUInt32.toInt32))] : List Int32)) (bs := ([(nar .char ((p2 &&& (255 : Int32)).toUInt32.toUInt16.toUInt32.toInt32)), (nar .char ((((p2.toUInt32 >>> ((8 : Int32) &&& 31).toUInt32).toInt32) &&& (255 : Int32)).toUInt32.toUInt16.toUInt32.toInt32))] : List Int32).map (fun c => c.toInt8.toInt32)) (n := 2) g_b13 (own_le O) E_b13 F_value_b13 F_coder_b13 V_b14 (S_COMPACT.ext O.2) hcs rfl rfl (by decide) (by decide) hp19 rfl (by decide) (by decide)) (g := (mkF m 83 #[.val (.int p1), .val (.int p2), .val (.int ((p2 &&& (255 : Int32)).toUInt32.toUInt16.toUInt32.toInt32)), .val (.int ((((p2.toUInt32 >>> ((8 : Int32) &&& 31).toUInt32).toInt32) &&& (255 : Int32)).toUInt32.toUInt16.toUInt32.toInt32)), .val (.int ((((p2.toUInt32 >>> ((16 : Int32) &&& 31).toUInt32).toInt32) &&& (255 : Int32)).toUInt32.toUInt16.toUInt32.toInt32))] [(.ref b14), (.ref b13), (.ref b13)])) rfl (by rw [hml]; rfl) (Steps.refl _) (a := b13) (argsL := [(.ref b14)]) (rest := [(.ref b13)]) (lenOf pd___C_V rfl) rfl (by show 2 * 0 + _ ≤ _; exact Nat.le_of_eq rfl) (hb hby d2_83) (fun _ _ => ⟨rfl, e18, (by decide : 2 + 1 ≤ _), (by decide : 6 + 2 ≤ _)⟩)
        dsimp only [Pt.U, Pt.locs, Pt.cells, Pt.slots] at X20 l20 y20 z20 st20 hQ20
        subst l20 y20 z20
        obtain ⟨rfl, N20q, K20q, Eq20, Cq20, t20, kt20, gt20, lt20, nt20, Vq20, Aq20⟩ := hQ20
        have N20 := Fr.app N18 N20q
        refine GoH.tr st20 ?_
        have g_t20 : n0 ≤ t20 := Nat.le_trans (own_le O) lt20
        have Sf_t20 : Safe Z EL s.vm h18 t20 := Safe.new lt20
        have sz_t20 : h0.size ≤ t20 := Nat.le_trans KK.1 lt20
        have ne_b13_t20 : b13 ≠ t20 := Nat.ne_of_lt (Nat.lt_of_lt_of_le E_b13.lt lt20)
        have ne_b14_t20 : b14 ≠ t20 := Nat.ne_of_lt (Nat.lt_of_lt_of_le V_b14.lt lt20)
        have E_b13 := E_b13.keep K20q
        have V_b14 := V_b14.keep K20q (ninS (Ne.symm ne_b13_b14) nin0)
        have sfw20 := (sfS Sf_b13 sf0)
        have Sf_b13 := Safe.keep K20q sfw20 HH Sf_b13
        have Sf_b14 := Safe.keep K20q sfw20 HH Sf_b14
        have Sf_t20 := Safe.keep K20q sfw20 HH Sf_t20
        have RR := RR.trans (CHr.keep K20q sfw20 HH)
        have HH := HH.keep K20q sfw20
        have hk := Nat.le_trans hk K20q.1
        have O := O.keep K20q (allS g_b13 all0)
        have KK := KK.trans K20q (allS (Or.inr sz_b13) all0)
        have E_b13 := Eq20
        show GoH _ _ _ _ _ _ _ _ _ _  T20 (mkF m 86 #[.val (.int p1), .val (.int p2), .val (.int ((p2 &&& (255 : Int32)).toUInt32.toUInt16.toUInt32.toInt32)), .val (.int ((((p2.toUInt32 >>> ((8 : Int32) &&& 31).toUInt32).toInt32) &&& (255 : Int32)).toUInt32.toUInt16.toUInt32.toInt32)), .val (.int ((((p2.toUInt32 >>> ((16 : Int32) &&& 31).toUInt32).toInt32) &&& (255 : Int32)).toUInt32.toUInt16.toUInt32.toInt32))] [(.ref b13)])
        refine GoH.retR X20 hS hk rfl hZ hEL HH RR hlk hx Bd.returns rfl rfl rfl (hb hby d2_86) (by decide) (by decide) ?_
        show Q_rmD Z _ _ _ h0 n0 _ T20.heap _
        exact ⟨_, rfl, N20, own_ext0 KK⟩
      · refine GoH.st (fun t k => XS.icmpYes X0.here hx rfl (pc0 := 65) (pc' := 87) rfl (hb hby d2_65) rfl (feq c65_12).2 (by decide) (by decide) k) ?_
        show GoH _ _ _ _ _ _ _ _ _ _  s₁ (mkF m 87 #[.val (.int p1), .val (.int p2), .val (.int ((p2 &&& (255 : Int32)).toUInt32.toUInt16.toUInt32.toInt32)), .val (.int ((((p2.toUInt32 >>> ((8 : Int32) &&& 31).toUInt32).toInt32) &&& (255 : Int32)).toUInt32.toUInt16.toUInt32.toInt32)), .val (.int ((((p2.toUInt32 >>> ((16 : Int32) &&& 31).toUInt32).toInt32) &&& (255 : Int32)).toUInt32.toUInt16.toUInt32.toInt32))] [])
        obtain ⟨T21, h21, X21, e21, E21, A21, D21, -, st21⟩ := newO X0 hx hZ hown (hw _ (List.mem_of_getElem? (i := 11) rfl)) (hw _ (List.mem_of_getElem? (i := 12) rfl)) (hw _ (List.mem_of_getElem? (i := 13) rfl)) e0 (g := (mkF m 87 #[.val (.int p1), .val (.int p2), .val (.int ((p2 &&& (255 : Int32)).toUInt32.toUInt16.toUInt32.toInt32)), .val (.int ((((p2.toUInt32 >>> ((8 : Int32) &&& 31).toUInt32).toInt32) &&& (255 : Int32)).toUInt32.toUInt16.toUInt32.toInt32)), .val (.int ((((p2.toUInt32 >>> ((16 : Int32) &&& 31).toUInt32).toInt32) &&& (255 : Int32)).toUInt32.toUInt16.toUInt32.toInt32))] [])) rfl (hb hby d2_87) (by decide) (by decide)
        obtain ⟨b21, g21⟩ : ∃ z, z = h0.size := ⟨_, rfl⟩
        rw [← g21] at A21 D21 st21
        refine GoH.st st21 ?_
        have g_b21 : n0 ≤ b21 := by rw [g21]; exact own_le O
        have Sf_b21 : Safe Z EL s.vm h0 b21 := Safe.new (Nat.le_of_eq g21.symm)
        have sz_b21 : h0.size ≤ b21 := by rw [g21]; exact KK.1
        have Sf_b21 := Safe.ext E21 HH Sf_b21
        have RR := RR.trans (CHr.ext E21 HH)
        have HH := HH.ext E21
        have hk := Nat.le_trans hk E21.1
        have O := O.ext E21
        have KK := KK.ext E21
        have E_b21 := A21
        have F_coder_b21 : Fld Z h21 b21 "java/lang/String" "coder" "B" (.int (0 : Int32)) := D21 (Or.inr (hw _ (List.mem_of_getElem? (i := 38) rfl))) (ty := .byte) (by decide)
        have F_value_b21 : Fld Z h21 b21 "java/lang/String" "value" "[B" .null := D21 (Or.inr (hw _ (List.mem_of_getElem? (i := 40) rfl))) (ty := (.array .byte)) (by decide)
        show GoH _ _ _ _ _ _ _ _ _ _  T21 (mkF m 90 #[.val (.int p1), .val (.int p2), .val (.int ((p2 &&& (255 : Int32)).toUInt32.toUInt16.toUInt32.toInt32)), .val (.int ((((p2.toUInt32 >>> ((8 : Int32) &&& 31).toUInt32).toInt32) &&& (255 : Int32)).toUInt32.toUInt16.toUInt32.toInt32)), .val (.int ((((p2.toUInt32 >>> ((16 : Int32) &&& 31).toUInt32).toInt32) &&& (255 : Int32)).toUInt32.toUInt16.toUInt32.toInt32))] [(.ref b21)])
        refine GoH.st (fun t k => XS.dup X21.here hx rfl (hb hby d2_90) rfl rfl k) ?_
        show GoH _ _ _ _ _ _ _ _ _ _  T21 (mkF m 91 #[.val (.int p1), .val (.int p2), .val (.int ((p2 &&& (255 : Int32)).toUInt32.toUInt16.toUInt32.toInt32)), .val (.int ((((p2.toUInt32 >>> ((8 : Int32) &&& 31).toUInt32).toInt32) &&& (255 : Int32)).toUInt32.toUInt16.toUInt32.toInt32)), .val (.int ((((p2.toUInt32 >>> ((16 : Int32) &&& 31).toUInt32).toInt32) &&& (255 : Int32)).toUInt32.toUInt16.toUInt32.toInt32))] [(.ref b21), (.ref b21)])
        refine GoH.st (fun t k => XS.iconst X21.here hx rfl (hb hby d2_91) k) ?_
        show GoH _ _ _ _ _ _ _ _ _ _  T21 (mkF m 92 #[.val (.int p1), .val (.int p2), .val (.int ((p2 &&& (255 : Int32)).toUInt32.toUInt16.toUInt32.toInt32)), .val (.int ((((p2.toUInt32 >>> ((8 : Int32) &&& 31).toUInt32).toInt32) &&& (255 : Int32)).toUInt32.toUInt16.toUInt32.toInt32)), .val (.int ((((p2.toUInt32 >>> ((16 : Int32) &&& 31).toUInt32).toInt32) &&& (255 : Int32)).toUInt32.toUInt16.toUInt32.toInt32))] [(.int (3 : Int32)), (.ref b21), (.ref b21)])
        obtain ⟨T22, h22, k22, X22, e22, E22, A22, st22⟩ := newP X21 hx hZ (hw _ (List.mem_of_getElem? (i := 14) rfl)) e21 (g := (mkF m 92 #[.val (.int p1), .val (.int p2), .val (.int ((p2 &&& (255 : Int32)).toUInt32.toUInt16.toUInt32.toInt32)), .val (.int ((((p2.toUInt32 >>> ((8 : Int32) &&& 31).toUInt32).toInt32) &&& (255 : Int32)).toUInt32.toUInt16.toUInt32.toInt32)), .val (.int ((((p2.toUInt32 >>> ((16 : Int32) &&& 31).toUInt32).toInt32) &&& (255 : Int32)).toUInt32.toUInt16.toUInt32.toInt32))] [(.int (3 : Int32)), (.ref b21), (.ref b21)])) rfl (hb hby d2_92) rfl (by decide) (cap := 3) (by decide) (by decide) (by decide) (by decide)
        obtain ⟨b22, g22⟩ : ∃ z, z = h21.size := ⟨_, rfl⟩
        rw [← g22] at A22 st22
        refine GoH.st st22 ?_
        have g_b22 : n0 ≤ b22 := by rw [g22]; exact own_le O
        have Sf_b22 : Safe Z EL s.vm h21 b22 := Safe.new (Nat.le_of_eq g22.symm)
        have sz_b22 : h0.size ≤ b22 := by rw [g22]; exact KK.1
        have ne_b21_b22 : b21 ≠ b22 := Nat.ne_of_lt (by rw [g22]; exact E_b21.lt)
        have E_b21 := E_b21.ext E22
        have F_coder_b21 := F_coder_b21.ext E22
        have F_value_b21 := F_value_b21.ext E22
        have Sf_b21 := Safe.ext E22 HH Sf_b21
        have Sf_b22 := Safe.ext E22 HH Sf_b22
        have RR := RR.trans (CHr.ext E22 HH)
        have HH := HH.ext E22
        have hk := Nat.le_trans hk E22.1
        have O := O.ext E22
        have KK := KK.ext E22
        have V_b22 : Arv Z h22 b22 k22 .char (3 : Int32) [(.int (0 : Int32)), (.int (0 : Int32)), (.int (0 : Int32))] (.int (0 : Int32)) := (Arv.new A22 (by decide)).pad (pad_rep [] (.int (0 : Int32)) 3)
        show GoH _ _ _ _ _ _ _ _ _ _  T22 (mkF m 94 #[.val (.int p1), .val (.int p2), .val (.int ((p2 &&& (255 : Int32)).toUInt32.toUInt16.toUInt32.toInt32)), .val (.int ((((p2.toUInt32 >>> ((8 : Int32) &&& 31).toUInt32).toInt32) &&& (255 : Int32)).toUInt32.toUInt16.toUInt32.toInt32)), .val (.int ((((p2.toUInt32 >>> ((16 : Int32) &&& 31).toUInt32).toInt32) &&& (255 : Int32)).toUInt32.toUInt16.toUInt32.toInt32))] [(.ref b22), (.ref b21), (.ref b21)])
        refine GoH.st (fun t k => XS.dup X22.here hx rfl (hb hby d2_94) rfl rfl k) ?_
        show GoH _ _ _ _ _ _ _ _ _ _  T22 (mkF m 95 #[.val (.int p1), .val (.int p2), .val (.int ((p2 &&& (255 : Int32)).toUInt32.toUInt16.toUInt32.toInt32)), .val (.int ((((p2.toUInt32 >>> ((8 : Int32) &&& 31).toUInt32).toInt32) &&& (255 : Int32)).toUInt32.toUInt16.toUInt32.toInt32)), .val (.int ((((p2.toUInt32 >>> ((16 : Int32) &&& 31).toUInt32).toInt32) &&& (255 : Int32)).toUInt32.toUInt16.toUInt32.toInt32))] [(.ref b22), (.ref b22), (.ref b21), (.ref b21)])
        refine GoH.st (fun t k => XS.iconst X22.here hx rfl (hb hby d2_95) k) ?_
        show GoH _ _ _ _ _ _ _ _ _ _  T22 (mkF m 96 #[.val (.int p1), .val (.int p2), .val (.int ((p2 &&& (255 : Int32)).toUInt32.toUInt16.toUInt32.toInt32)), .val (.int ((((p2.toUInt32 >>> ((8 : Int32) &&& 31).toUInt32).toInt32) &&& (255 : Int32)).toUInt32.toUInt16.toUInt32.toInt32)), .val (.int ((((p2.toUInt32 >>> ((16 : Int32) &&& 31).toUInt32).toInt32) &&& (255 : Int32)).toUInt32.toUInt16.toUInt32.toInt32))] [(.int (0 : Int32)), (.ref b22), (.ref b22), (.ref b21), (.ref b21)])
        refine GoH.st (fun t k => XS.iloadN X22.here hx rfl (hb hby d2_96) rfl  k) ?_
        show GoH _ _ _ _ _ _ _ _ _ _  T22 (mkF m 97 #[.val (.int p1), .val (.int p2), .val (.int ((p2 &&& (255 : Int32)).toUInt32.toUInt16.toUInt32.toInt32)), .val (.int ((((p2.toUInt32 >>> ((8 : Int32) &&& 31).toUInt32).toInt32) &&& (255 : Int32)).toUInt32.toUInt16.toUInt32.toInt32)), .val (.int ((((p2.toUInt32 >>> ((16 : Int32) &&& 31).toUInt32).toInt32) &&& (255 : Int32)).toUInt32.toUInt16.toUInt32.toInt32))] [(.int ((p2 &&& (255 : Int32)).toUInt32.toUInt16.toUInt32.toInt32)), (.int (0 : Int32)), (.ref b22), (.ref b22), (.ref b21), (.ref b21)])
        obtain ⟨cl23, Ar23, q23, S23, M23, Hh23, G23⟩ := V_b22
        obtain ⟨T24, h24, X24, e24, W24, st24⟩ := stC X22 hx hZ e22 Ar23 (j := (0 : Int32)) (inb_of S23 ⟨by decide, by decide⟩) (g := (mkF m 97 #[.val (.int p1), .val (.int p2), .val (.int ((p2 &&& (255 : Int32)).toUInt32.toUInt16.toUInt32.toInt32)), .val (.int ((((p2.toUInt32 >>> ((8 : Int32) &&& 31).toUInt32).toInt32) &&& (255 : Int32)).toUInt32.toUInt16.toUInt32.toInt32)), .val (.int ((((p2.toUInt32 >>> ((16 : Int32) &&& 31).toUInt32).toInt32) &&& (255 : Int32)).toUInt32.toUInt16.toUInt32.toInt32))] [(.int ((p2 &&& (255 : Int32)).toUInt32.toUInt16.toUInt32.toInt32)), (.int (0 : Int32)), (.ref b22), (.ref b22), (.ref b21), (.ref b21)])) rfl rfl (hb hby d2_97)
        refine GoH.st st24 ?_
        have V_b22 : Arv Z h24 b22 k22 .char (3 : Int32) [(.int (nar .char ((p2 &&& (255 : Int32)).toUInt32.toUInt16.toUInt32.toInt32))), (.int (0 : Int32)), (.int (0 : Int32))] (.int (0 : Int32)) := Arv.set Ar23 q23 S23 M23 Hh23 G23 (fits_nar_char _) W24 0 rfl (Nat.le_of_ble_eq_true rfl)
        have N24 := Fr.snoc X24 N0 g_b22
        have E_b21 := E_b21.wr W24
        have F_coder_b21 := F_coder_b21.other W24 (Or.inl ne_b21_b22)
        have F_value_b21 := F_value_b21.other W24 (Or.inl ne_b21_b22)
        have Sf_b21 := Safe.wr W24 Sf_b22 HH Sf_b21
        have Sf'_b22 := Safe.wr W24 Sf_b22 HH Sf_b22
        have RR := RR.trans (CHr.wr W24 Sf_b22 HH)
        have HH := HH.wr W24 Sf_b22
        have Sf_b22 := Sf'_b22
        have hk := Nat.le_trans hk (Nat.le_of_eq W24.size.symm)
        have O := O.wr W24 g_b22
        have KK := KK.wr W24 (Or.inr sz_b22)
        show GoH _ _ _ _ _ _ _ _ _ _  T24 (mkF m 98 #[.val (.int p1), .val (.int p2), .val (.int ((p2 &&& (255 : Int32)).toUInt32.toUInt16.toUInt32.toInt32)), .val (.int ((((p2.toUInt32 >>> ((8 : Int32) &&& 31).toUInt32).toInt32) &&& (255 : Int32)).toUInt32.toUInt16.toUInt32.toInt32)), .val (.int ((((p2.toUInt32 >>> ((16 : Int32) &&& 31).toUInt32).toInt32) &&& (255 : Int32)).toUInt32.toUInt16.toUInt32.toInt32))] [(.ref b22), (.ref b21), (.ref b21)])
        refine GoH.st (fun t k => XS.dup X24.here hx rfl (hb hby d2_98) rfl rfl k) ?_
        show GoH _ _ _ _ _ _ _ _ _ _  T24 (mkF m 99 #[.val (.int p1), .val (.int p2), .val (.int ((p2 &&& (255 : Int32)).toUInt32.toUInt16.toUInt32.toInt32)), .val (.int ((((p2.toUInt32 >>> ((8 : Int32) &&& 31).toUInt32).toInt32) &&& (255 : Int32)).toUInt32.toUInt16.toUInt32.toInt32)), .val (.int ((((p2.toUInt32 >>> ((16 : Int32) &&& 31).toUInt32).toInt32) &&& (255 : Int32)).toUInt32.toUInt16.toUInt32.toInt32))] [(.ref b22), (.ref b22), (.ref b21), (.ref b21)])
        refine GoH.st (fun t k => XS.iconst X24.here hx rfl (hb hby d2_99) k) ?_
        show GoH _ _ _ _ _ _ _ _ _ _  T24 (mkF m 100 #[.val (.int p1), .val (.int p2), .val (.int ((p2 &&& (255 : Int32)).toUInt32.toUInt16.toUInt32.toInt32)), .val (.int ((((p2.toUInt32 >>> ((8 : Int32) &&& 31).toUInt32).toInt32) &&& (255 : Int32)).toUInt32.toUInt16.toUInt32.toInt32)), .val (.int ((((p2.toUInt32 >>> ((16 : Int32) &&& 31).toUInt32).toInt32) &&& (255 : Int32)).toUInt32.toUInt16.toUInt32.toInt32))] [(.int (1 : Int32)), (.ref b22), (.ref b22), (.ref b21), (.ref b21)])
        refine GoH.st (fun t k => XS.iloadN X24.here hx rfl (hb hby d2_100) rfl  k) ?_
        show GoH _ _ _ _ _ _ _ _ _ _  T24 (mkF m 101 #[.val (.int p1), .val (.int p2), .val (.int ((p2 &&& (255 : Int32)).toUInt32.toUInt16.toUInt32.toInt32)), .val (.int ((((p2.toUInt32 >>> ((8 : Int32) &&& 31).toUInt32).toInt32) &&& (255 : Int32)).toUInt32.toUInt16.toUInt32.toInt32)), .val (.int ((((p2.toUInt32 >>> ((16 : Int32) &&& 31).toUInt32).toInt32) &&& (255 : Int32)).toUInt32.toUInt16.toUInt32.toInt32))] [(.int ((((p2.toUInt32 >>> ((8 : Int32) &&& 31).toUInt32).toInt32) &&& (255 : Int32)).toUInt32.toUInt16.toUInt32.toInt32)), (.int (1 : Int32)), (.ref b22), (.ref b22), (.ref b21), (.ref b21)])
        obtain ⟨cl25, Ar25, q25, S25, M25, Hh25, G25⟩ := V_b22
        obtain ⟨T26, h26, X26, e26, W26, st26⟩ := stC X24 hx hZ e24 Ar25 (j := (1 : Int32)) (inb_of S25 ⟨by decide, by decide⟩) (g := (mkF m 101 #[.val (.int p1), .val (.int p2), .val (.int ((p2 &&& (255 : Int32)).toUInt32.toUInt16.toUInt32.toInt32)), .val (.int ((((p2.toUInt32 >>> ((8 : Int32) &&& 31).toUInt32).toInt32) &&& (255 : Int32)).toUInt32.toUInt16.toUInt32.toInt32)), .val (.int ((((p2.toUInt32 >>> ((16 : Int32) &&& 31).toUInt32).toInt32) &&& (255 : Int32)).toUInt32.toUInt16.toUInt32.toInt32))] [(.int ((((p2.toUInt32 >>> ((8 : Int32) &&& 31).toUInt32).toInt32) &&& (255 : Int32)).toUInt32.toUInt16.toUInt32.toInt32)), (.int (1 : Int32)), (.ref b22), (.ref b22), (.ref b21), (.ref b21)])) rfl rfl (hb hby d2_101)
        refine GoH.st st26 ?_
        have V_b22 : Arv Z h26 b22 k22 .char (3 : Int32) [(.int (nar .char ((p2 &&& (255 : Int32)).toUInt32.toUInt16.toUInt32.toInt32))), (.int (nar .char ((((p2.toUInt32 >>> ((8 : Int32) &&& 31).toUInt32).toInt32) &&& (255 : Int32)).toUInt32.toUInt16.toUInt32.toInt32))), (.int (0 : Int32))] (.int (0 : Int32)) := Arv.set Ar25 q25 S25 M25 Hh25 G25 (fits_nar_char _) W26 1 rfl (Nat.le_of_ble_eq_true rfl)
        have N26 := Fr.snoc X26 N24 g_b22
        have E_b21 := E_b21.wr W26
        have F_coder_b21 := F_coder_b21.other W26 (Or.inl ne_b21_b22)
        have F_value_b21 := F_value_b21.other W26 (Or.inl ne_b21_b22)
        have Sf_b21 := Safe.wr W26 Sf_b22 HH Sf_b21
        have Sf'_b22 := Safe.wr W26 Sf_b22 HH Sf_b22
        have RR := RR.trans (CHr.wr W26 Sf_b22 HH)
        have HH := HH.wr W26 Sf_b22
        have Sf_b22 := Sf'_b22
        have hk := Nat.le_trans hk (Nat.le_of_eq W26.size.symm)
        have O := O.wr W26 g_b22
        have KK := KK.wr W26 (Or.inr sz_b22)
        show GoH _ _ _ _ _ _ _ _ _ _  T26 (mkF m 102 #[.val (.int p1), .val (.int p2), .val (.int ((p2 &&& (255 : Int32)).toUInt32.toUInt16.toUInt32.toInt32)), .val (.int ((((p2.toUInt32 >>> ((8 : Int32) &&& 31).toUInt32).toInt32) &&& (255 : Int32)).toUInt32.toUInt16.toUInt32.toInt32)), .val (.int ((((p2.toUInt32 >>> ((16 : Int32) &&& 31).toUInt32).toInt32) &&& (255 : Int32)).toUInt32.toUInt16.toUInt32.toInt32))] [(.ref b22), (.ref b21), (.ref b21)])
        refine GoH.st (fun t k => XS.dup X26.here hx rfl (hb hby d2_102) rfl rfl k) ?_
        show GoH _ _ _ _ _ _ _ _ _ _  T26 (mkF m 103 #[.val (.int p1), .val (.int p2), .val (.int ((p2 &&& (255 : Int32)).toUInt32.toUInt16.toUInt32.toInt32)), .val (.int ((((p2.toUInt32 >>> ((8 : Int32) &&& 31).toUInt32).toInt32) &&& (255 : Int32)).toUInt32.toUInt16.toUInt32.toInt32)), .val (.int ((((p2.toUInt32 >>> ((16 : Int32) &&& 31).toUInt32).toInt32) &&& (255 : Int32)).toUInt32.toUInt16.toUInt32.toInt32))] [(.ref b22), (.ref b22), (.ref b21), (.ref b21)])
        refine GoH.st (fun t k => XS.iconst X26.here hx rfl (hb hby d2_103) k) ?_
        show GoH _ _ _ _ _ _ _ _ _ _  T26 (mkF m 104 #[.val (.int p1), .val (.int p2), .val (.int ((p2 &&& (255 : Int32)).toUInt32.toUInt16.toUInt32.toInt32)), .val (.int ((((p2.toUInt32 >>> ((8 : Int32) &&& 31).toUInt32).toInt32) &&& (255 : Int32)).toUInt32.toUInt16.toUInt32.toInt32)), .val (.int ((((p2.toUInt32 >>> ((16 : Int32) &&& 31).toUInt32).toInt32) &&& (255 : Int32)).toUInt32.toUInt16.toUInt32.toInt32))] [(.int (2 : Int32)), (.ref b22), (.ref b22), (.ref b21), (.ref b21)])
        refine GoH.st (fun t k => XS.iload X26.here hx rfl (hb hby d2_104) rfl  k) ?_
        show GoH _ _ _ _ _ _ _ _ _ _  T26 (mkF m 106 #[.val (.int p1), .val (.int p2), .val (.int ((p2 &&& (255 : Int32)).toUInt32.toUInt16.toUInt32.toInt32)), .val (.int ((((p2.toUInt32 >>> ((8 : Int32) &&& 31).toUInt32).toInt32) &&& (255 : Int32)).toUInt32.toUInt16.toUInt32.toInt32)), .val (.int ((((p2.toUInt32 >>> ((16 : Int32) &&& 31).toUInt32).toInt32) &&& (255 : Int32)).toUInt32.toUInt16.toUInt32.toInt32))] [(.int ((((p2.toUInt32 >>> ((16 : Int32) &&& 31).toUInt32).toInt32) &&& (255 : Int32)).toUInt32.toUInt16.toUInt32.toInt32)), (.int (2 : Int32)), (.ref b22), (.ref b22), (.ref b21), (.ref b21)])
        obtain ⟨cl27, Ar27, q27, S27, M27, Hh27, G27⟩ := V_b22
        obtain ⟨T28, h28, X28, e28, W28, st28⟩ := stC X26 hx hZ e26 Ar27 (j := (2 : Int32)) (inb_of S27 ⟨by decide, by decide⟩) (g := (mkF m 106 #[.val (.int p1), .val (.int p2), .val (.int ((p2 &&& (255 : Int32)).toUInt32.toUInt16.toUInt32.toInt32)), .val (.int ((((p2.toUInt32 >>> ((8 : Int32) &&& 31).toUInt32).toInt32) &&& (255 : Int32)).toUInt32.toUInt16.toUInt32.toInt32)), .val (.int ((((p2.toUInt32 >>> ((16 : Int32) &&& 31).toUInt32).toInt32) &&& (255 : Int32)).toUInt32.toUInt16.toUInt32.toInt32))] [(.int ((((p2.toUInt32 >>> ((16 : Int32) &&& 31).toUInt32).toInt32) &&& (255 : Int32)).toUInt32.toUInt16.toUInt32.toInt32)), (.int (2 : Int32)), (.ref b22), (.ref b22), (.ref b21), (.ref b21)])) rfl rfl (hb hby d2_106)
        refine GoH.st st28 ?_
        have V_b22 : Arv Z h28 b22 k22 .char (3 : Int32) [(.int (nar .char ((p2 &&& (255 : Int32)).toUInt32.toUInt16.toUInt32.toInt32))), (.int (nar .char ((((p2.toUInt32 >>> ((8 : Int32) &&& 31).toUInt32).toInt32) &&& (255 : Int32)).toUInt32.toUInt16.toUInt32.toInt32))), (.int (nar .char ((((p2.toUInt32 >>> ((16 : Int32) &&& 31).toUInt32).toInt32) &&& (255 : Int32)).toUInt32.toUInt16.toUInt32.toInt32)))] (.int (0 : Int32)) := Arv.set Ar27 q27 S27 M27 Hh27 G27 (fits_nar_char _) W28 2 rfl (Nat.le_of_ble_eq_true rfl)
        have N28 := Fr.snoc X28 N26 g_b22
        have E_b21 := E_b21.wr W28
        have F_coder_b21 := F_coder_b21.other W28 (Or.inl ne_b21_b22)
        have F_value_b21 := F_value_b21.other W28 (Or.inl ne_b21_b22)
        have Sf_b21 := Safe.wr W28 Sf_b22 HH Sf_b21
        have Sf'_b22 := Safe.wr W28 Sf_b22 HH Sf_b22
        have RR := RR.trans (CHr.wr W28 Sf_b22 HH)
        have HH := HH.wr W28 Sf_b22
        have Sf_b22 := Sf'_b22
        have hk := Nat.le_trans hk (Nat.le_of_eq W28.size.symm)
        have O := O.wr W28 g_b22
        have KK := KK.wr W28 (Or.inr sz_b22)
        show GoH _ _ _ _ _ _ _ _ _ _  T28 (mkF m 107 #[.val (.int p1), .val (.int p2), .val (.int ((p2 &&& (255 : Int32)).toUInt32.toUInt16.toUInt32.toInt32)), .val (.int ((((p2.toUInt32 >>> ((8 : Int32) &&& 31).toUInt32).toInt32) &&& (255 : Int32)).toUInt32.toUInt16.toUInt32.toInt32)), .val (.int ((((p2.toUInt32 >>> ((16 : Int32) &&& 31).toUInt32).toInt32) &&& (255 : Int32)).toUInt32.toUInt16.toUInt32.toInt32))] [(.ref b22), (.ref b21), (.ref b21)])
        have hp29 : ∀ c ∈ ([(nar .char ((p2 &&& (255 : Int32)).toUInt32.toUInt16.toUInt32.toInt32)), (nar .char ((((p2.toUInt32 >>> ((8 : Int32) &&& 31).toUInt32).toInt32) &&& (255 : Int32)).toUInt32.toUInt16.toUInt32.toInt32)), (nar .char ((((p2.toUInt32 >>> ((16 : Int32) &&& 31).toUInt32).toInt32) &&& (255 : Int32)).toUInt32.toUInt16.toUInt32.toInt32))] : List Int32), ¬ c < 0 ∧ ¬ (255 : Int32) < c := (own_cons (P := fun c => ¬ c < 0 ∧ ¬ (255 : Int32) < c) (own_m255 _) (own_cons (P := fun c => ¬ c < 0 ∧ ¬ (255 : Int32) < c) (own_m255 _) (own_cons (P := fun c => ¬ c < 0 ∧ ¬ (255 : Int32) < c) (own_m255 _) own_nil)))
        obtain ⟨_, _, ⟨T30, L30, k30, n30⟩, -, X30, ⟨Lc30, hQ30, l30, y30, z30⟩, st30⟩ := X28.specialBack hx (y := (⟨"java/lang/String", "<init>", "([C)V"⟩ : MethodName)) rfl hown (mvT hZ (hw _ (List.mem_of_getElem? (i := 15) rfl))) (mvT hZ (hw _ (List.mem_of_getElem? (i := 16) rfl))) (mvT hZ (hw _ (List.mem_of_getElem? (i := 17) rfl))) (by decide) (StrChars.Road.backV (W := 1) hZ hws (kI := 4) (hw _ (List.mem_of_getElem? (i := 12) rfl)) (cs := ([(nar .char ((p2 &&& (255 : Int32)).toUInt32.toUInt16.toUInt32.toInt32)), (nar .char ((((p2.toUInt32 >>> ((8 : Int32) &&& 31).toUInt32).toInt32) &&& (255 : Int32)).toUInt32.toUInt16.toUInt32.toInt32)), (nar .char ((((p2.toUInt32 >>> ((16 : Int32) &&& 31).toUInt32).toInt32) &&& (255 : Int32)).toUInt32.toUInt16.toUInt32.toInt32))] : List Int32)) (bs := ([(nar .char ((p2 &&& (255 : Int32)).toUInt32.toUInt16.toUInt32.toInt32)), (nar .char ((((p2.toUInt32 >>> ((8 : Int32) &&& 31).toUInt32).toInt32) &&& (255 : Int32)).toUInt32.toUInt16.toUInt32.toInt32)), (nar .char ((((p2.toUInt32 >>> ((16 : Int32) &&& 31).toUInt32).toInt32) &&& (255 : Int32)).toUInt32.toUInt16.toUInt32.toInt32))] : List Int32).map (fun c => c.toInt8.toInt32)) (n := 3) g_b21 (own_le O) E_b21 F_value_b21 F_coder_b21 V_b22 (S_COMPACT.ext O.2) hcs rfl rfl (by decide) (by decide) hp29 rfl (by decide) (by decide)) (g := (mkF m 107 #[.val (.int p1), .val (.int p2), .val (.int ((p2 &&& (255 : Int32)).toUInt32.toUInt16.toUInt32.toInt32)), .val (.int ((((p2.toUInt32 >>> ((8 : Int32) &&& 31).toUInt32).toInt32) &&& (255 : Int32)).toUInt32.toUInt16.toUInt32.toInt32)), .val (.int ((((p2.toUInt32 >>> ((16 : Int32) &&& 31).toUInt32).toInt32) &&& (255 : Int32)).toUInt32.toUInt16.toUInt32.toInt32))] [(.ref b22), (.ref b21), (.ref b21)])) rfl (by rw [hml]; rfl) (Steps.refl _) (a := b21) (argsL := [(.ref b22)]) (rest := [(.ref b21)]) (lenOf pd___C_V rfl) rfl (by show 2 * 0 + _ ≤ _; exact Nat.le_of_eq rfl) (hb hby d2_107) (fun _ _ => ⟨rfl, e28, (by decide : 2 + 1 ≤ _), (by decide : 7 + 3 ≤ _)⟩)
        dsimp only [Pt.U, Pt.locs, Pt.cells, Pt.slots] at X30 l30 y30 z30 st30 hQ30
        subst l30 y30 z30
        obtain ⟨rfl, N30q, K30q, Eq30, Cq30, t30, kt30, gt30, lt30, nt30, Vq30, Aq30⟩ := hQ30
        have N30 := Fr.app N28 N30q
        refine GoH.tr st30 ?_
        have g_t30 : n0 ≤ t30 := Nat.le_trans (own_le O) lt30
        have Sf_t30 : Safe Z EL s.vm h28 t30 := Safe.new lt30
        have sz_t30 : h0.size ≤ t30 := Nat.le_trans KK.1 lt30
        have ne_b21_t30 : b21 ≠ t30 := Nat.ne_of_lt (Nat.lt_of_lt_of_le E_b21.lt lt30)
        have ne_b22_t30 : b22 ≠ t30 := Nat.ne_of_lt (Nat.lt_of_lt_of_le V_b22.lt lt30)
        have E_b21 := E_b21.keep K30q
        have V_b22 := V_b22.keep K30q (ninS (Ne.symm ne_b21_b22) nin0)
        have sfw30 := (sfS Sf_b21 sf0)
        have Sf_b21 := Safe.keep K30q sfw30 HH Sf_b21
        have Sf_b22 := Safe.keep K30q sfw30 HH Sf_b22
        have Sf_t30 := Safe.keep K30q sfw30 HH Sf_t30
        have RR := RR.trans (CHr.keep K30q sfw30 HH)
        have HH := HH.keep K30q sfw30
        have hk := Nat.le_trans hk K30q.1
        have O := O.keep K30q (allS g_b21 all0)
        have KK := KK.trans K30q (allS (Or.inr sz_b21) all0)
        have E_b21 := Eq30
        show GoH _ _ _ _ _ _ _ _ _ _  T30 (mkF m 110 #[.val (.int p1), .val (.int p2), .val (.int ((p2 &&& (255 : Int32)).toUInt32.toUInt16.toUInt32.toInt32)), .val (.int ((((p2.toUInt32 >>> ((8 : Int32) &&& 31).toUInt32).toInt32) &&& (255 : Int32)).toUInt32.toUInt16.toUInt32.toInt32)), .val (.int ((((p2.toUInt32 >>> ((16 : Int32) &&& 31).toUInt32).toInt32) &&& (255 : Int32)).toUInt32.toUInt16.toUInt32.toInt32))] [(.ref b21)])
        refine GoH.retR X30 hS hk rfl hZ hEL HH RR hlk hx Bd.returns rfl rfl rfl (hb hby d2_110) (by decide) (by decide) ?_
        show Q_rmD Z _ _ _ h0 n0 _ T30.heap _
        exact ⟨_, rfl, N30, own_ext0 KK⟩
def Q_rmC (Z : State) (a1 : Addr) (a2 : Addr) (x3 : Value) (q4 : UInt64) (h0 : Heap) (n0 : Nat) (v : Option Value) (h : Heap) (L : List Loc) : Prop := v = none ∧ Fr n0 L ∧ Keep h0 h [a1] ∧ Exa Z h a1 "com/example/nodewell/nodewell/store/ValueTest$Condition" ∧ Fld Z h a1 "com/example/nodewell/nodewell/store/ValueTest$Condition" "text" "Ljava/lang/String;" x3
set_option maxRecDepth 65536 in
set_option maxHeartbeats 40000000 in
theorem rmC (l : Launch) (Z : State) (a0 : Array Value) (hw : ∀ d ∈ tables_1, d.before a0 Z = true) (ws : List Jvm.Cond) (a1 : Addr) (a2 : Addr) (x3 : Value) (q4 : UInt64) (h0 : Heap) (n0 : Nat) (O : Old Z n0 h0) (E_a1 : Exa Z h0 a1 "com/example/nodewell/nodewell/store/ValueTest$Condition") (F_comparison_a1 : Fld Z h0 a1 "com/example/nodewell/nodewell/store/ValueTest$Condition" "comparison" "Lcom/example/nodewell/nodewell/store/ValueTest$Comparison;" .null) (F_text_a1 : Fld Z h0 a1 "com/example/nodewell/nodewell/store/ValueTest$Condition" "text" "Ljava/lang/String;" .null) (F_number_a1 : Fld Z h0 a1 "com/example/nodewell/nodewell/store/ValueTest$Condition" "number" "D" (.double 0)) (g_a1 : n0 ≤ a1) (ref_x3 : x3.isRef = true) :
    MetFree l (⟨"com/example/nodewell/nodewell/store/ValueTest$Condition", "<init>", "(Lcom/example/nodewell/nodewell/store/ValueTest$Comparison;Ljava/lang/String;D)V"⟩ : MethodName) (head1 (Jvm.Cond.code (⟨"com/example/nodewell/nodewell/store/ValueTest$Condition", "<init>", "(Lcom/example/nodewell/nodewell/store/ValueTest$Comparison;Ljava/lang/String;D)V"⟩ : MethodName) prog_114_method_1_code 5 none :: ws) ({ frames := 2, cells := 0, slots := 0, locals := 24 } : Room)) (fun a U => a = #[(.ref a1), (.ref a2), x3, (.double q4)] ∧ Z.Warmed39 U.vm ∧ U.heap = h0) (fun _ _ _ _ _ => True) (fun _ U o U' => ∃ v L, o = .returned v ∧ Q_rmC Z a1 a2 x3 q4 h0 n0 v U'.heap L ∧ FrameEnd U o U' L ({ frames := 2, cells := 0, slots := 0, locals := 24 } : Room).cells ({ frames := 2, cells := 0, slots := 0, locals := 24 } : Room).slots) := by
  refine MetFree.of_bodySF (plainFor_of_name pn_9) hisR ?_
  intro p e s m args below meth c s₁ Bd hml0 hP hK
  obtain ⟨rfl, hZ, hh⟩ := hP
  have hx := Bd.exec
  have hby := Bd.bytes
  have hml : c.maxLocals = 5 := hml0
  have hown : s.vm.findClass "com/example/nodewell/nodewell/store/ValueTest$Condition" = some m.cls := findClass_of_methodNamed Bd.named
  have hnm := (name_of_methodNamed Bd.named Bd.method).1
  have hlk : meth.locks = false := BodyLoose.notSynchronized Bd
  have X0 : Stand p l e ({ frames := 2, cells := 0, slots := 0, locals := 24 } : Room) s m #[(.ref a1), (.ref a2), x3, (.double q4)] below meth c s₁ [] 0 0 := Stand.of_body Bd
  have e0 : s₁.heap = h0 := by rw [← hh, Bd.state]; rfl
  have N0 := Fr.nil n0
  have KK : Keep h0 h0 [a1] := Keep.refl h0 _
  show Go p e below s ({ frames := 2, cells := 0, slots := 0, locals := 24 } : Room).cells ({ frames := 2, cells := 0, slots := 0, locals := 24 } : Room).slots (Q_rmC Z a1 a2 x3 q4 h0 n0) s₁ (entryFrame m #[(.ref a1), (.ref a2), x3, (.double q4)] 5)
  refine Go.eq (ef_rmC m a1 a2 x3 q4 ref_x3) ?_
  have nar_x3 : narrow (.object "java/lang/String") x3 = x3 := own_narrow ref_x3
  have fit_x3 : fits (.object "java/lang/String") x3 = true := own_fits ref_x3
  show Go _ _ _ _ _ _ _  s₁ (mkF m 0 #[.val (.ref a1), .val (.ref a2), .val x3, .val (.double q4), .second] [])
  refine Go.st (fun t k => XS.aloadN X0.here hx rfl (hb hby d9_0) rfl rfl  k) ?_
  show Go _ _ _ _ _ _ _  s₁ (mkF m 1 #[.val (.ref a1), .val (.ref a2), .val x3, .val (.double q4), .second] [(.ref a1)])
  obtain ⟨_, _, ⟨T1, L1, k1, n1⟩, -, X1, ⟨Lc1, hQ1, l1, y1, z1⟩, st1⟩ := X0.specialBack hx (y := (⟨"java/lang/Record", "<init>", "()V"⟩ : MethodName)) rfl hown (mvT hZ (hw _ (List.mem_of_getElem? (i := 47) rfl))) (mvT hZ (hw _ (List.mem_of_getElem? (i := 48) rfl))) (mvT hZ (hw _ (List.mem_of_getElem? (i := 51) rfl))) (by decide) (backOf (W := 0) (rmR l Z a0 hw [] a1 h0 n0 O) hZ (hw _ (List.mem_of_getElem? (i := 51) rfl)) (hw _ (List.mem_of_getElem? (i := 50) rfl)) (by decide) (by decide)) (g := (mkF m 1 #[.val (.ref a1), .val (.ref a2), .val x3, .val (.double q4), .second] [(.ref a1)])) rfl (by rw [hml]; rfl) (Steps.refl _) (a := a1) (argsL := []) (rest := []) (lenOf pd___V rfl) rfl (by show 2 * 0 + _ ≤ _; exact Nat.le_of_eq rfl) (hb hby d9_1) (fun _ _ => ⟨rfl, e0, (by decide : 0 + 0 ≤ _), (by decide : 0 + 0 ≤ _)⟩)
  dsimp only [Pt.U, Pt.locs, Pt.cells, Pt.slots] at X1 l1 y1 z1 st1 hQ1
  subst l1 y1 z1
  obtain ⟨rfl, N1q, e1q⟩ := hQ1
  have N1 := Fr.app N0 N1q
  refine Go.tr st1 ?_
  show Go _ _ _ _ _ _ _  T1 (mkF m 4 #[.val (.ref a1), .val (.ref a2), .val x3, .val (.double q4), .second] [])
  refine Go.st (fun t k => XS.aloadN X1.here hx rfl (hb hby d9_4) rfl rfl  k) ?_
  show Go _ _ _ _ _ _ _  T1 (mkF m 5 #[.val (.ref a1), .val (.ref a2), .val x3, .val (.double q4), .second] [(.ref a1)])
  refine Go.st (fun t k => XS.aloadN X1.here hx rfl (hb hby d9_5) rfl rfl  k) ?_
  show Go _ _ _ _ _ _ _  T1 (mkF m 6 #[.val (.ref a1), .val (.ref a2), .val x3, .val (.double q4), .second] [(.ref a2), (.ref a1)])
  obtain ⟨T2, h2, X2, e2, W2, st2⟩ := putF X1 hx hZ hown (host := "") (Or.inl (hw _ (List.mem_of_getElem? (i := 53) rfl))) Via.refl e1q F_comparison_a1 E_a1 (Or.inr ⟨(hw _ (List.mem_of_getElem? (i := 54) rfl)), rfl, hnm⟩) (hw _ (List.mem_of_getElem? (i := 42) rfl)) (ty := (.object "com/example/nodewell/nodewell/store/ValueTest$Comparison")) (by decide) rfl rfl (g := (mkF m 6 #[.val (.ref a1), .val (.ref a2), .val x3, .val (.double q4), .second] [(.ref a2), (.ref a1)])) rfl rfl (hb hby d9_6)
  refine Go.st st2 ?_
  have F_comparison_a1 : Fld Z h2 a1 "com/example/nodewell/nodewell/store/ValueTest$Condition" "comparison" "Lcom/example/nodewell/nodewell/store/ValueTest$Comparison;" (.ref a2) := F_comparison_a1.same W2
  have N2 := Fr.snoc X2 N1 g_a1
  have E_a1 := E_a1.wr W2
  have F_text_a1 := F_text_a1.other W2 (Or.inr (slot_ne (Or.inr (hw _ (List.mem_of_getElem? (i := 56) rfl))) (Or.inr (hw _ (List.mem_of_getElem? (i := 54) rfl))) (by decide) (t := (.object "java/lang/String")) (t' := (.object "com/example/nodewell/nodewell/store/ValueTest$Comparison")) (by decide) (by decide)))
  have F_number_a1 := F_number_a1.other W2 (Or.inr (slot_ne (Or.inr (hw _ (List.mem_of_getElem? (i := 58) rfl))) (Or.inr (hw _ (List.mem_of_getElem? (i := 54) rfl))) (by decide) (t := .double) (t' := (.object "com/example/nodewell/nodewell/store/ValueTest$Comparison")) (by decide) (by decide)))
  have O := O.wr W2 g_a1
  have KK := KK.wr W2 (Or.inl (List.mem_of_getElem? (i := 0) rfl))
  show Go _ _ _ _ _ _ _  T2 (mkF m 9 #[.val (.ref a1), .val (.ref a2), .val x3, .val (.double q4), .second] [])
  refine Go.st (fun t k => XS.aloadN X2.here hx rfl (hb hby d9_9) rfl rfl  k) ?_
  show Go _ _ _ _ _ _ _  T2 (mkF m 10 #[.val (.ref a1), .val (.ref a2), .val x3, .val (.double q4), .second] [(.ref a1)])
  refine Go.st (fun t k => XS.aloadN X2.here hx rfl (hb hby d9_10) rfl ref_x3  k) ?_
  show Go _ _ _ _ _ _ _  T2 (mkF m 11 #[.val (.ref a1), .val (.ref a2), .val x3, .val (.double q4), .second] [x3, (.ref a1)])
  obtain ⟨T3, h3, X3, e3, W3, st3⟩ := putF X2 hx hZ hown (host := "") (Or.inl (hw _ (List.mem_of_getElem? (i := 55) rfl))) Via.refl e2 F_text_a1 E_a1 (Or.inr ⟨(hw _ (List.mem_of_getElem? (i := 56) rfl)), rfl, hnm⟩) (hw _ (List.mem_of_getElem? (i := 42) rfl)) (ty := (.object "java/lang/String")) (by decide) nar_x3 fit_x3 (g := (mkF m 11 #[.val (.ref a1), .val (.ref a2), .val x3, .val (.double q4), .second] [x3, (.ref a1)])) rfl rfl (hb hby d9_11)
  refine Go.st st3 ?_
  have F_text_a1 : Fld Z h3 a1 "com/example/nodewell/nodewell/store/ValueTest$Condition" "text" "Ljava/lang/String;" x3 := F_text_a1.same W3
  have N3 := Fr.snoc X3 N2 g_a1
  have E_a1 := E_a1.wr W3
  have F_number_a1 := F_number_a1.other W3 (Or.inr (slot_ne (Or.inr (hw _ (List.mem_of_getElem? (i := 58) rfl))) (Or.inr (hw _ (List.mem_of_getElem? (i := 56) rfl))) (by decide) (t := .double) (t' := (.object "java/lang/String")) (by decide) (by decide)))
  have O := O.wr W3 g_a1
  have KK := KK.wr W3 (Or.inl (List.mem_of_getElem? (i := 0) rfl))
  show Go _ _ _ _ _ _ _  T3 (mkF m 14 #[.val (.ref a1), .val (.ref a2), .val x3, .val (.double q4), .second] [])
  refine Go.st (fun t k => XS.aloadN X3.here hx rfl (hb hby d9_14) rfl rfl  k) ?_
  show Go _ _ _ _ _ _ _  T3 (mkF m 15 #[.val (.ref a1), .val (.ref a2), .val x3, .val (.double q4), .second] [(.ref a1)])
  refine Go.st (fun t k => XS.dloadN X3.here hx rfl (hb hby d9_15) rfl k) ?_
  show Go _ _ _ _ _ _ _  T3 (mkF m 16 #[.val (.ref a1), .val (.ref a2), .val x3, .val (.double q4), .second] [(.double q4), (.ref a1)])
  obtain ⟨T4, h4, X4, e4, W4, st4⟩ := putF X3 hx hZ hown (host := "") (Or.inl (hw _ (List.mem_of_getElem? (i := 57) rfl))) Via.refl e3 F_number_a1 E_a1 (Or.inr ⟨(hw _ (List.mem_of_getElem? (i := 58) rfl)), rfl, hnm⟩) (hw _ (List.mem_of_getElem? (i := 42) rfl)) (ty := .double) (by decide) rfl rfl (g := (mkF m 16 #[.val (.ref a1), .val (.ref a2), .val x3, .val (.double q4), .second] [(.double q4), (.ref a1)])) rfl rfl (hb hby d9_16)
  refine Go.st st4 ?_
  have F_number_a1 : Fld Z h4 a1 "com/example/nodewell/nodewell/store/ValueTest$Condition" "number" "D" (.double q4) := F_number_a1.same W4
  have N4 := Fr.snoc X4 N3 g_a1
  have E_a1 := E_a1.wr W4
  have F_text_a1 := F_text_a1.other W4 (Or.inr (slot_ne (Or.inr (hw _ (List.mem_of_getElem? (i := 56) rfl))) (Or.inr (hw _ (List.mem_of_getElem? (i := 58) rfl))) (by decide) (t := (.object "java/lang/String")) (t' := .double) (by decide) (by decide)))
  have O := O.wr W4 g_a1
  have KK := KK.wr W4 (Or.inl (List.mem_of_getElem? (i := 0) rfl))
  show Go _ _ _ _ _ _ _  T4 (mkF m 19 #[.val (.ref a1), .val (.ref a2), .val x3, .val (.double q4), .second] [])
  refine Go.ret0 X4 hlk hx Bd.returns (hb hby d9_19) (by decide) (by decide) ?_
  show Q_rmC Z _ _ _ _ h0 n0 _ T4.heap _
  rw [e4]
  exact ⟨rfl, N4, KK, E_a1, F_text_a1⟩
def Q_rmO1 (Z : State) (a1 : Addr) (a2 : Addr) (h0 : Heap) (n0 : Nat) (v : Option Value) (h : Heap) (L : List Loc) : Prop := ∃ b : Addr, v = some (.ref b) ∧ Fr n0 L ∧ Ext h0 h ∧ h0.size ≤ b ∧ Exa Z h b "com/example/nodewell/nodewell/store/ValueTest$Condition" ∧ Fld Z h b "com/example/nodewell/nodewell/store/ValueTest$Condition" "text" "Ljava/lang/String;" (.ref a2)
set_option maxRecDepth 65536 in
set_option maxHeartbeats 40000000 in
theorem rmO1 (l : Launch) (Z : State) (a0 : Array Value) (hw : ∀ d ∈ tables_1, d.before a0 Z = true) (ws : List Jvm.Cond) (a1 : Addr) (a2 : Addr) (h0 : Heap) (n0 : Nat) (O : Old Z n0 h0) :
    MetFree l (⟨"com/example/nodewell/nodewell/store/ValueTest$Condition", "of", "(Lcom/example/nodewell/nodewell/store/ValueTest$Comparison;Ljava/lang/String;)Lcom/example/nodewell/nodewell/store/ValueTest$Condition;"⟩ : MethodName) (head1 (Jvm.Cond.code (⟨"com/example/nodewell/nodewell/store/ValueTest$Condition", "of", "(Lcom/example/nodewell/nodewell/store/ValueTest$Comparison;Ljava/lang/String;)Lcom/example/nodewell/nodewell/store/ValueTest$Condition;"⟩ : MethodName) prog_114_method_2_code 2 (some (.object "com/example/nodewell/nodewell/store/ValueTest$Condition")) :: ws) ({ frames := 3, cells := 1, slots := 3, locals := 41 } : Room)) (fun a U => a = #[(.ref a1), (.ref a2)] ∧ Z.Warmed39 U.vm ∧ U.heap = h0) (fun _ _ _ _ _ => True) (fun _ U o U' => ∃ v L, o = .returned v ∧ Q_rmO1 Z a1 a2 h0 n0 v U'.heap L ∧ FrameEnd U o U' L ({ frames := 3, cells := 1, slots := 3, locals := 41 } : Room).cells ({ frames := 3, cells := 1, slots := 3, locals := 41 } : Room).slots) := by
  refine MetFree.of_bodySF (plainFor_of_name pn_11) hisR ?_
  intro p e s m args below meth c s₁ Bd hml0 hP hK
  obtain ⟨rfl, hZ, hh⟩ := hP
  have hx := Bd.exec
  have hby := Bd.bytes
  have hml : c.maxLocals = 2 := hml0
  have hown : s.vm.findClass "com/example/nodewell/nodewell/store/ValueTest$Condition" = some m.cls := findClass_of_methodNamed Bd.named
  have hnm := (name_of_methodNamed Bd.named Bd.method).1
  have hlk : meth.locks = false := BodyLoose.notSynchronized Bd
  have X0 : Stand p l e ({ frames := 3, cells := 1, slots := 3, locals := 41 } : Room) s m #[(.ref a1), (.ref a2)] below meth c s₁ [] 0 0 := Stand.of_body Bd
  have e0 : s₁.heap = h0 := by rw [← hh, Bd.state]; rfl
  have N0 := Fr.nil n0
  have KK : Keep h0 h0 [] := Keep.refl h0 _
  show Go p e below s ({ frames := 3, cells := 1, slots := 3, locals := 41 } : Room).cells ({ frames := 3, cells := 1, slots := 3, locals := 41 } : Room).slots (Q_rmO1 Z a1 a2 h0 n0) s₁ (entryFrame m #[(.ref a1), (.ref a2)] 2)
  refine Go.eq (ef_rmO1 m a1 a2) ?_
  show Go _ _ _ _ _ _ _  s₁ (mkF m 0 #[.val (.ref a1), .val (.ref a2)] [])
  obtain ⟨T1, h1, X1, e1, E1, A1, D1, -, st1⟩ := newO X0 hx hZ hown (hw _ (List.mem_of_getElem? (i := 62) rfl)) (hw _ (List.mem_of_getElem? (i := 42) rfl)) (hw _ (List.mem_of_getElem? (i := 43) rfl)) e0 (g := (mkF m 0 #[.val (.ref a1), .val (.ref a2)] [])) rfl (hb hby d11_0) (by decide) (by decide)
  obtain ⟨b1, g1⟩ : ∃ z, z = h0.size := ⟨_, rfl⟩
  rw [← g1] at A1 D1 st1
  refine Go.st st1 ?_
  have g_b1 : n0 ≤ b1 := by rw [g1]; exact own_le O
  have sz_b1 : h0.size ≤ b1 := by rw [g1]; exact KK.1
  have O := O.ext E1
  have KK := KK.ext E1
  have E_b1 := A1
  have F_comparison_b1 : Fld Z h1 b1 "com/example/nodewell/nodewell/store/ValueTest$Condition" "comparison" "Lcom/example/nodewell/nodewell/store/ValueTest$Comparison;" .null := D1 (Or.inr (hw _ (List.mem_of_getElem? (i := 54) rfl))) (ty := (.object "com/example/nodewell/nodewell/store/ValueTest$Comparison")) (by decide)
  have F_text_b1 : Fld Z h1 b1 "com/example/nodewell/nodewell/store/ValueTest$Condition" "text" "Ljava/lang/String;" .null := D1 (Or.inr (hw _ (List.mem_of_getElem? (i := 56) rfl))) (ty := (.object "java/lang/String")) (by decide)
  have F_number_b1 : Fld Z h1 b1 "com/example/nodewell/nodewell/store/ValueTest$Condition" "number" "D" (defaultValue .double) := D1 (Or.inr (hw _ (List.mem_of_getElem? (i := 58) rfl))) (ty := .double) (by decide)
  show Go _ _ _ _ _ _ _  T1 (mkF m 3 #[.val (.ref a1), .val (.ref a2)] [(.ref b1)])
  refine Go.st (fun t k => XS.dup X1.here hx rfl (hb hby d11_3) rfl rfl k) ?_
  show Go _ _ _ _ _ _ _  T1 (mkF m 4 #[.val (.ref a1), .val (.ref a2)] [(.ref b1), (.ref b1)])
  refine Go.st (fun t k => XS.aloadN X1.here hx rfl (hb hby d11_4) rfl rfl  k) ?_
  show Go _ _ _ _ _ _ _  T1 (mkF m 5 #[.val (.ref a1), .val (.ref a2)] [(.ref a1), (.ref b1), (.ref b1)])
  refine Go.st (fun t k => XS.aloadN X1.here hx rfl (hb hby d11_5) rfl rfl  k) ?_
  show Go _ _ _ _ _ _ _  T1 (mkF m 6 #[.val (.ref a1), .val (.ref a2)] [(.ref a2), (.ref a1), (.ref b1), (.ref b1)])
  refine Go.st (X1.ldc2DoubleC hx hown (mvT hZ (hw _ (List.mem_of_getElem? (i := 63) rfl))) (g := (mkF m 6 #[.val (.ref a1), .val (.ref a2)] [(.ref a2), (.ref a1), (.ref b1), (.ref b1)])) rfl (hb hby d11_6)) ?_
  show Go _ _ _ _ _ _ _  T1 (mkF m 9 #[.val (.ref a1), .val (.ref a2)] [(.double (9221120237041090560 : UInt64)), (.ref a2), (.ref a1), (.ref b1), (.ref b1)])
  obtain ⟨_, _, ⟨T2, L2, k2, n2⟩, -, X2, ⟨Lc2, hQ2, l2, y2, z2⟩, st2⟩ := X1.specialBack hx (y := (⟨"com/example/nodewell/nodewell/store/ValueTest$Condition", "<init>", "(Lcom/example/nodewell/nodewell/store/ValueTest$Comparison;Ljava/lang/String;D)V"⟩ : MethodName)) rfl hown (mvT hZ (hw _ (List.mem_of_getElem? (i := 64) rfl))) (mvT hZ (hw _ (List.mem_of_getElem? (i := 45) rfl))) (mvT hZ (hw _ (List.mem_of_getElem? (i := 46) rfl))) (by decide) (backOf (W := 1) (rmC l Z a0 hw [] b1 a1 (.ref a2) (9221120237041090560 : UInt64) h1 n0 O E_b1 F_comparison_b1 F_text_b1 F_number_b1 g_b1 rfl) hZ (hw _ (List.mem_of_getElem? (i := 46) rfl)) (hw _ (List.mem_of_getElem? (i := 43) rfl)) (by decide) (by decide)) (g := (mkF m 9 #[.val (.ref a1), .val (.ref a2)] [(.double (9221120237041090560 : UInt64)), (.ref a2), (.ref a1), (.ref b1), (.ref b1)])) rfl (by rw [hml]; rfl) (Steps.refl _) (a := b1) (argsL := [(.ref a1), (.ref a2), (.double (9221120237041090560 : UInt64))]) (rest := [(.ref b1)]) (lenOf pd__Lcom_example_nodewell_nodewell_store_ValueTest_Comparison_Ljava_lang_String_D_V rfl) rfl (by show 2 * 0 + _ ≤ _; exact Nat.le_of_eq rfl) (hb hby d11_9) (fun _ _ => ⟨rfl, e1, (by decide : 1 + 0 ≤ _), (by decide : 3 + 0 ≤ _)⟩)
  dsimp only [Pt.U, Pt.locs, Pt.cells, Pt.slots] at X2 l2 y2 z2 st2 hQ2
  subst l2 y2 z2
  obtain ⟨rfl, N2q, K2q, Eq2, Ft2⟩ := hQ2
  have N2 := Fr.app N0 N2q
  refine Go.tr st2 ?_
  have E_b1 := E_b1.keep K2q
  have O := O.keep K2q (allS g_b1 all0)
  have KK := KK.trans K2q (allS (Or.inr sz_b1) all0)
  have E_b1 := Eq2
  show Go _ _ _ _ _ _ _  T2 (mkF m 12 #[.val (.ref a1), .val (.ref a2)] [(.ref b1)])
  refine Go.retR X2 hlk hx Bd.returns rfl rfl rfl (hb hby d11_12) (by decide) (by decide) ?_
  show Q_rmO1 Z _ _ h0 n0 _ T2.heap _
  exact ⟨_, rfl, N2, own_ext0 KK, sz_b1, E_b1, Ft2⟩
def Q_rmO2 (Z : State) (a1 : Addr) (q2 : UInt64) (h0 : Heap) (n0 : Nat) (v : Option Value) (h : Heap) (L : List Loc) : Prop := ∃ b : Addr, v = some (.ref b) ∧ Fr n0 L ∧ Ext h0 h ∧ h0.size ≤ b ∧ Exa Z h b "com/example/nodewell/nodewell/store/ValueTest$Condition" ∧ Fld Z h b "com/example/nodewell/nodewell/store/ValueTest$Condition" "text" "Ljava/lang/String;" .null
set_option maxRecDepth 65536 in
set_option maxHeartbeats 40000000 in
theorem rmO2 (l : Launch) (Z : State) (a0 : Array Value) (hw : ∀ d ∈ tables_1, d.before a0 Z = true) (ws : List Jvm.Cond) (a1 : Addr) (q2 : UInt64) (h0 : Heap) (n0 : Nat) (O : Old Z n0 h0) :
    MetFree l (⟨"com/example/nodewell/nodewell/store/ValueTest$Condition", "of", "(Lcom/example/nodewell/nodewell/store/ValueTest$Comparison;D)Lcom/example/nodewell/nodewell/store/ValueTest$Condition;"⟩ : MethodName) (head1 (Jvm.Cond.code (⟨"com/example/nodewell/nodewell/store/ValueTest$Condition", "of", "(Lcom/example/nodewell/nodewell/store/ValueTest$Comparison;D)Lcom/example/nodewell/nodewell/store/ValueTest$Condition;"⟩ : MethodName) prog_114_method_3_code 3 (some (.object "com/example/nodewell/nodewell/store/ValueTest$Condition")) :: ws) ({ frames := 3, cells := 1, slots := 3, locals := 41 } : Room)) (fun a U => a = #[(.ref a1), (.double q2)] ∧ Z.Warmed39 U.vm ∧ U.heap = h0) (fun _ _ _ _ _ => True) (fun _ U o U' => ∃ v L, o = .returned v ∧ Q_rmO2 Z a1 q2 h0 n0 v U'.heap L ∧ FrameEnd U o U' L ({ frames := 3, cells := 1, slots := 3, locals := 41 } : Room).cells ({ frames := 3, cells := 1, slots := 3, locals := 41 } : Room).slots) := by
  refine MetFree.of_bodySF (plainFor_of_name pn_12) hisR ?_
  intro p e s m args below meth c s₁ Bd hml0 hP hK
  obtain ⟨rfl, hZ, hh⟩ := hP
  have hx := Bd.exec
  have hby := Bd.bytes
  have hml : c.maxLocals = 3 := hml0
  have hown : s.vm.findClass "com/example/nodewell/nodewell/store/ValueTest$Condition" = some m.cls := findClass_of_methodNamed Bd.named
  have hnm := (name_of_methodNamed Bd.named Bd.method).1
  have hlk : meth.locks = false := BodyLoose.notSynchronized Bd
  have X0 : Stand p l e ({ frames := 3, cells := 1, slots := 3, locals := 41 } : Room) s m #[(.ref a1), (.double q2)] below meth c s₁ [] 0 0 := Stand.of_body Bd
  have e0 : s₁.heap = h0 := by rw [← hh, Bd.state]; rfl
  have N0 := Fr.nil n0
  have KK : Keep h0 h0 [] := Keep.refl h0 _
  show Go p e below s ({ frames := 3, cells := 1, slots := 3, locals := 41 } : Room).cells ({ frames := 3, cells := 1, slots := 3, locals := 41 } : Room).slots (Q_rmO2 Z a1 q2 h0 n0) s₁ (entryFrame m #[(.ref a1), (.double q2)] 3)
  refine Go.eq (ef_rmO2 m a1 q2) ?_
  show Go _ _ _ _ _ _ _  s₁ (mkF m 0 #[.val (.ref a1), .val (.double q2), .second] [])
  obtain ⟨T1, h1, X1, e1, E1, A1, D1, -, st1⟩ := newO X0 hx hZ hown (hw _ (List.mem_of_getElem? (i := 62) rfl)) (hw _ (List.mem_of_getElem? (i := 42) rfl)) (hw _ (List.mem_of_getElem? (i := 43) rfl)) e0 (g := (mkF m 0 #[.val (.ref a1), .val (.double q2), .second] [])) rfl (hb hby d12_0) (by decide) (by decide)
  obtain ⟨b1, g1⟩ : ∃ z, z = h0.size := ⟨_, rfl⟩
  rw [← g1] at A1 D1 st1
  refine Go.st st1 ?_
  have g_b1 : n0 ≤ b1 := by rw [g1]; exact own_le O
  have sz_b1 : h0.size ≤ b1 := by rw [g1]; exact KK.1
  have O := O.ext E1
  have KK := KK.ext E1
  have E_b1 := A1
  have F_comparison_b1 : Fld Z h1 b1 "com/example/nodewell/nodewell/store/ValueTest$Condition" "comparison" "Lcom/example/nodewell/nodewell/store/ValueTest$Comparison;" .null := D1 (Or.inr (hw _ (List.mem_of_getElem? (i := 54) rfl))) (ty := (.object "com/example/nodewell/nodewell/store/ValueTest$Comparison")) (by decide)
  have F_text_b1 : Fld Z h1 b1 "com/example/nodewell/nodewell/store/ValueTest$Condition" "text" "Ljava/lang/String;" .null := D1 (Or.inr (hw _ (List.mem_of_getElem? (i := 56) rfl))) (ty := (.object "java/lang/String")) (by decide)
  have F_number_b1 : Fld Z h1 b1 "com/example/nodewell/nodewell/store/ValueTest$Condition" "number" "D" (defaultValue .double) := D1 (Or.inr (hw _ (List.mem_of_getElem? (i := 58) rfl))) (ty := .double) (by decide)
  show Go _ _ _ _ _ _ _  T1 (mkF m 3 #[.val (.ref a1), .val (.double q2), .second] [(.ref b1)])
  refine Go.st (fun t k => XS.dup X1.here hx rfl (hb hby d12_3) rfl rfl k) ?_
  show Go _ _ _ _ _ _ _  T1 (mkF m 4 #[.val (.ref a1), .val (.double q2), .second] [(.ref b1), (.ref b1)])
  refine Go.st (fun t k => XS.aloadN X1.here hx rfl (hb hby d12_4) rfl rfl  k) ?_
  show Go _ _ _ _ _ _ _  T1 (mkF m 5 #[.val (.ref a1), .val (.double q2), .second] [(.ref a1), (.ref b1), (.ref b1)])
  refine Go.st (fun t k => XS.aconstNull X1.here hx rfl (hb hby d12_5) k) ?_
  show Go _ _ _ _ _ _ _  T1 (mkF m 6 #[.val (.ref a1), .val (.double q2), .second] [.null, (.ref a1), (.ref b1), (.ref b1)])
  refine Go.st (fun t k => XS.dloadN X1.here hx rfl (hb hby d12_6) rfl k) ?_
  show Go _ _ _ _ _ _ _  T1 (mkF m 7 #[.val (.ref a1), .val (.double q2), .second] [(.double q2), .null, (.ref a1), (.ref b1), (.ref b1)])
  obtain ⟨_, _, ⟨T2, L2, k2, n2⟩, -, X2, ⟨Lc2, hQ2, l2, y2, z2⟩, st2⟩ := X1.specialBack hx (y := (⟨"com/example/nodewell/nodewell/store/ValueTest$Condition", "<init>", "(Lcom/example/nodewell/nodewell/store/ValueTest$Comparison;Ljava/lang/String;D)V"⟩ : MethodName)) rfl hown (mvT hZ (hw _ (List.mem_of_getElem? (i := 64) rfl))) (mvT hZ (hw _ (List.mem_of_getElem? (i := 45) rfl))) (mvT hZ (hw _ (List.mem_of_getElem? (i := 46) rfl))) (by decide) (backOf (W := 1) (rmC l Z a0 hw [] b1 a1 .null q2 h1 n0 O E_b1 F_comparison_b1 F_text_b1 F_number_b1 g_b1 rfl) hZ (hw _ (List.mem_of_getElem? (i := 46) rfl)) (hw _ (List.mem_of_getElem? (i := 43) rfl)) (by decide) (by decide)) (g := (mkF m 7 #[.val (.ref a1), .val (.double q2), .second] [(.double q2), .null, (.ref a1), (.ref b1), (.ref b1)])) rfl (by rw [hml]; rfl) (Steps.refl _) (a := b1) (argsL := [(.ref a1), .null, (.double q2)]) (rest := [(.ref b1)]) (lenOf pd__Lcom_example_nodewell_nodewell_store_ValueTest_Comparison_Ljava_lang_String_D_V rfl) rfl (by show 2 * 0 + _ ≤ _; exact Nat.le_of_eq rfl) (hb hby d12_7) (fun _ _ => ⟨rfl, e1, (by decide : 1 + 0 ≤ _), (by decide : 3 + 0 ≤ _)⟩)
  dsimp only [Pt.U, Pt.locs, Pt.cells, Pt.slots] at X2 l2 y2 z2 st2 hQ2
  subst l2 y2 z2
  obtain ⟨rfl, N2q, K2q, Eq2, Ft2⟩ := hQ2
  have N2 := Fr.app N0 N2q
  refine Go.tr st2 ?_
  have E_b1 := E_b1.keep K2q
  have O := O.keep K2q (allS g_b1 all0)
  have KK := KK.trans K2q (allS (Or.inr sz_b1) all0)
  have E_b1 := Eq2
  show Go _ _ _ _ _ _ _  T2 (mkF m 10 #[.val (.ref a1), .val (.double q2), .second] [(.ref b1)])
  refine Go.retR X2 hlk hx Bd.returns rfl rfl rfl (hb hby d12_10) (by decide) (by decide) ?_
  show Q_rmO2 Z _ _ h0 n0 _ T2.heap _
  exact ⟨_, rfl, N2, own_ext0 KK, sz_b1, E_b1, Ft2⟩
def Q_rmN (Z : State) (a1 : Addr) (xt : Value) (h0 : Heap) (n0 : Nat) (v : Option Value) (h : Heap) (L : List Loc) : Prop := v = some (.int (if xt = .null then 1 else 0)) ∧ Fr n0 L ∧ h = h0
set_option maxRecDepth 65536 in
set_option maxHeartbeats 40000000 in
theorem rmN (l : Launch) (Z : State) (a0 : Array Value) (hw : ∀ d ∈ tables_1, d.before a0 Z = true) (ws : List Jvm.Cond) (a1 : Addr) (xt : Value) (h0 : Heap) (n0 : Nat) (O : Old Z n0 h0) (FT : Fld Z h0 a1 "com/example/nodewell/nodewell/store/ValueTest$Condition" "text" "Ljava/lang/String;" xt) (ref_xt : xt.isRef = true) :
    MetFree l (⟨"com/example/nodewell/nodewell/store/ValueTest$Condition", "isNumeric", "()Z"⟩ : MethodName) (head1 (Jvm.Cond.code (⟨"com/example/nodewell/nodewell/store/ValueTest$Condition", "isNumeric", "()Z"⟩ : MethodName) prog_114_method_4_code 1 (some .boolean) :: ws) ({ frames := 0, cells := 0, slots := 0, locals := 0 } : Room)) (fun a U => a = #[(.ref a1)] ∧ Z.Warmed39 U.vm ∧ U.heap = h0) (fun _ _ _ _ _ => True) (fun _ U o U' => ∃ v L, o = .returned v ∧ Q_rmN Z a1 xt h0 n0 v U'.heap L ∧ FrameEnd U o U' L ({ frames := 0, cells := 0, slots := 0, locals := 0 } : Room).cells ({ frames := 0, cells := 0, slots := 0, locals := 0 } : Room).slots) := by
  refine MetFree.of_bodySF (plainFor_of_name pn_13) hisR ?_
  intro p e s m args below meth c s₁ Bd hml0 hP hK
  obtain ⟨rfl, hZ, hh⟩ := hP
  have hx := Bd.exec
  have hby := Bd.bytes
  have hml : c.maxLocals = 1 := hml0
  have hown : s.vm.findClass "com/example/nodewell/nodewell/store/ValueTest$Condition" = some m.cls := findClass_of_methodNamed Bd.named
  have hnm := (name_of_methodNamed Bd.named Bd.method).1
  have hlk : meth.locks = false := BodyLoose.notSynchronized Bd
  have X0 : Stand p l e ({ frames := 0, cells := 0, slots := 0, locals := 0 } : Room) s m #[(.ref a1)] below meth c s₁ [] 0 0 := Stand.of_body Bd
  have e0 : s₁.heap = h0 := by rw [← hh, Bd.state]; rfl
  have N0 := Fr.nil n0
  show Go p e below s ({ frames := 0, cells := 0, slots := 0, locals := 0 } : Room).cells ({ frames := 0, cells := 0, slots := 0, locals := 0 } : Room).slots (Q_rmN Z a1 xt h0 n0) s₁ (entryFrame m #[(.ref a1)] 1)
  refine Go.eq (ef_rmN m a1) ?_
  show Go _ _ _ _ _ _ _  s₁ (mkF m 0 #[.val (.ref a1)] [])
  refine Go.st (fun t k => XS.aloadN X0.here hx rfl (hb hby d13_0) rfl rfl  k) ?_
  show Go _ _ _ _ _ _ _  s₁ (mkF m 1 #[.val (.ref a1)] [(.ref a1)])
  obtain ⟨T1, X1, e1, st1⟩ := getF X0 hx hZ hown (host := "") (Or.inl (hw _ (List.mem_of_getElem? (i := 55) rfl))) Via.refl e0 FT (g := (mkF m 1 #[.val (.ref a1)] [(.ref a1)])) rfl rfl (hb hby d13_1)
  refine Go.st st1 ?_
  rcases ref_cases ref_xt with hxt | ⟨axxt, hxt⟩
  · rw [hxt]
    show Go _ _ _ _ _ _ _  T1 (mkF m 4 #[.val (.ref a1)] [.null])
    refine Go.st (fun t k => XS.ifnonnullNo X1.here hx rfl (hb hby d13_4) rfl k) ?_
    show Go _ _ _ _ _ _ _  T1 (mkF m 7 #[.val (.ref a1)] [])
    refine Go.st (fun t k => XS.iconst X1.here hx rfl (hb hby d13_7) k) ?_
    show Go _ _ _ _ _ _ _  T1 (mkF m 8 #[.val (.ref a1)] [(.int (1 : Int32))])
    refine Go.st (fun t k => XS.goto X1.here hx rfl (pc0 := 8) (pc' := 12) rfl (hb hby d13_8) (by decide) (by decide) k) ?_
    show Go _ _ _ _ _ _ _  T1 (mkF m 12 #[.val (.ref a1)] [(.int (1 : Int32))])
    refine Go.retN X1 hlk hx (t := .boolean) (z' := (1 : Int32)) Bd.returns (by simp) (hb hby d13_12) (by decide) (by decide) rfl ?_
    show Q_rmN Z _ _ h0 n0 _ T1.heap _
    rw [e1]
    exact ⟨by simp [hxt], N0, rfl⟩
  · rw [hxt]
    show Go _ _ _ _ _ _ _  T1 (mkF m 4 #[.val (.ref a1)] [(.ref axxt)])
    refine Go.st (fun t k => XS.ifnonnullYes X1.here hx rfl (pc0 := 4) (pc' := 11) rfl (hb hby d13_4) rfl (by decide) (by decide) k) ?_
    show Go _ _ _ _ _ _ _  T1 (mkF m 11 #[.val (.ref a1)] [])
    refine Go.st (fun t k => XS.iconst X1.here hx rfl (hb hby d13_11) k) ?_
    show Go _ _ _ _ _ _ _  T1 (mkF m 12 #[.val (.ref a1)] [(.int (0 : Int32))])
    refine Go.retN X1 hlk hx (t := .boolean) (z' := (0 : Int32)) Bd.returns (by simp) (hb hby d13_12) (by decide) (by decide) rfl ?_
    show Q_rmN Z _ _ h0 n0 _ T1.heap _
    rw [e1]
    exact ⟨by simp [hxt], N0, rfl⟩
def Q_rm0 (Z : State) (p1 : Int32) (p2 : Int32) (p3 : Int32) (p4 : Int32) (zc : Int32) (w_EQUAL : Addr) (w_LESS : Addr) (w_LESS_OR_EQUAL : Addr) (w_GREATER : Addr) (w_GREATER_OR_EQUAL : Addr) (h0 : Heap) (n0 : Nat) (v : Option Value) (h : Heap) (L : List Loc) : Prop := v = some (.int (1 : Int32)) ∧ Fr n0 L
set_option maxRecDepth 65536 in
set_option maxHeartbeats 40000000 in
theorem rm0 (l : Launch) (Z : State) (a0 : Array Value) (hw : ∀ d ∈ tables_1, d.before a0 Z = true) (ws : List Jvm.Cond) (p1 : Int32) (p2 : Int32) (p3 : Int32) (p4 : Int32) (zc : Int32) (w_EQUAL : Addr) (w_LESS : Addr) (w_LESS_OR_EQUAL : Addr) (w_GREATER : Addr) (w_GREATER_OR_EQUAL : Addr) (h0 : Heap) (n0 : Nat) (O : Old Z n0 h0) (hEL : EW Z a0 EL) (wS : ∀ a ∈ Bundle.stringAtoms, a.before a0 Z = true) (S_COMPACT : Sta Z Z.heap "java/lang/String" "COMPACT_STRINGS" "Z" (.int zc)) (hcs : ¬ zc = 0) (S_EQUAL : Sta Z Z.heap "com/example/nodewell/nodewell/store/ValueTest$Comparison" "EQUAL" "Lcom/example/nodewell/nodewell/store/ValueTest$Comparison;" (.ref w_EQUAL)) (S_LESS : Sta Z Z.heap "com/example/nodewell/nodewell/store/ValueTest$Comparison" "LESS" "Lcom/example/nodewell/nodewell/store/ValueTest$Comparison;" (.ref w_LESS)) (S_LESS_OR_EQUAL : Sta Z Z.heap "com/example/nodewell/nodewell/store/ValueTest$Comparison" "LESS_OR_EQUAL" "Lcom/example/nodewell/nodewell/store/ValueTest$Comparison;" (.ref w_LESS_OR_EQUAL)) (S_GREATER : Sta Z Z.heap "com/example/nodewell/nodewell/store/ValueTest$Comparison" "GREATER" "Lcom/example/nodewell/nodewell/store/ValueTest$Comparison;" (.ref w_GREATER)) (S_GREATER_OR_EQUAL : Sta Z Z.heap "com/example/nodewell/nodewell/store/ValueTest$Comparison" "GREATER_OR_EQUAL" "Lcom/example/nodewell/nodewell/store/ValueTest$Comparison;" (.ref w_GREATER_OR_EQUAL)) :
    MetFree l x (head1 (Jvm.Cond.code x code maxLocals ret :: ws) room_1) (fun a U => a = #[(.int p1), (.int p2), (.int p3), (.int p4)] ∧ Z.Warmed39 U.vm ∧ U.heap = h0 ∧ CHv Z EL U.vm h0 ∧ ∀ x ∈ ([] : List Addr), Safe Z EL U.vm h0 x) (fun _ _ _ _ _ => True) (fun _ U o U' => ∃ v L, o = .returned v ∧ Q_rm0 Z p1 p2 p3 p4 zc w_EQUAL w_LESS w_LESS_OR_EQUAL w_GREATER w_GREATER_OR_EQUAL h0 n0 v U'.heap L ∧ CHr Z EL U.vm U.heap U'.vm U'.heap ∧ ReturnedEndW U o U' L room_1.cells room_1.slots) := by
  refine MetFree.of_bodySF (plainFor_of_name pn_0) hisR ?_
  intro p e s m args below meth c s₁ Bd hml0 hP hK
  obtain ⟨rfl, hZ, hh, HH, hSF⟩ := hP
  have hx := Bd.exec
  have hby := Bd.bytes
  have hml : c.maxLocals = 17 := hml0
  have hown : s.vm.findClass "com/example/nodewell/nodewell/store/ConditionIsNumericPinLaw" = some m.cls := findClass_of_methodNamed Bd.named
  have hnm := (name_of_methodNamed Bd.named Bd.method).1
  have hlk : meth.locks = false := BodyLoose.notSynchronized Bd
  have X0 : Stand p l e room_1 (s.setVm s.vm) m #[(.int p1), (.int p2), (.int p3), (.int p4)] below meth c s₁ [] 0 0 := Stand.of_body Bd
  have e0 : s₁.heap = h0 := by rw [← hh, Bd.state]; rfl
  have N0 := Fr.nil n0
  have KK : Keep h0 h0 [] := Keep.refl h0 _
  have hS : s.Since s.vm h0.size := own_since s _
  have hk : h0.size ≤ h0.size := Nat.le_refl _
  have RR : CHr Z EL s.vm h0 s.vm h0 := CHr.refl HH
  suffices hgo : GoH p e below s room_1.cells room_1.slots Z h0 EL (Q_rm0 Z p1 p2 p3 p4 zc w_EQUAL w_LESS w_LESS_OR_EQUAL w_GREATER w_GREATER_OR_EQUAL h0 n0) s₁ (entryFrame m #[(.int p1), (.int p2), (.int p3), (.int p4)] maxLocals) by
    obtain ⟨s₂, o, q1, q2, q3, v, L, q4, q5, q6, q7⟩ := hgo; exact ⟨s₂, o, q1, q2, q3, v, L, q4, q5, hh ▸ q6, q7⟩
  refine GoH.eq (ef_rm0 m p1 p2 p3 p4) ?_
  show GoH _ _ _ _ _ _ _ _ _ _  s₁ (mkF m 0 #[.val (.int p1), .val (.int p2), .val (.int p3), .val (.int p4), .unset, .unset, .unset, .unset, .unset, .unset, .unset, .unset, .unset, .unset, .unset, .unset, .unset] [])
  refine GoH.st (fun t k => XS.iloadN X0.here hx rfl (hb hby at_0) rfl  k) ?_
  show GoH _ _ _ _ _ _ _ _ _ _  s₁ (mkF m 1 #[.val (.int p1), .val (.int p2), .val (.int p3), .val (.int p4), .unset, .unset, .unset, .unset, .unset, .unset, .unset, .unset, .unset, .unset, .unset, .unset, .unset] [(.int p2)])
  refine GoH.st (fun t k => XS.iconst X0.here hx rfl (hb hby at_1) k) ?_
  show GoH _ _ _ _ _ _ _ _ _ _  s₁ (mkF m 2 #[.val (.int p1), .val (.int p2), .val (.int p3), .val (.int p4), .unset, .unset, .unset, .unset, .unset, .unset, .unset, .unset, .unset, .unset, .unset, .unset, .unset] [(.int (1 : Int32)), (.int p2)])
  refine GoH.st (fun t k => XS.iand X0.here hx rfl (hb hby at_2) rfl k) ?_
  show GoH _ _ _ _ _ _ _ _ _ _  s₁ (mkF m 3 #[.val (.int p1), .val (.int p2), .val (.int p3), .val (.int p4), .unset, .unset, .unset, .unset, .unset, .unset, .unset, .unset, .unset, .unset, .unset, .unset, .unset] [(.int (p2 &&& (1 : Int32)))])
  refine GoH.st (T' := s₁) (g' := (mkF m 11 #[.val (.int p1), .val (.int p2), .val (.int p3), .val (.int p4), .unset, .unset, .unset, .unset, .unset, .unset, .unset, .unset, .unset, .unset, .unset, .unset, .unset] [(.int (if (p2 &&& (1 : Int32)) = (0 : Int32) then (0 : Int32) else (1 : Int32)))])) (fun t k => ?_) ?_
  · show Steps p.tables e below (s₁.setTop (mkF m 3 #[.val (.int p1), .val (.int p2), .val (.int p3), .val (.int p4), .unset, .unset, .unset, .unset, .unset, .unset, .unset, .unset, .unset, .unset, .unset, .unset, .unset] [(.int (p2 &&& (1 : Int32)))])) _
    by_cases c3_1 : (p2 &&& (1 : Int32)) = (0 : Int32)
    · refine XS.ifYes X0.here hx rfl (pc0 := 3) (pc' := 10) rfl (hb hby at_3) rfl ((if0 _ _).trans (teq c3_1).1) (by decide) (by decide) ?_
      show Steps p.tables e below (s₁.setTop (mkF m 10 #[.val (.int p1), .val (.int p2), .val (.int p3), .val (.int p4), .unset, .unset, .unset, .unset, .unset, .unset, .unset, .unset, .unset, .unset, .unset, .unset, .unset] [])) _
      refine XS.iconst X0.here hx rfl (hb hby at_10) ?_
      (try simp only [if_pos c3_1] at k); exact k
    · refine XS.ifNo X0.here hx rfl (hb hby at_3) rfl ((if0 _ _).trans (feq c3_1).1) ?_
      show Steps p.tables e below (s₁.setTop (mkF m 6 #[.val (.int p1), .val (.int p2), .val (.int p3), .val (.int p4), .unset, .unset, .unset, .unset, .unset, .unset, .unset, .unset, .unset, .unset, .unset, .unset, .unset] [])) _
      refine XS.iconst X0.here hx rfl (hb hby at_6) ?_
      show Steps p.tables e below (s₁.setTop (mkF m 7 #[.val (.int p1), .val (.int p2), .val (.int p3), .val (.int p4), .unset, .unset, .unset, .unset, .unset, .unset, .unset, .unset, .unset, .unset, .unset, .unset, .unset] [(.int (1 : Int32))])) _
      refine XS.goto X0.here hx rfl (pc0 := 7) (pc' := 11) rfl (hb hby at_7) (by decide) (by decide) ?_
      (try simp only [if_neg c3_1] at k); exact k
  show GoH _ _ _ _ _ _ _ _ _ _  s₁ (mkF m 11 #[.val (.int p1), .val (.int p2), .val (.int p3), .val (.int p4), .unset, .unset, .unset, .unset, .unset, .unset, .unset, .unset, .unset, .unset, .unset, .unset, .unset] [(.int (if (p2 &&& (1 : Int32)) = (0 : Int32) then (0 : Int32) else (1 : Int32)))])
  refine GoH.st (fun t k => XS.istore X0.here hx rfl (hb hby at_11) rfl (l' := #[.val (.int p1), .val (.int p2), .val (.int p3), .val (.int p4), .val (.int (if (p2 &&& (1 : Int32)) = (0 : Int32) then (0 : Int32) else (1 : Int32))), .unset, .unset, .unset, .unset, .unset, .unset, .unset, .unset, .unset, .unset, .unset, .unset]) rfl k) ?_
  show GoH _ _ _ _ _ _ _ _ _ _  s₁ (mkF m 13 #[.val (.int p1), .val (.int p2), .val (.int p3), .val (.int p4), .val (.int (if (p2 &&& (1 : Int32)) = (0 : Int32) then (0 : Int32) else (1 : Int32))), .unset, .unset, .unset, .unset, .unset, .unset, .unset, .unset, .unset, .unset, .unset, .unset] [])
  obtain ⟨f4, eq_f4⟩ : ∃ z, z = (if (p2 &&& (1 : Int32)) = (0 : Int32) then (0 : Int32) else (1 : Int32)) := ⟨_, rfl⟩
  rw [← eq_f4]
  have ok_f4 : f4 = 0 ∨ f4 = 1 := by rw [eq_f4]; split; exact Or.inl rfl; exact Or.inr rfl
  show GoH _ _ _ _ _ _ _ _ _ _  s₁ (mkF m 13 #[.val (.int p1), .val (.int p2), .val (.int p3), .val (.int p4), .val (.int f4), .unset, .unset, .unset, .unset, .unset, .unset, .unset, .unset, .unset, .unset, .unset, .unset] [])
  refine GoH.st (fun t k => XS.iloadN X0.here hx rfl (hb hby at_13) rfl  k) ?_
  show GoH _ _ _ _ _ _ _ _ _ _  s₁ (mkF m 14 #[.val (.int p1), .val (.int p2), .val (.int p3), .val (.int p4), .val (.int f4), .unset, .unset, .unset, .unset, .unset, .unset, .unset, .unset, .unset, .unset, .unset, .unset] [(.int p2)])
  refine GoH.st (fun t k => XS.iconst X0.here hx rfl (hb hby at_14) k) ?_
  show GoH _ _ _ _ _ _ _ _ _ _  s₁ (mkF m 15 #[.val (.int p1), .val (.int p2), .val (.int p3), .val (.int p4), .val (.int f4), .unset, .unset, .unset, .unset, .unset, .unset, .unset, .unset, .unset, .unset, .unset, .unset] [(.int (1 : Int32)), (.int p2)])
  refine GoH.st (fun t k => XS.iushr X0.here hx rfl (hb hby at_15) rfl k) ?_
  show GoH _ _ _ _ _ _ _ _ _ _  s₁ (mkF m 16 #[.val (.int p1), .val (.int p2), .val (.int p3), .val (.int p4), .val (.int f4), .unset, .unset, .unset, .unset, .unset, .unset, .unset, .unset, .unset, .unset, .unset, .unset] [(.int ((p2.toUInt32 >>> ((1 : Int32) &&& 31).toUInt32).toInt32))])
  refine GoH.st (fun t k => XS.iconst X0.here hx rfl (hb hby at_16) k) ?_
  show GoH _ _ _ _ _ _ _ _ _ _  s₁ (mkF m 17 #[.val (.int p1), .val (.int p2), .val (.int p3), .val (.int p4), .val (.int f4), .unset, .unset, .unset, .unset, .unset, .unset, .unset, .unset, .unset, .unset, .unset, .unset] [(.int (3 : Int32)), (.int ((p2.toUInt32 >>> ((1 : Int32) &&& 31).toUInt32).toInt32))])
  refine GoH.st (fun t k => XS.iand X0.here hx rfl (hb hby at_17) rfl k) ?_
  show GoH _ _ _ _ _ _ _ _ _ _  s₁ (mkF m 18 #[.val (.int p1), .val (.int p2), .val (.int p3), .val (.int p4), .val (.int f4), .unset, .unset, .unset, .unset, .unset, .unset, .unset, .unset, .unset, .unset, .unset, .unset] [(.int (((p2.toUInt32 >>> ((1 : Int32) &&& 31).toUInt32).toInt32) &&& (3 : Int32)))])
  refine GoH.st (fun t k => XS.istore X0.here hx rfl (hb hby at_18) rfl (l' := #[.val (.int p1), .val (.int p2), .val (.int p3), .val (.int p4), .val (.int f4), .val (.int (((p2.toUInt32 >>> ((1 : Int32) &&& 31).toUInt32).toInt32) &&& (3 : Int32))), .unset, .unset, .unset, .unset, .unset, .unset, .unset, .unset, .unset, .unset, .unset]) rfl k) ?_
  show GoH _ _ _ _ _ _ _ _ _ _  s₁ (mkF m 20 #[.val (.int p1), .val (.int p2), .val (.int p3), .val (.int p4), .val (.int f4), .val (.int (((p2.toUInt32 >>> ((1 : Int32) &&& 31).toUInt32).toInt32) &&& (3 : Int32))), .unset, .unset, .unset, .unset, .unset, .unset, .unset, .unset, .unset, .unset, .unset] [])
  refine GoH.st (fun t k => XS.iloadN X0.here hx rfl (hb hby at_20) rfl  k) ?_
  show GoH _ _ _ _ _ _ _ _ _ _  s₁ (mkF m 21 #[.val (.int p1), .val (.int p2), .val (.int p3), .val (.int p4), .val (.int f4), .val (.int (((p2.toUInt32 >>> ((1 : Int32) &&& 31).toUInt32).toInt32) &&& (3 : Int32))), .unset, .unset, .unset, .unset, .unset, .unset, .unset, .unset, .unset, .unset, .unset] [(.int p1)])
  obtain ⟨_, _, ⟨T2, L2, k2, n2⟩, -, X2, ⟨Lc2, hQ2, l2, y2, z2⟩, st2⟩ := Jvm.LawKit.callS X0 hx (y := (⟨"com/example/nodewell/nodewell/store/ConditionIsNumericPinLaw", "pick", "(I)Lcom/example/nodewell/nodewell/store/ValueTest$Comparison;"⟩ : MethodName)) hown (mvT hZ (hw _ (List.mem_of_getElem? (i := 0) rfl))) (mvT hZ (hw _ (List.mem_of_getElem? (i := 1) rfl))) (mvT hZ (hw _ (List.mem_of_getElem? (i := 2) rfl))) (mvT hZ (hw _ (List.mem_of_getElem? (i := 3) rfl))) (by decide) (backOf (W := 0) (rmK l Z a0 hw [] p1 w_EQUAL w_LESS w_LESS_OR_EQUAL w_GREATER w_GREATER_OR_EQUAL h0 n0 O S_EQUAL S_LESS S_LESS_OR_EQUAL S_GREATER S_GREATER_OR_EQUAL) hZ (hw _ (List.mem_of_getElem? (i := 3) rfl)) (hw _ (List.mem_of_getElem? (i := 2) rfl)) (by decide) (by decide)) (g := (mkF m 21 #[.val (.int p1), .val (.int p2), .val (.int p3), .val (.int p4), .val (.int f4), .val (.int (((p2.toUInt32 >>> ((1 : Int32) &&& 31).toUInt32).toInt32) &&& (3 : Int32))), .unset, .unset, .unset, .unset, .unset, .unset, .unset, .unset, .unset, .unset, .unset] [(.int p1)])) rfl (by rw [hml]; rfl) (argsL := [(.int p1)]) (rest := []) (lenOf pd__I_Lcom_example_nodewell_nodewell_store_ValueTest_Comparison_ rfl) rfl (by show 2 * 0 + _ ≤ _; exact Nat.le_of_eq rfl) (hb hby at_21) (fun _ _ => ⟨rfl, e0, (by decide : 0 + 0 ≤ _), (by decide : 0 + 0 ≤ _)⟩)
  dsimp only [Pt.U, Pt.locs, Pt.cells, Pt.slots] at X2 l2 y2 z2 st2 hQ2
  subst l2 y2 z2
  obtain ⟨wp2, rfl, N2q, e2q⟩ := hQ2
  have N2 := Fr.app N0 N2q
  refine GoH.st st2 ?_
  show GoH _ _ _ _ _ _ _ _ _ _  T2 (mkF m 24 #[.val (.int p1), .val (.int p2), .val (.int p3), .val (.int p4), .val (.int f4), .val (.int (((p2.toUInt32 >>> ((1 : Int32) &&& 31).toUInt32).toInt32) &&& (3 : Int32))), .unset, .unset, .unset, .unset, .unset, .unset, .unset, .unset, .unset, .unset, .unset] [(.ref wp2)])
  refine GoH.st (fun t k => XS.astore X2.here hx rfl (hb hby at_24) rfl rfl (l' := #[.val (.int p1), .val (.int p2), .val (.int p3), .val (.int p4), .val (.int f4), .val (.int (((p2.toUInt32 >>> ((1 : Int32) &&& 31).toUInt32).toInt32) &&& (3 : Int32))), .val (.ref wp2), .unset, .unset, .unset, .unset, .unset, .unset, .unset, .unset, .unset, .unset]) rfl k) ?_
  show GoH _ _ _ _ _ _ _ _ _ _  T2 (mkF m 26 #[.val (.int p1), .val (.int p2), .val (.int p3), .val (.int p4), .val (.int f4), .val (.int (((p2.toUInt32 >>> ((1 : Int32) &&& 31).toUInt32).toInt32) &&& (3 : Int32))), .val (.ref wp2), .unset, .unset, .unset, .unset, .unset, .unset, .unset, .unset, .unset, .unset] [])
  refine GoH.st (fun t k => XS.iload X2.here hx rfl (hb hby at_26) rfl  k) ?_
  show GoH _ _ _ _ _ _ _ _ _ _  T2 (mkF m 28 #[.val (.int p1), .val (.int p2), .val (.int p3), .val (.int p4), .val (.int f4), .val (.int (((p2.toUInt32 >>> ((1 : Int32) &&& 31).toUInt32).toInt32) &&& (3 : Int32))), .val (.ref wp2), .unset, .unset, .unset, .unset, .unset, .unset, .unset, .unset, .unset, .unset] [(.int (((p2.toUInt32 >>> ((1 : Int32) &&& 31).toUInt32).toInt32) &&& (3 : Int32)))])
  refine GoH.st (fun t k => XS.iloadN X2.here hx rfl (hb hby at_28) rfl  k) ?_
  show GoH _ _ _ _ _ _ _ _ _ _  T2 (mkF m 29 #[.val (.int p1), .val (.int p2), .val (.int p3), .val (.int p4), .val (.int f4), .val (.int (((p2.toUInt32 >>> ((1 : Int32) &&& 31).toUInt32).toInt32) &&& (3 : Int32))), .val (.ref wp2), .unset, .unset, .unset, .unset, .unset, .unset, .unset, .unset, .unset, .unset] [(.int p3), (.int (((p2.toUInt32 >>> ((1 : Int32) &&& 31).toUInt32).toInt32) &&& (3 : Int32)))])
  obtain ⟨_, _, ⟨T3, L3, k3, n3⟩, -, X3, hSn3, hgn3, ⟨Lc3, hQ3, l3, y3, z3, CR3⟩, st3⟩ := callSS X2 hx (y := (⟨"com/example/nodewell/nodewell/store/ConditionIsNumericPinLaw", "draw", "(II)Ljava/lang/String;"⟩ : MethodName)) hown (mvT hZ (hw _ (List.mem_of_getElem? (i := 8) rfl))) (mvT hZ (hw _ (List.mem_of_getElem? (i := 9) rfl))) (mvT hZ (hw _ (List.mem_of_getElem? (i := 2) rfl))) (mvT hZ (hw _ (List.mem_of_getElem? (i := 10) rfl))) (by decide) (own_backSH (sf := []) (W := 0) (rmD l Z a0 hw [] (((p2.toUInt32 >>> ((1 : Int32) &&& 31).toUInt32).toInt32) &&& (3 : Int32)) p3 zc h0 n0 O hEL wS S_COMPACT hcs) hZ (hw _ (List.mem_of_getElem? (i := 10) rfl)) (hw _ (List.mem_of_getElem? (i := 2) rfl)) (by decide) (by decide) hEL HH all0) (g := (mkF m 29 #[.val (.int p1), .val (.int p2), .val (.int p3), .val (.int p4), .val (.int f4), .val (.int (((p2.toUInt32 >>> ((1 : Int32) &&& 31).toUInt32).toInt32) &&& (3 : Int32))), .val (.ref wp2), .unset, .unset, .unset, .unset, .unset, .unset, .unset, .unset, .unset, .unset] [(.int p3), (.int (((p2.toUInt32 >>> ((1 : Int32) &&& 31).toUInt32).toInt32) &&& (3 : Int32)))])) rfl (by rw [hml]; rfl) (argsL := [(.int (((p2.toUInt32 >>> ((1 : Int32) &&& 31).toUInt32).toInt32) &&& (3 : Int32))), (.int p3)]) (rest := []) (lenOf pd__II_Ljava_lang_String_ rfl) rfl (by show 2 * 0 + _ ≤ _; exact Nat.le_of_eq rfl) (hb hby at_29) (fun _ _ => ⟨rfl, e2q, (by decide : 0 + 6 ≤ _), (by decide : 0 + 16 ≤ _)⟩)
  dsimp only [Pt.U, Pt.locs, Pt.cells, Pt.slots] at X3 l3 y3 z3 st3 hQ3 hSn3 hgn3 CR3
  subst l3 y3 z3
  obtain ⟨d3, rfl, N3q, E3q⟩ := hQ3
  have X3 : Stand p l e _ (s.setVm T3.vm) m _ below meth c T3 _ _ _ := X3
  have N3 := Fr.app N2 N3q
  refine GoH.tr st3 ?_
  have hS3 := Jvm.RoadKit.foldS hS (by rw [e2q]; exact hk) hSn3 hgn3
  have hZ3 := State.Warmed39.trans (t := s.setVm s.vm) hZ hSn3.1
  have hk3 := Nat.le_refl T3.heap.size
  have hown3 : T3.vm.findClass "com/example/nodewell/nodewell/store/ConditionIsNumericPinLaw" = some m.cls := by rw [hSn3.1.alike.findClass]; exact hown
  have E3 := E3q
  have O := O.ext E3
  have KK := KK.ext E3
  have RR := RR.trans CR3
  have HH := CR3.1
  have hS := hS3
  have hk := hk3
  have hZ := hZ3
  have hown := hown3
  show GoH _ _ _ _ _ _ _ _ _ _  T3 (mkF m 32 #[.val (.int p1), .val (.int p2), .val (.int p3), .val (.int p4), .val (.int f4), .val (.int (((p2.toUInt32 >>> ((1 : Int32) &&& 31).toUInt32).toInt32) &&& (3 : Int32))), .val (.ref wp2), .unset, .unset, .unset, .unset, .unset, .unset, .unset, .unset, .unset, .unset] [(.ref d3)])
  refine GoH.st (fun t k => XS.astore X3.here hx rfl (hb hby at_32) rfl rfl (l' := #[.val (.int p1), .val (.int p2), .val (.int p3), .val (.int p4), .val (.int f4), .val (.int (((p2.toUInt32 >>> ((1 : Int32) &&& 31).toUInt32).toInt32) &&& (3 : Int32))), .val (.ref wp2), .val (.ref d3), .unset, .unset, .unset, .unset, .unset, .unset, .unset, .unset, .unset]) rfl k) ?_
  show GoH _ _ _ _ _ _ _ _ _ _  T3 (mkF m 34 #[.val (.int p1), .val (.int p2), .val (.int p3), .val (.int p4), .val (.int f4), .val (.int (((p2.toUInt32 >>> ((1 : Int32) &&& 31).toUInt32).toInt32) &&& (3 : Int32))), .val (.ref wp2), .val (.ref d3), .unset, .unset, .unset, .unset, .unset, .unset, .unset, .unset, .unset] [])
  refine GoH.st (fun t k => XS.iloadN X3.here hx rfl (hb hby at_34) rfl  k) ?_
  show GoH _ _ _ _ _ _ _ _ _ _  T3 (mkF m 35 #[.val (.int p1), .val (.int p2), .val (.int p3), .val (.int p4), .val (.int f4), .val (.int (((p2.toUInt32 >>> ((1 : Int32) &&& 31).toUInt32).toInt32) &&& (3 : Int32))), .val (.ref wp2), .val (.ref d3), .unset, .unset, .unset, .unset, .unset, .unset, .unset, .unset, .unset] [(.int p4)])
  refine GoH.st (fun t k => XS.i2dS X3.here hx rfl (hb hby at_35) rfl rfl k) ?_
  show GoH _ _ _ _ _ _ _ _ _ _  T3 (mkF m 36 #[.val (.int p1), .val (.int p2), .val (.int p3), .val (.int p4), .val (.int f4), .val (.int (((p2.toUInt32 >>> ((1 : Int32) &&& 31).toUInt32).toInt32) &&& (3 : Int32))), .val (.ref wp2), .val (.ref d3), .unset, .unset, .unset, .unset, .unset, .unset, .unset, .unset, .unset] [(.double (FP.i2d p4))])
  refine GoH.st (fun t k => XS.dstore X3.here hx rfl (hb hby at_36) rfl (l' := #[.val (.int p1), .val (.int p2), .val (.int p3), .val (.int p4), .val (.int f4), .val (.int (((p2.toUInt32 >>> ((1 : Int32) &&& 31).toUInt32).toInt32) &&& (3 : Int32))), .val (.ref wp2), .val (.ref d3), .val (.double (FP.i2d p4)), .second, .unset, .unset, .unset, .unset, .unset, .unset, .unset]) rfl k) ?_
  show GoH _ _ _ _ _ _ _ _ _ _  T3 (mkF m 38 #[.val (.int p1), .val (.int p2), .val (.int p3), .val (.int p4), .val (.int f4), .val (.int (((p2.toUInt32 >>> ((1 : Int32) &&& 31).toUInt32).toInt32) &&& (3 : Int32))), .val (.ref wp2), .val (.ref d3), .val (.double (FP.i2d p4)), .second, .unset, .unset, .unset, .unset, .unset, .unset, .unset] [])
  rcases ok_f4 with sp4 | sp4
  · rw [sp4]
    show GoH _ _ _ _ _ _ _ _ _ _  T3 (mkF m 38 #[.val (.int p1), .val (.int p2), .val (.int p3), .val (.int p4), .val (.int (0 : Int32)), .val (.int (((p2.toUInt32 >>> ((1 : Int32) &&& 31).toUInt32).toInt32) &&& (3 : Int32))), .val (.ref wp2), .val (.ref d3), .val (.double (FP.i2d p4)), .second, .unset, .unset, .unset, .unset, .unset, .unset, .unset] [])
    refine GoH.st (fun t k => XS.iload X3.here hx rfl (hb hby at_38) rfl  k) ?_
    show GoH _ _ _ _ _ _ _ _ _ _  T3 (mkF m 40 #[.val (.int p1), .val (.int p2), .val (.int p3), .val (.int p4), .val (.int (0 : Int32)), .val (.int (((p2.toUInt32 >>> ((1 : Int32) &&& 31).toUInt32).toInt32) &&& (3 : Int32))), .val (.ref wp2), .val (.ref d3), .val (.double (FP.i2d p4)), .second, .unset, .unset, .unset, .unset, .unset, .unset, .unset] [(.int (0 : Int32))])
    refine GoH.st (fun t k => XS.ifYes X3.here hx rfl (pc0 := 40) (pc' := 47) rfl (hb hby at_40) rfl ((if0 _ _).trans (teq (rfl : (0 : Int32) = (0 : Int32))).1) (by decide) (by decide) k) ?_
    show GoH _ _ _ _ _ _ _ _ _ _  T3 (mkF m 47 #[.val (.int p1), .val (.int p2), .val (.int p3), .val (.int p4), .val (.int (0 : Int32)), .val (.int (((p2.toUInt32 >>> ((1 : Int32) &&& 31).toUInt32).toInt32) &&& (3 : Int32))), .val (.ref wp2), .val (.ref d3), .val (.double (FP.i2d p4)), .second, .unset, .unset, .unset, .unset, .unset, .unset, .unset] [])
    refine GoH.st (fun t k => XS.aload X3.here hx rfl (hb hby at_47) rfl rfl  k) ?_
    show GoH _ _ _ _ _ _ _ _ _ _  T3 (mkF m 49 #[.val (.int p1), .val (.int p2), .val (.int p3), .val (.int p4), .val (.int (0 : Int32)), .val (.int (((p2.toUInt32 >>> ((1 : Int32) &&& 31).toUInt32).toInt32) &&& (3 : Int32))), .val (.ref wp2), .val (.ref d3), .val (.double (FP.i2d p4)), .second, .unset, .unset, .unset, .unset, .unset, .unset, .unset] [(.ref d3)])
    refine GoH.st (fun t k => XS.astore X3.here hx rfl (hb hby at_49) rfl rfl (l' := #[.val (.int p1), .val (.int p2), .val (.int p3), .val (.int p4), .val (.int (0 : Int32)), .val (.int (((p2.toUInt32 >>> ((1 : Int32) &&& 31).toUInt32).toInt32) &&& (3 : Int32))), .val (.ref wp2), .val (.ref d3), .val (.double (FP.i2d p4)), .second, .val (.ref d3), .unset, .unset, .unset, .unset, .unset, .unset]) rfl k) ?_
    show GoH _ _ _ _ _ _ _ _ _ _  T3 (mkF m 51 #[.val (.int p1), .val (.int p2), .val (.int p3), .val (.int p4), .val (.int (0 : Int32)), .val (.int (((p2.toUInt32 >>> ((1 : Int32) &&& 31).toUInt32).toInt32) &&& (3 : Int32))), .val (.ref wp2), .val (.ref d3), .val (.double (FP.i2d p4)), .second, .val (.ref d3), .unset, .unset, .unset, .unset, .unset, .unset] [])
    obtain ⟨T5, h5, X5, e5, E5, A5, D5, -, st5⟩ := newO X3 hx hZ hown (hw _ (List.mem_of_getElem? (i := 41) rfl)) (hw _ (List.mem_of_getElem? (i := 42) rfl)) (hw _ (List.mem_of_getElem? (i := 43) rfl)) rfl (g := (mkF m 51 #[.val (.int p1), .val (.int p2), .val (.int p3), .val (.int p4), .val (.int (0 : Int32)), .val (.int (((p2.toUInt32 >>> ((1 : Int32) &&& 31).toUInt32).toInt32) &&& (3 : Int32))), .val (.ref wp2), .val (.ref d3), .val (.double (FP.i2d p4)), .second, .val (.ref d3), .unset, .unset, .unset, .unset, .unset, .unset] [])) rfl (hb hby at_51) (by decide) (by decide)
    obtain ⟨b5, g5⟩ : ∃ z, z = T3.heap.size := ⟨_, rfl⟩
    rw [← g5] at A5 D5 st5
    refine GoH.st st5 ?_
    have g_b5 : n0 ≤ b5 := by rw [g5]; exact own_le O
    have Sf_b5 : Safe Z EL T3.vm T3.heap b5 := Safe.new (Nat.le_of_eq g5.symm)
    have sz_b5 : h0.size ≤ b5 := by rw [g5]; exact KK.1
    have Sf_b5 := Safe.ext E5 HH Sf_b5
    have RR := RR.trans (CHr.ext E5 HH)
    have HH := HH.ext E5
    have hk := Nat.le_trans hk E5.1
    have O := O.ext E5
    have KK := KK.ext E5
    have E_b5 := A5
    have F_comparison_b5 : Fld Z h5 b5 "com/example/nodewell/nodewell/store/ValueTest$Condition" "comparison" "Lcom/example/nodewell/nodewell/store/ValueTest$Comparison;" .null := D5 (Or.inr (hw _ (List.mem_of_getElem? (i := 54) rfl))) (ty := (.object "com/example/nodewell/nodewell/store/ValueTest$Comparison")) (by decide)
    have F_text_b5 : Fld Z h5 b5 "com/example/nodewell/nodewell/store/ValueTest$Condition" "text" "Ljava/lang/String;" .null := D5 (Or.inr (hw _ (List.mem_of_getElem? (i := 56) rfl))) (ty := (.object "java/lang/String")) (by decide)
    have F_number_b5 : Fld Z h5 b5 "com/example/nodewell/nodewell/store/ValueTest$Condition" "number" "D" (defaultValue .double) := D5 (Or.inr (hw _ (List.mem_of_getElem? (i := 58) rfl))) (ty := .double) (by decide)
    show GoH _ _ _ _ _ _ _ _ _ _  T5 (mkF m 54 #[.val (.int p1), .val (.int p2), .val (.int p3), .val (.int p4), .val (.int (0 : Int32)), .val (.int (((p2.toUInt32 >>> ((1 : Int32) &&& 31).toUInt32).toInt32) &&& (3 : Int32))), .val (.ref wp2), .val (.ref d3), .val (.double (FP.i2d p4)), .second, .val (.ref d3), .unset, .unset, .unset, .unset, .unset, .unset] [(.ref b5)])
    refine GoH.st (fun t k => XS.dup X5.here hx rfl (hb hby at_54) rfl rfl k) ?_
    show GoH _ _ _ _ _ _ _ _ _ _  T5 (mkF m 55 #[.val (.int p1), .val (.int p2), .val (.int p3), .val (.int p4), .val (.int (0 : Int32)), .val (.int (((p2.toUInt32 >>> ((1 : Int32) &&& 31).toUInt32).toInt32) &&& (3 : Int32))), .val (.ref wp2), .val (.ref d3), .val (.double (FP.i2d p4)), .second, .val (.ref d3), .unset, .unset, .unset, .unset, .unset, .unset] [(.ref b5), (.ref b5)])
    refine GoH.st (fun t k => XS.aload X5.here hx rfl (hb hby at_55) rfl rfl  k) ?_
    show GoH _ _ _ _ _ _ _ _ _ _  T5 (mkF m 57 #[.val (.int p1), .val (.int p2), .val (.int p3), .val (.int p4), .val (.int (0 : Int32)), .val (.int (((p2.toUInt32 >>> ((1 : Int32) &&& 31).toUInt32).toInt32) &&& (3 : Int32))), .val (.ref wp2), .val (.ref d3), .val (.double (FP.i2d p4)), .second, .val (.ref d3), .unset, .unset, .unset, .unset, .unset, .unset] [(.ref wp2), (.ref b5), (.ref b5)])
    refine GoH.st (fun t k => XS.aload X5.here hx rfl (hb hby at_57) rfl rfl  k) ?_
    show GoH _ _ _ _ _ _ _ _ _ _  T5 (mkF m 59 #[.val (.int p1), .val (.int p2), .val (.int p3), .val (.int p4), .val (.int (0 : Int32)), .val (.int (((p2.toUInt32 >>> ((1 : Int32) &&& 31).toUInt32).toInt32) &&& (3 : Int32))), .val (.ref wp2), .val (.ref d3), .val (.double (FP.i2d p4)), .second, .val (.ref d3), .unset, .unset, .unset, .unset, .unset, .unset] [(.ref d3), (.ref wp2), (.ref b5), (.ref b5)])
    refine GoH.st (fun t k => XS.dload X5.here hx rfl (hb hby at_59) rfl k) ?_
    show GoH _ _ _ _ _ _ _ _ _ _  T5 (mkF m 61 #[.val (.int p1), .val (.int p2), .val (.int p3), .val (.int p4), .val (.int (0 : Int32)), .val (.int (((p2.toUInt32 >>> ((1 : Int32) &&& 31).toUInt32).toInt32) &&& (3 : Int32))), .val (.ref wp2), .val (.ref d3), .val (.double (FP.i2d p4)), .second, .val (.ref d3), .unset, .unset, .unset, .unset, .unset, .unset] [(.double (FP.i2d p4)), (.ref d3), (.ref wp2), (.ref b5), (.ref b5)])
    obtain ⟨_, _, ⟨T6, L6, k6, n6⟩, -, X6, ⟨Lc6, hQ6, l6, y6, z6⟩, st6⟩ := X5.specialBack hx (y := (⟨"com/example/nodewell/nodewell/store/ValueTest$Condition", "<init>", "(Lcom/example/nodewell/nodewell/store/ValueTest$Comparison;Ljava/lang/String;D)V"⟩ : MethodName)) rfl hown (mvT hZ (hw _ (List.mem_of_getElem? (i := 44) rfl))) (mvT hZ (hw _ (List.mem_of_getElem? (i := 45) rfl))) (mvT hZ (hw _ (List.mem_of_getElem? (i := 46) rfl))) (by decide) (backOf (W := 1) (rmC l Z a0 hw [] b5 wp2 (.ref d3) (FP.i2d p4) h5 n0 O E_b5 F_comparison_b5 F_text_b5 F_number_b5 g_b5 rfl) hZ (hw _ (List.mem_of_getElem? (i := 46) rfl)) (hw _ (List.mem_of_getElem? (i := 43) rfl)) (by decide) (by decide)) (g := (mkF m 61 #[.val (.int p1), .val (.int p2), .val (.int p3), .val (.int p4), .val (.int (0 : Int32)), .val (.int (((p2.toUInt32 >>> ((1 : Int32) &&& 31).toUInt32).toInt32) &&& (3 : Int32))), .val (.ref wp2), .val (.ref d3), .val (.double (FP.i2d p4)), .second, .val (.ref d3), .unset, .unset, .unset, .unset, .unset, .unset] [(.double (FP.i2d p4)), (.ref d3), (.ref wp2), (.ref b5), (.ref b5)])) rfl (by rw [hml]; rfl) (Steps.refl _) (a := b5) (argsL := [(.ref wp2), (.ref d3), (.double (FP.i2d p4))]) (rest := [(.ref b5)]) (lenOf pd__Lcom_example_nodewell_nodewell_store_ValueTest_Comparison_Ljava_lang_String_D_V rfl) rfl (by show 2 * 0 + _ ≤ _; exact Nat.le_of_eq rfl) (hb hby at_61) (fun _ _ => ⟨rfl, e5, (by decide : 7 + 0 ≤ _), (by decide : 19 + 0 ≤ _)⟩)
    dsimp only [Pt.U, Pt.locs, Pt.cells, Pt.slots] at X6 l6 y6 z6 st6 hQ6
    subst l6 y6 z6
    obtain ⟨rfl, N6q, K6q, Eq6, Ft6⟩ := hQ6
    have N6 := Fr.app N3 N6q
    refine GoH.tr st6 ?_
    have E_b5 := E_b5.keep K6q
    have sfw6 := (sfS Sf_b5 sf0)
    have Sf_b5 := Safe.keep K6q sfw6 HH Sf_b5
    have RR := RR.trans (CHr.keep K6q sfw6 HH)
    have HH := HH.keep K6q sfw6
    have hk := Nat.le_trans hk K6q.1
    have O := O.keep K6q (allS g_b5 all0)
    have KK := KK.trans K6q (allS (Or.inr sz_b5) all0)
    have E_b5 := Eq6
    show GoH _ _ _ _ _ _ _ _ _ _  T6 (mkF m 64 #[.val (.int p1), .val (.int p2), .val (.int p3), .val (.int p4), .val (.int (0 : Int32)), .val (.int (((p2.toUInt32 >>> ((1 : Int32) &&& 31).toUInt32).toInt32) &&& (3 : Int32))), .val (.ref wp2), .val (.ref d3), .val (.double (FP.i2d p4)), .second, .val (.ref d3), .unset, .unset, .unset, .unset, .unset, .unset] [(.ref b5)])
    refine GoH.st (fun t k => XS.astore X6.here hx rfl (hb hby at_64) rfl rfl (l' := #[.val (.int p1), .val (.int p2), .val (.int p3), .val (.int p4), .val (.int (0 : Int32)), .val (.int (((p2.toUInt32 >>> ((1 : Int32) &&& 31).toUInt32).toInt32) &&& (3 : Int32))), .val (.ref wp2), .val (.ref d3), .val (.double (FP.i2d p4)), .second, .val (.ref d3), .val (.ref b5), .unset, .unset, .unset, .unset, .unset]) rfl k) ?_
    show GoH _ _ _ _ _ _ _ _ _ _  T6 (mkF m 66 #[.val (.int p1), .val (.int p2), .val (.int p3), .val (.int p4), .val (.int (0 : Int32)), .val (.int (((p2.toUInt32 >>> ((1 : Int32) &&& 31).toUInt32).toInt32) &&& (3 : Int32))), .val (.ref wp2), .val (.ref d3), .val (.double (FP.i2d p4)), .second, .val (.ref d3), .val (.ref b5), .unset, .unset, .unset, .unset, .unset] [])
    refine GoH.st (fun t k => XS.aload X6.here hx rfl (hb hby at_66) rfl rfl  k) ?_
    show GoH _ _ _ _ _ _ _ _ _ _  T6 (mkF m 68 #[.val (.int p1), .val (.int p2), .val (.int p3), .val (.int p4), .val (.int (0 : Int32)), .val (.int (((p2.toUInt32 >>> ((1 : Int32) &&& 31).toUInt32).toInt32) &&& (3 : Int32))), .val (.ref wp2), .val (.ref d3), .val (.double (FP.i2d p4)), .second, .val (.ref d3), .val (.ref b5), .unset, .unset, .unset, .unset, .unset] [(.ref wp2)])
    refine GoH.st (fun t k => XS.aload X6.here hx rfl (hb hby at_68) rfl rfl  k) ?_
    show GoH _ _ _ _ _ _ _ _ _ _  T6 (mkF m 70 #[.val (.int p1), .val (.int p2), .val (.int p3), .val (.int p4), .val (.int (0 : Int32)), .val (.int (((p2.toUInt32 >>> ((1 : Int32) &&& 31).toUInt32).toInt32) &&& (3 : Int32))), .val (.ref wp2), .val (.ref d3), .val (.double (FP.i2d p4)), .second, .val (.ref d3), .val (.ref b5), .unset, .unset, .unset, .unset, .unset] [(.ref d3), (.ref wp2)])
    obtain ⟨_, _, ⟨T7, L7, k7, n7⟩, -, X7, ⟨Lc7, hQ7, l7, y7, z7⟩, st7⟩ := Jvm.LawKit.callS X6 hx (y := (⟨"com/example/nodewell/nodewell/store/ValueTest$Condition", "of", "(Lcom/example/nodewell/nodewell/store/ValueTest$Comparison;Ljava/lang/String;)Lcom/example/nodewell/nodewell/store/ValueTest$Condition;"⟩ : MethodName)) hown (mvT hZ (hw _ (List.mem_of_getElem? (i := 59) rfl))) (mvT hZ (hw _ (List.mem_of_getElem? (i := 60) rfl))) (mvT hZ (hw _ (List.mem_of_getElem? (i := 43) rfl))) (mvT hZ (hw _ (List.mem_of_getElem? (i := 61) rfl))) (by decide) (backOf (W := 0) (rmO1 l Z a0 hw [] wp2 d3 T6.heap n0 O) hZ (hw _ (List.mem_of_getElem? (i := 61) rfl)) (hw _ (List.mem_of_getElem? (i := 43) rfl)) (by decide) (by decide)) (g := (mkF m 70 #[.val (.int p1), .val (.int p2), .val (.int p3), .val (.int p4), .val (.int (0 : Int32)), .val (.int (((p2.toUInt32 >>> ((1 : Int32) &&& 31).toUInt32).toInt32) &&& (3 : Int32))), .val (.ref wp2), .val (.ref d3), .val (.double (FP.i2d p4)), .second, .val (.ref d3), .val (.ref b5), .unset, .unset, .unset, .unset, .unset] [(.ref d3), (.ref wp2)])) rfl (by rw [hml]; rfl) (argsL := [(.ref wp2), (.ref d3)]) (rest := []) (lenOf pd__Lcom_example_nodewell_nodewell_store_ValueTest_Comparison_Ljava_lang_String__Lcom_example_nodewell_nodewell_store_ValueTest_Condition_ rfl) rfl (by show 2 * 0 + _ ≤ _; exact Nat.le_of_eq rfl) (hb hby at_70) (fun _ _ => ⟨rfl, rfl, (by decide : 7 + 1 ≤ _), (by decide : 19 + 3 ≤ _)⟩)
    dsimp only [Pt.U, Pt.locs, Pt.cells, Pt.slots] at X7 l7 y7 z7 st7 hQ7
    subst l7 y7 z7
    obtain ⟨o7, rfl, N7q, E7q, lo7, Eo7, Fo7⟩ := hQ7
    have N7 := Fr.app N6 N7q
    refine GoH.st st7 ?_
    have g_o7 : n0 ≤ o7 := Nat.le_trans (own_le O) lo7
    have Sf_o7 : Safe Z EL T3.vm T6.heap o7 := Safe.new lo7
    have sz_o7 : h0.size ≤ o7 := Nat.le_trans KK.1 lo7
    have ne_b5_o7 : b5 ≠ o7 := Nat.ne_of_lt (Nat.lt_of_lt_of_le E_b5.lt lo7)
    have E7 := E7q
    have E_b5 := E_b5.ext E7
    have Ft6 := Ft6.ext E7
    have Sf_b5 := Safe.ext E7 HH Sf_b5
    have Sf_o7 := Safe.ext E7 HH Sf_o7
    have RR := RR.trans (CHr.ext E7 HH)
    have HH := HH.ext E7
    have hk := Nat.le_trans hk E7.1
    have O := O.ext E7
    have KK := KK.ext E7
    show GoH _ _ _ _ _ _ _ _ _ _  T7 (mkF m 73 #[.val (.int p1), .val (.int p2), .val (.int p3), .val (.int p4), .val (.int (0 : Int32)), .val (.int (((p2.toUInt32 >>> ((1 : Int32) &&& 31).toUInt32).toInt32) &&& (3 : Int32))), .val (.ref wp2), .val (.ref d3), .val (.double (FP.i2d p4)), .second, .val (.ref d3), .val (.ref b5), .unset, .unset, .unset, .unset, .unset] [(.ref o7)])
    refine GoH.st (fun t k => XS.astore X7.here hx rfl (hb hby at_73) rfl rfl (l' := #[.val (.int p1), .val (.int p2), .val (.int p3), .val (.int p4), .val (.int (0 : Int32)), .val (.int (((p2.toUInt32 >>> ((1 : Int32) &&& 31).toUInt32).toInt32) &&& (3 : Int32))), .val (.ref wp2), .val (.ref d3), .val (.double (FP.i2d p4)), .second, .val (.ref d3), .val (.ref b5), .val (.ref o7), .unset, .unset, .unset, .unset]) rfl k) ?_
    show GoH _ _ _ _ _ _ _ _ _ _  T7 (mkF m 75 #[.val (.int p1), .val (.int p2), .val (.int p3), .val (.int p4), .val (.int (0 : Int32)), .val (.int (((p2.toUInt32 >>> ((1 : Int32) &&& 31).toUInt32).toInt32) &&& (3 : Int32))), .val (.ref wp2), .val (.ref d3), .val (.double (FP.i2d p4)), .second, .val (.ref d3), .val (.ref b5), .val (.ref o7), .unset, .unset, .unset, .unset] [])
    refine GoH.st (fun t k => XS.aload X7.here hx rfl (hb hby at_75) rfl rfl  k) ?_
    show GoH _ _ _ _ _ _ _ _ _ _  T7 (mkF m 77 #[.val (.int p1), .val (.int p2), .val (.int p3), .val (.int p4), .val (.int (0 : Int32)), .val (.int (((p2.toUInt32 >>> ((1 : Int32) &&& 31).toUInt32).toInt32) &&& (3 : Int32))), .val (.ref wp2), .val (.ref d3), .val (.double (FP.i2d p4)), .second, .val (.ref d3), .val (.ref b5), .val (.ref o7), .unset, .unset, .unset, .unset] [(.ref wp2)])
    refine GoH.st (fun t k => XS.dload X7.here hx rfl (hb hby at_77) rfl k) ?_
    show GoH _ _ _ _ _ _ _ _ _ _  T7 (mkF m 79 #[.val (.int p1), .val (.int p2), .val (.int p3), .val (.int p4), .val (.int (0 : Int32)), .val (.int (((p2.toUInt32 >>> ((1 : Int32) &&& 31).toUInt32).toInt32) &&& (3 : Int32))), .val (.ref wp2), .val (.ref d3), .val (.double (FP.i2d p4)), .second, .val (.ref d3), .val (.ref b5), .val (.ref o7), .unset, .unset, .unset, .unset] [(.double (FP.i2d p4)), (.ref wp2)])
    obtain ⟨_, _, ⟨T8, L8, k8, n8⟩, -, X8, ⟨Lc8, hQ8, l8, y8, z8⟩, st8⟩ := Jvm.LawKit.callS X7 hx (y := (⟨"com/example/nodewell/nodewell/store/ValueTest$Condition", "of", "(Lcom/example/nodewell/nodewell/store/ValueTest$Comparison;D)Lcom/example/nodewell/nodewell/store/ValueTest$Condition;"⟩ : MethodName)) hown (mvT hZ (hw _ (List.mem_of_getElem? (i := 65) rfl))) (mvT hZ (hw _ (List.mem_of_getElem? (i := 66) rfl))) (mvT hZ (hw _ (List.mem_of_getElem? (i := 43) rfl))) (mvT hZ (hw _ (List.mem_of_getElem? (i := 67) rfl))) (by decide) (backOf (W := 0) (rmO2 l Z a0 hw [] wp2 (FP.i2d p4) T7.heap n0 O) hZ (hw _ (List.mem_of_getElem? (i := 67) rfl)) (hw _ (List.mem_of_getElem? (i := 43) rfl)) (by decide) (by decide)) (g := (mkF m 79 #[.val (.int p1), .val (.int p2), .val (.int p3), .val (.int p4), .val (.int (0 : Int32)), .val (.int (((p2.toUInt32 >>> ((1 : Int32) &&& 31).toUInt32).toInt32) &&& (3 : Int32))), .val (.ref wp2), .val (.ref d3), .val (.double (FP.i2d p4)), .second, .val (.ref d3), .val (.ref b5), .val (.ref o7), .unset, .unset, .unset, .unset] [(.double (FP.i2d p4)), (.ref wp2)])) rfl (by rw [hml]; rfl) (argsL := [(.ref wp2), (.double (FP.i2d p4))]) (rest := []) (lenOf pd__Lcom_example_nodewell_nodewell_store_ValueTest_Comparison_D_Lcom_example_nodewell_nodewell_store_ValueTest_Condition_ rfl) rfl (by show 2 * 0 + _ ≤ _; exact Nat.le_of_eq rfl) (hb hby at_79) (fun _ _ => ⟨rfl, rfl, (by decide : 8 + 1 ≤ _), (by decide : 22 + 3 ≤ _)⟩)
    dsimp only [Pt.U, Pt.locs, Pt.cells, Pt.slots] at X8 l8 y8 z8 st8 hQ8
    subst l8 y8 z8
    obtain ⟨o8, rfl, N8q, E8q, lo8, Eo8, Fo8⟩ := hQ8
    have N8 := Fr.app N7 N8q
    refine GoH.st st8 ?_
    have g_o8 : n0 ≤ o8 := Nat.le_trans (own_le O) lo8
    have Sf_o8 : Safe Z EL T3.vm T7.heap o8 := Safe.new lo8
    have sz_o8 : h0.size ≤ o8 := Nat.le_trans KK.1 lo8
    have ne_b5_o8 : b5 ≠ o8 := Nat.ne_of_lt (Nat.lt_of_lt_of_le E_b5.lt lo8)
    have ne_o7_o8 : o7 ≠ o8 := Nat.ne_of_lt (Nat.lt_of_lt_of_le Eo7.lt lo8)
    have E8 := E8q
    have E_b5 := E_b5.ext E8
    have Ft6 := Ft6.ext E8
    have Eo7 := Eo7.ext E8
    have Fo7 := Fo7.ext E8
    have Sf_b5 := Safe.ext E8 HH Sf_b5
    have Sf_o7 := Safe.ext E8 HH Sf_o7
    have Sf_o8 := Safe.ext E8 HH Sf_o8
    have RR := RR.trans (CHr.ext E8 HH)
    have HH := HH.ext E8
    have hk := Nat.le_trans hk E8.1
    have O := O.ext E8
    have KK := KK.ext E8
    show GoH _ _ _ _ _ _ _ _ _ _  T8 (mkF m 82 #[.val (.int p1), .val (.int p2), .val (.int p3), .val (.int p4), .val (.int (0 : Int32)), .val (.int (((p2.toUInt32 >>> ((1 : Int32) &&& 31).toUInt32).toInt32) &&& (3 : Int32))), .val (.ref wp2), .val (.ref d3), .val (.double (FP.i2d p4)), .second, .val (.ref d3), .val (.ref b5), .val (.ref o7), .unset, .unset, .unset, .unset] [(.ref o8)])
    refine GoH.st (fun t k => XS.astore X8.here hx rfl (hb hby at_82) rfl rfl (l' := #[.val (.int p1), .val (.int p2), .val (.int p3), .val (.int p4), .val (.int (0 : Int32)), .val (.int (((p2.toUInt32 >>> ((1 : Int32) &&& 31).toUInt32).toInt32) &&& (3 : Int32))), .val (.ref wp2), .val (.ref d3), .val (.double (FP.i2d p4)), .second, .val (.ref d3), .val (.ref b5), .val (.ref o7), .val (.ref o8), .unset, .unset, .unset]) rfl k) ?_
    show GoH _ _ _ _ _ _ _ _ _ _  T8 (mkF m 84 #[.val (.int p1), .val (.int p2), .val (.int p3), .val (.int p4), .val (.int (0 : Int32)), .val (.int (((p2.toUInt32 >>> ((1 : Int32) &&& 31).toUInt32).toInt32) &&& (3 : Int32))), .val (.ref wp2), .val (.ref d3), .val (.double (FP.i2d p4)), .second, .val (.ref d3), .val (.ref b5), .val (.ref o7), .val (.ref o8), .unset, .unset, .unset] [])
    refine GoH.st (fun t k => XS.aload X8.here hx rfl (hb hby at_84) rfl rfl  k) ?_
    show GoH _ _ _ _ _ _ _ _ _ _  T8 (mkF m 86 #[.val (.int p1), .val (.int p2), .val (.int p3), .val (.int p4), .val (.int (0 : Int32)), .val (.int (((p2.toUInt32 >>> ((1 : Int32) &&& 31).toUInt32).toInt32) &&& (3 : Int32))), .val (.ref wp2), .val (.ref d3), .val (.double (FP.i2d p4)), .second, .val (.ref d3), .val (.ref b5), .val (.ref o7), .val (.ref o8), .unset, .unset, .unset] [(.ref b5)])
    obtain ⟨cq9, kq9, q9a, q9b, q9c⟩ := isOf hZ rfl E_b5
    obtain ⟨_, _, ⟨T9, L9, k9, n9⟩, -, X9, ⟨Lc9, hQ9, l9, y9, z9⟩, st9⟩ := X8.virtualBack hx (y := (⟨"com/example/nodewell/nodewell/store/ValueTest$Condition", "isNumeric", "()Z"⟩ : MethodName)) (z := (⟨"com/example/nodewell/nodewell/store/ValueTest$Condition", "isNumeric", "()Z"⟩ : MethodName)) hown (mvT hZ (hw _ (List.mem_of_getElem? (i := 68) rfl))) (mvT hZ (hw _ (List.mem_of_getElem? (i := 69) rfl))) (notFace_of_selects (args := #[]) (mvT hZ (hw _ (List.mem_of_getElem? (i := 71) rfl)))) (mvT hZ (hw _ (List.mem_of_getElem? (i := 71) rfl))) (mvT hZ (hw _ (List.mem_of_getElem? (i := 70) rfl))) (by decide) (backOf (W := 0) (rmN l Z a0 hw [] b5 (.ref d3) T8.heap n0 O Ft6 rfl) hZ (hw _ (List.mem_of_getElem? (i := 72) rfl)) (hw _ (List.mem_of_getElem? (i := 43) rfl)) (by decide) (by decide)) q9a q9c (g := (mkF m 86 #[.val (.int p1), .val (.int p2), .val (.int p3), .val (.int p4), .val (.int (0 : Int32)), .val (.int (((p2.toUInt32 >>> ((1 : Int32) &&& 31).toUInt32).toInt32) &&& (3 : Int32))), .val (.ref wp2), .val (.ref d3), .val (.double (FP.i2d p4)), .second, .val (.ref d3), .val (.ref b5), .val (.ref o7), .val (.ref o8), .unset, .unset, .unset] [(.ref b5)])) rfl (by rw [hml]; rfl) (Steps.refl _) (argsL := []) (rest := []) (lenOf pd___Z rfl) rfl (by show 2 * 0 + _ ≤ _; exact Nat.le_of_eq rfl) (hb hby at_86) (fun _ _ => ⟨rfl, rfl, (by decide : 9 + 0 ≤ _), (by decide : 25 + 0 ≤ _)⟩)
    dsimp only [Pt.U, Pt.locs, Pt.cells, Pt.slots] at X9 l9 y9 z9 st9 hQ9
    subst l9 y9 z9
    obtain ⟨rfl, N9q, e9q⟩ := hQ9
    have N9 := Fr.app N8 N9q
    refine GoH.tr st9 ?_
    rw [show (if (.ref d3) = Value.null then (1 : Int32) else 0) = (0 : Int32) from by simp]
    show GoH _ _ _ _ _ _ _ _ _ _  T9 (mkF m 89 #[.val (.int p1), .val (.int p2), .val (.int p3), .val (.int p4), .val (.int (0 : Int32)), .val (.int (((p2.toUInt32 >>> ((1 : Int32) &&& 31).toUInt32).toInt32) &&& (3 : Int32))), .val (.ref wp2), .val (.ref d3), .val (.double (FP.i2d p4)), .second, .val (.ref d3), .val (.ref b5), .val (.ref o7), .val (.ref o8), .unset, .unset, .unset] [(.int (0 : Int32))])
    refine GoH.st (fun t k => XS.iload X9.here hx rfl (hb hby at_89) rfl  k) ?_
    show GoH _ _ _ _ _ _ _ _ _ _  T9 (mkF m 91 #[.val (.int p1), .val (.int p2), .val (.int p3), .val (.int p4), .val (.int (0 : Int32)), .val (.int (((p2.toUInt32 >>> ((1 : Int32) &&& 31).toUInt32).toInt32) &&& (3 : Int32))), .val (.ref wp2), .val (.ref d3), .val (.double (FP.i2d p4)), .second, .val (.ref d3), .val (.ref b5), .val (.ref o7), .val (.ref o8), .unset, .unset, .unset] [(.int (0 : Int32)), (.int (0 : Int32))])
    refine GoH.st (fun t k => XS.icmpNo X9.here hx rfl (hb hby at_91) rfl (teq (rfl : (0 : Int32) = (0 : Int32))).2 k) ?_
    show GoH _ _ _ _ _ _ _ _ _ _  T9 (mkF m 94 #[.val (.int p1), .val (.int p2), .val (.int p3), .val (.int p4), .val (.int (0 : Int32)), .val (.int (((p2.toUInt32 >>> ((1 : Int32) &&& 31).toUInt32).toInt32) &&& (3 : Int32))), .val (.ref wp2), .val (.ref d3), .val (.double (FP.i2d p4)), .second, .val (.ref d3), .val (.ref b5), .val (.ref o7), .val (.ref o8), .unset, .unset, .unset] [])
    refine GoH.st (fun t k => XS.iconst X9.here hx rfl (hb hby at_94) k) ?_
    show GoH _ _ _ _ _ _ _ _ _ _  T9 (mkF m 95 #[.val (.int p1), .val (.int p2), .val (.int p3), .val (.int p4), .val (.int (0 : Int32)), .val (.int (((p2.toUInt32 >>> ((1 : Int32) &&& 31).toUInt32).toInt32) &&& (3 : Int32))), .val (.ref wp2), .val (.ref d3), .val (.double (FP.i2d p4)), .second, .val (.ref d3), .val (.ref b5), .val (.ref o7), .val (.ref o8), .unset, .unset, .unset] [(.int (1 : Int32))])
    refine GoH.st (fun t k => XS.goto X9.here hx rfl (pc0 := 95) (pc' := 99) rfl (hb hby at_95) (by decide) (by decide) k) ?_
    show GoH _ _ _ _ _ _ _ _ _ _  T9 (mkF m 99 #[.val (.int p1), .val (.int p2), .val (.int p3), .val (.int p4), .val (.int (0 : Int32)), .val (.int (((p2.toUInt32 >>> ((1 : Int32) &&& 31).toUInt32).toInt32) &&& (3 : Int32))), .val (.ref wp2), .val (.ref d3), .val (.double (FP.i2d p4)), .second, .val (.ref d3), .val (.ref b5), .val (.ref o7), .val (.ref o8), .unset, .unset, .unset] [(.int (1 : Int32))])
    refine GoH.st (fun t k => XS.istore X9.here hx rfl (hb hby at_99) rfl (l' := #[.val (.int p1), .val (.int p2), .val (.int p3), .val (.int p4), .val (.int (0 : Int32)), .val (.int (((p2.toUInt32 >>> ((1 : Int32) &&& 31).toUInt32).toInt32) &&& (3 : Int32))), .val (.ref wp2), .val (.ref d3), .val (.double (FP.i2d p4)), .second, .val (.ref d3), .val (.ref b5), .val (.ref o7), .val (.ref o8), .val (.int (1 : Int32)), .unset, .unset]) rfl k) ?_
    show GoH _ _ _ _ _ _ _ _ _ _  T9 (mkF m 101 #[.val (.int p1), .val (.int p2), .val (.int p3), .val (.int p4), .val (.int (0 : Int32)), .val (.int (((p2.toUInt32 >>> ((1 : Int32) &&& 31).toUInt32).toInt32) &&& (3 : Int32))), .val (.ref wp2), .val (.ref d3), .val (.double (FP.i2d p4)), .second, .val (.ref d3), .val (.ref b5), .val (.ref o7), .val (.ref o8), .val (.int (1 : Int32)), .unset, .unset] [])
    refine GoH.st (fun t k => XS.aload X9.here hx rfl (hb hby at_101) rfl rfl  k) ?_
    show GoH _ _ _ _ _ _ _ _ _ _  T9 (mkF m 103 #[.val (.int p1), .val (.int p2), .val (.int p3), .val (.int p4), .val (.int (0 : Int32)), .val (.int (((p2.toUInt32 >>> ((1 : Int32) &&& 31).toUInt32).toInt32) &&& (3 : Int32))), .val (.ref wp2), .val (.ref d3), .val (.double (FP.i2d p4)), .second, .val (.ref d3), .val (.ref b5), .val (.ref o7), .val (.ref o8), .val (.int (1 : Int32)), .unset, .unset] [(.ref o7)])
    obtain ⟨cq10, kq10, q10a, q10b, q10c⟩ := isOf hZ e9q Eo7
    obtain ⟨_, _, ⟨T10, L10, k10, n10⟩, -, X10, ⟨Lc10, hQ10, l10, y10, z10⟩, st10⟩ := X9.virtualBack hx (y := (⟨"com/example/nodewell/nodewell/store/ValueTest$Condition", "isNumeric", "()Z"⟩ : MethodName)) (z := (⟨"com/example/nodewell/nodewell/store/ValueTest$Condition", "isNumeric", "()Z"⟩ : MethodName)) hown (mvT hZ (hw _ (List.mem_of_getElem? (i := 68) rfl))) (mvT hZ (hw _ (List.mem_of_getElem? (i := 69) rfl))) (notFace_of_selects (args := #[]) (mvT hZ (hw _ (List.mem_of_getElem? (i := 71) rfl)))) (mvT hZ (hw _ (List.mem_of_getElem? (i := 71) rfl))) (mvT hZ (hw _ (List.mem_of_getElem? (i := 70) rfl))) (by decide) (backOf (W := 0) (rmN l Z a0 hw [] o7 (.ref d3) T8.heap n0 O Fo7 rfl) hZ (hw _ (List.mem_of_getElem? (i := 72) rfl)) (hw _ (List.mem_of_getElem? (i := 43) rfl)) (by decide) (by decide)) q10a q10c (g := (mkF m 103 #[.val (.int p1), .val (.int p2), .val (.int p3), .val (.int p4), .val (.int (0 : Int32)), .val (.int (((p2.toUInt32 >>> ((1 : Int32) &&& 31).toUInt32).toInt32) &&& (3 : Int32))), .val (.ref wp2), .val (.ref d3), .val (.double (FP.i2d p4)), .second, .val (.ref d3), .val (.ref b5), .val (.ref o7), .val (.ref o8), .val (.int (1 : Int32)), .unset, .unset] [(.ref o7)])) rfl (by rw [hml]; rfl) (Steps.refl _) (argsL := []) (rest := []) (lenOf pd___Z rfl) rfl (by show 2 * 0 + _ ≤ _; exact Nat.le_of_eq rfl) (hb hby at_103) (fun _ _ => ⟨rfl, e9q, (by decide : 9 + 0 ≤ _), (by decide : 25 + 0 ≤ _)⟩)
    dsimp only [Pt.U, Pt.locs, Pt.cells, Pt.slots] at X10 l10 y10 z10 st10 hQ10
    subst l10 y10 z10
    obtain ⟨rfl, N10q, e10q⟩ := hQ10
    have N10 := Fr.app N9 N10q
    refine GoH.tr st10 ?_
    rw [show (if (.ref d3) = Value.null then (1 : Int32) else 0) = (0 : Int32) from by simp]
    show GoH _ _ _ _ _ _ _ _ _ _  T10 (mkF m 106 #[.val (.int p1), .val (.int p2), .val (.int p3), .val (.int p4), .val (.int (0 : Int32)), .val (.int (((p2.toUInt32 >>> ((1 : Int32) &&& 31).toUInt32).toInt32) &&& (3 : Int32))), .val (.ref wp2), .val (.ref d3), .val (.double (FP.i2d p4)), .second, .val (.ref d3), .val (.ref b5), .val (.ref o7), .val (.ref o8), .val (.int (1 : Int32)), .unset, .unset] [(.int (0 : Int32))])
    refine GoH.st (fun t k => XS.ifNo X10.here hx rfl (hb hby at_106) rfl ((if0 _ _).trans (teq (rfl : (0 : Int32) = (0 : Int32))).2) k) ?_
    show GoH _ _ _ _ _ _ _ _ _ _  T10 (mkF m 109 #[.val (.int p1), .val (.int p2), .val (.int p3), .val (.int p4), .val (.int (0 : Int32)), .val (.int (((p2.toUInt32 >>> ((1 : Int32) &&& 31).toUInt32).toInt32) &&& (3 : Int32))), .val (.ref wp2), .val (.ref d3), .val (.double (FP.i2d p4)), .second, .val (.ref d3), .val (.ref b5), .val (.ref o7), .val (.ref o8), .val (.int (1 : Int32)), .unset, .unset] [])
    refine GoH.st (fun t k => XS.iconst X10.here hx rfl (hb hby at_109) k) ?_
    show GoH _ _ _ _ _ _ _ _ _ _  T10 (mkF m 110 #[.val (.int p1), .val (.int p2), .val (.int p3), .val (.int p4), .val (.int (0 : Int32)), .val (.int (((p2.toUInt32 >>> ((1 : Int32) &&& 31).toUInt32).toInt32) &&& (3 : Int32))), .val (.ref wp2), .val (.ref d3), .val (.double (FP.i2d p4)), .second, .val (.ref d3), .val (.ref b5), .val (.ref o7), .val (.ref o8), .val (.int (1 : Int32)), .unset, .unset] [(.int (1 : Int32))])
    refine GoH.st (fun t k => XS.goto X10.here hx rfl (pc0 := 110) (pc' := 114) rfl (hb hby at_110) (by decide) (by decide) k) ?_
    show GoH _ _ _ _ _ _ _ _ _ _  T10 (mkF m 114 #[.val (.int p1), .val (.int p2), .val (.int p3), .val (.int p4), .val (.int (0 : Int32)), .val (.int (((p2.toUInt32 >>> ((1 : Int32) &&& 31).toUInt32).toInt32) &&& (3 : Int32))), .val (.ref wp2), .val (.ref d3), .val (.double (FP.i2d p4)), .second, .val (.ref d3), .val (.ref b5), .val (.ref o7), .val (.ref o8), .val (.int (1 : Int32)), .unset, .unset] [(.int (1 : Int32))])
    refine GoH.st (fun t k => XS.istore X10.here hx rfl (hb hby at_114) rfl (l' := #[.val (.int p1), .val (.int p2), .val (.int p3), .val (.int p4), .val (.int (0 : Int32)), .val (.int (((p2.toUInt32 >>> ((1 : Int32) &&& 31).toUInt32).toInt32) &&& (3 : Int32))), .val (.ref wp2), .val (.ref d3), .val (.double (FP.i2d p4)), .second, .val (.ref d3), .val (.ref b5), .val (.ref o7), .val (.ref o8), .val (.int (1 : Int32)), .val (.int (1 : Int32)), .unset]) rfl k) ?_
    show GoH _ _ _ _ _ _ _ _ _ _  T10 (mkF m 116 #[.val (.int p1), .val (.int p2), .val (.int p3), .val (.int p4), .val (.int (0 : Int32)), .val (.int (((p2.toUInt32 >>> ((1 : Int32) &&& 31).toUInt32).toInt32) &&& (3 : Int32))), .val (.ref wp2), .val (.ref d3), .val (.double (FP.i2d p4)), .second, .val (.ref d3), .val (.ref b5), .val (.ref o7), .val (.ref o8), .val (.int (1 : Int32)), .val (.int (1 : Int32)), .unset] [])
    refine GoH.st (fun t k => XS.aload X10.here hx rfl (hb hby at_116) rfl rfl  k) ?_
    show GoH _ _ _ _ _ _ _ _ _ _  T10 (mkF m 118 #[.val (.int p1), .val (.int p2), .val (.int p3), .val (.int p4), .val (.int (0 : Int32)), .val (.int (((p2.toUInt32 >>> ((1 : Int32) &&& 31).toUInt32).toInt32) &&& (3 : Int32))), .val (.ref wp2), .val (.ref d3), .val (.double (FP.i2d p4)), .second, .val (.ref d3), .val (.ref b5), .val (.ref o7), .val (.ref o8), .val (.int (1 : Int32)), .val (.int (1 : Int32)), .unset] [(.ref o8)])
    obtain ⟨cq11, kq11, q11a, q11b, q11c⟩ := isOf hZ e10q Eo8
    obtain ⟨_, _, ⟨T11, L11, k11, n11⟩, -, X11, ⟨Lc11, hQ11, l11, y11, z11⟩, st11⟩ := X10.virtualBack hx (y := (⟨"com/example/nodewell/nodewell/store/ValueTest$Condition", "isNumeric", "()Z"⟩ : MethodName)) (z := (⟨"com/example/nodewell/nodewell/store/ValueTest$Condition", "isNumeric", "()Z"⟩ : MethodName)) hown (mvT hZ (hw _ (List.mem_of_getElem? (i := 68) rfl))) (mvT hZ (hw _ (List.mem_of_getElem? (i := 69) rfl))) (notFace_of_selects (args := #[]) (mvT hZ (hw _ (List.mem_of_getElem? (i := 71) rfl)))) (mvT hZ (hw _ (List.mem_of_getElem? (i := 71) rfl))) (mvT hZ (hw _ (List.mem_of_getElem? (i := 70) rfl))) (by decide) (backOf (W := 0) (rmN l Z a0 hw [] o8 .null T8.heap n0 O Fo8 rfl) hZ (hw _ (List.mem_of_getElem? (i := 72) rfl)) (hw _ (List.mem_of_getElem? (i := 43) rfl)) (by decide) (by decide)) q11a q11c (g := (mkF m 118 #[.val (.int p1), .val (.int p2), .val (.int p3), .val (.int p4), .val (.int (0 : Int32)), .val (.int (((p2.toUInt32 >>> ((1 : Int32) &&& 31).toUInt32).toInt32) &&& (3 : Int32))), .val (.ref wp2), .val (.ref d3), .val (.double (FP.i2d p4)), .second, .val (.ref d3), .val (.ref b5), .val (.ref o7), .val (.ref o8), .val (.int (1 : Int32)), .val (.int (1 : Int32)), .unset] [(.ref o8)])) rfl (by rw [hml]; rfl) (Steps.refl _) (argsL := []) (rest := []) (lenOf pd___Z rfl) rfl (by show 2 * 0 + _ ≤ _; exact Nat.le_of_eq rfl) (hb hby at_118) (fun _ _ => ⟨rfl, e10q, (by decide : 9 + 0 ≤ _), (by decide : 25 + 0 ≤ _)⟩)
    dsimp only [Pt.U, Pt.locs, Pt.cells, Pt.slots] at X11 l11 y11 z11 st11 hQ11
    subst l11 y11 z11
    obtain ⟨rfl, N11q, e11q⟩ := hQ11
    have N11 := Fr.app N10 N11q
    refine GoH.tr st11 ?_
    rw [show (if .null = Value.null then (1 : Int32) else 0) = (1 : Int32) from by simp]
    show GoH _ _ _ _ _ _ _ _ _ _  T11 (mkF m 121 #[.val (.int p1), .val (.int p2), .val (.int p3), .val (.int p4), .val (.int (0 : Int32)), .val (.int (((p2.toUInt32 >>> ((1 : Int32) &&& 31).toUInt32).toInt32) &&& (3 : Int32))), .val (.ref wp2), .val (.ref d3), .val (.double (FP.i2d p4)), .second, .val (.ref d3), .val (.ref b5), .val (.ref o7), .val (.ref o8), .val (.int (1 : Int32)), .val (.int (1 : Int32)), .unset] [(.int (1 : Int32))])
    refine GoH.st (fun t k => XS.istore X11.here hx rfl (hb hby at_121) rfl (l' := #[.val (.int p1), .val (.int p2), .val (.int p3), .val (.int p4), .val (.int (0 : Int32)), .val (.int (((p2.toUInt32 >>> ((1 : Int32) &&& 31).toUInt32).toInt32) &&& (3 : Int32))), .val (.ref wp2), .val (.ref d3), .val (.double (FP.i2d p4)), .second, .val (.ref d3), .val (.ref b5), .val (.ref o7), .val (.ref o8), .val (.int (1 : Int32)), .val (.int (1 : Int32)), .val (.int (1 : Int32))]) rfl k) ?_
    show GoH _ _ _ _ _ _ _ _ _ _  T11 (mkF m 123 #[.val (.int p1), .val (.int p2), .val (.int p3), .val (.int p4), .val (.int (0 : Int32)), .val (.int (((p2.toUInt32 >>> ((1 : Int32) &&& 31).toUInt32).toInt32) &&& (3 : Int32))), .val (.ref wp2), .val (.ref d3), .val (.double (FP.i2d p4)), .second, .val (.ref d3), .val (.ref b5), .val (.ref o7), .val (.ref o8), .val (.int (1 : Int32)), .val (.int (1 : Int32)), .val (.int (1 : Int32))] [])
    refine GoH.st (fun t k => XS.iload X11.here hx rfl (hb hby at_123) rfl  k) ?_
    show GoH _ _ _ _ _ _ _ _ _ _  T11 (mkF m 125 #[.val (.int p1), .val (.int p2), .val (.int p3), .val (.int p4), .val (.int (0 : Int32)), .val (.int (((p2.toUInt32 >>> ((1 : Int32) &&& 31).toUInt32).toInt32) &&& (3 : Int32))), .val (.ref wp2), .val (.ref d3), .val (.double (FP.i2d p4)), .second, .val (.ref d3), .val (.ref b5), .val (.ref o7), .val (.ref o8), .val (.int (1 : Int32)), .val (.int (1 : Int32)), .val (.int (1 : Int32))] [(.int (1 : Int32))])
    refine GoH.st (fun t k => XS.ifNo X11.here hx rfl (hb hby at_125) rfl ((if0 _ _).trans (feq (by decide : ¬ ((1 : Int32) = (0 : Int32)))).1) k) ?_
    show GoH _ _ _ _ _ _ _ _ _ _  T11 (mkF m 128 #[.val (.int p1), .val (.int p2), .val (.int p3), .val (.int p4), .val (.int (0 : Int32)), .val (.int (((p2.toUInt32 >>> ((1 : Int32) &&& 31).toUInt32).toInt32) &&& (3 : Int32))), .val (.ref wp2), .val (.ref d3), .val (.double (FP.i2d p4)), .second, .val (.ref d3), .val (.ref b5), .val (.ref o7), .val (.ref o8), .val (.int (1 : Int32)), .val (.int (1 : Int32)), .val (.int (1 : Int32))] [])
    refine GoH.st (fun t k => XS.iload X11.here hx rfl (hb hby at_128) rfl  k) ?_
    show GoH _ _ _ _ _ _ _ _ _ _  T11 (mkF m 130 #[.val (.int p1), .val (.int p2), .val (.int p3), .val (.int p4), .val (.int (0 : Int32)), .val (.int (((p2.toUInt32 >>> ((1 : Int32) &&& 31).toUInt32).toInt32) &&& (3 : Int32))), .val (.ref wp2), .val (.ref d3), .val (.double (FP.i2d p4)), .second, .val (.ref d3), .val (.ref b5), .val (.ref o7), .val (.ref o8), .val (.int (1 : Int32)), .val (.int (1 : Int32)), .val (.int (1 : Int32))] [(.int (1 : Int32))])
    refine GoH.st (fun t k => XS.ifNo X11.here hx rfl (hb hby at_130) rfl ((if0 _ _).trans (feq (by decide : ¬ ((1 : Int32) = (0 : Int32)))).1) k) ?_
    show GoH _ _ _ _ _ _ _ _ _ _  T11 (mkF m 133 #[.val (.int p1), .val (.int p2), .val (.int p3), .val (.int p4), .val (.int (0 : Int32)), .val (.int (((p2.toUInt32 >>> ((1 : Int32) &&& 31).toUInt32).toInt32) &&& (3 : Int32))), .val (.ref wp2), .val (.ref d3), .val (.double (FP.i2d p4)), .second, .val (.ref d3), .val (.ref b5), .val (.ref o7), .val (.ref o8), .val (.int (1 : Int32)), .val (.int (1 : Int32)), .val (.int (1 : Int32))] [])
    refine GoH.st (fun t k => XS.iload X11.here hx rfl (hb hby at_133) rfl  k) ?_
    show GoH _ _ _ _ _ _ _ _ _ _  T11 (mkF m 135 #[.val (.int p1), .val (.int p2), .val (.int p3), .val (.int p4), .val (.int (0 : Int32)), .val (.int (((p2.toUInt32 >>> ((1 : Int32) &&& 31).toUInt32).toInt32) &&& (3 : Int32))), .val (.ref wp2), .val (.ref d3), .val (.double (FP.i2d p4)), .second, .val (.ref d3), .val (.ref b5), .val (.ref o7), .val (.ref o8), .val (.int (1 : Int32)), .val (.int (1 : Int32)), .val (.int (1 : Int32))] [(.int (1 : Int32))])
    refine GoH.st (fun t k => XS.ifNo X11.here hx rfl (hb hby at_135) rfl ((if0 _ _).trans (feq (by decide : ¬ ((1 : Int32) = (0 : Int32)))).1) k) ?_
    show GoH _ _ _ _ _ _ _ _ _ _  T11 (mkF m 138 #[.val (.int p1), .val (.int p2), .val (.int p3), .val (.int p4), .val (.int (0 : Int32)), .val (.int (((p2.toUInt32 >>> ((1 : Int32) &&& 31).toUInt32).toInt32) &&& (3 : Int32))), .val (.ref wp2), .val (.ref d3), .val (.double (FP.i2d p4)), .second, .val (.ref d3), .val (.ref b5), .val (.ref o7), .val (.ref o8), .val (.int (1 : Int32)), .val (.int (1 : Int32)), .val (.int (1 : Int32))] [])
    refine GoH.st (fun t k => XS.iconst X11.here hx rfl (hb hby at_138) k) ?_
    show GoH _ _ _ _ _ _ _ _ _ _  T11 (mkF m 139 #[.val (.int p1), .val (.int p2), .val (.int p3), .val (.int p4), .val (.int (0 : Int32)), .val (.int (((p2.toUInt32 >>> ((1 : Int32) &&& 31).toUInt32).toInt32) &&& (3 : Int32))), .val (.ref wp2), .val (.ref d3), .val (.double (FP.i2d p4)), .second, .val (.ref d3), .val (.ref b5), .val (.ref o7), .val (.ref o8), .val (.int (1 : Int32)), .val (.int (1 : Int32)), .val (.int (1 : Int32))] [(.int (1 : Int32))])
    refine GoH.st (fun t k => XS.goto X11.here hx rfl (pc0 := 139) (pc' := 143) rfl (hb hby at_139) (by decide) (by decide) k) ?_
    show GoH _ _ _ _ _ _ _ _ _ _  T11 (mkF m 143 #[.val (.int p1), .val (.int p2), .val (.int p3), .val (.int p4), .val (.int (0 : Int32)), .val (.int (((p2.toUInt32 >>> ((1 : Int32) &&& 31).toUInt32).toInt32) &&& (3 : Int32))), .val (.ref wp2), .val (.ref d3), .val (.double (FP.i2d p4)), .second, .val (.ref d3), .val (.ref b5), .val (.ref o7), .val (.ref o8), .val (.int (1 : Int32)), .val (.int (1 : Int32)), .val (.int (1 : Int32))] [(.int (1 : Int32))])
    refine GoH.retN X11 hS hk e11q hZ hEL HH RR hlk hx (t := .boolean) (z' := (1 : Int32)) Bd.returns (by simp) (hb hby at_143) (by decide) (by decide) rfl ?_
    show Q_rm0 Z _ _ _ _ _ _ _ _ _ _ h0 n0 _ T11.heap _
    rw [e11q]
    exact ⟨rfl, N11⟩
  · rw [sp4]
    show GoH _ _ _ _ _ _ _ _ _ _  T3 (mkF m 38 #[.val (.int p1), .val (.int p2), .val (.int p3), .val (.int p4), .val (.int (1 : Int32)), .val (.int (((p2.toUInt32 >>> ((1 : Int32) &&& 31).toUInt32).toInt32) &&& (3 : Int32))), .val (.ref wp2), .val (.ref d3), .val (.double (FP.i2d p4)), .second, .unset, .unset, .unset, .unset, .unset, .unset, .unset] [])
    refine GoH.st (fun t k => XS.iload X3.here hx rfl (hb hby at_38) rfl  k) ?_
    show GoH _ _ _ _ _ _ _ _ _ _  T3 (mkF m 40 #[.val (.int p1), .val (.int p2), .val (.int p3), .val (.int p4), .val (.int (1 : Int32)), .val (.int (((p2.toUInt32 >>> ((1 : Int32) &&& 31).toUInt32).toInt32) &&& (3 : Int32))), .val (.ref wp2), .val (.ref d3), .val (.double (FP.i2d p4)), .second, .unset, .unset, .unset, .unset, .unset, .unset, .unset] [(.int (1 : Int32))])
    refine GoH.st (fun t k => XS.ifNo X3.here hx rfl (hb hby at_40) rfl ((if0 _ _).trans (feq (by decide : ¬ ((1 : Int32) = (0 : Int32)))).1) k) ?_
    show GoH _ _ _ _ _ _ _ _ _ _  T3 (mkF m 43 #[.val (.int p1), .val (.int p2), .val (.int p3), .val (.int p4), .val (.int (1 : Int32)), .val (.int (((p2.toUInt32 >>> ((1 : Int32) &&& 31).toUInt32).toInt32) &&& (3 : Int32))), .val (.ref wp2), .val (.ref d3), .val (.double (FP.i2d p4)), .second, .unset, .unset, .unset, .unset, .unset, .unset, .unset] [])
    refine GoH.st (fun t k => XS.aconstNull X3.here hx rfl (hb hby at_43) k) ?_
    show GoH _ _ _ _ _ _ _ _ _ _  T3 (mkF m 44 #[.val (.int p1), .val (.int p2), .val (.int p3), .val (.int p4), .val (.int (1 : Int32)), .val (.int (((p2.toUInt32 >>> ((1 : Int32) &&& 31).toUInt32).toInt32) &&& (3 : Int32))), .val (.ref wp2), .val (.ref d3), .val (.double (FP.i2d p4)), .second, .unset, .unset, .unset, .unset, .unset, .unset, .unset] [.null])
    refine GoH.st (fun t k => XS.goto X3.here hx rfl (pc0 := 44) (pc' := 49) rfl (hb hby at_44) (by decide) (by decide) k) ?_
    show GoH _ _ _ _ _ _ _ _ _ _  T3 (mkF m 49 #[.val (.int p1), .val (.int p2), .val (.int p3), .val (.int p4), .val (.int (1 : Int32)), .val (.int (((p2.toUInt32 >>> ((1 : Int32) &&& 31).toUInt32).toInt32) &&& (3 : Int32))), .val (.ref wp2), .val (.ref d3), .val (.double (FP.i2d p4)), .second, .unset, .unset, .unset, .unset, .unset, .unset, .unset] [.null])
    refine GoH.st (fun t k => XS.astore X3.here hx rfl (hb hby at_49) rfl rfl (l' := #[.val (.int p1), .val (.int p2), .val (.int p3), .val (.int p4), .val (.int (1 : Int32)), .val (.int (((p2.toUInt32 >>> ((1 : Int32) &&& 31).toUInt32).toInt32) &&& (3 : Int32))), .val (.ref wp2), .val (.ref d3), .val (.double (FP.i2d p4)), .second, .val .null, .unset, .unset, .unset, .unset, .unset, .unset]) rfl k) ?_
    show GoH _ _ _ _ _ _ _ _ _ _  T3 (mkF m 51 #[.val (.int p1), .val (.int p2), .val (.int p3), .val (.int p4), .val (.int (1 : Int32)), .val (.int (((p2.toUInt32 >>> ((1 : Int32) &&& 31).toUInt32).toInt32) &&& (3 : Int32))), .val (.ref wp2), .val (.ref d3), .val (.double (FP.i2d p4)), .second, .val .null, .unset, .unset, .unset, .unset, .unset, .unset] [])
    obtain ⟨T12, h12, X12, e12, E12, A12, D12, -, st12⟩ := newO X3 hx hZ hown (hw _ (List.mem_of_getElem? (i := 41) rfl)) (hw _ (List.mem_of_getElem? (i := 42) rfl)) (hw _ (List.mem_of_getElem? (i := 43) rfl)) rfl (g := (mkF m 51 #[.val (.int p1), .val (.int p2), .val (.int p3), .val (.int p4), .val (.int (1 : Int32)), .val (.int (((p2.toUInt32 >>> ((1 : Int32) &&& 31).toUInt32).toInt32) &&& (3 : Int32))), .val (.ref wp2), .val (.ref d3), .val (.double (FP.i2d p4)), .second, .val .null, .unset, .unset, .unset, .unset, .unset, .unset] [])) rfl (hb hby at_51) (by decide) (by decide)
    obtain ⟨b12, g12⟩ : ∃ z, z = T3.heap.size := ⟨_, rfl⟩
    rw [← g12] at A12 D12 st12
    refine GoH.st st12 ?_
    have g_b12 : n0 ≤ b12 := by rw [g12]; exact own_le O
    have Sf_b12 : Safe Z EL T3.vm T3.heap b12 := Safe.new (Nat.le_of_eq g12.symm)
    have sz_b12 : h0.size ≤ b12 := by rw [g12]; exact KK.1
    have Sf_b12 := Safe.ext E12 HH Sf_b12
    have RR := RR.trans (CHr.ext E12 HH)
    have HH := HH.ext E12
    have hk := Nat.le_trans hk E12.1
    have O := O.ext E12
    have KK := KK.ext E12
    have E_b12 := A12
    have F_comparison_b12 : Fld Z h12 b12 "com/example/nodewell/nodewell/store/ValueTest$Condition" "comparison" "Lcom/example/nodewell/nodewell/store/ValueTest$Comparison;" .null := D12 (Or.inr (hw _ (List.mem_of_getElem? (i := 54) rfl))) (ty := (.object "com/example/nodewell/nodewell/store/ValueTest$Comparison")) (by decide)
    have F_text_b12 : Fld Z h12 b12 "com/example/nodewell/nodewell/store/ValueTest$Condition" "text" "Ljava/lang/String;" .null := D12 (Or.inr (hw _ (List.mem_of_getElem? (i := 56) rfl))) (ty := (.object "java/lang/String")) (by decide)
    have F_number_b12 : Fld Z h12 b12 "com/example/nodewell/nodewell/store/ValueTest$Condition" "number" "D" (defaultValue .double) := D12 (Or.inr (hw _ (List.mem_of_getElem? (i := 58) rfl))) (ty := .double) (by decide)
    show GoH _ _ _ _ _ _ _ _ _ _  T12 (mkF m 54 #[.val (.int p1), .val (.int p2), .val (.int p3), .val (.int p4), .val (.int (1 : Int32)), .val (.int (((p2.toUInt32 >>> ((1 : Int32) &&& 31).toUInt32).toInt32) &&& (3 : Int32))), .val (.ref wp2), .val (.ref d3), .val (.double (FP.i2d p4)), .second, .val .null, .unset, .unset, .unset, .unset, .unset, .unset] [(.ref b12)])
    refine GoH.st (fun t k => XS.dup X12.here hx rfl (hb hby at_54) rfl rfl k) ?_
    show GoH _ _ _ _ _ _ _ _ _ _  T12 (mkF m 55 #[.val (.int p1), .val (.int p2), .val (.int p3), .val (.int p4), .val (.int (1 : Int32)), .val (.int (((p2.toUInt32 >>> ((1 : Int32) &&& 31).toUInt32).toInt32) &&& (3 : Int32))), .val (.ref wp2), .val (.ref d3), .val (.double (FP.i2d p4)), .second, .val .null, .unset, .unset, .unset, .unset, .unset, .unset] [(.ref b12), (.ref b12)])
    refine GoH.st (fun t k => XS.aload X12.here hx rfl (hb hby at_55) rfl rfl  k) ?_
    show GoH _ _ _ _ _ _ _ _ _ _  T12 (mkF m 57 #[.val (.int p1), .val (.int p2), .val (.int p3), .val (.int p4), .val (.int (1 : Int32)), .val (.int (((p2.toUInt32 >>> ((1 : Int32) &&& 31).toUInt32).toInt32) &&& (3 : Int32))), .val (.ref wp2), .val (.ref d3), .val (.double (FP.i2d p4)), .second, .val .null, .unset, .unset, .unset, .unset, .unset, .unset] [(.ref wp2), (.ref b12), (.ref b12)])
    refine GoH.st (fun t k => XS.aload X12.here hx rfl (hb hby at_57) rfl rfl  k) ?_
    show GoH _ _ _ _ _ _ _ _ _ _  T12 (mkF m 59 #[.val (.int p1), .val (.int p2), .val (.int p3), .val (.int p4), .val (.int (1 : Int32)), .val (.int (((p2.toUInt32 >>> ((1 : Int32) &&& 31).toUInt32).toInt32) &&& (3 : Int32))), .val (.ref wp2), .val (.ref d3), .val (.double (FP.i2d p4)), .second, .val .null, .unset, .unset, .unset, .unset, .unset, .unset] [.null, (.ref wp2), (.ref b12), (.ref b12)])
    refine GoH.st (fun t k => XS.dload X12.here hx rfl (hb hby at_59) rfl k) ?_
    show GoH _ _ _ _ _ _ _ _ _ _  T12 (mkF m 61 #[.val (.int p1), .val (.int p2), .val (.int p3), .val (.int p4), .val (.int (1 : Int32)), .val (.int (((p2.toUInt32 >>> ((1 : Int32) &&& 31).toUInt32).toInt32) &&& (3 : Int32))), .val (.ref wp2), .val (.ref d3), .val (.double (FP.i2d p4)), .second, .val .null, .unset, .unset, .unset, .unset, .unset, .unset] [(.double (FP.i2d p4)), .null, (.ref wp2), (.ref b12), (.ref b12)])
    obtain ⟨_, _, ⟨T13, L13, k13, n13⟩, -, X13, ⟨Lc13, hQ13, l13, y13, z13⟩, st13⟩ := X12.specialBack hx (y := (⟨"com/example/nodewell/nodewell/store/ValueTest$Condition", "<init>", "(Lcom/example/nodewell/nodewell/store/ValueTest$Comparison;Ljava/lang/String;D)V"⟩ : MethodName)) rfl hown (mvT hZ (hw _ (List.mem_of_getElem? (i := 44) rfl))) (mvT hZ (hw _ (List.mem_of_getElem? (i := 45) rfl))) (mvT hZ (hw _ (List.mem_of_getElem? (i := 46) rfl))) (by decide) (backOf (W := 1) (rmC l Z a0 hw [] b12 wp2 .null (FP.i2d p4) h12 n0 O E_b12 F_comparison_b12 F_text_b12 F_number_b12 g_b12 rfl) hZ (hw _ (List.mem_of_getElem? (i := 46) rfl)) (hw _ (List.mem_of_getElem? (i := 43) rfl)) (by decide) (by decide)) (g := (mkF m 61 #[.val (.int p1), .val (.int p2), .val (.int p3), .val (.int p4), .val (.int (1 : Int32)), .val (.int (((p2.toUInt32 >>> ((1 : Int32) &&& 31).toUInt32).toInt32) &&& (3 : Int32))), .val (.ref wp2), .val (.ref d3), .val (.double (FP.i2d p4)), .second, .val .null, .unset, .unset, .unset, .unset, .unset, .unset] [(.double (FP.i2d p4)), .null, (.ref wp2), (.ref b12), (.ref b12)])) rfl (by rw [hml]; rfl) (Steps.refl _) (a := b12) (argsL := [(.ref wp2), .null, (.double (FP.i2d p4))]) (rest := [(.ref b12)]) (lenOf pd__Lcom_example_nodewell_nodewell_store_ValueTest_Comparison_Ljava_lang_String_D_V rfl) rfl (by show 2 * 0 + _ ≤ _; exact Nat.le_of_eq rfl) (hb hby at_61) (fun _ _ => ⟨rfl, e12, (by decide : 7 + 0 ≤ _), (by decide : 19 + 0 ≤ _)⟩)
    dsimp only [Pt.U, Pt.locs, Pt.cells, Pt.slots] at X13 l13 y13 z13 st13 hQ13
    subst l13 y13 z13
    obtain ⟨rfl, N13q, K13q, Eq13, Ft13⟩ := hQ13
    have N13 := Fr.app N3 N13q
    refine GoH.tr st13 ?_
    have E_b12 := E_b12.keep K13q
    have sfw13 := (sfS Sf_b12 sf0)
    have Sf_b12 := Safe.keep K13q sfw13 HH Sf_b12
    have RR := RR.trans (CHr.keep K13q sfw13 HH)
    have HH := HH.keep K13q sfw13
    have hk := Nat.le_trans hk K13q.1
    have O := O.keep K13q (allS g_b12 all0)
    have KK := KK.trans K13q (allS (Or.inr sz_b12) all0)
    have E_b12 := Eq13
    show GoH _ _ _ _ _ _ _ _ _ _  T13 (mkF m 64 #[.val (.int p1), .val (.int p2), .val (.int p3), .val (.int p4), .val (.int (1 : Int32)), .val (.int (((p2.toUInt32 >>> ((1 : Int32) &&& 31).toUInt32).toInt32) &&& (3 : Int32))), .val (.ref wp2), .val (.ref d3), .val (.double (FP.i2d p4)), .second, .val .null, .unset, .unset, .unset, .unset, .unset, .unset] [(.ref b12)])
    refine GoH.st (fun t k => XS.astore X13.here hx rfl (hb hby at_64) rfl rfl (l' := #[.val (.int p1), .val (.int p2), .val (.int p3), .val (.int p4), .val (.int (1 : Int32)), .val (.int (((p2.toUInt32 >>> ((1 : Int32) &&& 31).toUInt32).toInt32) &&& (3 : Int32))), .val (.ref wp2), .val (.ref d3), .val (.double (FP.i2d p4)), .second, .val .null, .val (.ref b12), .unset, .unset, .unset, .unset, .unset]) rfl k) ?_
    show GoH _ _ _ _ _ _ _ _ _ _  T13 (mkF m 66 #[.val (.int p1), .val (.int p2), .val (.int p3), .val (.int p4), .val (.int (1 : Int32)), .val (.int (((p2.toUInt32 >>> ((1 : Int32) &&& 31).toUInt32).toInt32) &&& (3 : Int32))), .val (.ref wp2), .val (.ref d3), .val (.double (FP.i2d p4)), .second, .val .null, .val (.ref b12), .unset, .unset, .unset, .unset, .unset] [])
    refine GoH.st (fun t k => XS.aload X13.here hx rfl (hb hby at_66) rfl rfl  k) ?_
    show GoH _ _ _ _ _ _ _ _ _ _  T13 (mkF m 68 #[.val (.int p1), .val (.int p2), .val (.int p3), .val (.int p4), .val (.int (1 : Int32)), .val (.int (((p2.toUInt32 >>> ((1 : Int32) &&& 31).toUInt32).toInt32) &&& (3 : Int32))), .val (.ref wp2), .val (.ref d3), .val (.double (FP.i2d p4)), .second, .val .null, .val (.ref b12), .unset, .unset, .unset, .unset, .unset] [(.ref wp2)])
    refine GoH.st (fun t k => XS.aload X13.here hx rfl (hb hby at_68) rfl rfl  k) ?_
    show GoH _ _ _ _ _ _ _ _ _ _  T13 (mkF m 70 #[.val (.int p1), .val (.int p2), .val (.int p3), .val (.int p4), .val (.int (1 : Int32)), .val (.int (((p2.toUInt32 >>> ((1 : Int32) &&& 31).toUInt32).toInt32) &&& (3 : Int32))), .val (.ref wp2), .val (.ref d3), .val (.double (FP.i2d p4)), .second, .val .null, .val (.ref b12), .unset, .unset, .unset, .unset, .unset] [(.ref d3), (.ref wp2)])
    obtain ⟨_, _, ⟨T14, L14, k14, n14⟩, -, X14, ⟨Lc14, hQ14, l14, y14, z14⟩, st14⟩ := Jvm.LawKit.callS X13 hx (y := (⟨"com/example/nodewell/nodewell/store/ValueTest$Condition", "of", "(Lcom/example/nodewell/nodewell/store/ValueTest$Comparison;Ljava/lang/String;)Lcom/example/nodewell/nodewell/store/ValueTest$Condition;"⟩ : MethodName)) hown (mvT hZ (hw _ (List.mem_of_getElem? (i := 59) rfl))) (mvT hZ (hw _ (List.mem_of_getElem? (i := 60) rfl))) (mvT hZ (hw _ (List.mem_of_getElem? (i := 43) rfl))) (mvT hZ (hw _ (List.mem_of_getElem? (i := 61) rfl))) (by decide) (backOf (W := 0) (rmO1 l Z a0 hw [] wp2 d3 T13.heap n0 O) hZ (hw _ (List.mem_of_getElem? (i := 61) rfl)) (hw _ (List.mem_of_getElem? (i := 43) rfl)) (by decide) (by decide)) (g := (mkF m 70 #[.val (.int p1), .val (.int p2), .val (.int p3), .val (.int p4), .val (.int (1 : Int32)), .val (.int (((p2.toUInt32 >>> ((1 : Int32) &&& 31).toUInt32).toInt32) &&& (3 : Int32))), .val (.ref wp2), .val (.ref d3), .val (.double (FP.i2d p4)), .second, .val .null, .val (.ref b12), .unset, .unset, .unset, .unset, .unset] [(.ref d3), (.ref wp2)])) rfl (by rw [hml]; rfl) (argsL := [(.ref wp2), (.ref d3)]) (rest := []) (lenOf pd__Lcom_example_nodewell_nodewell_store_ValueTest_Comparison_Ljava_lang_String__Lcom_example_nodewell_nodewell_store_ValueTest_Condition_ rfl) rfl (by show 2 * 0 + _ ≤ _; exact Nat.le_of_eq rfl) (hb hby at_70) (fun _ _ => ⟨rfl, rfl, (by decide : 7 + 1 ≤ _), (by decide : 19 + 3 ≤ _)⟩)
    dsimp only [Pt.U, Pt.locs, Pt.cells, Pt.slots] at X14 l14 y14 z14 st14 hQ14
    subst l14 y14 z14
    obtain ⟨o14, rfl, N14q, E14q, lo14, Eo14, Fo14⟩ := hQ14
    have N14 := Fr.app N13 N14q
    refine GoH.st st14 ?_
    have g_o14 : n0 ≤ o14 := Nat.le_trans (own_le O) lo14
    have Sf_o14 : Safe Z EL T3.vm T13.heap o14 := Safe.new lo14
    have sz_o14 : h0.size ≤ o14 := Nat.le_trans KK.1 lo14
    have ne_b12_o14 : b12 ≠ o14 := Nat.ne_of_lt (Nat.lt_of_lt_of_le E_b12.lt lo14)
    have E14 := E14q
    have E_b12 := E_b12.ext E14
    have Ft13 := Ft13.ext E14
    have Sf_b12 := Safe.ext E14 HH Sf_b12
    have Sf_o14 := Safe.ext E14 HH Sf_o14
    have RR := RR.trans (CHr.ext E14 HH)
    have HH := HH.ext E14
    have hk := Nat.le_trans hk E14.1
    have O := O.ext E14
    have KK := KK.ext E14
    show GoH _ _ _ _ _ _ _ _ _ _  T14 (mkF m 73 #[.val (.int p1), .val (.int p2), .val (.int p3), .val (.int p4), .val (.int (1 : Int32)), .val (.int (((p2.toUInt32 >>> ((1 : Int32) &&& 31).toUInt32).toInt32) &&& (3 : Int32))), .val (.ref wp2), .val (.ref d3), .val (.double (FP.i2d p4)), .second, .val .null, .val (.ref b12), .unset, .unset, .unset, .unset, .unset] [(.ref o14)])
    refine GoH.st (fun t k => XS.astore X14.here hx rfl (hb hby at_73) rfl rfl (l' := #[.val (.int p1), .val (.int p2), .val (.int p3), .val (.int p4), .val (.int (1 : Int32)), .val (.int (((p2.toUInt32 >>> ((1 : Int32) &&& 31).toUInt32).toInt32) &&& (3 : Int32))), .val (.ref wp2), .val (.ref d3), .val (.double (FP.i2d p4)), .second, .val .null, .val (.ref b12), .val (.ref o14), .unset, .unset, .unset, .unset]) rfl k) ?_
    show GoH _ _ _ _ _ _ _ _ _ _  T14 (mkF m 75 #[.val (.int p1), .val (.int p2), .val (.int p3), .val (.int p4), .val (.int (1 : Int32)), .val (.int (((p2.toUInt32 >>> ((1 : Int32) &&& 31).toUInt32).toInt32) &&& (3 : Int32))), .val (.ref wp2), .val (.ref d3), .val (.double (FP.i2d p4)), .second, .val .null, .val (.ref b12), .val (.ref o14), .unset, .unset, .unset, .unset] [])
    refine GoH.st (fun t k => XS.aload X14.here hx rfl (hb hby at_75) rfl rfl  k) ?_
    show GoH _ _ _ _ _ _ _ _ _ _  T14 (mkF m 77 #[.val (.int p1), .val (.int p2), .val (.int p3), .val (.int p4), .val (.int (1 : Int32)), .val (.int (((p2.toUInt32 >>> ((1 : Int32) &&& 31).toUInt32).toInt32) &&& (3 : Int32))), .val (.ref wp2), .val (.ref d3), .val (.double (FP.i2d p4)), .second, .val .null, .val (.ref b12), .val (.ref o14), .unset, .unset, .unset, .unset] [(.ref wp2)])
    refine GoH.st (fun t k => XS.dload X14.here hx rfl (hb hby at_77) rfl k) ?_
    show GoH _ _ _ _ _ _ _ _ _ _  T14 (mkF m 79 #[.val (.int p1), .val (.int p2), .val (.int p3), .val (.int p4), .val (.int (1 : Int32)), .val (.int (((p2.toUInt32 >>> ((1 : Int32) &&& 31).toUInt32).toInt32) &&& (3 : Int32))), .val (.ref wp2), .val (.ref d3), .val (.double (FP.i2d p4)), .second, .val .null, .val (.ref b12), .val (.ref o14), .unset, .unset, .unset, .unset] [(.double (FP.i2d p4)), (.ref wp2)])
    obtain ⟨_, _, ⟨T15, L15, k15, n15⟩, -, X15, ⟨Lc15, hQ15, l15, y15, z15⟩, st15⟩ := Jvm.LawKit.callS X14 hx (y := (⟨"com/example/nodewell/nodewell/store/ValueTest$Condition", "of", "(Lcom/example/nodewell/nodewell/store/ValueTest$Comparison;D)Lcom/example/nodewell/nodewell/store/ValueTest$Condition;"⟩ : MethodName)) hown (mvT hZ (hw _ (List.mem_of_getElem? (i := 65) rfl))) (mvT hZ (hw _ (List.mem_of_getElem? (i := 66) rfl))) (mvT hZ (hw _ (List.mem_of_getElem? (i := 43) rfl))) (mvT hZ (hw _ (List.mem_of_getElem? (i := 67) rfl))) (by decide) (backOf (W := 0) (rmO2 l Z a0 hw [] wp2 (FP.i2d p4) T14.heap n0 O) hZ (hw _ (List.mem_of_getElem? (i := 67) rfl)) (hw _ (List.mem_of_getElem? (i := 43) rfl)) (by decide) (by decide)) (g := (mkF m 79 #[.val (.int p1), .val (.int p2), .val (.int p3), .val (.int p4), .val (.int (1 : Int32)), .val (.int (((p2.toUInt32 >>> ((1 : Int32) &&& 31).toUInt32).toInt32) &&& (3 : Int32))), .val (.ref wp2), .val (.ref d3), .val (.double (FP.i2d p4)), .second, .val .null, .val (.ref b12), .val (.ref o14), .unset, .unset, .unset, .unset] [(.double (FP.i2d p4)), (.ref wp2)])) rfl (by rw [hml]; rfl) (argsL := [(.ref wp2), (.double (FP.i2d p4))]) (rest := []) (lenOf pd__Lcom_example_nodewell_nodewell_store_ValueTest_Comparison_D_Lcom_example_nodewell_nodewell_store_ValueTest_Condition_ rfl) rfl (by show 2 * 0 + _ ≤ _; exact Nat.le_of_eq rfl) (hb hby at_79) (fun _ _ => ⟨rfl, rfl, (by decide : 8 + 1 ≤ _), (by decide : 22 + 3 ≤ _)⟩)
    dsimp only [Pt.U, Pt.locs, Pt.cells, Pt.slots] at X15 l15 y15 z15 st15 hQ15
    subst l15 y15 z15
    obtain ⟨o15, rfl, N15q, E15q, lo15, Eo15, Fo15⟩ := hQ15
    have N15 := Fr.app N14 N15q
    refine GoH.st st15 ?_
    have g_o15 : n0 ≤ o15 := Nat.le_trans (own_le O) lo15
    have Sf_o15 : Safe Z EL T3.vm T14.heap o15 := Safe.new lo15
    have sz_o15 : h0.size ≤ o15 := Nat.le_trans KK.1 lo15
    have ne_b12_o15 : b12 ≠ o15 := Nat.ne_of_lt (Nat.lt_of_lt_of_le E_b12.lt lo15)
    have ne_o14_o15 : o14 ≠ o15 := Nat.ne_of_lt (Nat.lt_of_lt_of_le Eo14.lt lo15)
    have E15 := E15q
    have E_b12 := E_b12.ext E15
    have Ft13 := Ft13.ext E15
    have Eo14 := Eo14.ext E15
    have Fo14 := Fo14.ext E15
    have Sf_b12 := Safe.ext E15 HH Sf_b12
    have Sf_o14 := Safe.ext E15 HH Sf_o14
    have Sf_o15 := Safe.ext E15 HH Sf_o15
    have RR := RR.trans (CHr.ext E15 HH)
    have HH := HH.ext E15
    have hk := Nat.le_trans hk E15.1
    have O := O.ext E15
    have KK := KK.ext E15
    show GoH _ _ _ _ _ _ _ _ _ _  T15 (mkF m 82 #[.val (.int p1), .val (.int p2), .val (.int p3), .val (.int p4), .val (.int (1 : Int32)), .val (.int (((p2.toUInt32 >>> ((1 : Int32) &&& 31).toUInt32).toInt32) &&& (3 : Int32))), .val (.ref wp2), .val (.ref d3), .val (.double (FP.i2d p4)), .second, .val .null, .val (.ref b12), .val (.ref o14), .unset, .unset, .unset, .unset] [(.ref o15)])
    refine GoH.st (fun t k => XS.astore X15.here hx rfl (hb hby at_82) rfl rfl (l' := #[.val (.int p1), .val (.int p2), .val (.int p3), .val (.int p4), .val (.int (1 : Int32)), .val (.int (((p2.toUInt32 >>> ((1 : Int32) &&& 31).toUInt32).toInt32) &&& (3 : Int32))), .val (.ref wp2), .val (.ref d3), .val (.double (FP.i2d p4)), .second, .val .null, .val (.ref b12), .val (.ref o14), .val (.ref o15), .unset, .unset, .unset]) rfl k) ?_
    show GoH _ _ _ _ _ _ _ _ _ _  T15 (mkF m 84 #[.val (.int p1), .val (.int p2), .val (.int p3), .val (.int p4), .val (.int (1 : Int32)), .val (.int (((p2.toUInt32 >>> ((1 : Int32) &&& 31).toUInt32).toInt32) &&& (3 : Int32))), .val (.ref wp2), .val (.ref d3), .val (.double (FP.i2d p4)), .second, .val .null, .val (.ref b12), .val (.ref o14), .val (.ref o15), .unset, .unset, .unset] [])
    refine GoH.st (fun t k => XS.aload X15.here hx rfl (hb hby at_84) rfl rfl  k) ?_
    show GoH _ _ _ _ _ _ _ _ _ _  T15 (mkF m 86 #[.val (.int p1), .val (.int p2), .val (.int p3), .val (.int p4), .val (.int (1 : Int32)), .val (.int (((p2.toUInt32 >>> ((1 : Int32) &&& 31).toUInt32).toInt32) &&& (3 : Int32))), .val (.ref wp2), .val (.ref d3), .val (.double (FP.i2d p4)), .second, .val .null, .val (.ref b12), .val (.ref o14), .val (.ref o15), .unset, .unset, .unset] [(.ref b12)])
    obtain ⟨cq16, kq16, q16a, q16b, q16c⟩ := isOf hZ rfl E_b12
    obtain ⟨_, _, ⟨T16, L16, k16, n16⟩, -, X16, ⟨Lc16, hQ16, l16, y16, z16⟩, st16⟩ := X15.virtualBack hx (y := (⟨"com/example/nodewell/nodewell/store/ValueTest$Condition", "isNumeric", "()Z"⟩ : MethodName)) (z := (⟨"com/example/nodewell/nodewell/store/ValueTest$Condition", "isNumeric", "()Z"⟩ : MethodName)) hown (mvT hZ (hw _ (List.mem_of_getElem? (i := 68) rfl))) (mvT hZ (hw _ (List.mem_of_getElem? (i := 69) rfl))) (notFace_of_selects (args := #[]) (mvT hZ (hw _ (List.mem_of_getElem? (i := 71) rfl)))) (mvT hZ (hw _ (List.mem_of_getElem? (i := 71) rfl))) (mvT hZ (hw _ (List.mem_of_getElem? (i := 70) rfl))) (by decide) (backOf (W := 0) (rmN l Z a0 hw [] b12 .null T15.heap n0 O Ft13 rfl) hZ (hw _ (List.mem_of_getElem? (i := 72) rfl)) (hw _ (List.mem_of_getElem? (i := 43) rfl)) (by decide) (by decide)) q16a q16c (g := (mkF m 86 #[.val (.int p1), .val (.int p2), .val (.int p3), .val (.int p4), .val (.int (1 : Int32)), .val (.int (((p2.toUInt32 >>> ((1 : Int32) &&& 31).toUInt32).toInt32) &&& (3 : Int32))), .val (.ref wp2), .val (.ref d3), .val (.double (FP.i2d p4)), .second, .val .null, .val (.ref b12), .val (.ref o14), .val (.ref o15), .unset, .unset, .unset] [(.ref b12)])) rfl (by rw [hml]; rfl) (Steps.refl _) (argsL := []) (rest := []) (lenOf pd___Z rfl) rfl (by show 2 * 0 + _ ≤ _; exact Nat.le_of_eq rfl) (hb hby at_86) (fun _ _ => ⟨rfl, rfl, (by decide : 9 + 0 ≤ _), (by decide : 25 + 0 ≤ _)⟩)
    dsimp only [Pt.U, Pt.locs, Pt.cells, Pt.slots] at X16 l16 y16 z16 st16 hQ16
    subst l16 y16 z16
    obtain ⟨rfl, N16q, e16q⟩ := hQ16
    have N16 := Fr.app N15 N16q
    refine GoH.tr st16 ?_
    rw [show (if .null = Value.null then (1 : Int32) else 0) = (1 : Int32) from by simp]
    show GoH _ _ _ _ _ _ _ _ _ _  T16 (mkF m 89 #[.val (.int p1), .val (.int p2), .val (.int p3), .val (.int p4), .val (.int (1 : Int32)), .val (.int (((p2.toUInt32 >>> ((1 : Int32) &&& 31).toUInt32).toInt32) &&& (3 : Int32))), .val (.ref wp2), .val (.ref d3), .val (.double (FP.i2d p4)), .second, .val .null, .val (.ref b12), .val (.ref o14), .val (.ref o15), .unset, .unset, .unset] [(.int (1 : Int32))])
    refine GoH.st (fun t k => XS.iload X16.here hx rfl (hb hby at_89) rfl  k) ?_
    show GoH _ _ _ _ _ _ _ _ _ _  T16 (mkF m 91 #[.val (.int p1), .val (.int p2), .val (.int p3), .val (.int p4), .val (.int (1 : Int32)), .val (.int (((p2.toUInt32 >>> ((1 : Int32) &&& 31).toUInt32).toInt32) &&& (3 : Int32))), .val (.ref wp2), .val (.ref d3), .val (.double (FP.i2d p4)), .second, .val .null, .val (.ref b12), .val (.ref o14), .val (.ref o15), .unset, .unset, .unset] [(.int (1 : Int32)), (.int (1 : Int32))])
    refine GoH.st (fun t k => XS.icmpNo X16.here hx rfl (hb hby at_91) rfl (teq (rfl : (1 : Int32) = (1 : Int32))).2 k) ?_
    show GoH _ _ _ _ _ _ _ _ _ _  T16 (mkF m 94 #[.val (.int p1), .val (.int p2), .val (.int p3), .val (.int p4), .val (.int (1 : Int32)), .val (.int (((p2.toUInt32 >>> ((1 : Int32) &&& 31).toUInt32).toInt32) &&& (3 : Int32))), .val (.ref wp2), .val (.ref d3), .val (.double (FP.i2d p4)), .second, .val .null, .val (.ref b12), .val (.ref o14), .val (.ref o15), .unset, .unset, .unset] [])
    refine GoH.st (fun t k => XS.iconst X16.here hx rfl (hb hby at_94) k) ?_
    show GoH _ _ _ _ _ _ _ _ _ _  T16 (mkF m 95 #[.val (.int p1), .val (.int p2), .val (.int p3), .val (.int p4), .val (.int (1 : Int32)), .val (.int (((p2.toUInt32 >>> ((1 : Int32) &&& 31).toUInt32).toInt32) &&& (3 : Int32))), .val (.ref wp2), .val (.ref d3), .val (.double (FP.i2d p4)), .second, .val .null, .val (.ref b12), .val (.ref o14), .val (.ref o15), .unset, .unset, .unset] [(.int (1 : Int32))])
    refine GoH.st (fun t k => XS.goto X16.here hx rfl (pc0 := 95) (pc' := 99) rfl (hb hby at_95) (by decide) (by decide) k) ?_
    show GoH _ _ _ _ _ _ _ _ _ _  T16 (mkF m 99 #[.val (.int p1), .val (.int p2), .val (.int p3), .val (.int p4), .val (.int (1 : Int32)), .val (.int (((p2.toUInt32 >>> ((1 : Int32) &&& 31).toUInt32).toInt32) &&& (3 : Int32))), .val (.ref wp2), .val (.ref d3), .val (.double (FP.i2d p4)), .second, .val .null, .val (.ref b12), .val (.ref o14), .val (.ref o15), .unset, .unset, .unset] [(.int (1 : Int32))])
    refine GoH.st (fun t k => XS.istore X16.here hx rfl (hb hby at_99) rfl (l' := #[.val (.int p1), .val (.int p2), .val (.int p3), .val (.int p4), .val (.int (1 : Int32)), .val (.int (((p2.toUInt32 >>> ((1 : Int32) &&& 31).toUInt32).toInt32) &&& (3 : Int32))), .val (.ref wp2), .val (.ref d3), .val (.double (FP.i2d p4)), .second, .val .null, .val (.ref b12), .val (.ref o14), .val (.ref o15), .val (.int (1 : Int32)), .unset, .unset]) rfl k) ?_
    show GoH _ _ _ _ _ _ _ _ _ _  T16 (mkF m 101 #[.val (.int p1), .val (.int p2), .val (.int p3), .val (.int p4), .val (.int (1 : Int32)), .val (.int (((p2.toUInt32 >>> ((1 : Int32) &&& 31).toUInt32).toInt32) &&& (3 : Int32))), .val (.ref wp2), .val (.ref d3), .val (.double (FP.i2d p4)), .second, .val .null, .val (.ref b12), .val (.ref o14), .val (.ref o15), .val (.int (1 : Int32)), .unset, .unset] [])
    refine GoH.st (fun t k => XS.aload X16.here hx rfl (hb hby at_101) rfl rfl  k) ?_
    show GoH _ _ _ _ _ _ _ _ _ _  T16 (mkF m 103 #[.val (.int p1), .val (.int p2), .val (.int p3), .val (.int p4), .val (.int (1 : Int32)), .val (.int (((p2.toUInt32 >>> ((1 : Int32) &&& 31).toUInt32).toInt32) &&& (3 : Int32))), .val (.ref wp2), .val (.ref d3), .val (.double (FP.i2d p4)), .second, .val .null, .val (.ref b12), .val (.ref o14), .val (.ref o15), .val (.int (1 : Int32)), .unset, .unset] [(.ref o14)])
    obtain ⟨cq17, kq17, q17a, q17b, q17c⟩ := isOf hZ e16q Eo14
    obtain ⟨_, _, ⟨T17, L17, k17, n17⟩, -, X17, ⟨Lc17, hQ17, l17, y17, z17⟩, st17⟩ := X16.virtualBack hx (y := (⟨"com/example/nodewell/nodewell/store/ValueTest$Condition", "isNumeric", "()Z"⟩ : MethodName)) (z := (⟨"com/example/nodewell/nodewell/store/ValueTest$Condition", "isNumeric", "()Z"⟩ : MethodName)) hown (mvT hZ (hw _ (List.mem_of_getElem? (i := 68) rfl))) (mvT hZ (hw _ (List.mem_of_getElem? (i := 69) rfl))) (notFace_of_selects (args := #[]) (mvT hZ (hw _ (List.mem_of_getElem? (i := 71) rfl)))) (mvT hZ (hw _ (List.mem_of_getElem? (i := 71) rfl))) (mvT hZ (hw _ (List.mem_of_getElem? (i := 70) rfl))) (by decide) (backOf (W := 0) (rmN l Z a0 hw [] o14 (.ref d3) T15.heap n0 O Fo14 rfl) hZ (hw _ (List.mem_of_getElem? (i := 72) rfl)) (hw _ (List.mem_of_getElem? (i := 43) rfl)) (by decide) (by decide)) q17a q17c (g := (mkF m 103 #[.val (.int p1), .val (.int p2), .val (.int p3), .val (.int p4), .val (.int (1 : Int32)), .val (.int (((p2.toUInt32 >>> ((1 : Int32) &&& 31).toUInt32).toInt32) &&& (3 : Int32))), .val (.ref wp2), .val (.ref d3), .val (.double (FP.i2d p4)), .second, .val .null, .val (.ref b12), .val (.ref o14), .val (.ref o15), .val (.int (1 : Int32)), .unset, .unset] [(.ref o14)])) rfl (by rw [hml]; rfl) (Steps.refl _) (argsL := []) (rest := []) (lenOf pd___Z rfl) rfl (by show 2 * 0 + _ ≤ _; exact Nat.le_of_eq rfl) (hb hby at_103) (fun _ _ => ⟨rfl, e16q, (by decide : 9 + 0 ≤ _), (by decide : 25 + 0 ≤ _)⟩)
    dsimp only [Pt.U, Pt.locs, Pt.cells, Pt.slots] at X17 l17 y17 z17 st17 hQ17
    subst l17 y17 z17
    obtain ⟨rfl, N17q, e17q⟩ := hQ17
    have N17 := Fr.app N16 N17q
    refine GoH.tr st17 ?_
    rw [show (if (.ref d3) = Value.null then (1 : Int32) else 0) = (0 : Int32) from by simp]
    show GoH _ _ _ _ _ _ _ _ _ _  T17 (mkF m 106 #[.val (.int p1), .val (.int p2), .val (.int p3), .val (.int p4), .val (.int (1 : Int32)), .val (.int (((p2.toUInt32 >>> ((1 : Int32) &&& 31).toUInt32).toInt32) &&& (3 : Int32))), .val (.ref wp2), .val (.ref d3), .val (.double (FP.i2d p4)), .second, .val .null, .val (.ref b12), .val (.ref o14), .val (.ref o15), .val (.int (1 : Int32)), .unset, .unset] [(.int (0 : Int32))])
    refine GoH.st (fun t k => XS.ifNo X17.here hx rfl (hb hby at_106) rfl ((if0 _ _).trans (teq (rfl : (0 : Int32) = (0 : Int32))).2) k) ?_
    show GoH _ _ _ _ _ _ _ _ _ _  T17 (mkF m 109 #[.val (.int p1), .val (.int p2), .val (.int p3), .val (.int p4), .val (.int (1 : Int32)), .val (.int (((p2.toUInt32 >>> ((1 : Int32) &&& 31).toUInt32).toInt32) &&& (3 : Int32))), .val (.ref wp2), .val (.ref d3), .val (.double (FP.i2d p4)), .second, .val .null, .val (.ref b12), .val (.ref o14), .val (.ref o15), .val (.int (1 : Int32)), .unset, .unset] [])
    refine GoH.st (fun t k => XS.iconst X17.here hx rfl (hb hby at_109) k) ?_
    show GoH _ _ _ _ _ _ _ _ _ _  T17 (mkF m 110 #[.val (.int p1), .val (.int p2), .val (.int p3), .val (.int p4), .val (.int (1 : Int32)), .val (.int (((p2.toUInt32 >>> ((1 : Int32) &&& 31).toUInt32).toInt32) &&& (3 : Int32))), .val (.ref wp2), .val (.ref d3), .val (.double (FP.i2d p4)), .second, .val .null, .val (.ref b12), .val (.ref o14), .val (.ref o15), .val (.int (1 : Int32)), .unset, .unset] [(.int (1 : Int32))])
    refine GoH.st (fun t k => XS.goto X17.here hx rfl (pc0 := 110) (pc' := 114) rfl (hb hby at_110) (by decide) (by decide) k) ?_
    show GoH _ _ _ _ _ _ _ _ _ _  T17 (mkF m 114 #[.val (.int p1), .val (.int p2), .val (.int p3), .val (.int p4), .val (.int (1 : Int32)), .val (.int (((p2.toUInt32 >>> ((1 : Int32) &&& 31).toUInt32).toInt32) &&& (3 : Int32))), .val (.ref wp2), .val (.ref d3), .val (.double (FP.i2d p4)), .second, .val .null, .val (.ref b12), .val (.ref o14), .val (.ref o15), .val (.int (1 : Int32)), .unset, .unset] [(.int (1 : Int32))])
    refine GoH.st (fun t k => XS.istore X17.here hx rfl (hb hby at_114) rfl (l' := #[.val (.int p1), .val (.int p2), .val (.int p3), .val (.int p4), .val (.int (1 : Int32)), .val (.int (((p2.toUInt32 >>> ((1 : Int32) &&& 31).toUInt32).toInt32) &&& (3 : Int32))), .val (.ref wp2), .val (.ref d3), .val (.double (FP.i2d p4)), .second, .val .null, .val (.ref b12), .val (.ref o14), .val (.ref o15), .val (.int (1 : Int32)), .val (.int (1 : Int32)), .unset]) rfl k) ?_
    show GoH _ _ _ _ _ _ _ _ _ _  T17 (mkF m 116 #[.val (.int p1), .val (.int p2), .val (.int p3), .val (.int p4), .val (.int (1 : Int32)), .val (.int (((p2.toUInt32 >>> ((1 : Int32) &&& 31).toUInt32).toInt32) &&& (3 : Int32))), .val (.ref wp2), .val (.ref d3), .val (.double (FP.i2d p4)), .second, .val .null, .val (.ref b12), .val (.ref o14), .val (.ref o15), .val (.int (1 : Int32)), .val (.int (1 : Int32)), .unset] [])
    refine GoH.st (fun t k => XS.aload X17.here hx rfl (hb hby at_116) rfl rfl  k) ?_
    show GoH _ _ _ _ _ _ _ _ _ _  T17 (mkF m 118 #[.val (.int p1), .val (.int p2), .val (.int p3), .val (.int p4), .val (.int (1 : Int32)), .val (.int (((p2.toUInt32 >>> ((1 : Int32) &&& 31).toUInt32).toInt32) &&& (3 : Int32))), .val (.ref wp2), .val (.ref d3), .val (.double (FP.i2d p4)), .second, .val .null, .val (.ref b12), .val (.ref o14), .val (.ref o15), .val (.int (1 : Int32)), .val (.int (1 : Int32)), .unset] [(.ref o15)])
    obtain ⟨cq18, kq18, q18a, q18b, q18c⟩ := isOf hZ e17q Eo15
    obtain ⟨_, _, ⟨T18, L18, k18, n18⟩, -, X18, ⟨Lc18, hQ18, l18, y18, z18⟩, st18⟩ := X17.virtualBack hx (y := (⟨"com/example/nodewell/nodewell/store/ValueTest$Condition", "isNumeric", "()Z"⟩ : MethodName)) (z := (⟨"com/example/nodewell/nodewell/store/ValueTest$Condition", "isNumeric", "()Z"⟩ : MethodName)) hown (mvT hZ (hw _ (List.mem_of_getElem? (i := 68) rfl))) (mvT hZ (hw _ (List.mem_of_getElem? (i := 69) rfl))) (notFace_of_selects (args := #[]) (mvT hZ (hw _ (List.mem_of_getElem? (i := 71) rfl)))) (mvT hZ (hw _ (List.mem_of_getElem? (i := 71) rfl))) (mvT hZ (hw _ (List.mem_of_getElem? (i := 70) rfl))) (by decide) (backOf (W := 0) (rmN l Z a0 hw [] o15 .null T15.heap n0 O Fo15 rfl) hZ (hw _ (List.mem_of_getElem? (i := 72) rfl)) (hw _ (List.mem_of_getElem? (i := 43) rfl)) (by decide) (by decide)) q18a q18c (g := (mkF m 118 #[.val (.int p1), .val (.int p2), .val (.int p3), .val (.int p4), .val (.int (1 : Int32)), .val (.int (((p2.toUInt32 >>> ((1 : Int32) &&& 31).toUInt32).toInt32) &&& (3 : Int32))), .val (.ref wp2), .val (.ref d3), .val (.double (FP.i2d p4)), .second, .val .null, .val (.ref b12), .val (.ref o14), .val (.ref o15), .val (.int (1 : Int32)), .val (.int (1 : Int32)), .unset] [(.ref o15)])) rfl (by rw [hml]; rfl) (Steps.refl _) (argsL := []) (rest := []) (lenOf pd___Z rfl) rfl (by show 2 * 0 + _ ≤ _; exact Nat.le_of_eq rfl) (hb hby at_118) (fun _ _ => ⟨rfl, e17q, (by decide : 9 + 0 ≤ _), (by decide : 25 + 0 ≤ _)⟩)
    dsimp only [Pt.U, Pt.locs, Pt.cells, Pt.slots] at X18 l18 y18 z18 st18 hQ18
    subst l18 y18 z18
    obtain ⟨rfl, N18q, e18q⟩ := hQ18
    have N18 := Fr.app N17 N18q
    refine GoH.tr st18 ?_
    rw [show (if .null = Value.null then (1 : Int32) else 0) = (1 : Int32) from by simp]
    show GoH _ _ _ _ _ _ _ _ _ _  T18 (mkF m 121 #[.val (.int p1), .val (.int p2), .val (.int p3), .val (.int p4), .val (.int (1 : Int32)), .val (.int (((p2.toUInt32 >>> ((1 : Int32) &&& 31).toUInt32).toInt32) &&& (3 : Int32))), .val (.ref wp2), .val (.ref d3), .val (.double (FP.i2d p4)), .second, .val .null, .val (.ref b12), .val (.ref o14), .val (.ref o15), .val (.int (1 : Int32)), .val (.int (1 : Int32)), .unset] [(.int (1 : Int32))])
    refine GoH.st (fun t k => XS.istore X18.here hx rfl (hb hby at_121) rfl (l' := #[.val (.int p1), .val (.int p2), .val (.int p3), .val (.int p4), .val (.int (1 : Int32)), .val (.int (((p2.toUInt32 >>> ((1 : Int32) &&& 31).toUInt32).toInt32) &&& (3 : Int32))), .val (.ref wp2), .val (.ref d3), .val (.double (FP.i2d p4)), .second, .val .null, .val (.ref b12), .val (.ref o14), .val (.ref o15), .val (.int (1 : Int32)), .val (.int (1 : Int32)), .val (.int (1 : Int32))]) rfl k) ?_
    show GoH _ _ _ _ _ _ _ _ _ _  T18 (mkF m 123 #[.val (.int p1), .val (.int p2), .val (.int p3), .val (.int p4), .val (.int (1 : Int32)), .val (.int (((p2.toUInt32 >>> ((1 : Int32) &&& 31).toUInt32).toInt32) &&& (3 : Int32))), .val (.ref wp2), .val (.ref d3), .val (.double (FP.i2d p4)), .second, .val .null, .val (.ref b12), .val (.ref o14), .val (.ref o15), .val (.int (1 : Int32)), .val (.int (1 : Int32)), .val (.int (1 : Int32))] [])
    refine GoH.st (fun t k => XS.iload X18.here hx rfl (hb hby at_123) rfl  k) ?_
    show GoH _ _ _ _ _ _ _ _ _ _  T18 (mkF m 125 #[.val (.int p1), .val (.int p2), .val (.int p3), .val (.int p4), .val (.int (1 : Int32)), .val (.int (((p2.toUInt32 >>> ((1 : Int32) &&& 31).toUInt32).toInt32) &&& (3 : Int32))), .val (.ref wp2), .val (.ref d3), .val (.double (FP.i2d p4)), .second, .val .null, .val (.ref b12), .val (.ref o14), .val (.ref o15), .val (.int (1 : Int32)), .val (.int (1 : Int32)), .val (.int (1 : Int32))] [(.int (1 : Int32))])
    refine GoH.st (fun t k => XS.ifNo X18.here hx rfl (hb hby at_125) rfl ((if0 _ _).trans (feq (by decide : ¬ ((1 : Int32) = (0 : Int32)))).1) k) ?_
    show GoH _ _ _ _ _ _ _ _ _ _  T18 (mkF m 128 #[.val (.int p1), .val (.int p2), .val (.int p3), .val (.int p4), .val (.int (1 : Int32)), .val (.int (((p2.toUInt32 >>> ((1 : Int32) &&& 31).toUInt32).toInt32) &&& (3 : Int32))), .val (.ref wp2), .val (.ref d3), .val (.double (FP.i2d p4)), .second, .val .null, .val (.ref b12), .val (.ref o14), .val (.ref o15), .val (.int (1 : Int32)), .val (.int (1 : Int32)), .val (.int (1 : Int32))] [])
    refine GoH.st (fun t k => XS.iload X18.here hx rfl (hb hby at_128) rfl  k) ?_
    show GoH _ _ _ _ _ _ _ _ _ _  T18 (mkF m 130 #[.val (.int p1), .val (.int p2), .val (.int p3), .val (.int p4), .val (.int (1 : Int32)), .val (.int (((p2.toUInt32 >>> ((1 : Int32) &&& 31).toUInt32).toInt32) &&& (3 : Int32))), .val (.ref wp2), .val (.ref d3), .val (.double (FP.i2d p4)), .second, .val .null, .val (.ref b12), .val (.ref o14), .val (.ref o15), .val (.int (1 : Int32)), .val (.int (1 : Int32)), .val (.int (1 : Int32))] [(.int (1 : Int32))])
    refine GoH.st (fun t k => XS.ifNo X18.here hx rfl (hb hby at_130) rfl ((if0 _ _).trans (feq (by decide : ¬ ((1 : Int32) = (0 : Int32)))).1) k) ?_
    show GoH _ _ _ _ _ _ _ _ _ _  T18 (mkF m 133 #[.val (.int p1), .val (.int p2), .val (.int p3), .val (.int p4), .val (.int (1 : Int32)), .val (.int (((p2.toUInt32 >>> ((1 : Int32) &&& 31).toUInt32).toInt32) &&& (3 : Int32))), .val (.ref wp2), .val (.ref d3), .val (.double (FP.i2d p4)), .second, .val .null, .val (.ref b12), .val (.ref o14), .val (.ref o15), .val (.int (1 : Int32)), .val (.int (1 : Int32)), .val (.int (1 : Int32))] [])
    refine GoH.st (fun t k => XS.iload X18.here hx rfl (hb hby at_133) rfl  k) ?_
    show GoH _ _ _ _ _ _ _ _ _ _  T18 (mkF m 135 #[.val (.int p1), .val (.int p2), .val (.int p3), .val (.int p4), .val (.int (1 : Int32)), .val (.int (((p2.toUInt32 >>> ((1 : Int32) &&& 31).toUInt32).toInt32) &&& (3 : Int32))), .val (.ref wp2), .val (.ref d3), .val (.double (FP.i2d p4)), .second, .val .null, .val (.ref b12), .val (.ref o14), .val (.ref o15), .val (.int (1 : Int32)), .val (.int (1 : Int32)), .val (.int (1 : Int32))] [(.int (1 : Int32))])
    refine GoH.st (fun t k => XS.ifNo X18.here hx rfl (hb hby at_135) rfl ((if0 _ _).trans (feq (by decide : ¬ ((1 : Int32) = (0 : Int32)))).1) k) ?_
    show GoH _ _ _ _ _ _ _ _ _ _  T18 (mkF m 138 #[.val (.int p1), .val (.int p2), .val (.int p3), .val (.int p4), .val (.int (1 : Int32)), .val (.int (((p2.toUInt32 >>> ((1 : Int32) &&& 31).toUInt32).toInt32) &&& (3 : Int32))), .val (.ref wp2), .val (.ref d3), .val (.double (FP.i2d p4)), .second, .val .null, .val (.ref b12), .val (.ref o14), .val (.ref o15), .val (.int (1 : Int32)), .val (.int (1 : Int32)), .val (.int (1 : Int32))] [])
    refine GoH.st (fun t k => XS.iconst X18.here hx rfl (hb hby at_138) k) ?_
    show GoH _ _ _ _ _ _ _ _ _ _  T18 (mkF m 139 #[.val (.int p1), .val (.int p2), .val (.int p3), .val (.int p4), .val (.int (1 : Int32)), .val (.int (((p2.toUInt32 >>> ((1 : Int32) &&& 31).toUInt32).toInt32) &&& (3 : Int32))), .val (.ref wp2), .val (.ref d3), .val (.double (FP.i2d p4)), .second, .val .null, .val (.ref b12), .val (.ref o14), .val (.ref o15), .val (.int (1 : Int32)), .val (.int (1 : Int32)), .val (.int (1 : Int32))] [(.int (1 : Int32))])
    refine GoH.st (fun t k => XS.goto X18.here hx rfl (pc0 := 139) (pc' := 143) rfl (hb hby at_139) (by decide) (by decide) k) ?_
    show GoH _ _ _ _ _ _ _ _ _ _  T18 (mkF m 143 #[.val (.int p1), .val (.int p2), .val (.int p3), .val (.int p4), .val (.int (1 : Int32)), .val (.int (((p2.toUInt32 >>> ((1 : Int32) &&& 31).toUInt32).toInt32) &&& (3 : Int32))), .val (.ref wp2), .val (.ref d3), .val (.double (FP.i2d p4)), .second, .val .null, .val (.ref b12), .val (.ref o14), .val (.ref o15), .val (.int (1 : Int32)), .val (.int (1 : Int32)), .val (.int (1 : Int32))] [(.int (1 : Int32))])
    refine GoH.retN X18 hS hk e18q hZ hEL HH RR hlk hx (t := .boolean) (z' := (1 : Int32)) Bd.returns (by simp) (hb hby at_143) (by decide) (by decide) rfl ?_
    show Q_rm0 Z _ _ _ _ _ _ _ _ _ _ h0 n0 _ T18.heap _
    rw [e18q]
    exact ⟨rfl, N18⟩
set_option maxRecDepth 65536 in
set_option maxHeartbeats 40000000 in
theorem comes_1 {Post : Tables → Env → Array Value → State → Outcome → State → Prop} (hpost : ∀ tb e args s v u, (limb_1_1.after args s (.returned v) u = true ∧ limb_1_2.after args s (.returned v) u = true ∧ True) → ReturnedEndW s (.returned v) u (Jvm.fieldLocs frame_1_writes args s ++ Jvm.arrayLocs frame_1_arrays args s ++ Jvm.staticLocs frame_1_statics s) 24 1152 → Post tb e args s (.returned v) u) :
    ArmFor flags0 classFile x code maxLocals ret World_1 tables_1 room_1 Calls_1 rest_1 Pre_1 Post := by
  intro l hfl _ _ p e ha hc hk s m args below hf hA hF happ hP
  obtain ⟨hcalls, hrest, hpre⟩ := hP
  obtain ⟨-, -, -, hnamed, -, -, -, hat⟩ := (Spec.applies_iff hf).mp happ
  obtain ⟨hg, hn⟩ := and_e (Cond.before_iff.mp (show (Jvm.Cond.and given_1 narrow_1).before args s = true from hpre))
  obtain ⟨g1, g2⟩ := and_e hg
  obtain ⟨g3, g4⟩ := and_e g2
  obtain ⟨g5, g6⟩ := and_e g4
  obtain ⟨g7, g8⟩ := and_e g6
  obtain ⟨w0, w1, w2, w3, rfl⟩ : ∃ w0 w1 w2 w3 : Value, args = #[w0, w1, w2, w3] := by
    have hs : args.size = 4 := by simpa [Cond.value, given_1] using g1
    obtain ⟨L⟩ := args
    match L, hs with
    | [w0, w1, w2, w3], _ => exact ⟨w0, w1, w2, w3, rfl⟩
  have hw := fun d (hd : d ∈ tables_1) => atoms_spec (ws := Jvm.Cond.code x code maxLocals ret :: tables_1) hat d (List.mem_cons_of_mem _ hd)
  have hfit : Fit s := fun {y c} hc i hi => by
    obtain ⟨ha, rfl⟩ := Array.getElem?_eq_some_iff.mp hc
    have q := List.all_eq_true.mp ((Array.all_eq_true_iff_forall_mem.mp hF) _ (Array.getElem_mem ha)) i (List.mem_range.mpr hi)
    simpa [Array.getElem?_eq_getElem hi] using q
  obtain ⟨hsets, hown0⟩ := atoms_of _ (rest_1_c_eq ▸ (show rest_1_c.before _ s = true from hrest))
  obtain ⟨i0, ei0⟩ := is_v g3
  obtain rfl : w0 = (.int i0) := Option.some.inj ei0
  obtain ⟨i1, ei1⟩ := is_v g5
  obtain rfl : w1 = (.int i1) := Option.some.inj ei1
  obtain ⟨i2, ei2⟩ := is_v g7
  obtain rfl : w2 = (.int i2) := Option.some.inj ei2
  obtain ⟨i3, ei3⟩ := is_v g8
  obtain rfl : w3 = (.int i3) := Option.some.inj ei3
  obtain ⟨zc, ezc⟩ := is_v (Cond.before_iff.mp (hsets _ (List.mem_of_getElem? (i := 1) rfl)))
  have S_COMPACT : Sta s s.heap "java/lang/String" "COMPACT_STRINGS" "Z" (.int zc) := Sta.start ezc (Or.inl (hsets _ (List.mem_of_getElem? (i := 0) rfl)))
  have hcs : ¬ (zc = (0 : Int32)) := gotF (Cond.eq_ints ezc (Term.int_eval (0))) (not_v (Cond.before_iff.mp (hsets _ (List.mem_of_getElem? (i := 2) rfl))))
  obtain ⟨fm, efm, ref_fm⟩ := isR_v (Cond.before_iff.mp (hsets _ (List.mem_of_getElem? (i := 8) rfl)))
  have S_SIO : Sta s s.heap "jdk/internal/util/Preconditions" "SIOOBE_FORMATTER" "Ljava/util/function/BiFunction;" fm := Sta.start efm (Or.inl (hsets _ (List.mem_of_getElem? (i := 7) rfl)))
  obtain ⟨nr1, nr2⟩ := and_e hn
  obtain ⟨nr3, nr4⟩ := and_e nr2
  obtain ⟨nr5, nr6⟩ := and_e nr4
  obtain ⟨nr7, nr8⟩ := and_e nr6
  obtain ⟨w_EQUAL, S_EQUAL, E_EQUAL⟩ := own_en0 nr1 (hw _ (List.mem_of_getElem? (i := 6) rfl)) (hw _ (List.mem_of_getElem? (i := 7) rfl))
  obtain ⟨w_LESS, S_LESS, E_LESS⟩ := own_en0 nr7 (hw _ (List.mem_of_getElem? (i := 6) rfl)) (hw _ (List.mem_of_getElem? (i := 78) rfl))
  obtain ⟨w_LESS_OR_EQUAL, S_LESS_OR_EQUAL, E_LESS_OR_EQUAL⟩ := own_en0 nr3 (hw _ (List.mem_of_getElem? (i := 6) rfl)) (hw _ (List.mem_of_getElem? (i := 74) rfl))
  obtain ⟨w_GREATER, S_GREATER, E_GREATER⟩ := own_en0 nr8 (hw _ (List.mem_of_getElem? (i := 6) rfl)) (hw _ (List.mem_of_getElem? (i := 83) rfl))
  obtain ⟨w_GREATER_OR_EQUAL, S_GREATER_OR_EQUAL, E_GREATER_OR_EQUAL⟩ := own_en0 nr5 (hw _ (List.mem_of_getElem? (i := 6) rfl)) (hw _ (List.mem_of_getElem? (i := 76) rfl))
  have hEL : EW s _ EL := (EW.cons (hw _ (List.mem_of_getElem? (i := 79) rfl)) (by decide) EW.nil)
  have wS : ∀ a ∈ Bundle.stringAtoms, a.before _ s = true := fun d hd => hw d ((by decide +kernel : ∀ d ∈ Bundle.stringAtoms, d ∈ tables_1) d hd)
  have HH : CHv s EL s.vm s.heap := CHv.start hEL (fun q hq => hcalls.1 q hq) (hsets _ (List.mem_of_getElem? (i := 2) rfl)) (hw _ (List.mem_of_getElem? (i := 30) rfl)) (hw _ (List.mem_of_getElem? (i := 12) rfl))
  obtain ⟨n, o, h1, h2, h3, _, L, rfl, ⟨rfl, N⟩, hcr, hq⟩ := rm0 l s _ hw tables_1 i0 i1 i2 i3 zc w_EQUAL w_LESS w_LESS_OR_EQUAL w_GREATER w_GREATER_OR_EQUAL s.heap s.heap.size (Old.start s) hEL wS S_COMPACT hcs S_EQUAL S_LESS S_LESS_OR_EQUAL S_GREATER S_GREATER_OR_EQUAL p e ha hc hk s m _ below hf ((Spec.applies_iff_loose hf).mp happ).1 ⟨rfl, State.Warmed39.refl s, rfl, HH, fun _ q => nomatch q⟩ trivial
  refine ⟨n, _, h1, h2, h3, hpost _ _ _ _ _ _ ⟨Cond.after_iff.mpr rfl, Cond.after_iff.mpr (eq_i res_at (Term.int_eval (1)) rfl), trivial⟩ ⟨hq.1, hq.2.1, hq.2.2.1, (hq.2.2.2.sift fun y hy => Or.inr (N y hy)).mono (by decide) (by decide)⟩⟩
theorem main_1_1 : Claimed_1_1 := comes_1 fun _ _ _ _ _ _ h hF => ⟨h.1, hF⟩
theorem main_1_2 : Claimed_1_2 := comes_1 fun _ _ _ _ _ _ h hF => ⟨h.2.1, hF⟩
end Jvm.Pilot.@@N@@
namespace Jvm.Pilot.@@N@@
open Jvm Jvm.ClassFile Sem Op Lib Jvm.Free Jvm.Stand Jvm.Pilot.@@N@@.Jvm.D
/-! MADE BY PROGRAM (witnessworld.py) out of the Statement's table words and the real class files: 23 classes; the members and pool entries that the words name. The judged class is class 1, her method 3. -/
namespace start1
open Jvm.ClassFile
def u (s : String) : CpInfo := .utf8 (stringToUtf16 s)
/-- a pool by its gaps: so many unusable entries, then the entry; so many at the end -/
def gap : Nat → List CpInfo → List CpInfo
  | 0, r => r
  | n + 1, r => .unusable :: gap n r
def poolList (es : List (Nat × CpInfo)) (last : Nat) : List CpInfo := es.foldr (fun e r => gap e.1 (e.2 :: r)) (gap last [])
def pool (es : List (Nat × CpInfo)) (last : Nat) : Array CpInfo := ⟨poolList es last⟩
def fileOf (pool : Array CpInfo) (this : Nat) (attrs : Array Attribute := #[]) (ms : Array MethodInfo := #[]) (fl : Nat := 33) (sup : Nat := 0) (ifs : Array Nat := #[]) (fds : Array FieldInfo := #[]) : ClassFile where
  minorVersion := 0
  majorVersion := 65
  constantPool := pool
  accessFlags := fl
  thisClass := this
  superClass := sup
  interfaces := ifs
  fields := fds
  methods := ms
  attributes := attrs
def plain (name : String) (sup : Option ClassId) : Class where
  name := name
  kind := .ordinary
  loader := none
  accessFlags := 33
  super := sup
  interfaces := #[]
  cf := none
  fields := #[]
  methods := #[]
  instanceTypes := #[]
  staticTypes := #[]
  resolved := #[]
  callSites := []
  init := .initialized
  statics := none
  mirror := none

def pool0 : Array CpInfo := pool [(5, u "<init>"), (0, u "()V"), (1, .class_ 10), (1, u "java/lang/Object")] 113

def k0c0 : Code := { maxStack := 0, maxLocals := 1, code := object_method_1_code, exceptionTable := #[], attributes := #[] }
def k0m0 : Method := { name := "<init>", desc := "()V", sig := { parameters := [], returnType := none }, accessFlags := 1, code := some k0c0 }
/-- java/lang/Object -/
def k0 : Class := { plain "java/lang/Object" none with
  accessFlags := 33
  interfaces := #[]
  cf := some (fileOf pool0 8 #[] #[{ accessFlags := 1, nameIndex := 5, descriptorIndex := 6, attributes := #[] }] 33 0 #[] #[])
  fields := #[]
  methods := #[k0m0]
  instanceTypes := #[]
  staticTypes := #[]
  resolved := Array.replicate 124 none
  statics := none }

def pool1 : Array CpInfo := pool [(2, .class_ 4), (1, u "java/lang/Object"), (0, u "<init>"), (0, u "()V"), (0, .integer 2147483647), (0, .fieldref 9 10), (0, .class_ 11), (0, .nameAndType 12 13), (0, u "com/example/nodewell/nodewell/store/ValueTest$Comparison"), (0, u "EQUAL"), (0, u "Lcom/example/nodewell/nodewell/store/ValueTest$Comparison;"), (0, .fieldref 9 15), (0, .nameAndType 16 13), (0, u "LESS"), (0, .fieldref 9 18), (0, .nameAndType 19 13), (0, u "LESS_OR_EQUAL"), (0, .fieldref 9 21), (0, .nameAndType 22 13), (0, u "GREATER"), (0, .fieldref 9 24), (0, .nameAndType 25 13), (0, u "GREATER_OR_EQUAL"), (0, .class_ 27), (0, u "java/lang/String"), (0, .methodref 26 29), (0, .nameAndType 5 30), (0, u "([C)V"), (0, .methodref 32 33), (0, .class_ 34), (0, .nameAndType 35 36), (0, u "com/example/nodewell/nodewell/store/ConditionIsNumericPinLaw"), (0, u "pick"), (0, u "(I)Lcom/example/nodewell/nodewell/store/ValueTest$Comparison;"), (0, .methodref 32 38), (0, .nameAndType 39 40), (0, u "draw"), (0, u "(II)Ljava/lang/String;"), (0, .class_ 42), (0, u "com/example/nodewell/nodewell/store/ValueTest$Condition"), (0, .methodref 41 44), (0, .nameAndType 5 45), (0, u "(Lcom/example/nodewell/nodewell/store/ValueTest$Comparison;Ljava/lang/String;D)V"), (0, .methodref 41 47), (0, .nameAndType 48 49), (0, u "of"), (0, u "(Lcom/example/nodewell/nodewell/store/ValueTest$Comparison;Ljava/lang/String;)Lcom/example/nodewell/nodewell/store/ValueTest$Condition;"), (0, .methodref 41 51), (0, .nameAndType 48 52), (0, u "(Lcom/example/nodewell/nodewell/store/ValueTest$Comparison;D)Lcom/example/nodewell/nodewell/store/ValueTest$Condition;"), (0, .methodref 41 54), (0, .nameAndType 55 56), (0, u "isNumeric"), (0, u "()Z"), (3, u "law"), (0, u "(IIII)Z")] 7

def k1m0 : Method := { name := "<init>", desc := "()V", sig := { parameters := [], returnType := none }, accessFlags := 1, code := none }
def k1c1 : Code := { maxStack := 2, maxLocals := 2, code := method_2_code, exceptionTable := #[], attributes := #[] }
def k1m1 : Method := { name := "pick", desc := "(I)Lcom/example/nodewell/nodewell/store/ValueTest$Comparison;", sig := { parameters := [.int], returnType := some (.object "com/example/nodewell/nodewell/store/ValueTest$Comparison") }, accessFlags := 10, code := some k1c1 }
def k1c2 : Code := { maxStack := 6, maxLocals := 5, code := method_3_code, exceptionTable := #[], attributes := #[] }
def k1m2 : Method := { name := "draw", desc := "(II)Ljava/lang/String;", sig := { parameters := [.int, .int], returnType := some (.object "java/lang/String") }, accessFlags := 10, code := some k1c2 }
def k1c3 : Code := { maxStack := 6, maxLocals := 17, code := code, exceptionTable := #[], attributes := #[] }
def k1m3 : Method := { name := "law", desc := "(IIII)Z", sig := { parameters := [.int, .int, .int, .int], returnType := some .boolean }, accessFlags := 9, code := some k1c3 }
/-- com/example/nodewell/nodewell/store/ConditionIsNumericPinLaw -/
def k1 : Class := { plain "com/example/nodewell/nodewell/store/ConditionIsNumericPinLaw" (some 0) with
  accessFlags := 49
  interfaces := #[]
  cf := some (fileOf pool1 32 #[] #[{ accessFlags := 1, nameIndex := 5, descriptorIndex := 6, attributes := #[] }, { accessFlags := 10, nameIndex := 35, descriptorIndex := 36, attributes := #[] }, { accessFlags := 10, nameIndex := 39, descriptorIndex := 40, attributes := #[] }, { accessFlags := 9, nameIndex := 60, descriptorIndex := 61, attributes := #[] }] 49 2 #[] #[])
  fields := #[]
  methods := #[k1m0, k1m1, k1m2, k1m3]
  instanceTypes := #[]
  staticTypes := #[]
  resolved := Array.replicate 69 none
  statics := none }

def pool2 : Array CpInfo := pool [(1, .class_ 2), (0, u "java/lang/constant/Constable"), (0, .class_ 4), (0, u "java/lang/Object")] 6

/-- java/lang/constant/Constable -/
def k2 : Class := { plain "java/lang/constant/Constable" (some 0) with
  accessFlags := 1537
  interfaces := #[]
  cf := some (fileOf pool2 1 #[] #[] 1537 3 #[] #[])
  fields := #[]
  methods := #[]
  instanceTypes := #[]
  staticTypes := #[]
  resolved := Array.replicate 11 none
  statics := none }

def pool3 : Array CpInfo := pool [(1, .class_ 2), (0, u "java/lang/Comparable"), (0, .class_ 4), (0, u "java/lang/Object")] 7

/-- java/lang/Comparable -/
def k3 : Class := { plain "java/lang/Comparable" (some 0) with
  accessFlags := 1537
  interfaces := #[]
  cf := some (fileOf pool3 1 #[] #[] 1537 3 #[] #[])
  fields := #[]
  methods := #[]
  instanceTypes := #[]
  staticTypes := #[]
  resolved := Array.replicate 12 none
  statics := none }

def pool4 : Array CpInfo := pool [(1, .class_ 2), (0, u "java/io/Serializable"), (0, .class_ 4), (0, u "java/lang/Object")] 2

/-- java/io/Serializable -/
def k4 : Class := { plain "java/io/Serializable" (some 0) with
  accessFlags := 1537
  interfaces := #[]
  cf := some (fileOf pool4 1 #[] #[] 1537 3 #[] #[])
  fields := #[]
  methods := #[]
  instanceTypes := #[]
  staticTypes := #[]
  resolved := Array.replicate 7 none
  statics := none }

def pool5 : Array CpInfo := pool [(2, .class_ 4), (1, u "java/lang/Enum"), (0, u "name"), (0, u "Ljava/lang/String;"), (2, u "ordinal"), (0, u "I"), (1, .class_ 14), (1, u "java/lang/Object"), (4, u "hash"), (86, .class_ 108), (1, u "java/lang/Enum$EnumDesc"), (2, .class_ 112), (0, u "java/lang/constant/Constable"), (0, .class_ 114), (0, u "java/lang/Comparable"), (0, .class_ 116), (0, u "java/io/Serializable")] 87

/-- java/lang/Enum -/
def k5 : Class := { plain "java/lang/Enum" (some 0) with
  accessFlags := 1057
  interfaces := #[2, 3, 4]
  cf := some (fileOf pool5 2 #[.nestMembers #[106]] #[] 1057 12 #[111, 113, 115] #[{ accessFlags := 18, nameIndex := 5, descriptorIndex := 6, attributes := #[] }, { accessFlags := 18, nameIndex := 9, descriptorIndex := 10, attributes := #[] }, { accessFlags := 2, nameIndex := 19, descriptorIndex := 10, attributes := #[] }])
  fields := #[{ name := "name", type := (.object "java/lang/String"), accessFlags := 18, slot := 0, constantValue := 0 }, { name := "ordinal", type := .int, accessFlags := 18, slot := 1, constantValue := 0 }, { name := "hash", type := .int, accessFlags := 2, slot := 2, constantValue := 0 }]
  methods := #[]
  instanceTypes := #[(.object "java/lang/String"), .int, .int]
  staticTypes := #[]
  resolved := Array.replicate 204 none
  statics := none }

def pool6 : Array CpInfo := pool [(1, .class_ 2), (0, u "com/example/nodewell/nodewell/store/ValueTest$Comparison"), (2, u "EQUAL"), (0, u "Lcom/example/nodewell/nodewell/store/ValueTest$Comparison;"), (2, u "LESS"), (2, u "LESS_OR_EQUAL"), (2, u "GREATER"), (2, u "GREATER_OR_EQUAL"), (2, u "$VALUES"), (0, u "[Lcom/example/nodewell/nodewell/store/ValueTest$Comparison;"), (6, .class_ 31), (1, u "java/lang/Enum"), (8, u "symbol"), (0, u "Ljava/lang/String;"), (62, .class_ 105), (0, u "com/example/nodewell/nodewell/store/ValueTest")] 2

/-- com/example/nodewell/nodewell/store/ValueTest$Comparison -/
def k6 : Class := { plain "com/example/nodewell/nodewell/store/ValueTest$Comparison" (some 5) with
  accessFlags := 16433
  interfaces := #[]
  cf := some (fileOf pool6 1 #[.nestHost 104] #[] 16433 29 #[] #[{ accessFlags := 16409, nameIndex := 5, descriptorIndex := 6, attributes := #[] }, { accessFlags := 16409, nameIndex := 9, descriptorIndex := 6, attributes := #[] }, { accessFlags := 16409, nameIndex := 12, descriptorIndex := 6, attributes := #[] }, { accessFlags := 16409, nameIndex := 15, descriptorIndex := 6, attributes := #[] }, { accessFlags := 16409, nameIndex := 18, descriptorIndex := 6, attributes := #[] }, { accessFlags := 18, nameIndex := 40, descriptorIndex := 41, attributes := #[] }, { accessFlags := 4122, nameIndex := 21, descriptorIndex := 22, attributes := #[] }])
  fields := #[{ name := "EQUAL", type := (.object "com/example/nodewell/nodewell/store/ValueTest$Comparison"), accessFlags := 16409, slot := 0, constantValue := 0 }, { name := "LESS", type := (.object "com/example/nodewell/nodewell/store/ValueTest$Comparison"), accessFlags := 16409, slot := 1, constantValue := 0 }, { name := "LESS_OR_EQUAL", type := (.object "com/example/nodewell/nodewell/store/ValueTest$Comparison"), accessFlags := 16409, slot := 2, constantValue := 0 }, { name := "GREATER", type := (.object "com/example/nodewell/nodewell/store/ValueTest$Comparison"), accessFlags := 16409, slot := 3, constantValue := 0 }, { name := "GREATER_OR_EQUAL", type := (.object "com/example/nodewell/nodewell/store/ValueTest$Comparison"), accessFlags := 16409, slot := 4, constantValue := 0 }, { name := "symbol", type := (.object "java/lang/String"), accessFlags := 18, slot := 3, constantValue := 0 }, { name := "$VALUES", type := (.array (.object "com/example/nodewell/nodewell/store/ValueTest$Comparison")), accessFlags := 4122, slot := 5, constantValue := 0 }]
  methods := #[]
  instanceTypes := #[(.object "java/lang/String"), .int, .int, (.object "java/lang/String")]
  staticTypes := #[(.object "com/example/nodewell/nodewell/store/ValueTest$Comparison"), (.object "com/example/nodewell/nodewell/store/ValueTest$Comparison"), (.object "com/example/nodewell/nodewell/store/ValueTest$Comparison"), (.object "com/example/nodewell/nodewell/store/ValueTest$Comparison"), (.object "com/example/nodewell/nodewell/store/ValueTest$Comparison"), (.array (.object "com/example/nodewell/nodewell/store/ValueTest$Comparison"))]
  resolved := Array.replicate 108 none
  statics := some 0 }

def pool7 : Array CpInfo := pool [(2, .class_ 4), (1, u "java/lang/CharSequence"), (42, .class_ 48), (0, u "java/lang/CharSequence$1CodePointIterator"), (10, .class_ 60), (0, u "java/lang/CharSequence$1CharIterator"), (5, .class_ 67), (0, u "java/lang/Object")] 63

/-- java/lang/CharSequence -/
def k7 : Class := { plain "java/lang/CharSequence" (some 0) with
  accessFlags := 1537
  interfaces := #[]
  cf := some (fileOf pool7 2 #[.nestMembers #[47, 59]] #[] 1537 66 #[] #[])
  fields := #[]
  methods := #[]
  instanceTypes := #[]
  staticTypes := #[]
  resolved := Array.replicate 131 none
  statics := none }

def pool8 : Array CpInfo := pool [(1, .class_ 2), (0, u "java/lang/constant/ConstantDesc"), (0, .class_ 4), (0, u "java/lang/Object")] 32

/-- java/lang/constant/ConstantDesc -/
def k8 : Class := { plain "java/lang/constant/ConstantDesc" (some 0) with
  accessFlags := 1537
  interfaces := #[]
  cf := some (fileOf pool8 1 #[] #[] 1537 3 #[] #[])
  fields := #[]
  methods := #[]
  instanceTypes := #[]
  staticTypes := #[]
  resolved := Array.replicate 37 none
  statics := none }

def pool9 : Array CpInfo := pool [(1, .methodref 2 3), (0, .class_ 4), (0, .nameAndType 5 6), (0, u "java/lang/Object"), (0, u "<init>"), (0, u "()V"), (0, .string 8), (0, u ""), (0, .fieldref 10 11), (0, .class_ 12), (0, .nameAndType 13 14), (0, u "java/lang/String"), (0, u "value"), (0, u "[B"), (0, .fieldref 10 16), (0, .nameAndType 17 18), (0, u "coder"), (0, u "B"), (2, u "hash"), (0, u "I"), (2, u "hashIsZero"), (0, u "Z"), (0, .methodref 10 28), (0, .nameAndType 5 29), (0, u "([CIILjava/lang/Void;)V"), (8, .fieldref 10 39), (0, .nameAndType 40 26), (0, u "COMPACT_STRINGS"), (1, .class_ 44), (1, u "java/lang/StringUTF16"), (0, u "compress"), (1, .methodref 42 48), (0, .nameAndType 49 50), (0, u "coderFromArrayLen"), (0, u "([BI)B"), (126, .methodref 42 178), (0, .nameAndType 45 179), (0, u "([CII)[B"), (395, .class_ 576), (0, u "java/lang/CharSequence"), (22, u "CASE_INSENSITIVE_ORDER"), (0, u "Ljava/util/Comparator;"), (409, u "([C)V"), (90, u "serialPersistentFields"), (0, u "[Ljava/io/ObjectStreamField;"), (0, .class_ 1104), (0, u "java/lang/String$CaseInsensitiveComparator"), (1, .class_ 1107), (0, u "java/io/Serializable"), (0, .class_ 1109), (0, u "java/lang/Comparable"), (0, .class_ 1111), (0, u "java/lang/constant/Constable"), (0, .class_ 1113), (0, u "java/lang/constant/ConstantDesc"), (2, u "serialVersionUID"), (0, u "J"), (3, u "REPL"), (0, u "C"), (2, u "LATIN1"), (1, u "UTF16")] 323

def k9m0 : Method := { name := "<init>", desc := "()V", sig := { parameters := [], returnType := none }, accessFlags := 1, code := none }
def k9c1 : Code := { maxStack := 5, maxLocals := 2, code := jdk_42_method_3_code, exceptionTable := #[], attributes := #[] }
def k9m1 : Method := { name := "<init>", desc := "([C)V", sig := { parameters := [(.array .char)], returnType := none }, accessFlags := 1, code := some k9c1 }
def k9c2 : Code := { maxStack := 4, maxLocals := 6, code := jdk_42_method_149_code, exceptionTable := #[], attributes := #[] }
def k9m2 : Method := { name := "<init>", desc := "([CIILjava/lang/Void;)V", sig := { parameters := [(.array .char), .int, .int, (.object "java/lang/Void")], returnType := none }, accessFlags := 2, code := some k9c2 }
/-- java/lang/String -/
def k9 : Class := { plain "java/lang/String" (some 0) with
  accessFlags := 49
  interfaces := #[4, 3, 7, 2, 8]
  cf := some (fileOf pool9 10 #[.nestMembers #[1103]] #[{ accessFlags := 1, nameIndex := 5, descriptorIndex := 6, attributes := #[] }, { accessFlags := 1, nameIndex := 5, descriptorIndex := 1010, attributes := #[] }, { accessFlags := 2, nameIndex := 5, descriptorIndex := 29, attributes := #[] }] 49 2 #[1106, 1108, 575, 1110, 1112] #[{ accessFlags := 18, nameIndex := 13, descriptorIndex := 14, attributes := #[] }, { accessFlags := 18, nameIndex := 17, descriptorIndex := 18, attributes := #[] }, { accessFlags := 2, nameIndex := 21, descriptorIndex := 22, attributes := #[] }, { accessFlags := 2, nameIndex := 25, descriptorIndex := 26, attributes := #[] }, { accessFlags := 26, nameIndex := 1116, descriptorIndex := 1117, attributes := #[] }, { accessFlags := 24, nameIndex := 40, descriptorIndex := 26, attributes := #[] }, { accessFlags := 26, nameIndex := 1101, descriptorIndex := 1102, attributes := #[] }, { accessFlags := 26, nameIndex := 1121, descriptorIndex := 1122, attributes := #[] }, { accessFlags := 25, nameIndex := 599, descriptorIndex := 600, attributes := #[] }, { accessFlags := 24, nameIndex := 1125, descriptorIndex := 18, attributes := #[] }, { accessFlags := 24, nameIndex := 1127, descriptorIndex := 18, attributes := #[] }])
  fields := #[{ name := "value", type := (.array .byte), accessFlags := 18, slot := 0, constantValue := 0 }, { name := "coder", type := .byte, accessFlags := 18, slot := 1, constantValue := 0 }, { name := "hash", type := .int, accessFlags := 2, slot := 2, constantValue := 0 }, { name := "hashIsZero", type := .boolean, accessFlags := 2, slot := 3, constantValue := 0 }, { name := "serialVersionUID", type := .long, accessFlags := 26, slot := 0, constantValue := 0 }, { name := "COMPACT_STRINGS", type := .boolean, accessFlags := 24, slot := 1, constantValue := 0 }, { name := "serialPersistentFields", type := (.array (.object "java/io/ObjectStreamField")), accessFlags := 26, slot := 2, constantValue := 0 }, { name := "REPL", type := .char, accessFlags := 26, slot := 3, constantValue := 0 }, { name := "CASE_INSENSITIVE_ORDER", type := (.object "java/util/Comparator"), accessFlags := 25, slot := 4, constantValue := 0 }, { name := "LATIN1", type := .byte, accessFlags := 24, slot := 5, constantValue := 0 }, { name := "UTF16", type := .byte, accessFlags := 24, slot := 6, constantValue := 0 }]
  methods := #[k9m0, k9m1, k9m2]
  instanceTypes := #[(.array .byte), .byte, .int, .boolean]
  staticTypes := #[.long, .boolean, (.array (.object "java/io/ObjectStreamField")), .char, (.object "java/util/Comparator"), .byte, .byte]
  resolved := Array.replicate 1451 none
  statics := some 1 }

def pool10 : Array CpInfo := pool [(6, .class_ 8), (1, u "java/lang/Object"), (0, u "<init>"), (0, u "()V"), (1, .class_ 14), (1, u "java/lang/StringUTF16"), (31, u "$assertionsDisabled"), (0, u "Z"), (13, u "HI_BYTE_SHIFT"), (0, u "I"), (2, u "LO_BYTE_SHIFT"), (49, .methodref 12 116), (0, .nameAndType 117 118), (0, u "compress"), (0, u "([CI[BII)I"), (3, u "([CII)[B"), (138, u "coderFromArrayLen"), (0, u "([BI)B"), (106, .class_ 371), (1, u "java/lang/StringUTF16$LinesSpliterator"), (58, u "MAX_LENGTH"), (196, .class_ 628), (0, u "java/lang/StringUTF16$CodePointsSpliterator"), (0, .class_ 630), (0, u "java/lang/StringUTF16$CharsSpliterator")] 4

def k10m0 : Method := { name := "<init>", desc := "()V", sig := { parameters := [], returnType := none }, accessFlags := 0, code := none }
def k10c1 : Code := { maxStack := 2, maxLocals := 2, code := jdk_52_method_15_code, exceptionTable := #[], attributes := #[] }
def k10m1 : Method := { name := "coderFromArrayLen", desc := "([BI)B", sig := { parameters := [(.array .byte), .int], returnType := some .byte }, accessFlags := 8, code := some k10c1 }
def k10c2 : Code := { maxStack := 5, maxLocals := 6, code := jdk_52_method_16_code, exceptionTable := #[], attributes := #[] }
def k10m2 : Method := { name := "compress", desc := "([CII)[B", sig := { parameters := [(.array .char), .int, .int], returnType := some (.array .byte) }, accessFlags := 9, code := some k10c2 }
def k10c3 : Code := { maxStack := 3, maxLocals := 7, code := jdk_52_method_21_code, exceptionTable := #[], attributes := #[] }
def k10m3 : Method := { name := "compress", desc := "([CI[BII)I", sig := { parameters := [(.array .char), .int, (.array .byte), .int, .int], returnType := some .int }, accessFlags := 9, code := some k10c3 }
/-- java/lang/StringUTF16 -/
def k10 : Class := { plain "java/lang/StringUTF16" (some 0) with
  accessFlags := 48
  interfaces := #[]
  cf := some (fileOf pool10 12 #[.nestMembers #[627, 629, 369]] #[{ accessFlags := 0, nameIndex := 9, descriptorIndex := 10, attributes := #[] }, { accessFlags := 8, nameIndex := 261, descriptorIndex := 262, attributes := #[] }, { accessFlags := 9, nameIndex := 117, descriptorIndex := 122, attributes := #[] }, { accessFlags := 9, nameIndex := 117, descriptorIndex := 118, attributes := #[] }] 48 6 #[] #[{ accessFlags := 26, nameIndex := 61, descriptorIndex := 62, attributes := #[] }, { accessFlags := 26, nameIndex := 65, descriptorIndex := 62, attributes := #[] }, { accessFlags := 24, nameIndex := 430, descriptorIndex := 62, attributes := #[] }, { accessFlags := 4120, nameIndex := 46, descriptorIndex := 47, attributes := #[] }])
  fields := #[{ name := "HI_BYTE_SHIFT", type := .int, accessFlags := 26, slot := 0, constantValue := 0 }, { name := "LO_BYTE_SHIFT", type := .int, accessFlags := 26, slot := 1, constantValue := 0 }, { name := "MAX_LENGTH", type := .int, accessFlags := 24, slot := 2, constantValue := 0 }, { name := "$assertionsDisabled", type := .boolean, accessFlags := 4120, slot := 3, constantValue := 0 }]
  methods := #[k10m0, k10m1, k10m2, k10m3]
  instanceTypes := #[]
  staticTypes := #[.int, .int, .int, .boolean]
  resolved := Array.replicate 635 none
  statics := none }

def pool11 : Array CpInfo := pool [(1, .methodref 2 3), (0, .class_ 4), (0, .nameAndType 5 6), (0, u "java/lang/Object"), (0, u "<init>"), (0, u "()V"), (0, .class_ 8), (0, u "java/lang/Record")] 13

def k11c0 : Code := { maxStack := 1, maxLocals := 1, code := jdk_30_method_1_code, exceptionTable := #[], attributes := #[] }
def k11m0 : Method := { name := "<init>", desc := "()V", sig := { parameters := [], returnType := none }, accessFlags := 4, code := some k11c0 }
/-- java/lang/Record -/
def k11 : Class := { plain "java/lang/Record" (some 0) with
  accessFlags := 1057
  interfaces := #[]
  cf := some (fileOf pool11 7 #[] #[{ accessFlags := 4, nameIndex := 5, descriptorIndex := 6, attributes := #[] }] 1057 2 #[] #[])
  fields := #[]
  methods := #[k11m0]
  instanceTypes := #[]
  staticTypes := #[]
  resolved := Array.replicate 22 none
  statics := none }

def pool12 : Array CpInfo := pool [(1, .methodref 2 3), (0, .class_ 4), (0, .nameAndType 5 6), (0, u "java/lang/Record"), (0, u "<init>"), (0, u "()V"), (0, .fieldref 8 9), (0, .class_ 10), (0, .nameAndType 11 12), (0, u "com/example/nodewell/nodewell/store/ValueTest$Condition"), (0, u "comparison"), (0, u "Lcom/example/nodewell/nodewell/store/ValueTest$Comparison;"), (0, .fieldref 8 14), (0, .nameAndType 15 16), (0, u "text"), (0, u "Ljava/lang/String;"), (0, .fieldref 8 18), (0, .nameAndType 19 20), (0, u "number"), (0, u "D"), (2, .double 9221120237041090560), (1, .methodref 8 26), (0, .nameAndType 5 27), (0, u "(Lcom/example/nodewell/nodewell/store/ValueTest$Comparison;Ljava/lang/String;D)V"), (15, u "of"), (0, u "(Lcom/example/nodewell/nodewell/store/ValueTest$Comparison;Ljava/lang/String;)Lcom/example/nodewell/nodewell/store/ValueTest$Condition;"), (0, u "(Lcom/example/nodewell/nodewell/store/ValueTest$Comparison;D)Lcom/example/nodewell/nodewell/store/ValueTest$Condition;"), (0, u "isNumeric"), (0, u "()Z"), (9, .class_ 58), (0, u "com/example/nodewell/nodewell/store/ValueTest")] 24

def k12c0 : Code := { maxStack := 3, maxLocals := 5, code := prog_114_method_1_code, exceptionTable := #[], attributes := #[] }
def k12m0 : Method := { name := "<init>", desc := "(Lcom/example/nodewell/nodewell/store/ValueTest$Comparison;Ljava/lang/String;D)V", sig := { parameters := [(.object "com/example/nodewell/nodewell/store/ValueTest$Comparison"), (.object "java/lang/String"), .double], returnType := none }, accessFlags := 1, code := some k12c0 }
def k12c1 : Code := { maxStack := 6, maxLocals := 2, code := prog_114_method_2_code, exceptionTable := #[], attributes := #[] }
def k12m1 : Method := { name := "of", desc := "(Lcom/example/nodewell/nodewell/store/ValueTest$Comparison;Ljava/lang/String;)Lcom/example/nodewell/nodewell/store/ValueTest$Condition;", sig := { parameters := [(.object "com/example/nodewell/nodewell/store/ValueTest$Comparison"), (.object "java/lang/String")], returnType := some (.object "com/example/nodewell/nodewell/store/ValueTest$Condition") }, accessFlags := 9, code := some k12c1 }
def k12c2 : Code := { maxStack := 6, maxLocals := 3, code := prog_114_method_3_code, exceptionTable := #[], attributes := #[] }
def k12m2 : Method := { name := "of", desc := "(Lcom/example/nodewell/nodewell/store/ValueTest$Comparison;D)Lcom/example/nodewell/nodewell/store/ValueTest$Condition;", sig := { parameters := [(.object "com/example/nodewell/nodewell/store/ValueTest$Comparison"), .double], returnType := some (.object "com/example/nodewell/nodewell/store/ValueTest$Condition") }, accessFlags := 9, code := some k12c2 }
def k12c3 : Code := { maxStack := 1, maxLocals := 1, code := prog_114_method_4_code, exceptionTable := #[], attributes := #[] }
def k12m3 : Method := { name := "isNumeric", desc := "()Z", sig := { parameters := [], returnType := some .boolean }, accessFlags := 0, code := some k12c3 }
/-- com/example/nodewell/nodewell/store/ValueTest$Condition -/
def k12 : Class := { plain "com/example/nodewell/nodewell/store/ValueTest$Condition" (some 11) with
  accessFlags := 49
  interfaces := #[]
  cf := some (fileOf pool12 8 #[.nestHost 57] #[{ accessFlags := 1, nameIndex := 5, descriptorIndex := 27, attributes := #[] }, { accessFlags := 9, nameIndex := 43, descriptorIndex := 44, attributes := #[] }, { accessFlags := 9, nameIndex := 43, descriptorIndex := 45, attributes := #[] }, { accessFlags := 0, nameIndex := 46, descriptorIndex := 47, attributes := #[] }] 49 2 #[] #[{ accessFlags := 18, nameIndex := 11, descriptorIndex := 12, attributes := #[] }, { accessFlags := 18, nameIndex := 15, descriptorIndex := 16, attributes := #[] }, { accessFlags := 18, nameIndex := 19, descriptorIndex := 20, attributes := #[] }])
  fields := #[{ name := "comparison", type := (.object "com/example/nodewell/nodewell/store/ValueTest$Comparison"), accessFlags := 18, slot := 0, constantValue := 0 }, { name := "text", type := (.object "java/lang/String"), accessFlags := 18, slot := 1, constantValue := 0 }, { name := "number", type := .double, accessFlags := 18, slot := 2, constantValue := 0 }]
  methods := #[k12m0, k12m1, k12m2, k12m3]
  instanceTypes := #[(.object "com/example/nodewell/nodewell/store/ValueTest$Comparison"), (.object "java/lang/String"), .double]
  staticTypes := #[]
  resolved := Array.replicate 83 none
  statics := none }

def pool13 : Array CpInfo := pool [(4, .class_ 6), (1, u "java/lang/Object"), (0, u "<init>"), (0, u "()V"), (5, .class_ 16), (1, u "java/lang/StringLatin1"), (104, u "$assertionsDisabled"), (0, u "Z"), (98, .class_ 223), (1, u "java/lang/StringLatin1$LinesSpliterator"), (166, .class_ 391), (0, u "java/lang/StringLatin1$CharsSpliterator")] 3

def k13m0 : Method := { name := "<init>", desc := "()V", sig := { parameters := [], returnType := none }, accessFlags := 0, code := none }
/-- java/lang/StringLatin1 -/
def k13 : Class := { plain "java/lang/StringLatin1" (some 0) with
  accessFlags := 48
  interfaces := #[]
  cf := some (fileOf pool13 14 #[.nestMembers #[390, 221]] #[{ accessFlags := 0, nameIndex := 7, descriptorIndex := 8, attributes := #[] }] 48 4 #[] #[{ accessFlags := 4120, nameIndex := 121, descriptorIndex := 122, attributes := #[] }])
  fields := #[{ name := "$assertionsDisabled", type := .boolean, accessFlags := 4120, slot := 0, constantValue := 0 }]
  methods := #[k13m0]
  instanceTypes := #[]
  staticTypes := #[.boolean]
  resolved := Array.replicate 395 none
  statics := none }

def pool14 : Array CpInfo := pool [(2, .class_ 4), (1, u "java/lang/Object"), (0, u "<init>"), (0, u "()V"), (17, .class_ 26), (1, u "jdk/internal/util/Preconditions"), (28, .class_ 56), (0, u "jdk/internal/util/Preconditions$4"), (57, .class_ 115), (0, u "jdk/internal/util/Preconditions$1"), (7, u "SIOOBE_FORMATTER"), (0, u "Ljava/util/function/BiFunction;"), (0, .class_ 126), (0, u "jdk/internal/util/Preconditions$2"), (3, u "AIOOBE_FORMATTER"), (0, .class_ 132), (0, u "jdk/internal/util/Preconditions$3"), (3, u "IOOBE_FORMATTER")] 57

def k14m0 : Method := { name := "<init>", desc := "()V", sig := { parameters := [], returnType := none }, accessFlags := 1, code := none }
/-- jdk/internal/util/Preconditions -/
def k14 : Class := { plain "jdk/internal/util/Preconditions" (some 0) with
  accessFlags := 33
  interfaces := #[]
  cf := some (fileOf pool14 24 #[.nestMembers #[55, 131, 125, 114]] #[{ accessFlags := 1, nameIndex := 5, descriptorIndex := 6, attributes := #[] }] 33 2 #[] #[{ accessFlags := 25, nameIndex := 123, descriptorIndex := 124, attributes := #[] }, { accessFlags := 25, nameIndex := 130, descriptorIndex := 124, attributes := #[] }, { accessFlags := 25, nameIndex := 136, descriptorIndex := 124, attributes := #[] }])
  fields := #[{ name := "SIOOBE_FORMATTER", type := (.object "java/util/function/BiFunction"), accessFlags := 25, slot := 0, constantValue := 0 }, { name := "AIOOBE_FORMATTER", type := (.object "java/util/function/BiFunction"), accessFlags := 25, slot := 1, constantValue := 0 }, { name := "IOOBE_FORMATTER", type := (.object "java/util/function/BiFunction"), accessFlags := 25, slot := 2, constantValue := 0 }]
  methods := #[k14m0]
  instanceTypes := #[]
  staticTypes := #[(.object "java/util/function/BiFunction"), (.object "java/util/function/BiFunction"), (.object "java/util/function/BiFunction")]
  resolved := Array.replicate 194 none
  statics := some 2 }

def pool15 : Array CpInfo := pool [(9, u "<init>"), (6, .class_ 18), (1, u "java/lang/Object"), (0, u "()V"), (1, .class_ 23), (1, u "jdk/internal/util/ArraysSupport"), (0, u "LOG2_ARRAY_LONG_INDEX_SCALE"), (0, u "I"), (2, u "U"), (0, u "Ljdk/internal/misc/Unsafe;"), (8, u "BIG_ENDIAN"), (0, u "Z"), (8, u "LOG2_BYTE_BIT_SIZE"), (4, u "LOG2_ARRAY_INT_INDEX_SCALE"), (54, u "JLA"), (0, u "Ljdk/internal/access/JavaLangAccess;"), (11, u "LOG2_ARRAY_BOOLEAN_INDEX_SCALE"), (9, u "LOG2_ARRAY_BYTE_INDEX_SCALE"), (5, u "LOG2_ARRAY_CHAR_INDEX_SCALE"), (5, u "LOG2_ARRAY_SHORT_INDEX_SCALE"), (18, u "LOG2_ARRAY_FLOAT_INDEX_SCALE"), (24, u "LOG2_ARRAY_DOUBLE_INDEX_SCALE"), (89, u "T_BOOLEAN"), (2, u "T_CHAR"), (1, u "T_FLOAT"), (1, u "T_DOUBLE"), (1, u "T_BYTE"), (1, u "T_SHORT"), (1, u "T_INT"), (1, u "T_LONG"), (1, u "SOFT_MAX_ARRAY_LENGTH")] 83

def k15m0 : Method := { name := "<init>", desc := "()V", sig := { parameters := [], returnType := none }, accessFlags := 2, code := none }
/-- jdk/internal/util/ArraysSupport -/
def k15 : Class := { plain "jdk/internal/util/ArraysSupport" (some 0) with
  accessFlags := 33
  interfaces := #[]
  cf := some (fileOf pool15 21 #[] #[{ accessFlags := 2, nameIndex := 9, descriptorIndex := 19, attributes := #[] }] 33 16 #[] #[{ accessFlags := 24, nameIndex := 28, descriptorIndex := 29, attributes := #[] }, { accessFlags := 26, nameIndex := 38, descriptorIndex := 39, attributes := #[] }, { accessFlags := 25, nameIndex := 121, descriptorIndex := 25, attributes := #[] }, { accessFlags := 25, nameIndex := 131, descriptorIndex := 25, attributes := #[] }, { accessFlags := 25, nameIndex := 137, descriptorIndex := 25, attributes := #[] }, { accessFlags := 25, nameIndex := 143, descriptorIndex := 25, attributes := #[] }, { accessFlags := 25, nameIndex := 53, descriptorIndex := 25, attributes := #[] }, { accessFlags := 25, nameIndex := 24, descriptorIndex := 25, attributes := #[] }, { accessFlags := 25, nameIndex := 162, descriptorIndex := 25, attributes := #[] }, { accessFlags := 25, nameIndex := 187, descriptorIndex := 25, attributes := #[] }, { accessFlags := 26, nameIndex := 48, descriptorIndex := 25, attributes := #[] }, { accessFlags := 25, nameIndex := 277, descriptorIndex := 25, attributes := #[] }, { accessFlags := 25, nameIndex := 280, descriptorIndex := 25, attributes := #[] }, { accessFlags := 25, nameIndex := 282, descriptorIndex := 25, attributes := #[] }, { accessFlags := 25, nameIndex := 284, descriptorIndex := 25, attributes := #[] }, { accessFlags := 25, nameIndex := 286, descriptorIndex := 25, attributes := #[] }, { accessFlags := 25, nameIndex := 288, descriptorIndex := 25, attributes := #[] }, { accessFlags := 25, nameIndex := 290, descriptorIndex := 25, attributes := #[] }, { accessFlags := 25, nameIndex := 292, descriptorIndex := 25, attributes := #[] }, { accessFlags := 26, nameIndex := 108, descriptorIndex := 109, attributes := #[] }, { accessFlags := 25, nameIndex := 294, descriptorIndex := 25, attributes := #[] }])
  fields := #[{ name := "U", type := (.object "jdk/internal/misc/Unsafe"), accessFlags := 24, slot := 0, constantValue := 0 }, { name := "BIG_ENDIAN", type := .boolean, accessFlags := 26, slot := 1, constantValue := 0 }, { name := "LOG2_ARRAY_BOOLEAN_INDEX_SCALE", type := .int, accessFlags := 25, slot := 2, constantValue := 0 }, { name := "LOG2_ARRAY_BYTE_INDEX_SCALE", type := .int, accessFlags := 25, slot := 3, constantValue := 0 }, { name := "LOG2_ARRAY_CHAR_INDEX_SCALE", type := .int, accessFlags := 25, slot := 4, constantValue := 0 }, { name := "LOG2_ARRAY_SHORT_INDEX_SCALE", type := .int, accessFlags := 25, slot := 5, constantValue := 0 }, { name := "LOG2_ARRAY_INT_INDEX_SCALE", type := .int, accessFlags := 25, slot := 6, constantValue := 0 }, { name := "LOG2_ARRAY_LONG_INDEX_SCALE", type := .int, accessFlags := 25, slot := 7, constantValue := 0 }, { name := "LOG2_ARRAY_FLOAT_INDEX_SCALE", type := .int, accessFlags := 25, slot := 8, constantValue := 0 }, { name := "LOG2_ARRAY_DOUBLE_INDEX_SCALE", type := .int, accessFlags := 25, slot := 9, constantValue := 0 }, { name := "LOG2_BYTE_BIT_SIZE", type := .int, accessFlags := 26, slot := 10, constantValue := 0 }, { name := "T_BOOLEAN", type := .int, accessFlags := 25, slot := 11, constantValue := 0 }, { name := "T_CHAR", type := .int, accessFlags := 25, slot := 12, constantValue := 0 }, { name := "T_FLOAT", type := .int, accessFlags := 25, slot := 13, constantValue := 0 }, { name := "T_DOUBLE", type := .int, accessFlags := 25, slot := 14, constantValue := 0 }, { name := "T_BYTE", type := .int, accessFlags := 25, slot := 15, constantValue := 0 }, { name := "T_SHORT", type := .int, accessFlags := 25, slot := 16, constantValue := 0 }, { name := "T_INT", type := .int, accessFlags := 25, slot := 17, constantValue := 0 }, { name := "T_LONG", type := .int, accessFlags := 25, slot := 18, constantValue := 0 }, { name := "JLA", type := (.object "jdk/internal/access/JavaLangAccess"), accessFlags := 26, slot := 19, constantValue := 0 }, { name := "SOFT_MAX_ARRAY_LENGTH", type := .int, accessFlags := 25, slot := 20, constantValue := 0 }]
  methods := #[k15m0]
  instanceTypes := #[]
  staticTypes := #[(.object "jdk/internal/misc/Unsafe"), .boolean, .int, .int, .int, .int, .int, .int, .int, .int, .int, .int, .int, .int, .int, .int, .int, .int, .int, (.object "jdk/internal/access/JavaLangAccess"), .int]
  resolved := Array.replicate 378 none
  statics := none }

def pool16 : Array CpInfo := pool [(1, u "java/lang/Cloneable"), (0, .class_ 1), (0, u "java/lang/Object"), (0, .class_ 3)] 3

/-- java/lang/Cloneable -/
def k16 : Class := { plain "java/lang/Cloneable" (some 0) with
  accessFlags := 1537
  interfaces := #[]
  cf := some (fileOf pool16 2 #[] #[] 1537 4 #[] #[])
  fields := #[]
  methods := #[]
  instanceTypes := #[]
  staticTypes := #[]
  resolved := Array.replicate 8 none
  statics := none }

/-- the primitive byte -/
def k17 : Class := { plain "byte" none with kind := .primitive 'B', accessFlags := 0x411 }
/-- [B -/
def k18 : Class := { plain "[B" (some 0) with kind := .array 17 .byte, interfaces := #[16, 4], accessFlags := 1041 }

/-- the primitive char -/
def k19 : Class := { plain "char" none with kind := .primitive 'C', accessFlags := 0x411 }
/-- [C -/
def k20 : Class := { plain "[C" (some 0) with kind := .array 19 .char, interfaces := #[16, 4], accessFlags := 1041 }

/-- the primitive int -/
def k21 : Class := { plain "int" none with kind := .primitive 'I', accessFlags := 0x411 }
/-- [I -/
def k22 : Class := { plain "[I" (some 0) with kind := .array 21 .int, interfaces := #[16, 4], accessFlags := 1041 }

def heap : Heap := #[{ cls := 6, slots := #[.ref 3, .ref 4, .ref 5, .ref 6, .ref 7, .null], vm := .statics 6 },
  { cls := 9, slots := #[.long 0, .int 1, .null, .int 0, .null, .int 0, .int 0], vm := .statics 9 },
  { cls := 14, slots := #[.null, .null, .null], vm := .statics 14 },
  { cls := 6, slots := #[.null, .int 0, .int 0, .null], vm := .none },
  { cls := 6, slots := #[.null, .int 1, .int 0, .null], vm := .none },
  { cls := 6, slots := #[.null, .int 2, .int 0, .null], vm := .none },
  { cls := 6, slots := #[.null, .int 3, .int 0, .null], vm := .none },
  { cls := 6, slots := #[.null, .int 4, .int 0, .null], vm := .none }]
def classes : Array Class := #[k0, k1, k2, k3, k4, k5, k6, k7, k8, k9, k10, k11, k12, k13, k14, k15, k16, k17, k18, k19, k20, k21, k22]
def interned : List (Array UInt16 × Addr) := []
def slotsUsed : Nat := 36
def theMethod : MethodId := ⟨1, 3⟩
def args0 : Array Value := #[.int 5, .int 7, .int 9, .int 11]
def aboutOver (below : List Frame) : State where
  vm := { classes := classes, interned := interned.toArray }
  heap := heap
  slotsUsed := slotsUsed
  threads := #[{ frames := .invoking theMethod args0 :: below }]
def below0 : List Frame := [.native { method := ⟨0, 0⟩, args := #[] }]
def about1 : State := aboutOver below0
def p0 : Program := .bare "" "" ""
def e0 : Env := launch0.env 0 0 0
theorem w_frames : about1.frames = Frame.invoking theMethod args0 :: below0 := rfl
set_option maxRecDepth 65536 in
theorem w_args : argsFit about1.vm theMethod args0 = true := by decide +kernel
set_option maxRecDepth 65536 in
theorem w_heap : heapFits about1 = true := by decide +kernel
set_option maxRecDepth 65536 in
theorem w_runnable : about1.curStatus? = some .runnable := by decide +kernel
set_option maxRecDepth 65536 in
theorem w_alone : about1.alone = true := by decide +kernel
set_option maxRecDepth 65536 in
theorem w_named : about1.methodNamed? x = some theMethod := by decide +kernel
set_option maxRecDepth 65536 in
theorem w_hears : about1.hears theMethod below0 = true := by decide +kernel
set_option maxRecDepth 65536 in
theorem w_ripe : about1.ripe theMethod args0 below0 = true := by decide +kernel
theorem w_running : about1.status = .running := rfl
set_option maxRecDepth 65536 in
theorem w_room : about1.hasRoom e0.platform room_1 = true :=
  launch0.hasRoom_least _ room_1 (by decide +kernel) (by decide +kernel) (by decide +kernel) (by decide +kernel) (by decide +kernel) (by decide +kernel)
theorem allAtoms_all (ts : List Jvm.Cond) (a : Array Jvm.Value) (st : Jvm.State) : (allAtoms ts).before a st = ts.all (fun c => c.before a st) := by
  induction ts with
  | nil => rfl
  | cons c t ih =>
    show (Jvm.Cond.and c (allAtoms t)).before a st = _
    rw [Jvm.Cond.before_and, ih, List.all_cons]
def words1 : List Jvm.Cond := Jvm.Cond.code x code maxLocals ret :: tables_1
/-- a 'code' word, met by the world's own term for the bytes: nothing is compared byte by byte -/
theorem code_word {y : MethodName} {bytes : ByteArray} {mx : Nat} {rt : Option FieldType} {a : Array Value} {s : State} {m : MethodId} {meth : Method} {c : Code} (h1 : s.methodNamed? y = some m) (h2 : s.vm.method? m = some meth) (h3 : meth.code = some c) (h4 : c.code = bytes)
    (h5 : (c.maxLocals == mx && c.exceptionTable.isEmpty && decide (c.maxStack ≤ mostOperands) && decide (meth.sig.returnType = rt) && !meth.locks && decide (parseMethodDescriptor y.desc = some meth.sig)) = true) : (Jvm.Cond.code y bytes mx rt).before a s = true := by
  simp only [Bool.and_eq_true, beq_iff_eq, Bool.not_eq_true', decide_eq_true_eq] at h5
  obtain ⟨⟨⟨⟨⟨g1, g2⟩, g3⟩, g4⟩, g5⟩, g6⟩ := h5
  simp [Cond.before, Cond.holds, Cond.value, h1, h2, h3, h4, g1, g2, g3, g4, g5, g6]
def isCode : Jvm.Cond → Bool
  | .code _ _ _ _ => true
  | _ => false
theorem all_split {L : List Jvm.Cond} {P : Jvm.Cond → Bool} (h1 : L.all (fun c => isCode c || P c) = true) (h2 : ∀ c ∈ L.filter isCode, P c = true) : L.all P = true := by
  refine List.all_eq_true.mpr fun c hc => ?_
  have h := List.all_eq_true.mp h1 c hc
  rcases Bool.eq_false_or_eq_true (isCode c) with hi | hi
  · exact h2 c (List.mem_filter.mpr ⟨hc, hi⟩)
  · simpa [hi] using h
set_option maxRecDepth 65536 in
theorem w_c0 : (Jvm.Cond.code x code maxLocals ret).before args0 about1 = true := code_word (m := ⟨1, 3⟩) (meth := k1m3) (c := k1c3) (by decide +kernel) rfl rfl rfl (by decide +kernel)
set_option maxRecDepth 65536 in
theorem w_c1 : (Jvm.Cond.code ({ cls := "com/example/nodewell/nodewell/store/ConditionIsNumericPinLaw", name := "pick", desc := "(I)Lcom/example/nodewell/nodewell/store/ValueTest$Comparison;" } : Jvm.MethodName) method_2_code (2 : Nat) (Option.some (Jvm.ClassFile.FieldType.object "com/example/nodewell/nodewell/store/ValueTest$Comparison"))).before args0 about1 = true := code_word (m := ⟨1, 1⟩) (meth := k1m1) (c := k1c1) (by decide +kernel) rfl rfl rfl (by decide +kernel)
set_option maxRecDepth 65536 in
theorem w_c2 : (Jvm.Cond.code ({ cls := "com/example/nodewell/nodewell/store/ConditionIsNumericPinLaw", name := "draw", desc := "(II)Ljava/lang/String;" } : Jvm.MethodName) method_3_code (5 : Nat) (Option.some (Jvm.ClassFile.FieldType.object "java/lang/String"))).before args0 about1 = true := code_word (m := ⟨1, 2⟩) (meth := k1m2) (c := k1c2) (by decide +kernel) rfl rfl rfl (by decide +kernel)
set_option maxRecDepth 65536 in
theorem w_c3 : (Jvm.Cond.code ({ cls := "java/lang/String", name := "<init>", desc := "([C)V" } : Jvm.MethodName) jdk_42_method_3_code (2 : Nat) (Option.none : Option Jvm.ClassFile.FieldType)).before args0 about1 = true := code_word (m := ⟨9, 1⟩) (meth := k9m1) (c := k9c1) (by decide +kernel) rfl rfl rfl (by decide +kernel)
set_option maxRecDepth 65536 in
theorem w_c4 : (Jvm.Cond.code ({ cls := "java/lang/String", name := "<init>", desc := "([CIILjava/lang/Void;)V" } : Jvm.MethodName) jdk_42_method_149_code (6 : Nat) (Option.none : Option Jvm.ClassFile.FieldType)).before args0 about1 = true := code_word (m := ⟨9, 2⟩) (meth := k9m2) (c := k9c2) (by decide +kernel) rfl rfl rfl (by decide +kernel)
set_option maxRecDepth 65536 in
theorem w_c5 : (Jvm.Cond.code ({ cls := "java/lang/Object", name := "<init>", desc := "()V" } : Jvm.MethodName) object_method_1_code (1 : Nat) (Option.none : Option Jvm.ClassFile.FieldType)).before args0 about1 = true := code_word (m := ⟨0, 0⟩) (meth := k0m0) (c := k0c0) (by decide +kernel) rfl rfl rfl (by decide +kernel)
set_option maxRecDepth 65536 in
theorem w_c6 : (Jvm.Cond.code ({ cls := "java/lang/StringUTF16", name := "compress", desc := "([CII)[B" } : Jvm.MethodName) jdk_52_method_16_code (6 : Nat) (Option.some (Jvm.ClassFile.FieldType.array Jvm.ClassFile.FieldType.byte))).before args0 about1 = true := code_word (m := ⟨10, 2⟩) (meth := k10m2) (c := k10c2) (by decide +kernel) rfl rfl rfl (by decide +kernel)
set_option maxRecDepth 65536 in
theorem w_c7 : (Jvm.Cond.code ({ cls := "java/lang/StringUTF16", name := "compress", desc := "([CI[BII)I" } : Jvm.MethodName) jdk_52_method_21_code (7 : Nat) (Option.some Jvm.ClassFile.FieldType.int)).before args0 about1 = true := code_word (m := ⟨10, 3⟩) (meth := k10m3) (c := k10c3) (by decide +kernel) rfl rfl rfl (by decide +kernel)
set_option maxRecDepth 65536 in
theorem w_c8 : (Jvm.Cond.code ({ cls := "java/lang/StringUTF16", name := "coderFromArrayLen", desc := "([BI)B" } : Jvm.MethodName) jdk_52_method_15_code (2 : Nat) (Option.some Jvm.ClassFile.FieldType.byte)).before args0 about1 = true := code_word (m := ⟨10, 1⟩) (meth := k10m1) (c := k10c1) (by decide +kernel) rfl rfl rfl (by decide +kernel)
set_option maxRecDepth 65536 in
theorem w_c9 : (Jvm.Cond.code ({ cls := "com/example/nodewell/nodewell/store/ValueTest$Condition", name := "<init>", desc := "(Lcom/example/nodewell/nodewell/store/ValueTest$Comparison;Ljava/lang/String;D)V" } : Jvm.MethodName) prog_114_method_1_code (5 : Nat) (Option.none : Option Jvm.ClassFile.FieldType)).before args0 about1 = true := code_word (m := ⟨12, 0⟩) (meth := k12m0) (c := k12c0) (by decide +kernel) rfl rfl rfl (by decide +kernel)
set_option maxRecDepth 65536 in
theorem w_c10 : (Jvm.Cond.code ({ cls := "java/lang/Record", name := "<init>", desc := "()V" } : Jvm.MethodName) jdk_30_method_1_code (1 : Nat) (Option.none : Option Jvm.ClassFile.FieldType)).before args0 about1 = true := code_word (m := ⟨11, 0⟩) (meth := k11m0) (c := k11c0) (by decide +kernel) rfl rfl rfl (by decide +kernel)
set_option maxRecDepth 65536 in
theorem w_c11 : (Jvm.Cond.code ({ cls := "com/example/nodewell/nodewell/store/ValueTest$Condition", name := "of", desc := "(Lcom/example/nodewell/nodewell/store/ValueTest$Comparison;Ljava/lang/String;)Lcom/example/nodewell/nodewell/store/ValueTest$Condition;" } : Jvm.MethodName) prog_114_method_2_code (2 : Nat) (Option.some (Jvm.ClassFile.FieldType.object "com/example/nodewell/nodewell/store/ValueTest$Condition"))).before args0 about1 = true := code_word (m := ⟨12, 1⟩) (meth := k12m1) (c := k12c1) (by decide +kernel) rfl rfl rfl (by decide +kernel)
set_option maxRecDepth 65536 in
theorem w_c12 : (Jvm.Cond.code ({ cls := "com/example/nodewell/nodewell/store/ValueTest$Condition", name := "of", desc := "(Lcom/example/nodewell/nodewell/store/ValueTest$Comparison;D)Lcom/example/nodewell/nodewell/store/ValueTest$Condition;" } : Jvm.MethodName) prog_114_method_3_code (3 : Nat) (Option.some (Jvm.ClassFile.FieldType.object "com/example/nodewell/nodewell/store/ValueTest$Condition"))).before args0 about1 = true := code_word (m := ⟨12, 2⟩) (meth := k12m2) (c := k12c2) (by decide +kernel) rfl rfl rfl (by decide +kernel)
set_option maxRecDepth 65536 in
theorem w_c13 : (Jvm.Cond.code ({ cls := "com/example/nodewell/nodewell/store/ValueTest$Condition", name := "isNumeric", desc := "()Z" } : Jvm.MethodName) prog_114_method_4_code (1 : Nat) (Option.some Jvm.ClassFile.FieldType.boolean)).before args0 about1 = true := code_word (m := ⟨12, 3⟩) (meth := k12m3) (c := k12c3) (by decide +kernel) rfl rfl rfl (by decide +kernel)
def codes1 : List Jvm.Cond := [Jvm.Cond.code x code maxLocals ret, Jvm.Cond.code ({ cls := "com/example/nodewell/nodewell/store/ConditionIsNumericPinLaw", name := "pick", desc := "(I)Lcom/example/nodewell/nodewell/store/ValueTest$Comparison;" } : Jvm.MethodName) method_2_code (2 : Nat) (Option.some (Jvm.ClassFile.FieldType.object "com/example/nodewell/nodewell/store/ValueTest$Comparison")), Jvm.Cond.code ({ cls := "com/example/nodewell/nodewell/store/ConditionIsNumericPinLaw", name := "draw", desc := "(II)Ljava/lang/String;" } : Jvm.MethodName) method_3_code (5 : Nat) (Option.some (Jvm.ClassFile.FieldType.object "java/lang/String")), Jvm.Cond.code ({ cls := "java/lang/String", name := "<init>", desc := "([C)V" } : Jvm.MethodName) jdk_42_method_3_code (2 : Nat) (Option.none : Option Jvm.ClassFile.FieldType), Jvm.Cond.code ({ cls := "java/lang/String", name := "<init>", desc := "([CIILjava/lang/Void;)V" } : Jvm.MethodName) jdk_42_method_149_code (6 : Nat) (Option.none : Option Jvm.ClassFile.FieldType), Jvm.Cond.code ({ cls := "java/lang/Object", name := "<init>", desc := "()V" } : Jvm.MethodName) object_method_1_code (1 : Nat) (Option.none : Option Jvm.ClassFile.FieldType), Jvm.Cond.code ({ cls := "java/lang/StringUTF16", name := "compress", desc := "([CII)[B" } : Jvm.MethodName) jdk_52_method_16_code (6 : Nat) (Option.some (Jvm.ClassFile.FieldType.array Jvm.ClassFile.FieldType.byte)), Jvm.Cond.code ({ cls := "java/lang/StringUTF16", name := "compress", desc := "([CI[BII)I" } : Jvm.MethodName) jdk_52_method_21_code (7 : Nat) (Option.some Jvm.ClassFile.FieldType.int), Jvm.Cond.code ({ cls := "java/lang/StringUTF16", name := "coderFromArrayLen", desc := "([BI)B" } : Jvm.MethodName) jdk_52_method_15_code (2 : Nat) (Option.some Jvm.ClassFile.FieldType.byte), Jvm.Cond.code ({ cls := "com/example/nodewell/nodewell/store/ValueTest$Condition", name := "<init>", desc := "(Lcom/example/nodewell/nodewell/store/ValueTest$Comparison;Ljava/lang/String;D)V" } : Jvm.MethodName) prog_114_method_1_code (5 : Nat) (Option.none : Option Jvm.ClassFile.FieldType), Jvm.Cond.code ({ cls := "java/lang/Record", name := "<init>", desc := "()V" } : Jvm.MethodName) jdk_30_method_1_code (1 : Nat) (Option.none : Option Jvm.ClassFile.FieldType), Jvm.Cond.code ({ cls := "com/example/nodewell/nodewell/store/ValueTest$Condition", name := "of", desc := "(Lcom/example/nodewell/nodewell/store/ValueTest$Comparison;Ljava/lang/String;)Lcom/example/nodewell/nodewell/store/ValueTest$Condition;" } : Jvm.MethodName) prog_114_method_2_code (2 : Nat) (Option.some (Jvm.ClassFile.FieldType.object "com/example/nodewell/nodewell/store/ValueTest$Condition")), Jvm.Cond.code ({ cls := "com/example/nodewell/nodewell/store/ValueTest$Condition", name := "of", desc := "(Lcom/example/nodewell/nodewell/store/ValueTest$Comparison;D)Lcom/example/nodewell/nodewell/store/ValueTest$Condition;" } : Jvm.MethodName) prog_114_method_3_code (3 : Nat) (Option.some (Jvm.ClassFile.FieldType.object "com/example/nodewell/nodewell/store/ValueTest$Condition")), Jvm.Cond.code ({ cls := "com/example/nodewell/nodewell/store/ValueTest$Condition", name := "isNumeric", desc := "()Z" } : Jvm.MethodName) prog_114_method_4_code (1 : Nat) (Option.some Jvm.ClassFile.FieldType.boolean)]
set_option maxRecDepth 65536 in
theorem codes_eq : words1.filter isCode = codes1 := rfl
theorem w_codes : ∀ c ∈ words1.filter isCode, c.before args0 about1 = true := by
  rw [codes_eq]
  intro c hc
  simp only [codes1, List.mem_cons, List.not_mem_nil, or_false] at hc
  rcases hc with rfl | rfl | rfl | rfl | rfl | rfl | rfl | rfl | rfl | rfl | rfl | rfl | rfl | rfl
  · exact w_c0
  · exact w_c1
  · exact w_c2
  · exact w_c3
  · exact w_c4
  · exact w_c5
  · exact w_c6
  · exact w_c7
  · exact w_c8
  · exact w_c9
  · exact w_c10
  · exact w_c11
  · exact w_c12
  · exact w_c13
set_option maxRecDepth 65536 in
theorem w_t1 : (words1.take 24).all (fun c => isCode c || c.before args0 about1) = true := by decide +kernel
set_option maxRecDepth 65536 in
theorem w_t2 : ((words1.drop 24).take 24).all (fun c => isCode c || c.before args0 about1) = true := by decide +kernel
set_option maxRecDepth 65536 in
theorem w_t3 : (((words1.drop 24).drop 24).take 24).all (fun c => isCode c || c.before args0 about1) = true := by decide +kernel
set_option maxRecDepth 65536 in
theorem w_t4 : (((words1.drop 24).drop 24).drop 24).all (fun c => isCode c || c.before args0 about1) = true := by decide +kernel
theorem w_tables : (allAtoms (Jvm.Cond.code x code maxLocals ret :: tables_1)).before args0 about1 = true := by
  rw [allAtoms_all]
  show words1.all (fun c => c.before args0 about1) = true
  refine all_split ?_ w_codes
  rw [← List.take_append_drop 24 words1, List.all_append, w_t1, ← List.take_append_drop 24 (words1.drop 24), List.all_append, w_t2, ← List.take_append_drop 24 ((words1.drop 24).drop 24), List.all_append, w_t3, w_t4]
  rfl
set_option maxRecDepth 65536 in
theorem w_rest : rest_1_c.before args0 about1 = true := by decide +kernel
set_option maxRecDepth 65536 in
theorem w_case : (Jvm.Cond.and given_1 narrow_1).before args0 about1 = true := by decide +kernel
set_option maxRecDepth 65536 in
theorem w_consts : constsHeld consts_1 about1 := Jvm.Lit.constsHeldB_iff.mp (by decide +kernel)
theorem w_applies : (headSpec (Jvm.Cond.code x code maxLocals ret :: tables_1) room_1).applies x e0.platform about1 = true :=
  (Spec.applies_iff w_frames).mpr ⟨w_running, w_runnable, w_alone, w_named, w_hears, w_ripe, w_room, w_tables⟩
theorem atStart : AtStart classFile x code maxLocals ret World_1 tables_1 room_1 Calls_1 rest_1 Pre_1 launch0 p0 e0 about1 theMethod args0 below0 :=
  ⟨lists_1, trivial, launch0.admits_env _ _ _, launch0.least_env, fairChoices_fair.cas, fairChoices_fair.clock, w_frames, w_args, w_heap, w_applies, ⟨w_consts, trivial⟩, w_rest, w_case⟩
end start1
theorem witness_1 : WitnessClaimed_1 := ⟨start1.p0, start1.e0, start1.about1, start1.theMethod, start1.args0, start1.below0, start1.atStart⟩
end Jvm.Pilot.@@N@@
